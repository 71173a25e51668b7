import PyProof.Rows.All
import Wide.All
import OpenK.AllK
import Wide.FinOn
import Lean
import PySem.Challenge.RW_tl0043_01
set_option Elab.async false
set_option compiler.extract_closed false
section
open PySem PySem.W PyProof.Rows PySem.Calls
set_option maxRecDepth 100000
set_option maxHeartbeats 0
namespace Mine
/-- one step of a tree that calls nothing -/
noncomputable def tstep {α : Type} (n₀ : Nat) (ann : Option Value) (prog : Program) (w : World) : Sem α → Shared → Pos → Option (Sem α × Shared × Pos)
  | .rule _ k, s, p => some (k (), s, p)
  | .at q k, s, _ => some (k (), s, q)
  | .load a _ k, s, p => match s.heap.get? a with | some o => some (k o, s, p) | none => none
  | .update a _ f k, s, p => match (Nat.ble n₀ a || a == mainNs || a == cStatics || ann == some (.ref a)) with
    | true => match (s.heap.get? a).isSome with
      | true => some (k (), { s with heap := s.heap.update a f }, p)
      | false => none
    | false => none
  | .alloc o k, s, p => some (k s.heap.objs.size, { s with heap := s.heap.push o }, p)
  | .loadIfAlive a k, s, p => some (k (s.heap.get? a), s, p)
  | .point _ k, s, p => some (k (), s, p)
  | .fresh k, s, p => some (k s.toks, { s with toks := s.toks + 1 }, p)
  | .ask k, s, p => some (k ⟨prog, w.params⟩, s, p)
  | _, _, _ => none
/-- so many steps -/
noncomputable def titer {α : Type} (n₀ : Nat) (ann : Option Value) (prog : Program) (w : World) : Nat → Sem α → Shared → Pos → Option (Sem α × Shared × Pos)
  | 0, x, s, p => some (x, s, p)
  | n + 1, x, s, p => match tstep n₀ ann prog w x s p with
    | some (x', s', p') => titer n₀ ann prog w n x' s' p'
    | none => none
section
variable {α β : Type} {n₀ : Nat} {ann : Option Value} {prog : Program} {w : World}
theorem tstep_wrap {K : α → Sem β} {H : Value → Sem β} {gd lv} {x y : Sem α} {s s' : Shared} {p p' : Pos} (h : tstep n₀ ann prog w x s p = some (y, s', p')) :
    tstep n₀ ann prog w (x.wrap K H gd lv) s p = some (y.wrap K H gd lv, s', p') := by
  cases x with
  | rule | «at» | alloc | loadIfAlive | point | fresh | ask => simp only [tstep, Option.some.injEq, Prod.mk.injEq] at h; obtain ⟨rfl, rfl, rfl⟩ := h; rfl
  | load a q k =>
    simp only [tstep] at h
    cases e : s.heap.get? a with
    | none => rw [e] at h; cases h
    | some o =>
      rw [e] at h
      simp only [Option.some.injEq, Prod.mk.injEq] at h; obtain ⟨rfl, rfl, rfl⟩ := h
      simp only [Sem.wrap, tstep, e]
  | update a q f k =>
    simp only [tstep] at h
    cases e : (Nat.ble n₀ a || a == mainNs || a == cStatics || ann == some (.ref a)) with
    | false => rw [e] at h; cases h
    | true =>
      rw [e] at h
      cases e2 : (s.heap.get? a).isSome with
      | false => rw [e2] at h; cases h
      | true =>
        rw [e2] at h
        simp only [Option.some.injEq, Prod.mk.injEq] at h; obtain ⟨rfl, rfl, rfl⟩ := h
        simp only [Sem.wrap, tstep, e, e2]
  | _ => cases h
theorem titer_wrap {K : α → Sem β} {H : Value → Sem β} {gd lv} : ∀ {n : Nat} {x y : Sem α} {s s' : Shared} {p p' : Pos}, titer n₀ ann prog w n x s p = some (y, s', p') →
    titer n₀ ann prog w n (x.wrap K H gd lv) s p = some (y.wrap K H gd lv, s', p')
  | 0, x, y, s, s', p, p', h => by
    simp only [titer, Option.some.injEq, Prod.mk.injEq] at h ⊢; obtain ⟨rfl, rfl, rfl⟩ := h; exact ⟨rfl, rfl, rfl⟩
  | n + 1, x, y, s, s', p, p', h => by
    unfold titer at h ⊢
    cases e : tstep n₀ ann prog w x s p with
    | none => rw [e] at h; cases h
    | some r =>
      obtain ⟨x', s₁, p₁⟩ := r
      rw [e] at h
      rw [tstep_wrap e]
      exact titer_wrap h
theorem titer_add : ∀ {n m : Nat} {x y : Sem α} {s s' : Shared} {p p' : Pos} {r}, titer n₀ ann prog w n x s p = some (y, s', p') → titer n₀ ann prog w m y s' p' = r → titer n₀ ann prog w (n + m) x s p = r
  | 0, m, x, y, s, s', p, p', r, h, k => by
    simp only [titer, Option.some.injEq, Prod.mk.injEq] at h; obtain ⟨rfl, rfl, rfl⟩ := h
    rw [Nat.zero_add]; exact k
  | n + 1, m, x, y, s, s', p, p', r, h, k => by
    rw [show n + 1 + m = (n + m) + 1 by omega]
    unfold titer at h ⊢
    cases e : tstep n₀ ann prog w x s p with
    | none => rw [e] at h; cases h
    | some r' =>
      obtain ⟨x', s₁, p₁⟩ := r'
      rw [e] at h
      exact titer_add h k
/-- a step of the tree is a step of the thread -/
theorem tstep_step {den : Code → Sem Fin} {x y : Sem Fin} {s s' : Shared} {p p' : Pos} {c : Code} {B : List Frame} (h : tstep n₀ ann prog w x s p = some (y, s', p')) :
    stepOk n₀ ann ⟨x, c, p, B⟩ = true ∧ step den prog w s ⟨x, c, p, B⟩ = .go s' ⟨y, c, p', B⟩ ∧ ∀ b, endAt b ⟨x, c, p, B⟩ = none := by
  obtain ⟨heap, gens, drawn, toks, os⟩ := s
  cases x with
  | rule | «at» | alloc | loadIfAlive | point | fresh | ask => simp only [tstep, Option.some.injEq, Prod.mk.injEq] at h; obtain ⟨rfl, rfl, rfl⟩ := h; exact ⟨rfl, rfl, fun b => by unfold endAt; split <;> first | rfl | (rename_i h1; cases h1)⟩
  | load a q k =>
    simp only [tstep] at h
    cases e : heap.get? a with
    | none => rw [e] at h; cases h
    | some o =>
      rw [e] at h
      simp only [Option.some.injEq, Prod.mk.injEq] at h; obtain ⟨rfl, rfl, rfl⟩ := h
      exact ⟨rfl, by simp only [step, e], fun b => by unfold endAt; split <;> first | rfl | (rename_i h1; cases h1)⟩
  | update a q f k =>
    simp only [tstep] at h
    cases e : (Nat.ble n₀ a || a == mainNs || a == cStatics || ann == some (.ref a)) with
    | false => rw [e] at h; cases h
    | true =>
      rw [e] at h
      cases e2 : (heap.get? a).isSome with
      | false => rw [e2] at h; cases h
      | true =>
        rw [e2] at h
        simp only [Option.some.injEq, Prod.mk.injEq] at h; obtain ⟨rfl, rfl, rfl⟩ := h
        refine ⟨?_, by simp only [step, e2, if_true], fun b => by unfold endAt; split <;> first | rfl | (rename_i h1; cases h1)⟩
        show (true && (Nat.ble n₀ a || a == mainNs || a == cStatics || ann == some (.ref a))) = true
        rw [e]; rfl
  | _ => cases h
theorem wrap_id (x : Sem α) : x.wrap .pure .raise id id = x := by
  induction x <;> simp only [Sem.wrap, id, *]
/-- a tree ends, in so many steps of a thread, with a value -/
noncomputable def Ends (tb : String → Option Builtin) (n₀ : Nat) (ann : Option Value) (prog : Program) (w : World) (n : Nat) (x : Sem α) (s : Shared) (p : Pos) (a : α) (s' : Shared) (p' : Pos) : Prop :=
  ∀ (K : α → Sem Fin) (H : Value → Sem Fin) (gd : Bool → Bool) (lv : List Value → List Value) (c : Code) (B : List Frame) (b N : Nat) r, b ≤ B.length → segRun tb prog w n₀ ann b N s' ⟨K a, c, p', B⟩ = r →
    segRun tb prog w n₀ ann b (n + N) s ⟨x.wrap K H gd lv, c, p, B⟩ = r
variable {tb : String → Option Builtin}
theorem Ends.pure {a : α} {s : Shared} {p : Pos} : Ends tb n₀ ann prog w 0 (.pure a) s p a s p := fun K H gd lv c B b N r _ h => by rw [Nat.zero_add]; exact h
theorem Ends.wrap {K : α → Sem β} {H : Value → Sem β} {gd lv} {n m : Nat} {x : Sem α} {a : α} {b : β} {s s' s'' : Shared} {p p' p'' : Pos} (h : Ends tb n₀ ann prog w n x s p a s' p') (k : Ends tb n₀ ann prog w m (K a) s' p' b s'' p'') :
    Ends tb n₀ ann prog w (n + m) (x.wrap K H gd lv) s p b s'' p'' := fun K' H' gd' lv' c B b N r hb e => by
  rw [Sem.wrap_wrap, Nat.add_assoc]
  exact h _ _ _ _ c B b _ r hb (k _ _ _ _ c B b _ r hb e)
theorem Ends.bind {f : α → Sem β} {n m : Nat} {x : Sem α} {a : α} {b : β} {s s' s'' : Shared} {p p' p'' : Pos} (h : Ends tb n₀ ann prog w n x s p a s' p') (k : Ends tb n₀ ann prog w m (f a) s' p' b s'' p'') :
    Ends tb n₀ ann prog w (n + m) (x >>= f) s p b s'' p'' := by rw [Sem.bind_eq_wrap']; exact h.wrap k
theorem Ends.step {n : Nat} {x y : Sem α} {a : α} {s s' s'' : Shared} {p p' p'' : Pos} (h : tstep n₀ ann prog w x s p = some (y, s', p')) (k : Ends tb n₀ ann prog w n y s' p' a s'' p'') : Ends tb n₀ ann prog w (n + 1) x s p a s'' p'' := fun K H gd lv c B b N r hb e => by
  rw [show n + 1 + N = (n + N) + 1 by omega]
  obtain ⟨k1, k2, k3⟩ := tstep_step (den := denote tb) (c := c) (B := B) (tstep_wrap (K := K) (H := H) (gd := gd) (lv := lv) h)
  unfold segRun
  rw [k3, k1, k2]
  exact k K H gd lv c B b N r hb e
/-- a call, with its own again's -/
noncomputable def tcallW (tb : String → Option Builtin) (ev : Sem Fin → Shared → Pos → Option (Fin × Shared × Pos × Nat)) : Nat → Code → Shared → Pos → Option (Flow × Shared × Nat)
  | 0, _, _, _ => none
  | m + 1, c, s, p => match ev (denote tb c) s p with
    | some (.done f, s', _, n) => some (f, s', n + 1)
    | some (.again c', s', p', n) => match (match c' with | .builtin id _ => id.startsWith "lifetime." | _ => false) with
      | true => none
      | false => match tcallW tb ev m c' s' p' with
        | some (f, s'', n') => some (f, s'', n + (n' + 1))
        | none => none
    | none => none
/-- a tree told to its end -/
noncomputable def teval (tb : String → Option Builtin) (n₀ : Nat) (ann : Option Value) (prog : Program) (w : World) : Nat → {α : Type} → Sem α → Shared → Pos → Option (α × Shared × Pos × Nat)
  | 0, _, _, _, _ => none
  | m + 1, _, x, s, p => match x with
    | .pure a => some (a, s, p, 0)
    | .call c _ _ _ k => match tcallW tb (teval tb n₀ ann prog w m) 8 c s p with
      | some (f, s', n) => match teval tb n₀ ann prog w m (k (.ok f)) s' p with
        | some (a, s'', p'', n') => some (a, s'', p'', n + 1 + n')
        | none => none
      | none => none
    | x => match tstep n₀ ann prog w x s p with
      | some (y, s', p') => match teval tb n₀ ann prog w m y s' p' with
        | some (a, s'', p'', n') => some (a, s'', p'', n' + 1)
        | none => none
      | none => none
theorem endAt_long {b : Nat} {t : Thread} (h : b < t.stack.length) : endAt b t = none := by
  unfold endAt
  rw [show (t.stack.length == b) = false from beq_eq_false_iff_ne.mpr (Nat.ne_of_gt h)]
theorem calm_again {c : Code} {code : Code} {p : Pos} {B : List Frame} (h : (match c with | .builtin id _ => id.startsWith "lifetime." | _ => false) = false) : stepOk n₀ ann ⟨.pure (.again c), code, p, B⟩ = true := by
  have e : Thread.atCollectorCode ⟨.pure (.again c), code, p, B⟩ = false := by
    unfold Thread.atCollectorCode
    cases c <;> first | rfl | exact h
  show (((!Thread.atCollectorCode ⟨.pure (.again c), code, p, B⟩ || _) && !Thread.yieldsInsideHandler ⟨.pure (.again c), code, p, B⟩ && true) && true) = true
  rw [e]; rfl
theorem tcall_seg {ev : Sem Fin → Shared → Pos → Option (Fin × Shared × Pos × Nat)} (hev : ∀ x s p a s' p' n, ev x s p = some (a, s', p', n) → Ends tb n₀ ann prog w n x s p a s' p') :
    ∀ (m : Nat) (c : Code) (s : Shared) (p : Pos) (f : Flow) (s' : Shared) (n : Nat), tcallW tb ev m c s p = some (f, s', n) → ∀ (k : Result → Sem Fin) h g l code pc kept (B : List Frame) (b N : Nat) r, b ≤ B.length →
      segRun tb prog w n₀ ann b N s' ⟨k (.ok f), code, pc, B⟩ = r → segRun tb prog w n₀ ann b (n + N) s ⟨denote tb c, c, p, .ret k h g l code pc kept :: B⟩ = r
  | 0, _, _, _, _, _, _, h, _, _, _, _, _, _, _, _, _, _, _, _, _ => by cases h
  | m + 1, c, s, p, f, s', n, hm, k, h, g, l, code, pc, kept, B, b, N, r, hb, e => by
    unfold tcallW at hm
    cases ex : ev (denote tb c) s p with
    | none => rw [ex] at hm; cases hm
    | some q =>
      obtain ⟨a, s₁, p₁, n₁⟩ := q
      rw [ex] at hm
      have E := hev _ _ _ _ _ _ _ ex
      have hb' : b ≤ (Frame.ret k h g l code pc kept :: B).length := Nat.le_succ_of_le hb
      have hlt : b < (Frame.ret k h g l code pc kept :: B).length := Nat.lt_succ_of_le hb
      cases a with
      | done f' =>
        simp only [Option.some.injEq, Prod.mk.injEq] at hm
        obtain ⟨rfl, rfl, rfl⟩ := hm
        have := E .pure .raise id id c (.ret k h g l code pc kept :: B) b (N + 1) r hb' (by
          unfold segRun
          rw [endAt_long hlt]
          exact e)
        rw [wrap_id] at this
        rw [show n₁ + 1 + N = n₁ + (N + 1) by omega]
        exact this
      | again c' =>
        dsimp only at hm
        cases ec : (match c' with | .builtin id _ => id.startsWith "lifetime." | _ => false) with
        | true => rw [ec] at hm; cases hm
        | false =>
          rw [ec] at hm
          dsimp only at hm
          cases e2 : tcallW tb ev m c' s₁ p₁ with
          | none => rw [e2] at hm; cases hm
          | some q2 =>
            obtain ⟨f2, s2, n2⟩ := q2
            rw [e2] at hm
            simp only [Option.some.injEq, Prod.mk.injEq] at hm
            obtain ⟨rfl, rfl, rfl⟩ := hm
            have := E .pure .raise id id c (.ret k h g l code pc kept :: B) b (n2 + N + 1) r hb' (by
              unfold segRun
              rw [endAt_long hlt, calm_again ec]
              obtain ⟨heap, gens, drawn, toks, os⟩ := s₁
              rw [PySem.W.step_again]
              exact tcall_seg hev m c' _ p₁ f2 s2 n2 e2 k h g l code pc _ B b N r hb e)
            rw [wrap_id] at this
            rw [show n₁ + (n2 + 1) + N = n₁ + (n2 + N + 1) by omega]
            exact this
theorem teval_ends : ∀ (m : Nat) {α : Type} (x : Sem α) (s : Shared) (p : Pos) (a : α) (s' : Shared) (p' : Pos) (n : Nat), teval tb n₀ ann prog w m x s p = some (a, s', p', n) → Ends tb n₀ ann prog w n x s p a s' p'
  | 0, _, _, _, _, _, _, _, _, h => by cases h
  | m + 1, α, x, s, p, a, s', p', n, h => by
    unfold teval at h
    have go : ∀ {x : Sem α}, (match tstep n₀ ann prog w x s p with
      | some (y, s', p') => match teval tb n₀ ann prog w m y s' p' with
        | some (a, s'', p'', n') => some (a, s'', p'', n' + 1)
        | none => none
      | none => none) = some (a, s', p', n) → Ends tb n₀ ann prog w n x s p a s' p' := by
      intro x h
      cases e : tstep n₀ ann prog w x s p with
      | none => rw [e] at h; cases h
      | some q =>
        obtain ⟨y, s₁, p₁⟩ := q
        rw [e] at h
        dsimp only at h
        cases e2 : teval tb n₀ ann prog w m y s₁ p₁ with
        | none => rw [e2] at h; cases h
        | some q2 =>
          obtain ⟨a2, s2, p2, n2⟩ := q2
          rw [e2] at h
          simp only [Option.some.injEq, Prod.mk.injEq] at h
          obtain ⟨rfl, rfl, rfl, rfl⟩ := h
          exact Ends.step e (teval_ends m _ _ _ _ _ _ _ e2)
    cases x with
    | pure a' =>
      simp only [Option.some.injEq, Prod.mk.injEq] at h
      obtain ⟨rfl, rfl, rfl, rfl⟩ := h
      exact Ends.pure
    | call c hd g l k =>
      dsimp only at h
      cases e : tcallW tb (teval tb n₀ ann prog w m) 8 c s p with
      | none => rw [e] at h; cases h
      | some q =>
        obtain ⟨f, s₁, n₁⟩ := q
        rw [e] at h
        dsimp only at h
        cases e2 : teval tb n₀ ann prog w m (k (.ok f)) s₁ p with
        | none => rw [e2] at h; cases h
        | some q2 =>
          obtain ⟨a2, s2, p2, n2⟩ := q2
          rw [e2] at h
          simp only [Option.some.injEq, Prod.mk.injEq] at h
          obtain ⟨rfl, rfl, rfl, rfl⟩ := h
          intro K H gd lv c' B b N r hb er
          have E2 := teval_ends m _ _ _ _ _ _ _ e2 K H gd lv c' B b N r hb er
          have := fun kept => tcall_seg (fun x s p a s' p' n => teval_ends m x s p a s' p' n) 8 c s p f s₁ n₁ e (fun r => (k r).wrap K H gd lv) hd (gd g) (lv l) c' p kept B b (n2 + N) r hb E2
          rw [show n₁ + 1 + n2 + N = (n₁ + (n2 + N)) + 1 by omega]
          unfold segRun
          have z : endAt b ⟨(Sem.call c hd g l k).wrap K H gd lv, c', p, B⟩ = none := by
            unfold endAt
            simp only [Sem.wrap]
            cases (B.length == b) <;> rfl
          rw [z]
          exact this _
    | _ => exact go h
end
end Mine
end

section
open PySem PySem.W PyProof.Rows PySem.Calls
set_option maxRecDepth 100000
set_option maxHeartbeats 0
namespace Mine
noncomputable abbrev P : Program := PySem.Challenge.rw_tl0043_01.row.prog
/-- the display's loop, told apart -/
noncomputable def dForm : { fg : (Option (Sem Value) × Sem Value → Option Addr × List (Sem Value × Sem Value) → Sem (ForInStep (Option Addr × List (Sem Value × Sem Value)))) × (Option Addr × List (Sem Value × Sem Value) → Sem Value) // ∀ items, dictDisplay items = forIn items (none, []) fg.1 >>= fg.2 } := ⟨(_, _), fun _ => rfl⟩
/-- the loop over a part -/
noncomputable def forInS {α β : Type} (f : α → β → Sem (ForInStep β)) : List α → β → Sem (ForInStep β)
  | [], b => .pure (.yield b)
  | x :: xs, b => (f x b).bind fun r => match r with | .done b => .pure (.done b) | .yield b => forInS f xs b
/-- the display's keys, values, place -/
noncomputable def dParts : List (Option PySem.Expr) × List PySem.Expr × Pos := match (P.main.body[13]? : Option Stmt) with
  | some (Stmt.Assign _ (PySem.Expr.Dict ks vs p) _) => (ks, vs, p)
  | _ => ([], [], default)
noncomputable def dItems (env : Env) (i : Nat) : List (Option (Sem Value) × Sem Value) := ((evalEachOpt ((dParts.1.drop (17 * i)).take 17) env).zip ((evalEach ((dParts.2.1.drop (17 * i)).take 17) env).map fun v => do let x ← v; standAt dParts.2.2; pure x))
/-- the entries -/
noncomputable def dKV : List (Int × Str) := (dParts.1.zip dParts.2.1).filterMap fun
  | (some (.Constant (.int k) _ _), .Constant (.str s) _ _) => some (k, s)
  | _ => none
noncomputable def entsFrom : Nat → List (Int × Str) → List DictEntry
  | _, [] => []
  | t, (k, x) :: r => ⟨k, .int k t, .str x (t + 1)⟩ :: entsFrom (t + 3) r
noncomputable def entsL : List DictEntry := entsFrom 418 dKV
noncomputable def dictO (es : List DictEntry) : Obj := { cls := .type "dict", data := .dict es.toArray es.length }
noncomputable def subsL : Nat → List Obj
  | 0 => []
  | 1 => []
  | i + 2 => subsL (i + 1) ++ [dictO ((entsL.drop (17 * (i + 1))).take 17)]
noncomputable def St (x : Nat → Obj) (s : Shared) (i : Nat) : Shared := { s with heap := { s.heap with objs := ((List.range 148).map x ++ (dictO (entsL.take (17 * i)) :: subsL i)).toArray }, toks := 418 + 51 * i }
theorem chunk1 (x : Nat → Obj) (life : Life) (gens : Array GenState) (drawn : Drawn) (toks : Nat) (os : OsState) (ann : Option Value) (env : Env) : ∀ (w : World), teval treeTable 11 ann P w 2000 (forInS dForm.1.1 (dItems env 1) (some 148, [])) (St x ⟨⟨#[], life⟩, gens, drawn, toks, os⟩ 1) dParts.2.2 = some (.yield (some 148, []), St x ⟨⟨#[], life⟩, gens, drawn, toks, os⟩ 2, dParts.2.2, 330) := 
  byRow2 "special-get-raises" (fun w => by kernel_rfl) (fun w => by kernel_rfl)
end Mine
end

section
open PySem PySem.W PyProof.Rows PySem.Calls
set_option maxRecDepth 100000
set_option maxHeartbeats 0
namespace Mine
section
variable {α β : Type} {n₀ : Nat} {ann : Option Value} {prog : Program} {w : World} {tb : String → Option Builtin}
theorem Ends.load {a : Addr} {part : Option Value} {kk : Obj → Sem α} {o : Obj} {n : Nat} {s s' : Shared} {p p' : Pos} {r : α} (e : s.heap.get? a = some o) (k : Ends tb n₀ ann prog w n (kk o) s p r s' p') : Ends tb n₀ ann prog w (n + 1) (.load a part kk) s p r s' p' :=
  Ends.step (by simp only [tstep, e]) k
theorem places_none {es : List DictEntry} {h : Int} (hne : ∀ e ∈ es, e.hash ≠ h) : placesWithHash es.toArray.size (fun i => es.toArray[i]?.map (·.hash)) h = [] := by
  unfold placesWithHash
  refine List.filter_eq_nil_iff.mpr fun i hi => ?_
  simp only [List.mem_range, List.size_toArray] at hi
  simp only [List.getElem?_toArray, List.getElem?_eq_getElem hi, Option.map_some, beq_iff_eq, Option.some.injEq]
  exact hne _ (List.getElem_mem hi)
theorem find_none {d : Addr} {k : Int} {t : Tok} {es : List DictEntry} {m : Nat} {s : Shared} {p : Pos} (hd : s.heap.get? d = some { cls := .type "dict", data := .dict es.toArray m }) (hne : ∀ e ∈ es, e.hash ≠ k) :
    Ends tb n₀ ann prog w 1 (dictFind d (.int k t) k) s p none s p := by
  show Ends tb n₀ ann prog w (0 + 1) (Sem.load d _ _) s p none s p
  refine Ends.load hd ?_
  have e := places_none hne
  show Ends tb n₀ ann prog w 0 (if (Value.int k t :: (placesWithHash es.toArray.size (fun i => es.toArray[i]?.map (·.hash)) k).filterMap fun i => es.toArray[i]?.map (·.key)).all carriedByValue then _ else _) s p none s p
  rw [e]
  exact Ends.pure
theorem Ends.update {a : Addr} {part : Option Value} {f : Obj → Obj} {kk : Unit → Sem α} {o : Obj} {n : Nat} {s s' : Shared} {p p' : Pos} {r : α} (h0 : Nat.ble n₀ a = true) (e : s.heap.get? a = some o) (k : Ends tb n₀ ann prog w n (kk ()) { s with heap := s.heap.update a f } p r s' p') : Ends tb n₀ ann prog w (n + 1) (.update a part f kk) s p r s' p' :=
  Ends.step (by simp only [tstep, e, h0, Bool.true_or, Option.isSome_some]) k
theorem Ends.rule {t : String} {kk : Unit → Sem α} {n : Nat} {s s' : Shared} {p p' : Pos} {r : α} (k : Ends tb n₀ ann prog w n (kk ()) s p r s' p') : Ends tb n₀ ann prog w (n + 1) (.rule t kk) s p r s' p' := Ends.step rfl k
theorem Ends.fresh {kk : Tok → Sem α} {n : Nat} {s s' : Shared} {p p' : Pos} {r : α} (k : Ends tb n₀ ann prog w n (kk s.toks) { s with toks := s.toks + 1 } p r s' p') : Ends tb n₀ ann prog w (n + 1) (.fresh kk) s p r s' p' := Ends.step rfl k
theorem Ends.at {q : Pos} {kk : Unit → Sem α} {n : Nat} {s s' : Shared} {p p' : Pos} {r : α} (k : Ends tb n₀ ann prog w n (kk ()) s q r s' p') : Ends tb n₀ ann prog w (n + 1) (.at q kk) s p r s' p' := Ends.step rfl k
theorem Ends.alloc {o : Obj} {kk : Addr → Sem α} {n : Nat} {s s' : Shared} {p p' : Pos} {r : α} (k : Ends tb n₀ ann prog w n (kk s.heap.objs.size) { s with heap := s.heap.push o } p r s' p') : Ends tb n₀ ann prog w (n + 1) (.alloc o kk) s p r s' p' := Ends.step rfl k
theorem get_update {h : Heap} {a : Addr} {f : Obj → Obj} {o : Obj} (e : h.get? a = some o) (hf : ∀ c d s, f o ≠ ⟨c, d, .freed, s⟩) : (h.update a f).get? a = some (f o) := by
  obtain ⟨objs, l⟩ := h
  unfold Heap.get? at e ⊢
  unfold Heap.update
  dsimp only at e ⊢
  rw [Array.getElem?_modify, if_pos rfl]
  cases z : objs[a]? with
  | none => rw [z] at e; cases e
  | some o' =>
    rw [z] at e
    have : o' = o := by
      split at e
      · cases e
      · exact Option.some.inj e
    subst this
    rw [Option.map_some]
    split
    · rename_i q; exact absurd (Option.some.inj q) (hf _ _ _)
    · rfl
noncomputable def growD (d : Addr) (e : DictEntry) (s : Shared) : Shared := { s with heap := s.heap.update d (Obj.mapDictKeys (·.push e)) }
theorem keys_grow {d : Addr} {part : Option Value} {e : DictEntry} {es : List DictEntry} {m : Nat} {s : Shared} {p : Pos} (h0 : Nat.ble n₀ d = true) (hd : s.heap.get? d = some { cls := .type "dict", data := .dict es.toArray m }) (hm : es.length ≤ 1000) :
    Ends tb n₀ ann prog w 3 (updateDictKeys d (·.push e) part) s p () (growD d e s) p := by
  show Ends tb n₀ ann prog w (2 + 1) (Sem.load d part _) s p () _ p
  refine Ends.load hd ?_
  show Ends tb n₀ ann prog w (1 + 1) (Sem.update d part _ _) s p () _ p
  refine Ends.update h0 hd ?_
  show Ends tb n₀ ann prog w (0 + 1) (Sem.load d part _) _ p () _ p
  refine Ends.load (o := { cls := .type "dict", data := .dict (es ++ [e]).toArray (m + 1) }) ((get_update hd (fun c d' s' q => by cases q)).trans (by simp [Obj.mapDictKeys])) ?_
  have hz : (Data.dict (es ++ [e]).toArray (m + 1)).pastItsLine = none := if_neg (by simp only [List.size_toArray, List.length_append, List.length_singleton, sizeLine]; omega)
  simp only [Sem.bind, hz]
  exact Ends.pure
theorem put_new {d : Addr} {k : Int} {t : Tok} {v : Value} {es : List DictEntry} {m : Nat} {s : Shared} {p : Pos} (h0 : Nat.ble n₀ d = true) (hd : s.heap.get? d = some { cls := .type "dict", data := .dict es.toArray m }) (hm : es.length ≤ 1000) (hne : ∀ e ∈ es, e.hash ≠ k) :
    Ends tb n₀ ann prog w 4 (dictPut d k (.int k t) v) s p () (growD d ⟨k, .int k t, v⟩ s) p := by
  show Ends tb n₀ ann prog w (1 + 3) (dictFind d (.int k t) k >>= _) s p () _ p
  exact Ends.bind (find_none hd hne) (keys_grow h0 hd hm)
theorem set_new {d : Addr} {k : Int} {t u : Tok} {x : Str} {es : List DictEntry} {m : Nat} {s : Shared} {p : Pos} (h0 : Nat.ble n₀ d = true) (hd : s.heap.get? d = some { cls := .type "dict", data := .dict es.toArray m }) (hm : es.length ≤ 1000) (hne : ∀ e ∈ es, e.hash ≠ k) :
    Ends tb n₀ ann prog w 5 (dictSetHashed d (.int k t) k (.str x u)) s p () (growD d ⟨k, .int k t, .str x u⟩ s) p := by
  show Ends tb n₀ ann prog w (1 + 4) (dictFind d (.int k t) k >>= _) s p () _ p
  refine Ends.bind (find_none hd hne) ?_
  show Ends tb n₀ ann prog w (3 + 1) (Sem.rule _ _) s p () _ p
  exact Ends.rule (keys_grow h0 hd hm)
end
end Mine
end

section
open PySem PySem.W PyProof.Rows PySem.Calls
set_option maxRecDepth 100000
set_option maxHeartbeats 0
namespace Mine
/-- what int.__hash__ tells -/
noncomputable def hInt (x : Int) : Int := (fun h : Int => if h == -1 then -2 else h) (if x < 0 then -((x.natAbs % (2 ^ 61 - 1 : Nat) : Nat) : Int) else ((x.natAbs % (2 ^ 61 - 1 : Nat) : Nat) : Int))
theorem hash_pre (k : Int) (t : Tok) (s : Shared) (p : Pos) (ann : Option Value) (refuse : Sem Value) : ∀ w : World, teval treeTable 11 ann P w 200 (callSpecialIfBoundUnlessNone? (.int k t) "__hash__" refuse) s p = some (some (.int (hInt k) s.toks), { s with toks := s.toks + 1 }, p, 5) := 
  byRow2 "special-get-raises" (fun w => by kernel_rfl) (fun w => by kernel_rfl)
theorem hInt_small {k : Int} (h0 : 0 ≤ k) (h1 : k < 2 ^ 60) : hInt k = k := by
  unfold hInt
  rw [if_neg (by omega), Nat.mod_eq_of_lt (by omega), Int.natAbs_of_nonneg h0]
  dsimp only
  rw [if_neg (by simp; omega)]
theorem hash_int {k : Int} {t : Tok} {s : Shared} {p : Pos} {ann : Option Value} {w : World} (h0 : 0 ≤ k) (h1 : k < 2 ^ 60) : Ends treeTable 11 ann P w 5 (pyHash (.int k t)) s p k { s with toks := s.toks + 1 } p := by
  show Ends treeTable 11 ann P w (5 + 0) (callSpecialIfBoundUnlessNone? (.int k t) "__hash__" _ >>= _) s p k _ p
  refine Ends.bind (teval_ends _ _ _ _ _ _ _ _ (hash_pre k t s p ann _ w)) ?_
  show Ends treeTable 11 ann P w 0 (pyHashByItsType.reduced (hInt k)) _ p k _ p
  rw [hInt_small h0 h1]
  unfold pyHashByItsType.reduced
  rw [if_pos (by simp only [Bool.and_eq_true, decide_eq_true_eq]; omega), if_neg (by simp; omega)]
  exact Ends.pure
end Mine
end

section
open PySem PySem.W PyProof.Rows PySem.Calls
set_option maxRecDepth 100000
set_option maxHeartbeats 0
namespace Mine
/-- a state whose objects are told as three parts -/
noncomputable def at3 (B : List Obj) (o : Obj) (C : List Obj) (s : Shared) (k : Nat) : Shared := { s with heap := { s.heap with objs := (B ++ o :: C).toArray }, toks := k }
theorem at3_get {B C : List Obj} {es : List DictEntry} {s : Shared} {k : Nat} : (at3 B (dictO es) C s k).heap.get? B.length = some (dictO es) := by
  unfold at3 Heap.get?
  dsimp only
  rw [List.getElem?_toArray, List.getElem?_append_right (Nat.le_refl _), Nat.sub_self]
  rfl
theorem modify_mid {α : Type} (B C : List α) (o : α) (f : α → α) : (B ++ o :: C).modify B.length f = B ++ f o :: C := by
  induction B with
  | nil => rfl
  | cons b B ih =>
    show List.modify (b :: (B ++ o :: C)) (B.length + 1) f = b :: (B ++ f o :: C)
    rw [List.modify_succ_cons, ih]
theorem at3_grow {B C : List Obj} {es : List DictEntry} {e : DictEntry} {s : Shared} {k : Nat} : growD B.length e (at3 B (dictO es) C s k) = at3 B (dictO (es ++ [e])) C s k := by
  unfold growD at3 Heap.update
  dsimp only
  have z : Obj.mapDictKeys (·.push e) (dictO es) = dictO (es ++ [e]) := by
    unfold dictO Obj.mapDictKeys
    simp
  have y : (B ++ dictO es :: C).toArray.modify B.length (Obj.mapDictKeys (·.push e)) = (B ++ dictO (es ++ [e]) :: C).toArray := by
    apply Array.ext'
    rw [Array.toList_modify, List.toList_toArray, modify_mid, z]
  rw [y]
variable {ann : Option Value} {w : World}
/-- an entry's two trees -/
structure Pair (q : Pos) (ann : Option Value) (w : World) (x : Sem Value × Sem Value) (k : Int) (y : Str) : Prop where
  key : ∀ s, Ends treeTable 11 ann P w 1 x.1 s q (.int k s.toks) { s with toks := s.toks + 1 } q
  val : ∀ s, Ends treeTable 11 ann P w 2 x.2 s q (.str y s.toks) { s with toks := s.toks + 1 } q
theorem set_one {B C : List Obj} {es : List DictEntry} {s : Shared} {n t u : Nat} {q : Pos} {k : Int} {y : Str} (hB : Nat.ble 11 B.length = true) (hes : es.length ≤ 1000) (hne : ∀ e ∈ es, e.hash ≠ k) (h0 : 0 ≤ k) (h1 : k < 2 ^ 60) :
    Ends treeTable 11 ann P w 10 (dictSet B.length (.int k t) (.str y u)) (at3 B (dictO es) C s n) q () (at3 B (dictO (es ++ [⟨k, .int k t, .str y u⟩])) C s (n + 1)) q := by
  show Ends treeTable 11 ann P w (5 + 5) (pyHash (.int k t) >>= fun h => dictSetHashed B.length (.int k t) h (.str y u)) _ q () _ q
  refine Ends.bind (hash_int h0 h1) ?_
  have := set_new (tb := treeTable) (n₀ := 11) (ann := ann) (prog := P) (w := w) (t := t) (u := u) (x := y) (p := q) hB (at3_get (B := B) (C := C) (es := es) (s := s) (k := n + 1)) hes hne
  rw [at3_grow] at this
  exact this
end Mine
end

section
open PySem PySem.W PyProof.Rows PySem.Calls
set_option maxRecDepth 100000
set_option maxHeartbeats 0
namespace Mine
variable {ann : Option Value} {w : World}
inductive Pairs (q : Pos) (ann : Option Value) (w : World) : List (Sem Value × Sem Value) → List (Int × Str) → Prop
  | nil : Pairs q ann w [] []
  | cons {x k y xs r} : Pair q ann w x k y → Pairs q ann w xs r → Pairs q ann w (x :: xs) ((k, y) :: r)
/-- keys that are small and new -/
noncomputable def KeysOk (es : List DictEntry) : List (Int × Str) → Prop
  | [] => True
  | (k, _) :: r => 0 ≤ k ∧ k < 2 ^ 60 ∧ (∀ e ∈ es, e.hash ≠ k) ∧ (∀ p ∈ r, p.1 ≠ k) ∧ KeysOk es r
theorem KeysOk.push {es : List DictEntry} {e : DictEntry} : ∀ {r : List (Int × Str)}, KeysOk es r → (∀ p ∈ r, p.1 ≠ e.hash) → KeysOk (es ++ [e]) r
  | [], _, _ => trivial
  | (k, y) :: r, h, hn => ⟨h.1, h.2.1, fun e' he => by
      rcases List.mem_append.mp he with he | he
      · exact h.2.2.1 e' he
      · cases List.mem_singleton.mp he; exact fun q => hn (k, y) (.head _) q.symm, h.2.2.2.1, KeysOk.push h.2.2.2.2 fun p hp => hn p (.tail _ hp)⟩
theorem ents_len : ∀ (n : Nat) (r : List (Int × Str)), (entsFrom n r).length = r.length
  | _, [] => rfl
  | n, (k, y) :: r => by rw [entsFrom, List.length_cons, List.length_cons, ents_len]
theorem loop_set {B C : List Obj} {s : Shared} {q : Pos} {f : Sem Value × Sem Value → PUnit → Sem (ForInStep PUnit)}
    (hf : ∀ x k y es n, Pair q ann w x k y → es.length ≤ 1000 → (∀ e ∈ es, e.hash ≠ k) → 0 ≤ k → k < 2 ^ 60 → Ends treeTable 11 ann P w 13 (f x ⟨⟩) (at3 B (dictO es) C s n) q (.yield ⟨⟩) (at3 B (dictO (es ++ [⟨k, .int k n, .str y (n + 1)⟩])) C s (n + 3)) q) :
    ∀ (xs : List (Sem Value × Sem Value)) (r : List (Int × Str)) (es : List DictEntry) (n : Nat), Pairs q ann w xs r → KeysOk es r → es.length + r.length ≤ 1000 →
      Ends treeTable 11 ann P w (13 * r.length) (forIn xs PUnit.unit f) (at3 B (dictO es) C s n) q PUnit.unit (at3 B (dictO (es ++ entsFrom n r)) C s (n + 3 * r.length)) q
  | _, _, es, n, .nil, _, _ => by
    simp only [entsFrom, List.append_nil, List.length_nil, Nat.mul_zero, Nat.add_zero]
    exact Ends.pure
  | _, _, es, n, .cons (x := x) (k := k) (y := y) (xs := xs) (r := r) hx hr, hk, hl => by
    rw [List.forIn_cons, List.length_cons, show 13 * (r.length + 1) = 13 + 13 * r.length by omega]
    simp only [List.length_cons] at hl
    refine Ends.bind (hf x k y es n hx (by omega) hk.2.2.1 hk.1 hk.2.1) ?_
    have := loop_set hf xs r (es ++ [⟨k, .int k n, .str y (n + 1)⟩]) (n + 3) hr (KeysOk.push hk.2.2.2.2 hk.2.2.2.1) (by simp only [List.length_append, List.length_singleton]; omega)
    rw [List.append_assoc, show n + 3 + 3 * r.length = n + 3 * (r.length + 1) by omega] at this
    exact this
theorem Ends.keep {α : Type} {tb : String → Option Builtin} {n₀ : Nat} {prog : Program} {vs : List Value} {n : Nat} {x : Sem α} {a : α} {s s' : Shared} {p p' : Pos} (h : Ends tb n₀ ann prog w n x s p a s' p') : Ends tb n₀ ann prog w n (x.keep vs) s p a s' p' := by
  rw [Sem.keep_eq_wrap]
  exact (Ends.wrap h Ends.pure : Ends tb n₀ ann prog w (n + 0) _ s p a s' p')
noncomputable def at1 (B : List Obj) (s : Shared) (k : Nat) : Shared := { s with heap := { s.heap with objs := B.toArray }, toks := k }
theorem sub_long {B : List Obj} {s : Shared} {q : Pos} {n : Nat} {xs : List (Sem Value × Sem Value)} {r : List (Int × Str)} (hB : Nat.ble 11 B.length = true) (hlen : 15 < xs.length) (hx : Pairs q ann w xs r) (hk : KeysOk [] r) (hl : r.length ≤ 1000) :
    Ends treeTable 11 ann P w (13 * r.length + 2) (subDict xs) (at1 B s n) q B.length (at3 B (dictO (entsFrom n r)) [] s (n + 3 * r.length)) q := by
  show Ends treeTable 11 ann P w (13 * r.length + 1 + 1) (Sem.alloc _ _) _ q B.length _ q
  refine Ends.alloc ?_
  have e1 : ({ at1 B s n with heap := (at1 B s n).heap.push { cls := .type "dict", data := .dict #[] } } : Shared) = at3 B (dictO []) [] s n := by
    unfold at1 at3 Heap.push dictO
    simp
  rw [e1]
  have e2 : (at1 B s n).heap.objs.size = B.length := by unfold at1; simp
  rw [e2]
  show Ends treeTable 11 ann P w (13 * r.length + 1 + 0) (Sem.keep [.ref B.length] (if xs.length ≤ 15 then _ else _) >>= fun _ => Pure.pure B.length) _ q B.length _ q
  refine Ends.bind (a := ()) (Ends.keep ?_) Ends.pure
  rw [if_neg (by omega)]
  show Ends treeTable 11 ann P w (13 * r.length + 1) (Sem.rule _ _) _ q () _ q
  refine Ends.rule ?_
  show Ends treeTable 11 ann P w (13 * r.length + 0) (forIn xs PUnit.unit _ >>= fun _ => Pure.pure ()) _ q () _ q
  refine Ends.bind (a := PUnit.unit) ?_ Ends.pure
  have := loop_set (ann := ann) (w := w) (B := B) (C := []) (s := s) (q := q) (f := fun x __s => match x with | (k, v) => k >>= fun kv => holding [kv] v >>= fun vv => holding [kv, vv] (dictSet B.length kv vv) >>= fun _ => Pure.pure (ForInStep.yield PUnit.unit)) (fun x k y es n hx hes hne h0 h1 => by
    obtain ⟨a, b⟩ := x
    show Ends treeTable 11 ann P w (1 + (2 + (10 + 0))) (a >>= _) _ q _ _ q
    refine Ends.bind (hx.key _) (Ends.bind (hx.val _) (Ends.bind (a := ()) ?_ Ends.pure))
    exact set_one (C := []) (es := es) (s := s) (n := n + 2) (t := n) (u := n + 1) hB hes hne h0 h1) xs r [] n hx hk (by simpa using hl)
  exact this
end Mine
end

section
open PySem PySem.W PyProof.Rows PySem.Calls
set_option maxRecDepth 100000
set_option maxHeartbeats 0
namespace Mine
variable {ann : Option Value} {w : World}
theorem type_dict {a : Addr} {es : List DictEntry} {s : Shared} {p : Pos} (h : s.heap.get? a = some (dictO es)) : Ends treeTable 11 ann P w 1 (typeOf (.ref a)) s p (.type "dict") s p := by
  show Ends treeTable 11 ann P w (0 + 1) (Sem.load a _ _) s p _ s p
  exact Ends.load h Ends.pure
theorem subtype_dict (s : Shared) (p : Pos) : teval treeTable 11 ann P w 50 (isSubtype (.type "dict") (.type "dict")) s p = some (true, s, p, 0) := by kernel_rfl
theorem iter_dict (s : Shared) (p : Pos) : teval treeTable 11 ann P w 50 (typeLookup (.type "dict") "__iter__") s p = some (some (.builtin "dict.__iter__"), s, p, 0) := by kernel_rfl
theorem inst_dict {a : Addr} {es : List DictEntry} {s : Shared} {p : Pos} (h : s.heap.get? a = some (dictO es)) : Ends treeTable 11 ann P w 1 (isInstance (.ref a) (.type "dict")) s p true s p := by
  show Ends treeTable 11 ann P w (1 + 0) (typeOf (.ref a) >>= _) s p _ s p
  exact Ends.bind (type_dict h) (teval_ends _ _ _ _ _ _ _ _ (subtype_dict s p))
theorem special_dict {a : Addr} {es : List DictEntry} {s : Shared} {p : Pos} (h : s.heap.get? a = some (dictO es)) : Ends treeTable 11 ann P w 1 (specialOf (.ref a) "__iter__") s p (some (.builtin "dict.__iter__")) s p := by
  show Ends treeTable 11 ann P w (1 + 0) (typeOf (.ref a) >>= _) s p _ s p
  exact Ends.bind (type_dict h) (teval_ends _ _ _ _ _ _ _ _ (iter_dict s p))
theorem entries_dict {a : Addr} {es : List DictEntry} {s : Shared} {p : Pos} (h : s.heap.get? a = some (dictO es)) : Ends treeTable 11 ann P w 1 (dictEntries a) s p es.toArray s p := by
  show Ends treeTable 11 ann P w (0 + 1) (Sem.load a _ _) s p _ s p
  exact Ends.load h Ends.pure
theorem epoch_dict {a : Addr} {es : List DictEntry} {s : Shared} {p : Pos} (h : s.heap.get? a = some (dictO es)) : Ends treeTable 11 ann P w 1 (dictEpoch a) s p es.length s p := by
  show Ends treeTable 11 ann P w (0 + 1) (Sem.load a _ _) s p _ s p
  exact Ends.load h Ends.pure
/-- entries by ints -/
inductive IntE : DictEntry → Prop
  | mk (k : Int) (t : Tok) (y : Str) (u : Tok) : IntE ⟨k, .int k t, .str y u⟩
noncomputable def Apart (es : List DictEntry) : List DictEntry → Prop
  | [] => True
  | e :: r => IntE e ∧ (∀ x ∈ es, x.hash ≠ e.hash) ∧ (∀ x ∈ r, x.hash ≠ e.hash) ∧ Apart es r
theorem Apart.push {es : List DictEntry} {e : DictEntry} : ∀ {r : List DictEntry}, Apart es r → (∀ x ∈ r, x.hash ≠ e.hash) → Apart (es ++ [e]) r
  | [], _, _ => trivial
  | a :: r, h, hn => ⟨h.1, fun x hx => by
      rcases List.mem_append.mp hx with hx | hx
      · exact h.2.1 x hx
      · cases List.mem_singleton.mp hx; exact fun q => hn a (.head _) q.symm, h.2.2.1, Apart.push h.2.2.2 fun x hx => hn x (.tail _ hx)⟩
theorem at3_get2 {B C : List Obj} {o : Obj} {es : List DictEntry} {s : Shared} {k : Nat} : (at3 B o (C ++ [dictO es]) s k).heap.get? (B.length + 1 + C.length) = some (dictO es) := by
  unfold at3 Heap.get?
  dsimp only
  have e : B ++ o :: (C ++ [dictO es]) = (B ++ o :: C) ++ [dictO es] := by simp
  rw [e, List.getElem?_toArray, List.getElem?_append_right (by simp; omega)]
  have z : B.length + 1 + C.length - (B ++ o :: C).length = 0 := by simp; omega
  rw [z]
  rfl
theorem loop_merge {B C : List Obj} {s : Shared} {q : Pos} {n : Nat} {sub : List DictEntry} {f : Nat → PUnit → Sem (ForInStep PUnit)}
    (hf : ∀ i e es, sub[i]? = some e → IntE e → es.length ≤ 1000 → (∀ x ∈ es, x.hash ≠ e.hash) → Ends treeTable 11 ann P w 6 (f i ⟨⟩) (at3 B (dictO es) (C ++ [dictO sub]) s n) q (.yield ⟨⟩) (at3 B (dictO (es ++ [e])) (C ++ [dictO sub]) s n) q) :
    ∀ (rest pre es : List DictEntry), sub = pre ++ rest → Apart es rest → es.length + rest.length ≤ 1000 →
      Ends treeTable 11 ann P w (6 * rest.length) (forIn (List.range' pre.length rest.length) PUnit.unit f) (at3 B (dictO es) (C ++ [dictO sub]) s n) q PUnit.unit (at3 B (dictO (es ++ rest)) (C ++ [dictO sub]) s n) q
  | [], pre, es, _, _, _ => by
    simp only [List.append_nil, List.length_nil, Nat.mul_zero]
    exact Ends.pure
  | e :: rest, pre, es, h, ha, hl => by
    simp only [List.length_cons] at hl ⊢
    rw [List.range'_succ, List.forIn_cons, show 6 * (rest.length + 1) = 6 + 6 * rest.length by omega]
    refine Ends.bind (hf pre.length e es (by rw [h, List.getElem?_append_right (Nat.le_refl _), Nat.sub_self]; rfl) ha.1 (by omega) ha.2.1) ?_
    have := loop_merge hf rest (pre ++ [e]) (es ++ [e]) (by rw [h]; simp) (Apart.push ha.2.2.2 ha.2.2.1) (by simp only [List.length_append, List.length_singleton]; omega)
    rw [List.append_assoc, List.length_append] at this
    exact this
end Mine
end

section
open PySem PySem.W PyProof.Rows PySem.Calls
set_option maxRecDepth 100000
set_option maxHeartbeats 0
namespace Mine
variable {ann : Option Value} {w : World}
theorem merge_ok {B C : List Obj} {es sub : List DictEntry} {s : Shared} {n : Nat} {q : Pos} (hB : Nat.ble 11 B.length = true) (hs : B.length + 1 + C.length ≠ sysModules) (hes : es ≠ []) (hap : Apart es sub) (hl : es.length + sub.length ≤ 1000) :
    Ends treeTable 11 ann P w (6 * sub.length + 5) (mergeMapping B.length (.ref (B.length + 1 + C.length)) false) (at3 B (dictO es) (C ++ [dictO sub]) s n) q () (at3 B (dictO (es ++ sub)) (C ++ [dictO sub]) s n) q := by
  rw [show 6 * sub.length + 5 = 1 + (1 + (1 + (1 + (1 + (6 * sub.length + 0))))) by omega]
  show Ends treeTable 11 ann P w _ (isInstance (.ref (B.length + 1 + C.length)) (.type "dict") >>= _) _ q () _ q
  refine Ends.bind (inst_dict at3_get2) ?_
  show Ends treeTable 11 ann P w _ (specialOf (.ref (B.length + 1 + C.length)) "__iter__" >>= _) _ q () _ q
  refine Ends.bind (special_dict at3_get2) ?_
  show Ends treeTable 11 ann P w _ (if (B.length + 1 + C.length == sysModules) = true then _ else _) _ q () _ q
  rw [if_neg (by simpa using hs)]
  show Ends treeTable 11 ann P w _ (dictEntries B.length >>= _) _ q () _ q
  refine Ends.bind (entries_dict at3_get) ?_
  show Ends treeTable 11 ann P w _ (if es.toArray.isEmpty = true then _ else _) _ q () _ q
  rw [if_neg (by simpa using hes)]
  show Ends treeTable 11 ann P w _ (dictEntries (B.length + 1 + C.length) >>= _) _ q () _ q
  refine Ends.bind (entries_dict at3_get2) ?_
  show Ends treeTable 11 ann P w _ (dictEpoch (B.length + 1 + C.length) >>= _) _ q () _ q
  refine Ends.bind (epoch_dict at3_get2) ?_
  show Ends treeTable 11 ann P w _ (forIn (List.range sub.toArray.size) PUnit.unit _ >>= fun _ => Pure.pure ()) _ q () _ q
  refine Ends.bind (a := PUnit.unit) ?_ Ends.pure
  rw [List.size_toArray, List.range_eq_range']
  refine loop_merge (fun i e es' hi he hle hne => ?_) sub [] es rfl hap hl
  obtain ⟨k, t, y, u⟩ := he
  show Ends treeTable 11 ann P w (1 + (4 + (1 + 0))) (dictEntries (B.length + 1 + C.length) >>= _) _ q _ _ q
  refine Ends.bind (entries_dict at3_get2) ?_
  have hi' : sub.toArray[i]? = some ⟨k, .int k t, .str y u⟩ := by rw [List.getElem?_toArray]; exact hi
  dsimp only
  rw [hi']
  show Ends treeTable 11 ann P w (4 + (1 + 0)) (dictPut B.length k (.int k t) (.str y u) >>= _) _ q _ _ q
  have hp := put_new (tb := treeTable) (n₀ := 11) (ann := ann) (prog := P) (w := w) (t := t) (v := .str y u) (p := q) hB (at3_get (B := B) (C := C ++ [dictO sub]) (es := es') (s := s) (k := n)) hle hne
  rw [at3_grow] at hp
  refine Ends.bind hp ?_
  show Ends treeTable 11 ann P w (1 + 0) (dictEpoch (B.length + 1 + C.length) >>= _) _ q _ _ q
  refine Ends.bind (epoch_dict at3_get2) ?_
  show Ends treeTable 11 ann P w 0 (if (sub.length != sub.length) = true then _ else _) _ q _ _ q
  rw [if_neg (by simp)]
  exact Ends.pure
end Mine
end

section
open PySem PySem.W PyProof.Rows PySem.Calls
set_option maxRecDepth 100000
set_option maxHeartbeats 0
namespace Mine
variable {ann : Option Value} {w : World}
/-- entries, of which keys and values come first -/
noncomputable def entsShort : Nat → List (Int × Str) → List DictEntry
  | _, [] => []
  | t, (k, x) :: r => ⟨k, .int k t, .str x (t + 1)⟩ :: entsShort (t + 2) r
noncomputable def valsFrom : Nat → List (Int × Str) → List (Value × Value)
  | _, [] => []
  | t, (k, x) :: r => (.int k t, .str x (t + 1)) :: valsFrom (t + 2) r
theorem entsS_len : ∀ (n : Nat) (r : List (Int × Str)), (entsShort n r).length = r.length
  | _, [] => rfl
  | n, (k, y) :: r => by rw [entsShort, List.length_cons, List.length_cons, entsS_len]
theorem eval_pairs {B C : List Obj} {o : Obj} {s : Shared} {q : Pos} : ∀ (xs : List (Sem Value × Sem Value)) (r : List (Int × Str)) (n : Nat), Pairs q ann w xs r →
    Ends treeTable 11 ann P w (3 * r.length) (evalPairs xs) (at3 B o C s n) q (valsFrom n r) (at3 B o C s (n + 2 * r.length)) q
  | _, _, n, .nil => Ends.pure
  | _, _, n, .cons (x := (a, b)) (k := k) (y := y) (xs := xs) (r := r) hx hr => by
    rw [List.length_cons, show 3 * (r.length + 1) = 1 + (2 + (3 * r.length + 0)) by omega]
    show Ends treeTable 11 ann P w _ (a >>= _) _ q _ _ q
    refine Ends.bind (hx.key _) ?_
    show Ends treeTable 11 ann P w _ (b >>= _) _ q _ _ q
    refine Ends.bind (hx.val _) ?_
    show Ends treeTable 11 ann P w _ (evalPairs xs >>= _) _ q _ _ q
    have := eval_pairs (B := B) (C := C) (o := o) (s := s) xs r (n + 2) hr
    rw [show n + 2 + 2 * r.length = n + 2 * (r.length + 1) by omega] at this
    exact Ends.bind this Ends.pure
theorem loop_vals {B C : List Obj} {s : Shared} {q : Pos} {f : Value × Value → PUnit → Sem (ForInStep PUnit)}
    (hf : ∀ k t y u es n, es.length ≤ 1000 → (∀ e ∈ es, e.hash ≠ k) → 0 ≤ k → k < 2 ^ 60 → Ends treeTable 11 ann P w 10 (f (.int k t, .str y u) ⟨⟩) (at3 B (dictO es) C s n) q (.yield ⟨⟩) (at3 B (dictO (es ++ [⟨k, .int k t, .str y u⟩])) C s (n + 1)) q) :
    ∀ (r : List (Int × Str)) (es : List DictEntry) (t n : Nat), KeysOk es r → es.length + r.length ≤ 1000 →
      Ends treeTable 11 ann P w (10 * r.length) (forIn (valsFrom t r) PUnit.unit f) (at3 B (dictO es) C s n) q PUnit.unit (at3 B (dictO (es ++ entsShort t r)) C s (n + r.length)) q
  | [], es, t, n, _, _ => by
    simp only [entsShort, List.append_nil, List.length_nil, Nat.mul_zero, Nat.add_zero]
    exact Ends.pure
  | (k, y) :: r, es, t, n, hk, hl => by
    rw [valsFrom, List.forIn_cons, List.length_cons, show 10 * (r.length + 1) = 10 + 10 * r.length by omega]
    simp only [List.length_cons] at hl
    refine Ends.bind (hf k t y (t + 1) es n (by omega) hk.2.2.1 hk.1 hk.2.1) ?_
    have := loop_vals hf r (es ++ [⟨k, .int k t, .str y (t + 1)⟩]) (t + 2) (n + 1) (KeysOk.push hk.2.2.2.2 hk.2.2.2.1) (by simp only [List.length_append, List.length_singleton]; omega)
    rw [List.append_assoc, show n + 1 + r.length = n + (r.length + 1) by omega] at this
    exact this
theorem vals_flat : ∀ (n : Nat) (r : List (Int × Str)), ((valsFrom n r).flatMap fun (x : Value × Value) => match x with | (k, v) => [k, v]).filter (fun | .ref _ => true | _ => false) = []
  | _, [] => rfl
  | n, (k, y) :: r => by
    rw [valsFrom, List.flatMap_cons, List.filter_append, vals_flat (n + 2) r]
    rfl
theorem hold_vals {α : Type} {n : Nat} {r : List (Int × Str)} {m : Sem α} : holding ((valsFrom n r).flatMap fun (x : Value × Value) => match x with | (k, v) => [k, v]) m = m := by
  unfold holding
  have := vals_flat n r
  split
  · rfl
  · rename_i h1
    exact absurd this h1
theorem sub_short {B : List Obj} {s : Shared} {q : Pos} {n : Nat} {xs : List (Sem Value × Sem Value)} {r : List (Int × Str)} (hB : Nat.ble 11 B.length = true) (hlen : xs.length ≤ 15) (hx : Pairs q ann w xs r) (hk : KeysOk [] r) (hl : r.length ≤ 1000) :
    Ends treeTable 11 ann P w (13 * r.length + 1) (subDict xs) (at1 B s n) q B.length (at3 B (dictO (entsShort n r)) [] s (n + 2 * r.length + r.length)) q := by
  show Ends treeTable 11 ann P w (13 * r.length + 1) (Sem.alloc _ _) _ q B.length _ q
  refine Ends.alloc ?_
  have e1 : ({ at1 B s n with heap := (at1 B s n).heap.push { cls := .type "dict", data := .dict #[] } } : Shared) = at3 B (dictO []) [] s n := by
    unfold at1 at3 Heap.push dictO
    simp
  rw [e1]
  have e2 : (at1 B s n).heap.objs.size = B.length := by unfold at1; simp
  rw [e2]
  show Ends treeTable 11 ann P w (13 * r.length + 0) (Sem.keep [.ref B.length] (if xs.length ≤ 15 then _ else _) >>= fun _ => Pure.pure B.length) _ q B.length _ q
  refine Ends.bind (a := ()) (Ends.keep ?_) Ends.pure
  rw [if_pos hlen, show 13 * r.length = 3 * r.length + (10 * r.length + 0) by omega]
  show Ends treeTable 11 ann P w _ (evalPairs xs >>= _) _ q () _ q
  refine Ends.bind (eval_pairs xs r n hx) ?_
  dsimp only
  rw [hold_vals]
  show Ends treeTable 11 ann P w (10 * r.length + 0) (forIn (valsFrom n r) PUnit.unit _ >>= fun _ => Pure.pure ()) _ q () _ q
  refine Ends.bind (a := PUnit.unit) ?_ Ends.pure
  refine loop_vals (fun k t y u es m hes hne h0 h1 => ?_) r [] n _ hk (by simpa using hl)
  show Ends treeTable 11 ann P w (10 + 0) (dictSet B.length (.int k t) (.str y u) >>= _) _ q _ _ q
  exact Ends.bind (a := ()) (set_one hB hes hne h0 h1) Ends.pure
end Mine
end

section
open PySem PySem.W PyProof.Rows PySem.Calls
set_option maxRecDepth 100000
set_option maxHeartbeats 0
namespace Mine
variable {ann : Option Value} {w : World}
/-- keys that rise -/
noncomputable def asc : Int → List (Int × Str) → Bool
  | _, [] => true
  | lo, (k, _) :: r => decide (lo < k) && decide (k < 2 ^ 60) && asc k r
noncomputable def lastK : Int → List (Int × Str) → Int
  | lo, [] => lo
  | _, (k, _) :: r => lastK k r
theorem asc_mem : ∀ {r : List (Int × Str)} {lo : Int}, asc lo r = true → ∀ p ∈ r, lo < p.1
  | (k, y) :: r, lo, h, p, hp => by
    simp only [asc, Bool.and_eq_true, decide_eq_true_eq] at h
    rcases List.mem_cons.mp hp with rfl | hp
    · exact h.1.1
    · exact Int.lt_trans h.1.1 (asc_mem h.2 p hp)
theorem asc_keys {es : List DictEntry} : ∀ {r : List (Int × Str)} {lo : Int}, 0 ≤ lo → (∀ e ∈ es, e.hash ≤ lo) → asc lo r = true → KeysOk es r
  | [], _, _, _, _ => trivial
  | (k, y) :: r, lo, h0, hes, h => by
    simp only [asc, Bool.and_eq_true, decide_eq_true_eq] at h
    refine ⟨by omega, h.1.2, fun e he => by have := hes e he; omega, fun p hp => by have := asc_mem h.2 p hp; omega, asc_keys (lo := k) (by omega) (fun e he => by have := hes e he; omega) h.2⟩
theorem asc_app : ∀ {a b : List (Int × Str)} {lo : Int}, asc lo (a ++ b) = true → asc lo a = true ∧ asc (lastK lo a) b = true
  | [], b, lo, h => ⟨rfl, h⟩
  | (k, y) :: a, b, lo, h => by
    rw [List.cons_append] at h
    simp only [asc, Bool.and_eq_true, decide_eq_true_eq] at h ⊢
    have := asc_app h.2
    exact ⟨⟨h.1, this.1⟩, this.2⟩
theorem asc_last : ∀ {r : List (Int × Str)} {lo : Int}, asc lo r = true → lo ≤ lastK lo r
  | [], _, _ => Int.le_refl _
  | (k, y) :: r, lo, h => by
    simp only [asc, Bool.and_eq_true, decide_eq_true_eq] at h
    have := asc_last h.2
    show lo ≤ lastK k r
    omega
theorem ents_hash : ∀ {r : List (Int × Str)} {lo : Int} (n : Nat), asc lo r = true → ∀ e ∈ entsFrom n r, lo < e.hash ∧ e.hash ≤ lastK lo r := by
  intro r
  induction r with
  | nil =>
    intro lo n _ e he
    rw [entsFrom] at he
    exact absurd he List.not_mem_nil
  | cons q r ih =>
    intro lo n h e he
    obtain ⟨k, y⟩ := q
    simp only [asc, Bool.and_eq_true, decide_eq_true_eq] at h
    rw [entsFrom] at he
    rcases List.mem_cons.mp he with rfl | he
    · exact ⟨h.1.1, asc_last h.2⟩
    · have := ih (n + 3) h.2 e he
      exact ⟨by omega, this.2⟩
theorem entsS_hash : ∀ {r : List (Int × Str)} {lo : Int} (n : Nat), asc lo r = true → ∀ e ∈ entsShort n r, lo < e.hash ∧ e.hash ≤ lastK lo r := by
  intro r
  induction r with
  | nil =>
    intro lo n _ e he
    rw [entsShort] at he
    exact absurd he List.not_mem_nil
  | cons q r ih =>
    intro lo n h e he
    obtain ⟨k, y⟩ := q
    simp only [asc, Bool.and_eq_true, decide_eq_true_eq] at h
    rw [entsShort] at he
    rcases List.mem_cons.mp he with rfl | he
    · exact ⟨h.1.1, asc_last h.2⟩
    · have := ih (n + 2) h.2 e he
      exact ⟨by omega, this.2⟩
theorem ents_apart {es : List DictEntry} : ∀ {r : List (Int × Str)} {lo : Int} (n : Nat), (∀ e ∈ es, e.hash ≤ lo) → asc lo r = true → Apart es (entsFrom n r)
  | [], _, _, _, _ => trivial
  | (k, y) :: r, lo, n, hes, h => by
    simp only [asc, Bool.and_eq_true, decide_eq_true_eq] at h
    refine ⟨⟨k, n, y, n + 1⟩, fun e he => by have := hes e he; show e.hash ≠ k; omega, fun e he => by have := (ents_hash (n + 3) h.2 e he).1; show e.hash ≠ k; omega, ents_apart (lo := k) (n + 3) (fun e he => by have := hes e he; omega) h.2⟩
theorem entsS_apart {es : List DictEntry} : ∀ {r : List (Int × Str)} {lo : Int} (n : Nat), (∀ e ∈ es, e.hash ≤ lo) → asc lo r = true → Apart es (entsShort n r)
  | [], _, _, _, _ => trivial
  | (k, y) :: r, lo, n, hes, h => by
    simp only [asc, Bool.and_eq_true, decide_eq_true_eq] at h
    refine ⟨⟨k, n, y, n + 1⟩, fun e he => by have := hes e he; show e.hash ≠ k; omega, fun e he => by have := (entsS_hash (n + 2) h.2 e he).1; show e.hash ≠ k; omega, entsS_apart (lo := k) (n + 2) (fun e he => by have := hes e he; omega) h.2⟩
noncomputable abbrev someP (x : Sem Value × Sem Value) : Option (Sem Value) × Sem Value := (some x.1, x.2)
theorem fill : ∀ (xs run : List (Sem Value × Sem Value)) (main : Option Addr) (rest : List (Option (Sem Value) × Sem Value)), run.length + xs.length ≤ 16 →
    (forIn (xs.map someP ++ rest) (main, run) dForm.1.1 : Sem _) = forIn rest (main, run ++ xs) dForm.1.1
  | [], run, main, rest, _ => by rw [List.append_nil]; rfl
  | x :: xs, run, main, rest, h => by
    rw [List.map_cons, List.cons_append, List.forIn_cons]
    simp only [List.length_cons] at h
    have e : dForm.1.1 (someP x) (main, run) = Pure.pure (ForInStep.yield (main, run ++ [x])) := by
      show (if ((run ++ [(x.1, x.2)]).length == 17) = true then _ else _) = _
      rw [if_neg (by simp; omega)]
    rw [e]
    show forIn (xs.map someP ++ rest) (main, run ++ [x]) dForm.1.1 = _
    rw [fill xs (run ++ [x]) main rest (by simp only [List.length_append, List.length_singleton]; omega), List.append_assoc]
    rfl
end Mine
end

section
open PySem PySem.W PyProof.Rows PySem.Calls
set_option maxRecDepth 100000
set_option maxHeartbeats 0
namespace Mine
variable {ann : Option Value} {w : World}
theorem Pairs.len {q : Pos} {xs r} (h : Pairs q ann w xs r) : xs.length = r.length := by
  induction h with
  | nil => rfl
  | cons _ _ ih => simp [ih]
theorem turn_first {B : List Obj} {s : Shared} {q : Pos} {n : Nat} {ys : List (Sem Value × Sem Value)} {z : Sem Value × Sem Value} {r : List (Int × Str)} (hB : Nat.ble 11 B.length = true) (hl : (ys ++ [z]).length = 17) (hx : Pairs q ann w (ys ++ [z]) r) (hk : asc 0 r = true) :
    Ends treeTable 11 ann P w 223 (dForm.1.1 (someP z) (none, ys)) (at1 B s n) q (.yield (some B.length, [])) (at3 B (dictO (entsFrom n r)) [] s (n + 51)) q := by
  show Ends treeTable 11 ann P w 223 (if ((ys ++ [(z.1, z.2)]).length == 17) = true then _ else _) _ q _ _ q
  rw [if_pos (by simpa using hl)]
  have hr : r.length = 17 := hx.len.symm.trans hl
  have := sub_long (s := s) (n := n) hB (by omega) hx (asc_keys (es := []) (Int.le_refl 0) (fun e he => by cases he) hk) (by omega)
  rw [hr] at this
  have hne : ((ys ++ [(z.1, z.2)]).isEmpty = true) = False := by simp
  show Ends treeTable 11 ann P w ((223 + 0) + 0) ((if (ys ++ [(z.1, z.2)]).isEmpty = true then _ else (subDict (ys ++ [(z.1, z.2)]) >>= _)) >>= _) _ q _ _ q
  rw [if_neg (by simp)]
  exact Ends.bind (Ends.bind this Ends.pure) Ends.pure
theorem turn_next {B C : List Obj} {s : Shared} {q : Pos} {n : Nat} {es : List DictEntry} {ys : List (Sem Value × Sem Value)} {z : Sem Value × Sem Value} {r : List (Int × Str)} {lo : Int} (hB : Nat.ble 11 B.length = true) (hs : B.length + 1 + C.length ≠ sysModules) (hes : es ≠ []) (hle : es.length ≤ 900)
    (hl : (ys ++ [z]).length = 17) (hx : Pairs q ann w (ys ++ [z]) r) (h0 : 0 ≤ lo) (hlo : ∀ e ∈ es, e.hash ≤ lo) (hk : asc lo r = true) :
    Ends treeTable 11 ann P w 330 (dForm.1.1 (someP z) (some B.length, ys)) (at3 B (dictO es) C s n) q (.yield (some B.length, [])) (at3 B (dictO (es ++ entsFrom n r)) (C ++ [dictO (entsFrom n r)]) s (n + 51)) q := by
  show Ends treeTable 11 ann P w 330 (if ((ys ++ [(z.1, z.2)]).length == 17) = true then _ else _) _ q _ _ q
  rw [if_pos (by simpa using hl)]
  have hr : r.length = 17 := hx.len.symm.trans hl
  have hB2 : Nat.ble 11 (B ++ dictO es :: C).length = true := by
    have := Nat.le_of_ble_eq_true hB
    exact Nat.ble_eq_true_of_le (by simp only [List.length_append, List.length_cons]; omega)
  have h1 := sub_long (s := s) (n := n) hB2 (by omega) hx (asc_keys (es := []) h0 (fun e he => by cases he) hk) (by omega)
  rw [hr] at h1
  have e1 : at1 (B ++ dictO es :: C) s n = at3 B (dictO es) C s n := rfl
  have e2 : at3 (B ++ dictO es :: C) (dictO (entsFrom n r)) [] s (n + 3 * 17) = at3 B (dictO es) (C ++ [dictO (entsFrom n r)]) s (n + 51) := by
    unfold at3
    simp
  have e3 : (B ++ dictO es :: C).length = B.length + 1 + C.length := by simp; omega
  rw [e1, e2, e3] at h1
  have h2 := merge_ok (ann := ann) (w := w) (s := s) (n := n + 51) (q := q) hB hs hes (ents_apart n hlo hk) (by rw [ents_len]; omega)
  rw [ents_len, hr] at h2
  show Ends treeTable 11 ann P w ((223 + (107 + 0)) + 0) ((if (ys ++ [(z.1, z.2)]).isEmpty = true then _ else (Sem.keep [.ref B.length] (subDict (ys ++ [(z.1, z.2)])) >>= _)) >>= _) _ q _ _ q
  rw [if_neg (by simp)]
  refine Ends.bind (Ends.bind (Ends.keep h1) ?_) Ends.pure
  show Ends treeTable 11 ann P w (107 + 0) (Sem.onRaise (Sem.keep [.ref B.length, .ref (B.length + 1 + C.length)] (mergeMapping B.length (.ref (B.length + 1 + C.length)) false)) _ >>= _) _ q _ _ q
  refine Ends.bind (a := ()) ?_ Ends.pure
  rw [Sem.onRaise_eq_wrap]
  exact (Ends.wrap (Ends.keep h2) Ends.pure : Ends treeTable 11 ann P w (107 + 0) _ _ q () _ q)
end Mine
end

section
open PySem PySem.W PyProof.Rows PySem.Calls
set_option maxRecDepth 100000
set_option maxHeartbeats 0
namespace Mine
variable {ann : Option Value} {w : World}
/-- chunks: seventeen trees and a last one, their keys and texts -/
structure Chunk where
  ys : List (Sem Value × Sem Value)
  z : Sem Value × Sem Value
  r : List (Int × Str)
noncomputable def Chunk.all (c : Chunk) : List (Sem Value × Sem Value) := c.ys ++ [c.z]
noncomputable def ChunkOk (q : Pos) (ann : Option Value) (w : World) (c : Chunk) : Prop := c.all.length = 17 ∧ Pairs q ann w c.all c.r
noncomputable def subsOf : Nat → List Chunk → List Obj
  | _, [] => []
  | n, c :: cs => dictO (entsFrom n c.r) :: subsOf (n + 51) cs
noncomputable def entsOf : Nat → List Chunk → List DictEntry
  | _, [] => []
  | n, c :: cs => entsFrom n c.r ++ entsOf (n + 51) cs
noncomputable def keysOf (cs : List Chunk) : List (Int × Str) := cs.flatMap (·.r)
noncomputable def itemsOf (cs : List Chunk) : List (Option (Sem Value) × Sem Value) := cs.flatMap fun c => c.all.map someP
theorem lastK_app : ∀ {a b : List (Int × Str)} {lo : Int}, lastK lo (a ++ b) = lastK (lastK lo a) b
  | [], _, _ => rfl
  | (k, y) :: a, b, lo => lastK_app (a := a) (b := b) (lo := k)
theorem sys_ne {b c k : Nat} (h : k < b) : b + 1 + c ≠ k := by omega
theorem chunks_next {B : List Obj} {s : Shared} {q : Pos} {rest : List (Option (Sem Value) × Sem Value)} {m : Nat} {R : Option Addr × List (Sem Value × Sem Value)} {s' : Shared} {q' : Pos} (hB : Nat.ble 11 B.length = true) (hs : sysModules < B.length) :
    ∀ (cs : List Chunk) (C : List Obj) (es : List DictEntry) (n : Nat) (lo : Int), (∀ c ∈ cs, ChunkOk q ann w c) → es ≠ [] → es.length + 17 * cs.length ≤ 900 → 0 ≤ lo → (∀ e ∈ es, e.hash ≤ lo) → asc lo (keysOf cs) = true →
      (Ends treeTable 11 ann P w m (forIn rest (some B.length, []) dForm.1.1) (at3 B (dictO (es ++ entsOf n cs)) (C ++ subsOf n cs) s (n + 51 * cs.length)) q R s' q') →
      Ends treeTable 11 ann P w (330 * cs.length + m) (forIn (itemsOf cs ++ rest) (some B.length, []) dForm.1.1) (at3 B (dictO es) C s n) q R s' q'
  | [], C, es, n, lo, _, _, _, _, _, _, h => by
    simpa [itemsOf, entsOf, subsOf] using h
  | c :: cs, C, es, n, lo, hc, hes, hl, h0, hlo, hk, h => by
    have c1 := hc c (.head _)
    simp only [List.length_cons] at hl
    have hk' : asc lo (c.r ++ keysOf cs) = true := hk
    obtain ⟨k1, k2⟩ := asc_app hk'
    have hr : c.r.length = 17 := c1.2.len.symm.trans c1.1
    have hy : c.ys.length = 16 := by
      have := c1.1
      simp only [Chunk.all, List.length_append, List.length_singleton] at this
      omega
    have t := turn_next (s := s) (n := n) hB (sys_ne hs) hes (by omega) c1.1 c1.2 h0 hlo k1 (C := C)
    have ih := chunks_next (B := B) (s := s) (q := q) (rest := rest) (m := m) (R := R) (s' := s') (q' := q') hB hs cs (C ++ [dictO (entsFrom n c.r)]) (es ++ entsFrom n c.r) (n + 51) (lastK lo c.r) (fun x hx => hc x (.tail _ hx)) (by simp [hes]) (by rw [List.length_append, ents_len]; omega)
      (Int.le_trans h0 (asc_last k1)) (fun e he => by
        rcases List.mem_append.mp he with he | he
        · exact Int.le_trans (hlo e he) (asc_last k1)
        · exact (ents_hash n k1 e he).2) k2 (by
        have e1 : es ++ entsFrom n c.r ++ entsOf (n + 51) cs = es ++ entsOf n (c :: cs) := by rw [List.append_assoc]; rfl
        have e2 : C ++ [dictO (entsFrom n c.r)] ++ subsOf (n + 51) cs = C ++ subsOf n (c :: cs) := by rw [List.append_assoc]; rfl
        rw [e1, e2, show n + 51 + 51 * cs.length = n + 51 * (cs.length + 1) by omega]
        exact h)
    have e : itemsOf (c :: cs) ++ rest = c.ys.map someP ++ (someP c.z :: (itemsOf cs ++ rest)) := by
      simp [itemsOf, Chunk.all]
    rw [e, fill c.ys [] _ _ (by simp; omega), List.nil_append, List.forIn_cons, List.length_cons, show 330 * (cs.length + 1) + m = 330 + (330 * cs.length + m) by omega]
    exact Ends.bind t ih
theorem entsOf_len {q : Pos} : ∀ (cs : List Chunk) (n : Nat), (∀ c ∈ cs, ChunkOk q ann w c) → (entsOf n cs).length = 17 * cs.length
  | [], _, _ => rfl
  | c :: cs, n, h => by
    have h1 := h c (.head _)
    have := entsOf_len cs (n + 51) (fun x hx => h x (.tail _ hx))
    rw [entsOf, List.length_append, this, ents_len, ← h1.2.len, h1.1, List.length_cons]
    omega
theorem entsOf_hash : ∀ (cs : List Chunk) (n : Nat) (lo : Int), asc lo (keysOf cs) = true → ∀ e ∈ entsOf n cs, e.hash ≤ lastK lo (keysOf cs)
  | [], _, _, _, e, he => by cases he
  | c :: cs, n, lo, h, e, he => by
    have h' : asc lo (c.r ++ keysOf cs) = true := h
    obtain ⟨k1, k2⟩ := asc_app h'
    have hl : lastK lo (keysOf (c :: cs)) = lastK (lastK lo c.r) (keysOf cs) := lastK_app
    rw [hl]
    rcases List.mem_append.mp he with he | he
    · exact Int.le_trans (ents_hash n k1 e he).2 (asc_last k2)
    · exact entsOf_hash cs _ _ k2 e he
theorem display {B : List Obj} {s : Shared} {q : Pos} {c : Chunk} {cs : List Chunk} {ys : List (Sem Value × Sem Value)} {r : List (Int × Str)} {n : Nat} (hB : Nat.ble 11 B.length = true) (hs : sysModules < B.length) (hc : ChunkOk q ann w c) (hcs : ∀ c ∈ cs, ChunkOk q ann w c) (hl : 17 * cs.length ≤ 800)
    (hy : ys.length ≤ 15) (hy0 : ys ≠ []) (hyr : Pairs q ann w ys r) (hk : asc 0 (c.r ++ (keysOf cs ++ r)) = true) :
    Ends treeTable 11 ann P w (223 + (330 * cs.length + (19 * r.length + 6))) (dictDisplay (itemsOf (c :: cs) ++ ys.map someP)) (at1 B s n) q (.ref B.length)
      (at3 B (dictO (entsOf n (c :: cs) ++ entsShort (n + 51 * (cs.length + 1)) r)) (subsOf (n + 51) cs ++ [dictO (entsShort (n + 51 * (cs.length + 1)) r)]) s (n + 51 * (cs.length + 1) + 2 * r.length + r.length)) q := by
  rw [dForm.2, show 223 + (330 * cs.length + (19 * r.length + 6)) = (223 + (330 * cs.length + 0)) + ((13 * r.length + 1) + (6 * r.length + 5)) by omega]
  obtain ⟨k1, k2⟩ := asc_app hk
  obtain ⟨k3, k4⟩ := asc_app k2
  have hr : c.r.length = 17 := hc.2.len.symm.trans hc.1
  have hrl : r.length ≤ 15 := hyr.len ▸ hy
  have hy16 : c.ys.length = 16 := by
    have := hc.1
    simp only [Chunk.all, List.length_append, List.length_singleton] at this
    omega
  have hE : entsFrom n c.r ≠ [] := fun e => by have := ents_len n c.r; rw [e, hr] at this; cases this
  have t := turn_first (s := s) (n := n) hB hc.1 hc.2 k1
  have hlast : (forIn (ys.map someP) (some B.length, []) dForm.1.1 : Sem _) = Pure.pure (some B.length, ys) := by
    have := fill ys [] (some B.length) [] (by simp; omega)
    rw [List.append_nil, List.nil_append] at this
    rw [this]; rfl
  have main := chunks_next (B := B) (s := s) (q := q) (rest := ys.map someP) (m := 0) (R := (some B.length, ys)) hB hs cs [] (entsFrom n c.r) (n + 51) (lastK 0 c.r) hcs hE (by rw [ents_len]; omega) (asc_last k1) (fun e he => (ents_hash n k1 e he).2) k3 (by rw [hlast]; exact Ends.pure)
  have e : itemsOf (c :: cs) ++ ys.map someP = c.ys.map someP ++ (someP c.z :: (itemsOf cs ++ ys.map someP)) := by
    simp [itemsOf, Chunk.all]
  rw [e, fill c.ys [] _ _ (by simp; omega), List.nil_append, List.forIn_cons]
  refine Ends.bind (Ends.bind t main) ?_
  have hE2 : B.length + 1 + ([] ++ subsOf (n + 51) cs : List Obj).length ≠ sysModules := sys_ne hs
  have hN : n + 51 + 51 * cs.length = n + 51 * (cs.length + 1) := by omega
  rw [hN]
  have hB2 : Nat.ble 11 (B ++ dictO (entsFrom n c.r ++ entsOf (n + 51) cs) :: ([] ++ subsOf (n + 51) cs)).length = true := by
    have := Nat.le_of_ble_eq_true hB
    exact Nat.ble_eq_true_of_le (by simp only [List.length_append, List.length_cons]; omega)
  have h0 : (0 : Int) ≤ lastK (lastK 0 c.r) (keysOf cs) := Int.le_trans (asc_last k1) (asc_last k3)
  have h1 := sub_short (ann := ann) (w := w) (s := s) (n := n + 51 * (cs.length + 1)) (q := q) hB2 hy hyr (asc_keys (es := []) h0 (fun e he => by cases he) k4) (by omega)
  have e3 : (B ++ dictO (entsFrom n c.r ++ entsOf (n + 51) cs) :: ([] ++ subsOf (n + 51) cs)).length = B.length + 1 + ([] ++ subsOf (n + 51) cs : List Obj).length := by simp; omega
  have e1 : at1 (B ++ dictO (entsFrom n c.r ++ entsOf (n + 51) cs) :: ([] ++ subsOf (n + 51) cs)) s (n + 51 * (cs.length + 1)) = at3 B (dictO (entsFrom n c.r ++ entsOf (n + 51) cs)) ([] ++ subsOf (n + 51) cs) s (n + 51 * (cs.length + 1)) := rfl
  have e2 : at3 (B ++ dictO (entsFrom n c.r ++ entsOf (n + 51) cs) :: ([] ++ subsOf (n + 51) cs)) (dictO (entsShort (n + 51 * (cs.length + 1)) r)) [] s (n + 51 * (cs.length + 1) + 2 * r.length + r.length) = at3 B (dictO (entsFrom n c.r ++ entsOf (n + 51) cs)) ([] ++ subsOf (n + 51) cs ++ [dictO (entsShort (n + 51 * (cs.length + 1)) r)]) s (n + 51 * (cs.length + 1) + 2 * r.length + r.length) := by
    unfold at3
    simp
  rw [e1, e2, e3] at h1
  have hap : Apart (entsFrom n c.r ++ entsOf (n + 51) cs) (entsShort (n + 51 * (cs.length + 1)) r) := by
    refine entsS_apart (lo := lastK (lastK 0 c.r) (keysOf cs)) _ (fun e he => ?_) k4
    rcases List.mem_append.mp he with he | he
    · exact Int.le_trans (ents_hash n k1 e he).2 (asc_last k3)
    · exact entsOf_hash cs _ _ k3 e he
  have h2 := merge_ok (ann := ann) (w := w) (s := s) (n := n + 51 * (cs.length + 1) + 2 * r.length + r.length) (q := q) hB hE2 (by simp [hE]) hap (by
    rw [entsS_len, List.length_append, entsOf_len cs _ hcs, ents_len]; omega)
  rw [entsS_len] at h2
  show Ends treeTable 11 ann P w (((13 * r.length + 1) + ((6 * r.length + 5) + 0)) + 0) ((if ys.isEmpty = true then _ else (Sem.keep [.ref B.length] (subDict ys) >>= _)) >>= _) _ q _ _ q
  rw [if_neg (by simp [hy0])]
  refine Ends.bind (a := some B.length) (Ends.bind (Ends.keep h1) ?_) Ends.pure
  show Ends treeTable 11 ann P w (6 * r.length + 5 + 0) (Sem.onRaise (Sem.keep [.ref B.length, .ref (B.length + 1 + ([] ++ subsOf (n + 51) cs : List Obj).length)] (mergeMapping B.length (.ref (B.length + 1 + ([] ++ subsOf (n + 51) cs : List Obj).length)) false)) _ >>= _) _ q _ _ q
  refine Ends.bind (a := ()) ?_ Ends.pure
  rw [Sem.onRaise_eq_wrap]
  exact (Ends.wrap (Ends.keep h2) Ends.pure : Ends treeTable 11 ann P w (6 * r.length + 5 + 0) _ _ q () _ q)
end Mine
end

section
open PySem PySem.W PyProof.Rows PySem.Calls
set_option maxRecDepth 100000
set_option maxHeartbeats 0
namespace Mine
noncomputable section
noncomputable def fnsOf (l : List Stmt) : List Stmt := l.flatMap fun
  | .FunctionDef n a b d r t s ts bd p => [.FunctionDef n a b d r t s ts bd p]
  | .ClassDef _ _ _ b .. => b.filter fun | .FunctionDef .. => true | _ => false
  | _ => []
noncomputable def fA (i : Nat) : Arguments := match ((fnsOf P.main.body)[i]? : Option Stmt) with | some (.FunctionDef _ a ..) => a | _ => default
noncomputable def fB (i : Nat) : FuncBody := match ((fnsOf P.main.body)[i]? : Option Stmt) with | some (.FunctionDef _ _ b ..) => .stmts b | _ => default
noncomputable def fS (i : Nat) : Scope := match ((fnsOf P.main.body)[i]? : Option Stmt) with | some (.FunctionDef _ _ _ _ _ _ s ..) => s | _ => default
/-- entries of chunk i, the last one short -/
noncomputable def kvOf (i : Nat) : List (Int × Str) := (dKV.drop (17 * i)).take 17
noncomputable def subO (i : Nat) : Obj := dictO (entsFrom (418 + 51 * i) (kvOf i))
noncomputable def subZ : Obj := dictO (entsShort 2356 (kvOf 38))
noncomputable def bigL : List DictEntry := (List.range 38).flatMap (fun i => entsFrom (418 + 51 * i) (kvOf i)) ++ entsShort 2356 (kvOf 38)
noncomputable def bigO : Obj := dictO bigL
/-- key tokens -/
noncomputable def kh (p : Params) (s : String) (t : Nat) (v : Value) : DictEntry := DictEntry.mk (PyData.keyHash p (Str.ofString s)) (.str (Str.ofString s) t) v
noncomputable def sv (s : String) (t : Nat) : Value := .str (Str.ofString s) t

noncomputable def o0_0 (p : Params) : Obj := Obj.mk (Value.type "dict") none (Data.dict #[kh p "__name__" 1 (sv "builtins" 160), kh p "__doc__" 2 (Value.builtin "builtins.__doc__:str#opaque"), kh p "__package__" 3 (Value.builtin "builtins.__package__:str#opaque"), kh p "__loader__" 4 (Value.builtin "builtins.__loader__:shared#opaque"), kh p "__spec__" 5 (Value.builtin "builtins.__spec__#opaque"), kh p "__build_class__" 6 (Value.builtin "__build_class__"), kh p "__import__" 7 (Value.builtin "__import__"), kh p "abs" 8 (Value.builtin "abs"), kh p "all" 9 (Value.builtin "all"), kh p "any" 10 (Value.builtin "any"), kh p "ascii" 11 (Value.builtin "ascii"), kh p "bin" 12 (Value.builtin "bin"), kh p "breakpoint" 13 (Value.builtin "breakpoint"), kh p "callable" 14 (Value.builtin "callable"), kh p "chr" 15 (Value.builtin "chr"), kh p "compile" 16 (Value.builtin "compile"), kh p "delattr" 17 (Value.builtin "delattr"), kh p "dir" 18 (Value.builtin "dir"), kh p "divmod" 19 (Value.builtin "divmod"), kh p "eval" 20 (Value.builtin "eval"), kh p "exec" 21 (Value.builtin "exec"), kh p "format" 22 (Value.builtin "format"), kh p "getattr" 23 (Value.builtin "getattr"), kh p "globals" 24 (Value.builtin "globals"), kh p "hasattr" 25 (Value.builtin "hasattr"), kh p "hash" 26 (Value.builtin "hash"), kh p "hex" 27 (Value.builtin "hex"), kh p "id" 28 (Value.builtin "id"), kh p "input" 29 (Value.builtin "input"), kh p "isinstance" 30 (Value.builtin "isinstance"), kh p "issubclass" 31 (Value.builtin "issubclass"), kh p "iter" 32 (Value.builtin "iter"), kh p "aiter" 33 (Value.builtin "aiter"), kh p "len" 34 (Value.builtin "len"), kh p "locals" 35 (Value.builtin "locals"), kh p "max" 36 (Value.builtin "max"), kh p "min" 37 (Value.builtin "min"), kh p "next" 38 (Value.builtin "next"), kh p "anext" 39 (Value.builtin "anext"), kh p "oct" 40 (Value.builtin "oct"), kh p "ord" 41 (Value.builtin "ord"), kh p "pow" 42 (Value.builtin "pow"), kh p "print" 43 (Value.builtin "print"), kh p "repr" 44 (Value.builtin "repr"), kh p "round" 45 (Value.builtin "round"), kh p "setattr" 46 (Value.builtin "setattr"), kh p "sorted" 47 (Value.builtin "sorted"), kh p "sum" 48 (Value.builtin "sum"), kh p "vars" 49 (Value.builtin "vars"), kh p "None" 50 Value.none, kh p "Ellipsis" 51 Value.ellipsis, kh p "NotImplemented" 52 Value.notImplemented, kh p "False" 53 (Value.bool false), kh p "True" 54 (Value.bool true), kh p "bool" 55 (Value.type "bool"), kh p "memoryview" 56 (Value.type "memoryview"), kh p "bytearray" 57 (Value.type "bytearray"), kh p "bytes" 58 (Value.type "bytes"), kh p "classmethod" 59 (Value.type "classmethod"), kh p "complex" 60 (Value.type "complex"), kh p "dict" 61 (Value.type "dict"), kh p "enumerate" 62 (Value.type "enumerate"), kh p "filter" 63 (Value.type "filter"), kh p "float" 64 (Value.type "float"), kh p "frozenset" 65 (Value.type "frozenset"), kh p "property" 66 (Value.type "property"), kh p "int" 67 (Value.type "int"), kh p "list" 68 (Value.type "list"), kh p "map" 69 (Value.type "map"), kh p "object" 70 (Value.type "object"), kh p "range" 71 (Value.type "range"), kh p "reversed" 72 (Value.type "reversed"), kh p "set" 73 (Value.type "set"), kh p "slice" 74 (Value.type "slice"), kh p "staticmethod" 75 (Value.type "staticmethod"), kh p "str" 76 (Value.type "str"), kh p "super" 77 (Value.type "super"), kh p "tuple" 78 (Value.type "tuple"), kh p "type" 79 (Value.type "type"), kh p "zip" 80 (Value.type "zip"), kh p "__debug__" 81 (Value.bool true), kh p "BaseException" 82 (Value.type "BaseException"), kh p "BaseExceptionGroup" 83 (Value.type "BaseExceptionGroup"), kh p "Exception" 84 (Value.type "Exception"), kh p "GeneratorExit" 85 (Value.type "GeneratorExit"), kh p "KeyboardInterrupt" 86 (Value.type "KeyboardInterrupt"), kh p "SystemExit" 87 (Value.type "SystemExit"), kh p "ArithmeticError" 88 (Value.type "ArithmeticError"), kh p "AssertionError" 89 (Value.type "AssertionError"), kh p "AttributeError" 90 (Value.type "AttributeError"), kh p "BufferError" 91 (Value.type "BufferError"), kh p "EOFError" 92 (Value.type "EOFError"), kh p "ImportError" 93 (Value.type "ImportError"), kh p "LookupError" 94 (Value.type "LookupError"), kh p "MemoryError" 95 (Value.type "MemoryError"), kh p "NameError" 96 (Value.type "NameError"), kh p "OSError" 97 (Value.type "OSError"), kh p "ReferenceError" 98 (Value.type "ReferenceError"), kh p "RuntimeError" 99 (Value.type "RuntimeError"), kh p "StopAsyncIteration" 100 (Value.type "StopAsyncIteration"), kh p "StopIteration" 101 (Value.type "StopIteration"), kh p "SyntaxError" 102 (Value.type "SyntaxError"), kh p "SystemError" 103 (Value.type "SystemError"), kh p "TypeError" 104 (Value.type "TypeError"), kh p "ValueError" 105 (Value.type "ValueError"), kh p "Warning" 106 (Value.type "Warning"), kh p "FloatingPointError" 107 (Value.type "FloatingPointError"), kh p "OverflowError" 108 (Value.type "OverflowError"), kh p "ZeroDivisionError" 109 (Value.type "ZeroDivisionError"), kh p "BytesWarning" 110 (Value.type "BytesWarning"), kh p "DeprecationWarning" 111 (Value.type "DeprecationWarning"), kh p "EncodingWarning" 112 (Value.type "EncodingWarning"), kh p "FutureWarning" 113 (Value.type "FutureWarning"), kh p "ImportWarning" 114 (Value.type "ImportWarning"), kh p "PendingDeprecationWarning" 115 (Value.type "PendingDeprecationWarning"), kh p "ResourceWarning" 116 (Value.type "ResourceWarning"), kh p "RuntimeWarning" 117 (Value.type "RuntimeWarning"), kh p "SyntaxWarning" 118 (Value.type "SyntaxWarning"), kh p "UnicodeWarning" 119 (Value.type "UnicodeWarning"), kh p "UserWarning" 120 (Value.type "UserWarning"), kh p "BlockingIOError" 121 (Value.type "BlockingIOError"), kh p "ChildProcessError" 122 (Value.type "ChildProcessError"), kh p "ConnectionError" 123 (Value.type "ConnectionError"), kh p "FileExistsError" 124 (Value.type "FileExistsError"), kh p "FileNotFoundError" 125 (Value.type "FileNotFoundError"), kh p "InterruptedError" 126 (Value.type "InterruptedError"), kh p "IsADirectoryError" 127 (Value.type "IsADirectoryError"), kh p "NotADirectoryError" 128 (Value.type "NotADirectoryError"), kh p "PermissionError" 129 (Value.type "PermissionError"), kh p "ProcessLookupError" 130 (Value.type "ProcessLookupError"), kh p "TimeoutError" 131 (Value.type "TimeoutError"), kh p "IndentationError" 132 (Value.type "IndentationError"), kh p "_IncompleteInputError" 133 (Value.type "_IncompleteInputError"), kh p "IndexError" 134 (Value.type "IndexError"), kh p "KeyError" 135 (Value.type "KeyError"), kh p "ModuleNotFoundError" 136 (Value.type "ModuleNotFoundError"), kh p "NotImplementedError" 137 (Value.type "NotImplementedError"), kh p "PythonFinalizationError" 138 (Value.type "PythonFinalizationError"), kh p "RecursionError" 139 (Value.type "RecursionError"), kh p "UnboundLocalError" 140 (Value.type "UnboundLocalError"), kh p "UnicodeError" 141 (Value.type "UnicodeError"), kh p "BrokenPipeError" 142 (Value.type "BrokenPipeError"), kh p "ConnectionAbortedError" 143 (Value.type "ConnectionAbortedError"), kh p "ConnectionRefusedError" 144 (Value.type "ConnectionRefusedError"), kh p "ConnectionResetError" 145 (Value.type "ConnectionResetError"), kh p "TabError" 146 (Value.type "TabError"), kh p "UnicodeDecodeError" 147 (Value.type "UnicodeDecodeError"), kh p "UnicodeEncodeError" 148 (Value.type "UnicodeEncodeError"), kh p "UnicodeTranslateError" 149 (Value.type "UnicodeTranslateError"), kh p "ExceptionGroup" 150 (Value.type "ExceptionGroup"), kh p "EnvironmentError" 151 (Value.type "OSError"), kh p "IOError" 152 (Value.type "OSError"), kh p "open" 153 (Value.builtin "open"), kh p "quit" 154 (Value.builtin "builtins.quit#opaque"), kh p "exit" 155 (Value.builtin "builtins.exit#opaque"), kh p "copyright" 156 (Value.builtin "builtins.copyright#opaque"), kh p "credits" 157 (Value.builtin "builtins.credits#opaque"), kh p "license" 158 (Value.builtin "builtins.license#opaque"), kh p "help" 159 (Value.builtin "builtins.help#opaque")] 159) #[]
noncomputable def o1_0 (p : Params) : Obj := Obj.mk (Value.type "dict") none (Data.dict #[kh p "builtins" 162 (Value.ref 4), kh p "__main__" 163 (Value.ref 5)] 2) #[]
noncomputable def o2_0 (p : Params) : Obj := Obj.mk Value.none none (Data.dict #[]) #[]
noncomputable def o3_0 (p : Params) : Obj := Obj.mk (Value.type "dict") none (Data.dict #[kh p "__name__" 165 (sv "__main__" 164), kh p "__doc__" 166 Value.none, kh p "__package__" 167 Value.none, kh p "__loader__" 168 (Value.builtin "__main__.__loader__#opaque"), kh p "__spec__" 169 Value.none, kh p "__annotations__" 170 (Value.ref 6), kh p "__builtins__" 171 (Value.ref 4), kh p "__file__" 173 (sv "/claim/cut.py" 172), kh p "__cached__" 174 Value.none] 9) #[]
noncomputable def o4_0 (p : Params) : Obj := Obj.mk (Value.type "module") (some 0) Data.plain #[]
noncomputable def o5_0 (p : Params) : Obj := Obj.mk (Value.type "module") (some 3) Data.plain #[]
noncomputable def o6_0 (p : Params) : Obj := Obj.mk (Value.type "dict") none (Data.dict #[]) #[]
noncomputable def o7_0 (p : Params) : Obj := Obj.mk (Value.type "tuple") none (Data.seq #[]) #[]
noncomputable def o8_0 (p : Params) : Obj := Obj.mk Value.none none (Data.fields #[]) #[]
noncomputable def o9_0 (p : Params) : Obj := Obj.mk (Value.type "code") none (Data.fields #[sv "<module>" 176, sv "<module>" 177, sv "/claim/cut.py" 178, Value.int 1 0, Value.int 0 0, Value.int 0 0, Value.int 0 0, Value.int 0 0, Value.ref 7, Value.bool false, Value.int 175 0, Value.ref 8, Value.none, Value.none, Value.none, Value.none, Value.int 179 0, Value.int 1 0, sv "/claim/cut.py" 180]) #[]
noncomputable def o10_0 (p : Params) : Obj := Obj.mk (Value.type "frame") none Data.plain #[some (Value.ref 9), some (Value.ref 3), some (Value.ref 3), none, some (sv "__main__" 164), none, some (Value.ref 0)]
noncomputable def o11_0 (p : Params) : Obj := Obj.mk (Value.type "tuple") none (Data.seq #[]) #[]
noncomputable def o12_0 (p : Params) : Obj := Obj.mk Value.none none (Data.fields #[]) #[]
noncomputable def o13_0 (p : Params) : Obj := Obj.mk (Value.type "code") none (Data.fields #[sv "<module>" 182, sv "<module>" 183, sv "/claim/cut.py" 184, Value.int 1 0, Value.int 0 0, Value.int 0 0, Value.int 0 0, Value.int 0 0, Value.ref 11, Value.bool false, Value.int 181 0, Value.ref 12, Value.none, Value.none, Value.none, Value.none, Value.int 185 0, Value.int 1 0, sv "/claim/cut.py" 186]) #[]
noncomputable def o14_0 (p : Params) : Obj := Obj.mk (Value.type "frame") none Data.plain #[some (Value.ref 13), some (Value.ref 3), some (Value.ref 3), none, some (sv "__main__" 164), none, some (Value.ref 0)]
noncomputable def o3_11 (p : Params) : Obj := Obj.mk (Value.type "dict") none (Data.dict #[kh p "__name__" 165 (sv "cpy313.stringprep" 349), kh p "__doc__" 166 Value.none, kh p "__package__" 167 Value.none, kh p "__loader__" 168 (Value.builtin "__main__.__loader__#opaque"), kh p "__spec__" 169 Value.none, kh p "__annotations__" 170 (Value.ref 6), kh p "__builtins__" 171 (Value.ref 4), kh p "__file__" 173 (sv "/claim/cut.py" 172), kh p "__cached__" 174 Value.none, kh p "_wall" 193 (Value.ref 21), kh p "Whitespace" 295 (Value.ref 83), kh p "eq" 305 (Value.ref 94), kh p "add" 313 (Value.ref 101), kh p "mul" 321 (Value.ref 108), kh p "sub" 329 (Value.ref 115), kh p "concat" 338 (Value.ref 122), kh p "countOf" 348 (Value.ref 129)] 17) #[]
noncomputable def o12_11 (p : Params) : Obj := Obj.mk Value.none none (Data.fields #[Value.int 1 0, Value.int 0 0, Value.ref 20, Value.int 5 0, Value.int 0 0, Value.ref 27, Value.int 62 0, Value.int 0 0, Value.ref 93, Value.int 64 0, Value.int 0 0, Value.ref 100, Value.int 66 0, Value.int 0 0, Value.ref 107, Value.int 68 0, Value.int 0 0, Value.ref 114, Value.int 70 0, Value.int 0 0, Value.ref 121, Value.int 75 0, Value.int 0 0, Value.ref 128]) #[]
noncomputable def o15_11 (p : Params) : Obj := Obj.mk (Value.type "tuple") none (Data.seq #[]) #[]
noncomputable def o16_11 (p : Params) : Obj := Obj.mk Value.none none (Data.fields #[]) #[]
noncomputable def o17_11 (p : Params) : Obj := Obj.mk (Value.type "tuple") none (Data.seq #[sv "k" 190]) #[]
noncomputable def o18_11 (p : Params) : Obj := Obj.mk (Value.type "tuple") none (Data.seq #[]) #[]
noncomputable def o19_11 (p : Params) : Obj := Obj.mk Value.none none (Data.func (FuncData.mk (Str.ofString "_wall") (Str.ofString "_wall") (fA 0) (fB 0) (fS 0) 0 [] Value.none Value.none Value.none Value.none none Value.none Value.none 0)) #[]
noncomputable def o20_11 (p : Params) : Obj := Obj.mk (Value.type "code") none (Data.fields #[sv "_wall" 187, sv "_wall" 188, sv "/claim/cut.py" 189, Value.int 1 0, Value.int 1 0, Value.int 0 0, Value.int 0 0, Value.int 3 0, Value.ref 15, Value.bool true, Value.int 181 0, Value.ref 16, Value.none, Value.ref 17, Value.ref 18, Value.ref 19, Value.int 191 0, Value.int 1 0, sv "/claim/cut.py" 192]) #[]
noncomputable def o21_11 (p : Params) : Obj := Obj.mk (Value.type "function") none (Data.func (FuncData.mk (Str.ofString "_wall") (Str.ofString "_wall") (fA 0) (fB 0) (fS 0) 3 [] Value.none Value.none Value.none (sv "__main__" 164) none (Value.ref 20) Value.none 0)) #[]
noncomputable def o22_11 (p : Params) : Obj := Obj.mk (Value.type "tuple") none (Data.seq #[]) #[]
noncomputable def o23_11 (p : Params) : Obj := Obj.mk (Value.type "builtin_function_or_method") none (Data.fields #[Value.builtin "type.__prepare__", Value.type "type"]) #[]
noncomputable def o24_11 (p : Params) : Obj := Obj.mk (Value.type "dict") none (Data.dict #[kh p "__module__" 203 (sv "cpy313.tabnanny" 194), kh p "__qualname__" 205 (sv "Whitespace" 204), kh p "__firstlineno__" 207 (Value.int 5 206), kh p "S" 211 (sv " " 209), kh p "T" 212 (sv "\t" 210), kh p "__init__" 227 (Value.ref 38), kh p "longest_run_of_spaces" 236 (Value.ref 45), kh p "indent_level" 248 (Value.ref 52), kh p "equal" 256 (Value.ref 59), kh p "not_equal_witness" 264 (Value.ref 66), kh p "less" 274 (Value.ref 73), kh p "not_less_witness" 282 (Value.ref 80), kh p "__static_attributes__" 288 (Value.ref 81)] 13) #[]
noncomputable def o25_11 (p : Params) : Obj := Obj.mk (Value.type "tuple") none (Data.seq #[]) #[]
noncomputable def o26_11 (p : Params) : Obj := Obj.mk Value.none none (Data.fields #[Value.int 8 0, Value.int 4 0, Value.ref 37, Value.int 31 0, Value.int 4 0, Value.ref 44, Value.int 35 0, Value.int 4 0, Value.ref 51, Value.int 42 0, Value.int 4 0, Value.ref 58, Value.int 45 0, Value.int 4 0, Value.ref 65, Value.int 48 0, Value.int 4 0, Value.ref 72, Value.int 59 0, Value.int 4 0, Value.ref 79]) #[]
noncomputable def o27_11 (p : Params) : Obj := Obj.mk (Value.type "code") none (Data.fields #[sv "Whitespace" 198, sv "Whitespace" 199, sv "/claim/cut.py" 200, Value.int 5 0, Value.int 0 0, Value.int 0 0, Value.int 0 0, Value.int 0 0, Value.ref 25, Value.bool false, Value.int 181 0, Value.ref 26, Value.none, Value.none, Value.none, Value.none, Value.int 201 0, Value.int 5 0, sv "/claim/cut.py" 202]) #[]
noncomputable def o28_11 (p : Params) : Obj := Obj.mk (Value.type "frame") none Data.plain #[some (Value.ref 27), some (Value.ref 3), some (Value.ref 24), none, some (sv "cpy313.tabnanny" 194), none, some (Value.ref 0)]
noncomputable def o29_11 (p : Params) : Obj := Obj.mk (Value.type "str_ascii_iterator") none (Data.fields #[Value.none, Value.int 2 0]) #[]
noncomputable def o30_11 (p : Params) : Obj := Obj.mk (Value.type "tuple") none (Data.seq #[]) #[]
noncomputable def o31_11 (p : Params) : Obj := Obj.mk (Value.type "StopIteration") none (Data.fields #[Value.ref 30, Value.none, Value.none, Value.none, Value.bool false, Value.none]) #[]
noncomputable def o32_11 (p : Params) : Obj := Obj.mk (Value.type "tuple") none (Data.seq #[]) #[]
noncomputable def o33_11 (p : Params) : Obj := Obj.mk Value.none none (Data.fields #[]) #[]
noncomputable def o34_11 (p : Params) : Obj := Obj.mk (Value.type "tuple") none (Data.seq #[sv "self" 216, sv "ws" 217, sv "S" 218, sv "T" 219, sv "count" 220, sv "b" 221, sv "n" 222, sv "nt" 223, sv "ch" 224]) #[]
noncomputable def o35_11 (p : Params) : Obj := Obj.mk (Value.type "tuple") none (Data.seq #[]) #[]
noncomputable def o36_11 (p : Params) : Obj := Obj.mk Value.none none (Data.func (FuncData.mk (Str.ofString "__init__") (Str.ofString "Whitespace.__init__") (fA 1) (fB 1) (fS 1) 0 [] Value.none Value.none Value.none Value.none none Value.none Value.none 0)) #[]
noncomputable def o37_11 (p : Params) : Obj := Obj.mk (Value.type "code") none (Data.fields #[sv "__init__" 213, sv "Whitespace.__init__" 214, sv "/claim/cut.py" 215, Value.int 8 0, Value.int 2 0, Value.int 0 0, Value.int 0 0, Value.int 3 0, Value.ref 32, Value.bool true, Value.int 181 0, Value.ref 33, Value.none, Value.ref 34, Value.ref 35, Value.ref 36, Value.int 225 0, Value.int 8 0, sv "/claim/cut.py" 226]) #[]
noncomputable def o38_11 (p : Params) : Obj := Obj.mk (Value.type "function") none (Data.func (FuncData.mk (Str.ofString "__init__") (Str.ofString "Whitespace.__init__") (fA 1) (fB 1) (fS 1) 3 [] Value.none Value.none Value.none (sv "cpy313.tabnanny" 194) none (Value.ref 37) Value.none 0)) #[]
noncomputable def o39_11 (p : Params) : Obj := Obj.mk (Value.type "tuple") none (Data.seq #[]) #[]
noncomputable def o40_11 (p : Params) : Obj := Obj.mk Value.none none (Data.fields #[]) #[]
noncomputable def o41_11 (p : Params) : Obj := Obj.mk (Value.type "tuple") none (Data.seq #[sv "self" 231, sv "count" 232, sv "trailing" 233]) #[]
noncomputable def o42_11 (p : Params) : Obj := Obj.mk (Value.type "tuple") none (Data.seq #[]) #[]
noncomputable def o43_11 (p : Params) : Obj := Obj.mk Value.none none (Data.func (FuncData.mk (Str.ofString "longest_run_of_spaces") (Str.ofString "Whitespace.longest_run_of_spaces") (fA 2) (fB 2) (fS 2) 0 [] Value.none Value.none Value.none Value.none none Value.none Value.none 0)) #[]
noncomputable def o44_11 (p : Params) : Obj := Obj.mk (Value.type "code") none (Data.fields #[sv "longest_run_of_spaces" 228, sv "Whitespace.longest_run_of_spaces" 229, sv "/claim/cut.py" 230, Value.int 31 0, Value.int 1 0, Value.int 0 0, Value.int 0 0, Value.int 3 0, Value.ref 39, Value.bool true, Value.int 181 0, Value.ref 40, Value.none, Value.ref 41, Value.ref 42, Value.ref 43, Value.int 234 0, Value.int 31 0, sv "/claim/cut.py" 235]) #[]
noncomputable def o45_11 (p : Params) : Obj := Obj.mk (Value.type "function") none (Data.func (FuncData.mk (Str.ofString "longest_run_of_spaces") (Str.ofString "Whitespace.longest_run_of_spaces") (fA 2) (fB 2) (fS 2) 3 [] Value.none Value.none Value.none (sv "cpy313.tabnanny" 194) none (Value.ref 44) Value.none 0)) #[]
noncomputable def o46_11 (p : Params) : Obj := Obj.mk (Value.type "tuple") none (Data.seq #[]) #[]
noncomputable def o47_11 (p : Params) : Obj := Obj.mk Value.none none (Data.fields #[]) #[]
noncomputable def o48_11 (p : Params) : Obj := Obj.mk (Value.type "tuple") none (Data.seq #[sv "self" 240, sv "tabsize" 241, sv "count" 242, sv "trailing" 243, sv "il" 244, sv "i" 245]) #[]
noncomputable def o49_11 (p : Params) : Obj := Obj.mk (Value.type "tuple") none (Data.seq #[]) #[]
noncomputable def o50_11 (p : Params) : Obj := Obj.mk Value.none none (Data.func (FuncData.mk (Str.ofString "indent_level") (Str.ofString "Whitespace.indent_level") (fA 3) (fB 3) (fS 3) 0 [] Value.none Value.none Value.none Value.none none Value.none Value.none 0)) #[]
noncomputable def o51_11 (p : Params) : Obj := Obj.mk (Value.type "code") none (Data.fields #[sv "indent_level" 237, sv "Whitespace.indent_level" 238, sv "/claim/cut.py" 239, Value.int 35 0, Value.int 2 0, Value.int 0 0, Value.int 0 0, Value.int 3 0, Value.ref 46, Value.bool true, Value.int 181 0, Value.ref 47, Value.none, Value.ref 48, Value.ref 49, Value.ref 50, Value.int 246 0, Value.int 35 0, sv "/claim/cut.py" 247]) #[]
noncomputable def o52_11 (p : Params) : Obj := Obj.mk (Value.type "function") none (Data.func (FuncData.mk (Str.ofString "indent_level") (Str.ofString "Whitespace.indent_level") (fA 3) (fB 3) (fS 3) 3 [] Value.none Value.none Value.none (sv "cpy313.tabnanny" 194) none (Value.ref 51) Value.none 0)) #[]
noncomputable def o53_11 (p : Params) : Obj := Obj.mk (Value.type "tuple") none (Data.seq #[]) #[]
noncomputable def o54_11 (p : Params) : Obj := Obj.mk Value.none none (Data.fields #[]) #[]
noncomputable def o55_11 (p : Params) : Obj := Obj.mk (Value.type "tuple") none (Data.seq #[sv "self" 252, sv "other" 253]) #[]
noncomputable def o56_11 (p : Params) : Obj := Obj.mk (Value.type "tuple") none (Data.seq #[]) #[]
noncomputable def o57_11 (p : Params) : Obj := Obj.mk Value.none none (Data.func (FuncData.mk (Str.ofString "equal") (Str.ofString "Whitespace.equal") (fA 4) (fB 4) (fS 4) 0 [] Value.none Value.none Value.none Value.none none Value.none Value.none 0)) #[]
noncomputable def o58_11 (p : Params) : Obj := Obj.mk (Value.type "code") none (Data.fields #[sv "equal" 249, sv "Whitespace.equal" 250, sv "/claim/cut.py" 251, Value.int 42 0, Value.int 2 0, Value.int 0 0, Value.int 0 0, Value.int 3 0, Value.ref 53, Value.bool true, Value.int 181 0, Value.ref 54, Value.none, Value.ref 55, Value.ref 56, Value.ref 57, Value.int 254 0, Value.int 42 0, sv "/claim/cut.py" 255]) #[]
noncomputable def o59_11 (p : Params) : Obj := Obj.mk (Value.type "function") none (Data.func (FuncData.mk (Str.ofString "equal") (Str.ofString "Whitespace.equal") (fA 4) (fB 4) (fS 4) 3 [] Value.none Value.none Value.none (sv "cpy313.tabnanny" 194) none (Value.ref 58) Value.none 0)) #[]
noncomputable def o60_11 (p : Params) : Obj := Obj.mk (Value.type "tuple") none (Data.seq #[]) #[]
noncomputable def o61_11 (p : Params) : Obj := Obj.mk Value.none none (Data.fields #[]) #[]
noncomputable def o62_11 (p : Params) : Obj := Obj.mk (Value.type "tuple") none (Data.seq #[sv "self" 260, sv "other" 261]) #[]
noncomputable def o63_11 (p : Params) : Obj := Obj.mk (Value.type "tuple") none (Data.seq #[]) #[]
noncomputable def o64_11 (p : Params) : Obj := Obj.mk Value.none none (Data.func (FuncData.mk (Str.ofString "not_equal_witness") (Str.ofString "Whitespace.not_equal_witness") (fA 5) (fB 5) (fS 5) 0 [] Value.none Value.none Value.none Value.none none Value.none Value.none 0)) #[]
noncomputable def o65_11 (p : Params) : Obj := Obj.mk (Value.type "code") none (Data.fields #[sv "not_equal_witness" 257, sv "Whitespace.not_equal_witness" 258, sv "/claim/cut.py" 259, Value.int 45 0, Value.int 2 0, Value.int 0 0, Value.int 0 0, Value.int 3 0, Value.ref 60, Value.bool true, Value.int 181 0, Value.ref 61, Value.none, Value.ref 62, Value.ref 63, Value.ref 64, Value.int 262 0, Value.int 45 0, sv "/claim/cut.py" 263]) #[]
noncomputable def o66_11 (p : Params) : Obj := Obj.mk (Value.type "function") none (Data.func (FuncData.mk (Str.ofString "not_equal_witness") (Str.ofString "Whitespace.not_equal_witness") (fA 5) (fB 5) (fS 5) 3 [] Value.none Value.none Value.none (sv "cpy313.tabnanny" 194) none (Value.ref 65) Value.none 0)) #[]
noncomputable def o67_11 (p : Params) : Obj := Obj.mk (Value.type "tuple") none (Data.seq #[]) #[]
noncomputable def o68_11 (p : Params) : Obj := Obj.mk Value.none none (Data.fields #[]) #[]
noncomputable def o69_11 (p : Params) : Obj := Obj.mk (Value.type "tuple") none (Data.seq #[sv "self" 268, sv "other" 269, sv "n" 270, sv "ts" 271]) #[]
noncomputable def o70_11 (p : Params) : Obj := Obj.mk (Value.type "tuple") none (Data.seq #[]) #[]
noncomputable def o71_11 (p : Params) : Obj := Obj.mk Value.none none (Data.func (FuncData.mk (Str.ofString "less") (Str.ofString "Whitespace.less") (fA 6) (fB 6) (fS 6) 0 [] Value.none Value.none Value.none Value.none none Value.none Value.none 0)) #[]
noncomputable def o72_11 (p : Params) : Obj := Obj.mk (Value.type "code") none (Data.fields #[sv "less" 265, sv "Whitespace.less" 266, sv "/claim/cut.py" 267, Value.int 48 0, Value.int 2 0, Value.int 0 0, Value.int 0 0, Value.int 3 0, Value.ref 67, Value.bool true, Value.int 181 0, Value.ref 68, Value.none, Value.ref 69, Value.ref 70, Value.ref 71, Value.int 272 0, Value.int 48 0, sv "/claim/cut.py" 273]) #[]
noncomputable def o73_11 (p : Params) : Obj := Obj.mk (Value.type "function") none (Data.func (FuncData.mk (Str.ofString "less") (Str.ofString "Whitespace.less") (fA 6) (fB 6) (fS 6) 3 [] Value.none Value.none Value.none (sv "cpy313.tabnanny" 194) none (Value.ref 72) Value.none 0)) #[]
noncomputable def o74_11 (p : Params) : Obj := Obj.mk (Value.type "tuple") none (Data.seq #[]) #[]
noncomputable def o75_11 (p : Params) : Obj := Obj.mk Value.none none (Data.fields #[]) #[]
noncomputable def o76_11 (p : Params) : Obj := Obj.mk (Value.type "tuple") none (Data.seq #[sv "self" 278, sv "other" 279]) #[]
noncomputable def o77_11 (p : Params) : Obj := Obj.mk (Value.type "tuple") none (Data.seq #[]) #[]
noncomputable def o78_11 (p : Params) : Obj := Obj.mk Value.none none (Data.func (FuncData.mk (Str.ofString "not_less_witness") (Str.ofString "Whitespace.not_less_witness") (fA 7) (fB 7) (fS 5) 0 [] Value.none Value.none Value.none Value.none none Value.none Value.none 0)) #[]
noncomputable def o79_11 (p : Params) : Obj := Obj.mk (Value.type "code") none (Data.fields #[sv "not_less_witness" 275, sv "Whitespace.not_less_witness" 276, sv "/claim/cut.py" 277, Value.int 59 0, Value.int 2 0, Value.int 0 0, Value.int 0 0, Value.int 3 0, Value.ref 74, Value.bool true, Value.int 181 0, Value.ref 75, Value.none, Value.ref 76, Value.ref 77, Value.ref 78, Value.int 280 0, Value.int 59 0, sv "/claim/cut.py" 281]) #[]
noncomputable def o80_11 (p : Params) : Obj := Obj.mk (Value.type "function") none (Data.func (FuncData.mk (Str.ofString "not_less_witness") (Str.ofString "Whitespace.not_less_witness") (fA 7) (fB 7) (fS 5) 3 [] Value.none Value.none Value.none (sv "cpy313.tabnanny" 194) none (Value.ref 79) Value.none 0)) #[]
noncomputable def o81_11 (p : Params) : Obj := Obj.mk (Value.type "tuple") none (Data.seq #[sv "is_simple" 283, sv "n" 284, sv "norm" 285, sv "nt" 286, sv "raw" 287]) #[]
noncomputable def o82_11 (p : Params) : Obj := Obj.mk (Value.type "dict") none (Data.dict #[kh p "__module__" 203 (sv "cpy313.tabnanny" 194), kh p "__firstlineno__" 207 (Value.int 5 206), kh p "S" 211 (sv " " 209), kh p "T" 212 (sv "\t" 210), kh p "__init__" 227 (Value.ref 38), kh p "longest_run_of_spaces" 236 (Value.ref 45), kh p "indent_level" 248 (Value.ref 52), kh p "equal" 256 (Value.ref 59), kh p "not_equal_witness" 264 (Value.ref 66), kh p "less" 274 (Value.ref 73), kh p "not_less_witness" 282 (Value.ref 80), kh p "__static_attributes__" 288 (Value.ref 81), kh p "__dict__" 290 (Value.ref 84), kh p "__weakref__" 292 (Value.ref 85), kh p "__doc__" 293 Value.none] 4) #[]
noncomputable def o83_11 (p : Params) : Obj := Obj.mk (Value.type "type") none (Data.cls (ClassData.mk (Str.ofString "Whitespace") [Value.type "object"] [Value.ref 83, Value.type "object"] 82 (Str.ofString "Whitespace") true [] [] false none false)) #[none, none, some (sv "Whitespace" 196), some (sv "Whitespace" 204), some (Value.builtin "object.__new__"), some (Value.bool true)]
noncomputable def o84_11 (p : Params) : Obj := Obj.mk (Value.type "getset_descriptor") none (Data.fields #[sv "__dict__" 289, Value.ref 83, Value.builtin "function.__dict__", Value.builtin "function.__dict__#set"]) #[]
noncomputable def o85_11 (p : Params) : Obj := Obj.mk (Value.type "getset_descriptor") none (Data.fields #[sv "__weakref__" 291, Value.ref 83, Value.builtin "ExceptionGroup.__weakref__", Value.none]) #[]
noncomputable def o86_11 (p : Params) : Obj := Obj.mk (Value.type "super") none (Data.fields #[Value.ref 83, Value.ref 83, Value.ref 83]) #[]
noncomputable def o87_11 (p : Params) : Obj := Obj.mk (Value.type "builtin_function_or_method") none (Data.fields #[Value.builtin "object.__init_subclass__", Value.ref 83]) #[]
noncomputable def o88_11 (p : Params) : Obj := Obj.mk (Value.type "tuple") none (Data.seq #[]) #[]
noncomputable def o89_11 (p : Params) : Obj := Obj.mk Value.none none (Data.fields #[]) #[]
noncomputable def o90_11 (p : Params) : Obj := Obj.mk (Value.type "tuple") none (Data.seq #[sv "a" 301, sv "b" 302]) #[]
noncomputable def o91_11 (p : Params) : Obj := Obj.mk (Value.type "tuple") none (Data.seq #[]) #[]
noncomputable def o92_11 (p : Params) : Obj := Obj.mk Value.none none (Data.func (FuncData.mk (Str.ofString "eq") (Str.ofString "eq") (fA 8) (fB 8) (fS 8) 0 [] Value.none Value.none Value.none Value.none none Value.none Value.none 0)) #[]
noncomputable def o93_11 (p : Params) : Obj := Obj.mk (Value.type "code") none (Data.fields #[sv "eq" 298, sv "eq" 299, sv "/claim/cut.py" 300, Value.int 62 0, Value.int 2 0, Value.int 0 0, Value.int 0 0, Value.int 3 0, Value.ref 88, Value.bool true, Value.int 181 0, Value.ref 89, Value.none, Value.ref 90, Value.ref 91, Value.ref 92, Value.int 303 0, Value.int 62 0, sv "/claim/cut.py" 304]) #[]
noncomputable def o94_11 (p : Params) : Obj := Obj.mk (Value.type "function") none (Data.func (FuncData.mk (Str.ofString "eq") (Str.ofString "eq") (fA 8) (fB 8) (fS 8) 3 [] Value.none Value.none Value.none (sv "cpy313.operator" 296) none (Value.ref 93) Value.none 0)) #[]
noncomputable def o95_11 (p : Params) : Obj := Obj.mk (Value.type "tuple") none (Data.seq #[]) #[]
noncomputable def o96_11 (p : Params) : Obj := Obj.mk Value.none none (Data.fields #[]) #[]
noncomputable def o97_11 (p : Params) : Obj := Obj.mk (Value.type "tuple") none (Data.seq #[sv "a" 309, sv "b" 310]) #[]
noncomputable def o98_11 (p : Params) : Obj := Obj.mk (Value.type "tuple") none (Data.seq #[]) #[]
noncomputable def o99_11 (p : Params) : Obj := Obj.mk Value.none none (Data.func (FuncData.mk (Str.ofString "add") (Str.ofString "add") (fA 9) (fB 9) (fS 8) 0 [] Value.none Value.none Value.none Value.none none Value.none Value.none 0)) #[]
noncomputable def o100_11 (p : Params) : Obj := Obj.mk (Value.type "code") none (Data.fields #[sv "add" 306, sv "add" 307, sv "/claim/cut.py" 308, Value.int 64 0, Value.int 2 0, Value.int 0 0, Value.int 0 0, Value.int 3 0, Value.ref 95, Value.bool true, Value.int 181 0, Value.ref 96, Value.none, Value.ref 97, Value.ref 98, Value.ref 99, Value.int 311 0, Value.int 64 0, sv "/claim/cut.py" 312]) #[]
noncomputable def o101_11 (p : Params) : Obj := Obj.mk (Value.type "function") none (Data.func (FuncData.mk (Str.ofString "add") (Str.ofString "add") (fA 9) (fB 9) (fS 8) 3 [] Value.none Value.none Value.none (sv "cpy313.operator" 296) none (Value.ref 100) Value.none 0)) #[]
noncomputable def o102_11 (p : Params) : Obj := Obj.mk (Value.type "tuple") none (Data.seq #[]) #[]
noncomputable def o103_11 (p : Params) : Obj := Obj.mk Value.none none (Data.fields #[]) #[]
noncomputable def o104_11 (p : Params) : Obj := Obj.mk (Value.type "tuple") none (Data.seq #[sv "a" 317, sv "b" 318]) #[]
noncomputable def o105_11 (p : Params) : Obj := Obj.mk (Value.type "tuple") none (Data.seq #[]) #[]
noncomputable def o106_11 (p : Params) : Obj := Obj.mk Value.none none (Data.func (FuncData.mk (Str.ofString "mul") (Str.ofString "mul") (fA 10) (fB 10) (fS 8) 0 [] Value.none Value.none Value.none Value.none none Value.none Value.none 0)) #[]
noncomputable def o107_11 (p : Params) : Obj := Obj.mk (Value.type "code") none (Data.fields #[sv "mul" 314, sv "mul" 315, sv "/claim/cut.py" 316, Value.int 66 0, Value.int 2 0, Value.int 0 0, Value.int 0 0, Value.int 3 0, Value.ref 102, Value.bool true, Value.int 181 0, Value.ref 103, Value.none, Value.ref 104, Value.ref 105, Value.ref 106, Value.int 319 0, Value.int 66 0, sv "/claim/cut.py" 320]) #[]
noncomputable def o108_11 (p : Params) : Obj := Obj.mk (Value.type "function") none (Data.func (FuncData.mk (Str.ofString "mul") (Str.ofString "mul") (fA 10) (fB 10) (fS 8) 3 [] Value.none Value.none Value.none (sv "cpy313.operator" 296) none (Value.ref 107) Value.none 0)) #[]
noncomputable def o109_11 (p : Params) : Obj := Obj.mk (Value.type "tuple") none (Data.seq #[]) #[]
noncomputable def o110_11 (p : Params) : Obj := Obj.mk Value.none none (Data.fields #[]) #[]
noncomputable def o111_11 (p : Params) : Obj := Obj.mk (Value.type "tuple") none (Data.seq #[sv "a" 325, sv "b" 326]) #[]
noncomputable def o112_11 (p : Params) : Obj := Obj.mk (Value.type "tuple") none (Data.seq #[]) #[]
noncomputable def o113_11 (p : Params) : Obj := Obj.mk Value.none none (Data.func (FuncData.mk (Str.ofString "sub") (Str.ofString "sub") (fA 11) (fB 11) (fS 8) 0 [] Value.none Value.none Value.none Value.none none Value.none Value.none 0)) #[]
noncomputable def o114_11 (p : Params) : Obj := Obj.mk (Value.type "code") none (Data.fields #[sv "sub" 322, sv "sub" 323, sv "/claim/cut.py" 324, Value.int 68 0, Value.int 2 0, Value.int 0 0, Value.int 0 0, Value.int 3 0, Value.ref 109, Value.bool true, Value.int 181 0, Value.ref 110, Value.none, Value.ref 111, Value.ref 112, Value.ref 113, Value.int 327 0, Value.int 68 0, sv "/claim/cut.py" 328]) #[]
noncomputable def o115_11 (p : Params) : Obj := Obj.mk (Value.type "function") none (Data.func (FuncData.mk (Str.ofString "sub") (Str.ofString "sub") (fA 11) (fB 11) (fS 8) 3 [] Value.none Value.none Value.none (sv "cpy313.operator" 296) none (Value.ref 114) Value.none 0)) #[]
noncomputable def o116_11 (p : Params) : Obj := Obj.mk (Value.type "tuple") none (Data.seq #[]) #[]
noncomputable def o117_11 (p : Params) : Obj := Obj.mk Value.none none (Data.fields #[]) #[]
noncomputable def o118_11 (p : Params) : Obj := Obj.mk (Value.type "tuple") none (Data.seq #[sv "a" 333, sv "b" 334, sv "msg" 335]) #[]
noncomputable def o119_11 (p : Params) : Obj := Obj.mk (Value.type "tuple") none (Data.seq #[]) #[]
noncomputable def o120_11 (p : Params) : Obj := Obj.mk Value.none none (Data.func (FuncData.mk (Str.ofString "concat") (Str.ofString "concat") (fA 12) (fB 12) (fS 12) 0 [] Value.none Value.none Value.none Value.none none Value.none Value.none 0)) #[]
noncomputable def o121_11 (p : Params) : Obj := Obj.mk (Value.type "code") none (Data.fields #[sv "concat" 330, sv "concat" 331, sv "/claim/cut.py" 332, Value.int 70 0, Value.int 2 0, Value.int 0 0, Value.int 0 0, Value.int 3 0, Value.ref 116, Value.bool true, Value.int 181 0, Value.ref 117, Value.none, Value.ref 118, Value.ref 119, Value.ref 120, Value.int 336 0, Value.int 70 0, sv "/claim/cut.py" 337]) #[]
noncomputable def o122_11 (p : Params) : Obj := Obj.mk (Value.type "function") none (Data.func (FuncData.mk (Str.ofString "concat") (Str.ofString "concat") (fA 12) (fB 12) (fS 12) 3 [] Value.none Value.none Value.none (sv "cpy313.operator" 296) none (Value.ref 121) Value.none 0)) #[]
noncomputable def o123_11 (p : Params) : Obj := Obj.mk (Value.type "tuple") none (Data.seq #[]) #[]
noncomputable def o124_11 (p : Params) : Obj := Obj.mk Value.none none (Data.fields #[]) #[]
noncomputable def o125_11 (p : Params) : Obj := Obj.mk (Value.type "tuple") none (Data.seq #[sv "a" 342, sv "b" 343, sv "count" 344, sv "i" 345]) #[]
noncomputable def o126_11 (p : Params) : Obj := Obj.mk (Value.type "tuple") none (Data.seq #[]) #[]
noncomputable def o127_11 (p : Params) : Obj := Obj.mk Value.none none (Data.func (FuncData.mk (Str.ofString "countOf") (Str.ofString "countOf") (fA 13) (fB 13) (fS 13) 0 [] Value.none Value.none Value.none Value.none none Value.none Value.none 0)) #[]
noncomputable def o128_11 (p : Params) : Obj := Obj.mk (Value.type "code") none (Data.fields #[sv "countOf" 339, sv "countOf" 340, sv "/claim/cut.py" 341, Value.int 75 0, Value.int 2 0, Value.int 0 0, Value.int 0 0, Value.int 3 0, Value.ref 123, Value.bool true, Value.int 181 0, Value.ref 124, Value.none, Value.ref 125, Value.ref 126, Value.ref 127, Value.int 346 0, Value.int 75 0, sv "/claim/cut.py" 347]) #[]
noncomputable def o129_11 (p : Params) : Obj := Obj.mk (Value.type "function") none (Data.func (FuncData.mk (Str.ofString "countOf") (Str.ofString "countOf") (fA 13) (fB 13) (fS 13) 3 [] Value.none Value.none Value.none (sv "cpy313.operator" 296) none (Value.ref 128) Value.none 0)) #[]
noncomputable def o3_12 (p : Params) : Obj := Obj.mk (Value.type "dict") none (Data.dict #[kh p "__name__" 165 (sv "cpy313.stringprep" 349), kh p "__doc__" 166 Value.none, kh p "__package__" 167 Value.none, kh p "__loader__" 168 (Value.builtin "__main__.__loader__#opaque"), kh p "__spec__" 169 Value.none, kh p "__annotations__" 170 (Value.ref 6), kh p "__builtins__" 171 (Value.ref 4), kh p "__file__" 173 (sv "/claim/cut.py" 172), kh p "__cached__" 174 Value.none, kh p "_wall" 193 (Value.ref 21), kh p "Whitespace" 295 (Value.ref 83), kh p "eq" 305 (Value.ref 94), kh p "add" 313 (Value.ref 101), kh p "mul" 321 (Value.ref 108), kh p "sub" 329 (Value.ref 115), kh p "concat" 338 (Value.ref 122), kh p "countOf" 348 (Value.ref 129), kh p "b1_set" 410 (Value.ref 137)] 18) #[]
noncomputable def o130_12 (p : Params) : Obj := Obj.mk (Value.type "list") none (Data.seq #[Value.int 173 351, Value.int 847 352, Value.int 6150 353, Value.int 6155 354, Value.int 6156 355, Value.int 6157 356, Value.int 8203 357, Value.int 8204 358, Value.int 8205 359, Value.int 8288 360, Value.int 65279 361]) #[]
noncomputable def o131_12 (p : Params) : Obj := Obj.mk (Value.type "range") none (Data.fields #[Value.int 65024 362, Value.int 65040 363, Value.int 1 364]) #[]
noncomputable def o132_12 (p : Params) : Obj := Obj.mk (Value.type "list") none (Data.seq #[Value.int 65024 367, Value.int 65025 368, Value.int 65026 369, Value.int 65027 370, Value.int 65028 371, Value.int 65029 372, Value.int 65030 373, Value.int 65031 374, Value.int 65032 375, Value.int 65033 376, Value.int 65034 377, Value.int 65035 378, Value.int 65036 379, Value.int 65037 380, Value.int 65038 381, Value.int 65039 382] 18) #[]
noncomputable def o133_12 (p : Params) : Obj := Obj.mk (Value.type "range_iterator") none (Data.fields #[Value.int 65040 0, Value.int 0 0, Value.int 1 0]) #[]
noncomputable def o134_12 (p : Params) : Obj := Obj.mk (Value.type "tuple") none (Data.seq #[]) #[]
noncomputable def o135_12 (p : Params) : Obj := Obj.mk (Value.type "StopIteration") none (Data.fields #[Value.ref 134, Value.none, Value.none, Value.none, Value.bool false, Value.none]) #[]
noncomputable def o136_12 (p : Params) : Obj := Obj.mk (Value.type "list") none (Data.seq #[Value.int 173 351, Value.int 847 352, Value.int 6150 353, Value.int 6155 354, Value.int 6156 355, Value.int 6157 356, Value.int 8203 357, Value.int 8204 358, Value.int 8205 359, Value.int 8288 360, Value.int 65279 361, Value.int 65024 367, Value.int 65025 368, Value.int 65026 369, Value.int 65027 370, Value.int 65028 371, Value.int 65029 372, Value.int 65030 373, Value.int 65031 374, Value.int 65032 375, Value.int 65033 376, Value.int 65034 377, Value.int 65035 378, Value.int 65036 379, Value.int 65037 380, Value.int 65038 381, Value.int 65039 382]) #[]
noncomputable def o137_12 (p : Params) : Obj := Obj.mk (Value.type "set") none (Data.set #[(65024, Value.int 65024 367), (65025, Value.int 65025 368), (65026, Value.int 65026 369), (65027, Value.int 65027 370), (65028, Value.int 65028 371), (65029, Value.int 65029 372), (6150, Value.int 6150 353), (65030, Value.int 65030 373), (65031, Value.int 65031 374), (65032, Value.int 65032 375), (65033, Value.int 65033 376), (6155, Value.int 6155 354), (6156, Value.int 6156 355), (6157, Value.int 6157 356), (8203, Value.int 8203 357), (8204, Value.int 8204 358), (8205, Value.int 8205 359), (65034, Value.int 65034 377), (65035, Value.int 65035 378), (65036, Value.int 65036 379), (65037, Value.int 65037 380), (65038, Value.int 65038 381), (65039, Value.int 65039 382), (173, Value.int 173 351), (847, Value.int 847 352), (8288, Value.int 8288 360), (65279, Value.int 65279 361)] 29 (SetTable.mk 127 #[0, 1, 2, 3, 4, 5, 6, 7, 8, 9, 10, 11, 12, 13, 14, 15, 16, 17, 18, 19, 20, 21, 22, 45, 79, 96, 127] #[] 0 (!p.followText "set-order") 2 true)) #[]
noncomputable def o138_12 (p : Params) : Obj := Obj.mk (Value.type "list_iterator") none (Data.fields #[Value.none, Value.int 27 0]) #[]
noncomputable def o139_12 (p : Params) : Obj := Obj.mk (Value.type "tuple") none (Data.seq #[]) #[]
noncomputable def o140_12 (p : Params) : Obj := Obj.mk (Value.type "StopIteration") none (Data.fields #[Value.ref 139, Value.none, Value.none, Value.none, Value.bool false, Value.none]) #[]
noncomputable def o3_13 (p : Params) : Obj := Obj.mk (Value.type "dict") none (Data.dict #[kh p "__name__" 165 (sv "cpy313.stringprep" 349), kh p "__doc__" 166 Value.none, kh p "__package__" 167 Value.none, kh p "__loader__" 168 (Value.builtin "__main__.__loader__#opaque"), kh p "__spec__" 169 Value.none, kh p "__annotations__" 170 (Value.ref 6), kh p "__builtins__" 171 (Value.ref 4), kh p "__file__" 173 (sv "/claim/cut.py" 172), kh p "__cached__" 174 Value.none, kh p "_wall" 193 (Value.ref 21), kh p "Whitespace" 295 (Value.ref 83), kh p "eq" 305 (Value.ref 94), kh p "add" 313 (Value.ref 101), kh p "mul" 321 (Value.ref 108), kh p "sub" 329 (Value.ref 115), kh p "concat" 338 (Value.ref 122), kh p "countOf" 348 (Value.ref 129), kh p "b1_set" 410 (Value.ref 137), kh p "in_table_b1" 417 (Value.ref 147)] 19) #[]
noncomputable def o12_13 (p : Params) : Obj := Obj.mk Value.none none (Data.fields #[Value.int 1 0, Value.int 0 0, Value.ref 20, Value.int 5 0, Value.int 0 0, Value.ref 27, Value.int 62 0, Value.int 0 0, Value.ref 93, Value.int 64 0, Value.int 0 0, Value.ref 100, Value.int 66 0, Value.int 0 0, Value.ref 107, Value.int 68 0, Value.int 0 0, Value.ref 114, Value.int 70 0, Value.int 0 0, Value.ref 121, Value.int 75 0, Value.int 0 0, Value.ref 128, Value.int 83 0, Value.int 0 0, Value.ref 146]) #[]
noncomputable def o141_13 (p : Params) : Obj := Obj.mk (Value.type "tuple") none (Data.seq #[]) #[]
noncomputable def o142_13 (p : Params) : Obj := Obj.mk Value.none none (Data.fields #[]) #[]
noncomputable def o143_13 (p : Params) : Obj := Obj.mk (Value.type "tuple") none (Data.seq #[sv "code" 414]) #[]
noncomputable def o144_13 (p : Params) : Obj := Obj.mk (Value.type "tuple") none (Data.seq #[]) #[]
noncomputable def o145_13 (p : Params) : Obj := Obj.mk Value.none none (Data.func (FuncData.mk (Str.ofString "in_table_b1") (Str.ofString "in_table_b1") (fA 14) (fB 14) (fS 14) 0 [] Value.none Value.none Value.none Value.none none Value.none Value.none 0)) #[]
noncomputable def o146_13 (p : Params) : Obj := Obj.mk (Value.type "code") none (Data.fields #[sv "in_table_b1" 411, sv "in_table_b1" 412, sv "/claim/cut.py" 413, Value.int 83 0, Value.int 1 0, Value.int 0 0, Value.int 0 0, Value.int 3 0, Value.ref 141, Value.bool true, Value.int 181 0, Value.ref 142, Value.none, Value.ref 143, Value.ref 144, Value.ref 145, Value.int 415 0, Value.int 83 0, sv "/claim/cut.py" 416]) #[]
noncomputable def o147_13 (p : Params) : Obj := Obj.mk (Value.type "function") none (Data.func (FuncData.mk (Str.ofString "in_table_b1") (Str.ofString "in_table_b1") (fA 14) (fB 14) (fS 14) 3 [] Value.none Value.none Value.none (sv "cpy313.stringprep" 349) none (Value.ref 146) Value.none 0)) #[]
noncomputable def o3_14 (p : Params) : Obj := Obj.mk (Value.type "dict") none (Data.dict #[kh p "__name__" 165 (sv "cpy313.stringprep" 349), kh p "__doc__" 166 Value.none, kh p "__package__" 167 Value.none, kh p "__loader__" 168 (Value.builtin "__main__.__loader__#opaque"), kh p "__spec__" 169 Value.none, kh p "__annotations__" 170 (Value.ref 6), kh p "__builtins__" 171 (Value.ref 4), kh p "__file__" 173 (sv "/claim/cut.py" 172), kh p "__cached__" 174 Value.none, kh p "_wall" 193 (Value.ref 21), kh p "Whitespace" 295 (Value.ref 83), kh p "eq" 305 (Value.ref 94), kh p "add" 313 (Value.ref 101), kh p "mul" 321 (Value.ref 108), kh p "sub" 329 (Value.ref 115), kh p "concat" 338 (Value.ref 122), kh p "countOf" 348 (Value.ref 129), kh p "b1_set" 410 (Value.ref 137), kh p "in_table_b1" 417 (Value.ref 147), kh p "b3_exceptions" 2368 (Value.ref 148)] 20) #[]
noncomputable def o3_25 (p : Params) : Obj := Obj.mk (Value.type "dict") none (Data.dict #[kh p "__name__" 165 (sv "law_tl0043_01" 2377), kh p "__doc__" 166 Value.none, kh p "__package__" 167 Value.none, kh p "__loader__" 168 (Value.builtin "__main__.__loader__#opaque"), kh p "__spec__" 169 Value.none, kh p "__annotations__" 170 (Value.ref 6), kh p "__builtins__" 171 (Value.ref 4), kh p "__file__" 173 (sv "/claim/cut.py" 172), kh p "__cached__" 174 Value.none, kh p "_wall" 193 (Value.ref 21), kh p "Whitespace" 295 (Value.ref 83), kh p "eq" 305 (Value.ref 94), kh p "add" 313 (Value.ref 101), kh p "mul" 321 (Value.ref 108), kh p "sub" 329 (Value.ref 115), kh p "concat" 338 (Value.ref 122), kh p "countOf" 348 (Value.ref 129), kh p "b1_set" 410 (Value.ref 137), kh p "in_table_b1" 417 (Value.ref 147), kh p "b3_exceptions" 2368 (Value.ref 148), kh p "map_table_b3" 2376 (Value.ref 193), kh p "_law_moved" 2384 (Value.ref 198), kh p "_law_typed" 2402 (Value.ref 205), kh p "_law_prepared" 2412 (Value.ref 212), kh p "_law_leads" 2423 (Value.ref 219), kh p "_law_done" 2435 (Value.ref 226), kh p "_law_ways" 2447 (Value.ref 233), kh p "_law_summed" 2460 (Value.ref 240), kh p "_law_product" 2471 (Value.ref 247), kh p "law" 2477 (Value.ref 252)] 30) #[]
noncomputable def o12_25 (p : Params) : Obj := Obj.mk Value.none none (Data.fields #[Value.int 1 0, Value.int 0 0, Value.ref 20, Value.int 5 0, Value.int 0 0, Value.ref 27, Value.int 62 0, Value.int 0 0, Value.ref 93, Value.int 64 0, Value.int 0 0, Value.ref 100, Value.int 66 0, Value.int 0 0, Value.ref 107, Value.int 68 0, Value.int 0 0, Value.ref 114, Value.int 70 0, Value.int 0 0, Value.ref 121, Value.int 75 0, Value.int 0 0, Value.ref 128, Value.int 83 0, Value.int 0 0, Value.ref 146, Value.int 86 0, Value.int 0 0, Value.ref 192, Value.int 92 0, Value.int 0 0, Value.ref 197, Value.int 103 0, Value.int 0 0, Value.ref 204, Value.int 124 0, Value.int 0 0, Value.ref 211, Value.int 133 0, Value.int 0 0, Value.ref 218, Value.int 144 0, Value.int 0 0, Value.ref 225, Value.int 153 0, Value.int 0 0, Value.ref 232, Value.int 164 0, Value.int 0 0, Value.ref 239, Value.int 172 0, Value.int 0 0, Value.ref 246, Value.int 177 0, Value.int 0 0, Value.ref 251]) #[]
noncomputable def o187_25 (p : Params) : Obj := Obj.mk (Value.type "tuple") none (Data.seq #[]) #[]
noncomputable def o188_25 (p : Params) : Obj := Obj.mk Value.none none (Data.fields #[]) #[]
noncomputable def o189_25 (p : Params) : Obj := Obj.mk (Value.type "tuple") none (Data.seq #[sv "code" 2372, sv "r" 2373]) #[]
noncomputable def o190_25 (p : Params) : Obj := Obj.mk (Value.type "tuple") none (Data.seq #[]) #[]
noncomputable def o191_25 (p : Params) : Obj := Obj.mk Value.none none (Data.func (FuncData.mk (Str.ofString "map_table_b3") (Str.ofString "map_table_b3") (fA 15) (fB 15) (fS 15) 0 [] Value.none Value.none Value.none Value.none none Value.none Value.none 0)) #[]
noncomputable def o192_25 (p : Params) : Obj := Obj.mk (Value.type "code") none (Data.fields #[sv "map_table_b3" 2369, sv "map_table_b3" 2370, sv "/claim/cut.py" 2371, Value.int 86 0, Value.int 1 0, Value.int 0 0, Value.int 0 0, Value.int 3 0, Value.ref 187, Value.bool true, Value.int 181 0, Value.ref 188, Value.none, Value.ref 189, Value.ref 190, Value.ref 191, Value.int 2374 0, Value.int 86 0, sv "/claim/cut.py" 2375]) #[]
noncomputable def o193_25 (p : Params) : Obj := Obj.mk (Value.type "function") none (Data.func (FuncData.mk (Str.ofString "map_table_b3") (Str.ofString "map_table_b3") (fA 15) (fB 15) (fS 15) 3 [] Value.none Value.none Value.none (sv "cpy313.stringprep" 349) none (Value.ref 192) Value.none 0)) #[]
noncomputable def o194_25 (p : Params) : Obj := Obj.mk (Value.type "tuple") none (Data.seq #[]) #[]
noncomputable def o195_25 (p : Params) : Obj := Obj.mk Value.none none (Data.fields #[]) #[]
noncomputable def o196_25 (p : Params) : Obj := Obj.mk Value.none none (Data.func (FuncData.mk (Str.ofString "_law_moved") (Str.ofString "_law_moved") (fA 16) (fB 16) (fS 16) 0 [] Value.none Value.none Value.none Value.none none Value.none Value.none 0)) #[]
noncomputable def o197_25 (p : Params) : Obj := Obj.mk (Value.type "code") none (Data.fields #[sv "_law_moved" 2379, sv "_law_moved" 2380, sv "/claim/cut.py" 2381, Value.int 92 0, Value.int 2 0, Value.int 0 0, Value.int 0 0, Value.int 3 0, Value.ref 194, Value.bool true, Value.int 181 0, Value.ref 195, Value.none, Value.none, Value.none, Value.ref 196, Value.int 2382 0, Value.int 92 0, sv "/claim/cut.py" 2383]) #[]
noncomputable def o198_25 (p : Params) : Obj := Obj.mk (Value.type "function") none (Data.func (FuncData.mk (Str.ofString "_law_moved") (Str.ofString "_law_moved") (fA 16) (fB 16) (fS 16) 3 [] Value.none Value.none Value.none (sv "law_tl0043_01" 2377) none (Value.ref 197) Value.none 0)) #[]
noncomputable def o199_25 (p : Params) : Obj := Obj.mk (Value.type "tuple") none (Data.seq #[]) #[]
noncomputable def o200_25 (p : Params) : Obj := Obj.mk Value.none none (Data.fields #[]) #[]
noncomputable def o201_25 (p : Params) : Obj := Obj.mk (Value.type "tuple") none (Data.seq #[sv "word" 2388, sv "spelling" 2389, sv "unseen" 2390, sv "text" 2391, sv "at" 2392, sv "hidden" 2393, sv "twin" 2394, sv "pair" 2395, sv "code" 2396, sv "width" 2397, sv "form" 2398, sv "place" 2399]) #[]
noncomputable def o202_25 (p : Params) : Obj := Obj.mk (Value.type "tuple") none (Data.seq #[]) #[]
noncomputable def o203_25 (p : Params) : Obj := Obj.mk Value.none none (Data.func (FuncData.mk (Str.ofString "_law_typed") (Str.ofString "_law_typed") (fA 17) (fB 17) (fS 17) 0 [] Value.none Value.none Value.none Value.none none Value.none Value.none 0)) #[]
noncomputable def o204_25 (p : Params) : Obj := Obj.mk (Value.type "code") none (Data.fields #[sv "_law_typed" 2385, sv "_law_typed" 2386, sv "/claim/cut.py" 2387, Value.int 103 0, Value.int 3 0, Value.int 0 0, Value.int 0 0, Value.int 3 0, Value.ref 199, Value.bool true, Value.int 181 0, Value.ref 200, Value.none, Value.ref 201, Value.ref 202, Value.ref 203, Value.int 2400 0, Value.int 103 0, sv "/claim/cut.py" 2401]) #[]
noncomputable def o205_25 (p : Params) : Obj := Obj.mk (Value.type "function") none (Data.func (FuncData.mk (Str.ofString "_law_typed") (Str.ofString "_law_typed") (fA 17) (fB 17) (fS 17) 3 [] Value.none Value.none Value.none (sv "law_tl0043_01" 2377) none (Value.ref 204) Value.none 0)) #[]
noncomputable def o206_25 (p : Params) : Obj := Obj.mk (Value.type "tuple") none (Data.seq #[]) #[]
noncomputable def o207_25 (p : Params) : Obj := Obj.mk Value.none none (Data.fields #[]) #[]
noncomputable def o208_25 (p : Params) : Obj := Obj.mk (Value.type "tuple") none (Data.seq #[sv "text" 2406, sv "told" 2407, sv "sign" 2408, sv "held" 2409]) #[]
noncomputable def o209_25 (p : Params) : Obj := Obj.mk (Value.type "tuple") none (Data.seq #[]) #[]
noncomputable def o210_25 (p : Params) : Obj := Obj.mk Value.none none (Data.func (FuncData.mk (Str.ofString "_law_prepared") (Str.ofString "_law_prepared") (fA 18) (fB 18) (fS 18) 0 [] Value.none Value.none Value.none Value.none none Value.none Value.none 0)) #[]
noncomputable def o211_25 (p : Params) : Obj := Obj.mk (Value.type "code") none (Data.fields #[sv "_law_prepared" 2403, sv "_law_prepared" 2404, sv "/claim/cut.py" 2405, Value.int 124 0, Value.int 1 0, Value.int 0 0, Value.int 0 0, Value.int 3 0, Value.ref 206, Value.bool true, Value.int 181 0, Value.ref 207, Value.none, Value.ref 208, Value.ref 209, Value.ref 210, Value.int 2410 0, Value.int 124 0, sv "/claim/cut.py" 2411]) #[]
noncomputable def o212_25 (p : Params) : Obj := Obj.mk (Value.type "function") none (Data.func (FuncData.mk (Str.ofString "_law_prepared") (Str.ofString "_law_prepared") (fA 18) (fB 18) (fS 18) 3 [] Value.none Value.none Value.none (sv "law_tl0043_01" 2377) none (Value.ref 211) Value.none 0)) #[]
noncomputable def o213_25 (p : Params) : Obj := Obj.mk (Value.type "tuple") none (Data.seq #[]) #[]
noncomputable def o214_25 (p : Params) : Obj := Obj.mk Value.none none (Data.fields #[]) #[]
noncomputable def o215_25 (p : Params) : Obj := Obj.mk (Value.type "tuple") none (Data.seq #[sv "word" 2416, sv "ours" 2417, sv "theirs" 2418, sv "at" 2419, sv "room" 2420]) #[]
noncomputable def o216_25 (p : Params) : Obj := Obj.mk (Value.type "tuple") none (Data.seq #[]) #[]
noncomputable def o217_25 (p : Params) : Obj := Obj.mk Value.none none (Data.func (FuncData.mk (Str.ofString "_law_leads") (Str.ofString "_law_leads") (fA 19) (fB 19) (fS 19) 0 [] Value.none Value.none Value.none Value.none none Value.none Value.none 0)) #[]
noncomputable def o218_25 (p : Params) : Obj := Obj.mk (Value.type "code") none (Data.fields #[sv "_law_leads" 2413, sv "_law_leads" 2414, sv "/claim/cut.py" 2415, Value.int 133 0, Value.int 1 0, Value.int 0 0, Value.int 0 0, Value.int 3 0, Value.ref 213, Value.bool true, Value.int 181 0, Value.ref 214, Value.none, Value.ref 215, Value.ref 216, Value.ref 217, Value.int 2421 0, Value.int 133 0, sv "/claim/cut.py" 2422]) #[]
noncomputable def o219_25 (p : Params) : Obj := Obj.mk (Value.type "function") none (Data.func (FuncData.mk (Str.ofString "_law_leads") (Str.ofString "_law_leads") (fA 19) (fB 19) (fS 19) 3 [] Value.none Value.none Value.none (sv "law_tl0043_01" 2377) none (Value.ref 218) Value.none 0)) #[]
noncomputable def o220_25 (p : Params) : Obj := Obj.mk (Value.type "tuple") none (Data.seq #[]) #[]
noncomputable def o221_25 (p : Params) : Obj := Obj.mk Value.none none (Data.fields #[]) #[]
noncomputable def o222_25 (p : Params) : Obj := Obj.mk (Value.type "tuple") none (Data.seq #[sv "letters" 2427, sv "up" 2428, sv "start" 2429, sv "place" 2430, sv "told" 2431, sv "letter" 2432]) #[]
noncomputable def o223_25 (p : Params) : Obj := Obj.mk (Value.type "tuple") none (Data.seq #[]) #[]
noncomputable def o224_25 (p : Params) : Obj := Obj.mk Value.none none (Data.func (FuncData.mk (Str.ofString "_law_done") (Str.ofString "_law_done") (fA 20) (fB 20) (fS 20) 0 [] Value.none Value.none Value.none Value.none none Value.none Value.none 0)) #[]
noncomputable def o225_25 (p : Params) : Obj := Obj.mk (Value.type "code") none (Data.fields #[sv "_law_done" 2424, sv "_law_done" 2425, sv "/claim/cut.py" 2426, Value.int 144 0, Value.int 3 0, Value.int 0 0, Value.int 0 0, Value.int 3 0, Value.ref 220, Value.bool true, Value.int 181 0, Value.ref 221, Value.none, Value.ref 222, Value.ref 223, Value.ref 224, Value.int 2433 0, Value.int 144 0, sv "/claim/cut.py" 2434]) #[]
noncomputable def o226_25 (p : Params) : Obj := Obj.mk (Value.type "function") none (Data.func (FuncData.mk (Str.ofString "_law_done") (Str.ofString "_law_done") (fA 20) (fB 20) (fS 20) 3 [] Value.none Value.none Value.none (sv "law_tl0043_01" 2377) none (Value.ref 225) Value.none 0)) #[]
noncomputable def o227_25 (p : Params) : Obj := Obj.mk (Value.type "tuple") none (Data.seq #[]) #[]
noncomputable def o228_25 (p : Params) : Obj := Obj.mk Value.none none (Data.fields #[]) #[]
noncomputable def o229_25 (p : Params) : Obj := Obj.mk (Value.type "tuple") none (Data.seq #[sv "word" 2439, sv "ways" 2440, sv "seen" 2441, sv "letter" 2442, sv "longer" 2443, sv "k" 2444]) #[]
noncomputable def o230_25 (p : Params) : Obj := Obj.mk (Value.type "tuple") none (Data.seq #[]) #[]
noncomputable def o231_25 (p : Params) : Obj := Obj.mk Value.none none (Data.func (FuncData.mk (Str.ofString "_law_ways") (Str.ofString "_law_ways") (fA 21) (fB 21) (fS 21) 0 [] Value.none Value.none Value.none Value.none none Value.none Value.none 0)) #[]
noncomputable def o232_25 (p : Params) : Obj := Obj.mk (Value.type "code") none (Data.fields #[sv "_law_ways" 2436, sv "_law_ways" 2437, sv "/claim/cut.py" 2438, Value.int 153 0, Value.int 1 0, Value.int 0 0, Value.int 0 0, Value.int 3 0, Value.ref 227, Value.bool true, Value.int 181 0, Value.ref 228, Value.none, Value.ref 229, Value.ref 230, Value.ref 231, Value.int 2445 0, Value.int 153 0, sv "/claim/cut.py" 2446]) #[]
noncomputable def o233_25 (p : Params) : Obj := Obj.mk (Value.type "function") none (Data.func (FuncData.mk (Str.ofString "_law_ways") (Str.ofString "_law_ways") (fA 21) (fB 21) (fS 21) 3 [] Value.none Value.none Value.none (sv "law_tl0043_01" 2377) none (Value.ref 232) Value.none 0)) #[]
noncomputable def o234_25 (p : Params) : Obj := Obj.mk (Value.type "tuple") none (Data.seq #[]) #[]
noncomputable def o235_25 (p : Params) : Obj := Obj.mk Value.none none (Data.fields #[]) #[]
noncomputable def o236_25 (p : Params) : Obj := Obj.mk (Value.type "tuple") none (Data.seq #[sv "ways" 2451, sv "number" 2452, sv "start" 2453, sv "told" 2454, sv "k" 2455, sv "part" 2456, sv "step" 2457]) #[]
noncomputable def o237_25 (p : Params) : Obj := Obj.mk (Value.type "tuple") none (Data.seq #[]) #[]
noncomputable def o238_25 (p : Params) : Obj := Obj.mk Value.none none (Data.func (FuncData.mk (Str.ofString "_law_summed") (Str.ofString "_law_summed") (fA 22) (fB 22) (fS 22) 0 [] Value.none Value.none Value.none Value.none none Value.none Value.none 0)) #[]
noncomputable def o239_25 (p : Params) : Obj := Obj.mk (Value.type "code") none (Data.fields #[sv "_law_summed" 2448, sv "_law_summed" 2449, sv "/claim/cut.py" 2450, Value.int 164 0, Value.int 3 0, Value.int 0 0, Value.int 0 0, Value.int 3 0, Value.ref 234, Value.bool true, Value.int 181 0, Value.ref 235, Value.none, Value.ref 236, Value.ref 237, Value.ref 238, Value.int 2458 0, Value.int 164 0, sv "/claim/cut.py" 2459]) #[]
noncomputable def o240_25 (p : Params) : Obj := Obj.mk (Value.type "function") none (Data.func (FuncData.mk (Str.ofString "_law_summed") (Str.ofString "_law_summed") (fA 22) (fB 22) (fS 22) 3 [] Value.none Value.none Value.none (sv "law_tl0043_01" 2377) none (Value.ref 239) Value.none 0)) #[]
noncomputable def o241_25 (p : Params) : Obj := Obj.mk (Value.type "tuple") none (Data.seq #[]) #[]
noncomputable def o242_25 (p : Params) : Obj := Obj.mk Value.none none (Data.fields #[]) #[]
noncomputable def o243_25 (p : Params) : Obj := Obj.mk (Value.type "tuple") none (Data.seq #[sv "counts" 2464, sv "start" 2465, sv "told" 2466, sv "size" 2467, sv "often" 2468]) #[]
noncomputable def o244_25 (p : Params) : Obj := Obj.mk (Value.type "tuple") none (Data.seq #[]) #[]
noncomputable def o245_25 (p : Params) : Obj := Obj.mk Value.none none (Data.func (FuncData.mk (Str.ofString "_law_product") (Str.ofString "_law_product") (fA 23) (fB 23) (fS 23) 0 [] Value.none Value.none Value.none Value.none none Value.none Value.none 0)) #[]
noncomputable def o246_25 (p : Params) : Obj := Obj.mk (Value.type "code") none (Data.fields #[sv "_law_product" 2461, sv "_law_product" 2462, sv "/claim/cut.py" 2463, Value.int 172 0, Value.int 2 0, Value.int 0 0, Value.int 0 0, Value.int 3 0, Value.ref 241, Value.bool true, Value.int 181 0, Value.ref 242, Value.none, Value.ref 243, Value.ref 244, Value.ref 245, Value.int 2469 0, Value.int 172 0, sv "/claim/cut.py" 2470]) #[]
noncomputable def o247_25 (p : Params) : Obj := Obj.mk (Value.type "function") none (Data.func (FuncData.mk (Str.ofString "_law_product") (Str.ofString "_law_product") (fA 23) (fB 23) (fS 23) 3 [] Value.none Value.none Value.none (sv "law_tl0043_01" 2377) none (Value.ref 246) Value.none 0)) #[]
noncomputable def o248_25 (p : Params) : Obj := Obj.mk (Value.type "tuple") none (Data.seq #[]) #[]
noncomputable def o249_25 (p : Params) : Obj := Obj.mk Value.none none (Data.fields #[]) #[]
noncomputable def o250_25 (p : Params) : Obj := Obj.mk Value.none none (Data.func (FuncData.mk (Str.ofString "law") (Str.ofString "law") (fA 24) (fB 24) (fS 24) 0 [] Value.none Value.none Value.none Value.none none Value.none Value.none 0)) #[]
noncomputable def o251_25 (p : Params) : Obj := Obj.mk (Value.type "code") none (Data.fields #[sv "law" 2472, sv "law" 2473, sv "/claim/cut.py" 2474, Value.int 177 0, Value.int 1 0, Value.int 0 0, Value.int 0 0, Value.int 3 0, Value.ref 248, Value.bool true, Value.int 181 0, Value.ref 249, Value.none, Value.none, Value.none, Value.ref 250, Value.int 2475 0, Value.int 177 0, sv "/claim/cut.py" 2476]) #[]
noncomputable def o252_25 (p : Params) : Obj := Obj.mk (Value.type "function") none (Data.func (FuncData.mk (Str.ofString "law") (Str.ofString "law") (fA 24) (fB 24) (fS 24) 3 [] Value.none Value.none Value.none (sv "law_tl0043_01" 2377) none (Value.ref 251) Value.none 0)) #[]
noncomputable def t0 (p : Params) : BT := (.node (o0_0 p) (.node (o1_0 p) (.node (o3_0 p) (.node (o7_0 p) .nil .nil) (.node (o11_0 p) .nil .nil)) (.node (o5_0 p) (.node (o9_0 p) .nil .nil) (.node (o13_0 p) .nil .nil))) (.node (o2_0 p) (.node (o4_0 p) (.node (o8_0 p) .nil .nil) (.node (o12_0 p) .nil .nil)) (.node (o6_0 p) (.node (o10_0 p) .nil .nil) (.node (o14_0 p) .nil .nil))))
noncomputable def t11 (p : Params) : BT := (.node (o0_0 p) (.node (o1_0 p) (.node (o3_11 p) (.node (o7_0 p) (.node (o15_11 p) (.node (o31_11 p) (.node (o63_11 p) (.node (o127_11 p) .nil .nil) .nil) (.node (o95_11 p) .nil .nil)) (.node (o47_11 p) (.node (o79_11 p) .nil .nil) (.node (o111_11 p) .nil .nil))) (.node (o23_11 p) (.node (o39_11 p) (.node (o71_11 p) .nil .nil) (.node (o103_11 p) .nil .nil)) (.node (o55_11 p) (.node (o87_11 p) .nil .nil) (.node (o119_11 p) .nil .nil)))) (.node (o11_0 p) (.node (o19_11 p) (.node (o35_11 p) (.node (o67_11 p) .nil .nil) (.node (o99_11 p) .nil .nil)) (.node (o51_11 p) (.node (o83_11 p) .nil .nil) (.node (o115_11 p) .nil .nil))) (.node (o27_11 p) (.node (o43_11 p) (.node (o75_11 p) .nil .nil) (.node (o107_11 p) .nil .nil)) (.node (o59_11 p) (.node (o91_11 p) .nil .nil) (.node (o123_11 p) .nil .nil))))) (.node (o5_0 p) (.node (o9_0 p) (.node (o17_11 p) (.node (o33_11 p) (.node (o65_11 p) (.node (o129_11 p) .nil .nil) .nil) (.node (o97_11 p) .nil .nil)) (.node (o49_11 p) (.node (o81_11 p) .nil .nil) (.node (o113_11 p) .nil .nil))) (.node (o25_11 p) (.node (o41_11 p) (.node (o73_11 p) .nil .nil) (.node (o105_11 p) .nil .nil)) (.node (o57_11 p) (.node (o89_11 p) .nil .nil) (.node (o121_11 p) .nil .nil)))) (.node (o13_0 p) (.node (o21_11 p) (.node (o37_11 p) (.node (o69_11 p) .nil .nil) (.node (o101_11 p) .nil .nil)) (.node (o53_11 p) (.node (o85_11 p) .nil .nil) (.node (o117_11 p) .nil .nil))) (.node (o29_11 p) (.node (o45_11 p) (.node (o77_11 p) .nil .nil) (.node (o109_11 p) .nil .nil)) (.node (o61_11 p) (.node (o93_11 p) .nil .nil) (.node (o125_11 p) .nil .nil)))))) (.node (o2_0 p) (.node (o4_0 p) (.node (o8_0 p) (.node (o16_11 p) (.node (o32_11 p) (.node (o64_11 p) (.node (o128_11 p) .nil .nil) .nil) (.node (o96_11 p) .nil .nil)) (.node (o48_11 p) (.node (o80_11 p) .nil .nil) (.node (o112_11 p) .nil .nil))) (.node (o24_11 p) (.node (o40_11 p) (.node (o72_11 p) .nil .nil) (.node (o104_11 p) .nil .nil)) (.node (o56_11 p) (.node (o88_11 p) .nil .nil) (.node (o120_11 p) .nil .nil)))) (.node (o12_11 p) (.node (o20_11 p) (.node (o36_11 p) (.node (o68_11 p) .nil .nil) (.node (o100_11 p) .nil .nil)) (.node (o52_11 p) (.node (o84_11 p) .nil .nil) (.node (o116_11 p) .nil .nil))) (.node (o28_11 p) (.node (o44_11 p) (.node (o76_11 p) .nil .nil) (.node (o108_11 p) .nil .nil)) (.node (o60_11 p) (.node (o92_11 p) .nil .nil) (.node (o124_11 p) .nil .nil))))) (.node (o6_0 p) (.node (o10_0 p) (.node (o18_11 p) (.node (o34_11 p) (.node (o66_11 p) .nil .nil) (.node (o98_11 p) .nil .nil)) (.node (o50_11 p) (.node (o82_11 p) .nil .nil) (.node (o114_11 p) .nil .nil))) (.node (o26_11 p) (.node (o42_11 p) (.node (o74_11 p) .nil .nil) (.node (o106_11 p) .nil .nil)) (.node (o58_11 p) (.node (o90_11 p) .nil .nil) (.node (o122_11 p) .nil .nil)))) (.node (o14_0 p) (.node (o22_11 p) (.node (o38_11 p) (.node (o70_11 p) .nil .nil) (.node (o102_11 p) .nil .nil)) (.node (o54_11 p) (.node (o86_11 p) .nil .nil) (.node (o118_11 p) .nil .nil))) (.node (o30_11 p) (.node (o46_11 p) (.node (o78_11 p) .nil .nil) (.node (o110_11 p) .nil .nil)) (.node (o62_11 p) (.node (o94_11 p) .nil .nil) (.node (o126_11 p) .nil .nil)))))))
noncomputable def t12 (p : Params) : BT := (.node (o0_0 p) (.node (o1_0 p) (.node (o3_12 p) (.node (o7_0 p) (.node (o15_11 p) (.node (o31_11 p) (.node (o63_11 p) (.node (o127_11 p) .nil .nil) .nil) (.node (o95_11 p) .nil .nil)) (.node (o47_11 p) (.node (o79_11 p) .nil .nil) (.node (o111_11 p) .nil .nil))) (.node (o23_11 p) (.node (o39_11 p) (.node (o71_11 p) (.node (o135_12 p) .nil .nil) .nil) (.node (o103_11 p) .nil .nil)) (.node (o55_11 p) (.node (o87_11 p) .nil .nil) (.node (o119_11 p) .nil .nil)))) (.node (o11_0 p) (.node (o19_11 p) (.node (o35_11 p) (.node (o67_11 p) (.node (o131_12 p) .nil .nil) .nil) (.node (o99_11 p) .nil .nil)) (.node (o51_11 p) (.node (o83_11 p) .nil .nil) (.node (o115_11 p) .nil .nil))) (.node (o27_11 p) (.node (o43_11 p) (.node (o75_11 p) (.node (o139_12 p) .nil .nil) .nil) (.node (o107_11 p) .nil .nil)) (.node (o59_11 p) (.node (o91_11 p) .nil .nil) (.node (o123_11 p) .nil .nil))))) (.node (o5_0 p) (.node (o9_0 p) (.node (o17_11 p) (.node (o33_11 p) (.node (o65_11 p) (.node (o129_11 p) .nil .nil) .nil) (.node (o97_11 p) .nil .nil)) (.node (o49_11 p) (.node (o81_11 p) .nil .nil) (.node (o113_11 p) .nil .nil))) (.node (o25_11 p) (.node (o41_11 p) (.node (o73_11 p) (.node (o137_12 p) .nil .nil) .nil) (.node (o105_11 p) .nil .nil)) (.node (o57_11 p) (.node (o89_11 p) .nil .nil) (.node (o121_11 p) .nil .nil)))) (.node (o13_0 p) (.node (o21_11 p) (.node (o37_11 p) (.node (o69_11 p) (.node (o133_12 p) .nil .nil) .nil) (.node (o101_11 p) .nil .nil)) (.node (o53_11 p) (.node (o85_11 p) .nil .nil) (.node (o117_11 p) .nil .nil))) (.node (o29_11 p) (.node (o45_11 p) (.node (o77_11 p) .nil .nil) (.node (o109_11 p) .nil .nil)) (.node (o61_11 p) (.node (o93_11 p) .nil .nil) (.node (o125_11 p) .nil .nil)))))) (.node (o2_0 p) (.node (o4_0 p) (.node (o8_0 p) (.node (o16_11 p) (.node (o32_11 p) (.node (o64_11 p) (.node (o128_11 p) .nil .nil) .nil) (.node (o96_11 p) .nil .nil)) (.node (o48_11 p) (.node (o80_11 p) .nil .nil) (.node (o112_11 p) .nil .nil))) (.node (o24_11 p) (.node (o40_11 p) (.node (o72_11 p) (.node (o136_12 p) .nil .nil) .nil) (.node (o104_11 p) .nil .nil)) (.node (o56_11 p) (.node (o88_11 p) .nil .nil) (.node (o120_11 p) .nil .nil)))) (.node (o12_11 p) (.node (o20_11 p) (.node (o36_11 p) (.node (o68_11 p) (.node (o132_12 p) .nil .nil) .nil) (.node (o100_11 p) .nil .nil)) (.node (o52_11 p) (.node (o84_11 p) .nil .nil) (.node (o116_11 p) .nil .nil))) (.node (o28_11 p) (.node (o44_11 p) (.node (o76_11 p) (.node (o140_12 p) .nil .nil) .nil) (.node (o108_11 p) .nil .nil)) (.node (o60_11 p) (.node (o92_11 p) .nil .nil) (.node (o124_11 p) .nil .nil))))) (.node (o6_0 p) (.node (o10_0 p) (.node (o18_11 p) (.node (o34_11 p) (.node (o66_11 p) (.node (o130_12 p) .nil .nil) .nil) (.node (o98_11 p) .nil .nil)) (.node (o50_11 p) (.node (o82_11 p) .nil .nil) (.node (o114_11 p) .nil .nil))) (.node (o26_11 p) (.node (o42_11 p) (.node (o74_11 p) (.node (o138_12 p) .nil .nil) .nil) (.node (o106_11 p) .nil .nil)) (.node (o58_11 p) (.node (o90_11 p) .nil .nil) (.node (o122_11 p) .nil .nil)))) (.node (o14_0 p) (.node (o22_11 p) (.node (o38_11 p) (.node (o70_11 p) (.node (o134_12 p) .nil .nil) .nil) (.node (o102_11 p) .nil .nil)) (.node (o54_11 p) (.node (o86_11 p) .nil .nil) (.node (o118_11 p) .nil .nil))) (.node (o30_11 p) (.node (o46_11 p) (.node (o78_11 p) .nil .nil) (.node (o110_11 p) .nil .nil)) (.node (o62_11 p) (.node (o94_11 p) .nil .nil) (.node (o126_11 p) .nil .nil)))))))
noncomputable def t13 (p : Params) : BT := (.node (o0_0 p) (.node (o1_0 p) (.node (o3_13 p) (.node (o7_0 p) (.node (o15_11 p) (.node (o31_11 p) (.node (o63_11 p) (.node (o127_11 p) .nil .nil) .nil) (.node (o95_11 p) .nil .nil)) (.node (o47_11 p) (.node (o79_11 p) (.node (o143_13 p) .nil .nil) .nil) (.node (o111_11 p) .nil .nil))) (.node (o23_11 p) (.node (o39_11 p) (.node (o71_11 p) (.node (o135_12 p) .nil .nil) .nil) (.node (o103_11 p) .nil .nil)) (.node (o55_11 p) (.node (o87_11 p) .nil .nil) (.node (o119_11 p) .nil .nil)))) (.node (o11_0 p) (.node (o19_11 p) (.node (o35_11 p) (.node (o67_11 p) (.node (o131_12 p) .nil .nil) .nil) (.node (o99_11 p) .nil .nil)) (.node (o51_11 p) (.node (o83_11 p) (.node (o147_13 p) .nil .nil) .nil) (.node (o115_11 p) .nil .nil))) (.node (o27_11 p) (.node (o43_11 p) (.node (o75_11 p) (.node (o139_12 p) .nil .nil) .nil) (.node (o107_11 p) .nil .nil)) (.node (o59_11 p) (.node (o91_11 p) .nil .nil) (.node (o123_11 p) .nil .nil))))) (.node (o5_0 p) (.node (o9_0 p) (.node (o17_11 p) (.node (o33_11 p) (.node (o65_11 p) (.node (o129_11 p) .nil .nil) .nil) (.node (o97_11 p) .nil .nil)) (.node (o49_11 p) (.node (o81_11 p) (.node (o145_13 p) .nil .nil) .nil) (.node (o113_11 p) .nil .nil))) (.node (o25_11 p) (.node (o41_11 p) (.node (o73_11 p) (.node (o137_12 p) .nil .nil) .nil) (.node (o105_11 p) .nil .nil)) (.node (o57_11 p) (.node (o89_11 p) .nil .nil) (.node (o121_11 p) .nil .nil)))) (.node (o13_0 p) (.node (o21_11 p) (.node (o37_11 p) (.node (o69_11 p) (.node (o133_12 p) .nil .nil) .nil) (.node (o101_11 p) .nil .nil)) (.node (o53_11 p) (.node (o85_11 p) .nil .nil) (.node (o117_11 p) .nil .nil))) (.node (o29_11 p) (.node (o45_11 p) (.node (o77_11 p) (.node (o141_13 p) .nil .nil) .nil) (.node (o109_11 p) .nil .nil)) (.node (o61_11 p) (.node (o93_11 p) .nil .nil) (.node (o125_11 p) .nil .nil)))))) (.node (o2_0 p) (.node (o4_0 p) (.node (o8_0 p) (.node (o16_11 p) (.node (o32_11 p) (.node (o64_11 p) (.node (o128_11 p) .nil .nil) .nil) (.node (o96_11 p) .nil .nil)) (.node (o48_11 p) (.node (o80_11 p) (.node (o144_13 p) .nil .nil) .nil) (.node (o112_11 p) .nil .nil))) (.node (o24_11 p) (.node (o40_11 p) (.node (o72_11 p) (.node (o136_12 p) .nil .nil) .nil) (.node (o104_11 p) .nil .nil)) (.node (o56_11 p) (.node (o88_11 p) .nil .nil) (.node (o120_11 p) .nil .nil)))) (.node (o12_13 p) (.node (o20_11 p) (.node (o36_11 p) (.node (o68_11 p) (.node (o132_12 p) .nil .nil) .nil) (.node (o100_11 p) .nil .nil)) (.node (o52_11 p) (.node (o84_11 p) .nil .nil) (.node (o116_11 p) .nil .nil))) (.node (o28_11 p) (.node (o44_11 p) (.node (o76_11 p) (.node (o140_12 p) .nil .nil) .nil) (.node (o108_11 p) .nil .nil)) (.node (o60_11 p) (.node (o92_11 p) .nil .nil) (.node (o124_11 p) .nil .nil))))) (.node (o6_0 p) (.node (o10_0 p) (.node (o18_11 p) (.node (o34_11 p) (.node (o66_11 p) (.node (o130_12 p) .nil .nil) .nil) (.node (o98_11 p) .nil .nil)) (.node (o50_11 p) (.node (o82_11 p) (.node (o146_13 p) .nil .nil) .nil) (.node (o114_11 p) .nil .nil))) (.node (o26_11 p) (.node (o42_11 p) (.node (o74_11 p) (.node (o138_12 p) .nil .nil) .nil) (.node (o106_11 p) .nil .nil)) (.node (o58_11 p) (.node (o90_11 p) .nil .nil) (.node (o122_11 p) .nil .nil)))) (.node (o14_0 p) (.node (o22_11 p) (.node (o38_11 p) (.node (o70_11 p) (.node (o134_12 p) .nil .nil) .nil) (.node (o102_11 p) .nil .nil)) (.node (o54_11 p) (.node (o86_11 p) .nil .nil) (.node (o118_11 p) .nil .nil))) (.node (o30_11 p) (.node (o46_11 p) (.node (o78_11 p) (.node (o142_13 p) .nil .nil) .nil) (.node (o110_11 p) .nil .nil)) (.node (o62_11 p) (.node (o94_11 p) .nil .nil) (.node (o126_11 p) .nil .nil)))))))
noncomputable def t14 (p : Params) : BT := (.node (o0_0 p) (.node (o1_0 p) (.node (o3_14 p) (.node (o7_0 p) (.node (o15_11 p) (.node (o31_11 p) (.node (o63_11 p) (.node (o127_11 p) .nil .nil) .nil) (.node (o95_11 p) (.node (subO 11) .nil .nil) .nil)) (.node (o47_11 p) (.node (o79_11 p) (.node (o143_13 p) .nil .nil) .nil) (.node (o111_11 p) (.node (subO 27) .nil .nil) .nil))) (.node (o23_11 p) (.node (o39_11 p) (.node (o71_11 p) (.node (o135_12 p) .nil .nil) .nil) (.node (o103_11 p) (.node (subO 19) .nil .nil) .nil)) (.node (o55_11 p) (.node (o87_11 p) (.node (subO 3) .nil .nil) .nil) (.node (o119_11 p) (.node (subO 35) .nil .nil) .nil)))) (.node (o11_0 p) (.node (o19_11 p) (.node (o35_11 p) (.node (o67_11 p) (.node (o131_12 p) .nil .nil) .nil) (.node (o99_11 p) (.node (subO 15) .nil .nil) .nil)) (.node (o51_11 p) (.node (o83_11 p) (.node (o147_13 p) .nil .nil) .nil) (.node (o115_11 p) (.node (subO 31) .nil .nil) .nil))) (.node (o27_11 p) (.node (o43_11 p) (.node (o75_11 p) (.node (o139_12 p) .nil .nil) .nil) (.node (o107_11 p) (.node (subO 23) .nil .nil) .nil)) (.node (o59_11 p) (.node (o91_11 p) (.node (subO 7) .nil .nil) .nil) (.node (o123_11 p) .nil .nil))))) (.node (o5_0 p) (.node (o9_0 p) (.node (o17_11 p) (.node (o33_11 p) (.node (o65_11 p) (.node (o129_11 p) .nil .nil) .nil) (.node (o97_11 p) (.node (subO 13) .nil .nil) .nil)) (.node (o49_11 p) (.node (o81_11 p) (.node (o145_13 p) .nil .nil) .nil) (.node (o113_11 p) (.node (subO 29) .nil .nil) .nil))) (.node (o25_11 p) (.node (o41_11 p) (.node (o73_11 p) (.node (o137_12 p) .nil .nil) .nil) (.node (o105_11 p) (.node (subO 21) .nil .nil) .nil)) (.node (o57_11 p) (.node (o89_11 p) (.node (subO 5) .nil .nil) .nil) (.node (o121_11 p) (.node (subO 37) .nil .nil) .nil)))) (.node (o13_0 p) (.node (o21_11 p) (.node (o37_11 p) (.node (o69_11 p) (.node (o133_12 p) .nil .nil) .nil) (.node (o101_11 p) (.node (subO 17) .nil .nil) .nil)) (.node (o53_11 p) (.node (o85_11 p) (.node (subO 1) .nil .nil) .nil) (.node (o117_11 p) (.node (subO 33) .nil .nil) .nil))) (.node (o29_11 p) (.node (o45_11 p) (.node (o77_11 p) (.node (o141_13 p) .nil .nil) .nil) (.node (o109_11 p) (.node (subO 25) .nil .nil) .nil)) (.node (o61_11 p) (.node (o93_11 p) (.node (subO 9) .nil .nil) .nil) (.node (o125_11 p) .nil .nil)))))) (.node (o2_0 p) (.node (o4_0 p) (.node (o8_0 p) (.node (o16_11 p) (.node (o32_11 p) (.node (o64_11 p) (.node (o128_11 p) .nil .nil) .nil) (.node (o96_11 p) (.node (subO 12) .nil .nil) .nil)) (.node (o48_11 p) (.node (o80_11 p) (.node (o144_13 p) .nil .nil) .nil) (.node (o112_11 p) (.node (subO 28) .nil .nil) .nil))) (.node (o24_11 p) (.node (o40_11 p) (.node (o72_11 p) (.node (o136_12 p) .nil .nil) .nil) (.node (o104_11 p) (.node (subO 20) .nil .nil) .nil)) (.node (o56_11 p) (.node (o88_11 p) (.node (subO 4) .nil .nil) .nil) (.node (o120_11 p) (.node (subO 36) .nil .nil) .nil)))) (.node (o12_13 p) (.node (o20_11 p) (.node (o36_11 p) (.node (o68_11 p) (.node (o132_12 p) .nil .nil) .nil) (.node (o100_11 p) (.node (subO 16) .nil .nil) .nil)) (.node (o52_11 p) (.node (o84_11 p) (.node bigO .nil .nil) .nil) (.node (o116_11 p) (.node (subO 32) .nil .nil) .nil))) (.node (o28_11 p) (.node (o44_11 p) (.node (o76_11 p) (.node (o140_12 p) .nil .nil) .nil) (.node (o108_11 p) (.node (subO 24) .nil .nil) .nil)) (.node (o60_11 p) (.node (o92_11 p) (.node (subO 8) .nil .nil) .nil) (.node (o124_11 p) .nil .nil))))) (.node (o6_0 p) (.node (o10_0 p) (.node (o18_11 p) (.node (o34_11 p) (.node (o66_11 p) (.node (o130_12 p) .nil .nil) .nil) (.node (o98_11 p) (.node (subO 14) .nil .nil) .nil)) (.node (o50_11 p) (.node (o82_11 p) (.node (o146_13 p) .nil .nil) .nil) (.node (o114_11 p) (.node (subO 30) .nil .nil) .nil))) (.node (o26_11 p) (.node (o42_11 p) (.node (o74_11 p) (.node (o138_12 p) .nil .nil) .nil) (.node (o106_11 p) (.node (subO 22) .nil .nil) .nil)) (.node (o58_11 p) (.node (o90_11 p) (.node (subO 6) .nil .nil) .nil) (.node (o122_11 p) (.node subZ .nil .nil) .nil)))) (.node (o14_0 p) (.node (o22_11 p) (.node (o38_11 p) (.node (o70_11 p) (.node (o134_12 p) .nil .nil) .nil) (.node (o102_11 p) (.node (subO 18) .nil .nil) .nil)) (.node (o54_11 p) (.node (o86_11 p) (.node (subO 2) .nil .nil) .nil) (.node (o118_11 p) (.node (subO 34) .nil .nil) .nil))) (.node (o30_11 p) (.node (o46_11 p) (.node (o78_11 p) (.node (o142_13 p) .nil .nil) .nil) (.node (o110_11 p) (.node (subO 26) .nil .nil) .nil)) (.node (o62_11 p) (.node (o94_11 p) (.node (subO 10) .nil .nil) .nil) (.node (o126_11 p) .nil .nil)))))))
noncomputable def t25 (p : Params) : BT := (.node (o0_0 p) (.node (o1_0 p) (.node (o3_25 p) (.node (o7_0 p) (.node (o15_11 p) (.node (o31_11 p) (.node (o63_11 p) (.node (o127_11 p) .nil .nil) (.node (o191_25 p) .nil .nil)) (.node (o95_11 p) (.node (subO 11) .nil .nil) (.node (o223_25 p) .nil .nil))) (.node (o47_11 p) (.node (o79_11 p) (.node (o143_13 p) .nil .nil) (.node (o207_25 p) .nil .nil)) (.node (o111_11 p) (.node (subO 27) .nil .nil) (.node (o239_25 p) .nil .nil)))) (.node (o23_11 p) (.node (o39_11 p) (.node (o71_11 p) (.node (o135_12 p) .nil .nil) (.node (o199_25 p) .nil .nil)) (.node (o103_11 p) (.node (subO 19) .nil .nil) (.node (o231_25 p) .nil .nil))) (.node (o55_11 p) (.node (o87_11 p) (.node (subO 3) .nil .nil) (.node (o215_25 p) .nil .nil)) (.node (o119_11 p) (.node (subO 35) .nil .nil) (.node (o247_25 p) .nil .nil))))) (.node (o11_0 p) (.node (o19_11 p) (.node (o35_11 p) (.node (o67_11 p) (.node (o131_12 p) .nil .nil) (.node (o195_25 p) .nil .nil)) (.node (o99_11 p) (.node (subO 15) .nil .nil) (.node (o227_25 p) .nil .nil))) (.node (o51_11 p) (.node (o83_11 p) (.node (o147_13 p) .nil .nil) (.node (o211_25 p) .nil .nil)) (.node (o115_11 p) (.node (subO 31) .nil .nil) (.node (o243_25 p) .nil .nil)))) (.node (o27_11 p) (.node (o43_11 p) (.node (o75_11 p) (.node (o139_12 p) .nil .nil) (.node (o203_25 p) .nil .nil)) (.node (o107_11 p) (.node (subO 23) .nil .nil) (.node (o235_25 p) .nil .nil))) (.node (o59_11 p) (.node (o91_11 p) (.node (subO 7) .nil .nil) (.node (o219_25 p) .nil .nil)) (.node (o123_11 p) (.node (o187_25 p) .nil .nil) (.node (o251_25 p) .nil .nil)))))) (.node (o5_0 p) (.node (o9_0 p) (.node (o17_11 p) (.node (o33_11 p) (.node (o65_11 p) (.node (o129_11 p) .nil .nil) (.node (o193_25 p) .nil .nil)) (.node (o97_11 p) (.node (subO 13) .nil .nil) (.node (o225_25 p) .nil .nil))) (.node (o49_11 p) (.node (o81_11 p) (.node (o145_13 p) .nil .nil) (.node (o209_25 p) .nil .nil)) (.node (o113_11 p) (.node (subO 29) .nil .nil) (.node (o241_25 p) .nil .nil)))) (.node (o25_11 p) (.node (o41_11 p) (.node (o73_11 p) (.node (o137_12 p) .nil .nil) (.node (o201_25 p) .nil .nil)) (.node (o105_11 p) (.node (subO 21) .nil .nil) (.node (o233_25 p) .nil .nil))) (.node (o57_11 p) (.node (o89_11 p) (.node (subO 5) .nil .nil) (.node (o217_25 p) .nil .nil)) (.node (o121_11 p) (.node (subO 37) .nil .nil) (.node (o249_25 p) .nil .nil))))) (.node (o13_0 p) (.node (o21_11 p) (.node (o37_11 p) (.node (o69_11 p) (.node (o133_12 p) .nil .nil) (.node (o197_25 p) .nil .nil)) (.node (o101_11 p) (.node (subO 17) .nil .nil) (.node (o229_25 p) .nil .nil))) (.node (o53_11 p) (.node (o85_11 p) (.node (subO 1) .nil .nil) (.node (o213_25 p) .nil .nil)) (.node (o117_11 p) (.node (subO 33) .nil .nil) (.node (o245_25 p) .nil .nil)))) (.node (o29_11 p) (.node (o45_11 p) (.node (o77_11 p) (.node (o141_13 p) .nil .nil) (.node (o205_25 p) .nil .nil)) (.node (o109_11 p) (.node (subO 25) .nil .nil) (.node (o237_25 p) .nil .nil))) (.node (o61_11 p) (.node (o93_11 p) (.node (subO 9) .nil .nil) (.node (o221_25 p) .nil .nil)) (.node (o125_11 p) (.node (o189_25 p) .nil .nil) .nil)))))) (.node (o2_0 p) (.node (o4_0 p) (.node (o8_0 p) (.node (o16_11 p) (.node (o32_11 p) (.node (o64_11 p) (.node (o128_11 p) .nil .nil) (.node (o192_25 p) .nil .nil)) (.node (o96_11 p) (.node (subO 12) .nil .nil) (.node (o224_25 p) .nil .nil))) (.node (o48_11 p) (.node (o80_11 p) (.node (o144_13 p) .nil .nil) (.node (o208_25 p) .nil .nil)) (.node (o112_11 p) (.node (subO 28) .nil .nil) (.node (o240_25 p) .nil .nil)))) (.node (o24_11 p) (.node (o40_11 p) (.node (o72_11 p) (.node (o136_12 p) .nil .nil) (.node (o200_25 p) .nil .nil)) (.node (o104_11 p) (.node (subO 20) .nil .nil) (.node (o232_25 p) .nil .nil))) (.node (o56_11 p) (.node (o88_11 p) (.node (subO 4) .nil .nil) (.node (o216_25 p) .nil .nil)) (.node (o120_11 p) (.node (subO 36) .nil .nil) (.node (o248_25 p) .nil .nil))))) (.node (o12_25 p) (.node (o20_11 p) (.node (o36_11 p) (.node (o68_11 p) (.node (o132_12 p) .nil .nil) (.node (o196_25 p) .nil .nil)) (.node (o100_11 p) (.node (subO 16) .nil .nil) (.node (o228_25 p) .nil .nil))) (.node (o52_11 p) (.node (o84_11 p) (.node bigO .nil .nil) (.node (o212_25 p) .nil .nil)) (.node (o116_11 p) (.node (subO 32) .nil .nil) (.node (o244_25 p) .nil .nil)))) (.node (o28_11 p) (.node (o44_11 p) (.node (o76_11 p) (.node (o140_12 p) .nil .nil) (.node (o204_25 p) .nil .nil)) (.node (o108_11 p) (.node (subO 24) .nil .nil) (.node (o236_25 p) .nil .nil))) (.node (o60_11 p) (.node (o92_11 p) (.node (subO 8) .nil .nil) (.node (o220_25 p) .nil .nil)) (.node (o124_11 p) (.node (o188_25 p) .nil .nil) (.node (o252_25 p) .nil .nil)))))) (.node (o6_0 p) (.node (o10_0 p) (.node (o18_11 p) (.node (o34_11 p) (.node (o66_11 p) (.node (o130_12 p) .nil .nil) (.node (o194_25 p) .nil .nil)) (.node (o98_11 p) (.node (subO 14) .nil .nil) (.node (o226_25 p) .nil .nil))) (.node (o50_11 p) (.node (o82_11 p) (.node (o146_13 p) .nil .nil) (.node (o210_25 p) .nil .nil)) (.node (o114_11 p) (.node (subO 30) .nil .nil) (.node (o242_25 p) .nil .nil)))) (.node (o26_11 p) (.node (o42_11 p) (.node (o74_11 p) (.node (o138_12 p) .nil .nil) (.node (o202_25 p) .nil .nil)) (.node (o106_11 p) (.node (subO 22) .nil .nil) (.node (o234_25 p) .nil .nil))) (.node (o58_11 p) (.node (o90_11 p) (.node (subO 6) .nil .nil) (.node (o218_25 p) .nil .nil)) (.node (o122_11 p) (.node subZ .nil .nil) (.node (o250_25 p) .nil .nil))))) (.node (o14_0 p) (.node (o22_11 p) (.node (o38_11 p) (.node (o70_11 p) (.node (o134_12 p) .nil .nil) (.node (o198_25 p) .nil .nil)) (.node (o102_11 p) (.node (subO 18) .nil .nil) (.node (o230_25 p) .nil .nil))) (.node (o54_11 p) (.node (o86_11 p) (.node (subO 2) .nil .nil) (.node (o214_25 p) .nil .nil)) (.node (o118_11 p) (.node (subO 34) .nil .nil) (.node (o246_25 p) .nil .nil)))) (.node (o30_11 p) (.node (o46_11 p) (.node (o78_11 p) (.node (o142_13 p) .nil .nil) (.node (o206_25 p) .nil .nil)) (.node (o110_11 p) (.node (subO 26) .nil .nil) (.node (o238_25 p) .nil .nil))) (.node (o62_11 p) (.node (o94_11 p) (.node (subO 10) .nil .nil) (.node (o222_25 p) .nil .nil)) (.node (o126_11 p) (.node (o190_25 p) .nil .nil) .nil)))))))
noncomputable def tD (p : Params) : BT := (.node (o0_0 p) (.node (o1_0 p) (.node (o3_13 p) (.node (o7_0 p) (.node (o15_11 p) (.node (o31_11 p) (.node (o63_11 p) (.node (o127_11 p) .nil .nil) .nil) (.node (o95_11 p) (.node (subO 11) .nil .nil) .nil)) (.node (o47_11 p) (.node (o79_11 p) (.node (o143_13 p) .nil .nil) .nil) (.node (o111_11 p) (.node (subO 27) .nil .nil) .nil))) (.node (o23_11 p) (.node (o39_11 p) (.node (o71_11 p) (.node (o135_12 p) .nil .nil) .nil) (.node (o103_11 p) (.node (subO 19) .nil .nil) .nil)) (.node (o55_11 p) (.node (o87_11 p) (.node (subO 3) .nil .nil) .nil) (.node (o119_11 p) (.node (subO 35) .nil .nil) .nil)))) (.node (o11_0 p) (.node (o19_11 p) (.node (o35_11 p) (.node (o67_11 p) (.node (o131_12 p) .nil .nil) .nil) (.node (o99_11 p) (.node (subO 15) .nil .nil) .nil)) (.node (o51_11 p) (.node (o83_11 p) (.node (o147_13 p) .nil .nil) .nil) (.node (o115_11 p) (.node (subO 31) .nil .nil) .nil))) (.node (o27_11 p) (.node (o43_11 p) (.node (o75_11 p) (.node (o139_12 p) .nil .nil) .nil) (.node (o107_11 p) (.node (subO 23) .nil .nil) .nil)) (.node (o59_11 p) (.node (o91_11 p) (.node (subO 7) .nil .nil) .nil) (.node (o123_11 p) .nil .nil))))) (.node (o5_0 p) (.node (o9_0 p) (.node (o17_11 p) (.node (o33_11 p) (.node (o65_11 p) (.node (o129_11 p) .nil .nil) .nil) (.node (o97_11 p) (.node (subO 13) .nil .nil) .nil)) (.node (o49_11 p) (.node (o81_11 p) (.node (o145_13 p) .nil .nil) .nil) (.node (o113_11 p) (.node (subO 29) .nil .nil) .nil))) (.node (o25_11 p) (.node (o41_11 p) (.node (o73_11 p) (.node (o137_12 p) .nil .nil) .nil) (.node (o105_11 p) (.node (subO 21) .nil .nil) .nil)) (.node (o57_11 p) (.node (o89_11 p) (.node (subO 5) .nil .nil) .nil) (.node (o121_11 p) (.node (subO 37) .nil .nil) .nil)))) (.node (o13_0 p) (.node (o21_11 p) (.node (o37_11 p) (.node (o69_11 p) (.node (o133_12 p) .nil .nil) .nil) (.node (o101_11 p) (.node (subO 17) .nil .nil) .nil)) (.node (o53_11 p) (.node (o85_11 p) (.node (subO 1) .nil .nil) .nil) (.node (o117_11 p) (.node (subO 33) .nil .nil) .nil))) (.node (o29_11 p) (.node (o45_11 p) (.node (o77_11 p) (.node (o141_13 p) .nil .nil) .nil) (.node (o109_11 p) (.node (subO 25) .nil .nil) .nil)) (.node (o61_11 p) (.node (o93_11 p) (.node (subO 9) .nil .nil) .nil) (.node (o125_11 p) .nil .nil)))))) (.node (o2_0 p) (.node (o4_0 p) (.node (o8_0 p) (.node (o16_11 p) (.node (o32_11 p) (.node (o64_11 p) (.node (o128_11 p) .nil .nil) .nil) (.node (o96_11 p) (.node (subO 12) .nil .nil) .nil)) (.node (o48_11 p) (.node (o80_11 p) (.node (o144_13 p) .nil .nil) .nil) (.node (o112_11 p) (.node (subO 28) .nil .nil) .nil))) (.node (o24_11 p) (.node (o40_11 p) (.node (o72_11 p) (.node (o136_12 p) .nil .nil) .nil) (.node (o104_11 p) (.node (subO 20) .nil .nil) .nil)) (.node (o56_11 p) (.node (o88_11 p) (.node (subO 4) .nil .nil) .nil) (.node (o120_11 p) (.node (subO 36) .nil .nil) .nil)))) (.node (o12_13 p) (.node (o20_11 p) (.node (o36_11 p) (.node (o68_11 p) (.node (o132_12 p) .nil .nil) .nil) (.node (o100_11 p) (.node (subO 16) .nil .nil) .nil)) (.node (o52_11 p) (.node (o84_11 p) (.node bigO .nil .nil) .nil) (.node (o116_11 p) (.node (subO 32) .nil .nil) .nil))) (.node (o28_11 p) (.node (o44_11 p) (.node (o76_11 p) (.node (o140_12 p) .nil .nil) .nil) (.node (o108_11 p) (.node (subO 24) .nil .nil) .nil)) (.node (o60_11 p) (.node (o92_11 p) (.node (subO 8) .nil .nil) .nil) (.node (o124_11 p) .nil .nil))))) (.node (o6_0 p) (.node (o10_0 p) (.node (o18_11 p) (.node (o34_11 p) (.node (o66_11 p) (.node (o130_12 p) .nil .nil) .nil) (.node (o98_11 p) (.node (subO 14) .nil .nil) .nil)) (.node (o50_11 p) (.node (o82_11 p) (.node (o146_13 p) .nil .nil) .nil) (.node (o114_11 p) (.node (subO 30) .nil .nil) .nil))) (.node (o26_11 p) (.node (o42_11 p) (.node (o74_11 p) (.node (o138_12 p) .nil .nil) .nil) (.node (o106_11 p) (.node (subO 22) .nil .nil) .nil)) (.node (o58_11 p) (.node (o90_11 p) (.node (subO 6) .nil .nil) .nil) (.node (o122_11 p) (.node subZ .nil .nil) .nil)))) (.node (o14_0 p) (.node (o22_11 p) (.node (o38_11 p) (.node (o70_11 p) (.node (o134_12 p) .nil .nil) .nil) (.node (o102_11 p) (.node (subO 18) .nil .nil) .nil)) (.node (o54_11 p) (.node (o86_11 p) (.node (subO 2) .nil .nil) .nil) (.node (o118_11 p) (.node (subO 34) .nil .nil) .nil))) (.node (o30_11 p) (.node (o46_11 p) (.node (o78_11 p) (.node (o142_13 p) .nil .nil) .nil) (.node (o110_11 p) (.node (subO 26) .nil .nil) .nil)) (.node (o62_11 p) (.node (o94_11 p) (.node (subO 10) .nil .nil) .nil) (.node (o126_11 p) .nil .nil)))))))
noncomputable def l13 (p : Params) : List Obj := [(o0_0 p), (o1_0 p), (o2_0 p), (o3_13 p), (o4_0 p), (o5_0 p), (o6_0 p), (o7_0 p), (o8_0 p), (o9_0 p), (o10_0 p), (o11_0 p), (o12_13 p), (o13_0 p), (o14_0 p), (o15_11 p), (o16_11 p), (o17_11 p), (o18_11 p), (o19_11 p), (o20_11 p), (o21_11 p), (o22_11 p), (o23_11 p), (o24_11 p), (o25_11 p), (o26_11 p), (o27_11 p), (o28_11 p), (o29_11 p), (o30_11 p), (o31_11 p), (o32_11 p), (o33_11 p), (o34_11 p), (o35_11 p), (o36_11 p), (o37_11 p), (o38_11 p), (o39_11 p), (o40_11 p), (o41_11 p), (o42_11 p), (o43_11 p), (o44_11 p), (o45_11 p), (o46_11 p), (o47_11 p), (o48_11 p), (o49_11 p), (o50_11 p), (o51_11 p), (o52_11 p), (o53_11 p), (o54_11 p), (o55_11 p), (o56_11 p), (o57_11 p), (o58_11 p), (o59_11 p), (o60_11 p), (o61_11 p), (o62_11 p), (o63_11 p), (o64_11 p), (o65_11 p), (o66_11 p), (o67_11 p), (o68_11 p), (o69_11 p), (o70_11 p), (o71_11 p), (o72_11 p), (o73_11 p), (o74_11 p), (o75_11 p), (o76_11 p), (o77_11 p), (o78_11 p), (o79_11 p), (o80_11 p), (o81_11 p), (o82_11 p), (o83_11 p), (o84_11 p), (o85_11 p), (o86_11 p), (o87_11 p), (o88_11 p), (o89_11 p), (o90_11 p), (o91_11 p), (o92_11 p), (o93_11 p), (o94_11 p), (o95_11 p), (o96_11 p), (o97_11 p), (o98_11 p), (o99_11 p), (o100_11 p), (o101_11 p), (o102_11 p), (o103_11 p), (o104_11 p), (o105_11 p), (o106_11 p), (o107_11 p), (o108_11 p), (o109_11 p), (o110_11 p), (o111_11 p), (o112_11 p), (o113_11 p), (o114_11 p), (o115_11 p), (o116_11 p), (o117_11 p), (o118_11 p), (o119_11 p), (o120_11 p), (o121_11 p), (o122_11 p), (o123_11 p), (o124_11 p), (o125_11 p), (o126_11 p), (o127_11 p), (o128_11 p), (o129_11 p), (o130_12 p), (o131_12 p), (o132_12 p), (o133_12 p), (o134_12 p), (o135_12 p), (o136_12 p), (o137_12 p), (o138_12 p), (o139_12 p), (o140_12 p), (o141_13 p), (o142_13 p), (o143_13 p), (o144_13 p), (o145_13 p), (o146_13 p), (o147_13 p)]
end
end Mine
end

section
open PySem PySem.W PyProof.Rows PySem.Calls
set_option maxRecDepth 1000000
set_option maxHeartbeats 0
namespace Mine
noncomputable section
noncomputable def envT : Env := { scope := P.main.scope, locals := mainNs, globals := mainNs, cells := [], code := Value.ref 13, frame := some 14 }
noncomputable def pos0 : Pos := { line := 0, col := 0, endLine := 0, endCol := 0 }
noncomputable def cE : Code := .body P.main.body envT
noncomputable def sts (a b : Nat) : List Stmt := (P.main.body.drop a).take b
noncomputable def sh (t : Params → BT) (n k : Nat) (w : World) (os : OsState) : SharedT := ⟨t w.params, n, {}, Array.mk [], boot_drawn, k, os⟩
noncomputable def rn (N a b : Nat) (p : Pos) (w : World) (s : SharedT) := segRunT treeTable P w 11 (some (Value.ref 6)) 1 N s (piecesOf (sts a b) envT cE p [topFrame pos0])
theorem rn_fast (N a b : Nat) (p : Pos) (w : World) (s : SharedT) : rn N a b p w s = Fast.tw10110043849684766642 Fast.tw14364793385576792824 P w 11 (some (Value.ref 6)) 1 N s ⟨(Fast.tw12563942051412417395 (sts a b) envT).wrap doneF deadEnd id id, cE, p, [topFrame pos0]⟩ := by
  unfold rn
  rw [← Fast.te10110043849684766642, ← Fast.te12563942051412417395, ← Fast.te14364793385576792824]
noncomputable def posA : Pos := { line := 81, col := 0, endLine := 81, endCol := 8 }
theorem run_a (os : OsState) : ∀ w : World, rn 800 0 11 pos0 w (sh t0 15 187 w os) = some (.next, sh t11 130 351 w os, cE, posA) :=
  byRow2 "special-get-raises" (fun w => by rw [rn_fast]; kernel_rfl) (fun w => by rw [rn_fast]; kernel_rfl)
end
end Mine
end

section
open PySem PySem.W PyProof.Rows PySem.Calls
set_option maxRecDepth 1000000
set_option maxHeartbeats 0
namespace Mine
noncomputable def posB : Pos := { line := 82, col := 0, endLine := 82, endCol := 6 }
noncomputable def posC : Pos := { line := 83, col := 0, endLine := 84, endCol := 30 }
theorem run_b (os : OsState) : ∀ w : World, rn 1100 11 1 posA w (sh t11 130 351 w os) = some (.next, sh t12 141 411 w os, cE, posB) :=
  byRow2 "set-order" (byRow2 "special-get-raises" (fun w => by rw [rn_fast]; kernel_rfl) (fun w => by rw [rn_fast]; kernel_rfl)) (byRow2 "special-get-raises" (fun w => by rw [rn_fast]; kernel_rfl) (fun w => by rw [rn_fast]; kernel_rfl))
theorem run_c (os : OsState) (w : World) : rn 60 12 1 posB w (sh t12 141 411 w os) = some (.next, sh t13 148 418 w os, cE, posC) := by rw [rn_fast]; kernel_rfl
end Mine
end

section
open PySem PySem.W PyProof.Rows PySem.Calls
set_option maxRecDepth 1000000
set_option maxHeartbeats 0
namespace Mine
noncomputable def posD : Pos := { line := 85, col := 0, endLine := 85, endCol := 13 }
noncomputable def posE : Pos := { line := 177, col := 0, endLine := 208, endCol := 15 }
theorem run_e (os : OsState) (w : World) : rn 400 14 11 posD w (sh t14 187 2369 w os) = some (.next, sh t25 253 2478 w os, cE, posE) := by rw [rn_fast]; kernel_rfl
theorem assign_dict (id : Str) (npos q pos : Pos) (ks : List (Option PySem.Expr)) (vs : List PySem.Expr) (env : Env) : exec (.Assign [.Name id npos] (.Dict ks vs q) pos) env =
    (standAt pos >>= fun _ => standAt q >>= fun _ => dictDisplay ((evalEachOpt ks env).zip ((evalEach vs env).map fun v => do let x ← v; standAt q; pure x)) >>= fun v => assignStores env v none ((assignEach [.Name id npos] env).map (·.2))) := rfl
end Mine
end

section
open PySem PySem.W PyProof.Rows PySem.Calls
set_option maxRecDepth 100000
set_option maxHeartbeats 0
namespace Mine
variable {ann : Option Value} {w : World}
/-- constants, told by their shape -/
noncomputable def keyIs : Option PySem.Expr → Bool
  | some (.Constant (.int _) _ _) => true
  | _ => false
noncomputable def valIs : PySem.Expr → Bool
  | .Constant (.str _) _ _ => true
  | _ => false
noncomputable def litOk (ks : List (Option PySem.Expr)) (vs : List PySem.Expr) : Bool := ks.all keyIs && (vs.all valIs && ks.length == vs.length)
noncomputable def kvPick : Option PySem.Expr × PySem.Expr → Option (Int × Str) := fun
  | (some (.Constant (.int k) _ _), .Constant (.str s) _ _) => some (k, s)
  | _ => none
theorem dKV_pick : dKV = (dParts.1.zip dParts.2.1).filterMap kvPick := rfl
theorem pair_lit (q p p' : Pos) (k : Int) (x : Str) (a a' : Nat) (env : Env) : Pair q ann w (eval (.Constant (.int k) a p) env, (do let v ← eval (.Constant (.str x) a' p') env; standAt q; pure v)) k x :=
  ⟨fun s => Ends.fresh Ends.pure, fun s => Ends.fresh (Ends.at Ends.pure)⟩
theorem keyIs_is {k : Option PySem.Expr} (h : keyIs k = true) : ∃ i a p, k = some (.Constant (.int i) a p) := by
  unfold keyIs at h
  split at h
  · exact ⟨_, _, _, rfl⟩
  · cases h
theorem valIs_is {v : PySem.Expr} (h : valIs v = true) : ∃ x a p, v = .Constant (.str x) a p := by
  unfold valIs at h
  split at h
  · exact ⟨_, _, _, rfl⟩
  · cases h
theorem litOk_cons {k : Option PySem.Expr} {v : PySem.Expr} {ks : List (Option PySem.Expr)} {vs : List PySem.Expr} (h : litOk (k :: ks) (v :: vs) = true) :
    ∃ i a p x a' p', k = some (.Constant (.int i) a p) ∧ v = .Constant (.str x) a' p' ∧ litOk ks vs = true := by
  obtain ⟨h1, h23⟩ := Bool.and_eq_true_iff.mp h
  obtain ⟨h2, h3⟩ := Bool.and_eq_true_iff.mp h23
  rw [List.all_cons] at h1 h2
  obtain ⟨k1, k2⟩ := Bool.and_eq_true_iff.mp h1
  obtain ⟨v1, v2⟩ := Bool.and_eq_true_iff.mp h2
  obtain ⟨i, a, p, e⟩ := keyIs_is k1
  obtain ⟨x, a', p', e'⟩ := valIs_is v1
  refine ⟨i, a, p, x, a', p', e, e', ?_⟩
  refine Bool.and_eq_true_iff.mpr ⟨k2, Bool.and_eq_true_iff.mpr ⟨v2, ?_⟩⟩
  have := eq_of_beq h3
  exact beq_iff_eq.mpr (Nat.succ.inj this)
theorem lits (q : Pos) (env : Env) : ∀ (ks : List (Option PySem.Expr)) (vs : List PySem.Expr), litOk ks vs = true →
    ∃ xs, (evalEachOpt ks env).zip ((evalEach vs env).map fun v => do let x ← v; standAt q; pure x) = xs.map someP ∧ Pairs q ann w xs ((ks.zip vs).filterMap kvPick) := by
  intro ks
  induction ks with
  | nil =>
    intro vs h
    cases vs with
    | nil => exact ⟨[], rfl, .nil⟩
    | cons v vs =>
      obtain ⟨_, h⟩ := Bool.and_eq_true_iff.mp h
      obtain ⟨_, h⟩ := Bool.and_eq_true_iff.mp h
      exact Bool.noConfusion h
  | cons k ks ih =>
    intro vs h
    cases vs with
    | nil =>
      obtain ⟨_, h⟩ := Bool.and_eq_true_iff.mp h
      obtain ⟨_, h⟩ := Bool.and_eq_true_iff.mp h
      exact Bool.noConfusion h
    | cons v vs =>
      obtain ⟨k, a, p, x, a', p', rfl, rfl, h9⟩ := litOk_cons h
      obtain ⟨xs, e, hx⟩ := ih vs h9
      refine ⟨(eval (.Constant (.int k) a p) env, (do let v ← eval (.Constant (.str x) a' p') env; standAt q; pure v)) :: xs, ?_, ?_⟩
      · rw [List.map_cons, ← e]; rfl
      · rw [List.zip_cons_cons, List.filterMap_cons]
        exact .cons (pair_lit q p p' k x a a' env) hx
end Mine
end

section
open PySem PySem.W PyProof.Rows PySem.Calls
set_option maxRecDepth 100000
set_option maxHeartbeats 0
namespace Mine
variable {ann : Option Value} {w : World}
theorem Pairs.take {q : Pos} : ∀ {xs r} (k : Nat), Pairs q ann w xs r → Pairs q ann w (xs.take k) (r.take k)
  | _, _, 0, _ => by rw [List.take_zero, List.take_zero]; exact .nil
  | _, _, _ + 1, .nil => .nil
  | _, _, k + 1, .cons h t => .cons h (t.take k)
theorem Pairs.drop {q : Pos} : ∀ {xs r} (k : Nat), Pairs q ann w xs r → Pairs q ann w (xs.drop k) (r.drop k)
  | _, _, 0, h => h
  | _, _, _ + 1, .nil => .nil
  | _, _, k + 1, .cons _ t => t.drop k
noncomputable def subsR (m n : Nat) (r : List (Int × Str)) : List Obj := (List.range m).map fun i => dictO (entsFrom (n + 51 * i) ((r.drop (17 * i)).take 17))
noncomputable def entsR (m n : Nat) (r : List (Int × Str)) : List DictEntry := (List.range m).flatMap fun i => entsFrom (n + 51 * i) ((r.drop (17 * i)).take 17)
theorem subsR_succ (m n : Nat) (r : List (Int × Str)) : subsR (m + 1) n r = dictO (entsFrom n (r.take 17)) :: subsR m (n + 51) (r.drop 17) := by
  unfold subsR
  rw [List.range_succ_eq_map, List.map_cons, List.map_map]
  congr 1
  refine List.map_congr_left fun i _ => ?_
  show dictO (entsFrom (n + 51 * (i + 1)) ((r.drop (17 * (i + 1))).take 17)) = _
  rw [List.drop_drop, show n + 51 + 51 * i = n + 51 * (i + 1) by omega, show 17 + 17 * i = 17 * (i + 1) by omega]
theorem entsR_succ (m n : Nat) (r : List (Int × Str)) : entsR (m + 1) n r = entsFrom n (r.take 17) ++ entsR m (n + 51) (r.drop 17) := by
  unfold entsR
  rw [List.range_succ_eq_map, List.flatMap_cons, List.flatMap_map]
  congr 1
  have : (fun i => entsFrom (n + 51 * (i + 1)) ((r.drop (17 * (i + 1))).take 17)) = (fun i => entsFrom (n + 51 + 51 * i) (((r.drop 17).drop (17 * i)).take 17)) := by
    funext i
    rw [List.drop_drop, show n + 51 + 51 * i = n + 51 * (i + 1) by omega, show 17 + 17 * i = 17 * (i + 1) by omega]
  exact congrArg (fun f => (List.range m).flatMap f) this
theorem chunk_it {q : Pos} : ∀ (m j : Nat) (xs : List (Sem Value × Sem Value)) (r : List (Int × Str)), Pairs q ann w xs r → xs.length = 17 * m + j →
    ∃ (cs : List Chunk) (ys : List (Sem Value × Sem Value)) (rr : List (Int × Str)), cs.length = m ∧ (∀ c ∈ cs, ChunkOk q ann w c) ∧ xs.map someP = itemsOf cs ++ ys.map someP ∧ Pairs q ann w ys rr ∧ ys.length = j ∧ r = keysOf cs ++ rr ∧ rr = r.drop (17 * m) ∧
      (∀ n, subsOf n cs = subsR m n r) ∧ (∀ n, entsOf n cs = entsR m n r)
  | 0, j, xs, r, hx, hl => ⟨[], xs, r, rfl, (fun _ h => by cases h), rfl, hx, by omega, rfl, rfl, fun _ => rfl, fun _ => rfl⟩
  | m + 1, j, xs, r, hx, hl => by
    have hxl : (xs.drop 17).length = 17 * m + j := by rw [List.length_drop]; omega
    obtain ⟨cs, ys, rr, h1, h2, h3, h4, h5, h6, h7, h8, h9⟩ := chunk_it m j (xs.drop 17) (r.drop 17) (hx.drop 17) hxl
    have h17 : (xs.take 17).length = 17 := by rw [List.length_take]; omega
    have hne : xs.take 17 ≠ [] := fun e => by rw [e] at h17; cases h17
    have hall : Chunk.all ⟨(xs.take 17).dropLast, (xs.take 17).getLast hne, r.take 17⟩ = xs.take 17 := List.dropLast_concat_getLast hne
    refine ⟨⟨(xs.take 17).dropLast, (xs.take 17).getLast hne, r.take 17⟩ :: cs, ys, rr, by rw [List.length_cons, h1], ?_, ?_, h4, h5, ?_, ?_, ?_, ?_⟩
    · intro c hc
      rcases List.mem_cons.mp hc with rfl | hc
      · exact ⟨by rw [hall]; exact h17, by rw [hall]; exact hx.take 17⟩
      · exact h2 c hc
    · show _ = ((Chunk.all ⟨(xs.take 17).dropLast, (xs.take 17).getLast hne, r.take 17⟩).map someP ++ itemsOf cs) ++ _
      rw [hall, List.append_assoc, ← h3, ← List.map_append, List.take_append_drop]
    · show r = (r.take 17 ++ keysOf cs) ++ rr
      rw [List.append_assoc, ← h6, List.take_append_drop]
    · rw [h7, List.drop_drop, show 17 + 17 * m = 17 * (m + 1) by omega]
    · intro n
      rw [subsR_succ, ← h8]; rfl
    · intro n
      rw [entsR_succ, ← h9]; rfl
end Mine
end

section
open PySem PySem.W PyProof.Rows PySem.Calls
set_option maxRecDepth 1000000
set_option maxHeartbeats 0
namespace Mine
variable {ann : Option Value} {w : World}
theorem lit_ok : litOk dParts.1 dParts.2.1 = true := by decide +kernel
theorem kv_len : dKV.length = 650 := by decide +kernel
theorem kv_asc : asc 0 dKV = true := by decide +kernel
theorem display_own {B : List Obj} {s : Shared} {n : Nat} (hB : Nat.ble 11 B.length = true) (hs : sysModules < B.length) :
    Ends treeTable 11 ann P w 12515 (dictDisplay ((evalEachOpt dParts.1 envT).zip ((evalEach dParts.2.1 envT).map fun v => do let x ← v; standAt dParts.2.2; pure x))) (at1 B s n) dParts.2.2 (.ref B.length)
      (at3 B (dictO (entsR 38 n dKV ++ entsShort (n + 1938) (dKV.drop 646))) (subsR 37 (n + 51) (dKV.drop 17) ++ [dictO (entsShort (n + 1938) (dKV.drop 646))]) s (n + 1950)) dParts.2.2 := by
  obtain ⟨xs, e, hx⟩ := lits (ann := ann) (w := w) dParts.2.2 envT dParts.1 dParts.2.1 lit_ok
  rw [← dKV_pick] at hx
  have hl : xs.length = 17 * 38 + 4 := by rw [hx.len, kv_len]
  obtain ⟨cs, ys, rr, h1, h2, h3, h4, h5, h6, h7, h8, h9⟩ := chunk_it 38 4 xs dKV hx hl
  match cs, h1 with
  | c :: cs, h1 =>
    have hcs : cs.length = 37 := by simpa using h1
    have hrr : rr.length = 4 := by rw [← h4.len, h5]
    have hk : asc 0 (c.r ++ (keysOf cs ++ rr)) = true := by
      have : c.r ++ (keysOf cs ++ rr) = dKV := by rw [h6]; show _ = (c.r ++ keysOf cs) ++ rr; rw [List.append_assoc]
      rw [this]; exact kv_asc
    have := display (ann := ann) (w := w) (s := s) (n := n) hB hs (h2 c (.head _)) (fun x hx => h2 x (.tail _ hx)) (by omega) (by omega) (by intro q; rw [q] at h5; cases h5) h4 hk
    rw [hcs, hrr] at this
    rw [e, h3]
    have e8 := h8 n
    rw [subsR_succ] at e8
    have e8' : subsOf (n + 51) cs = subsR 37 (n + 51) (dKV.drop 17) := (List.cons.inj e8).2
    rw [h9 n, e8', h7] at this
    exact this
theorem display_st {B : List Obj} {s : Shared} {n : Nat} : True := trivial
end Mine
end

section
open PySem PySem.W PyProof.Rows PySem.Calls
set_option maxRecDepth 1000000
set_option maxHeartbeats 0
namespace Mine
variable {ann : Option Value} {w : World}
noncomputable def posV : Pos := ⟨85, 0, 85, 8704⟩
noncomputable def idB3 : Str := Str.ofString "b3_exceptions"
theorem sts13 : sts 13 1 = [.Assign [.Name idB3 posD] (.Dict dParts.1 dParts.2.1 dParts.2.2) posV] := by kernel_rfl
theorem subs_own : subsR 37 (418 + 51) (dKV.drop 17) = (List.range 37).map fun i => subO (i + 1) := by
  have h := subsR_succ 37 418 dKV
  have e : subsR 38 418 dKV = (List.range 38).map subO := rfl
  rw [e, show (38 : Nat) = 37 + 1 from rfl, List.range_succ_eq_map, List.map_cons, List.map_map] at h
  exact (List.cons.inj h).2.symm
theorem last_own : dKV.drop 646 = kvOf 38 := by
  show _ = (dKV.drop (17 * 38)).take 17
  rw [List.take_of_length_le (by rw [List.length_drop, kv_len]; decide)]
theorem big_own : entsR 38 418 dKV ++ entsShort (418 + 1938) (dKV.drop 646) = bigL := by rw [last_own]; rfl
theorem l13_len (p : Params) : (l13 p).length = 148 := by kernel_rfl
theorem t13_list (p : Params) : (t13 p).list 148 = l13 p := by kernel_rfl
theorem tD_list (p : Params) : (tD p).list 187 = l13 p ++ bigO :: ((List.range 37).map (fun i => subO (i + 1)) ++ [subZ]) := by kernel_rfl
theorem display_tree (os : OsState) (w : World) : Ends treeTable 11 (some (Value.ref 6)) P w 12515 (dictDisplay ((evalEachOpt dParts.1 envT).zip ((evalEach dParts.2.1 envT).map fun v => do let x ← v; standAt dParts.2.2; pure x)))
    (sh t13 148 418 w os).abs dParts.2.2 (.ref 148) (sh tD 187 2368 w os).abs dParts.2.2 := by
  have h := display_own (ann := some (Value.ref 6)) (w := w) (B := l13 w.params) (s := ⟨⟨#[], {}⟩, Array.mk [], boot_drawn, 0, os⟩) (n := 418) (by rw [l13_len]; rfl) (by rw [l13_len]; decide)
  rw [subs_own, big_own, last_own, l13_len] at h
  have e1 : at1 (l13 w.params) ⟨⟨#[], {}⟩, Array.mk [], boot_drawn, 0, os⟩ 418 = (sh t13 148 418 w os).abs := by
    unfold at1 SharedT.abs absHeap sh
    dsimp only
    rw [t13_list]
  have e2 : at3 (l13 w.params) (dictO bigL) ((List.range 37).map (fun i => subO (i + 1)) ++ [dictO (entsShort (418 + 1938) (kvOf 38))]) ⟨⟨#[], {}⟩, Array.mk [], boot_drawn, 0, os⟩ (418 + 1950) = (sh tD 187 2368 w os).abs := by
    unfold at3 SharedT.abs absHeap sh
    dsimp only
    rw [tD_list]
    rfl
  rw [e1, e2] at h
  exact h
end Mine
end

section
open PySem PySem.W PyProof.Rows PySem.Calls
set_option maxRecDepth 1000000
set_option maxHeartbeats 0
namespace Mine
noncomputable def F13 (v : Value) : Sem Flow := assignStores envT v none ((assignEach [.Name idB3 posD] envT).map (·.2))
noncomputable def D13 : Sem Value := dictDisplay ((evalEachOpt dParts.1 envT).zip ((evalEach dParts.2.1 envT).map fun v => do let x ← v; standAt dParts.2.2; pure x))
theorem store13 (os : OsState) (w : World) : segRunT treeTable P w 11 (some (Value.ref 6)) 1 20 (sh tD 187 2368 w os) ⟨(F13 (.ref 148)).wrap (fun f => match f with | .next => (execs [] envT).wrap doneF deadEnd id id | f => doneF f) deadEnd id id, cE, dParts.2.2, [topFrame pos0]⟩ = some (.next, sh t14 187 2369 w os, cE, posD) := by
  kernel_rfl
theorem run_d (os : OsState) (w : World) : segRun treeTable P w 11 (some (Value.ref 6)) 1 (12517 + 20) (sh t13 148 418 w os).abs (piecesOf (sts 13 1) envT cE posC [topFrame pos0]) = some (.next, (sh t14 187 2369 w os).abs, cE, posD) := by
  have hE : Ends treeTable 11 (some (Value.ref 6)) P w (1 + (1 + 12515)) (standAt posV >>= fun _ => standAt dParts.2.2 >>= fun _ => D13) (sh t13 148 418 w os).abs posC (.ref 148) (sh tD 187 2368 w os).abs dParts.2.2 :=
    Ends.bind (a := ()) (Ends.at Ends.pure) (Ends.bind (a := ()) (Ends.at Ends.pure) (display_tree os w))
  have hx : exec (.Assign [.Name idB3 posD] (.Dict dParts.1 dParts.2.1 dParts.2.2) posV) envT = (standAt posV >>= fun _ => standAt dParts.2.2 >>= fun _ => D13).wrap F13 .raise id id := by
    rw [← Sem.bind_eq_wrap']
    exact assign_dict _ _ _ _ _ _ _
  rw [sts13]
  show segRun _ _ _ _ _ _ _ _ ⟨(execs [_] envT).wrap doneF deadEnd id id, cE, posC, [topFrame pos0]⟩ = _
  rw [execs_cons_wrap, hx, Sem.wrap_wrap]
  exact hE _ _ _ _ cE [topFrame pos0] 1 20 _ (Nat.le_refl 1) (segRun_of (store13 os w))
end Mine
end

section
open PySem PySem.W PyProof.Rows PySem.Calls
set_option maxRecDepth 1000000
set_option maxHeartbeats 0
namespace Mine
theorem rn_run {N a b : Nat} {p p' : Pos} {w : World} {s s' : SharedT} (h : rn N a b p w s = some (.next, s', cE, p')) : segRun treeTable P w 11 (some (Value.ref 6)) 1 N s.abs (piecesOf (sts a b) envT cE p [topFrame pos0]) = some (.next, s'.abs, cE, p') := segRun_of h
theorem body_sts : P.main.body = sts 0 11 ++ (sts 11 1 ++ (sts 12 1 ++ (sts 13 1 ++ (sts 14 11 ++ [])))) := by kernel_rfl
noncomputable def bootS (w : World) (os : OsState) : Shared := ⟨boot_heap w.params, Array.mk [], boot_drawn, boot_toks, os⟩
theorem run_pre (os : OsState) (w : World) : topGo treeTable P w 11 (some (Value.ref 6)) 12 (bootS w os) (topStub P) = some ((sh t0 15 187 w os).abs, ⟨denote treeTable cE, cE, pos0, [topFrame pos0]⟩) := by kernel_rfl
theorem run_block (os : OsState) (w : World) : segRun treeTable P w 11 (some (Value.ref 6)) 1 1 (sh t0 15 187 w os).abs (blockOf P.main.body envT cE pos0 [topFrame pos0]) = some (.next, (sh t0 15 187 w os).abs, cE, pos0) := by kernel_rfl
theorem run_fin (os : OsState) (w : World) : topRun treeTable P w 11 (some (Value.ref 6)) 2 (sh t25 253 2478 w os).abs ⟨doneF .next, cE, posE, [topFrame pos0]⟩ = some (sh t25 253 2478 w os).abs := by kernel_rfl
theorem run_top (w : World) (os : OsState) : topRun treeTable P w 11 (some (Value.ref 6)) (12 + (1 + (800 + (1100 + (60 + (12537 + (400 + 2))))))) (bootS w os) (topStub P) = some (sh t25 253 2478 w os).abs := by
  refine go_top (run_pre os w) (piece_block (run_block os w) ?_)
  rw [body_sts]
  refine piece_app (rn_run (run_a os w)) ?_
  refine piece_app (rn_run (run_b os w)) ?_
  refine piece_app (rn_run (run_c os w)) ?_
  refine piece_app (run_d os w) ?_
  refine piece_app (rn_run (run_e os w)) ?_
  exact piece_nil (run_fin os w)
end Mine
end

section
open PySem PySem.W PyProof.Rows PySem.Calls
set_option maxRecDepth 1000000
set_option maxHeartbeats 0
namespace Mine
noncomputable def vw : Program := view P [0, 2, 4, 5, 6, 7, 8, 9, 11, 12, 13, 14, 16, 17, 18, 19, 20, 21, 22, 23, 24]
noncomputable def looseL : List Str := [Str.ofString "Whitespace", Str.ofString "b1_set", Str.ofString "b3_exceptions"]
/-- a hook that tells the set's object, too -/
noncomputable def both (H : Hook) : Hook := ⟨H.α × Option Obj, fun s => (H.obs s, s.heap.get? 137), fun w => (H.val w, some (o137_12 w.params)), fun w h => H.says w h ∧ h.get? 137 = some (o137_12 w.params),
  fun w s e => ⟨H.of w s (Prod.mk.inj e).1, (Prod.mk.inj e).2⟩, fun w h h' x k => ⟨H.keeps w h h' x.1 k, k _ _ x.2⟩⟩
noncomputable def Xl (s : Shared) : Bool := xlAt vw [] s && recOk (RowW.records PySem.Challenge.rw_tl0043_01.row.toRowW) s
theorem open_b : ∀ w : World, (fencedOpening treeTable P w 29354).map (fun s => (s.heap, s.gens, s.drawn, s.toks)) = some (boot_heap w.params, Array.mk [], boot_drawn, boot_toks) :=
  boot_open (by kernel_rfl) (by rfl) (fun s => by kernel_rfl)
theorem size_b (w : World) : ((boot_heap w.params).isNs mainGlobals && (Array.mk [] : Array GenState).size == 0, (boot_heap w.params).objs.size, (boot_heap w.params).nsMap mainGlobals "__annotations__") = (true, 11, some (Value.ref 6)) := by kernel_rfl
noncomputable def H1 (p : Params) : Heap := absHeap (t25 p) 253 {}
noncomputable def S1 (w : World) (os : OsState) : Shared := ⟨H1 w.params, Array.mk [], boot_drawn, 2478, os⟩
theorem look_a (w : World) (os : OsState) : (staticsOk (importedModules P.main.body) (boot_heap w.params) (H1 w.params) && namesBound P (H1 w.params) && gensDone (S1 w os) && laidKept (boot_heap w.params) (H1 w.params)) = true := by kernel_rfl
end Mine
end

section
open PySem PySem.W PyProof.Rows PySem.Calls
set_option maxRecDepth 1000000
set_option maxHeartbeats 0
namespace Mine
theorem lk1 (w : World) (os : OsState) : seen ((recsOf vw).map (·.name)) (ownsOf vw) [] { S1 w os with gens := #[] } = expectedOf vw := by kernel_rfl
theorem lk2 (w : World) : (H1 w.params).bltView = bltViewBooted := by kernel_rfl
theorem lk3k (w : World) : (H1 w.params).nsKeys cStatics = [] := by kernel_rfl
theorem lk3i (w : World) : (H1 w.params).isNs cStatics = true := by kernel_rfl
theorem lk3b (w : World) : (H1 w.params).accountedOkI (importedModules P.main.body) = true := by
  unfold Heap.accountedOkI
  rw [lk3k, lk3i]
  rfl
theorem lk3a (w : World) : (H1 w.params).keysOk (looseW vw looseL) ((recsOf vw).map (·.name)) ((litsOf vw).map (·.1)) ((clssOf vw (looseW vw looseL)).map (·.name)) = true := by kernel_rfl
theorem lk3c (w : World) : (H1 w.params).isNs mainGlobals = true := by kernel_rfl
theorem lk3e (w : World) : (H1 w.params).isNs builtinsNs = true := by kernel_rfl
noncomputable def ascD : Int → List (PyData × PyData) → Bool
  | _, [] => true
  | lo, (.int k, _) :: D => decide (lo < k) && ascD k D
  | _, _ => false
theorem ascD_has : ∀ {D : List (PyData × PyData)} {lo k : Int}, ascD lo D = true → k ≤ lo → hasIntKey k D = false
  | [], _, _, _, _ => rfl
  | (.int j, _) :: D, lo, k, h, hk => by
    obtain ⟨h1, h2⟩ := Bool.and_eq_true_iff.mp h
    have h1 := of_decide_eq_true h1
    show ((j == k) || hasIntKey k D) = false
    rw [ascD_has h2 (by omega), Bool.or_false]
    exact beq_eq_false_iff_ne.mpr (by omega)
theorem ascD_apart : ∀ {D : List (PyData × PyData)} {lo : Int}, ascD lo D = true → keysApartInt D = true
  | [], _, _ => rfl
  | (.int j, _) :: D, lo, h => by
    obtain ⟨_, h2⟩ := Bool.and_eq_true_iff.mp h
    show (!hasIntKey j D && keysApartInt D) = true
    rw [ascD_has h2 (Int.le_refl _), ascD_apart h2]; rfl
theorem vn : valNames vw = [Str.ofString "b1_set", Str.ofString "b3_exceptions"] := by kernel_rfl
noncomputable def DD : List (PyData × PyData) := (topPairs? dParts.1 dParts.2.1).getD []
theorem td1 : tupIntsOf vw (Str.ofString "b1_set") = none := by kernel_rfl
theorem td2 : tupStrsOf vw (Str.ofString "b1_set") = none := by kernel_rfl
theorem td3 : tabIntOf vw (Str.ofString "b1_set") = none := by kernel_rfl
theorem td4 : tupIntsOf vw (Str.ofString "b3_exceptions") = none := by kernel_rfl
theorem td5 : tupStrsOf vw (Str.ofString "b3_exceptions") = none := by kernel_rfl
theorem td6 : tabIntOf vw (Str.ofString "b3_exceptions") = some DD := by kernel_rfl
theorem td7 : ascD 0 DD = true := by kernel_rfl
theorem td8 : entriesAreInt bigL DD = true := by kernel_rfl
theorem td9 (w : World) : (H1 w.params).nsMap mainGlobals (Str.ofString "b3_exceptions") = some (.ref 148) := by kernel_rfl
theorem tda (w : World) : (H1 w.params).get? 148 = some bigO := by kernel_rfl
theorem lk3f (w : World) : tablesOk vw (H1 w.params) = true := by
  unfold tablesOk
  rw [vn]
  simp only [List.all_cons, List.all_nil, td1, td2, td3, td4, td5, td6]
  have e : (H1 w.params).tabIntOk (Str.ofString "b3_exceptions") DD = true := by
    unfold Heap.tabIntOk
    rw [td9]
    dsimp only
    rw [tda]
    unfold bigO dictO
    dsimp only
    rw [td8, ascD_apart td7]
    rfl
  rw [e]; rfl
theorem m1 : Flt.mathMods vw = [] := by kernel_rfl
theorem m2 : Flt.mathDrawn vw = [] := by kernel_rfl
theorem m3 : Flt.patsOf vw = [] := by kernel_rfl
theorem m4 : RowW.records PySem.Challenge.rw_tl0043_01.row.toRowW = [] := by kernel_rfl
theorem lk3d (w : World) (os : OsState) : Xl (S1 w os) = true := by
  unfold Xl xlAt Flt.mathXt recOk
  rw [m1, m2, m3, m4]
  rfl
theorem lk4 (w : World) (os : OsState) : tabsOk vw (S1 w os) = true := by kernel_rfl
theorem lk5 (w : World) (os : OsState) : pinSeenD vw (drecsOf vw) (S1 w os) = pinGoodD (drecsOf vw) := by kernel_rfl
theorem lk6 (w : World) (os : OsState) : plainSeenE vw (looseW vw looseL) (S1 w os) = plainGoodE vw (looseW vw looseL) := by kernel_rfl
theorem lk7 (w : World) (os : OsState) : plainSeenD vw looseL (S1 w os) = plainGoodD vw looseL := by kernel_rfl
theorem lk8 (w : World) (os : OsState) : wideSeen vw (S1 w os) = wideGood vw := by kernel_rfl
theorem lk9 (w : World) (os : OsState) : clsSeenW vw looseL (S1 w os) = clsGoodW vw looseL := by kernel_rfl
theorem look_b (w : World) (os : OsState) : openSeen vw looseL (importedModules P.main.body) Xl true (S1 w os) = openGood vw looseL := by
  unfold openSeen openGood
  rw [lk1, lk4, lk5, lk6, lk7, lk8, lk9]
  have e : (S1 w os).heap = H1 w.params := rfl
  rw [e, lk2, lk3a, lk3b, lk3c, lk3e, lk3f, lk3d]
  rfl
theorem set_at (w : World) (os : OsState) : (S1 w os).heap.get? 137 = some (o137_12 w.params) := by kernel_rfl
theorem left_of (H : Hook) (hH : ∀ w os, H.obs (S1 w os) = H.val w) : LeftO P vw looseL Xl (both H).obs (both H).val 29354 :=
  LeftO.of_pieces (H₀ := boot_heap) (H₁ := H1) (gs₀ := Array.mk []) (gs₁ := Array.mk []) (d₀ := boot_drawn) (d₁ := boot_drawn) (k₀ := boot_toks) (k₁ := 2478) (m₀ := 11) (ann := some (Value.ref 6)) (M := 12 + (1 + (800 + (1100 + (60 + (12537 + (400 + 2)))))))
    open_b size_b (fun w os => run_top w os) (by rfl) fun w => by
      funext os
      have e : (both H).obs (S1 w os) = (both H).val w := by
        show (H.obs (S1 w os), (S1 w os).heap.get? 137) = (H.val w, some (o137_12 w.params))
        rw [hH, set_at]
      exact Prod.ext (look_a w os) (Prod.ext (look_b w os) e)
end Mine
end

section
open PySem PySem.W PyProof.Rows PySem.Calls
set_option maxRecDepth 100000
set_option maxHeartbeats 0
namespace Mine
theorem left_own (H : Hook) (hH : ∀ w os, H.obs (S1 w os) = H.val w) : LeftO PySem.Challenge.rw_tl0043_01.row.prog vw [Str.ofString "Whitespace", Str.ofString "b1_set", Str.ofString "b3_exceptions"] (fun s => xlAt vw [] s && recOk (RowW.records PySem.Challenge.rw_tl0043_01.row.toRowW) s) (both H).obs (both H).val 29354 := left_of H hH
noncomputable def head_own (H : Hook) (hH : ∀ w os, H.obs (S1 w os) = H.val w) (hs : PySem.Challenge.rw_tl0043_01.row.wellSaid = true) := fun hw hc => holds_open (q := vw) (loose := [Str.ofString "Whitespace", Str.ofString "b1_set", Str.ofString "b3_exceptions"]) (Xt := fun s => xlAt vw [] s && recOk (RowW.records PySem.Challenge.rw_tl0043_01.row.toRowW) s) (XP := XL vw []) (Yf := Hook.obs (both H)) (Ya := Hook.val (both H)) (YP := Hook.says (both H)) (N := 29354) (left_own H hH) (Hook.of (both H)) (Hook.keeps (both H)) (fun s e => xl_of s (Bool.and_eq_true_iff.mp e).1) XL.keeps (by rfl) (by rfl) (by rfl) (fun s e => recFacts_of (Bool.and_eq_true_iff.mp e).2) (by rfl) hs (by decide +kernel) ⟨rfl, rfl, rfl, rfl, rfl, by decide +kernel⟩ hw hc
local macro_rules | `(tactic| o_head $H) => `(tactic| refine head_own $H (fun _ _ => by kernel_rfl) (by first | assumption | decide +kernel) ?hw ?hc)
theorem law_said : PySem.Challenge.rw_tl0043_01.wellSaid = true := by rw [Fast.te9446332074065402090]; kernel_rfl
local macro_rules | `(tactic| o_law) => `(tactic| refine holds_law law_said fun said => ?_)
open_top hd for PySem.Challenge.rw_tl0043_01
end Mine
end

section
open PySem PySem.W PyProof.Rows PySem.Calls
set_option maxRecDepth 100000
set_option maxHeartbeats 0
namespace Mine
noncomputable abbrev LS : List Str := looseW vw [Str.ofString "Whitespace", Str.ofString "b1_set", Str.ofString "b3_exceptions"]
/-- the clock of names is past lo -/
noncomputable def Past (lo n : Nat) : Prop := lo ≤ n
/-- the numbers that table B.1 holds -/
noncomputable def codesB1 : List Int := [173, 847, 6150, 6155, 6156, 6157, 8203, 8204, 8205, 8288, 65279, 65024, 65025, 65026, 65027, 65028, 65029, 65030, 65031, 65032, 65033, 65034, 65035, 65036, 65037, 65038, 65039]
noncomputable abbrev pwL : Program := PySem.Challenge.rw_tl0043_01.row.prog
/-- b1_set stands at 137 -/
noncomputable def B1At (w : World) (h : Heap) : Prop := ∃ so, h.get? 137 = some so ∧ so.SetObjOf (PySem.intKind pwL w) (fun k => codesB1.contains k) 27
theorem B1At.keep {w : World} {h h' : Heap} (B : B1At w h) (k : ∀ b o, h.get? b = some o → h'.get? b = some o) : B1At w h' := let ⟨so, a, b⟩ := B; ⟨so, k _ _ a, b⟩
/-- a contract: what a call of the def at f gives -/
noncomputable abbrev LC (w : World) (lo : Nat) (f : Addr) (vs : List Value) (led : List (Addr × Obj)) (Post : Heap → Addr → List (Addr × Obj) → Value → Heap → Prop) : Prop :=
  ∀ (mean : ExcName → Option Value) (mg mb : Str → Option Value) (dp un : Nat) (gd : Option (List Code)) (cn : Str) (cs : Scope) (a : Addr) (ccd : Value) (cl : List (Str × Addr)) (outer : List Env) (A₀ : Around) (base h₀ : Heap) (L : Addr) (m : Str → Option Value) (news : List (Addr × Obj)) (s : Shared) (Q E : Value → Shared → Prop),
    Below A₀ base outer h₀ → Fr h₀ L s.heap m → (hd.heap_1 w.params).In h₀ → News h₀ L s.heap (led ++ news) → Top vw LS mean mg mb h₀ → cs.kind = .function → dp + 10 < recursionLimit → un + 80 < cLine → Past lo s.toks → B1At w h₀ →
    (∀ v h' tk', Fr h₀ L h' m → Post h₀ L (led ++ news) v h' → Q v { s with heap := h', toks := tk' }) →
      wpAny (model PySem.Challenge.rw_tl0043_01.row.prog w) (ktrTop dp un gd cn cs L a ccd cl outer) (call (.ref f) vs) Q E s
theorem low3 {a i k b L : Nat} (h : a + b < L) (hk : Nat.ble (i + k) b = true) : a + i + k < L := by
  have := Nat.le_of_ble_eq_true hk
  omega
theorem pre_len {x : Str} {pre post : List Nat} {d n : Nat} (hd : x.cps.toList = pre ++ d :: post) (h : x.length ≤ n) : pre.length ≤ n := by
  have := congrArg List.length hd
  simp only [List.length_append, List.length_cons, Array.length_toList] at this
  have : x.cps.size ≤ n := h
  omega
end Mine
end

section
open PySem PySem.W PyProof.Rows PySem.Calls PySem.Spec
set_option maxRecDepth 100000
set_option maxHeartbeats 0
namespace Mine
section
variable {prog : Program} {w : World} {A : Around} {E : Value → Shared → Prop} {s : Shared} {env : Env} {h₀ : Heap}

/-- an iterator that hands out n items, asked where the clock of names is past nought -/
structure Feed (lo : Nat) (prog : Program) (w : World) (A : Around) (I : Addr) (n : Nat) (P : Nat → Value → Prop) (St : Nat → Heap → Prop) : Prop where
  keep : ∀ i h h', St i h → (∀ o, h.get? I = some o → h'.get? I = some o) → St i h'
  live : ∀ i h, St i h → ∃ o, h.get? I = some o
  item : ∀ i (s : Shared) (Q : Option Value → Shared → Prop) (E : Value → Shared → Prop), i < n → lo ≤ s.toks → St i s.heap →
    (∀ v h' tk, P i v → lo ≤ tk → St (i + 1) h' → (∀ b o, b ≠ I → s.heap.get? b = some o → h'.get? b = some o) → Q (some v) { s with heap := h', toks := tk }) → wpAny (model prog w) A (pyNext (.ref I)) Q E s
  done : ∀ (s : Shared) (Q : Option Value → Shared → Prop) (E : Value → Shared → Prop), lo ≤ s.toks → St n s.heap →
    (∀ h' tk, lo ≤ tk → (∀ b o, b ≠ I → s.heap.get? b = some o → h'.get? b = some o) → Q none { s with heap := h', toks := tk }) → wpAny (model prog w) A (pyNext (.ref I)) Q E s

noncomputable def TurnEnd (h₀ : Heap) (L : Addr) (own : Addr × Obj) (news : List (Addr × Obj)) (J : (Str → Option Value) → List (Addr × Obj) → Prop) (s : Shared) (R : Result → Shared → Prop) (f : Flow) (s₂ : Shared) : Prop :=
  match f with
  | .ret v => R (.ok (.ret v)) s₂
  | .brk => R (.ok .next) s₂
  | _ => ∃ h' tk m' ex, s₂ = { s with heap := h', toks := tk } ∧ Fr h₀ L h' m' ∧ News h₀ L h' (own :: (ex ++ news)) ∧ (∀ p ∈ ex, p.1 ≠ own.1) ∧ J m' ex

inductive FeedSt (s : Shared) (n lo : Nat) (St : Nat → Heap → Prop) (I : Addr) (h₀ : Heap) (env : Env) (news : List (Addr × Obj)) (J : Nat → (Str → Option Value) → List (Addr × Obj) → Prop) (k : Nat) (s' : Shared) : Prop
  | mk (i h' tk m' ex) : (s' = { s with heap := h', toks := tk }) → (k + i = n) → (lo ≤ tk) → (St i h') → (Fr h₀ env.locals h' m') → (News h₀ env.locals h' (ex ++ news)) → ((∀ p ∈ ex, p.1 ≠ I)) → (J i m' ex) → FeedSt s n lo St I h₀ env news J k s'
theorem feed_loop {lo : Nat} {R : Result → Shared → Prop} {x : Str} {px : Pos} {body : List Stmt} {I : Addr} {n : Nat} {P : Nat → Value → Prop} {St : Nat → Heap → Prop} {m : Str → Option Value} {news ex₀ : List (Addr × Obj)}
    (W : Feed lo prog w A I n P St) (hx : env.kindOf x = some .local) (hp : (env.scope.kind == .class || (env.scope.kind == .module && env.locals != env.globals)) = false)
    (hIL : I ≠ env.locals) (hI₀ : h₀.get? I = none) (hIn : ∀ p ∈ news, p.1 ≠ I) (hIe : ∀ p ∈ ex₀, p.1 ≠ I) (hst : St 0 s.heap) (F : Fr h₀ env.locals s.heap m) (N : News h₀ env.locals s.heap (ex₀ ++ news)) (hpos : lo ≤ s.toks)
    (J : Nat → (Str → Option Value) → List (Addr × Obj) → Prop) (h0 : J 0 m ex₀)
    (turn : ∀ i v m₁ ex h tk o, i < n → P i v → lo ≤ tk → (∀ p ∈ ex, p.1 ≠ I) → J i m₁ ex → Fr h₀ env.locals h (fun y => if y = x then some v else m₁ y) → News h₀ env.locals h ((I, o) :: (ex ++ news)) →
      wpAny (model prog w) A (execs body env) (TurnEnd h₀ env.locals (I, o) news (J (i + 1)) { s with heap := h, toks := tk } R) (notedBy (model prog w) A env fun e s' => R (.error e) s') { s with heap := h, toks := tk })
    (fin : ∀ h' tk m' ex, lo ≤ tk → J n m' ex → Fr h₀ env.locals h' m' → News h₀ env.locals h' (ex ++ news) → R (.ok .next) { s with heap := h', toks := tk }) :
    codeAny (model prog w) A (.forLoop (.Name x px) (.ref I) body [] env) R s := by
  refine codeAny_forLoop (FeedSt s n lo St I h₀ env news J) ?_ n
    ⟨0, s.heap, s.toks, m, ex₀, rfl, by omega, hpos, hst, F, N, hIe, h0⟩
  intro k s' hP0
  refine Classical.byContradiction fun hG => ?_
  obtain ⟨i, h', tk, m', ex, rfl, hk, htk, st, F', N', hex, hJ⟩ := hP0
  refine hG ?_
  clear hG
  have hall : ∀ p ∈ ex ++ news, p.1 ≠ I := fun p hp => (List.mem_append.mp hp).elim (hex p) (hIn p)
  have up : ∀ h₁ : Heap, (∀ b o, b ≠ I → h'.get? b = some o → h₁.get? b = some o) → Fr h₀ env.locals h₁ m' ∧ News h₀ env.locals h₁ (ex ++ news) := fun h₁ hh =>
    ⟨⟨F'.ns.at' fun o e => hh _ o (Ne.symm hIL) e, fun b o e => hh b o (fun q => by rw [q, hI₀] at e; cases e) (F'.keep b o e), F'.above⟩,
      fun p hp => ⟨hh _ _ (hall p hp) (N' p hp).1, (N' p hp).2⟩⟩
  by_cases hlt : i < n
  · refine W.item i _ _ _ hlt htk st fun v h₁ tk₁ hP ht₁ st₁ hh₁ => ?_
    obtain ⟨F₁, N₁⟩ := up h₁ hh₁
    refine wpAny_assign_Name (wpAny_storeName_local hx F₁.ns (fun h₂ hn₂ hs₂ => ?_) hp)
    obtain ⟨o, ho⟩ := W.live _ _ st₁
    have ho₂ : h₂.get? I = some o := (hs₂.2 I hIL).trans ho
    have N₂ : News h₀ env.locals h₂ ((I, o) :: (ex ++ news)) := fun p hp => by
      rcases List.mem_cons.mp hp with rfl | hp
      · exact ⟨ho₂, hIL, hI₀⟩
      · exact N₁.set hs₂ p hp
    refine wpAny_mono (wpAny_toks_of (n := lo) (show lo ≤ tk₁ + 1 by omega) (turn i v m' ex h₂ (tk₁ + 1) o hlt hP (by omega) hex hJ (F₁.set hn₂ hs₂) N₂)) (fun f s₃ h₃ => ?_) fun _ _ e => e.2
    obtain ⟨ht₃, h₃⟩ := h₃
    have go : (∃ h' tk' m₂ ex₂, s₃ = { s with heap := h', toks := tk' } ∧ Fr h₀ env.locals h' m₂ ∧ News h₀ env.locals h' ((I, o) :: (ex₂ ++ news)) ∧ (∀ p ∈ ex₂, p.1 ≠ I) ∧ J (i + 1) m₂ ex₂) → ∃ m, m < k ∧ FeedSt s n lo St I h₀ env news J m s₃ := by
      rintro ⟨h₄, tk₄, m₄, ex₄, rfl, F₄, N₄, hex₄, hJ₄⟩
      refine ⟨k - 1, by omega, i + 1, h₄, tk₄, m₄, ex₄, rfl, by omega, ht₃, ?_, F₄, fun p hp => N₄ p (.tail _ hp), hex₄, hJ₄⟩
      exact W.keep _ _ _ st₁ fun o' e => by rw [ho] at e; cases e; exact (N₄ _ (.head _)).1
    cases f with
    | ret v => exact h₃
    | brk => exact h₃
    | next => exact go h₃
    | cont => exact go h₃
  · have hin : i = n := by omega
    subst hin
    refine W.done _ _ _ htk st fun h₁ tk₁ ht₁ hh₁ => wpAny_execs_nil ?_
    obtain ⟨F₁, N₁⟩ := up h₁ hh₁
    exact fin h₁ tk₁ m' ex ht₁ hJ F₁ N₁

theorem Feed.str {lo : Nat} (hh : A.handled = none) (I : Addr) (x : Str) (t : Tok) : ∃ St, Feed lo prog w A I x.cps.size (fun i v => ∃ c u, x.cps[i]? = some c ∧ v = .str ⟨#[c]⟩ u ∧ lo ≤ u) St ∧
    ∀ h : Heap, h.get? I = some { cls := .type (strIterType x), data := .fields #[.str x t, .int 0 0] } → St 0 h := by
  cases ha : x.cps.all (· < 128)
  · refine ⟨fun i h => h.IsStrIter I "str_iterator" x t i, ⟨fun i h h' ⟨o, ho, r⟩ k => ⟨o, k o ho, r⟩, fun i h ⟨o, ho, r⟩ => ⟨o, ho⟩, fun i s Q E hi hp st hQ => ?_, fun s Q E hp st hQ => ?_⟩, fun h hI => ⟨_, hI, by simp [strIterType, ha], rfl⟩⟩
    · refine wpAny_pyNext_wide_item st (c := x.cps[i]) (by simp [hi]) fun h' hit' hs' => ?_
      exact hQ _ h' (s.toks + 1) ⟨_, s.toks, by simp [hi], rfl, hp⟩ (by omega) hit' fun b o hb e => hs'.extBut b o hb e
    · exact wpAny_pyNext_wide_end hh st (by simp) fun h' he' => hQ h' s.toks hp fun b o hb e => he' b o hb e
  · refine ⟨fun i h => h.IsStrIter I "str_ascii_iterator" x t i, ⟨fun i h h' ⟨o, ho, r⟩ k => ⟨o, k o ho, r⟩, fun i h ⟨o, ho, r⟩ => ⟨o, ho⟩, fun i s Q E hi hp st hQ => ?_, fun s Q E hp st hQ => ?_⟩, fun h hI => ⟨_, hI, by simp [strIterType, ha], rfl⟩⟩
    · refine wpAny_pyNext_ascii_item st (c := x.cps[i]) (by simp [hi]) fun h' hit' hs' => ?_
      exact hQ _ h' (s.toks + 1) ⟨_, s.toks, by simp [hi], rfl, hp⟩ (by omega) hit' fun b o hb e => hs'.extBut b o hb e
    · exact wpAny_pyNext_ascii_end hh st (by simp) fun h' he' => hQ h' s.toks hp fun b o hb e => he' b o hb e

theorem Feed.range {lo : Nat} (hh : A.handled = none) (I : Addr) (a c : Int) (n : Nat) : Feed lo prog w A I n (fun i v => ∃ t, v = .int (a + i * c) t) (fun i h => IsRangeIter h I (a + (i : Nat) * c) ((n : Int) - (i : Nat)) c) where
  keep := fun i h h' st k => k _ st
  live := fun i h st => ⟨_, st⟩
  item := fun i s Q E hi hp st hQ => wpAny_with_toks (n := lo) hp ((Walks.range (prog := prog) (w := w) hh I a c n).item i s _ _ hi st fun v h' tk hP st' hh' ht =>
    hQ v h' tk hP ht st' fun b o hb e => hh' b o (by simpa using hb) e)
  done := fun s Q E hp st hQ => wpAny_with_toks (n := lo) hp ((Walks.range (prog := prog) (w := w) hh I a c n).done s _ _ st fun h' tk hh' ht =>
    hQ h' tk ht fun b o hb e => hh' b o (by simpa using hb) e)

/-- for x in a text, by what holds between the turns -/
theorem iter_str_pos {lo : Nat} {Q : Flow → Shared → Prop} {x : Str} {px : Pos} {body : List Stmt} {xt : Str} {tx : Tok} {m : Str → Option Value} {news ex₀ : List (Addr × Obj)}
    (hh : A.handled = none) (hx : env.kindOf x = some .local) (hp : (env.scope.kind == .class || (env.scope.kind == .module && env.locals != env.globals)) = false)
    (F : Fr h₀ env.locals s.heap m) (N : News h₀ env.locals s.heap (ex₀ ++ news)) (hpos : lo ≤ s.toks)
    (J : List Nat → (Str → Option Value) → List (Addr × Obj) → Prop) (h0 : J [] m ex₀)
    (turn : ∀ pre c post t m₁ ex h tk own, xt.cps.toList = pre ++ c :: post → lo ≤ t → lo ≤ tk → (∀ p ∈ ex, p.1 ≠ own.1) → J pre m₁ ex → Fr h₀ env.locals h (fun y => if y = x then some (.str ⟨#[c]⟩ t) else m₁ y) → News h₀ env.locals h (own :: (ex ++ news)) →
      wpAny (model prog w) A (execs body env) (TurnEnd h₀ env.locals own news (J (pre ++ [c])) { s with heap := h, toks := tk } (fun r s' => match r with | .ok f => Q f s' | .error e => E e s')) E { s with heap := h, toks := tk })
    (fin : ∀ h' tk m' ex, lo ≤ tk → J xt.cps.toList m' ex → Fr h₀ env.locals h' m' → News h₀ env.locals h' (ex ++ news) → Q .next { s with heap := h', toks := tk })
    (hE : PassesOwn (model prog w) A env E := by passes_own) :
    wpAny (model prog w) A (pyIter (.str xt tx)) (fun it s₂ => codeAny (model prog w) A (.forLoop (.Name x px) it body [] env) (fun r s' => match r with | .ok f => Q f s' | .error e => cameBackBy (model prog w) A env E e s') s₂) E s := by
  refine wpAny_pyIter_strU ?_
  obtain ⟨St, W, h0'⟩ := Feed.str (lo := lo) (prog := prog) (w := w) hh s.heap.objs.size xt tx
  have hI : s.heap.objs.size ≠ env.locals := fun e => absurd F.ns.lt (by rw [e]; exact Nat.lt_irrefl _)
  have hI₀ : h₀.get? s.heap.objs.size = none := by
    cases e : h₀.get? s.heap.objs.size with
    | none => rfl
    | some o => exact absurd (Heap.lt_size (F.keep _ _ e)) (Nat.lt_irrefl _)
  have hoff : ∀ p ∈ ex₀ ++ news, p.1 ≠ s.heap.objs.size := fun p hp e => absurd (Heap.lt_size (N p hp).1) (by rw [e]; exact Nat.lt_irrefl _)
  refine feed_loop (news := news) (ex₀ := ex₀) W hx hp hI hI₀ (fun p hp => hoff p (List.mem_append_right _ hp)) (fun p hp => hoff p (List.mem_append_left _ hp)) (h0' _ (Heap.get?_push_size _ rfl)) (F.push _)
    (fun p hp => ⟨Heap.get?_push_of_some _ (N p hp).1, (N p hp).2⟩) hpos (fun i m ex => J (xt.cps.toList.take i) m ex) (by simpa using h0) ?_ ?_
  · rintro i v m₁ ex h tk o hi ⟨c, u, hc, rfl, hu⟩ htk hex hJ F₁ N₁
    have hl : i < xt.cps.toList.length := by simpa using hi
    have hc' : xt.cps.toList[i]? = some c := by simpa using hc
    have e1 : xt.cps.toList.take (i + 1) = xt.cps.toList.take i ++ [c] := by rw [List.take_add_one, hc']; rfl
    have e2 : xt.cps.toList = xt.cps.toList.take i ++ c :: xt.cps.toList.drop (i + 1) := by
      have := List.take_append_drop (i + 1) xt.cps.toList
      rw [e1, List.append_assoc] at this
      exact this.symm
    refine wpAny_passesOwn hE (wpAny_mono (turn _ c _ u m₁ ex h tk _ e2 hu htk hex hJ F₁ N₁) (fun f s₂ h₂ => ?_) fun _ _ e => e)
    cases f with
    | ret v => exact h₂
    | brk => exact h₂
    | next => simpa only [TurnEnd, e1] using h₂
    | cont => simpa only [TurnEnd, e1] using h₂
  · intro h' tk m' ex ht hJ F' N'
    exact fin h' tk m' ex ht (by rw [List.take_of_length_le (by simp)] at hJ; exact hJ) F' N'

/-- for k in a range by ones, by what holds between the turns -/
theorem iter_range_pos {lo : Nat} {Q : Flow → Shared → Prop} {x : Str} {px : Pos} {body : List Stmt} {r : Addr} {a b : Int} {t u v : Tok} {n : Nat} {m : Str → Option Value} {news ex₀ : List (Addr × Obj)}
    (hh : A.handled = none) (hx : env.kindOf x = some .local) (hp : (env.scope.kind == .class || (env.scope.kind == .module && env.locals != env.globals)) = false)
    (hr : IsRange s.heap r a b 1 t u v) (hsmall : Builtin.Range.small a b 1 = true) (hn : Builtin.Range.rangeSize a b 1 = (n : Int))
    (F : Fr h₀ env.locals s.heap m) (N : News h₀ env.locals s.heap (ex₀ ++ news)) (hpos : lo ≤ s.toks)
    (J : Nat → (Str → Option Value) → List (Addr × Obj) → Prop) (h0 : J 0 m ex₀)
    (turn : ∀ i t m₁ ex h tk own, i < n → lo ≤ tk → (∀ p ∈ ex, p.1 ≠ own.1) → J i m₁ ex → Fr h₀ env.locals h (fun y => if y = x then some (.int (a + (i : Nat)) t) else m₁ y) → News h₀ env.locals h (own :: (ex ++ news)) →
      wpAny (model prog w) A (execs body env) (TurnEnd h₀ env.locals own news (J (i + 1)) { s with heap := h, toks := tk } (fun r s' => match r with | .ok f => Q f s' | .error e => E e s')) E { s with heap := h, toks := tk })
    (fin : ∀ h' tk m' ex, lo ≤ tk → J n m' ex → Fr h₀ env.locals h' m' → News h₀ env.locals h' (ex ++ news) → Q .next { s with heap := h', toks := tk })
    (hE : PassesOwn (model prog w) A env E := by passes_own) :
    wpAny (model prog w) A (pyIter (.ref r)) (fun it s₂ => codeAny (model prog w) A (.forLoop (.Name x px) it body [] env) (fun r s' => match r with | .ok f => Q f s' | .error e => cameBackBy (model prog w) A env E e s') s₂) E s := by
  refine wpAny_pyIter_range hr hsmall ?_
  have hI : s.heap.objs.size ≠ env.locals := fun e => absurd F.ns.lt (by rw [e]; exact Nat.lt_irrefl _)
  have hI₀ : h₀.get? s.heap.objs.size = none := by
    cases e : h₀.get? s.heap.objs.size with
    | none => rfl
    | some o => exact absurd (Heap.lt_size (F.keep _ _ e)) (Nat.lt_irrefl _)
  have hoff : ∀ p ∈ ex₀ ++ news, p.1 ≠ s.heap.objs.size := fun p hp e => absurd (Heap.lt_size (N p hp).1) (by rw [e]; exact Nat.lt_irrefl _)
  refine feed_loop (news := news) (ex₀ := ex₀) (Feed.range (lo := lo) (prog := prog) (w := w) hh s.heap.objs.size a 1 n) hx hp hI hI₀ (fun p hp => hoff p (List.mem_append_right _ hp)) (fun p hp => hoff p (List.mem_append_left _ hp))
    (by show IsRangeIter _ _ _ _ _; rw [hn]; simpa using Heap.get?_push_size _ rfl) (F.push _)
    (fun p hp => ⟨Heap.get?_push_of_some _ (N p hp).1, (N p hp).2⟩) hpos J h0 ?_ ?_
  · rintro i v m₁ ex h tk o hi ⟨t', rfl⟩ htk hex hJ F₁ N₁
    have e1 : a + (i : Int) * 1 = a + (i : Int) := by omega
    rw [e1] at F₁
    refine wpAny_passesOwn hE (wpAny_mono (turn i t' m₁ ex h tk _ hi htk hex hJ F₁ N₁) (fun f s₂ h₂ => ?_) fun _ _ e => e)
    cases f <;> exact h₂
  · intro h' tk m' ex ht hJ F' N'
    exact fin h' tk m' ex ht hJ F' N'

/-- the clock of names, carried along a block -/
theorem Past.add {lo n k : Nat} (h : Past lo n) : Past lo (n + k) := Nat.le_trans h (Nat.le_add_right n k)
noncomputable def LoTo (lo : Nat) (s : Shared) (P : Prop) : Prop := Past lo s.toks → P
theorem LoTo.intro {lo : Nat} {s : Shared} {P : Prop} (h : Past lo s.toks → P) : LoTo lo s P := h
theorem lo_cons {M : Model} {lo : Nat} {st : Stmt} {rest : List Stmt} {Q : Flow → Shared → Prop} (hlo : Past lo s.toks)
    (h : wpAny M A (exec st env) (fun f s' => match f with | .next => LoTo lo s' (wpAny M A (execs rest env) Q E s') | f => Q f s') E s) : wpAny M A (execs (st :: rest) env) Q E s := by
  refine wpAny_execs_cons (wpAny_mono (wpAny_toks_of hlo h) (fun f s' h' => ?_) fun _ _ e => e.2)
  cases f with
  | next => exact h'.2 h'.1
  | _ => exact h'.2

theorem booked {w : World} {h : Heap} (X : (hd.heap_1 w.params).In h) : NoneBooked h := by
  have e : h.get? 2 = some ({ cls := .none, data := .dict #[] } : Obj) := X 2 _ (by rfl)
  exact ⟨fun _ => none, ⟨_, #[], 0, e, rfl, by intro e he; simp at he, by intro x; rfl⟩, rfl⟩
/-- `is` of two texts: where it says True they are equal (their names are past nought, and not one) -/
theorem is_strs {prog : Program} {x y : Str} {t u : Tok} {Q : Value → Shared → Prop} (hb : NoneBooked s.heap) (ht : t ≠ 0) (hu : u ≠ 0) (htu : t ≠ u)
    (h : ∀ b : Bool, (b = true → x = y) → Q (.bool b) s) : wpAny (model prog w) A (compareOp .Is (.str x t) (.str y u)) Q E s := by
  show wpAny _ _ (do return .bool (← isSame (.str x t) (.str y u))) Q E s
  refine wpAny_bind ?_
  show wpAny _ _ (isSame.created (x == y) t u) _ E s
  unfold isSame.created
  have h1 : (t == 0 || u == 0) = false := by simp [ht, hu]
  have h2 : (t == u) = false := by simpa using htu
  rw [h1, h2]
  refine wpAny_bind (wpAny_pure ?_)
  cases hxy : x == y with
  | false => exact wpAny_pure (wpAny_pure (h false (by simp)))
  | true =>
    refine wpAny_bind (wpAny_sharingNotTold_none hb ?_)
    refine wpAny_bind (wpAny_sharingNotTold_none hb ?_)
    refine wpAny_bind (wpAny_rule ?_)
    exact wpAny_bind (wpAny_askSetting (wpAny_pure (wpAny_pure (h _ fun _ => by simpa using hxy))))
end
end Mine
end

section
open PySem PySem.W PyProof.Rows PySem.Calls
set_option maxRecDepth 100000
set_option maxHeartbeats 0
namespace Mine
section
variable {w : World} {A : Around} {E : Value → Shared → Prop} {s : Shared} {h₀ : Heap} {L : Addr} {m : Str → Option Value} {Q : Value → Shared → Prop}
theorem in_b1 {c : Int} {u : Tok} (F : Fr h₀ L s.heap m) (B : B1At w h₀) (h : Q (.bool (codesB1.contains c)) { s with toks := s.toks + 1 }) : wpAny (model PySem.Challenge.rw_tl0043_01.row.prog w) A (compareOp .In (.int c u) (.ref 137)) Q E s := by
  obtain ⟨so, ho, hso⟩ := B.keep F.keep
  exact wpAny_inSet_of (intKind_is _ _ _ _) rfl (hso.setOf ho (by decide)) h
/-- the entries of b3_exceptions, as the top leaves them -/
noncomputable def entB3 (P : Params) : Array DictEntry := match (hd.heap_1 P).lookup 148 with | some ⟨_, _, .dict es _, _⟩ => es | _ => #[]
noncomputable def keyOk (e : DictEntry) : Bool := match e.key with | .int k _ => e.hash == hashInt k | _ => false
theorem keyOk_spec {e : DictEntry} (h : keyOk e = true) : ∃ k : Int, Value.isInt k e.key = true ∧ e.hash = hashInt k := by
  unfold keyOk at h
  split at h
  · rename_i k _ hk
    exact ⟨k, by rw [hk]; simp [Value.isInt], by simpa using h⟩
  · cases h
theorem entB3_ok (P : Params) : ((entB3 P).toList.all keyOk) = true := by kernel_rfl
theorem obj148 (P : Params) : (hd.heap_1 P).lookup 148 = some ({ cls := .type "dict", data := .dict (entB3 P) 650 } : Obj) := by kernel_rfl
theorem b3_map (X : (hd.heap_1 w.params).In h₀) : h₀.MapOf (PySem.intKind pwL w) 148 (fun k => findBy Value.isInt (entB3 w.params) k) :=
  ⟨_, _, _, X 148 _ (obj148 w.params), ⟨rfl, rfl, rfl⟩, rfl, fun e he => keyOk_spec (List.all_eq_true.mp (entB3_ok w.params) e (Array.mem_toList_iff.mpr he)), fun _ => rfl⟩
theorem meth_b3 {pl : Sem Bool} {Q : Value × List Value → Shared → Prop} (F : Fr h₀ L s.heap m) (X : (hd.heap_1 w.params).In h₀) (h : Q (.builtin "dict.get", [.ref 148]) s) : wpAny (model PySem.Challenge.rw_tl0043_01.row.prog w) A (getMethod (.ref 148) (Str.ofString "get") pl) Q E s := by
  have hm := b3_map (X.keeps F.keep)
  obtain ⟨o, es, ep, ho, hc, _⟩ := id hm
  exact getMethod_builtin hm.typeIs PySem.F.plainAttrs_dict PySem.F.slot_dict_get PySem.F.type_dict_get hm.noDict h
theorem get_b3 {c : Int} {u : Tok} (F : Fr h₀ L s.heap m) (X : (hd.heap_1 w.params).In h₀) (h : Q ((findBy Value.isInt (entB3 w.params) c).getD .none) { s with toks := s.toks + 1 }) : wpAny (model PySem.Challenge.rw_tl0043_01.row.prog w) A (call (.builtin "dict.get") [.ref 148, .int c u]) Q E s := by
  have hm := b3_map (X.keeps F.keep)
  exact call_meetsIn PySem.F.slot_dict_get hm.typeIs PySem.F.entry_dict_get (PySem.F.args_dict_get_2 _ _) (meets_dict_get (PySem.intKind pwL w) 148 (intKind_is _ _ _ _) (by decide)) ⟨_, hm, h⟩
end
/-- the signs that are typed -/
noncomputable def signs : List Nat := [173, 847, 6150, 6155, 6156, 6157, 8203, 8204, 8205, 8288, 65279, 65024, 65025, 65026, 65027, 65028, 65029, 65030, 65031, 65032, 65033, 65034, 65035, 65036, 65037, 65038, 65039] ++
  [172, 174, 846, 848, 6149, 6151, 6154, 6158, 8202, 8206, 8287, 8289, 65278, 65280, 65023, 65040] ++ [64261, 64262, 223, 83, 84, 115, 116] ++
  (List.range 13).map (fun k => 119808 + 52 * k + 18) ++ (List.range 13).map (fun k => 119808 + 52 * k + 19)
noncomputable def sOf (x : List Nat) : Str := ⟨x.toArray⟩
/-- what a typed sign is folded to -/
noncomputable def foldedTo (c : Nat) : Option Str :=
  if c = 64261 ∨ c = 64262 then some (sOf [115, 116]) else if c = 223 then some (sOf [115, 115])
  else if 119808 ≤ c ∧ c < 120500 then (if (c - 119808) % 52 = 18 then some (sOf [115]) else some (sOf [116])) else none
noncomputable def strOf (v : Option Value) : Option (Option Str) := match v with | none => some none | some (.str x t) => if t = 0 then none else some (some x) | _ => none
noncomputable def keyN (e : DictEntry) : Option Nat := match e.key with | .int (.ofNat k) _ => some k | _ => none
noncomputable def findN (c : Nat) (l : List DictEntry) : Option Value :=
  @List.rec DictEntry (fun _ => Option Value) none (fun e _ ih => match keyN e with | some k => @Bool.rec (fun _ => Option Value) ih (some e.val) (Nat.beq k c) | none => ih) l
theorem findN_spec (c : Nat) : ∀ l : List DictEntry, (l.all fun e => (keyN e).isSome) = true → (l.find? fun e => Value.isInt (c : Int) e.key).map (·.val) = findN c l
  | [], _ => rfl
  | e :: r, h => by
    rw [List.all_cons, Bool.and_eq_true] at h
    have ih := findN_spec c r h.2
    have h1 := h.1
    show _ = (match keyN e with | some k => @Bool.rec (fun _ => Option Value) (findN c r) (some e.val) (Nat.beq k c) | none => findN c r)
    unfold keyN at h1 ⊢
    split at h1
    · rename_i k t he
      rw [List.find?_cons]
      have e1 : Value.isInt (c : Int) e.key = Nat.beq k c := by
        rw [he]
        show ((Int.ofNat k : Int) == (c : Int)) = Nat.beq k c
        cases hb : Nat.beq k c with
        | true => have := Nat.eq_of_beq_eq_true hb; subst this; simp
        | false =>
          have := Nat.ne_of_beq_eq_false hb
          simp; omega
      rw [e1]
      simp only [he]
      cases hb : Nat.beq k c with
      | true => rfl
      | false => exact ih
    · cases h1
theorem entB3_nat (P : Params) : ((entB3 P).toList.all fun e => (keyN e).isSome) = true := by kernel_rfl
theorem find_b3 (P : Params) (c : Nat) : findBy Value.isInt (entB3 P) (c : Int) = findN c (entB3 P).toList := by
  rw [← findN_spec c _ (entB3_nat P)]
  unfold findBy
  rw [← Array.find?_toList]
theorem signs_b3' (P : Params) : (signs.all fun c => strOf (findN c (entB3 P).toList) == some (foldedTo c)) = true := by kernel_rfl
theorem signs_b3 (P : Params) {c : Nat} (h : c ∈ signs) : ∃ v, findBy Value.isInt (entB3 P) (c : Int) = v ∧ strOf v = some (foldedTo c) := by
  refine ⟨_, rfl, ?_⟩
  rw [find_b3]
  simpa using List.all_eq_true.mp (signs_b3' P) c h
theorem strOf_none {v : Option Value} (h : strOf v = some none) : v = none := by
  unfold strOf at h; split at h <;> simp_all
theorem strOf_some {v : Option Value} {x : Str} (h : strOf v = some (some x)) : ∃ t, v = some (.str x t) ∧ t ≠ 0 := by
  unfold strOf at h
  split at h
  · simp at h
  · split at h
    · simp at h
    · simp only [Option.some.injEq] at h; subst h; exact ⟨_, rfl, by assumption⟩
  · simp at h
section
variable {w : World} {A : Around} {E : Value → Shared → Prop} {s : Shared} {h₀ : Heap} {L : Addr} {m : Str → Option Value} {Q : Value → Shared → Prop}
theorem get_b3s {c : Nat} {u : Tok} (F : Fr h₀ L s.heap m) (X : (hd.heap_1 w.params).In h₀) (hs : c ∈ signs) (h1 : ∀ x t, foldedTo c = some x → Q (.str x t) { s with toks := s.toks + 1 }) (h2 : foldedTo c = none → Q .none { s with toks := s.toks + 1 }) :
    wpAny (model PySem.Challenge.rw_tl0043_01.row.prog w) A (call (.builtin "dict.get") [.ref 148, .int (c : Nat) u]) Q E s := by
  refine get_b3 F X ?_
  obtain ⟨v, hv, he⟩ := signs_b3 w.params hs
  rw [hv]
  cases hf : foldedTo c with
  | none => rw [hf] at he; rw [strOf_none he]; exact h2 hf
  | some x => rw [hf] at he; obtain ⟨t, rfl, _⟩ := strOf_some he; exact h1 x t hf
end
noncomputable def lowOf (c : Nat) : List Nat := if c = 83 then [115] else if c = 84 then [116] else [c]
theorem signs_low : (signs.all fun c => (foldedTo c).isSome || Txt.lower ⟨#[c]⟩ == sOf (lowOf c)) = true := by decide +kernel
theorem low_sign {c : Nat} (hs : c ∈ signs) (hf : foldedTo c = none) : Txt.lower ⟨#[c]⟩ = sOf (lowOf c) := by
  have := List.all_eq_true.mp signs_low c hs
  simpa [hf] using this
/-- what the preparation makes of one sign -/
noncomputable def prepOne (c : Nat) : List Nat := if codesB1.contains (c : Int) then [] else match foldedTo c with | some x => x.cps.toList | none => lowOf c
noncomputable def prepL (l : List Nat) : List Nat := l.flatMap prepOne
theorem prepL_snoc (l : List Nat) (c : Nat) : prepL (l ++ [c]) = prepL l ++ prepOne c := by simp [prepL]
end Mine
end

section
open PySem PySem.W PyProof.Rows PySem.Calls
set_option maxRecDepth 100000
set_option maxHeartbeats 0
namespace Mine
noncomputable def b1Ents (P : Params) : List (Int × Value) := match (o137_12 P).data with | .set es _ _ => es.toList | _ => []
noncomputable def b1Fit (e : Int × Value) : Bool := match e.2 with
  | .int k _ => e.1 == hashInt k && codesB1.contains k
  | _ => false
theorem b1Fit_spec {e : Int × Value} (h : b1Fit e = true) : ∃ k t, e.2 = .int k t ∧ e.1 = hashInt k ∧ codesB1.contains k = true := by
  obtain ⟨a, v⟩ := e
  cases v with
  | int k t =>
    obtain ⟨h1, h2⟩ := Bool.and_eq_true_iff.mp h
    exact ⟨k, t, rfl, by simpa using h1, h2⟩
  | _ => cases h
theorem b1_fit (P : Params) : (b1Ents P).all b1Fit = true := by kernel_rfl
theorem b1_has (P : Params) : (codesB1.all fun k => (b1Ents P).any fun e => Value.isInt k e.2) = true := by kernel_rfl
theorem b1_ents (P : Params) : ∃ es ep t, (o137_12 P).data = .set es ep t ∧ es.toList = b1Ents P ∧ es.size = 27 ∧ t.fits es.size = true := ⟨_, _, _, rfl, by kernel_rfl, by kernel_rfl, by kernel_rfl⟩
theorem b1_own (w : World) : (o137_12 w.params).SetObjOf (PySem.intKind pwL w) (fun k => codesB1.contains k) 27 := by
  obtain ⟨es, ep, t, hd, he, hn, hf⟩ := b1_ents w.params
  refine ⟨⟨rfl, rfl, rfl⟩, es, ep, t, hd, fun e hm => ?_, fun k => ⟨fun hk => ?_, fun ⟨e, hm, hk⟩ => ?_⟩, hn, hf⟩
  · rw [he] at hm
    obtain ⟨k, t', h1, h2, _⟩ := b1Fit_spec (List.all_eq_true.mp (b1_fit w.params) e hm)
    exact ⟨⟨k, by rw [h1]; show Value.isInt k (.int k t') = true; simp [Value.isInt], h2⟩, by rw [h1]; rfl⟩
  · have := List.all_eq_true.mp (b1_has w.params) k (by simpa using hk)
    obtain ⟨e, h1, h2⟩ := List.any_eq_true.mp this
    exact ⟨e, by rw [he]; exact h1, h2⟩
  · rw [he] at hm
    obtain ⟨k', t', h1, _, h3⟩ := b1Fit_spec (List.all_eq_true.mp (b1_fit w.params) e hm)
    have hk' : Value.isInt k e.2 = true := hk
    rw [h1] at hk'
    have : k' = k := by simpa [Value.isInt] using hk'
    rw [← this]; exact h3
theorem b1_at {w : World} {h : Heap} (e : h.get? 137 = some (o137_12 w.params)) : B1At w h := ⟨_, e, b1_own w⟩
end Mine
end

section
open PySem PySem.W PyProof.Rows PySem.Calls
set_option maxRecDepth 100000
set_option maxHeartbeats 1000000
namespace Mine
theorem lk_str_getitem : typeLookup (.type "str") "__getitem__" = pure (some (.builtin "str.__getitem__")) := by rw [typeLookup_type, builtinLookup_eq_fast]; kernel_rfl
theorem lk_wd_set : typeLookup (.type "wrapper_descriptor") "__set__" = pure none := by rw [typeLookup_type, builtinLookup_eq_fast]; kernel_rfl
theorem lk_wd_delete : typeLookup (.type "wrapper_descriptor") "__delete__" = pure none := by rw [typeLookup_type, builtinLookup_eq_fast]; kernel_rfl
theorem kind_str_getitem : builtinKind "str.__getitem__" = some .slot := by decide +kernel
theorem plain_hasattr : plainId "hasattr" = true := by decide +kernel
theorem kind_hasattr : builtinKind "hasattr" = none := by decide +kernel
theorem entry_hasattr : entryFor table "hasattr" = some Builtin.«hasattr» := entryFor_of_fast (by kernel_rfl)
theorem slot_wd_get : Slot "wrapper_descriptor" "__get__" "wrapper_descriptor.__get__" :=
  .of (owner := "wrapper_descriptor") (n := "__get__") (by rw [typeLookup_type, builtinLookup_eq_fast]; kernel_rfl) (by decide +kernel) (by decide +kernel) (by decide +kernel)
    (by first | exact .inl (by decide +kernel) | exact .inr (by decide +kernel)) (by rw [isSubtype_type]; kernel_rfl)
theorem entry_wd_get : entryFor table "wrapper_descriptor.__get__" = some Builtin.«wrapper_descriptor.__get__» := entryFor_of_tree (by kernel_rfl)
theorem args_wd_get (a b c : Value) : argsOk "wrapper_descriptor.__get__" ⟨[a, b, c], []⟩ := by unfold argsOk; kernel_rfl
theorem typeOf_str_getitem : typeOf (.builtin "str.__getitem__") = pure (.type "wrapper_descriptor") := by kernel_rfl
theorem owner_str_getitem : (".".intercalate ("str.__getitem__".cutAt '.').dropLast) = "str" := by
  have e0 : "str.__getitem__".cutAt '.' = ["str", "__getitem__"] := by first | rfl | decide +kernel
  rw [e0]; decide +kernel
theorem sub_str_owner : isSubtype (.type "str") (.type (".".intercalate ("str.__getitem__".cutAt '.').dropLast)) = pure true := by
  rw [owner_str_getitem, isSubtype_type]; kernel_rfl
section
variable {prog : Program} {w : World} {A : Around} {E : Value → Shared → Prop} {h : Heap} {g : Array GenState} {d : Drawn} {t : Nat} {os : OsState} {x : Str} {u : Tok}
theorem wd_get_str {R : Result → Shared → Prop} (hq : ∀ a o, R (.ok (.ret (.ref a))) ⟨h.push o, g, d, t, os⟩) :
    codeAny (model prog w) A (.call (.builtin "wrapper_descriptor.__get__") ⟨[.builtin "str.__getitem__", .str x u, .type "str"], []⟩) R ⟨h, g, d, t, os⟩ := by
  have hT : (⟨h, g, d, t, os⟩ : Shared).TypeIs (.str x u) "str" := rfl
  have hT5 : (⟨h, g, d, t, os⟩ : Shared).TypeIs (.builtin "str.__getitem__") "wrapper_descriptor" := typeOf_str_getitem
  have f8 := sub_str_owner
  refine codeAny_call_builtin slot_wd_get.plain entry_wd_get (slot_wd_get.check _ _ _ _ _ _ _ _ hT5 (args_wd_get _ _ _) ?_)
  repeat (any_goals (first | assumption | exact hq _ _ | wp_step))
theorem getitem_of_str {tk : Tok} {Q : Fin → Shared → Prop} (hq : ∀ a o, Q (.done (.ret (.ref a))) ⟨h.push o, g, d, t, os⟩) :
    wpAny (model prog w) A (Builtin.«object.__getattribute__» ⟨[.str x u, .str "__getitem__" tk], []⟩) Q E ⟨h, g, d, t, os⟩ := by
  have hT : (⟨h, g, d, t, os⟩ : Shared).TypeIs (.str x u) "str" := rfl
  have hT5 : (⟨h, g, d, t, os⟩ : Shared).TypeIs (.builtin "str.__getitem__") "wrapper_descriptor" := typeOf_str_getitem
  have f4 := lk_str_getitem
  have f5 := typeOf_str_getitem
  have f6 := slot_wd_get.lookup
  have f7 := lk_wd_set
  have f8 := lk_wd_delete
  repeat (any_goals (first | assumption | wp_step))
  refine wd_get_str ?_
  intro a o
  repeat (any_goals (first | assumption | exact hq _ _ | wp_step))
theorem getattr_call_str {tk : Tok} {R : Result → Shared → Prop} (hq : ∀ a o, R (.ok (.ret (.ref a))) ⟨h.push o, g, d, t, os⟩) :
    codeAny (model prog w) A (.call (.builtin "object.__getattribute__") ⟨[.str x u, .str "__getitem__" tk], []⟩) R ⟨h, g, d, t, os⟩ :=
  codeAny_call_builtin F.slot_str_getattribute.plain F.entry_object_getattribute (F.slot_str_getattribute.check _ _ _ _ _ _ _ _ (show (⟨h, g, d, t, os⟩ : Shared).TypeIs (.str x u) "str" from rfl) (F.args_object_getattribute_2 _ _) (getitem_of_str hq))
theorem getattr_by_str {tk : Tok} {Q : Value → Shared → Prop} (hq : ∀ a o, Q (.ref a) ⟨h.push o, g, d, t, os⟩) : wpAny (model prog w) A (getAttrBy (.str x u) (.str "__getitem__" tk) false) Q E ⟨h, g, d, t, os⟩ := by
  have hT : (⟨h, g, d, t, os⟩ : Shared).TypeIs (.str x u) "str" := rfl
  have f2 := F.slot_str_getattribute.lookup
  have f3 := F.slot_str_getattribute.bind (.str x u)
  repeat (any_goals (first | assumption | wp_step))
  refine getattr_call_str ?_
  intro a o
  repeat (any_goals (first | assumption | exact hq _ _ | wp_step))
theorem no_data_end : (withoutEnding? "str.__getitem__" "#data").isSome = false := by decide +kernel
theorem hasattr_str {tk : Tok} {Q : Value → Shared → Prop} (hq : ∀ o, Q (.bool true) ⟨h.push o, g, d, t, os⟩) : wpAny (model prog w) A (call (.builtin "hasattr") [.str x u, .str "__getitem__" tk]) Q E ⟨h, g, d, t, os⟩ := by
  have hT : (⟨h, g, d, t, os⟩ : Shared).TypeIs (.str x u) "str" := rfl
  have f4 := lk_str_getitem
  have f2 := F.slot_str_getattribute.lookup
  refine Calls.call_function_entry kind_hasattr plain_hasattr entry_hasattr ?args ?_
  case args => unfold argsOk; kernel_rfl
  repeat (any_goals (first | assumption | with_reducible apply getattr_by_str | rw [no_data_end] | wp_step))
  intro a o
  repeat (any_goals (first | assumption | exact ⟨_, rfl, hq _⟩ | wp_step))
end
end Mine
end

section
open PySem PySem.W PyProof.Rows PySem.Calls PySem.Spec
namespace Mine
theorem news_tail {h₀ h : Heap} {L : Addr} {a : Addr × Obj} {r : List (Addr × Obj)} (N : News h₀ L h (a :: r)) : News h₀ L h r := fun p hp => N p (.tail _ hp)
theorem news_pick {h₀ h : Heap} {L : Addr} {a b : List (Addr × Obj)} (N : News h₀ L h a) (hs : ∀ p ∈ b, p ∈ a) : News h₀ L h b := fun p hp => N p (hs p hp)
theorem fr_two {h₀ h : Heap} {L : Addr} {x a b : Str} {v va vb : Value} {m : Str → Option Value} (F : Fr h₀ L h (fun y => if y = x then some v else m y)) (ha : m a = some va) (hb : m b = some vb) :
    Fr h₀ L h (fun y => if y = x then some v else if y = a then some va else if y = b then some vb else m y) := by
  have e : (fun y => if y = x then some v else if y = a then some va else if y = b then some vb else m y) = fun y => if y = x then some v else m y := by
    funext y
    by_cases h1 : y = x
    · simp [h1]
    · by_cases h2 : y = a
      · subst h2; simp [ha]
      · by_cases h3 : y = b
        · subst h3; simp [hb, h1, h2]
        · simp [h1, h2, h3]
  rw [e]; exact F
theorem allLt_ne {D : Addr} {r : List (Addr × Obj)} (h : AllLt D r) : ∀ p ∈ r, p.1 ≠ D := by
  induction r with
  | nil => intro p hp; cases hp
  | cons a r ih =>
    intro p hp
    rcases List.mem_cons.mp hp with e | hp
    · rw [e]; exact Nat.ne_of_lt h.1
    · exact ih h.2 p hp
section
variable {M : Model} {A : Around} {E : Value → Shared → Prop} {s : Shared} {env : Env}
/-- a contract that asks for more room -/
noncomputable abbrev LCx (w : World) (lo kd ku : Nat) (f : Addr) (vs : List Value) (led : List (Addr × Obj)) (Post : Heap → Addr → List (Addr × Obj) → Value → Heap → Prop) : Prop :=
  ∀ (mean : ExcName → Option Value) (mg mb : Str → Option Value) (dp un : Nat) (gd : Option (List Code)) (cn : Str) (cs : Scope) (a : Addr) (ccd : Value) (cl : List (Str × Addr)) (outer : List Env) (A₀ : Around) (base h₀ : Heap) (L : Addr) (m : Str → Option Value) (news : List (Addr × Obj)) (s : Shared) (Q E : Value → Shared → Prop),
    Below A₀ base outer h₀ → Fr h₀ L s.heap m → (hd.heap_1 w.params).In h₀ → News h₀ L s.heap (led ++ news) → Top vw LS mean mg mb h₀ → cs.kind = .function → dp + kd < recursionLimit → un + ku < cLine → Past lo s.toks → B1At w h₀ →
    (∀ v h' tk', Fr h₀ L h' m → Post h₀ L (led ++ news) v h' → Q v { s with heap := h', toks := tk' }) →
      wpAny (model PySem.Challenge.rw_tl0043_01.row.prog w) (ktrTop dp un gd cn cs L a ccd cl outer) (call (.ref f) vs) Q E s
/-- a contract, used -/
theorem lc_use {w : World} {lo kd ku : Nat} {f : Addr} {vs : List Value} {led : List (Addr × Obj)} {Post : Heap → Addr → List (Addr × Obj) → Value → Heap → Prop} (C : LCx w lo kd ku f vs led Post)
    {mean : ExcName → Option Value} {mg mb : Str → Option Value} {dp un : Nat} {gd : Option (List Code)} {cn : Str} {cs : Scope} {a : Addr} {ccd : Value} {cl : List (Str × Addr)} {outer : List Env} {A₀ : Around} {base h₀ : Heap} {L : Addr} {m : Str → Option Value} {news : List (Addr × Obj)} {s : Shared} {Q E : Value → Shared → Prop}
    (B : Below A₀ base outer h₀) (F : Fr h₀ L s.heap m) (X : (hd.heap_1 w.params).In h₀) (N : News h₀ L s.heap news) (hl : ∀ p ∈ led, p ∈ news) (T : Top vw LS mean mg mb h₀) (hcs : cs.kind = .function) (hdp : dp + kd < recursionLimit) (hun : un + ku < cLine) (hpos : Past lo s.toks) (hB1 : B1At w h₀)
    (ret : ∀ v h' tk', Fr h₀ L h' m → Post h₀ L (led ++ news) v h' → lo ≤ tk' → s.toks ≤ tk' → Q v { s with heap := h', toks := tk' }) :
    wpAny (model PySem.Challenge.rw_tl0043_01.row.prog w) (ktrTop dp un gd cn cs L a ccd cl outer) (call (.ref f) vs) Q E s :=
  wpAny_with_toks (n := s.toks) (Nat.le_refl _) (C mean mg mb dp un gd cn cs a ccd cl outer A₀ base h₀ L m news s (fun v s' => s.toks ≤ s'.toks → Q v s') (fun e s' => s.toks ≤ s'.toks → E e s') B F X (fun p hp => (List.mem_append.mp hp).elim (fun q => N p (hl p q)) (N p)) T hcs hdp hun hpos hB1 (fun v h' tk' F' P ht => ret v h' tk' F' P (Nat.le_trans hpos ht) ht))
/-- here the walk halts -/
structure Halt (p : Prop) : Prop where
  go : p
theorem For_halt {target iter body orelse pos} {Q : Flow → Shared → Prop}
    (h : wpAny M A (eval iter env) (fun x s₁ => Halt (wpAny M A (pyIter x) (fun it s₂ =>
      codeAny M A (.forLoop target it body orelse env) (fun r s' => match r with | .ok f => Q f s' | .error e => cameBackBy M A env E e s') s₂) E s₁)) E s)
    (hs : ∀ x, foldedSetIterable iter env x = pure x := by intro _; rfl) :
    wpAny M A (exec (.For target iter body orelse pos) env) Q E s := wpAny_For (wpAny_mono h (fun _ _ h => h.go) fun _ _ e => e) hs
theorem cons_halt {st : Stmt} {rest : List Stmt} {Q : Flow → Shared → Prop} (h : wpAny M A (exec st env) (fun f s' => match f with | .next => Halt (wpAny M A (execs rest env) Q E s') | f => Q f s') E s) : wpAny M A (execs (st :: rest) env) Q E s :=
  wpAny_execs_cons (wpAny_mono h (fun f s' h' => by cases f <;> first | exact h'.go | exact h') fun _ _ e => e)
theorem For_haltP {lo : Nat} {target iter body orelse pos} {Q : Flow → Shared → Prop} (hlo : Past lo s.toks)
    (h : wpAny M A (eval iter env) (fun x s₁ => LoTo lo s₁ (Halt (wpAny M A (pyIter x) (fun it s₂ =>
      codeAny M A (.forLoop target it body orelse env) (fun r s' => match r with | .ok f => Q f s' | .error e => cameBackBy M A env E e s') s₂) E s₁))) E s)
    (hs : ∀ x, foldedSetIterable iter env x = pure x := by intro _; rfl) :
    wpAny M A (exec (.For target iter body orelse pos) env) Q E s :=
  wpAny_For (wpAny_mono (wpAny_toks_of hlo h) (fun _ _ h => (h.2 h.1).go) fun _ _ e => e.2) hs
theorem cons_haltP {lo : Nat} {st : Stmt} {rest : List Stmt} {Q : Flow → Shared → Prop} (hlo : Past lo s.toks) (h : wpAny M A (exec st env) (fun f s' => match f with | .next => LoTo lo s' (Halt (wpAny M A (execs rest env) Q E s')) | f => Q f s') E s) : wpAny M A (execs (st :: rest) env) Q E s :=
  wpAny_execs_cons (wpAny_mono (wpAny_toks_of hlo h) (fun f s' h' => by cases f <;> first | exact (h'.2 h'.1).go | exact h'.2) fun _ _ e => e.2)
theorem at_halt {p : Prop} (h : Halt p) : p := h.go
theorem past_tail {α : Type} {x : Sem α} {Q : α → Shared → Prop} {lo : Nat} (hlo : Past lo s.toks) (h : wpAny M A x (fun v s' => LoTo lo s' (Q v s')) E s) : wpAny M A x Q E s :=
  wpAny_mono (wpAny_toks_of hlo h) (fun _ _ h' => h'.2 h'.1) fun _ _ e => e.2
/-- for k in range(b) -/
theorem iter_to {prog : Program} {w : World} {lo : Nat} {h₀ : Heap} {Q : Flow → Shared → Prop} {x : Str} {px : Pos} {body : List Stmt} {r : Addr} {b : Int} {t u v : Tok} {m : Str → Option Value} {news ex₀ : List (Addr × Obj)}
    (hh : A.handled = none) (hx : env.kindOf x = some .local) (hp : (env.scope.kind == .class || (env.scope.kind == .module && env.locals != env.globals)) = false)
    (hr : IsRange s.heap r 0 b 1 t u v) (hb : b ≤ 1000) (hb0 : -1000 ≤ b)
    (F : Fr h₀ env.locals s.heap m) (N : News h₀ env.locals s.heap (ex₀ ++ news)) (hpos : lo ≤ s.toks)
    (J : Nat → (Str → Option Value) → List (Addr × Obj) → Prop) (h0 : J 0 m ex₀)
    (turn : ∀ i t m₁ ex h tk own, i < b.toNat → lo ≤ tk → (∀ p ∈ ex, p.1 ≠ own.1) → J i m₁ ex → Fr h₀ env.locals h (fun y => if y = x then some (.int (i : Nat) t) else m₁ y) → News h₀ env.locals h (own :: (ex ++ news)) →
      wpAny (model prog w) A (execs body env) (TurnEnd h₀ env.locals own news (J (i + 1)) { s with heap := h, toks := tk } (fun r s' => match r with | .ok f => Q f s' | .error e => E e s')) E { s with heap := h, toks := tk })
    (fin : ∀ h' tk m' ex, lo ≤ tk → J b.toNat m' ex → Fr h₀ env.locals h' m' → News h₀ env.locals h' (ex ++ news) → Q .next { s with heap := h', toks := tk })
    (hE : PassesOwn (model prog w) A env E := by passes_own) :
    wpAny (model prog w) A (pyIter (.ref r)) (fun it s₂ => codeAny (model prog w) A (.forLoop (.Name x px) it body [] env) (fun r s' => match r with | .ok f => Q f s' | .error e => cameBackBy (model prog w) A env E e s') s₂) E s :=
  iter_range_pos (lo := lo) (n := b.toNat) hh hx hp hr (small_one (by decide) (by decide) (by omega) (by omega)) (by rw [rangeSize_nat]; simp) F N hpos J h0
    (fun i t m₁ ex h tk own hi ht hex hJ F N => by
      have e : (0 : Int) + (i : Nat) = (i : Nat) := by omega
      rw [e] at F
      exact turn i t m₁ ex h tk own hi ht hex hJ F N) fin hE
/-- for x in a text, where one thing of the ledger changes -/
theorem iter_str_one {prog : Program} {w : World} {lo : Nat} {h₀ : Heap} {Q : Flow → Shared → Prop} {x : Str} {px : Pos} {body : List Stmt} {xt : Str} {tx : Tok} {m : Str → Option Value} {news : List (Addr × Obj)} {a : Addr × Obj}
    (hh : A.handled = none) (hx : env.kindOf x = some .local) (hp : (env.scope.kind == .class || (env.scope.kind == .module && env.locals != env.globals)) = false)
    (F : Fr h₀ env.locals s.heap m) (N : News h₀ env.locals s.heap (a :: news)) (hpos : lo ≤ s.toks)
    (J : List (Addr × Obj) → List Nat → (Str → Option Value) → List (Addr × Obj) → Prop) (h0 : J news [] m [a])
    (turn : ∀ pre c post t m₁ ex h tk own, xt.cps.toList = pre ++ c :: post → lo ≤ t → lo ≤ tk → (∀ p ∈ ex, p.1 ≠ own.1) → J news pre m₁ ex → Fr h₀ env.locals h (fun y => if y = x then some (.str ⟨#[c]⟩ t) else m₁ y) → News h₀ env.locals h (own :: (ex ++ news)) →
      wpAny (model prog w) A (execs body env) (TurnEnd h₀ env.locals own news (J news (pre ++ [c])) { s with heap := h, toks := tk } (fun r s' => match r with | .ok f => Q f s' | .error e => E e s')) E { s with heap := h, toks := tk })
    (fin : ∀ h' tk m' ex, lo ≤ tk → J news xt.cps.toList m' ex → Fr h₀ env.locals h' m' → News h₀ env.locals h' (ex ++ news) → Q .next { s with heap := h', toks := tk })
    (hE : PassesOwn (model prog w) A env E := by passes_own) :
    wpAny (model prog w) A (pyIter (.str xt tx)) (fun it s₂ => codeAny (model prog w) A (.forLoop (.Name x px) it body [] env) (fun r s' => match r with | .ok f => Q f s' | .error e => cameBackBy (model prog w) A env E e s') s₂) E s :=
  iter_str_pos (lo := lo) (ex₀ := [a]) hh hx hp F N hpos (J news) h0 turn fin hE
theorem put_eq {m : Str → Option Value} {a : Str} {v : Value} (h : m a = some v) : m = fun y => if y = a then some v else m y := by
  funext y
  by_cases e : y = a
  · rw [if_pos e, e, h]
  · rw [if_neg e]
theorem bits_small {x : Int} (h : x.natAbs < 2 ^ 64) : Builtin.Int.intBits x ≤ 64 := intBits_le_iff.mpr h
end
end Mine
end

section
open PySem PySem.W PyProof.Rows PySem.Calls PySem.Spec
open AutoSeq1 (wpAny_loadPart')
set_option maxRecDepth 100000
set_option maxHeartbeats 0
namespace Mine
/-- enumerate over a tuple is made -/
theorem enum_made (l : Addr) (items : Array Value) (n : Nat) :
    Meets (Builtin.«enumerate.__new__» ⟨[.type "enumerate", .ref l], []⟩) (fun _ R s => s.heap.get? l = some { cls := .type "tuple", data := .seq items n } ∧
      R (.ok (.ret (.ref (s.heap.push { cls := .type "tuple_iterator", data := .fields #[.ref l, .int 0 0] }).objs.size)))
        { s with heap := (s.heap.push { cls := .type "tuple_iterator", data := .fields #[.ref l, .int 0 0] }).push { cls := .type "enumerate", data := .fields #[.none, .bool false, .ref s.heap.objs.size, rawInt 0, .none, .none] } }) :=
  .of_wp fun prog w A R s h => by
    obtain ⟨hp, g, d, tk, os⟩ := s
    obtain ⟨hl, h⟩ := h
    have hsub := sub_enumerate
    have hL : Heap.IsTuple (Shared.heap ⟨hp, g, d, tk, os⟩) l items := ⟨_, hl, rfl, n, rfl⟩
    wp_walk using wpAny_loadPart' hl
    refine wpAny_stack_any fun st => wpAny_pure ?_
    split
    · rename_i c _ _ _ _ _
      cases (c == Value.type "enumerate") <;> (wp_walk using wpAny_loadPart' hl, wpAny_pyIter_tuple hL; exact ⟨_, rfl, h⟩)
    · wp_walk using wpAny_loadPart' hl, wpAny_pyIter_tuple hL
      exact ⟨_, rfl, h⟩
section
variable {prog : Program} {w : World} {A : Around} {E : Value → Shared → Prop} {s : Shared} {env : Env} {h₀ : Heap}
theorem enum_call {l : Addr} {items : Array Value} {n : Nat} {Q : Value → Shared → Prop} (hl : s.heap.get? l = some { cls := .type "tuple", data := .seq items n })
    (h : ∀ h', IsEnum h' (s.heap.objs.size + 1) s.heap.objs.size 0 .none → h'.IsTupleIter s.heap.objs.size l 0 → h'.objs.size = s.heap.objs.size + 2 →
      (∀ b o, s.heap.get? b = some o → h'.get? b = some o) → Q (.ref (s.heap.objs.size + 1)) { s with heap := h' }) :
    wpAny (model prog w) A (call (.type "enumerate") [.ref l]) Q E s := by
  refine callType_new F.called_enumerate (by decide) (F.typeCall_enumerate_1 _) (F.newCall_enumerate_1 _) (fun obj => F.args_object_init_2 obj _) F.entry_enumerate_new (enum_made l items n) ⟨hl, ?_⟩
  have hz : (s.heap.push { cls := .type "tuple_iterator", data := .fields #[.ref l, .int 0 0] }).objs.size = s.heap.objs.size + 1 := Heap.size_push ..
  have he := Heap.get?_push_size (s.heap.push { cls := .type "tuple_iterator", data := .fields #[.ref l, .int 0 0] }) (o := { cls := .type "enumerate", data := .fields #[.none, .bool false, .ref s.heap.objs.size, rawInt 0, .none, .none] }) rfl
  show _ ∧ _
  rw [hz] at he ⊢
  exact ⟨⟨_, he, rfl⟩, h _ he ⟨_, Heap.get?_push_of_some _ (Heap.get?_push_size _ rfl), rfl, rfl⟩ (by rw [Heap.size_push, hz]) fun b o x => Heap.get?_push_of_some _ (Heap.get?_push_of_some _ x)⟩
/-- a tuple's iterator, asked -/
theorem next_tuple {it t : Addr} {i : Nat} {items : Array Value} {x : Value} {Q : Value → Shared → Prop} (hit : s.heap.IsTupleIter it t i) (ht : s.heap.IsTuple t items) (hx : items[i]? = some x)
    (hQ : ∀ h', h'.IsTupleIter it t (i + 1) → Heap.SameBut it s.heap h' → Q x { s with heap := h' }) : wpAny (model prog w) A (Builtin.SmallTypes.nextOf (.ref it)) Q E s := by
  obtain ⟨o, ho, hc, hd⟩ := id hit
  obtain ⟨ol, hol, _, nl, hdl⟩ := ht
  refine wpAny_bind (wpAny_callSpecial?_slot (name := Str.ofString "__next__") hit.typeIs F.slot_tuple_iterator_next (wpAny_call_entry F.slot_tuple_iterator_next hit.typeIs F.entry_tuple_iterator_next ?_ (F.args_tuple_iterator_next_1 _)))
  show wpAny _ _ (field (.ref it) 0 >>= _) _ _ s
  refine wpAny_bind (wpAny_field ho hd (x := .ref t) rfl ?_)
  show wpAny _ _ (if (Value.ref t == Value.none) = true then _ else _) _ _ s
  rw [if_neg (show ¬ ((Value.ref t == Value.none) = true) from Bool.false_ne_true)]
  show wpAny _ _ (field (.ref it) 1 >>= _) _ _ s
  refine wpAny_bind (wpAny_field ho hd (x := .int i 0) rfl ?_)
  show wpAny _ _ (seqItems? (.ref t) >>= _) _ _ s
  refine wpAny_bind (wpAny_seqItems hol hdl ?_)
  simp only [Int.toNat_natCast, hx]
  refine wpAny_bind (wpAny_setField ho hd (by simp) (wpAny_pure ⟨x, rfl, wpAny_pure (hQ _ ⟨_, Heap.get?_update_self _ ho (Obj.isFreed_of_fields (Obj.data_mapFields hd _)), (Obj.cls_mapFields ..).trans hc, ?_⟩ (Heap.SameBut.update ..))⟩))
  rw [Obj.data_mapFields hd]; simp [rawInt]
theorem end_tuple {it t : Addr} {i : Nat} {items : Array Value} {Q : Value → Shared → Prop} (hh : A.handled = none) (hit : s.heap.IsTupleIter it t i) (ht : s.heap.IsTuple t items) (hx : items[i]? = none)
    (hE : ∀ h' e, Heap.ExtBut it s.heap h' → (∃ o, h'.get? e = some o ∧ o.cls = .type "StopIteration") → E (.ref e) { s with heap := h' }) : wpAny (model prog w) A (Builtin.SmallTypes.nextOf (.ref it)) Q E s := by
  obtain ⟨o, ho, hc, hd⟩ := id hit
  obtain ⟨ol, hol, _, nl, hdl⟩ := ht
  refine wpAny_bind (wpAny_callSpecial?_slot (name := Str.ofString "__next__") hit.typeIs F.slot_tuple_iterator_next (wpAny_call_entry F.slot_tuple_iterator_next hit.typeIs F.entry_tuple_iterator_next ?_ (F.args_tuple_iterator_next_1 _)))
  show wpAny _ _ (field (.ref it) 0 >>= _) _ _ s
  refine wpAny_bind (wpAny_field ho hd (x := .ref t) rfl ?_)
  show wpAny _ _ (if (Value.ref t == Value.none) = true then _ else _) _ _ s
  rw [if_neg (show ¬ ((Value.ref t == Value.none) = true) from Bool.false_ne_true)]
  show wpAny _ _ (field (.ref it) 1 >>= _) _ _ s
  refine wpAny_bind (wpAny_field ho hd (x := .int i 0) rfl ?_)
  show wpAny _ _ (seqItems? (.ref t) >>= _) _ _ s
  refine wpAny_bind (wpAny_seqItems hol hdl ?_)
  simp only [Int.toNat_natCast, hx]
  refine wpAny_bind (wpAny_rule (wpAny_bind (wpAny_setField ho hd (by simp) ?_)))
  show wpAny _ _ (newExc (.type "StopIteration") [] >>= _) _ _ _
  refine wpAny_bind ?_
  simp only [newExc, newTuple]
  refine wpAny_bind (wpAny_newObj_type ?_ (by size_fits))
  refine wpAny_bind (m := firstArgMember _ _) (wpAny_of_eq (a := Value.none) (by first | rfl | (simp only [firstArgMember]; rfl)) ?_)
  refine wpAny_newObj_type ?_ (by size_fits)
  simp only [raiseNew]
  refine wpAny_bind (wpAny_handled ?_)
  first | rw [show A.in1.handled = none from hh] | rw [hh]
  exact wpAny_bind (wpAny_pure (wpAny_throw (hE _ _ (((Heap.SameBut.update ..).extBut.push _).push _) ⟨_, Heap.get?_push_size _ rfl, rfl⟩)))
theorem draws_tuple (hh : A.handled = none) (it l : Addr) (hne : l ≠ it) (items : Array Value) :
    Draws prog w A it [it, l] items.size (fun i v => items[i]? = some v) (fun i h => h.IsTupleIter it l i ∧ h.IsTuple l items) where
  live := fun _ _ st => let ⟨o, ho, _⟩ := st.1; ⟨o, ho⟩
  frame := fun _ _ _ st hk => let ⟨o, ho, r⟩ := st.1; let ⟨o', ho', r'⟩ := st.2; ⟨⟨o, hk it (by simp) o ho, r⟩, ⟨o', hk l (by simp) o' ho', r'⟩⟩
  item := fun i s Q E hi st hQ => next_tuple st.1 st.2 (x := items[i]) (by simp [hi]) fun h' hit' hs' => hQ _ h' s.toks (by simp [hi]) ⟨hit', st.2.extBut hs'.extBut hne⟩ hs'
  done := fun s Q E st hE => end_tuple hh st.1 st.2 (by simp) hE
end
end Mine
end

section
open PySem PySem.W PyProof.Rows PySem.Calls PySem.Spec
set_option maxRecDepth 100000
set_option maxHeartbeats 0
namespace Mine
section
variable {prog : Program} {w : World} {A : Around} {E : Value → Shared → Prop} {s : Shared} {env : Env} {h₀ : Heap}
/-- a turn's end, with things of the loop's own that stay -/
noncomputable def TurnEndL (h₀ : Heap) (L : Addr) (own news : List (Addr × Obj)) (J : (Str → Option Value) → List (Addr × Obj) → Prop) (s : Shared) (R : Result → Shared → Prop) (f : Flow) (s₂ : Shared) : Prop :=
  match f with
  | .ret v => R (.ok (.ret v)) s₂
  | .brk => R (.ok .next) s₂
  | _ => ∃ h' tk m' ex, s₂ = { s with heap := h', toks := tk } ∧ Fr h₀ L h' m' ∧ News h₀ L h' (own ++ (ex ++ news)) ∧ (∀ p ∈ ex, ∀ q ∈ own, p.1 ≠ q.1) ∧ J m' ex
inductive EnumSt (s : Shared) (n lo : Nat) (St : Nat → Heap → Prop) (e it : Addr) (h₀ : Heap) (env : Env) (news : List (Addr × Obj)) (J : Nat → (Str → Option Value) → List (Addr × Obj) → Prop) (k : Nat) (s' : Shared) : Prop
  | mk (i h' tk m' ex old) : (s' = { s with heap := h', toks := tk }) → (k + i = n) → (lo ≤ tk) → (IsEnum h' e it ((i : Nat) : Int) old) → (St i h') → (Fr h₀ env.locals h' m') → (News h₀ env.locals h' (ex ++ news)) → ((∀ p ∈ ex ++ news, p.1 ≠ e ∧ p.1 ≠ it)) → (J i m' ex) → EnumSt s n lo St e it h₀ env news J k s'
theorem enum_loop {lo : Nat} {R : Result → Shared → Prop} {xi xv : Str} {pi pv pt : Pos} {x1} {body : List Stmt} {e it : Addr} {fp : List Addr} {n : Nat} {P : Nat → Value → Prop} {St : Nat → Heap → Prop} {m : Str → Option Value} {news ex₀ : List (Addr × Obj)}
    (D : Draws prog w A.in1 it fp n P St) (hh : A.handled = none) (hxi : env.kindOf xi = some .local) (hxv : env.kindOf xv = some .local) (hp : (env.scope.kind == .class || (env.scope.kind == .module && env.locals != env.globals)) = false)
    (hei : e ≠ it) (heL : e ≠ env.locals) (hiL : it ≠ env.locals) (hef : e ∉ fp) (he0 : h₀.get? e = none) (hi0 : h₀.get? it = none) (hfp : ∀ b ∈ fp, b = it ∨ (∃ o, (b, o) ∈ news) ∨ ∃ o, h₀.get? b = some o)
    (hoff : ∀ p ∈ ex₀ ++ news, p.1 ≠ e ∧ p.1 ≠ it) (he : IsEnum s.heap e it 0 .none) (hst : St 0 s.heap) (F : Fr h₀ env.locals s.heap m) (N : News h₀ env.locals s.heap (ex₀ ++ news)) (hpos : lo ≤ s.toks)
    (J : Nat → (Str → Option Value) → List (Addr × Obj) → Prop) (h0 : J 0 m ex₀)
    (turn : ∀ i v t m₁ ex h tk oe oi, i < n → P i v → lo ≤ tk → (∀ p ∈ ex, ∀ q ∈ [(e, oe), (it, oi)], p.1 ≠ q.1) → J i m₁ ex → Fr h₀ env.locals h (fun y => if y = xv then some v else if y = xi then some (.int (i : Nat) t) else m₁ y) → News h₀ env.locals h ((e, oe) :: (it, oi) :: (ex ++ news)) →
      wpAny (model prog w) A (execs body env) (TurnEndL h₀ env.locals [(e, oe), (it, oi)] news (J (i + 1)) { s with heap := h, toks := tk } R) (notedBy (model prog w) A env fun e s' => R (.error e) s') { s with heap := h, toks := tk })
    (fin : ∀ h' tk m' ex, lo ≤ tk → J n m' ex → Fr h₀ env.locals h' m' → News h₀ env.locals h' (ex ++ news) → R (.ok .next) { s with heap := h', toks := tk }) :
    codeAny (model prog w) A (.forLoop (.Tuple [.Name xi pi, .Name xv pv] x1 pt) (.ref e) body [] env) R s := by
  refine codeAny_forLoop_any
    (EnumSt s n lo St e it h₀ env news J) ?_ n
    ⟨0, s.heap, s.toks, m, ex₀, .none, rfl, by omega, hpos, he, hst, F, N, hoff, h0⟩
  intro k s' hP0
  refine Classical.byContradiction fun hG => ?_
  obtain ⟨i, h', tk, m', ex, old, rfl, hk, htk, he', st, F', N', hof, hJ⟩ := hP0
  refine hG ?_
  clear hG
  by_cases hlt : i < n
  · refine wpAny_with_toks (n := lo) htk (wpAny_pyNext_enum_itemD D he' st hlt hei hef fun v h₁ tk₁ hP heo st₁ ht₁ hz₁ hk₁ htk₁ => ?_)
    replace hz₁ : h₁.objs.size = h'.objs.size + 1 := hz₁
    replace ht₁ : h₁.get? h'.objs.size = some { cls := .type "tuple", data := .seq #[.int i tk₁, v] } := ht₁
    replace hk₁ : ∀ b o, b ≠ e → b ≠ it → h'.get? b = some o → h₁.get? b = some o := hk₁
    replace htk₁ : lo ≤ tk₁ + 1 := htk₁
    refine wpAny_letOwnedTupleGo_enum heo fun h₂ he₂ hs₂ => ?_
    replace hs₂ : Heap.SameBut e h₁ h₂ := hs₂
    have helt : e < h'.objs.size := Heap.lt_size he'
    have ht₂ : h₂.IsTuple h'.objs.size #[.int i tk₁, v] := ⟨_, (hs₂.2 _ (Nat.ne_of_gt helt)).trans ht₁, rfl, _, rfl⟩
    refine wpAny_assign_Tuple hh ht₂ rfl rfl fun h₃ hx₃ => ?_
    replace hx₃ : Heap.ExtBut h₂.objs.size h₂ h₃ := hx₃
    have up₃ : ∀ b o, h₂.get? b = some o → h₃.get? b = some o := fun b o q => hx₃ b o (Nat.ne_of_lt (Heap.lt_size q)) q
    have old₃ : ∀ b o, b ≠ e → b ≠ it → h'.get? b = some o → h₃.get? b = some o := fun b o q1 q2 q => up₃ b o (hs₂.extBut b o q1 (hk₁ b o q1 q2 q))
    have he₃ : IsEnum h₃ e it (((i + 1 : Nat) : Nat) : Int) v := by
      have : (((i + 1 : Nat) : Nat) : Int) = (i : Int) + 1 := by push_cast; rfl
      rw [this]; exact up₃ e _ he₂
    have st₃ : St (i + 1) h₃ := D.frame _ _ _ st₁ fun b hb o q => up₃ b o (hs₂.extBut b o (fun q' => hef (q' ▸ hb)) q)
    have F₃ : Fr h₀ env.locals h₃ m' := ⟨F'.ns.at' fun o q => old₃ _ o (Ne.symm heL) (Ne.symm hiL) q,
      fun b o q => old₃ b o (fun q' => by rw [q', he0] at q; cases q) (fun q' => by rw [q', hi0] at q; cases q) (F'.keep b o q), F'.above⟩
    have N₃ : News h₀ env.locals h₃ (ex ++ news) := fun p hp => ⟨old₃ _ _ (hof p hp).1 (hof p hp).2 (N' p hp).1, (N' p hp).2⟩
    obtain ⟨oi, hoi⟩ := D.live _ _ st₃
    generalize hoe : ({ cls := .type "enumerate", dict := none, data := .fields #[.none, .bool false, .ref it, rawInt (((i + 1 : Nat) : Nat) : Int), .none, v], slots := #[] } : Obj) = oe at he₃
    have he₃' : h₃.get? e = some oe := he₃.trans (congrArg some hoe)
    show wpAny _ A (do holding [v] (assign (.Name xi pi) env (.int i tk₁)); do holding [] (assign (.Name xv pv) env v); pure ()) _ _ _
    refine wpAny_bind (wpAny_holding (wpAny_assign_Name (wpAny_storeName_local hxi F₃.ns (fun h₄ hn₄ hs₄ => ?_) hp)))
    replace hs₄ : Heap.SameBut env.locals h₃ h₄ := hs₄
    refine wpAny_bind (wpAny_holding (wpAny_assign_Name (wpAny_storeName_local hxv hn₄ (fun h₅ hn₅ hs₅ => wpAny_pure ?_) hp)))
    replace hs₅ : Heap.SameBut env.locals h₄ h₅ := hs₅
    have F₅ := (F₃.set hn₄ hs₄).set hn₅ hs₅
    have up₅ : ∀ b o, b ≠ env.locals → h₃.get? b = some o → h₅.get? b = some o := fun b o q1 q => hs₅.extBut b o q1 (hs₄.extBut b o q1 q)
    have N₅ : News h₀ env.locals h₅ ((e, oe) :: (it, oi) :: (ex ++ news)) := fun p hp => by
      rcases List.mem_cons.mp hp with rfl | hp
      · exact ⟨up₅ _ _ heL he₃', heL, he0⟩
      rcases List.mem_cons.mp hp with rfl | hp
      · exact ⟨up₅ _ _ hiL hoi, hiL, hi0⟩
      · exact ⟨up₅ _ _ (N₃ p hp).2.1 (N₃ p hp).1, (N₃ p hp).2⟩
    have st₅ : St (i + 1) h₅ := D.frame _ _ _ st₃ fun b hb o q => by
      rcases hfp b hb with rfl | ⟨o', ho'⟩ | ⟨o', ho'⟩
      · exact up₅ _ _ hiL q
      · exact up₅ _ _ (N₃ _ (List.mem_append_right _ ho')).2.1 q
      · exact up₅ _ _ (fun e => by rw [e, Heap.get?_none_of_le F'.above] at ho'; cases ho') q
    have hofe : ∀ p ∈ ex, ∀ q ∈ [(e, oe), (it, oi)], p.1 ≠ q.1 := fun p hp q hq => by
      have := hof p (List.mem_append_left _ hp)
      rcases List.mem_cons.mp hq with rfl | hq
      · exact this.1
      · rw [List.mem_singleton.mp hq]; exact this.2
    have T := turn i v tk₁ m' ex h₅ _ oe oi hlt hP (show lo ≤ tk₁ + 1 + 1 + 1 by omega) hofe hJ F₅ N₅
    refine wpAny_mono (wpAny_toks_of (n := lo) (by first | (show lo ≤ tk₁ + 1 + 1 + 1; omega)) T) (fun f s₃ h₃ => ?_) fun _ _ e => e.2
    obtain ⟨ht₃, h₃⟩ := h₃
    have go : (∃ h' tk' m₂ ex₂, s₃ = { s with heap := h', toks := tk' } ∧ Fr h₀ env.locals h' m₂ ∧ News h₀ env.locals h' ([(e, oe), (it, oi)] ++ (ex₂ ++ news)) ∧ (∀ p ∈ ex₂, ∀ q ∈ [(e, oe), (it, oi)], p.1 ≠ q.1) ∧ J (i + 1) m₂ ex₂) →
        ∃ m, m < k ∧ EnumSt s n lo St e it h₀ env news J m s₃ := by
      rintro ⟨h₆, tk₆, m₆, ex₆, rfl, F₆, N₆, hex₆, hJ₆⟩
      have Ne₆ := (N₆ (e, oe) (.head _)).1
      have Ni₆ := (N₆ (it, oi) (.tail _ (.head _))).1
      refine ⟨k - 1, by omega, i + 1, h₆, tk₆, m₆, ex₆, v, rfl, by omega, ht₃, Ne₆.trans (congrArg some hoe.symm), ?_, F₆, fun p hp => N₆ p (.tail _ (.tail _ hp)), ?_, hJ₆⟩
      · refine D.frame _ _ _ st₅ fun b hb o q => ?_
        rcases hfp b hb with rfl | ⟨o', ho'⟩ | ⟨o', ho'⟩
        · have := (N₅ (b, oi) (.tail _ (.head _))).1
          rw [show h₅.get? b = some oi from this] at q; cases q; exact Ni₆
        · have := (N₅ (b, o') (.tail _ (.tail _ (List.mem_append_right _ ho')))).1
          rw [show h₅.get? b = some o' from this] at q; cases q
          exact (N₆ (b, o) (List.mem_append_right _ (List.mem_append_right _ ho'))).1
        · have := F₅.keep b o' ho'
          rw [this] at q; cases q
          exact F₆.keep b _ ho'
      · intro p hp
        rcases List.mem_append.mp hp with hp | hp
        · exact ⟨hex₆ p hp _ (.head _), hex₆ p hp _ (.tail _ (.head _))⟩
        · exact hof p (List.mem_append_right _ hp)
    cases f with
    | ret v => exact h₃
    | brk => exact h₃
    | next => exact go h₃
    | cont => exact go h₃
  · have hin : i = n := by omega
    subst hin
    refine wpAny_with_toks (n := lo) htk (wpAny_pyNext_enum_endD D he' st fun h₁ hx₁ ht₁ => wpAny_execs_nil ?_)
    replace hx₁ : Heap.ExtBut it h' h₁ := hx₁
    refine fin h₁ tk m' ex htk hJ ⟨F'.ns.at' fun o q => hx₁ _ o (Ne.symm hiL) q, fun b o q => hx₁ b o (fun q' => by rw [q', hi0] at q; cases q) (F'.keep b o q), F'.above⟩
      fun p hp => ⟨hx₁ _ _ (hof p hp).2 (N' p hp).1, (N' p hp).2⟩
/-- for i, v in enumerate(a tuple) -/
theorem enum_tuple_pos {lo : Nat} {Q : Flow → Shared → Prop} {xi xv : Str} {pi pv pt : Pos} {x1} {body : List Stmt} {l : Addr} {items : Array Value} {nn : Nat} {m : Str → Option Value} {news ex₀ : List (Addr × Obj)}
    (hh : A.handled = none) (hxi : env.kindOf xi = some .local) (hxv : env.kindOf xv = some .local) (hp : (env.scope.kind == .class || (env.scope.kind == .module && env.locals != env.globals)) = false)
    (hl : (l, ({ cls := .type "tuple", data := .seq items nn } : Obj)) ∈ news) (F : Fr h₀ env.locals s.heap m) (N : News h₀ env.locals s.heap (ex₀ ++ news)) (hpos : lo ≤ s.toks)
    (J : Nat → (Str → Option Value) → List (Addr × Obj) → Prop) (h0 : J 0 m ex₀)
    (turn : ∀ i v t m₁ ex h tk own, i < items.size → items[i]? = some v → lo ≤ tk → (∀ p ∈ ex, ∀ q ∈ own, p.1 ≠ q.1) → J i m₁ ex → Fr h₀ env.locals h (fun y => if y = xv then some v else if y = xi then some (.int (i : Nat) t) else m₁ y) → News h₀ env.locals h (own ++ (ex ++ news)) →
      wpAny (model prog w) A (execs body env) (TurnEndL h₀ env.locals own news (J (i + 1)) { s with heap := h, toks := tk } (fun r s' => match r with | .ok f => Q f s' | .error e => E e s')) E { s with heap := h, toks := tk })
    (fin : ∀ h' tk m' ex, lo ≤ tk → J items.size m' ex → Fr h₀ env.locals h' m' → News h₀ env.locals h' (ex ++ news) → Q .next { s with heap := h', toks := tk })
    (hE : PassesOwn (model prog w) A env E := by passes_own) :
    wpAny (model prog w) A (call (.type "enumerate") [.ref l]) (fun x s₁ => Halt (wpAny (model prog w) A (pyIter x) (fun it s₂ => codeAny (model prog w) A (.forLoop (.Tuple [.Name xi pi, .Name xv pv] x1 pt) it body [] env) (fun r s' => match r with | .ok f => Q f s' | .error e => cameBackBy (model prog w) A env E e s') s₂) E s₁)) E s := by
  have hLl := (N _ (List.mem_append_right _ hl))
  refine enum_call hLl.1 fun h' he hit hz hk => ⟨wpAny_pyIter_enum he ?_⟩
  have hsz : ∀ b o, s.heap.get? b = some o → b < s.heap.objs.size := fun b o q => Heap.lt_size q
  have hLlt : env.locals < s.heap.objs.size := F.ns.lt
  have hnone : ∀ b, s.heap.objs.size ≤ b → h₀.get? b = none := fun b hb => by
    cases q : h₀.get? b with
    | none => rfl
    | some o => exact absurd (hsz _ _ (F.keep _ _ q)) (Nat.not_lt.mpr hb)
  have hof : ∀ p ∈ ex₀ ++ news, p.1 ≠ s.heap.objs.size + 1 ∧ p.1 ≠ s.heap.objs.size := fun p hp => by
    have := hsz _ _ (N p hp).1
    exact ⟨Nat.ne_of_lt (Nat.lt_succ_of_lt this), Nat.ne_of_lt this⟩
  have hll := hsz _ _ hLl.1
  refine enum_loop (lo := lo) (s := { s with heap := h' }) (news := news) (ex₀ := ex₀) (n := items.size) (draws_tuple (A := A.in1) hh s.heap.objs.size l (Nat.ne_of_lt hll) items) hh hxi hxv hp (Nat.succ_ne_self _) (Nat.ne_of_gt (Nat.lt_succ_of_lt hLlt)) (Nat.ne_of_gt hLlt)
    (fun q => ?_) (hnone _ (Nat.le_succ _)) (hnone _ (Nat.le_refl _)) (fun b hb => ?_) hof he ⟨hit, ⟨_, hk _ _ hLl.1, rfl, nn, rfl⟩⟩ ⟨F.ns.at' fun o q => hk _ o q, fun b o q => hk b o (F.keep b o q), F.above⟩
    (fun p hp => ⟨hk _ _ (N p hp).1, (N p hp).2⟩) hpos J h0 (fun i v t m₁ ex h tk oe oi hi hP htk hex hJ F₁ N₁ => ?_) (fun h' tk m' ex htk hJ F' N' => fin h' tk m' ex htk hJ F' N')
  · rcases List.mem_cons.mp q with q | q
    · exact absurd q (Nat.succ_ne_self _)
    · exact absurd (List.mem_singleton.mp q) (Nat.ne_of_gt (Nat.lt_succ_of_lt hll))
  · rcases List.mem_cons.mp hb with q | q
    · exact .inl q
    · exact .inr (.inl ⟨_, (List.mem_singleton.mp q) ▸ hl⟩)
  · refine wpAny_passesOwn hE (wpAny_mono (turn i v t m₁ ex h tk _ hi hP htk hex hJ F₁ N₁) (fun f s₂ h₂ => ?_) fun _ _ e => e)
    cases f <;> exact h₂
/-- for i, v in enumerate(a list) -/
theorem enum_list_pos {lo : Nat} {Q : Flow → Shared → Prop} {xi xv : Str} {pi pv pt : Pos} {x1} {body : List Stmt} {l : Addr} {items : Array Value} {m : Str → Option Value} {news ex₀ : List (Addr × Obj)}
    (hh : A.handled = none) (hxi : env.kindOf xi = some .local) (hxv : env.kindOf xv = some .local) (hp : (env.scope.kind == .class || (env.scope.kind == .module && env.locals != env.globals)) = false)
    (hl : h₀.IsList l items ∨ ∃ nn, (l, ({ cls := .type "list", data := .seq items nn } : Obj)) ∈ news) (F : Fr h₀ env.locals s.heap m) (N : News h₀ env.locals s.heap (ex₀ ++ news)) (hpos : lo ≤ s.toks)
    (J : Nat → (Str → Option Value) → List (Addr × Obj) → Prop) (h0 : J 0 m ex₀)
    (turn : ∀ i v t m₁ ex h tk own, i < items.size → items[i]? = some v → lo ≤ tk → (∀ p ∈ ex, ∀ q ∈ own, p.1 ≠ q.1) → J i m₁ ex → Fr h₀ env.locals h (fun y => if y = xv then some v else if y = xi then some (.int (i : Nat) t) else m₁ y) → News h₀ env.locals h (own ++ (ex ++ news)) →
      wpAny (model prog w) A (execs body env) (TurnEndL h₀ env.locals own news (J (i + 1)) { s with heap := h, toks := tk } (fun r s' => match r with | .ok f => Q f s' | .error e => E e s')) E { s with heap := h, toks := tk })
    (fin : ∀ h' tk m' ex, lo ≤ tk → J items.size m' ex → Fr h₀ env.locals h' m' → News h₀ env.locals h' (ex ++ news) → Q .next { s with heap := h', toks := tk })
    (hE : PassesOwn (model prog w) A env E := by passes_own) :
    wpAny (model prog w) A (call (.type "enumerate") [.ref l]) (fun x s₁ => Halt (wpAny (model prog w) A (pyIter x) (fun it s₂ => codeAny (model prog w) A (.forLoop (.Tuple [.Name xi pi, .Name xv pv] x1 pt) it body [] env) (fun r s' => match r with | .ok f => Q f s' | .error e => cameBackBy (model prog w) A env E e s') s₂) E s₁)) E s := by
  have hls : s.heap.IsList l items := by
    rcases hl with hl | ⟨nn, hl⟩
    · exact hl.at fun o e => F.keep l o e
    · exact ⟨_, (N _ (List.mem_append_right _ hl)).1, rfl, nn, rfl⟩
  have hsz : ∀ b o, s.heap.get? b = some o → b < s.heap.objs.size := fun b o q => Heap.lt_size q
  have hll : l < s.heap.objs.size := by obtain ⟨o, e, _⟩ := hls; exact hsz _ _ e
  refine call_enumerate_list hls fun h' he hit hz hk => ⟨wpAny_pyIter_enum he ?_⟩
  have hLlt : env.locals < s.heap.objs.size := F.ns.lt
  have hnone : ∀ b, s.heap.objs.size ≤ b → h₀.get? b = none := fun b hb => by
    cases q : h₀.get? b with
    | none => rfl
    | some o => exact absurd (hsz _ _ (F.keep _ _ q)) (Nat.not_lt.mpr hb)
  have hof : ∀ p ∈ ex₀ ++ news, p.1 ≠ s.heap.objs.size + 1 ∧ p.1 ≠ s.heap.objs.size := fun p hp => by
    have := hsz _ _ (N p hp).1
    exact ⟨Nat.ne_of_lt (Nat.lt_succ_of_lt this), Nat.ne_of_lt this⟩
  refine enum_loop (lo := lo) (s := { s with heap := h' }) (news := news) (ex₀ := ex₀) (n := items.size) (Draws.list (A := A.in1) hh s.heap.objs.size l (Nat.ne_of_lt hll) items) hh hxi hxv hp (Nat.succ_ne_self _) (Nat.ne_of_gt (Nat.lt_succ_of_lt hLlt)) (Nat.ne_of_gt hLlt)
    (fun q => ?_) (hnone _ (Nat.le_succ _)) (hnone _ (Nat.le_refl _)) (fun b hb => ?_) hof he ⟨hit, hls.at fun o e => hk l o e⟩ ⟨F.ns.at' fun o q => hk _ o q, fun b o q => hk b o (F.keep b o q), F.above⟩
    (fun p hp => ⟨hk _ _ (N p hp).1, (N p hp).2⟩) hpos J h0 (fun i v t m₁ ex h tk oe oi hi hP htk hex hJ F₁ N₁ => ?_) (fun h' tk m' ex htk hJ F' N' => fin h' tk m' ex htk hJ F' N')
  · rcases List.mem_cons.mp q with q | q
    · exact absurd q (Nat.succ_ne_self _)
    · exact absurd (List.mem_singleton.mp q) (Nat.ne_of_gt (Nat.lt_succ_of_lt hll))
  · rcases List.mem_cons.mp hb with q | q
    · exact .inl q
    · have e := List.mem_singleton.mp q
      rcases hl with ⟨o, hl, _⟩ | ⟨nn, hl⟩
      · exact .inr (.inr ⟨o, e ▸ hl⟩)
      · exact .inr (.inl ⟨_, e ▸ hl⟩)
  · refine wpAny_passesOwn hE (wpAny_mono (turn i v t m₁ ex h tk _ hi hP htk hex hJ F₁ N₁) (fun f s₂ h₂ => ?_) fun _ _ e => e)
    cases f <;> exact h₂
end
end Mine
end

section
open PySem PySem.W PyProof.Rows PySem.Calls
namespace Mine
local macro_rules | `(tactic| walk_at "h!") => `(tactic| (k_here; with_reducible refine at_halt ?_))
local macro_rules | `(tactic| k_room) => `(tactic| ((try simp only [depth_under_make, depth_under_kw, depth_in1, depth_deeper, depth_caller]); first | decide | ((try simp only [depth_deeper]); omega) | (simp only [Around.deeper]; omega)))
local macro_rules | `(tactic| walk_at "past") => `(tactic| ((try dsimp only); first | assumption | exact Past.add (by walk_at "past")))
local macro_rules | `(tactic| walk_at "compareOp In int ref") => `(tactic| (k_here; (with_reducible show wpAny _ _ (compareOp CmpOp.In (Value.int _ _) (Value.ref 137)) _ _ _); k_dflt (refine' in_b1 ?F ?B ?_; (case F => k_asm); (case B => first | assumption | exact B1At.keep (by assumption) (Fr.keep (by assumption))))))
local macro_rules | `(tactic| walk_at "getMethod ref") => `(tactic| (k_here; (with_reducible show wpAny _ _ (getMethod (Value.ref 148) _ _) _ _ _); k_dflt (refine' meth_b3 ?F ?X ?_; (case F | X => k_asm))))
local macro_rules | `(tactic| ktr_units) => `(tactic| ((try simp only [units_in1, units_deeper, Around.mark_units, units_caller]); (try dsimp only [ktrTop]); exact low3 (by with_reducible assumption) rfl))
local macro_rules | `(tactic| ktr_room) => `(tactic| ((try simp only [depth_in1, depth_deeper, depth_caller]); (try dsimp only [ktrTop]); exact low3 (by with_reducible assumption) rfl))

section
open PySem PySem.W PyProof.Rows PySem.Calls
set_option maxRecDepth 100000
set_option maxHeartbeats 0
set_option rowWalk.seconds 0
theorem news_skip {h₀ h : Heap} {L : Addr} {a b : Addr × Obj} {r : List (Addr × Obj)} (N : News h₀ L h (a :: b :: r)) : News h₀ L h (a :: r) := news_pick N fun p hp => by
  rcases List.mem_cons.mp hp with rfl | hp
  · exact .head _
  · exact .tail _ (.tail _ hp)
theorem one_eq {c d : Nat} : ((⟨#[c]⟩ : Str) == ⟨#[d]⟩) = decide (c = d) := by
  by_cases h : c = d
  · subst h; simp
  · simp [h]
theorem one_tt {c d : Nat} (h : (((⟨#[c]⟩ : Str) == ⟨#[d]⟩) == true) = true) : c = d := by
  rw [one_eq] at h; simpa using h
theorem one_ff {c d : Nat} (h : (((⟨#[c]⟩ : Str) == ⟨#[d]⟩) == true) = false) : ¬ c = d := by
  rw [one_eq] at h; simpa using h
/-- what _law_done reckons: the exponent, what is told -/
noncomputable def doneStep (up : Int) (a : Int × Int) (c : Int) : Int × Int := if c = up then (a.1 + 1, a.2) else (a.1 - 1, a.2 * a.1)
noncomputable def doneF (up start : Int) (cs : List Int) : Int × Int := cs.foldl (doneStep up) (start, 1)
structure DoneP (up : Nat) (start : Int) (pre : List Int) (place told : Int) : Prop where
  is : (place, told) = doneF up start pre
  near : (place - start).natAbs ≤ pre.length
theorem DoneP.nil (up : Nat) (start : Int) : DoneP up start [] start 1 := ⟨rfl, by simp⟩
theorem DoneP.up {up : Nat} {start place told : Int} {pre : List Int} {c : Nat} (h : DoneP up start pre place told) (e : (((⟨#[c]⟩ : Str) == ⟨#[up]⟩) == true) = true) : DoneP up start (pre ++ [(c : Int)]) (place + 1) told :=
  ⟨by unfold doneF; rw [List.foldl_append, ← doneF, ← h.is]; simp [doneStep, one_tt e], by have := h.near; simp only [List.length_append, List.length_singleton]; omega⟩
theorem DoneP.down {up : Nat} {start place told : Int} {pre : List Int} {c : Nat} (h : DoneP up start pre place told) (e : (((⟨#[c]⟩ : Str) == ⟨#[up]⟩) == true) = false) : DoneP up start (pre ++ [(c : Int)]) (place - 1) (told * place) :=
  ⟨by
    have e' := one_ff e
    have : ¬ ((c : Int) = (up : Int)) := by omega
    unfold doneF; rw [List.foldl_append, ← doneF, ← h.is]; simp [doneStep, this], by have := h.near; simp only [List.length_append, List.length_singleton]; omega⟩
theorem DoneP.bits {up : Nat} {start place told : Int} {pre post : List Int} {c : Int} {letters : Str} (h : DoneP up start pre place told) (e : KStt.codes letters = pre ++ c :: post) (h1 : letters.length ≤ 20) (h2 : 100 ≤ start) (h3 : start ≤ 20000) : IntMulOk told place := by
  refine IntMulOk.of_right (bits_small ?_)
  have hl := congrArg List.length e
  simp only [List.length_append, List.length_cons, KStt.codes_length] at hl
  have := h.near
  omega
local macro_rules | `(tactic| walk_at "binaryOp Mult int int") => `(tactic| (k_here; refine mul_int ?_ (DoneP.bits (by assumption) (by assumption) (by assumption) (by assumption) (by assumption))))
theorem done_ok (w : World) (letters : Str) (up : Nat) (start : Int) (t u v : Tok) (h1 : letters.length ≤ 20) (h2 : 100 ≤ start) (h3 : start ≤ 20000) : LC w 0 226 [.str letters t, .str ⟨#[up]⟩ u, .int start v] [] (fun h₀ L led r h' => ∃ l t1 t2 n, r = .ref l ∧ News h₀ L h' ((l, listOf #[.int (doneF up start (KStt.codes letters)).2 t1, .int (doneF up start (KStt.codes letters)).1 t2] n) :: led) ∧ AllLt l led) := by
  unfold LC
  w_strict (k_with_none; w_top off; k_fill; intro mean mg mb dp un gd cn cs a ccd cl outer A₀ base h₀ L m news s Q E B F X N T hcs hdp hun hpos hB1 hret; refine wpAny_call ?_; k_dflt cell_enter; (k_with "state" => first | exact DoneP.nil _ _ | exact DoneP.up (by assumption) (by assumption) | exact DoneP.down (by assumption) (by assumption)); (k_with "pyIter str" => k_state (fun pre place told => DoneP up start pre place told) "place" "told"); k_steps)
  rename (DoneP _ _ _ _ _) => hP
  have e1 := congrArg Prod.fst hP.is
  have e2 := congrArg Prod.snd hP.is
  dsimp only at e1 e2
  rw [← e1, ← e2] at hret
  rename (_ < _ ∧ AllLt _ _) => hl
  exact hret _ _ _ (by assumption) ⟨_, _, _, _, rfl, news_skip (by assumption), hl.2⟩
end

section
open PySem PySem.W PyProof.Rows PySem.Calls
set_option maxRecDepth 100000
set_option maxHeartbeats 0
set_option rowWalk.seconds 0
local macro_rules | `(tactic| walk_at "call builtin:hasattr") => `(tactic| (k_here; refine hasattr_str ?_; intro oHas))
local macro_rules | `(tactic| walk_at "execs cons") => `(tactic| (k_here; (refine' lo_cons ?hp ?_); (case hp => walk_at "past")))
local macro_rules | `(tactic| walk_at "LoTo") => `(tactic| (refine LoTo.intro ?_; intro hlo; (try dsimp only at hlo)))
local macro_rules | `(tactic| walk_at "exec For Name Name cons nil") => `(tactic| (k_here; refine wpAny_For ?_))
theorem past_ne {u t : Nat} (h : u + 1 ≤ t) : t ≠ u := by omega
theorem past_ne0 {u t : Nat} (h : u + 1 ≤ t) : t ≠ 0 := by omega
local macro_rules | `(tactic| walk_at "compareOp Is str str") => `(tactic| (k_here; refine is_strs ?hb ?h1 ?h2 ?h3 ?_; (case hb => exact booked (by k_in)); (case h1 => exact past_ne0 (by assumption)); (case h2 => assumption); (case h3 => exact past_ne (by assumption)); intro bIs hIs))
noncomputable def CountJ (c : Nat) (u : Tok) (pre : List Nat) (m : Str → Option Value) (ex : List (Addr × Obj)) : Prop := ex = [] ∧ (∃ n, m (Str.ofString "count") = some (.int (pre.count c : Nat) n)) ∧ m (Str.ofString "b") = some (.str ⟨#[c]⟩ u)
theorem str1 {c d : Nat} (h : (⟨#[d]⟩ : Str) = ⟨#[c]⟩) : d = c := by simpa using h
theorem str1_eq {c d : Nat} (h : ((⟨#[d]⟩ : Str) == ⟨#[c]⟩) = true) : d = c := str1 (by simpa using h)
theorem str1_ne {c d : Nat} (h : ((⟨#[d]⟩ : Str) == ⟨#[c]⟩) = false) : d ≠ c := fun e => by subst e; simp at h
theorem str1_is {b : Bool} {c d : Nat} (h : b = true → (⟨#[d]⟩ : Str) = ⟨#[c]⟩) (hb : b = true) : d = c := str1 (h hb)
theorem count_hit {c d : Nat} {pre : List Nat} {n : Tok} (h : d = c) : some (Value.int ((pre.count c : Nat) + 1) n) = some (.int ((pre ++ [d]).count c : Nat) n) := by
  subst h; simp
theorem count_miss {c d : Nat} {pre : List Nat} {n : Tok} (h : d ≠ c) : some (Value.int (pre.count c : Nat) n) = some (.int ((pre ++ [d]).count c : Nat) n) := by
  simp [List.count_singleton, h]
theorem count_ok (w : World) (x : Str) (c : Nat) (t u : Tok) (hu : u ≠ 0) : LC w (u + 1) 129 [.str x t, .str ⟨#[c]⟩ u] [] (fun h₀ L led v h' => ∃ t1, v = .int (x.cps.toList.count c : Nat) t1 ∧ News h₀ L h' led) := by
  unfold LC
  w_strict (k_with_none; w_top off; k_fill; intro mean mg mb dp un gd cn cs a ccd cl outer A₀ base h₀ L m news s Q E B F X N T hcs hdp hun hpos hB1 hret)
  w_strict (refine wpAny_call ?_; k_dflt cell_enter; k_steps)
  refine iter_str_pos (lo := u + 1) rfl rfl rfl (by assumption) (ex₀ := []) (by assumption) (by walk_at "past") (CountJ c u) ⟨rfl, ⟨_, rfl⟩, rfl⟩ ?_ ?_
  · rintro pre d post t₁ m₁ ex h₁ tk₁ own hd ht₁ (htk₁ : Past (u + 1) tk₁) hex ⟨rfl, ⟨n, hm1⟩, hm2⟩ F₁ N₁
    rw [List.nil_append] at N₁
    have F₂ := fr_two F₁ hm1 hm2
    clear F₁
    w_strict k_steps
    all_goals first
      | exact ⟨_, _, _, [], rfl, by assumption, by assumption, by simp, ⟨rfl, ⟨_, count_hit (str1_is (by assumption) (by assumption))⟩, rfl⟩⟩
      | exact ⟨_, _, _, [], rfl, by assumption, by assumption, by simp, ⟨rfl, ⟨_, count_hit (str1_eq (by assumption))⟩, rfl⟩⟩
      | exact ⟨_, _, _, [], rfl, by assumption, by assumption, by simp, ⟨rfl, ⟨_, count_miss (str1_ne (by assumption))⟩, rfl⟩⟩
  · rintro h₁ tk₁ m₁ ex (htk₁ : Past (u + 1) tk₁) ⟨rfl, ⟨n, hm1⟩, hm2⟩ F₁ N₁
    rw [List.nil_append] at N₁
    have e : m₁ = fun y => if y = Str.ofString "count" then some (.int (x.cps.toList.count c : Nat) n) else m₁ y := by
      funext y
      by_cases h : y = Str.ofString "count"
      · rw [if_pos h, h]; exact hm1
      · rw [if_neg h]
    rw [e] at F₁
    w_strict (dsimp only; k_steps)
    exact hret _ _ _ (by assumption) ⟨_, rfl, by assumption⟩
end

section
open PySem PySem.W PyProof.Rows PySem.Calls
set_option maxRecDepth 100000
set_option maxHeartbeats 0
set_option rowWalk.seconds 0
local macro_rules | `(tactic| walk_at "call builtin:hasattr") => `(tactic| (k_here; refine hasattr_str ?_; intro oHas))
theorem sign_mem {x : Str} {pre post : List Int} {c : Nat} (h : ∀ c ∈ x.cps.toList, c ∈ signs) (e : KStt.codes x = pre ++ (c : Int) :: post) : c ∈ signs := by
  refine h c ?_
  have : (c : Int) ∈ KStt.codes x := by rw [e]; simp
  unfold KStt.codes at this
  obtain ⟨d, hd, he⟩ := List.mem_map.mp this
  have : d = c := Int.ofNat.inj he
  exact this ▸ hd
structure PrepP (pre : List Int) (told : Str) : Prop where
  is : told = sOf (prepL (pre.map Int.toNat))
theorem folded_len {c : Nat} {x : Str} (h : foldedTo c = some x) : x.length ≤ 2 := by
  unfold foldedTo at h
  split at h
  · cases h; decide
  · split at h
    · cases h; decide
    · split at h
      · split at h <;> cases h <;> decide
      · cases h
theorem prepOne_len (c : Nat) : (prepOne c).length ≤ 2 := by
  unfold prepOne
  split
  · simp
  · split
    · rename_i x hx; exact folded_len hx
    · unfold lowOf; split
      · decide
      · split <;> simp
theorem prepL_len (l : List Nat) : (prepL l).length ≤ 2 * l.length := by
  induction l with
  | nil => simp [prepL]
  | cons c r ih =>
    have := prepOne_len c
    simp only [prepL, List.flatMap_cons, List.length_append, List.length_cons] at ih ⊢
    omega
theorem sOf_app (a b : List Nat) : sOf (a ++ b) = sOf a ++ sOf b := by
  refine PySem.Str.ext' (Array.toList_inj.mp ?_)
  rw [PySem.Str.cps_append, Array.toList_append]
  rfl
theorem sOf_list (x : Str) : sOf x.cps.toList = x := rfl
theorem PrepP.nil : PrepP [] (Str.ofString "") := ⟨by decide⟩
theorem PrepP.snoc {pre : List Int} {told y : Str} {c : Nat} (h : PrepP pre told) (e : sOf (prepOne c) = y) : PrepP (pre ++ [(c : Int)]) (told ++ y) :=
  ⟨by rw [List.map_append, List.map_singleton, Int.toNat_natCast, prepL_snoc, sOf_app, ← h.is, e]⟩
theorem one_in {c : Nat} (h : (codesB1.contains (c : Int) == false) = false) : prepOne c = [] := by
  unfold prepOne; rw [if_pos (by simpa using h)]
theorem not_in {c : Nat} (h : (codesB1.contains (c : Int) == false) = true) : ¬ codesB1.contains (c : Int) = true := by
  intro e; rw [e] at h; cases h
theorem PrepP.keep {pre : List Int} {told : Str} {c : Nat} (h : PrepP pre told) (e : (codesB1.contains (c : Int) == false) = false) : PrepP (pre ++ [(c : Int)]) told :=
  ⟨by rw [List.map_append, List.map_singleton, Int.toNat_natCast, prepL_snoc, one_in e, List.append_nil]; exact h.is⟩
theorem PrepP.low {pre : List Int} {told : Str} {c : Nat} (h : PrepP pre told) (e : (codesB1.contains (c : Int) == false) = true) (hf : foldedTo c = none) (hs : c ∈ signs) : PrepP (pre ++ [(c : Int)]) (told ++ Txt.lower ⟨#[c]⟩) :=
  h.snoc (by rw [low_sign hs hf]; unfold prepOne; rw [if_neg (not_in e), hf])
theorem PrepP.tab {pre : List Int} {told y : Str} {c : Nat} (h : PrepP pre told) (e : (codesB1.contains (c : Int) == false) = true) (hf : foldedTo c = some y) : PrepP (pre ++ [(c : Int)]) (told ++ y) :=
  h.snoc (by unfold prepOne; rw [if_neg (not_in e), hf]; rfl)
theorem PrepP.room {pre post : List Int} {told x : Str} {c : Int} (h : PrepP pre told) (e : KStt.codes x = pre ++ c :: post) (h1 : x.length ≤ 40) : told.length ≤ 80 := by
  have hl := congrArg List.length e
  simp only [List.length_append, List.length_cons, KStt.codes_length] at hl
  have := prepL_len (pre.map Int.toNat)
  rw [List.length_map] at this
  rw [h.is]
  show (prepL (pre.map Int.toNat)).toArray.size ≤ 80
  simp only [List.size_toArray]
  omega
theorem PrepP.room_low {pre post : List Int} {told x : Str} {c : Nat} (h : PrepP pre told) (e : KStt.codes x = pre ++ (c : Int) :: post) (h1 : x.length ≤ 40) (hf : foldedTo c = none) (hs : c ∈ signs) : told.length + (Txt.lower ⟨#[c]⟩).length ≤ sizeLine := by
  have := h.room e h1
  rw [low_sign hs hf, sizeLine_eq]
  have : (sOf (lowOf c)).length ≤ 1 := by
    unfold lowOf; split
    · decide
    · split <;> simp [sOf, Str.length]
  omega
theorem PrepP.room_tab {pre post : List Int} {told x y : Str} {c : Nat} (h : PrepP pre told) (e : KStt.codes x = pre ++ (c : Int) :: post) (h1 : x.length ≤ 40) (hf : foldedTo c = some y) : told.length + y.length ≤ sizeLine := by
  have := h.room e h1
  have := folded_len hf
  rw [sizeLine_eq]; omega
theorem prep_absurd {b : Bool} (h1 : (b == false) = false) (h2 : (b != true) = true) : False := by cases b <;> simp_all
local macro_rules | `(tactic| walk_at "call builtin:dict.get") => `(tactic| (k_here; (try dsimp only [List.cons_append, List.nil_append]); (with_reducible show wpAny _ _ (call (Value.builtin "dict.get") [Value.ref 148, _]) _ _ _); k_dflt (refine' get_b3s ?F ?X ?hs ?g1 ?g2; (case F | X => k_asm); (case hs => exact sign_mem (by assumption) (by assumption))); (case' g1 => intro xG tG hG); (case' g2 => intro hG)))
local macro_rules | `(tactic| walk_at "binaryOp Add str str") => `(tactic| (k_here; (first | refine add_str ?_ (PrepP.room_low (by assumption) (by assumption) (by assumption) (by assumption) (sign_mem (by assumption) (by assumption))) | refine add_str ?_ (PrepP.room_tab (by assumption) (by assumption) (by assumption) (by assumption))); intro tAdd kAdd))
theorem prep_ok (w : World) (x : Str) (t : Tok) (h1 : x.length ≤ 40) (h2 : ∀ c ∈ x.cps.toList, c ∈ signs) : LC w 0 212 [.str x t] [] (fun h₀ L led v h' => ∃ t1, v = .str (sOf (prepL x.cps.toList)) t1 ∧ News h₀ L h' led) := by
  unfold LC
  w_strict (k_with_none; w_top off; k_fill; intro mean mg mb dp un gd cn cs a ccd cl outer A₀ base h₀ L m news s Q E B F X N T hcs hdp hun hpos hB1 hret)
  w_strict (refine wpAny_call ?_; k_dflt cell_enter)
  rename_i g1 L1 h1' FG1 F1 N1 BB1 X1 T1
  have hB := hB1.keep FG1.keep
  w_strict ((k_with "state" => first | exact PrepP.nil | exact PrepP.keep (by assumption) (by assumption) | exact PrepP.low (by assumption) (by assumption) (by assumption) (sign_mem (by assumption) (by assumption)) | exact PrepP.tab (by assumption) (by assumption) (by assumption)); (k_with "pyIter str" => k_state (fun pre told => PrepP pre told) "told"); k_steps)
  all_goals first
    | exact (prep_absurd (by assumption) (by assumption)).elim
    | skip
  · rename (PrepP _ _) => hP
    have e := hP.is
    have : (KStt.codes x).map Int.toNat = x.cps.toList := by
      unfold KStt.codes; rw [List.map_map]; exact (List.map_congr_left (g := _root_.id) fun c _ => Int.toNat_natCast c).trans (List.map_id _)
    rw [this] at e
    subst e
    exact hret _ _ _ (by assumption) ⟨_, rfl, by assumption⟩
end

section
open PySem PySem.W PyProof.Rows PySem.Calls
set_option maxRecDepth 100000
set_option maxHeartbeats 0
set_option rowWalk.seconds 0
local macro_rules | `(tactic| walk_at "exec For Name Name cons nil") => `(tactic| (k_here; refine wpAny_For ?_))
theorem news_mid {h₀ h : Heap} {L : Addr} {a b o c : Addr × Obj} {r : List (Addr × Obj)} (N : News h₀ L h (a :: b :: o :: c :: r)) : News h₀ L h (o :: ([a] ++ r)) := news_pick N fun p hp => by
  rcases List.mem_cons.mp hp with rfl | hp
  · exact .tail _ (.tail _ (.head _))
  rcases List.mem_cons.mp hp with rfl | hp
  · exact .head _
  · exact .tail _ (.tail _ (.tail _ (.tail _ hp)))
noncomputable def waysAdd (ws : List Int) (seen : Int) (l : List Int) (k : Int) : List Int := l.set (k.toNat + 1) (l.getD (k.toNat + 1) 0 + ws.getD k.toNat 0 * (seen - k))
noncomputable def waysNext (ws : List Int) (seen : Int) : List Int := (rangeKs 0 ws.length).foldl (waysAdd ws seen) (ws ++ [0])
noncomputable def waysStep (st : List Int × Int) (c : Nat) : List Int × Int := if c = 116 then (st.1, st.2 + 1) else (waysNext st.1 st.2, st.2)
noncomputable def waysF (cs : List Nat) : List Int × Int := cs.foldl waysStep ([1], 0)
inductive WaysJ (news : List (Addr × Obj)) (pre : List Nat) (m : Str → Option Value) (ex : List (Addr × Obj)) : Prop
  | mk (l vs n ws seen tk) : (ex = [(l, listOf (List.toArray vs) n)]) → (IntsAre vs ws) → (m (Str.ofString "ways") = some (.ref l)) → (m (Str.ofString "seen") = some (.int seen tk)) → ((ws, seen) = waysF pre) → (ws.length ≤ pre.length + 1) → (0 ≤ seen) → (seen ≤ pre.length) → (AllLt l news) → WaysJ news pre m ex
theorem upd_w {o o' ol oO ov : Obj} {D l oI v : Addr} {news own : List (Addr × Obj)} {adr : List Addr} (hl : l < D ∧ oI < D ∧ AllLt D ([(v, ov)] ++ news)) (hO : OwnOff own (D :: adr)) :
    Upd D o o' ((D, o) :: (l, ol) :: (oI, oO) :: (v, ov) :: (news ++ own)) ((D, o') :: (l, ol) :: (oI, oO) :: (v, ov) :: (news ++ own)) := by
  refine Upd.head fun p hp => ?_
  rcases List.mem_cons.mp hp with rfl | hp
  · exact Nat.ne_of_lt hl.1
  rcases List.mem_cons.mp hp with rfl | hp
  · exact Nat.ne_of_lt hl.2.1
  rcases List.mem_cons.mp hp with rfl | hp
  · exact allLt_ne hl.2.2 _ (.head _)
  rcases List.mem_append.mp hp with hp | hp
  · exact allLt_ne hl.2.2 _ (.tail _ hp)
  · exact hO p hp _ (.head _)
theorem idx_len {a b p : List Int} {k : Int} (h1 : k = 0 + (p.length : Int)) (h3 : p.length < ((a.length : Int) - 0).toNat) (h2 : b.length = a.length + 1) : k + 1 < b.length := by omega
local macro_rules | `(tactic| walk_at "setItem ref int") => `(tactic| (k_here; (with_reducible show wpAny _ _ (setItem (Value.ref _) (Value.int _ _) (Value.int _ _)) _ _ _); k_dflt (refine' ksa_set ?k1 ?k2 ?k3 ?k4 ?k5 ?k6 ?k7 ?_; (case k1 | k2 => k_asm); (case k3 => (with_reducible refine' upd_w ?u1 ?u2; (case u1 | u2 => with_reducible assumption))); (case k4 => with_reducible assumption); (case k5 => omega); (case k6 => (with_reducible refine' idx_len ?u1 ?u2 ?u3; (case u1 | u2 | u3 => with_reducible assumption))); (case k7 => omega); k_whole); intro h' F' N' hi' hl' hs'; (try k_sweep)))
theorem ways_base (ws : List Int) (seen : Int) : ws ++ [0] = List.foldl (waysAdd ws seen) (ws ++ [0]) [] ∧ (ws ++ [0]).length = ws.length + 1 := ⟨rfl, by simp⟩
theorem ways_turn {ws l : List Int} {seen k : Int} {pre : List Int} (h0 : k = 0 + (pre.length : Int)) (h : l = pre.foldl (waysAdd ws seen) (ws ++ [0])) (hl : l.length = ws.length + 1) :
    l.set (k + 1).toNat (l.getD (k + 1).toNat 0 + ws.getD k.toNat 0 * (seen - k)) = (pre ++ [k]).foldl (waysAdd ws seen) (ws ++ [0]) ∧ (l.set (k + 1).toNat (l.getD (k + 1).toNat 0 + ws.getD k.toNat 0 * (seen - k))).length = ws.length + 1 := by
  have e : (k + 1).toNat = k.toNat + 1 := by omega
  refine ⟨?_, by rw [List.length_set, hl]⟩
  rw [List.foldl_append, ← h, e]; rfl
theorem one_t {d : Nat} (h : ((⟨#[d]⟩ : Str) == Str.ofString "t") = true) : d = 116 := by
  have e : (⟨#[d]⟩ : Str) = Str.ofString "t" := by simpa using h
  have := congrArg (fun (z : Str) => z.cps) e
  simpa [show (Str.ofString "t").cps = #[116] by rfl] using this
theorem one_s {d : Nat} (h : ((⟨#[d]⟩ : Str) == Str.ofString "t") = false) : ¬ d = 116 := by
  rintro rfl
  revert h; decide
theorem waysF_t {ws : List Int} {seen : Int} {pre : List Nat} {d : Nat} (hw : (ws, seen) = waysF pre) (h : ((⟨#[d]⟩ : Str) == Str.ofString "t") = true) : (ws, seen + 1) = waysF (pre ++ [d]) := by
  unfold waysF; rw [List.foldl_append, ← waysF, ← hw]; simp [waysStep, one_t h]
theorem waysF_s {ws ls : List Int} {seen : Int} {pre : List Nat} {d : Nat} (hw : (ws, seen) = waysF pre) (h : ((⟨#[d]⟩ : Str) == Str.ofString "t") = false) (e : ls = (rangeKs 0 ((ws.length : Int) - 0).toNat).foldl (waysAdd ws seen) (ws ++ [0])) : (ls, seen) = waysF (pre ++ [d]) := by
  unfold waysF; rw [List.foldl_append, ← waysF, ← hw]; simp [waysStep, one_s h, waysNext, e]
theorem ways_ok (w : World) (x : Str) (t : Tok) (h1 : x.length ≤ 20) : LC w 0 233 [.str x t] [] (fun h₀ L led v h' => ∃ l vs n, v = .ref l ∧ IntsAre vs (waysF x.cps.toList).1 ∧ (waysF x.cps.toList).1.length ≤ x.length + 1 ∧ News h₀ L h' ((l, listOf vs.toArray n) :: led) ∧ AllLt l led) := by
  unfold LC
  w_strict (k_with_none; w_top off; k_fill; intro mean mg mb dp un gd cn cs a ccd cl outer A₀ base h₀ L m news s Q E B F X N T hcs hdp hun hpos hB1 hret; refine wpAny_call ?_; k_dflt cell_enter; k_steps)
  refine iter_str_pos (lo := 0) rfl rfl rfl (by assumption) (ex₀ := [(_, _)]) (news_tail (by assumption)) (Nat.zero_le _) (WaysJ ([] ++ news)) ⟨_, _, _, _, _, _, rfl, IntsAre.cons _ _ IntsAre.nil, rfl, rfl, rfl, by simp, by simp, by simp, allLt_of (by assumption)⟩ ?_ ?_
  · rintro pre d post t₁ m₁ ex h₁ tk₁ own hd ht₁ htk₁ hex hJ F₁ N₁
    refine Classical.byContradiction fun hG => ?_
    obtain ⟨oI, oO⟩ := own
    obtain ⟨l, vs, n, ws, seen, tk, rfl, hI, hm1, hm2, hw, hl, hs0, hs1, hAl⟩ := hJ
    refine hG ?_
    clear hG
    have hpre : pre.length ≤ 20 := pre_len hd h1
    have hl' : ws.length ≤ 21 := by omega
    have hs1' : seen ≤ 20 := by omega
    have F₂ := fr_two F₁ hm1 hm2
    clear F₁
    w_strict ((k_with "state" => first | exact ways_base _ _ | exact ways_turn (by assumption) (by assumption) (by assumption)); (k_with "pyIter ref" => k_state (fun pre longer => longer = pre.foldl (waysAdd ws seen) (ws ++ [0]) ∧ longer.length = ws.length + 1) "longer"); k_steps)
    · exact ⟨_, _, _, [(l, _)], rfl, by assumption, by assumption, hex, ⟨l, vs, n, ws, seen + 1, _, rfl, hI, rfl, rfl, waysF_t hw (by assumption), by simp; omega, by omega, by simp; omega, hAl⟩⟩
    · rename_i D _ _ _ _ _ l1 _ _ _ _ _ _ _ _ fs zs sn hz1 hz2 _ _ _ _ N'
      exact ⟨_, _, _, [(D, listOf fs.toArray sn)], rfl, by assumption, news_mid N', (by intro p hp; cases List.mem_singleton.mp hp; exact Nat.ne_of_gt l1.2.1), ⟨D, fs, sn, zs, seen, _, rfl, by assumption, rfl, rfl, waysF_s hw (by assumption) hz1, by simp; omega, by omega, by simp; omega, l1.2.2.2⟩⟩
  · rintro h₁ tk₁ m₁ ex htk₁ hJ F₁ N₁
    refine Classical.byContradiction fun hG => ?_
    obtain ⟨l, vs, n, ws, seen, tk, rfl, hI, hm1, hm2, hw, hl, hs0, hs1, hAl⟩ := hJ
    refine hG ?_
    clear hG
    have e : m₁ = fun y => if y = Str.ofString "ways" then some (.ref l) else m₁ y := by
      funext y
      by_cases h : y = Str.ofString "ways"
      · rw [if_pos h, h]; exact hm1
      · rw [if_neg h]
    rw [e] at F₁
    have e2 := congrArg Prod.fst hw
    dsimp only at e2
    w_strict (dsimp only; k_steps)
    exact hret _ _ _ (by assumption) ⟨l, vs, n, rfl, e2 ▸ hI, e2 ▸ hl, by assumption, hAl⟩
end

section
open PySem PySem.W PyProof.Rows PySem.Calls
set_option maxRecDepth 100000
set_option maxHeartbeats 0
set_option rowWalk.seconds 0
noncomputable def fallN (start a : Int) (m : Nat) : Int := (List.range m).foldl (fun p (s : Nat) => p * (start - s)) a
theorem fallN_succ (start a : Int) (m : Nat) : fallN start a (m + 1) = fallN start a m * (start - m) := by
  unfold fallN; rw [List.range_succ, List.foldl_append]; rfl
noncomputable def sumF (us : List Int) (n start : Int) (i : Nat) : Int := (List.range i).foldl (fun t (j : Nat) => t + fallN start (us.getD j 0) (n - j).toNat) 0
theorem sumF_succ (us : List Int) (n start : Int) (i : Nat) : sumF us n start (i + 1) = sumF us n start i + fallN start (us.getD i 0) (n - i).toNat := by
  unfold sumF; rw [List.range_succ, List.foldl_append]; rfl
noncomputable def SumJ (l : Addr) (us : List Int) (n start : Int) (t u : Tok) (i : Nat) (m : Str → Option Value) (ex : List (Addr × Obj)) : Prop :=
  ex = [] ∧ (∃ tk, m (Str.ofString "told") = some (.int (sumF us n start i) tk)) ∧ m (Str.ofString "ways") = some (.ref l) ∧ m (Str.ofString "number") = some (.int n t) ∧ m (Str.ofString "start") = some (.int start u)
noncomputable def PartJ (l : Addr) (us : List Int) (n start : Int) (t u : Tok) (k : Nat) (i : Nat) (m : Str → Option Value) (ex : List (Addr × Obj)) : Prop :=
  SumJ l us n start t u k m ex ∧ (∃ tk, m (Str.ofString "k") = some (.int (k : Nat) tk)) ∧ ∃ tk, m (Str.ofString "part") = some (.int (fallN start (us.getD k 0) i) tk)
theorem summed_ok (w : World) (l : Addr) (us : List Int) (uvs : List Value) (k : Nat) (hus : IntsAre uvs us) (n start : Int) (t u : Tok) (h0 : us.length ≤ 20) (h00 : 1 ≤ us.length) (h1 : 0 ≤ n) (h2 : n ≤ 20) (h3 : 100 ≤ start) (h4 : start ≤ 20000) :
    LC w 0 240 [.ref l, .int n t, .int start u] [(l, listOf uvs.toArray k)] (fun h₀ L led v h' => ∃ t1, v = .int (sumF us n start (if (us.length : Int) < n + 1 then (us.length : Int) else n + 1).toNat) t1 ∧ News h₀ L h' led) := by
  unfold LC
  w_strict (k_with_none; w_top off; k_fill; intro mean mg mb dp un gd cn cs a ccd cl outer A₀ base h₀ L m news s Q E B F X N T hcs hdp hun hpos hB1 hret; refine wpAny_call ?_; k_dflt cell_enter)
  refine cons_halt ?_
  w_strict k_steps
  refine Halt.mk (cons_halt (For_halt ?_))
  w_strict k_steps
  rename IsRange _ _ _ _ _ _ _ _ => hr
  refine Halt.mk (iter_to (lo := 0) (ex₀ := []) rfl rfl rfl hr (by omega) (by omega) (by assumption) (by assumption) (Nat.zero_le _) (SumJ l us n start t u) ⟨rfl, ⟨_, rfl⟩, rfl, rfl, rfl⟩ ?_ ?_)
  · rintro i ti m₁ ex h₁ tk₁ own hi _ hex hJ F₁ N₁
    refine Classical.byContradiction fun hG => ?_
    obtain ⟨rfl, ⟨tt, hm1⟩, hm2, hm3, hm4⟩ := hJ
    refine hG ?_
    clear hG
    rw [put_eq hm1, put_eq hm2, put_eq hm3, put_eq hm4] at F₁
    have hi' : (i : Int) < us.length ∧ (i : Int) ≤ n := by omega
    refine cons_halt ?_
    w_strict k_steps
    refine Halt.mk (cons_halt (For_halt ?_))
    w_strict k_steps
    rename IsRange _ _ _ _ _ _ _ _ => hr'
    refine Halt.mk (iter_to (lo := 0) (ex₀ := []) rfl rfl rfl hr' (by omega) (by omega) (by assumption) (by assumption) (Nat.zero_le _) (PartJ l us n start t u i) ⟨⟨rfl, ⟨_, rfl⟩, rfl, rfl, rfl⟩, ⟨_, rfl⟩, ⟨_, rfl⟩⟩ ?_ ?_)
    · rintro j tj m₂ ex h₂ tk₂ own₂ hj _ hex₂ hJ F₂ N₂
      refine Classical.byContradiction fun hG => ?_
      obtain ⟨⟨rfl, ⟨tt, hm1⟩, hm2, hm3, hm4⟩, ⟨t5, hm5⟩, ⟨t6, hm6⟩⟩ := hJ
      refine hG ?_
      clear hG
      rw [put_eq hm1, put_eq hm2, put_eq hm3, put_eq hm4, put_eq hm5, put_eq hm6] at F₂
      w_strict k_steps
      exact ⟨_, _, _, [], rfl, by assumption, by assumption, by simp, ⟨⟨rfl, ⟨_, rfl⟩, rfl, rfl, rfl⟩, ⟨_, rfl⟩, ⟨_, by rw [fallN_succ]; rfl⟩⟩⟩
    · rintro h₂ tk₂ m₂ ex _ hJ F₂ N₂
      refine Classical.byContradiction fun hG => ?_
      obtain ⟨⟨rfl, ⟨tt, hm1⟩, hm2, hm3, hm4⟩, ⟨t5, hm5⟩, ⟨t6, hm6⟩⟩ := hJ
      refine hG ?_
      clear hG
      rw [put_eq hm1, put_eq hm2, put_eq hm3, put_eq hm4, put_eq hm5, put_eq hm6] at F₂
      refine Halt.mk ?_
      w_strict (dsimp only; k_steps)
      exact ⟨_, _, _, [], rfl, by assumption, by assumption, by simp, ⟨rfl, ⟨_, by rw [sumF_succ]; rfl⟩, rfl, rfl, rfl⟩⟩
  · rintro h₁ tk₁ m₁ ex _ hJ F₁ N₁
    refine Classical.byContradiction fun hG => ?_
    obtain ⟨rfl, ⟨tt, hm1⟩, hm2, hm3, hm4⟩ := hJ
    refine hG ?_
    clear hG
    rw [put_eq hm1] at F₁
    refine Halt.mk ?_
    w_strict (dsimp only; k_steps)
    exact hret _ _ _ (by assumption) ⟨_, rfl, by assumption⟩
end

section
open PySem PySem.W PyProof.Rows PySem.Calls
set_option maxRecDepth 100000
set_option maxHeartbeats 0
set_option rowWalk.seconds 0
theorem pow_small {prog : Program} {w : World} {A : Around} {E : Value → Shared → Prop} {s : Shared} {a b : Int} {t u : Tok} {Q : Value → Shared → Prop} (hb : 0 ≤ b) (hb1 : b ≤ 100) (ha : 2 ≤ a) (ha2 : a < 2 ^ 64)
    (h : ∀ tk, Q (.int (a ^ b.toNat) tk) { s with toks := s.toks + 1 }) : wpAny (model prog w) A (binaryOp .Pow (.int a t) (.int b u)) Q E s := by
  by_cases h0 : b = 0
  · subst h0
    exact PySem.AutoIntOps.pow_0 (by omega) (by rfl) (show Q _ _ from by have := h s.toks; simpa using this)
  · refine PySem.AutoIntOps.pow_4 hb (by simpa using h0) (by simp; omega) (by simp; omega) ?_ (h _)
    have : Builtin.Int.intBits a ≤ 64 := intBits_le_iff.mpr (by omega)
    unfold Builtin.Int.intTooBig
    have h2 : ((Builtin.Int.intBits a : Nat) : Int) * b ≤ 64 * 100 := Int.mul_le_mul (by omega) (by omega) (by omega) (by omega)
    simp only [bitsLine, gt_iff_lt, decide_eq_true_eq]
    omega
noncomputable def prodF (us : List Int) (start : Int) (i : Nat) : Int := (List.range i).foldl (fun t (j : Nat) => t * (start + j) ^ (us.getD j 0).toNat) 1
theorem prodF_succ (us : List Int) (start : Int) (i : Nat) : prodF us start (i + 1) = prodF us start i * (start + i) ^ (us.getD i 0).toNat := by
  unfold prodF; rw [List.range_succ, List.foldl_append]; rfl
theorem ints_at : ∀ {vs : List Value} {us : List Int}, IntsAre vs us → ∀ {i : Nat} {v : Value}, vs[i]? = some v → ∃ t, v = .int (us.getD i 0) t ∧ us.getD i 0 ∈ us
  | _, _, .nil, _, _, h => by simp at h
  | _, _, .cons n t r, 0, v, h => ⟨t, by simpa using h.symm, by simp⟩
  | _, _, .cons n t r, i + 1, v, h => by
    obtain ⟨t', e, hm⟩ := ints_at r (i := i) (v := v) (by simpa using h)
    refine ⟨t', by simpa using e, ?_⟩
    simp only [List.getD_cons_succ]
    exact .tail _ hm
theorem pow_bound {a : Int} {x : Nat} (h0 : 0 ≤ a) (h1 : a ≤ 32768) (hx : x ≤ 100) : (a ^ x).natAbs ≤ 2 ^ 1500 := by
  rw [Int.natAbs_pow]
  refine Nat.le_trans (Nat.pow_le_pow_left (show a.natAbs ≤ 2 ^ 15 by omega) x) ?_
  rw [← Nat.pow_mul]
  exact Nat.pow_le_pow_right (by decide) (by omega)
theorem prod_bound {us : List Int} {start : Int} (h1 : ∀ x ∈ us, 0 ≤ x ∧ x ≤ 100) (h3 : 2 ≤ start) (h4 : start ≤ 20000) : ∀ i : Nat, i ≤ us.length → us.length ≤ 20 → (prodF us start i).natAbs ≤ 2 ^ (1500 * i)
  | 0, _, _ => by simp [prodF]
  | i + 1, hi, hl => by
    have ih := prod_bound h1 h3 h4 i (by omega) hl
    rw [prodF_succ, Int.natAbs_mul, show 1500 * (i + 1) = 1500 * i + 1500 by omega, Nat.pow_add]
    have hm : us.getD i 0 ∈ us := by
      rw [List.getD_eq_getElem?_getD, List.getElem?_eq_getElem (by omega : i < us.length)]
      exact List.getElem_mem _
    have hx := h1 _ hm
    exact Nat.mul_le_mul ih (pow_bound (by omega) (by omega) (by omega))
theorem prod_fits {us : List Int} {start : Int} (h1 : ∀ x ∈ us, 0 ≤ x ∧ x ≤ 100) (h3 : 2 ≤ start) (h4 : start ≤ 20000) {i : Nat} (hi : i < us.length) (hl : us.length ≤ 20) {x : Int} (hx : 0 ≤ x ∧ x ≤ 100) : IntMulOk (prodF us start i) ((start + i) ^ x.toNat) := by
  have b1 := prod_bound h1 h3 h4 i (by omega) hl
  have b2 := pow_bound (a := start + i) (x := x.toNat) (by omega) (by omega) (by omega)
  refine IntMulOk.of_bits (intBits_le_iff.mpr (Nat.lt_of_le_of_lt b1 (Nat.pow_lt_pow_right (by decide) (by omega)))) (intBits_le_iff.mpr (Nat.lt_of_le_of_lt b2 (Nat.pow_lt_pow_right (by decide) (by decide))))
local macro_rules | `(tactic| walk_at "binaryOp Pow int int") => `(tactic| (k_here; refine pow_small (by omega) (by omega) (by omega) (by omega) (fun tk => ?_)))
local macro_rules | `(tactic| walk_at "binaryOp Mult int int") => `(tactic| (k_here; refine mul_int ?_ (prod_fits (by assumption) (by assumption) (by assumption) (by assumption) (by assumption) (by assumption))))
noncomputable def ProdJ (us : List Int) (start : Int) (u : Tok) (i : Nat) (m : Str → Option Value) (ex : List (Addr × Obj)) : Prop :=
  ex = [] ∧ (∃ tk, m (Str.ofString "told") = some (.int (prodF us start i) tk)) ∧ m (Str.ofString "start") = some (.int start u)
theorem product_ok (w : World) (l : Addr) (us : List Int) (uvs : List Value) (k : Nat) (hus : IntsAre uvs us) (start : Int) (u : Tok) (h0 : us.length ≤ 20) (h1 : ∀ x ∈ us, 0 ≤ x ∧ x ≤ 100) (h3 : 2 ≤ start) (h4 : start ≤ 20000) :
    LC w 0 247 [.ref l, .int start u] [(l, ({ cls := .type "tuple", data := .seq uvs.toArray k } : Obj))] (fun h₀ L led v h' => ∃ t1, v = .int (prodF us start us.length) t1 ∧ News h₀ L h' led) := by
  unfold LC
  w_strict (k_with_none; w_top off; k_fill; intro mean mg mb dp un gd cn cs a ccd cl outer A₀ base h₀ L m news s Q E B F X N T hcs hdp hun hpos hB1 hret; refine wpAny_call ?_; k_dflt cell_enter)
  refine cons_halt ?_
  w_strict k_steps
  refine Halt.mk (cons_halt (For_halt ?_))
  w_strict k_steps
  refine enum_tuple_pos (lo := 0) (ex₀ := []) rfl rfl rfl rfl (List.mem_append_left _ (.head _)) (by assumption) (by assumption) (Nat.zero_le _) (ProdJ us start u) ⟨rfl, ⟨_, rfl⟩, rfl⟩ ?_ ?_
  · rintro i v ti m₁ ex h₁ tk₁ own hi hv _ hex hJ F₁ N₁
    refine Classical.byContradiction fun hG => ?_
    obtain ⟨rfl, ⟨tt, hm1⟩, hm2⟩ := hJ
    refine hG ?_
    clear hG
    obtain ⟨tx, rfl, hm⟩ := ints_at hus (i := i) (v := v) (by simpa using hv)
    have hx := h1 _ hm
    have hi' : i < us.length := by rw [← hus.length]; simpa using hi
    rw [put_eq hm1, put_eq hm2] at F₁
    w_strict k_steps
    exact ⟨_, _, _, [], rfl, by assumption, by assumption, by simp, ⟨rfl, ⟨_, by rw [prodF_succ]; rfl⟩, rfl⟩⟩
  · rintro h₁ tk₁ m₁ ex _ ⟨rfl, ⟨tt, hm1⟩, hm2⟩ F₁ N₁
    rw [put_eq hm1] at F₁
    refine Halt.mk ?_
    w_strict (dsimp only; k_steps)
    exact hret _ _ _ (by assumption) ⟨_, by rw [List.size_toArray, hus.length], by assumption⟩
end

section
open PySem PySem.W PyProof.Rows PySem.Calls
set_option maxRecDepth 100000
set_option maxHeartbeats 0
set_option rowWalk.seconds 0
local macro_rules | `(tactic| walk_at "execs cons") => `(tactic| (k_here; (try k_gentoks); (with_reducible refine wpAny_execs_cons ?_); (try dsimp only); (try k_fold)))
noncomputable def incr (cs : List Int) (b : Nat) : List Int := (if cs.length ≤ b then cs ++ List.replicate (b - cs.length + 1) 0 else cs).set b ((if cs.length ≤ b then cs ++ List.replicate (b - cs.length + 1) 0 else cs).getD b 0 + 1)
noncomputable def normStep (a : List Int × Nat) (c : Nat) : List Int × Nat := if c = 32 then (a.1, a.2 + 1) else (incr a.1 a.2, 0)
/-- counts and the blanks behind -/
noncomputable def normF (cs : List Nat) : List Int × Nat := cs.foldl normStep ([], 0)
inductive InitJ (self : Addr) (news : List (Addr × Obj)) (pre : List Nat) (m : Str → Option Value) (ex : List (Addr × Obj)) : Prop
  | mk (l vs k cs b n nt tb tn tt) : (ex = [(l, listOf (List.toArray vs) k)]) → (IntsAre vs cs) → (m (Str.ofString "count") = some (.ref l)) → (m (Str.ofString "b") = some (.int (b : Nat) tb)) → (m (Str.ofString "n") = some (.int (n : Nat) tn)) → (m (Str.ofString "nt") = some (.int (nt : Nat) tt)) → (m (Str.ofString "self") = some (.ref self)) → (m (Str.ofString "S") = some (.str (Str.ofString " ") 209)) → (m (Str.ofString "T") = some (.str (Str.ofString "\t") 210)) → ((cs, b) = normF pre) → ((∀ c ∈ pre, c = 32 ∨ c = 9)) → (b ≤ pre.length) → (n ≤ pre.length) → (nt ≤ pre.length) → (cs.length ≤ pre.length) → (AllLt l news) → InitJ self news pre m ex
theorem InitJ.elim {self : Addr} {news : List (Addr × Obj)} {pre : List Nat} {m : Str → Option Value} {ex : List (Addr × Obj)} {C : Prop} (h : InitJ self news pre m ex) (z : ∀ l vs k cs b n nt tb tn tt, (ex = [(l, listOf (List.toArray vs) k)]) → (IntsAre vs cs) → (m (Str.ofString "count") = some (.ref l)) → (m (Str.ofString "b") = some (.int (b : Nat) tb)) → (m (Str.ofString "n") = some (.int (n : Nat) tn)) → (m (Str.ofString "nt") = some (.int (nt : Nat) tt)) → (m (Str.ofString "self") = some (.ref self)) → (m (Str.ofString "S") = some (.str (Str.ofString " ") 209)) → (m (Str.ofString "T") = some (.str (Str.ofString "\t") 210)) → ((cs, b) = normF pre) → ((∀ c ∈ pre, c = 32 ∨ c = 9)) → (b ≤ pre.length) → (n ≤ pre.length) → (nt ≤ pre.length) → (cs.length ≤ pre.length) → (AllLt l news) → C) : C := by
  obtain ⟨l, vs, k, cs, b, n, nt, tb, tn, tt, h0, h1, h2, h3, h4, h5, h6, h7, h8, h9, h10, h11, h12, h13, h14, h15⟩ := h
  exact z l vs k cs b n nt tb tn tt h0 h1 h2 h3 h4 h5 h6 h7 h8 h9 h10 h11 h12 h13 h14 h15
theorem InitJ.of {self : Addr} {news : List (Addr × Obj)} {pre : List Nat} {m : Str → Option Value} {l vs k cs b n nt tb tn tt} (h1 : IntsAre vs cs) (h2 : m (Str.ofString "count") = some (.ref l)) (h3 : m (Str.ofString "b") = some (.int (b : Nat) tb)) (h4 : m (Str.ofString "n") = some (.int (n : Nat) tn)) (h5 : m (Str.ofString "nt") = some (.int (nt : Nat) tt)) (h6 : m (Str.ofString "self") = some (.ref self)) (h7 : m (Str.ofString "S") = some (.str (Str.ofString " ") 209)) (h8 : m (Str.ofString "T") = some (.str (Str.ofString "\t") 210)) (h9 : (cs, b) = normF pre) (h10 : (∀ c ∈ pre, c = 32 ∨ c = 9)) (h11 : b ≤ pre.length) (h12 : n ≤ pre.length) (h13 : nt ≤ pre.length) (h14 : cs.length ≤ pre.length) (h15 : AllLt l news) : InitJ self news pre m [(l, listOf (List.toArray vs) k)] := ⟨l, vs, k, cs, b, n, nt, tb, tn, tt, rfl, h1, h2, h3, h4, h5, h6, h7, h8, h9, h10, h11, h12, h13, h14, h15⟩
theorem upd_own {o o' oO : Obj} {l oI : Addr} {news : List (Addr × Obj)} (hne : l ≠ oI) (hl : AllLt l news) : Upd l o o' ((oI, oO) :: (l, o) :: news) ((oI, oO) :: (l, o') :: news) :=
  Upd.tail (Ne.symm hne) (Upd.head fun p hp => allLt_ne hl p hp)
local macro_rules | `(tactic| walk_at "setItem ref int") => `(tactic| (k_here; (with_reducible show wpAny _ _ (setItem (Value.ref _) (Value.int _ _) (Value.int _ _)) _ _ _); k_dflt (refine' ksa_set ?k1 ?k2 ?k3 ?k4 ?k5 ?k6 ?k7 ?_; (case k1 | k2 => k_asm); (case k3 => (with_reducible refine' upd_own ?u1 ?u2; (case u1 | u2 => with_reducible assumption))); (case k4 => with_reducible assumption); (case k5 | k6 | k7 => omega); k_whole); intro h' F' N' hi' hl' hs'; (try k_sweep)))
theorem news_grow {h₀ h : Heap} {L : Addr} {a b c o e : Addr × Obj} {r : List (Addr × Obj)} (N : News h₀ L h (a :: b :: c :: o :: e :: r)) : News h₀ L h (o :: ([a] ++ r)) := fun p hp => by
  rcases List.mem_cons.mp hp with rfl | hp
  · exact N _ (.tail _ (.tail _ (.tail _ (.head _))))
  rcases List.mem_cons.mp hp with rfl | hp
  · exact N _ (.head _)
  · exact N _ (.tail _ (.tail _ (.tail _ (.tail _ (.tail _ hp)))))
theorem normF_snoc (pre : List Nat) (d : Nat) : normF (pre ++ [d]) = normStep (normF pre) d := by unfold normF; rw [List.foldl_append]; rfl
theorem flat_rep (k : Nat) : (List.replicate k [(0 : Int)]).flatten = List.replicate k 0 := by
  induction k with
  | zero => rfl
  | succ k ih => rw [List.replicate_succ, List.flatten_cons, ih]; rfl
theorem one_is {d e : Nat} (z : Str) (hz : z = ⟨#[e]⟩) (h : ((⟨#[d]⟩ : Str) == z) = true) : d = e := by
  subst hz
  by_cases q : d = e
  · exact q
  · simp [q] at h
theorem one_not {d e : Nat} (z : Str) (hz : z = ⟨#[e]⟩) (h : ((⟨#[d]⟩ : Str) == z) = false) : d ≠ e := by
  subst hz; rintro rfl; simp at h
theorem blank_snoc {pre : List Nat} {d : Nat} (h : ∀ c ∈ pre, c = 32 ∨ c = 9) (hd : d = 32 ∨ d = 9) : ∀ c ∈ pre ++ [d], c = 32 ∨ c = 9 := fun c hc => by
  rcases List.mem_append.mp hc with hc | hc
  · exact h c hc
  · rw [List.mem_singleton.mp hc]; exact hd
theorem norm_sp {ks : List Int} {b : Nat} {pre : List Nat} {d : Nat} (hw : (ks, b) = normF pre) (h : d = 32) : (ks, b + 1) = normF (pre ++ [d]) := by
  rw [normF_snoc, ← hw]; simp [normStep, h]
theorem norm_tab {ks ls : List Int} {b : Nat} {pre : List Nat} {d : Nat} (hw : (ks, b) = normF pre) (h : d = 9) (e : ls = incr ks b) : (ls, 0) = normF (pre ++ [d]) := by
  rw [normF_snoc, ← hw]; simp [normStep, h, e]
theorem grown_is {ks : List Int} {b : Nat} (h : (ks.length : Int) ≤ b) : (ks ++ (List.replicate ((b : Int) - ks.length + 1).toNat [(0 : Int)]).flatten).set (b : Int).toNat ((ks ++ (List.replicate ((b : Int) - ks.length + 1).toNat [(0 : Int)]).flatten).getD (b : Int).toNat 0 + 1) = incr ks b := by
  have h' : ks.length ≤ b := by omega
  have e : ((b : Int) - ks.length + 1).toNat = b - ks.length + 1 := by omega
  rw [flat_rep, e, Int.toNat_natCast]
  unfold incr
  rw [if_pos h']
theorem kept_is {ks : List Int} {b : Nat} (h : ¬ (ks.length : Int) ≤ b) : ks.set (b : Int).toNat (ks.getD (b : Int).toNat 0 + 1) = incr ks b := by
  have h' : ¬ ks.length ≤ b := by omega
  rw [Int.toNat_natCast]
  unfold incr
  rw [if_neg h']
theorem incr_len (ks : List Int) (b n : Nat) (h1 : ks.length ≤ n) (h2 : b ≤ n) : (incr ks b).length ≤ n + 1 := by
  unfold incr
  rw [List.length_set]
  split
  · rw [List.length_append, List.length_replicate]; omega
  · omega
theorem tuple_new {prog : Program} {w : World} {A : Around} {E : Value → Shared → Prop} {s : Shared} {h₀ : Heap} {L : Addr} {m : Str → Option Value} {news : List (Addr × Obj)} {l : Addr} {items : Array Value} {n : Nat} {Q : Value → Shared → Prop} (F : Fr h₀ L s.heap m) (N : News h₀ L s.heap news) (hl : (l, listOf items n) ∈ news) (hsz : items.size ≤ sizeLine)
    (h : ∀ D h', Fr h₀ L h' m → News h₀ L h' ((D, ({ cls := .type "tuple", data := .seq items } : Obj)) :: news) → (∀ p ∈ news, p.1 < D) → Q (.ref D) { s with heap := h' }) : wpAny (model prog w) A (call (.type "tuple") [.ref l]) Q E s := by
  refine call_tuple_list ⟨_, (N _ hl).1, rfl, n, rfl⟩ (fun h₁ hk => ?_) hsz
  have F₁ : Fr h₀ L h₁ m := ⟨F.ns.at' fun o q => hk _ o q, fun b o q => hk b o (F.keep b o q), F.above⟩
  have N₁ : News h₀ L h₁ news := fun p hp => ⟨hk _ _ (N p hp).1, (N p hp).2⟩
  have hlt : ∀ p ∈ news, p.1 < h₁.objs.size := fun p hp => Heap.lt_size (N₁ p hp).1
  refine h _ _ (F₁.push _) (fun p hp => ?_) hlt
  rcases List.mem_cons.mp hp with rfl | hp
  · refine ⟨Heap.get?_push_size _ rfl, Nat.ne_of_gt F₁.ns.lt, ?_⟩
    cases q : h₀.get? h₁.objs.size with
    | none => rfl
    | some o => exact absurd (Heap.lt_size (F₁.keep _ _ q)) (Nat.lt_irrefl _)
  · exact ⟨Heap.get?_push_of_some _ (N₁ p hp).1, (N₁ p hp).2⟩
local macro_rules | `(tactic| walk_at "call type:tuple") => `(tactic| (k_here; (with_reducible show wpAny _ _ (call (Value.type _) [Value.ref _]) _ _ _); k_dflt (refine' tuple_new ?k1 ?k2 ?k3 ?k4 ?_; (case k1 | k2 => k_asm); (case k3 => k_mem); (case k4 => with_reducible assumption); k_whole); intro D' h' F' N' l1; (try k_lt l1); (try k_sweep)))
noncomputable abbrev wsDict (P : Params) (x : Str) (t : Tok) (n nt : Nat) (tn tt : Tok) (tN : Addr) (bs : Bool) (k1 k2 k3 k4 k5 : Tok) : Obj :=
  dictOf [⟨PyData.keyHash P (Str.ofString "raw"), .str (Str.ofString "raw") k1, .str x t⟩, ⟨PyData.keyHash P (Str.ofString "n"), .str (Str.ofString "n") k2, .int (n : Nat) tn⟩, ⟨PyData.keyHash P (Str.ofString "nt"), .str (Str.ofString "nt") k3, .int (nt : Nat) tt⟩,
    ⟨PyData.keyHash P (Str.ofString "norm"), .str (Str.ofString "norm") k4, .ref tN⟩, ⟨PyData.keyHash P (Str.ofString "is_simple"), .str (Str.ofString "is_simple") k5, .bool bs⟩] 5
noncomputable abbrev tupO (vs : List Value) : Obj := { cls := .type "tuple", data := .seq vs.toArray }
inductive InitPost (P : Params) (x : Str) (t : Tok) (p : List Nat) (h₀ : Heap) (L : Addr) (led : List (Addr × Obj)) (v : Value) (h' : Heap) : Prop
  | mk (y dx tc tN n nt tb tn tt k1 k2 k3 k4 k5 bs vs) : (v = .ref y) → (IntsAre vs (normF p).1) → (News h₀ L h' ((tN, tupO [.ref tc, .int ((normF p).2 : Nat) tb]) :: (tc, tupO vs) :: (y, instObj 83 dx) :: (dx, wsDict P x t n nt tn tt tN bs k1 k2 k3 k4 k5) :: led)) → (tc < tN) → (y < tc) → (dx < y) → (AllLt dx led) → InitPost P x t p h₀ L led v h'
theorem InitPost.elim {P : Params} {x : Str} {t : Tok} {p : List Nat} {h₀ h' : Heap} {L : Addr} {led : List (Addr × Obj)} {v : Value} {C : Prop} (h : InitPost P x t p h₀ L led v h') (z : ∀ y dx tc tN n nt tb tn tt k1 k2 k3 k4 k5 bs vs, (v = .ref y) → (IntsAre vs (normF p).1) → (News h₀ L h' ((tN, tupO [.ref tc, .int ((normF p).2 : Nat) tb]) :: (tc, tupO vs) :: (y, instObj 83 dx) :: (dx, wsDict P x t n nt tn tt tN bs k1 k2 k3 k4 k5) :: led)) → (tc < tN) → (y < tc) → (dx < y) → (AllLt dx led) → C) : C := by
  obtain ⟨y, dx, tc, tN, n, nt, tb, tn, tt, k1, k2, k3, k4, k5, bs, vs, h0, h1, h2, h3, h4, h5, h6⟩ := h
  exact z y dx tc tN n nt tb tn tt k1 k2 k3 k4 k5 bs vs h0 h1 h2 h3 h4 h5 h6
theorem InitPost.of {P : Params} {x : Str} {t : Tok} {p : List Nat} {h₀ h' : Heap} {L : Addr} {led : List (Addr × Obj)} {y dx tc tN n nt tb tn tt k1 k2 k3 k4 k5 bs vs} (h1 : IntsAre vs (normF p).1) (h2 : News h₀ L h' ((tN, tupO [.ref tc, .int ((normF p).2 : Nat) tb]) :: (tc, tupO vs) :: (y, instObj 83 dx) :: (dx, wsDict P x t n nt tn tt tN bs k1 k2 k3 k4 k5) :: led)) (h3 : tc < tN) (h4 : y < tc) (h5 : dx < y) (h6 : AllLt dx led) : InitPost P x t p h₀ L led (.ref y) h' := ⟨y, dx, tc, tN, n, nt, tb, tn, tt, k1, k2, k3, k4, k5, bs, vs, rfl, h1, h2, h3, h4, h5, h6⟩
theorem news_init {h₀ h : Heap} {L : Addr} {a b c d : Addr × Obj} {r : List (Addr × Obj)} (N : News h₀ L h (a :: b :: c :: d :: r)) : News h₀ L h (a :: b :: r) := fun p hp => by
  rcases List.mem_cons.mp hp with rfl | hp
  · exact N _ (.head _)
  rcases List.mem_cons.mp hp with rfl | hp
  · exact N _ (.tail _ (.head _))
  · exact N _ (.tail _ (.tail _ (.tail _ (.tail _ hp))))
theorem first_blank {p p' : List Nat} {c d : Nat} {r r' : List Nat} (h : p ++ c :: r = p' ++ d :: r') (hp : ∀ x ∈ p, x = 32 ∨ x = 9) (hp' : ∀ x ∈ p', x = 32 ∨ x = 9) (hc1 : c ≠ 32) (hc2 : c ≠ 9) (hd1 : d ≠ 32) (hd2 : d ≠ 9) : p = p' := by
  induction p generalizing p' with
  | nil =>
    cases p' with
    | nil => rfl
    | cons a p' =>
      rw [List.nil_append, List.cons_append] at h
      have := (List.cons.inj h).1
      rcases hp' a (.head _) with q | q <;> omega
  | cons a p ih =>
    cases p' with
    | nil =>
      rw [List.nil_append, List.cons_append] at h
      have := (List.cons.inj h).1
      rcases hp a (.head _) with q | q <;> omega
    | cons b p' =>
      rw [List.cons_append, List.cons_append] at h
      have h' := List.cons.inj h
      rw [h'.1, ih h'.2 (fun x hx => hp x (.tail _ hx)) (fun x hx => hp' x (.tail _ hx))]
theorem init_ok (w : World) (x : Str) (t : Tok) (p : List Nat) (c : Nat) (rest : List Nat) (hx : x.cps.toList = p ++ c :: rest) (hp : ∀ d ∈ p, d = 32 ∨ d = 9) (hc1 : c ≠ 32) (hc2 : c ≠ 9) (h1 : x.length ≤ 400) : LC w 0 83 [.str x t] [] (InitPost w.params x t p) := by
  unfold LC
  w_strict (k_with_none; w_top off; k_fill; intro mean mg mb dp un gd cn cs a ccd cl outer A₀ base h₀ L m news s Q E B F X N T hcs hdp hun hpos hB1 hret; refine' call_cls ?k1 ?k2 ?k3 ?k4 ?k5 ?k6 ?_; (case k1 => k_asm); (case k2 => k_asm); (case k3 => k_asm); (case k4 => k_is); (case k5 => k_is); (case k6 => k_is); k_whole; intro x' d' h' F' N' l1 l2; (try k_lt l1); (try k_lt2 l2); (try k_sweep); k_dflt cell_enter)
  refine cons_halt ?_
  w_strict k_steps
  refine Halt.mk (cons_halt ?_)
  w_strict k_steps
  refine Halt.mk (cons_halt ?_)
  w_strict k_steps
  refine Halt.mk (cons_halt ?_)
  w_strict k_steps
  refine Halt.mk (cons_halt (For_halt ?_))
  w_strict k_steps
  rename News _ _ _ _ => N1
  rename (_ ∧ _) => l3
  refine Halt.mk (iter_str_one (lo := 0) rfl rfl rfl (by assumption) N1 (Nat.zero_le _) (InitJ x') ⟨_, [], _, [], 0, 0, 0, _, _, _, rfl, .nil, rfl, rfl, rfl, rfl, rfl, rfl, rfl, rfl, by simp, by simp, by simp, by simp, by simp, by exact l3⟩ ?_ ?_)
  · rintro pre d post t₁ m₁ ex h₁ tk₁ own hd ht₁ htk₁ hex hJ F₁ N₁
    refine Classical.byContradiction fun hG => ?_
    obtain ⟨oI, oO⟩ := own
    refine InitJ.elim hJ fun lc vs k ks b n nt tb tn tt hEx hI hm1 hm2 hm3 hm4 hm5 hm6 hm7 hw hbl hb hn hnt hks hAl => ?_
    subst hEx
    refine hG ?_
    clear hG hJ
    rw [put_eq hm1, put_eq hm2, put_eq hm3, put_eq hm4, put_eq hm5, put_eq hm6, put_eq hm7] at F₁
    have hpre : pre.length ≤ 400 := pre_len hd h1
    have hne : lc ≠ oI := hex _ (.head _)
    simp only [List.singleton_append, List.nil_append] at N₁ hAl
    w_strict k_steps
    · exact ⟨_, _, _, [(lc, _)], rfl, by assumption, by assumption, hex, InitJ.of (l := lc) (vs := vs) (k := k) (cs := ks) (b := b + 1) (n := n + 1) (nt := nt) hI rfl rfl rfl rfl rfl rfl rfl (norm_sp hw (one_is _ rfl (by assumption))) (blank_snoc hbl (.inl (one_is _ rfl (by assumption))))
        (by simp; omega) (by simp; omega) (by simp; omega) (by simp; omega) hAl⟩
    · rename_i D1 ws1 _ hI1 l4 _ _ _ _ _ _ hi1 hl1 hs1 _ _ F2 N2
      have hle : (ks.length : Int) ≤ b := by assumption
      exact ⟨_, _, _, [(D1, _)], rfl, F2, news_grow N2, (fun p hp => by cases List.mem_singleton.mp hp; exact Nat.ne_of_gt l4.2.2.1), InitJ.of (l := D1) (k := 0) (b := 0) (n := n + 1) (nt := nt + 1) hi1 rfl rfl rfl rfl rfl rfl rfl (norm_tab hw (one_is _ rfl (by assumption)) (grown_is hle)) (blank_snoc hbl (.inr (one_is _ rfl (by assumption))))
        (by simp) (by simp; omega) (by simp; omega) (by rw [grown_is hle, List.length_append, List.length_singleton]; exact incr_len ks b _ hks hb) l4.2.2.2.2⟩
    · rename_i hi1 hl1 hs1 _ _ F2 N2
      have hle : ¬ (ks.length : Int) ≤ b := by assumption
      exact ⟨_, _, _, [(lc, _)], rfl, F2, N2, (fun p hp => by cases List.mem_singleton.mp hp; exact hne), InitJ.of (l := lc) (b := 0) (n := n + 1) (nt := nt + 1) hi1 rfl rfl rfl rfl rfl rfl rfl (norm_tab hw (one_is _ rfl (by assumption)) (kept_is hle)) (blank_snoc hbl (.inr (one_is _ rfl (by assumption))))
        (by simp) (by simp; omega) (by simp; omega) (by rw [kept_is hle, List.length_append, List.length_singleton]; exact incr_len ks b _ hks hb) hAl⟩
    · have N₂ := news_tail N₁
      clear N₁
      have l5 := hAl
      simp only [AllLt] at l5
      clear hex hne hAl
      have hsz : (List.toArray vs).size ≤ sizeLine := by rw [List.size_toArray, hI.length, sizeLine_eq]; omega
      refine Halt.mk ?_
      have hd1 : d ≠ 32 := one_not _ rfl (by assumption)
      have hd2 : d ≠ 9 := one_not _ rfl (by assumption)
      have hpp := first_blank (hx.symm.trans hd) hp hbl hc1 hc2 hd1 hd2
      subst hpp
      have hw1 : ks = (normF p).1 := congrArg Prod.fst hw
      have hw2 : b = (normF p).2 := congrArg Prod.snd hw
      w_strict k_steps
      rename News _ _ _ _ => N9
      refine hret _ _ _ (by assumption) (InitPost.of (hw1 ▸ hI) (hw2 ▸ news_init N9) ?_ ?_ ?_ ?_)
      · rename (_ < _ ∧ _ < _ ∧ _ < _ ∧ _ < _ ∧ _ < _ ∧ AllLt _ _) => la
        exact la.1
      · rename (_ < _ ∧ _ < _ ∧ _ < _ ∧ _ < _ ∧ AllLt _ _) => la
        exact la.2.2.1
      · exact l2
      · exact allLt_of l1
  · rintro h₁ tk₁ m₁ ex _ hJ F₁ N₁
    exfalso
    refine InitJ.elim hJ fun lc vs k ks b n nt tb tn tt hEx hI hm1 hm2 hm3 hm4 hm5 hm6 hm7 hw hbl hb hn hnt hks hAl => ?_
    rcases hbl c (by rw [hx]; simp) with q | q
    · exact absurd q hc1
    · exact absurd q hc2
end

section
open PySem PySem.W PyProof.Rows PySem.Calls PySem.Spec
set_option maxRecDepth 100000
set_option maxHeartbeats 0
section
variable {prog : Program} {w : World} {A : Around} {E : Value → Shared → Prop} {s : Shared} {env : Env} {h₀ : Heap}
/-- a turn's end of a while, with fewer turns to come -/
noncomputable def WhileEnd (h₀ : Heap) (L : Addr) (news : List (Addr × Obj)) (J : Nat → (Str → Option Value) → Prop) (k : Nat) (s : Shared) (Q : Flow → Shared → Prop) (f : Flow) (s₂ : Shared) : Prop :=
  match f with
  | .ret v => Q (.ret v) s₂
  | .brk => Q .next s₂
  | _ => ∃ h' tk m' k', s₂ = { s with heap := h', toks := tk } ∧ Fr h₀ L h' m' ∧ News h₀ L h' news ∧ k' < k ∧ J k' m'
theorem while_pos {lo : Nat} {Q : Flow → Shared → Prop} {test : PySem.Expr} {body : List Stmt} {pos : Pos} {m : Str → Option Value} {news : List (Addr × Obj)}
    (F : Fr h₀ env.locals s.heap m) (N : News h₀ env.locals s.heap news) (hpos : lo ≤ s.toks) (J : Nat → (Str → Option Value) → Prop) (n : Nat) (h0 : J n m)
    (turn : ∀ k m₁ h tk, lo ≤ tk → J k m₁ → Fr h₀ env.locals h m₁ → News h₀ env.locals h news →
      wpAny (model prog w) A (isTrue test env (eval test env)) (fun b s₂ => if b then wpAny (model prog w) A (execs body env) (WhileEnd h₀ env.locals news J k { s with heap := h, toks := tk } Q) E s₂ else Q .next s₂) E { s with heap := h, toks := tk })
    (hE : PassesOwn (model prog w) A env E := by passes_own) :
    wpAny (model prog w) A (exec (.While test body [] pos) env) Q E s := by
  refine wpAny_While (codeAny_whileLoop (fun k s' => ∃ h' tk m', s' = { s with heap := h', toks := tk } ∧ lo ≤ tk ∧ Fr h₀ env.locals h' m' ∧ News h₀ env.locals h' news ∧ J k m') ?_ n ⟨s.heap, s.toks, m, rfl, hpos, F, N, h0⟩)
  rintro k s' ⟨h, tk, m₁, rfl, htk, F₁, N₁, hJ⟩
  have T := turn k m₁ h tk htk hJ F₁ N₁
  refine wpAny_passesOwn hE (wpAny_mono (wpAny_toks_of (n := lo) htk T) (fun b s₂ h₂ => ?_) fun _ _ e => e.2)
  obtain ⟨ht₂, h₂⟩ := h₂
  cases b with
  | false => exact wpAny_execs_nil h₂
  | true =>
    refine wpAny_passesOwn hE (wpAny_mono (wpAny_toks_of (n := lo) ht₂ h₂) (fun f s₃ h₃ => ?_) fun _ _ e => e.2)
    obtain ⟨ht₃, h₃⟩ := h₃
    have go : (∃ h' tk' m' k', s₃ = { s with heap := h', toks := tk' } ∧ Fr h₀ env.locals h' m' ∧ News h₀ env.locals h' news ∧ k' < k ∧ J k' m') → ∃ k', k' < k ∧ ∃ h' tk m', s₃ = { s with heap := h', toks := tk } ∧ lo ≤ tk ∧ Fr h₀ env.locals h' m' ∧ News h₀ env.locals h' news ∧ J k' m' := by
      rintro ⟨h', tk', m', k', rfl, F', N', hk, hJ'⟩
      exact ⟨k', hk, h', tk', m', rfl, ht₃, F', N', hJ'⟩
    cases f with
    | ret v => exact h₃
    | brk => exact h₃
    | next => exact go h₃
    | cont => exact go h₃
end
end

section
open PySem PySem.W PyProof.Rows PySem.Calls
set_option maxRecDepth 100000
set_option maxHeartbeats 0
set_option rowWalk.seconds 0
theorem hasattr_K {prog : Program} {w : World} {A : Around} {E : Value → Shared → Prop} {s : Shared} {h₀ : Heap} {L : Addr} {m : Str → Option Value} {news : List (Addr × Obj)} {x : Str} {u tk : Tok} {Q : Value → Shared → Prop} (F : Fr h₀ L s.heap m) (N : News h₀ L s.heap news)
    (h : ∀ h', Fr h₀ L h' m → News h₀ L h' news → Q (.bool true) { s with heap := h' }) : wpAny (model prog w) A (call (.builtin "hasattr") [.str x u, .str "__getitem__" tk]) Q E s :=
  hasattr_str fun o => h _ (F.push o) fun p hp => ⟨Heap.get?_push_of_some _ (N p hp).1, (N p hp).2⟩
local macro_rules | `(tactic| walk_at "call builtin:hasattr") => `(tactic| (k_here; k_dflt (refine' hasattr_K ?k1 ?k2 ?_; (case k1 | k2 => k_asm); k_whole); intro h' F' N'))
theorem len_add (x y : Str) : (x ++ y).length = x.length + y.length := by
  show (x.cps ++ y.cps).size = _
  rw [Array.size_append]; rfl
theorem cps_add (x y : Str) : (x ++ y).cps.toList = x.cps.toList ++ y.cps.toList := by
  show (x.cps ++ y.cps).toList = _
  rw [Array.toList_append]
theorem add_b {prog : Program} {w : World} {A : Around} {E : Value → Shared → Prop} {s : Shared} {x y : Str} {t u : Tok} {a b : Nat} {Q : Value → Shared → Prop} (hx : x.length ≤ a) (hy : y.length ≤ b) (hab : Nat.ble (a + b) 1000 = true)
    (h : ∀ z t' k, z = x ++ y → z.length ≤ a + b → Q (.str z t') { s with toks := k }) : wpAny (model prog w) A (binaryOp .Add (.str x t) (.str y u)) Q E s :=
  PyProof.Rows.add_str (fun t' k => h _ t' k rfl (by rw [len_add]; omega)) (by have := Nat.le_of_ble_eq_true hab; rw [sizeLine_eq]; omega)
local macro_rules | `(tactic| walk_at "binaryOp Add str str") => `(tactic| (k_here; (refine' add_b ?hx ?hy ?hab ?_; (case hx | hy => with_reducible assumption); (case hab => exact rfl)); intro z9 t9 k9 hz9 hl9))
theorem concat_ok (w : World) (x y : Str) (t u : Tok) {a b : Nat} (h1 : x.length ≤ a) (h2 : y.length ≤ b) (h3 : Nat.ble (a + b) 1000 = true) : LC w 0 122 [.str x t, .str y u] [] (fun h₀ L led v h' => ∃ z t1, v = .str z t1 ∧ z = x ++ y ∧ z.length ≤ a + b ∧ News h₀ L h' led) := by
  have h3' := Nat.le_of_ble_eq_true h3
  have hz := len_add x y
  unfold LC
  w_strict (k_with_none; w_top off; k_fill; intro mean mg mb dp un gd cn cs a ccd cl outer A₀ base h₀ L m news s Q E B F X N T hcs hdp hun hpos hB1 hret; refine wpAny_call ?_; k_dflt cell_enter; k_steps)
  exact hret _ _ _ (by assumption) ⟨_, _, rfl, rfl, by rw [hz]; exact Nat.add_le_add h1 h2, by assumption⟩
end

section
open PySem PySem.W PyProof.Rows PySem.Calls PySem.Spec
set_option maxRecDepth 100000
/-- the sign that is not seen, ahead of a letter -/
noncomputable def hid (sp : Int) (us : List Int) (at_ : Nat) : List Nat := if (sp.fdiv 45 + 5 * at_).fmod 29 < 27 then [(us.getD ((sp.fdiv 45 + 5 * at_).fmod 29).toNat 0).toNat] else []
/-- the code typed at a place, and how many letters it stands for -/
noncomputable def typedCode (cs : List Nat) (sp : Int) (at_ : Nat) : Int × Nat :=
  if 0 < (sp + at_).fmod 3 ∧ (cs.drop at_).take 2 = [115, 116] then (64260 + (sp + at_).fmod 3, 2)
  else if 0 < (sp + at_).fmod 3 ∧ (cs.drop at_).take 2 = [115, 115] then (223, 2)
  else (if 12 < (sp.fdiv 3 + at_).fmod 15 then 65 + (if cs.getD at_ 0 = 115 then 18 else 19) + 32 * ((sp.fdiv 3 + at_).fmod 15 - 13) else 119808 + 52 * (sp.fdiv 3 + at_).fmod 15 + (if cs.getD at_ 0 = 115 then 18 else 19), 1)
noncomputable def typedStep (cs : List Nat) (sp : Int) (us : List Int) (a : List Nat × Nat) : List Nat × Nat :=
  if a.2 < cs.length then (a.1 ++ (hid sp us a.2 ++ [(typedCode cs sp a.2).1.toNat]), a.2 + (typedCode cs sp a.2).2) else a
noncomputable def typedIter (cs : List Nat) (sp : Int) (us : List Int) : Nat → List Nat × Nat
  | 0 => ([], 0)
  | n + 1 => typedStep cs sp us (typedIter cs sp us n)
theorem hid_yes {sp : Int} {us : List Int} {at_ : Nat} (h : (sp.fdiv 45 + 5 * (at_ : Int)).fmod 29 < 27) : hid sp us at_ = [(us.getD ((sp.fdiv 45 + 5 * (at_ : Int)).fmod 29).toNat 0).toNat] := if_pos h
theorem hid_no {sp : Int} {us : List Int} {at_ : Nat} (h : ¬ (sp.fdiv 45 + 5 * (at_ : Int)).fmod 29 < 27) : hid sp us at_ = [] := if_neg h
theorem slice_two {x : Str} {i : Nat} (h : i < x.length) : (Txt.slice x (some (i : Int)) (some ((i : Int) + 2))).cps.toList = (x.cps.toList.drop i).take 2 := by
  show (StrLaws.sliceText x (some (i : Int)) (some ((i : Int) + 2))).cps.toList = _
  by_cases h2 : i + 2 ≤ x.length
  · have := StrLaws.sliceText_nat x (a := i) (b := i + 2) (by omega) h2
    have e : (((i + 2 : Nat)) : Int) = (i : Int) + 2 := by omega
    rw [e] at this
    rw [this]
    simp
  · have e : StrLaws.sliceText x (some (i : Int)) (some ((i : Int) + 2)) = StrLaws.sliceText x (some (i : Int)) (some ((x.length : Nat) : Int)) := by
      have q : Builtin.Str.strSliceIndices (some (i : Int)) (some ((i : Int) + 2)) 1 x.length = Builtin.Str.strSliceIndices (some (i : Int)) (some ((x.length : Nat) : Int)) 1 x.length := by
        have a1 : ¬ ((i : Int) + 2 < 0) := by omega
        have a2 : ¬ (((x.length : Nat) : Int) < 0) := by omega
        have a3 : max (0 : Int) (min ((i : Int) + 2) x.length) = x.length := by omega
        have a4 : max (0 : Int) (min ((x.length : Nat) : Int) x.length) = x.length := by omega
        simp only [Builtin.Str.strSliceIndices, a1, a2, if_false, show (1 : Int) > 0 by decide, if_true, a3, a4]
      unfold StrLaws.sliceText
      rw [q]
    rw [e, StrLaws.sliceText_nat x (by omega) (Nat.le_refl _)]
    show List.take _ _ = _
    have hl : (x.cps.toList.drop i).length = 1 := by rw [List.length_drop]; simp [Str.length] at h h2 ⊢; omega
    rw [List.take_of_length_le (by rw [hl]; omega), List.take_of_length_le (by rw [hl]; omega)]
theorem pair_is {x z : Str} {i : Nat} {a b : Nat} (h : i < x.length) (hz : z = ⟨#[a, b]⟩) : ((Txt.slice x (some (i : Int)) (some ((i : Int) + 2))) == z) = decide ((x.cps.toList.drop i).take 2 = [a, b]) := by
  rw [← slice_two h]
  subst hz
  generalize Txt.slice x (some (i : Int)) (some ((i : Int) + 2)) = y
  obtain ⟨c⟩ := y
  by_cases q : c = #[a, b]
  · subst q; simp
  · have q1 : ¬ ((⟨c⟩ : Str) = ⟨#[a, b]⟩) := fun e => q (congrArg Str.cps e)
    have q2 : ¬ (c.toList = [a, b]) := fun e => q (Array.toList_inj.mp e)
    simp [q1, q2, q]
theorem pair_len {cs : List Nat} {i a b : Nat} (h : (cs.drop i).take 2 = [a, b]) : i + 2 ≤ cs.length := by
  have := congrArg List.length h
  simp only [List.length_take, List.length_drop, List.length_cons, List.length_nil] at this
  omega
noncomputable def elseCode (cs : List Nat) (sp : Int) (at_ : Nat) : Int := if 12 < (sp.fdiv 3 + at_).fmod 15 then 65 + (if cs.getD at_ 0 = 115 then 18 else 19) + 32 * ((sp.fdiv 3 + at_).fmod 15 - 13) else 119808 + 52 * (sp.fdiv 3 + at_).fmod 15 + (if cs.getD at_ 0 = 115 then 18 else 19)
section
variable {x : Str} {sp : Int} {at_ : Nat}
theorem st_is (hat : at_ < x.length) : ((Txt.slice x (some (at_ : Int)) (some ((at_ : Int) + 2))) == Str.ofString "st") = decide ((x.cps.toList.drop at_).take 2 = [115, 116]) := pair_is hat (by rfl)
theorem ss_is (hat : at_ < x.length) : ((Txt.slice x (some (at_ : Int)) (some ((at_ : Int) + 2))) == Str.ofString "ss") = decide ((x.cps.toList.drop at_).take 2 = [115, 115]) := pair_is hat (by rfl)
theorem len_is (x : Str) : x.cps.toList.length = x.length := by simp [Str.length]
theorem code_st (hat : at_ < x.length) (h1 : 0 < (sp + (at_ : Int)).fmod 3) (h2 : ((Txt.slice x (some (at_ : Int)) (some ((at_ : Int) + 2))) == Str.ofString "st") = true) : typedCode x.cps.toList sp at_ = (64260 + (sp + (at_ : Int)).fmod 3, 2) ∧ at_ + 2 ≤ x.length := by
  rw [st_is hat] at h2
  have h2 := of_decide_eq_true h2
  exact ⟨if_pos ⟨h1, h2⟩, by rw [← len_is]; exact pair_len h2⟩
theorem code_ss (hat : at_ < x.length) (h1 : 0 < (sp + (at_ : Int)).fmod 3) (h2 : ((Txt.slice x (some (at_ : Int)) (some ((at_ : Int) + 2))) == Str.ofString "st") = false) (h3 : ((Txt.slice x (some (at_ : Int)) (some ((at_ : Int) + 2))) == Str.ofString "ss") = true) : typedCode x.cps.toList sp at_ = (223, 2) ∧ at_ + 2 ≤ x.length := by
  rw [st_is hat] at h2
  rw [ss_is hat] at h3
  have h2 := of_decide_eq_false h2
  have h3 := of_decide_eq_true h3
  exact ⟨(if_neg fun q => h2 q.2).trans (if_pos ⟨h1, h3⟩), by rw [← len_is]; exact pair_len h3⟩
theorem code_n1 (h1 : ¬ 0 < (sp + (at_ : Int)).fmod 3) : typedCode x.cps.toList sp at_ = (elseCode x.cps.toList sp at_, 1) := (if_neg fun q => h1 q.1).trans (if_neg fun q => h1 q.1)
theorem code_n2 (hat : at_ < x.length) (h2 : ((Txt.slice x (some (at_ : Int)) (some ((at_ : Int) + 2))) == Str.ofString "st") = false) (h3 : ((Txt.slice x (some (at_ : Int)) (some ((at_ : Int) + 2))) == Str.ofString "ss") = false) : typedCode x.cps.toList sp at_ = (elseCode x.cps.toList sp at_, 1) := by
  rw [st_is hat] at h2
  rw [ss_is hat] at h3
  exact (if_neg fun q => of_decide_eq_false h2 q.2).trans (if_neg fun q => of_decide_eq_false h3 q.2)
theorem item_s (hat : at_ < x.length) (e : (Txt.item x (at_ : Int) == Str.ofString "s") = true) : x.cps.toList.getD at_ 0 = 115 := by
  have h' : at_ < x.cps.size := hat
  unfold Txt.item Txt.charAt at e
  rw [StrLaws.at_nonneg (n := x.cps[at_]) (by omega) (by simp [h'])] at e
  have := one_is (d := x.cps[at_]) (e := 115) _ rfl e
  simp [h', this]
theorem item_ns (hat : at_ < x.length) (e : (Txt.item x (at_ : Int) == Str.ofString "s") = false) : x.cps.toList.getD at_ 0 ≠ 115 := by
  have h' : at_ < x.cps.size := hat
  unfold Txt.item Txt.charAt at e
  rw [StrLaws.at_nonneg (n := x.cps[at_]) (by omega) (by simp [h'])] at e
  have := one_not (d := x.cps[at_]) (e := 115) _ rfl e
  simp [h', this]
theorem code_l18 (hat : at_ < x.length) (he : typedCode x.cps.toList sp at_ = (elseCode x.cps.toList sp at_, 1)) (h1 : (Txt.item x (at_ : Int) == Str.ofString "s") = true) (h2 : 12 < (sp.fdiv 3 + (at_ : Int)).fmod 15) : typedCode x.cps.toList sp at_ = (65 + 18 + 32 * ((sp.fdiv 3 + (at_ : Int)).fmod 15 - 13), 1) ∧ at_ + 1 ≤ x.length := by
  refine ⟨he.trans ?_, hat⟩; unfold elseCode; rw [if_pos h2, if_pos (item_s hat h1)]
theorem code_l19 (hat : at_ < x.length) (he : typedCode x.cps.toList sp at_ = (elseCode x.cps.toList sp at_, 1)) (h1 : (Txt.item x (at_ : Int) == Str.ofString "s") = false) (h2 : 12 < (sp.fdiv 3 + (at_ : Int)).fmod 15) : typedCode x.cps.toList sp at_ = (65 + 19 + 32 * ((sp.fdiv 3 + (at_ : Int)).fmod 15 - 13), 1) ∧ at_ + 1 ≤ x.length := by
  refine ⟨he.trans ?_, hat⟩; unfold elseCode; rw [if_pos h2, if_neg (item_ns hat h1)]
theorem code_f18 (hat : at_ < x.length) (he : typedCode x.cps.toList sp at_ = (elseCode x.cps.toList sp at_, 1)) (h1 : (Txt.item x (at_ : Int) == Str.ofString "s") = true) (h2 : ¬ 12 < (sp.fdiv 3 + (at_ : Int)).fmod 15) : typedCode x.cps.toList sp at_ = (119808 + 52 * (sp.fdiv 3 + (at_ : Int)).fmod 15 + 18, 1) ∧ at_ + 1 ≤ x.length := by
  refine ⟨he.trans ?_, hat⟩; unfold elseCode; rw [if_neg h2, if_pos (item_s hat h1)]
theorem code_f19 (hat : at_ < x.length) (he : typedCode x.cps.toList sp at_ = (elseCode x.cps.toList sp at_, 1)) (h1 : (Txt.item x (at_ : Int) == Str.ofString "s") = false) (h2 : ¬ 12 < (sp.fdiv 3 + (at_ : Int)).fmod 15) : typedCode x.cps.toList sp at_ = (119808 + 52 * (sp.fdiv 3 + (at_ : Int)).fmod 15 + 19, 1) ∧ at_ + 1 ≤ x.length := by
  refine ⟨he.trans ?_, hat⟩; unfold elseCode; rw [if_neg h2, if_neg (item_ns hat h1)]
theorem zz1 {T z y : Str} {us : List Int} {b : Nat} (h1 : z = T ++ y) (h4 : y = ⟨#[b]⟩) (hh : hid sp us at_ = []) : z.cps.toList = T.cps.toList ++ (hid sp us at_ ++ [b]) := by
  rw [hh, h1, h4, cps_add]; try rfl
theorem zz2 {T z z' y y' : Str} {us : List Int} {a b : Nat} (h1 : z = z' ++ y) (h2 : z' = T ++ y') (h3 : y' = ⟨#[a]⟩) (h4 : y = ⟨#[b]⟩) (hh : hid sp us at_ = [a]) : z.cps.toList = T.cps.toList ++ (hid sp us at_ ++ [b]) := by
  rw [hh, h1, h4, h2, h3, cps_add, cps_add, List.append_assoc]; try rfl
theorem hid_len (us : List Int) : (hid sp us at_).length ≤ 1 := by unfold hid; split <;> simp
theorem typed_turn {T z : Str} {us : List Int} {w k : Nat} {c : Int} (hat : at_ < x.length) (hc : typedCode x.cps.toList sp at_ = (c, w) ∧ at_ + w ≤ x.length) (hw : 1 ≤ w) (hz : z.cps.toList = T.cps.toList ++ (hid sp us at_ ++ [c.toNat]))
    (hn : ∃ n, (T.cps.toList, at_) = typedIter x.cps.toList sp us n) (hT : T.length ≤ 2 * at_) (hk : at_ + k = x.length + 1) :
    ∃ k', k' < k ∧ (at_ + w) + k' = x.length + 1 ∧ z.length ≤ 2 * (at_ + w) ∧ ∃ n, (z.cps.toList, at_ + w) = typedIter x.cps.toList sp us n := by
  have h2 := hc.2
  refine ⟨k - w, by omega, by omega, ?_, ?_⟩
  · have e := congrArg List.length hz
    have hl := hid_len (sp := sp) (at_ := at_) us
    simp only [List.length_append, List.length_singleton, len_is] at e
    omega
  · obtain ⟨n, hn⟩ := hn
    refine ⟨n + 1, ?_⟩
    show _ = typedStep _ _ _ (typedIter _ _ _ n)
    rw [← hn]
    unfold typedStep
    rw [if_pos (by rw [len_is]; exact hat), hz, hc.1]
end
end

section
open PySem PySem.W PyProof.Rows PySem.Calls
set_option maxRecDepth 100000
set_option maxHeartbeats 0
set_option rowWalk.seconds 0
local macro_rules | `(tactic| walk_at "LoTo") => `(tactic| (refine LoTo.intro ?_; intro hlo; (try dsimp only at hlo)))
theorem lcx {w : World} {lo : Nat} {f : Addr} {vs : List Value} {led : List (Addr × Obj)} {Post : Heap → Addr → List (Addr × Obj) → Value → Heap → Prop} (h : LC w lo f vs led Post) : LCx w lo 10 80 f vs led Post := h
theorem past_down {u n : Nat} (h : u + 1 ≤ n) : Past 1 n := Nat.le_trans (Nat.le_add_left 1 u) h
theorem count_t (w : World) (x : Str) (t u : Tok) (hu : u ≠ 0) : LCx w (u + 1) 10 80 129 [.str x t, .str (Str.ofString "t") u] [] (fun h₀ L led v h' => ∃ t1, v = .int (x.cps.toList.count 116 : Nat) t1 ∧ News h₀ L h' led) := by
  have e : Str.ofString "t" = ⟨#[116]⟩ := by rfl
  rw [e]; exact lcx <| count_ok w x 116 t u hu
theorem count_s (w : World) (x : Str) (t u : Tok) (hu : u ≠ 0) : LCx w (u + 1) 10 80 129 [.str x t, .str (Str.ofString "s") u] [] (fun h₀ L led v h' => ∃ t1, v = .int (x.cps.toList.count 115 : Nat) t1 ∧ News h₀ L h' led) := by
  have e : Str.ofString "s" = ⟨#[115]⟩ := by rfl
  rw [e]; exact lcx <| count_ok w x 115 t u hu
theorem past_nz {u lo : Nat} (h : Past (lo + 1) u) : u ≠ 0 := by unfold Past at h; omega
local macro_rules | `(tactic| walk_at "subscriptTail Name Slice str ref") => `(tactic| (k_here; (fail_if_success (with_reducible show wpAny _ _ _ (fun _ _ => LoTo _ _ _) _ _)); (with_reducible refine' past_tail (lo := 1) ?hp ?_); (case hp => walk_at "past")))
local macro_rules | `(tactic| walk_at "call ref") => `(tactic| (k_here; (with_reducible show wpAny _ _ (call (Value.ref 129) [Value.str _ _, Value.str _ _]) _ _ _); k_dflt ((first | (refine' lc_use (count_t _ _ _ _ ?hu) ?k1 ?k2 ?k3 ?k4 ?hl ?k5 ?kK ?kd ?ku ?kp ?kb ?_) | (refine' lc_use (count_s _ _ _ _ ?hu) ?k1 ?k2 ?k3 ?k4 ?hl ?k5 ?kK ?kd ?ku ?kp ?kb ?_)); (case hu => exact past_nz (lo := 0) (by walk_at "past")); (case k1 | k2 | k3 | k4 => k_asm); (case hl => (intro p hp; cases hp)); (case k5 => k_asm); (case kK => first | exact rfl | assumption); (case kd => ktr_room); (case ku => ktr_units); (case kp => (dsimp only; exact Nat.le_refl _)); (case kb => first | assumption | exact B1At.keep (by assumption) (Fr.keep (by assumption))); k_whole; (intro v9 h9 tk9 F9 P9 ht9 hs9; (have p9 := past_down ht9); obtain ⟨t9, e9, N9⟩ := P9; subst e9; (try dsimp only)))))
theorem reps (k : Nat) : ∀ acc : Array Nat, ((List.replicate k (#[32] : Array Nat)).foldl (· ++ ·) acc).toList = acc.toList ++ List.replicate k 32 := by
  induction k with
  | zero => intro acc; simp
  | succ k ih => intro acc; rw [List.replicate_succ, List.foldl_cons, ih, Array.toList_append, List.replicate_succ, List.append_assoc]; rfl
theorem blanks (r : Nat) : (Txt.mul (Str.ofString " ") (r : Int)).cps.toList = List.replicate r 32 := by
  have e : Str.ofString " " = ⟨#[32]⟩ := by rfl
  rw [e]
  unfold Txt.mul
  by_cases h : ((r : Int) < 1)
  · have : r = 0 := by omega
    subst this; rfl
  · rw [if_neg h]
    by_cases h1 : r = 1
    · subst h1; rfl
    · rw [if_neg (by simp [Str.length]; omega), Int.toNat_natCast]
      show (List.foldl _ _ _ : Array Nat).toList = _
      rw [reps]; rfl
theorem blanks_len (r : Nat) : (Txt.mul (Str.ofString " ") (r : Int)).length = r := by
  have := congrArg List.length (blanks r)
  simpa [Str.length] using this
theorem len_add_C11 (x y : Str) : (x ++ y).length = x.length + y.length := by
  show (x.cps ++ y.cps).size = _
  rw [Array.size_append]; rfl
theorem cps_add_C11 (x y : Str) : (x ++ y).cps.toList = x.cps.toList ++ y.cps.toList := by
  show (x.cps ++ y.cps).toList = _
  rw [Array.toList_append]
theorem len_tab : (Str.ofString "\t").length = 1 := by rfl
theorem len_x : (Str.ofString "x \t").length = 3 := by rfl
theorem mul_cnt {prog : Program} {w : World} {A : Around} {E : Value → Shared → Prop} {s : Shared} {t u : Tok} {r : Nat} {Q : Value → Shared → Prop} (hr : r ≤ 20)
    (h : ∀ y t' k, y.cps.toList = List.replicate r 32 → y.length ≤ 20 → Q (.str y t') { s with toks := k }) : wpAny (model prog w) A (binaryOp .Mult (.str (Str.ofString " ") t) (.int (r : Nat) u)) Q E s :=
  SB.mul (mulOk_of 16 1048576 (by decide) (by omega) (by omega) (by decide) (by decide)) fun t' k => h _ t' k (blanks r) (by rw [blanks_len]; exact hr)
theorem cnt_le {a : Str} {c n : Nat} (h : a.length ≤ n) : a.cps.toList.count c ≤ n := Nat.le_trans List.count_le_length (by simpa [Str.length] using h)
theorem mul_room {prog : Program} {w : World} {A : Around} {E : Value → Shared → Prop} {s : Shared} {x a b : Str} {t u : Tok} {Q : Value → Shared → Prop} (ha : a.length ≤ x.length) (hb : b.length ≤ x.length) (hx : x.length ≤ 10)
    (h : ∀ y t' k, y.cps.toList = List.replicate (a.cps.toList.count 116 + b.cps.toList.count 115) 32 → y.length ≤ 20 → Q (.str y t') { s with toks := k }) :
    wpAny (model prog w) A (binaryOp .Mult (.str (Str.ofString " ") t) (.int (((a.cps.toList.count 116 : Nat) : Int) + ((b.cps.toList.count 115 : Nat) : Int)) u)) Q E s := by
  have h1 := cnt_le (c := 116) ha
  have h2 := cnt_le (c := 115) hb
  exact mul_cnt (r := a.cps.toList.count 116 + b.cps.toList.count 115) (by omega) h
local macro_rules | `(tactic| walk_at "binaryOp Mult str int") => `(tactic| (k_here; (first | (refine' mul_room ?ha ?hb ?hx ?_; (case ha | hb | hx => with_reducible assumption)) | (refine' mul_cnt ?ha ?_; (case ha => exact Nat.le_trans (cnt_le (by with_reducible assumption)) (by decide)))); intro y9 t9 k9 hy9 hl9))
theorem add_b_C11 {prog : Program} {w : World} {A : Around} {E : Value → Shared → Prop} {s : Shared} {x y : Str} {t u : Tok} {a b : Nat} {Q : Value → Shared → Prop} (hx : x.length ≤ a) (hy : y.length ≤ b) (hab : Nat.ble (a + b) 1000 = true)
    (h : ∀ z t' k, z = x ++ y → z.length ≤ a + b → Q (.str z t') { s with toks := k }) : wpAny (model prog w) A (binaryOp .Add (.str x t) (.str y u)) Q E s :=
  PyProof.Rows.add_str (fun t' k => h _ t' k rfl (by rw [len_add_C11]; omega)) (by have := Nat.le_of_ble_eq_true hab; rw [sizeLine_eq]; omega)
noncomputable def leadStep (cs : List Nat) (a : List Nat × List Nat) (k : Nat) : List Nat × List Nat :=
  if cs.getD k 0 = 116 then (a.1 ++ List.replicate ((cs.take k).count 116 + (cs.drop (k + 1)).count 115) 32 ++ [9], a.2) else (a.1, a.2 ++ List.replicate ((cs.take k).count 116 + (cs.drop (k + 1)).count 115) 32 ++ [9])
noncomputable def leadF (cs : List Nat) (i : Nat) : List Nat × List Nat := (List.range i).foldl (leadStep cs) ([], [])
theorem leadF_succ (cs : List Nat) (i : Nat) : leadF cs (i + 1) = leadStep cs (leadF cs i) i := by unfold leadF; rw [List.range_succ, List.foldl_append]; rfl
theorem slice_to {x : Str} {i : Nat} (h : i ≤ x.length) : (Txt.slice x none (some (i : Int))).cps.toList = x.cps.toList.take i := by
  have := StrLaws.sliceText_to (x := x) (j := (i : Int)) ⟨by omega, by simp [Str.length] at h ⊢; omega⟩
  show (StrLaws.sliceText x none (some (i : Int))).cps.toList = _
  rw [this]
  simp
theorem slice_from {x : Str} {i : Nat} (h : i < x.length) : (Txt.slice x (some ((i : Int) + 1)) none).cps.toList = x.cps.toList.drop (i + 1) := by
  have := StrLaws.sliceText_from (x := x) (i := (i : Int) + 1) ⟨by omega, by simp [Str.length] at h ⊢; omega⟩
  show (StrLaws.sliceText x (some ((i : Int) + 1)) none).cps.toList = _
  rw [this]
  have e : ((i : Int) + 1).toNat = i + 1 := by omega
  rw [e]
  show List.take _ _ = _
  rw [List.take_of_length_le]
  rw [List.length_drop]
  omega
theorem item_is {x : Str} {i : Nat} (h : i < x.length) : Txt.item x (i : Int) = ⟨#[x.cps.toList.getD i 0]⟩ := by
  unfold Txt.item Txt.charAt
  have h' : i < x.cps.size := h
  rw [StrLaws.at_nonneg (n := x.cps[i]) (by omega) (by simp [h'])]
  simp [h']
theorem item_t {x : Str} {i : Nat} (h : i < x.length) (e : (Txt.item x (i : Int) == Str.ofString "t") = true) : x.cps.toList.getD i 0 = 116 := by
  rw [item_is h] at e; exact one_is _ rfl e
theorem item_nt {x : Str} {i : Nat} (h : i < x.length) (e : (Txt.item x (i : Int) == Str.ofString "t") = false) : x.cps.toList.getD i 0 ≠ 116 := by
  rw [item_is h] at e; exact one_not _ rfl e
theorem lead_t {x X Y y : Str} {i : Nat} (hi : i < x.length) (hX : X.cps.toList = (leadF x.cps.toList i).1) (hY : Y.cps.toList = (leadF x.cps.toList i).2) (e : (Txt.item x (i : Int) == Str.ofString "t") = true)
    (hy : y.cps.toList = List.replicate ((Txt.slice x none (some (i : Int))).cps.toList.count 116 + (Txt.slice x (some ((i : Int) + 1)) none).cps.toList.count 115) 32) : (X ++ y ++ Str.ofString "\t").cps.toList = (leadF x.cps.toList (i + 1)).1 ∧ Y.cps.toList = (leadF x.cps.toList (i + 1)).2 := by
  rw [leadF_succ]
  unfold leadStep
  rw [if_pos (item_t hi e)]
  rw [slice_to (by omega), slice_from hi] at hy
  exact ⟨by rw [cps_add_C11, cps_add_C11, hX, hy]; rfl, hY⟩
theorem lead_s {x X Y y : Str} {i : Nat} (hi : i < x.length) (hX : X.cps.toList = (leadF x.cps.toList i).1) (hY : Y.cps.toList = (leadF x.cps.toList i).2) (e : (Txt.item x (i : Int) == Str.ofString "t") = false)
    (hy : y.cps.toList = List.replicate ((Txt.slice x none (some (i : Int))).cps.toList.count 116 + (Txt.slice x (some ((i : Int) + 1)) none).cps.toList.count 115) 32) : X.cps.toList = (leadF x.cps.toList (i + 1)).1 ∧ (Y ++ y ++ Str.ofString "\t").cps.toList = (leadF x.cps.toList (i + 1)).2 := by
  rw [leadF_succ]
  unfold leadStep
  rw [if_neg (item_nt hi e)]
  rw [slice_to (by omega), slice_from hi] at hy
  exact ⟨hX, by rw [cps_add_C11, cps_add_C11, hY, hy]; rfl⟩
theorem len3 {X y : Str} {i : Nat} (h1 : X.length ≤ 21 * i) (h2 : y.length ≤ 20) : (X ++ y ++ Str.ofString "\t").length ≤ 21 * (i + 1) := by
  rw [len_add_C11, len_add_C11, len_tab]; omega
noncomputable def LeadJ (x : Str) (t : Tok) (i : Nat) (m : Str → Option Value) (ex : List (Addr × Obj)) : Prop :=
  ex = [] ∧ ∃ X t1 Y t2, m (Str.ofString "ours") = some (.str X t1) ∧ m (Str.ofString "theirs") = some (.str Y t2) ∧ m (Str.ofString "word") = some (.str x t) ∧ X.cps.toList = (leadF x.cps.toList i).1 ∧ Y.cps.toList = (leadF x.cps.toList i).2 ∧ X.length ≤ 21 * i ∧ Y.length ≤ 21 * i
theorem lead_blank (cs : List Nat) : ∀ i, (∀ c ∈ (leadF cs i).1, c = 32 ∨ c = 9) ∧ (∀ c ∈ (leadF cs i).2, c = 32 ∨ c = 9)
  | 0 => ⟨fun c h => absurd h (by simp [leadF]), fun c h => absurd h (by simp [leadF])⟩
  | i + 1 => by
    obtain ⟨h1, h2⟩ := lead_blank cs i
    rw [leadF_succ]
    unfold leadStep
    split
    · refine ⟨fun c hc => ?_, h2⟩
      rcases List.mem_append.mp hc with hc | hc
      · rcases List.mem_append.mp hc with hc | hc
        · exact h1 c hc
        · exact .inl (List.mem_replicate.mp hc).2
      · exact .inr (List.mem_singleton.mp hc)
    · refine ⟨h1, fun c hc => ?_⟩
      rcases List.mem_append.mp hc with hc | hc
      · rcases List.mem_append.mp hc with hc | hc
        · exact h2 c hc
        · exact .inl (List.mem_replicate.mp hc).2
      · exact .inr (List.mem_singleton.mp hc)
theorem lead_end {X y : Str} {p : List Nat} {r : Nat} (hX : X.cps.toList = p) (hy : y.cps.toList = List.replicate r 32) : (X ++ y ++ Str.ofString "x \t").cps.toList = (p ++ List.replicate r 32) ++ 120 :: [32, 9] := by
  rw [cps_add_C11, cps_add_C11, hX, hy]; rfl
theorem end_blank {p : List Nat} {r : Nat} (h : ∀ c ∈ p, c = 32 ∨ c = 9) : ∀ c ∈ p ++ List.replicate r 32, c = 32 ∨ c = 9 := fun c hc => by
  rcases List.mem_append.mp hc with hc | hc
  · exact h c hc
  · exact .inl (List.mem_replicate.mp hc).2
theorem end_len {X y : Str} (h1 : X.length ≤ 210) (h2 : y.length ≤ 20) : (X ++ y ++ Str.ofString "x \t").length ≤ 400 := by
  rw [len_add_C11, len_add_C11, len_x]; omega
/-- the blanks that a lead opens with -/
noncomputable def leadT (cs : List Nat) : List Nat := (leadF cs cs.length).1 ++ List.replicate (cs.count 115) 32
noncomputable def leadS (cs : List Nat) : List Nat := (leadF cs cs.length).2 ++ List.replicate (cs.count 116) 32
local macro_rules | `(tactic| walk_at "call ref") => `(tactic| (k_here; (with_reducible show wpAny _ _ (call (Value.ref 83) [Value.str _ _]) _ _ _); with_reducible refine at_halt ?_))
inductive LeadPost (P : Params) (cs : List Nat) (h₀ : Heap) (L : Addr) (led : List (Addr × Obj)) (v : Value) (h' : Heap) : Prop
  | mk (l k ya dxa tca tNa Xa tXa na nta tba tna tta ka1 ka2 ka3 ka4 ka5 bsa vsa yb dxb tcb tNb Xb tXb nb ntb tbb tnb ttb kb1 kb2 kb3 kb4 kb5 bsb vsb) : (v = .ref l) → (IntsAre vsa (normF (leadT cs)).1) → (IntsAre vsb (normF (leadS cs)).1) → (News h₀ L h' ((l, listOf #[.ref ya, .ref yb] k) :: (tNb, tupO [.ref tcb, .int ((normF (leadS cs)).2 : Nat) tbb]) :: (tcb, tupO vsb) :: (yb, instObj 83 dxb) :: (dxb, wsDict P Xb tXb nb ntb tnb ttb tNb bsb kb1 kb2 kb3 kb4 kb5) :: (tNa, tupO [.ref tca, .int ((normF (leadT cs)).2 : Nat) tba]) :: (tca, tupO vsa) :: (ya, instObj 83 dxa) :: (dxa, wsDict P Xa tXa na nta tna tta tNa bsa ka1 ka2 ka3 ka4 ka5) :: led)) → (tNb < l) → (tcb < tNb) → (yb < tcb) → (dxb < yb) → (tNa < dxb) → (tca < tNa) → (ya < tca) → (dxa < ya) → (AllLt dxa led) → LeadPost P cs h₀ L led v h'
theorem LeadPost.elim {P : Params} {cs : List Nat} {h₀ h' : Heap} {L : Addr} {led : List (Addr × Obj)} {v : Value} {C : Prop} (h : LeadPost P cs h₀ L led v h') (z : ∀ l k ya dxa tca tNa Xa tXa na nta tba tna tta ka1 ka2 ka3 ka4 ka5 bsa vsa yb dxb tcb tNb Xb tXb nb ntb tbb tnb ttb kb1 kb2 kb3 kb4 kb5 bsb vsb, (v = .ref l) → (IntsAre vsa (normF (leadT cs)).1) → (IntsAre vsb (normF (leadS cs)).1) → (News h₀ L h' ((l, listOf #[.ref ya, .ref yb] k) :: (tNb, tupO [.ref tcb, .int ((normF (leadS cs)).2 : Nat) tbb]) :: (tcb, tupO vsb) :: (yb, instObj 83 dxb) :: (dxb, wsDict P Xb tXb nb ntb tnb ttb tNb bsb kb1 kb2 kb3 kb4 kb5) :: (tNa, tupO [.ref tca, .int ((normF (leadT cs)).2 : Nat) tba]) :: (tca, tupO vsa) :: (ya, instObj 83 dxa) :: (dxa, wsDict P Xa tXa na nta tna tta tNa bsa ka1 ka2 ka3 ka4 ka5) :: led)) → (tNb < l) → (tcb < tNb) → (yb < tcb) → (dxb < yb) → (tNa < dxb) → (tca < tNa) → (ya < tca) → (dxa < ya) → (AllLt dxa led) → C) : C := by
  obtain ⟨l, k, ya, dxa, tca, tNa, Xa, tXa, na, nta, tba, tna, tta, ka1, ka2, ka3, ka4, ka5, bsa, vsa, yb, dxb, tcb, tNb, Xb, tXb, nb, ntb, tbb, tnb, ttb, kb1, kb2, kb3, kb4, kb5, bsb, vsb, h0, h1, h2, h3, h4, h5, h6, h7, h8, h9, h10, h11, h12⟩ := h
  exact z l k ya dxa tca tNa Xa tXa na nta tba tna tta ka1 ka2 ka3 ka4 ka5 bsa vsa yb dxb tcb tNb Xb tXb nb ntb tbb tnb ttb kb1 kb2 kb3 kb4 kb5 bsb vsb h0 h1 h2 h3 h4 h5 h6 h7 h8 h9 h10 h11 h12
theorem news_nine {h₀ h : Heap} {L : Addr} {a1 a2 a3 a4 a5 a6 a7 a8 a9 d : Addr × Obj} {r : List (Addr × Obj)} (N : News h₀ L h (a1 :: a2 :: a3 :: a4 :: a5 :: a6 :: a7 :: a8 :: a9 :: d :: r)) : News h₀ L h (a1 :: a2 :: a3 :: a4 :: a5 :: a6 :: a7 :: a8 :: a9 :: r) :=
  news_pick N fun p hp => List.Sublist.subset (.cons₂ _ (.cons₂ _ (.cons₂ _ (.cons₂ _ (.cons₂ _ (.cons₂ _ (.cons₂ _ (.cons₂ _ (.cons₂ _ ((.cons _ (List.Sublist.refl _)))))))))))) hp
theorem leads_ok (w : World) (x : Str) (t : Tok) (h1 : x.length ≤ 10) : LCx w 1 20 160 219 [.str x t] [] (LeadPost w.params x.cps.toList) := by
  unfold LCx
  w_strict (k_with_none; w_top off; k_fill; intro mean mg mb dp un gd cn cs a ccd cl outer A₀ base h₀ L m news s Q E B F X N T hcs hdp hun hpos hB1 hret; refine wpAny_call ?_; k_dflt cell_enter)
  refine cons_haltP (lo := 1) (by walk_at "past") ?_
  w_strict k_steps
  refine Halt.mk (cons_halt (For_haltP (lo := 1) (by walk_at "past") ?_))
  w_strict k_steps
  rename IsRange _ _ _ _ _ _ _ _ => hr
  refine Halt.mk (iter_to (lo := 1) (ex₀ := []) rfl rfl rfl hr (by omega) (by omega) (by assumption) (by assumption) (show Past 1 _ by walk_at "past") (LeadJ x t) ⟨rfl, _, _, _, _, rfl, rfl, rfl, rfl, rfl, by decide, by decide⟩ ?_ ?_)
  · rintro i ti m₁ ex h₁ tk₁ own hi (htk : Past 1 tk₁) hex hJ F₁ N₁
    refine Classical.byContradiction fun hG => ?_
    obtain ⟨rfl, X, t1, Y, t2, hm1, hm2, hm3, hX, hY, hX1, hY1⟩ := hJ
    refine hG ?_
    clear hG
    rw [put_eq hm1, put_eq hm2, put_eq hm3] at F₁
    have hX2 : X.length ≤ 210 := by omega
    have hY2 : Y.length ≤ 210 := by omega
    have hT2 : (Str.ofString "\t").length ≤ 1 := by decide
    have hi' : i < x.length := by omega
    w_strict k_steps
    · have hl := lead_t (y := ‹Str›) hi' hX hY (by assumption) (by assumption)
      exact ⟨_, _, _, [], rfl, by assumption, by assumption, by simp, ⟨rfl, _, _, _, _, rfl, rfl, rfl, hl.1, hl.2, len3 hX1 (by assumption), Nat.le_trans hY1 (by omega)⟩⟩
    · have hl := lead_s (y := ‹Str›) hi' hX hY (by assumption) (by assumption)
      exact ⟨_, _, _, [], rfl, by assumption, by assumption, by simp, ⟨rfl, _, _, _, _, rfl, rfl, rfl, hl.1, hl.2, Nat.le_trans hX1 (by omega), len3 hY1 (by assumption)⟩⟩
  · rintro h₁ tk₁ m₁ ex (htk : Past 1 tk₁) hJ F₁ N₁
    refine Classical.byContradiction fun hG => ?_
    obtain ⟨rfl, X, t1, Y, t2, hm1, hm2, hm3, hX, hY, hX1, hY1⟩ := hJ
    refine hG ?_
    clear hG
    rw [put_eq hm1, put_eq hm2, put_eq hm3] at F₁
    have hX2 : X.length ≤ 210 := by omega
    have hY2 : Y.length ≤ 210 := by omega
    have e : ((x.length : Int)).toNat = x.cps.toList.length := by simp [Str.length]
    refine Halt.mk (cons_haltP (lo := 1) htk ?_)
    w_strict k_steps
    refine Halt.mk (cons_haltP (lo := 1) (by with_reducible assumption) ?_)
    w_strict k_steps
    refine Halt.mk ?_
    w_strict k_steps
    rename (_ = List.replicate (List.count 115 _) 32) => hya
    rename (_ = List.replicate (List.count 116 _) 32) => hyb
    rw [e] at hX hY
    have hb := lead_blank x.cps.toList x.cps.toList.length
    refine Halt.mk ?_
    refine' lc_use (lcx (init_ok w _ _ (leadT x.cps.toList) 120 [32, 9] (lead_end hX hya) (end_blank hb.1) (by decide) (by decide) (end_len hX2 (by with_reducible assumption)))) ?k1 ?k2 ?k3 ?k4 ?hl ?k5 ?kK ?kd ?ku ?kp ?kb ?_
    case k1 => k_asm
    case k2 => k_asm
    case k3 => k_asm
    case k4 => k_asm
    case hl => (intro p hp; cases hp)
    case k5 => k_asm
    case kK => first | exact rfl | assumption
    case kd => ktr_room
    case ku => ktr_units
    case kp => exact Nat.zero_le _
    case kb => first | assumption | exact B1At.keep (by assumption) (Fr.keep (by assumption))
    k_whole
    intro v8 h8 tk8 F8 P8 ht8 hs8
    refine Classical.byContradiction fun hG => ?_
    refine InitPost.elim P8 fun ya dxa tca tNa na nta tba tna tta ka1 ka2 ka3 ka4 ka5 bsa vsa hEy hIa N8 la1 la2 la3 la4 => ?_
    subst hEy
    refine hG ?_
    clear hG P8
    w_strict k_steps
    refine Halt.mk ?_
    refine' lc_use (lcx (init_ok w _ _ (leadS x.cps.toList) 120 [32, 9] (lead_end hY hyb) (end_blank hb.2) (by decide) (by decide) (end_len hY2 (by with_reducible assumption)))) ?k1 ?k2 ?k3 ?k4 ?hl ?k5 ?kK ?kd ?ku ?kp ?kb ?_
    case k1 => k_asm
    case k2 => k_asm
    case k3 => k_asm
    case k4 => k_asm
    case hl => (intro p hp; cases hp)
    case k5 => k_asm
    case kK => first | exact rfl | assumption
    case kd => ktr_room
    case ku => ktr_units
    case kp => exact Nat.zero_le _
    case kb => first | assumption | exact B1At.keep (by assumption) (Fr.keep (by assumption))
    k_whole
    intro v7 h7 tk7 F7 P7 ht7 hs7
    refine Classical.byContradiction fun hG => ?_
    refine InitPost.elim P7 fun yb dxb tcb tNb nb ntb tbb tnb ttb kb1 kb2 kb3 kb4 kb5 bsb vsb hEy hIb N7 lb1 lb2 lb3 lb4 => ?_
    subst hEy
    refine hG ?_
    clear hG P7
    w_strict k_steps
    rename News _ _ _ _ => N9
    rename (_ < _ ∧ _ < _ ∧ _ < _ ∧ _) => lz
    exact hret _ _ _ (by assumption) ⟨_, _, ya, dxa, tca, tNa, _, _, na, nta, tba, tna, tta, ka1, ka2, ka3, ka4, ka5, bsa, vsa, yb, dxb, tcb, tNb, _, _, nb, ntb, tbb, tnb, ttb, kb1, kb2, kb3, kb4, kb5, bsb, vsb, rfl, hIa, hIb,
      news_nine N9, lz.1, lb1, lb2, lb3, (show _ ∧ _ from lb4).1, la1, la2, la3, (show _ ∧ _ from la4).2⟩
end

section
open PySem PySem.W PyProof.Rows PySem.Calls
set_option maxRecDepth 100000
set_option maxHeartbeats 0
set_option rowWalk.seconds 0
local macro_rules | `(tactic| walk_at "compareOp Eq ref ref") => `(tactic| (walk_at "h!"))
local macro_rules | `(tactic| walk_at "compareOp Eq ref") => `(tactic| (walk_at "h!"))
theorem reads_norm {h₀ h : Heap} {L : Addr} {news : List (Addr × Obj)} {tN tc : Addr} {b : Int} {tb : Tok} {vs : List Value} {c : List Int} (N : News h₀ L h news) (ha : (tN, tupO [.ref tc, .int b tb]) ∈ news) (hb : (tc, tupO vs) ∈ news) (hI : IntsAre vs c) :
    Reads h (.ref tN) (.tuple [.tuple (c.map PyData.int), .int b]) [] :=
  reads_tuple_at (N _ ha).1 rfl rfl (readsAll_cons_val (reads_tuple_at (N _ hb).1 rfl rfl ((ke_carried hI).reads h)) (readsAll_cons_val (Reads.int _ _) .nil))
theorem shaped_norm (c : List Int) (b : Int) : SeqAt.shaped (.tuple [.tuple (c.map PyData.int), .int b]) = true := by
  simp [SeqAt.shaped, PyData.canLay0, PyData.canLayAll0, PyData.depth, PyData.depthAll, ke_canLayAll0, ke_depthAll]
theorem eqv_norm (c1 c2 : List Int) (b1 b2 : Nat) : PyData.eqv (.tuple [.tuple (c1.map PyData.int), .int (b1 : Nat)]) (.tuple [.tuple (c2.map PyData.int), .int (b2 : Nat)]) = decide (c1 = c2 ∧ b1 = b2) := by
  simp only [PyData.eqv, PyData.eqvAll, ked_eqvAll, Bool.and_true]
  by_cases h1 : c1 = c2 <;> by_cases h2 : b1 = b2 <;> simp [h1, h2] <;> omega
theorem equal_ok (w : World) (y1 dx1 tc1 tN1 y2 dx2 tc2 tN2 : Addr) (X1 X2 : Str) (tX1 tX2 : Tok) (n1 nt1 n2 nt2 : Nat) (tn1 tt1 tn2 tt2 tb1 tb2 : Tok) (b1 b2 : Nat) (bs1 bs2 : Bool) (k1 k2 k3 k4 k5 j1 j2 j3 j4 j5 : Tok) (vs1 vs2 : List Value) (c1 c2 : List Int) (h1 : IntsAre vs1 c1) (h2 : IntsAre vs2 c2) :
    LC w 0 59 [.ref y1, .ref y2] [(tN1, tupO [.ref tc1, .int (b1 : Nat) tb1]), (tc1, tupO vs1), (y1, instObj 83 dx1), (dx1, wsDict w.params X1 tX1 n1 nt1 tn1 tt1 tN1 bs1 k1 k2 k3 k4 k5), (tN2, tupO [.ref tc2, .int (b2 : Nat) tb2]), (tc2, tupO vs2), (y2, instObj 83 dx2), (dx2, wsDict w.params X2 tX2 n2 nt2 tn2 tt2 tN2 bs2 j1 j2 j3 j4 j5)] (fun h₀ L led v h' => v = .bool (decide (c1 = c2 ∧ b1 = b2)) ∧ News h₀ L h' led) := by
  unfold LC
  w_strict (k_with_none; w_top off; k_fill; intro mean mg mb dp un gd cn cs a ccd cl outer A₀ base h₀ L m news s Q E B F X N T hcs hdp hun hpos hB1 hret; refine wpAny_call ?_; k_dflt cell_enter)
  w_strict k_steps
  rename News _ _ _ _ => N9
  refine Halt.mk (eq_dataH (reads_norm N9 (.head _) (.tail _ (.head _)) h1) (reads_norm N9 (.tail _ (.tail _ (.tail _ (.tail _ (.head _))))) (.tail _ (.tail _ (.tail _ (.tail _ (.tail _ (.head _)))))) h2) (shaped_norm _ _) (shaped_norm _ _) (by ktr_units) ?_)
  rw [eqv_norm]
  w_strict k_steps
  exact hret _ _ _ (by assumption) ⟨rfl, by assumption⟩
end

section
open PySem PySem.W PyProof.Rows PySem.Calls
set_option maxRecDepth 100000
set_option maxHeartbeats 0
set_option rowWalk.seconds 0
local macro_rules | `(tactic| walk_at "no such key") => `(tactic| fail)
theorem lcx_C13 {w : World} {lo : Nat} {f : Addr} {vs : List Value} {led : List (Addr × Obj)} {Post : Heap → Addr → List (Addr × Obj) → Value → Heap → Prop} (h : LC w lo f vs led Post) : LCx w lo 10 80 f vs led Post := h
noncomputable def Chr (i : Int) : Prop := 0 ≤ i ∧ i ≤ 1114111
theorem chr_K {prog : Program} {w : World} {A : Around} {E : Value → Shared → Prop} {s : Shared} {i : Int} {t : Tok} {Q : Value → Shared → Prop} (h0 : Chr i)
    (h : ∀ y t' k, y = (⟨#[i.toNat]⟩ : Str) → y.length ≤ 1 → Q (.str y t') { s with toks := k }) : wpAny (model prog w) A (call (.builtin "chr") [.int i t]) Q E s :=
  chr_of_range h0.1 h0.2 (h _ _ _ rfl (Nat.le_refl 1))
theorem chr_twin (x : Int) : Chr (64260 + x.fmod 3) := by have := fmod_lo x (n := 3) (by decide); have := fmod_hi x (n := 3) (by decide); constructor <;> omega
theorem chr_sharp : Chr 223 := ⟨by decide, by decide⟩
theorem chr_f18 (x : Int) : Chr (119808 + 52 * x.fmod 15 + 18) := by have := fmod_lo x (n := 15) (by decide); have := fmod_hi x (n := 15) (by decide); constructor <;> omega
theorem chr_f19 (x : Int) : Chr (119808 + 52 * x.fmod 15 + 19) := by have := fmod_lo x (n := 15) (by decide); have := fmod_hi x (n := 15) (by decide); constructor <;> omega
theorem chr_l18 {x : Int} (h : x.fmod 15 > 12) : Chr (65 + 18 + 32 * (x.fmod 15 - 13)) := by have := fmod_hi x (n := 15) (by decide); constructor <;> omega
theorem chr_l19 {x : Int} (h : x.fmod 15 > 12) : Chr (65 + 19 + 32 * (x.fmod 15 - 13)) := by have := fmod_hi x (n := 15) (by decide); constructor <;> omega
theorem us_chr {us : List Int} (hu : ∀ u ∈ us, 0 ≤ u ∧ u < 100000) (j : Nat) : Chr (us.getD j 0) := by
  rw [List.getD_eq_getElem?_getD]
  cases h : us[j]? with
  | none => exact ⟨Int.le_refl _, by decide⟩
  | some v => have := hu v (List.mem_of_getElem? h); constructor <;> (show _ ≤ _; simp only [Option.getD_some]; omega)
local macro_rules | `(tactic| walk_at "call builtin:chr") => `(tactic| (k_here; (refine' chr_K ?hc ?_); (case hc => first | with_reducible assumption | exact chr_twin _ | exact chr_sharp | exact chr_f18 _ | exact chr_f19 _ | exact chr_l18 (by with_reducible assumption) | exact chr_l19 (by with_reducible assumption) | exact us_chr (by with_reducible assumption) _); intro y9 t9 k9 hy9 hl9))
local macro_rules | `(tactic| walk_at "call ref") => `(tactic| (k_here; (with_reducible show wpAny _ _ (call (Value.ref 122) [Value.str _ _, Value.str _ _]) _ _ _); k_dflt ((refine' lc_use (lcx_C13 (concat_ok _ _ _ _ _ ?ha ?hb ?hc)) ?k1 ?k2 ?k3 ?k4 ?hl ?k5 ?kK ?kd ?ku ?kp ?kb ?_); (case ha | hb => with_reducible assumption); (case hc => exact rfl); (case k1 | k2 | k3 | k4 => k_asm); (case hl => (intro p hp; cases hp)); (case k5 => k_asm); (case kK => first | exact rfl | assumption); (case kd => ktr_room); (case ku => ktr_units); (case kp => exact Nat.zero_le _); (case kb => first | assumption | exact B1At.keep (by assumption) (Fr.keep (by assumption))); k_whole; (intro v9 h9 tk9 F9 P9 ht9 hs9; obtain ⟨z9, t9, e9, hz9, hl9, N9⟩ := P9; subst e9; (try dsimp only)))))
section
variable {M : Model} {A : Around} {E : Value → Shared → Prop} {env : Env} {s : Shared}
theorem while_halt {x : Sem Bool} {P Q : Shared → Prop} (h : wpAny M A x (fun b s₂ => if b then Halt (P s₂) else Q s₂) E s) : wpAny M A x (fun b s₂ => if b then P s₂ else Q s₂) E s :=
  wpAny_mono h (fun b s' h' => by cases b <;> first | exact h' | exact h'.go) fun _ _ e => e
theorem gen_post {α : Type} {x : Sem α} {Q : α → Shared → Prop} (h : ∀ Q' : α → Shared → Prop, (∀ v s', Q v s' → Q' v s') → wpAny M A x Q' E s) : wpAny M A x Q E s := h Q fun _ _ h => h
/-- where the ways of a statement meet again -/
noncomputable def Cut (h₀ : Heap) (L : Addr) (news : List (Addr × Obj)) (s : Shared) (J : (Str → Option Value) → Prop) (s' : Shared) : Prop := ∃ h tk m, s' = { s with heap := h, toks := tk } ∧ Fr h₀ L h m ∧ News h₀ L h news ∧ J m
theorem cons_cut {h₀ h₁ : Heap} {L : Addr} {m₁ : Str → Option Value} {news : List (Addr × Obj)} {st : Stmt} {rest : List Stmt} {Q : Flow → Shared → Prop} (_ : Fr h₀ L h₁ m₁) (_ : News h₀ L h₁ news) (J : (Str → Option Value) → Prop)
    (h1 : wpAny M A (exec st env) (fun f s' => match f with | .next => Cut h₀ L news s J s' | f => Q f s') E s)
    (h2 : ∀ h tk m, J m → Fr h₀ L h m → News h₀ L h news → wpAny M A (execs rest env) Q E { s with heap := h, toks := tk }) : wpAny M A (execs (st :: rest) env) Q E s :=
  wpAny_execs_cons (wpAny_mono h1 (fun f s' h' => by
    cases f with
    | next => obtain ⟨h, tk, m, rfl, F, N, hJ⟩ := h'; exact h2 h tk m hJ F N
    | _ => exact h') fun _ _ e => e)
end
inductive TypedJ (x : Str) (sp : Int) (us : List Int) (l : Addr) (tx ts : Tok) (k : Nat) (m : Str → Option Value) : Prop
  | mk (T tt at_ ta) : (m (Str.ofString "text") = some (.str T tt)) → (m (Str.ofString "at") = some (.int (at_ : Nat) ta)) → (m (Str.ofString "word") = some (.str x tx)) → (m (Str.ofString "spelling") = some (.int sp ts)) → (m (Str.ofString "unseen") = some (.ref l)) → (at_ + k = x.length + 1) → (T.length ≤ 2 * at_) → (∃ n, (T.cps.toList, at_) = typedIter x.cps.toList sp us n) → TypedJ x sp us l tx ts k m
theorem cut_yes {T z y : Str} {us : List Int} {a at_ : Nat} {sp : Int} (h1 : z = T ++ y) (h2 : y = ⟨#[a]⟩) (hh : hid sp us at_ = [a]) : z.cps.toList = T.cps.toList ++ hid sp us at_ := by
  rw [hh, h1, h2, cps_add]; try rfl
theorem cut_end {T z y : Str} {u v : List Nat} {b : Nat} (h1 : z = T ++ y) (h2 : y = ⟨#[b]⟩) (hh : T.cps.toList = u ++ v) : z.cps.toList = u ++ (v ++ [b]) := by
  rw [h1, h2, cps_add, hh, List.append_assoc]; try rfl
inductive TypedA (x : Str) (sp : Int) (us : List Int) (l : Addr) (tx ts ta : Tok) (at_ : Nat) (T : Str) (m : Str → Option Value) : Prop
  | mk (T' : Str) (tt' : Tok) : m (Str.ofString "text") = some (.str T' tt') → m (Str.ofString "at") = some (.int (at_ : Nat) ta) → m (Str.ofString "word") = some (.str x tx) → m (Str.ofString "spelling") = some (.int sp ts) → m (Str.ofString "unseen") = some (.ref l) →
      T'.cps.toList = T.cps.toList ++ hid sp us at_ → T'.length ≤ 23 → TypedA x sp us l tx ts ta at_ T m
inductive TypedB (x : Str) (sp : Int) (l : Addr) (tx ts ta : Tok) (at_ : Nat) (T' : Str) (tt' : Tok) (m : Str → Option Value) : Prop
  | mk (c : Int) (tc : Tok) (wd : Nat) (tw : Tok) : m (Str.ofString "code") = some (.int c tc) → m (Str.ofString "width") = some (.int (wd : Nat) tw) → m (Str.ofString "text") = some (.str T' tt') → m (Str.ofString "at") = some (.int (at_ : Nat) ta) → m (Str.ofString "word") = some (.str x tx) →
      m (Str.ofString "spelling") = some (.int sp ts) → m (Str.ofString "unseen") = some (.ref l) → Chr c → 1 ≤ wd → typedCode x.cps.toList sp at_ = (c, wd) → at_ + wd ≤ x.length → TypedB x sp l tx ts ta at_ T' tt' m
theorem typed_ok (w : World) (x : Str) (sp : Int) (tx ts : Tok) (l : Addr) (us : List Int) (uvs : List Value) (k : Nat) (hus : IntsAre uvs us) (h0 : us.length = 27) (hu : ∀ u ∈ us, 0 ≤ u ∧ u < 100000) (h1 : x.length ≤ 10) (h2 : 0 ≤ sp) (h3 : sp ≤ 1000000000) :
    LCx w 0 20 160 205 [.str x tx, .int sp ts, .ref l] [(l, listOf uvs.toArray k)] (fun h₀ L led v h' => ∃ z t1 n at_, v = .str z t1 ∧ (z.cps.toList, at_) = typedIter x.cps.toList sp us n ∧ x.length ≤ at_ ∧ z.length ≤ 22 ∧ News h₀ L h' led) := by
  unfold LCx
  w_strict (k_with_none; w_top off; k_fill; intro mean mg mb dp un gd cn cs a ccd cl outer A₀ base h₀ L m news s Q E B F X N T hcs hdp hun hpos hB1 hret; refine wpAny_call ?_; k_dflt cell_enter)
  refine cons_halt ?_
  w_strict k_steps
  rename News _ _ _ _ => N1
  refine Halt.mk (cons_halt (while_pos (lo := 0) (by assumption) N1 (Nat.zero_le _) (TypedJ x sp us l tx ts) (x.length + 1) ⟨_, _, 0, _, rfl, rfl, rfl, rfl, rfl, by omega, by decide, 0, rfl⟩ ?_))
  rintro kk m₁ h₁ tk₁ _ ⟨T, tt, at_, ta, hm1, hm2, hm3, hm4, hm5, hat, hT, hn⟩ F₁ N₁
  rw [put_eq hm1, put_eq hm2, put_eq hm3, put_eq hm4, put_eq hm5] at F₁
  have hT2 : T.length ≤ 22 := by omega
  refine while_halt ?_
  w_strict k_steps
  · have hlt : at_ < x.length := Int.ofNat_lt.mp (by with_reducible assumption)
    refine Halt.mk (gen_post fun Q' hQ' => ?_)
    dsimp only
    refine cons_halt ?_
    w_strict k_steps
    rename Fr _ _ _ _ => F₂
    rename News _ _ _ _ => N₂
    refine Halt.mk (cons_cut F₂ N₂ (TypedA x sp us l tx ts ta at_ T) ?_ ?_)
    · dsimp only
      refine gen_post fun Q2 hQ2 => ?_
      w_strict k_steps
      · exact hQ2 _ _ ⟨_, _, _, rfl, by assumption, by first | assumption | exact news_tail (by assumption) | exact news_tail (news_tail (by assumption)), ⟨_, _, rfl, rfl, rfl, rfl, rfl, cut_yes (by with_reducible assumption) (by with_reducible assumption) (hid_yes (by with_reducible assumption)), by with_reducible assumption⟩⟩
      · exact hQ2 _ _ ⟨_, _, _, rfl, by assumption, by assumption, ⟨_, _, rfl, rfl, rfl, rfl, rfl, by rw [hid_no (by with_reducible assumption), List.append_nil], by omega⟩⟩
    · clear F₂ N₂
      rintro h₃ tk₃ m₃ hJA F₃ N₃
      refine Classical.byContradiction fun hG => ?_
      obtain ⟨T', tt', g1, g2, g3, g4, g5, hz1, hT3⟩ := hJA
      refine hG ?_
      clear hG
      rw [put_eq g1, put_eq g2, put_eq g3, put_eq g4, put_eq g5] at F₃
      dsimp only
      refine cons_halt ?_
      w_strict k_steps
      refine Halt.mk ?_
      dsimp only
      refine cons_halt ?_
      w_strict k_steps
      rename Fr _ _ _ _ => F₄
      rename News _ _ _ _ => N₄
      refine Halt.mk ?_
      dsimp only
      refine cons_cut F₄ N₄ (TypedB x sp l tx ts ta at_ T' tt') ?_ ?_
      · refine gen_post fun Q3 hQ3 => ?_
        w_strict k_steps
        all_goals (
          first
          | have hc := code_st hlt (by with_reducible assumption) (by with_reducible assumption)
          | have hc := code_ss hlt (by with_reducible assumption) (by with_reducible assumption) (by with_reducible assumption)
          | have hc := code_l18 hlt (code_n1 (by with_reducible assumption)) (by with_reducible assumption) (by with_reducible assumption)
          | have hc := code_l18 hlt (code_n2 hlt (by with_reducible assumption) (by with_reducible assumption)) (by with_reducible assumption) (by with_reducible assumption)
          | have hc := code_l19 hlt (code_n1 (by with_reducible assumption)) (by with_reducible assumption) (by with_reducible assumption)
          | have hc := code_l19 hlt (code_n2 hlt (by with_reducible assumption) (by with_reducible assumption)) (by with_reducible assumption) (by with_reducible assumption)
          | have hc := code_f18 hlt (code_n1 (by with_reducible assumption)) (by with_reducible assumption) (by with_reducible assumption)
          | have hc := code_f18 hlt (code_n2 hlt (by with_reducible assumption) (by with_reducible assumption)) (by with_reducible assumption) (by with_reducible assumption)
          | have hc := code_f19 hlt (code_n1 (by with_reducible assumption)) (by with_reducible assumption) (by with_reducible assumption)
          | have hc := code_f19 hlt (code_n2 hlt (by with_reducible assumption) (by with_reducible assumption)) (by with_reducible assumption) (by with_reducible assumption)
          first
          | exact hQ3 _ _ ⟨_, _, _, rfl, by assumption, by first | assumption | exact news_tail (by assumption) | exact news_tail (news_tail (by assumption)), ⟨_, _, 2, _, rfl, rfl, rfl, rfl, rfl, rfl, rfl, by first | exact chr_twin _ | exact chr_sharp, by decide, hc.1, hc.2⟩⟩
          | exact hQ3 _ _ ⟨_, _, _, rfl, by assumption, by first | assumption | exact news_tail (by assumption) | exact news_tail (news_tail (by assumption)), ⟨_, _, 1, _, rfl, rfl, rfl, rfl, rfl, rfl, rfl, by first | exact chr_f18 _ | exact chr_f19 _ | exact chr_l18 (by with_reducible assumption) | exact chr_l19 (by with_reducible assumption), by decide, hc.1, hc.2⟩⟩)
      · clear F₄ N₄
        rintro h₅ tk₅ m₅ hJB F₅ N₅
        refine Classical.byContradiction fun hG => ?_
        obtain ⟨c, tc, wd, tw, g6, g7, g1, g2, g3, g4, g5, hch, hw1, hc, hcl⟩ := hJB
        refine hG ?_
        clear hG
        rw [put_eq g1, put_eq g2, put_eq g3, put_eq g4, put_eq g5, put_eq g6, put_eq g7] at F₅
        dsimp only
        w_strict k_steps
        have hz := cut_end (by with_reducible assumption) (by with_reducible assumption) hz1
        obtain ⟨k', q1, q2, q3, q4⟩ := typed_turn hlt ⟨hc, hcl⟩ hw1 hz hn hT hat
        exact hQ' _ _ ⟨_, _, _, k', rfl, by assumption, by first | assumption | exact news_tail (by assumption) | exact news_tail (news_tail (by assumption)), q1, ⟨_, _, at_ + wd, _, rfl, rfl, rfl, rfl, rfl, q2, q3, q4⟩⟩
  · have hge : x.length ≤ at_ := Nat.le_of_not_lt fun q => absurd (Int.ofNat_lt.mpr q) (by with_reducible assumption)
    obtain ⟨n, hn⟩ := hn
    refine Halt.mk ?_
    w_strict k_steps
    refine hret _ _ _ (by assumption) ⟨_, _, n, at_, rfl, hn, hge, hT2, ?_⟩
    exact news_tail (by assumption)
end

section
open PySem PySem.W PyProof.Rows PySem.Calls PySem.Spec
set_option maxRecDepth 100000
open LCg LCt
section
variable {prog : Program} {w : World} {A : Around} {s : Shared} {h₀ : Heap} {L : Addr} {m : Str → Option Value} {env : Env}
/-- a comprehension's turn, ended -/
noncomputable def CTurn (h₀ : Heap) (L : Addr) (m : Str → Option Value) (s : Shared) (all : List (Addr × Obj)) (J : Prop) (s' : Shared) : Prop :=
  ∃ h' tk', s' = { s with heap := h', toks := tk' } ∧ Fr h₀ L h' m ∧ News h₀ L h' all ∧ J
/-- a comprehension with a test, by what holds between the turns -/
theorem restT_pos {ct elt : PySem.Expr} {x : Str} {scope : Scope} {cl : List (Str × Addr)} {S : List (Addr × Obj) → Prop} {P : Nat → Value → Prop} {Fin : List Value → List (Addr × Obj) → Prop} {n : Nat} {news : List (Addr × Obj)} (hS : S news) (J : Nat → List Value → Prop)
    (turn : ∀ i ys v I oI C oC D m₂ h tk (E' : Value → Shared → Prop), i < n → J i ys → P i v → NsObj oC m₂ → m₂ x = some v → Fr h₀ L h m → News h₀ L h ((I, oI) :: (C, oC) :: (D, lst ys) :: news) → Off3 I C D news → ((@Ne Nat I C) ∧ (@Ne Nat I D) ∧ (@Ne Nat C D)) →
      wpAny (model prog w) A (isTrue ct (compEnvC scope cl C env) (eval ct (compEnvC scope cl C env))) (fun ok s' => if ok = true then
        wpAny (model prog w) A (eval elt (compEnvC scope cl C env)) (fun y s'' => CTurn h₀ L m s ((I, oI) :: (C, oC) :: (D, lst ys) :: news) (J (i + 1) (ys ++ [y])) s'') E' s'
        else CTurn h₀ L m s ((I, oI) :: (C, oC) :: (D, lst ys) :: news) (J (i + 1) ys) s') E' { s with heap := h, toks := tk })
    (fin : ∀ ys, J n ys → Fin ys news) : ∀ (k i : Nat) (ys : List Value), i + k = n → J i ys → CompRestT prog w A h₀ L m env ct elt x scope cl s S P Fin k i ys news
  | 0, i, ys, hi, hJ => by
    have e : i = n := by omega
    subst e
    exact fin ys hJ
  | k + 1, i, ys, hi, hJ => fun v I oI C oC D m₂ h tk E' hP hC hx F N off ne => by
    refine wpAny_mono (turn i ys v I oI C oC D m₂ h tk E' (by omega) hJ hP hC hx F N off ne) (fun ok s' h' => ?_) fun _ _ e => e
    cases ok with
    | true =>
      rw [if_pos rfl] at h' ⊢
      refine wpAny_mono h' (fun y s'' h'' => ?_) fun _ _ e => e
      obtain ⟨h₂, tk₂, rfl, F₂, N₂, hJ₂⟩ := h''
      exact ⟨h₂, tk₂, news, rfl, F₂, N₂, off, hS, restT_pos hS J turn fin k (i + 1) (ys ++ [y]) (by omega) hJ₂⟩
    | false =>
      rw [if_neg (by simp)] at h' ⊢
      obtain ⟨h₂, tk₂, rfl, F₂, N₂, hJ₂⟩ := h'
      exact ⟨h₂, tk₂, news, rfl, F₂, N₂, off, hS, restT_pos hS J turn fin k (i + 1) ys (by omega) hJ₂⟩
end
end

section
open PySem PySem.W PyProof.Rows PySem.Calls PySem.Spec
set_option maxRecDepth 100000
set_option maxHeartbeats 2000000
open LCg LCt
noncomputable abbrev twoFor (elt it1 it2 ct : PySem.Expr) (t1 t2 : PySem.Expr) (scope : Scope) (pos : Pos) : PySem.Expr := .ListComp elt [⟨t1, it1, [], 0⟩, ⟨t2, it2, [ct], 0⟩] scope pos
theorem turn_out (elt it1 it2 ct t1 t2 : PySem.Expr) (scope : Scope) (pos : Pos) (it acc : Value) (env : Env) :
    compTurn (twoFor elt it1 it2 ct t1 t2 scope pos) 0 it acc env = (do
      standAt it1.pos
      match ← pyNext it with
      | none => pure (.done .next)
      | some v =>
        letOwnedTupleGo t1 it v
        assign t1 env v
        let x ← eval it2 env
        standAt it2.pos
        let x ← foldedSetIterable it2 env x
        let _ ← runOwn (.compStart (twoFor elt it1 it2 ct t1 t2 scope pos) 1 (← holding [x] (pyIter x)) acc env) env
        again (.compLoop (twoFor elt it1 it2 ct t1 t2 scope pos) 0 it acc env)) := by rfl
theorem turn_in (elt it1 it2 ct t1 t2 : PySem.Expr) (scope : Scope) (pos : Pos) (it acc : Value) (env : Env) :
    compTurn (twoFor elt it1 it2 ct t1 t2 scope pos) 1 it acc env = (do
      standAt it2.pos
      match ← pyNext it with
      | none => pure (.done .next)
      | some v =>
        letOwnedTupleGo t2 it v
        assign t2 env v
        let mut ok := true
        for c in [ct] do
          if ok then ok ← isTrue c env (eval c env)
        if ok then
          (do let _ ← call (.builtin "list.append") [acc, ← eval elt env])
        again (.compLoop (twoFor elt it1 it2 ct t1 t2 scope pos) 1 it acc env)) := by rfl
section
variable {prog : Program} {w : World} {A : Around} {E : Value → Shared → Prop} {R : Result → Shared → Prop} {s : Shared} {env : Env}
theorem start_in {elt it1 it2 ct t1 t2 : PySem.Expr} {scope : Scope} {pos : Pos} {it acc : Value}
    (h0 : codeAny (model prog w) A (.compLoop (twoFor elt it1 it2 ct t1 t2 scope pos) 1 it acc env) R s)
    (h : wpAny (model prog w) A (pyIter it) (fun it' s' => codeAny (model prog w) A (.compLoop (twoFor elt it1 it2 ct t1 t2 scope pos) 1 it' acc env) R s')
      (notedBy (model prog w) A env fun x s' => R (.error x) s') s) :
    codeAny (model prog w) A (.compStart (twoFor elt it1 it2 ct t1 t2 scope pos) 1 it acc env) R s := by
  refine codeAny_of_tree ?_
  show wpAny _ _ ((compStart (twoFor elt it1 it2 ct t1 t2 scope pos) 1 it acc env).onRaise (fun x => do noteFrame x env; standAt theWindowsPlace)) _ _ s
  refine wpAny_notedAt ?_
  unfold compStart
  show wpAny _ _ (ask >>= _) _ _ s
  refine wpAny_bind (wpAny_askSetting (wpAny_ite ?_))
  split
  · first
      | exact wpAny_bind (wpAny_pure (wpAny_pure (And.intro rfl h0)))
      | exact wpAny_pure (And.intro rfl h0)
  · first
      | exact wpAny_bind (wpAny_rule (wpAny_bind (wpAny_standAt (wpAny_bind (wpAny_mono h (fun it' s' h' => wpAny_pure (And.intro rfl h')) fun _ _ x => x)))))
      | (refine wpAny_bind (wpAny_rule ?_); show wpAny _ _ (standAt it2.pos >>= _) _ _ s; exact wpAny_bind (wpAny_standAt (wpAny_bind (wpAny_mono h (fun it' s' h' => wpAny_pure (And.intro rfl h')) fun _ _ x => x))))
theorem loop_in {elt it1 it2 ct t1 : PySem.Expr} {y : Str} {py : Pos} {scope : Scope} {pos : Pos} {it acc : Value} (I : Nat → Shared → Prop)
    (turn : ∀ n s, I n s → wpAny (model prog w) A (pyNext it) (fun r s₁ => match r with
      | none => R (.ok .next) s₁
      | some v => wpAny (model prog w) A (assign (.Name y py) env v) (fun _ s₂ =>
          wpAny (model prog w) A (isTrue ct env (eval ct env)) (fun ok s₃ =>
            if ok = true then wpAny (model prog w) A (eval elt env) (fun x s₄ =>
              wpAny (model prog w) A (call (.builtin "list.append") [acc, x]) (fun _ s₅ => ∃ m, m < n ∧ I m s₅) (notedBy (model prog w) A env fun e s' => R (.error e) s') s₄) (notedBy (model prog w) A env fun e s' => R (.error e) s') s₃
            else ∃ m, m < n ∧ I m s₃) (notedBy (model prog w) A env fun e s' => R (.error e) s') s₂) (notedBy (model prog w) A env fun e s' => R (.error e) s') s₁) (notedBy (model prog w) A env fun e s' => R (.error e) s') s)
    (n : Nat) (h : I n s) :
    codeAny (model prog w) A (.compLoop (twoFor elt it1 it2 ct t1 (.Name y py) scope pos) 1 it acc env) R s := by
  refine codeAny_loop rfl I (fun n s hI => ?_) n h
  show wpAny _ A ((compTurn (twoFor elt it1 it2 ct t1 (.Name y py) scope pos) 1 it acc env).onRaise (fun x => do noteFrame x env; theTreesLotGoes x)) _ _ s
  refine wpAny_noted ?_
  rw [turn_in]
  refine wpAny_bind (wpAny_standAt (wpAny_bind (wpAny_mono (turn n s hI) (fun r s₁ h₁ => ?_) fun _ _ h' => h')))
  cases r with
  | none => exact wpAny_pure h₁
  | some v =>
    refine wpAny_bind (wpAny_of_eq (show letOwnedTupleGo (.Name y py) it v = pure () from rfl) ?_)
    refine wpAny_bind (wpAny_mono h₁ (fun _ s₂ h₂ => wpAny_bind (wpAny_mono (wpAny_tests_one h₂) (fun ok s₃ h₃ => ?_) fun _ _ h' => h')) fun _ _ h' => h')
    cases ok with
    | false => exact wpAny_pure ⟨rfl, h₃⟩
    | true =>
      exact wpAny_bind (wpAny_bind (wpAny_mono h₃ (fun x s₄ h₄ => wpAny_bind (wpAny_mono h₄ (fun _ s₅ h₅ => wpAny_pure (wpAny_pure ⟨rfl, h₅⟩)) fun _ _ h' => h')) fun _ _ h' => h'))
theorem loop_out {elt it1 it2 ct t2 : PySem.Expr} {x : Str} {px : Pos} {scope : Scope} {pos : Pos} {it acc : Value} (I : Nat → Shared → Prop)
    (turn : ∀ n s, I n s → wpAny (model prog w) A (pyNext it) (fun r s₁ => match r with
      | none => R (.ok .next) s₁
      | some v => wpAny (model prog w) A (assign (.Name x px) env v) (fun _ s₂ =>
          wpAny (model prog w) A (eval it2 env) (fun y s₃ => wpAny (model prog w) A (pyIter y) (fun i2 s₄ =>
            codeAny (model prog w) A (.compStart (twoFor elt it1 it2 ct (.Name x px) t2 scope pos) 1 i2 acc env) (fun r s₅ => r = .ok .next ∧ ∃ m, m < n ∧ I m s₅) s₄)
            (notedBy (model prog w) A env fun e s' => R (.error e) s') s₃) (notedBy (model prog w) A env fun e s' => R (.error e) s') s₂) (notedBy (model prog w) A env fun e s' => R (.error e) s') s₁) (notedBy (model prog w) A env fun e s' => R (.error e) s') s)
    (n : Nat) (h : I n s) (hs : ∀ v, foldedSetIterable it2 env v = pure v := by intro _; rfl) :
    codeAny (model prog w) A (.compLoop (twoFor elt it1 it2 ct (.Name x px) t2 scope pos) 0 it acc env) R s := by
  refine codeAny_loop rfl I (fun n s hI => ?_) n h
  show wpAny _ A ((compTurn (twoFor elt it1 it2 ct (.Name x px) t2 scope pos) 0 it acc env).onRaise (fun x => do noteFrame x env; theTreesLotGoes x)) _ _ s
  refine wpAny_noted ?_
  rw [turn_out]
  refine wpAny_bind (wpAny_standAt (wpAny_bind (wpAny_mono (turn n s hI) (fun r s₁ h₁ => ?_) fun _ _ h' => h')))
  cases r with
  | none => exact wpAny_pure h₁
  | some v =>
    refine wpAny_bind (wpAny_of_eq (show letOwnedTupleGo (.Name x px) it v = pure () from rfl) ?_)
    refine wpAny_bind (wpAny_mono h₁ (fun _ s₂ h₂ => wpAny_bind (wpAny_mono h₂ (fun y s₃ h₃ => wpAny_bind (wpAny_standAt (wpAny_bind (wpAny_of_eq (hs y) (wpAny_bind (wpAny_holding (wpAny_mono h₃ (fun i2 s₄ h₄ => ?_) fun _ _ h' => h'))))))) fun _ _ h' => h')) fun _ _ h' => h')
    refine wpAny_bind (wpAny_runOwn (by
      rw [Around.mark_none]
      refine codeAny_mono h₄ fun r s₅ h₅ => ?_
      obtain ⟨rfl, h₅⟩ := h₅
      exact wpAny_pure ⟨rfl, h₅⟩))
end
end

section
open PySem PySem.W PyProof.Rows PySem.Calls PySem.Spec
set_option maxRecDepth 100000
set_option maxHeartbeats 2000000
open LCg LCt
section
variable {prog : Program} {w : World} {A : Around} {E : Value → Shared → Prop} {s : Shared} {h₀ : Heap} {L : Addr} {m : Str → Option Value} {env : Env}
noncomputable abbrev iterObj (ax : Addr) : Obj := { cls := .type "list_iterator", data := .fields #[.ref ax, .int 0 0] }
noncomputable abbrev listO (its : Array Value) (k : Nat) : Obj := { cls := .type "list", data := .seq its k }
noncomputable def Yes2 (s : Shared) (h₀ : Heap) (L : Addr) (m : Str → Option Value) (nb : List (Addr × Obj)) (J : List Value → List (Addr × Obj) → Prop) (ys : List Value) (I : Addr) (oI : Obj) (C : Addr) (oC : Obj) (D : Addr) (yv : Value) (s' : Shared) : Prop :=
  ∃ h' tk' ex', s' = { s with heap := h', toks := tk' } ∧ Fr h₀ L h' m ∧ News h₀ L h' ((I, oI) :: (C, oC) :: (D, lst ys) :: (ex' ++ nb)) ∧ Off3 I C D (ex' ++ nb) ∧ J (ys ++ [yv]) ex'
noncomputable def No2 (s : Shared) (h₀ : Heap) (L : Addr) (m : Str → Option Value) (nb : List (Addr × Obj)) (J : List Value → List (Addr × Obj) → Prop) (ys : List Value) (ex : List (Addr × Obj)) (I : Addr) (oI : Obj) (C : Addr) (oC : Obj) (D : Addr) (s' : Shared) : Prop :=
  ∃ h' tk', s' = { s with heap := h', toks := tk' } ∧ Fr h₀ L h' m ∧ News h₀ L h' ((I, oI) :: (C, oC) :: (D, lst ys) :: (ex ++ nb)) ∧ J ys ex
/-- a turn of the inner loop: the test, and what is told where it holds -/
noncomputable def Turn2 (prog : Program) (w : World) (A : Around) (s : Shared) (h₀ : Heap) (L : Addr) (m : Str → Option Value) (env : Env) (ct elt : PySem.Expr) (x y : Str) (scope : Scope) (cl : List (Str × Addr)) (nb : List (Addr × Obj)) (J : List Value → List (Addr × Obj) → Prop) (v1 v2 : Value) : Prop :=
  ∀ ys ex I oI C oC D m₂ h tk (E' : Value → Shared → Prop), J ys ex → NsObj oC m₂ → m₂ x = some v1 → m₂ y = some v2 → Fr h₀ L h m → News h₀ L h ((I, oI) :: (C, oC) :: (D, lst ys) :: (ex ++ nb)) → Off3 I C D (ex ++ nb) → ((@Ne Nat I C) ∧ (@Ne Nat I D) ∧ (@Ne Nat C D)) →
    wpAny (model prog w) A (isTrue ct (compEnvC scope cl C env) (eval ct (compEnvC scope cl C env))) (fun ok s' => if ok = true then
      wpAny (model prog w) A (eval elt (compEnvC scope cl C env)) (fun yv s'' => Yes2 s h₀ L m nb J ys I oI C oC D yv s'') E' s'
      else No2 s h₀ L m nb J ys ex I oI C oC D s') E' { s with heap := h, toks := tk }
/-- what stands between the turns -/
structure Mid2 (h₀ : Heap) (L : Addr) (m : Str → Option Value) (x : Str) (v1 : Value) (C D : Addr) (nb : List (Addr × Obj)) (J : List Value → List (Addr × Obj) → Prop) (K : Nat) (h : Heap) (ys : List Value) (ex : List (Addr × Obj)) : Prop where
  fr : Fr h₀ L h m
  ns : ∃ m₂, h.Ns C m₂ ∧ m₂ x = some v1
  news : News h₀ L h ((D, lst ys) :: (ex ++ nb))
  offC : ∀ p ∈ ex ++ nb, p.1 ≠ C
  offD : ∀ p ∈ ex ++ nb, p.1 ≠ D
  len : ys.length ≤ K
  j : J ys ex
inductive InSt (s : Shared) (its : Array Value) (I ax : Addr) (h₀ : Heap) (L : Addr) (m : Str → Option Value) (x : Str) (v1 : Value) (C D : Addr) (nb : List (Addr × Obj)) (J : List Value → List (Addr × Obj) → Prop) (K : Nat) (n : Nat) (s' : Shared) : Prop
  | mk (h' tk' i ys' ex') : (s' = { s with heap := h', toks := tk' }) → (i ≤ its.size) → (n = its.size + 1 - i) → ((h'.IsListIter I ax i ∧ h'.IsList ax its)) → ((∀ p ∈ ex' ++ nb, p.1 ≠ I)) → (Mid2 h₀ L m x v1 C D nb J (K + i) h' ys' ex') → InSt s its I ax h₀ L m x v1 C D nb J K n s'
theorem comp_in {elt ct it1 it2 t1 : PySem.Expr} {x y : Str} {py : Pos} {scope : Scope} {cl : List (Str × Addr)} {pos : Pos} {C D ax : Addr} {its : Array Value} {k : Nat} {nb : List (Addr × Obj)} {v1 : Value} {J : List Value → List (Addr × Obj) → Prop}
    (hh : A.handled = none) (hkind : scope.kind = .function) (hy : scope.names.lookup y = some .local) (hxy : x ≠ y) (hax : (ax, listO its k) ∈ nb) (hCL : C ≠ L) (hDL : D ≠ L) (hCD : C ≠ D) (hC₀ : h₀.get? C = none) (hD₀ : h₀.get? D = none)
    (turn : ∀ (i : Nat) v2, its[i]? = some v2 → Turn2 prog w A s h₀ L m env ct elt x y scope cl nb J v1 v2)
    {K : Nat} (hK : K + its.size ≤ sizeLine) {R : Result → Shared → Prop} {h : Heap} {tk : Nat} {ys : List Value} {ex : List (Addr × Obj)} (M : Mid2 h₀ L m x v1 C D nb J K h ys ex)
    (hR : ∀ h' tk' ys' ex', Mid2 h₀ L m x v1 C D nb J (K + its.size) h' ys' ex' → R (.ok .next) { s with heap := h', toks := tk' }) :
    codeAny (model prog w) A (.compStart (twoFor elt it1 it2 ct t1 (.Name y py) scope pos) 1 (.ref h.objs.size) (.ref D) (compEnvC scope cl C env)) R { s with heap := h.push (iterObj ax), toks := tk } := by
  have ⟨F, ⟨m₁, hn₁, hm₁⟩, N, offC, offD, hlen, hJ⟩ := M
  have hl : h.IsList ax its := ⟨_, (N (ax, listO its k) (List.mem_cons_of_mem _ (List.mem_append_right _ hax))).1, rfl, _, rfl⟩
  have hlt : ax < h.objs.size := by obtain ⟨_, e, _⟩ := hl; exact Heap.lt_size e
  have hDlt : D < h.objs.size := Heap.lt_size (N (D, lst ys) List.mem_cons_self).1
  have hClt : C < h.objs.size := hn₁.lt
  have up : ∀ b o, h.get? b = some o → (h.push (iterObj ax)).get? b = some o := fun b o e => Heap.get?_push_of_some _ e
  have hI₀ : h₀.get? h.objs.size = none := next_is_new F
  have hIL : L ≠ h.objs.size := Nat.ne_of_lt F.ns.lt
  have hIlt : ∀ p ∈ ex ++ nb, p.1 < h.objs.size := fun p hp => Heap.lt_size (N p (List.mem_cons_of_mem _ hp)).1
  generalize hI : h.objs.size = I at *
  have W := Walks.list (prog := prog) (w := w) hh I ax (Nat.ne_of_lt hlt) its
  have hst : (h.push (iterObj ax)).IsListIter I ax 0 ∧ (h.push (iterObj ax)).IsList ax its := ⟨⟨_, hI ▸ Heap.get?_push_size _ rfl, rfl, rfl⟩, hl.push _⟩
  have loop : codeAny (model prog w) A (.compLoop (twoFor elt it1 it2 ct t1 (.Name y py) scope pos) 1 (.ref I) (.ref D) (compEnvC scope cl C env)) R { s with heap := h.push (iterObj ax), toks := tk } := by
    refine loop_in (InSt s its I ax h₀ L m x v1 C D nb J K) ?_ (its.size + 1)
      ⟨_, _, 0, ys, ex, rfl, Nat.zero_le _, rfl, hst, fun p hp => Nat.ne_of_lt (hIlt p hp), ⟨F.keeps up, ⟨m₁, hn₁.at' fun o e => up _ _ e, hm₁⟩, N.grown up, offC, offD, hlen, hJ⟩⟩
    intro n s' hP0
    refine Classical.byContradiction fun hG => ?_
    obtain ⟨h', tk', i, ys', ex', rfl, hi, rfl, hst', offI, ⟨F', ⟨m', hn', hm'⟩, N', offC', offD', hlen', hJ'⟩⟩ := hP0
    refine hG ?_
    clear hG
    by_cases hlt' : i < its.size
    · refine W.item i _ _ _ hlt' hst' fun v h₂ tk₂ hPv hst₂ hk₂ => ?_
      have hn₂ : h₂.Ns C m' := hn'.at' fun o e => hk₂ _ o (by simpa using Nat.ne_of_lt hClt) e
      have F₂ : Fr h₀ L h₂ m := fr_but F' hk₂ hIL hI₀
      have N₂ : News h₀ L h₂ ((D, lst ys') :: (ex' ++ nb)) := news_but N' hk₂ fun p hp => by
        rcases List.mem_cons.mp hp with rfl | hp
        · exact Nat.ne_of_lt hDlt
        · exact offI p hp
      refine wpAny_assign_Name (wpAny_storeName_local (lookup_relabel_local hy) hn₂ (fun h₃ hn₃ hs₃ => ?_) (by simp [compEnvC, relabel, hkind]))
      have hs₃ : Heap.SameBut C h₂ h₃ := hs₃
      have hst₃ : h₃.IsListIter I ax (i + 1) ∧ h₃.IsList ax its := W.frame _ _ _ hst₂ fun b hb o e => hs₃.extBut b o (fun q => by
        rcases List.mem_cons.mp hb with rfl | hb
        · exact absurd (q ▸ hClt) (Nat.lt_irrefl _)
        · rw [List.mem_singleton.mp hb] at q
          exact offC _ (List.mem_append_right _ hax) q) e
      obtain ⟨oI, heI⟩ : ∃ o, h₃.get? I = some o := by obtain ⟨o, e, _⟩ := hst₃.1; exact ⟨o, e⟩
      obtain ⟨oC, heC, hoC⟩ := ns_obj hn₃
      have F₃ : Fr h₀ L h₃ m := F₂.change hs₃ hCL hC₀
      have N₃ : News h₀ L h₃ ((I, oI) :: (C, oC) :: (D, lst ys') :: (ex' ++ nb)) := fun p hp => by
        rcases List.mem_cons.mp hp with rfl | hp
        · exact ⟨heI, Ne.symm hIL, hI₀⟩
        · rcases List.mem_cons.mp hp with rfl | hp
          · exact ⟨heC, hCL, hC₀⟩
          · have z := N₂ p hp
            refine ⟨hs₃.extBut _ _ ?_ z.1, z.2⟩
            rcases List.mem_cons.mp hp with rfl | hp
            · exact Ne.symm hCD
            · exact offC' p hp
      refine wpAny_mono (turn i v hPv ys' ex' I oI C oC D _ h₃ _ _ hJ' hoC (by simp [hxy, hm']) (by simp) F₃ N₃ (Off3.of fun p hp => ⟨offI p hp, offC' p hp, offD' p hp⟩) ⟨Ne.symm (Nat.ne_of_lt hClt), Ne.symm (Nat.ne_of_lt hDlt), hCD⟩) (fun ok s₄ h₄ => ?_) fun _ _ e => e
      cases ok with
      | true =>
        rw [if_pos rfl] at h₄ ⊢
        refine wpAny_mono h₄ (fun yv s₅ h₅ => ?_) fun _ _ e => e
        obtain ⟨h₄, tk₄, ex₄, rfl, F₄, N₄, off₄, hJ₄⟩ := h₅
        have zI := (N₄ (I, oI) List.mem_cons_self).1
        have zC := (N₄ (C, oC) (List.mem_cons_of_mem _ List.mem_cons_self)).1
        have zD := (N₄ (D, lst ys') (List.mem_cons_of_mem _ (List.mem_cons_of_mem _ List.mem_cons_self))).1
        have N₄' : News h₀ L h₄ (ex₄ ++ nb) := fun p hp => N₄ p (List.mem_cons_of_mem _ (List.mem_cons_of_mem _ (List.mem_cons_of_mem _ hp)))
        have off4 := off₄.mem
        have hst₄ : h₄.IsListIter I ax (i + 1) ∧ h₄.IsList ax its := ⟨by obtain ⟨o', q, r⟩ := hst₃.1; rw [heI] at q; cases q; exact ⟨_, zI, r⟩, ⟨_, (N₄' (ax, listO its k) (List.mem_append_right _ hax)).1, rfl, _, rfl⟩⟩
        refine append_at (hsz := by show ys'.toArray.size ≤ sizeLine; rw [List.size_toArray]; omega) zD fun h₅ hs₅ hD₅ => ?_
        refine ⟨its.size + 1 - (i + 1), by omega, h₅, tk₄, i + 1, ys' ++ [yv], ex₄, rfl, hlt', rfl, W.frame _ _ _ hst₄ fun b hb o e => hs₅.extBut b o (fun q => by
            rcases List.mem_cons.mp hb with rfl | hb
            · exact absurd (q ▸ hDlt) (Nat.lt_irrefl _)
            · rw [List.mem_singleton.mp hb] at q
              exact (off4 _ (List.mem_append_right _ hax)).2.2 q) e, fun p hp => (off4 p hp).1, ⟨F₄.change hs₅ hDL hD₀, ⟨_, (hoC.ns zC).sameBut hs₅ hCD, by simp [hxy, hm']⟩, fun p hp => ?_, fun p hp => (off4 p hp).2.1, fun p hp => (off4 p hp).2.2, by rw [List.length_append, List.length_singleton]; omega, hJ₄⟩⟩
        rcases List.mem_cons.mp hp with rfl | hp
        · exact ⟨hD₅.trans (congrArg some (lst_snoc ys' yv)), hDL, hD₀⟩
        · exact ⟨hs₅.extBut _ _ (off4 p hp).2.2 (N₄' p hp).1, (N₄' p hp).2⟩
      | false =>
        rw [if_neg (by simp)] at h₄ ⊢
        obtain ⟨h₅, tk₄, rfl, F₄, N₄, hJ₄⟩ := h₄
        have zI := (N₄ (I, oI) List.mem_cons_self).1
        have zC := (N₄ (C, oC) (List.mem_cons_of_mem _ List.mem_cons_self)).1
        have N₄' : News h₀ L h₅ ((D, lst ys') :: (ex' ++ nb)) := fun p hp => N₄ p (List.mem_cons_of_mem _ (List.mem_cons_of_mem _ hp))
        exact ⟨its.size + 1 - (i + 1), by omega, h₅, tk₄, i + 1, ys', ex', rfl, hlt', rfl, ⟨by obtain ⟨o', q, r⟩ := hst₃.1; rw [heI] at q; cases q; exact ⟨_, zI, r⟩, ⟨_, (N₄' (ax, listO its k) (List.mem_cons_of_mem _ (List.mem_append_right _ hax))).1, rfl, _, rfl⟩⟩, offI,
          ⟨F₄, ⟨_, hoC.ns zC, by simp [hxy, hm']⟩, N₄', offC', offD', by omega, hJ₄⟩⟩
    · obtain rfl : i = its.size := Nat.le_antisymm hi (Nat.not_lt.mp hlt')
      refine W.done _ _ _ hst' fun h₂ tk₂ hk₂ => ?_
      exact hR h₂ tk₂ ys' ex' ⟨fr_but F' hk₂ hIL hI₀, ⟨m', hn'.at' fun o e => hk₂ _ o (by simpa using Nat.ne_of_lt hClt) e, hm'⟩, news_but N' hk₂ fun p hp => by
        rcases List.mem_cons.mp hp with rfl | hp
        · exact Nat.ne_of_lt hDlt
        · exact offI p hp, offC', offD', hlen', hJ'⟩
  exact start_in loop (W.self 0 _ _ _ hst loop)
end
end

section
open PySem PySem.W PyProof.Rows PySem.Calls PySem.Spec
set_option maxRecDepth 100000
set_option maxHeartbeats 2000000
open LCg LCt
section
variable {prog : Program} {w : World} {A : Around} {E : Value → Shared → Prop} {s : Shared} {h₀ : Heap} {L : Addr} {m : Str → Option Value} {env : Env}
inductive OutSt (s₂ : Shared) (its1 its2 : Array Value) (I a1 : Addr) (h₀ : Heap) (L : Addr) (m : Str → Option Value) (C D : Addr) (news : List (Addr × Obj)) (J : List Value → List (Addr × Obj) → Prop) (n : Nat) (s' : Shared) : Prop
  | mk (h' tk' i ys' ex' m') : (s' = { s₂ with heap := h', toks := tk' }) → (i ≤ its1.size) → (n = its1.size + 1 - i) → ((h'.IsListIter I a1 i ∧ h'.IsList a1 its1)) → (Fr h₀ L h' m) → (h'.Ns C m') → (News h₀ L h' ((D, lst ys') :: (ex' ++ news))) → ((∀ p ∈ ex' ++ news, p.1 ≠ C)) → ((∀ p ∈ ex' ++ news, p.1 ≠ D)) → ((∀ p ∈ ex' ++ news, p.1 ≠ I)) → (ys'.length ≤ i * its2.size) → (J ys' ex') → OutSt s₂ its1 its2 I a1 h₀ L m C D news J n s'
theorem comp_out {elt ct it1 : PySem.Expr} {x y z : Str} {px py pz : Pos} {scope : Scope} {cl : List (Str × Addr)} {pos : Pos} {a1 a2 c : Addr} {oc : Obj} {its1 its2 : Array Value} {k1 k2 : Nat} {news : List (Addr × Obj)} {J : List Value → List (Addr × Obj) → Prop} {s₂ : Shared} {RR : Value → Addr → Result → Shared → Prop}
    (hh : A.handled = none) (hcell : ∀ y ∈ scope.names, y.2 ≠ .cell) (hkind : scope.kind = .function) (hx : scope.names.lookup x = some .local) (hy : scope.names.lookup y = some .local) (hxy : x ≠ y)
    (hz : ∀ C, (compEnvC scope cl C env).kindOf z = some .cell) (hc : cl.lookup z = some c) (hcm : (c, oc) ∈ news) (hcd : oc.data = .cell (some (.ref a2))) (hzd : (z == ("__debug__" : Str)) = false)
    (h1 : (a1, listO its1 k1) ∈ news) (h2 : (a2, listO its2 k2) ∈ news) (hsz : its1.size * its2.size ≤ sizeLine)
    (turn : ∀ (i j : Nat) v1 v2 I1 oI1, its1[i]? = some v1 → its2[j]? = some v2 → Turn2 prog w A s₂ h₀ L m env ct elt x y scope cl ((I1, oI1) :: news) J v1 v2)
    {h : Heap} (hs₂ : s₂.heap = h.push (iterObj a1)) (F : Fr h₀ L h m) (N : News h₀ L h news) (hJ : J [] []) (hJc : ∀ ys ex, J ys ex → ∀ q ∈ ex, q.2.cls = .type "list")
    (hRR : ∀ D C h' tk' ys' ex' m', Fr h₀ L h' m → h'.Ns C m' → News h₀ L h' ((D, lst ys') :: (ex' ++ news)) → (∀ p ∈ (D, lst ys') :: (ex' ++ news), p.1 ≠ C) → (∀ p ∈ ex' ++ news, p.1 ≠ D) → C ≠ L → h₀.get? C = none → J ys' ex' → ys'.length ≤ its1.size * its2.size → RR (.ref D) C (.ok .next) { s₂ with heap := h', toks := tk' }) :
    wpAny (model prog w) A (newList []) (fun acc s₃ => wpAny (model prog w) A (newFunctionEnv scope env.globals cl [] env.qual none .none (some env)) (fun cenv s₄ =>
      codeAny (model prog w) A (.compStart (twoFor elt it1 (.Name z pz) ct (.Name x px) (.Name y py) scope pos) 0 (.ref h.objs.size) acc { cenv with scope := relabel scope env }) (RR acc cenv.locals) s₄) E s₃) E s₂ := by
  refine wpAny_newObj_type (wpAny_newFunctionEnv hcell (by intro y hy; simp at hy) (fun h₁ hns₁ hsb₁ => ?_) hkind)
  dsimp only at hns₁ hsb₁ ⊢
  generalize hH2 : s₂.heap.push { cls := .type "list", dict := none, data := .seq ([] : List Value).toArray } = H2 at hns₁ hsb₁ ⊢
  have hS : s₂.heap.objs.size = h.objs.size + 1 := by rw [hs₂, Heap.size_push]
  have hC : H2.objs.size = h.objs.size + 2 := by rw [← hH2, Heap.size_push, hS]
  generalize hDe : s₂.heap.objs.size = D at *
  generalize hCe : H2.objs.size = C at *
  have hl1 : h.IsList a1 its1 := ⟨_, (N _ h1).1, rfl, _, rfl⟩
  have hlt1 : @LT.lt Nat _ a1 h.objs.size := by obtain ⟨_, e, _⟩ := hl1; exact Heap.lt_size e
  have up : ∀ b o, h.get? b = some o → h₁.get? b = some o := fun b o e => by
    have hb := Heap.lt_size e
    have hb : @LT.lt Nat _ b h.objs.size := hb
    refine hsb₁.extBut b o (show @Ne Nat b C by omega) (Heap.get?_push_of_some _ ?_)
    rw [← hH2]
    exact Heap.get?_push_of_some _ (by rw [hs₂]; exact Heap.get?_push_of_some _ e)
  have hacc : h₁.get? D = some (lst []) := hsb₁.extBut _ _ (show @Ne Nat D C by omega) (Heap.get?_push_of_some _ (by rw [← hH2, ← hDe]; exact Heap.get?_push_size _ rfl))
  have hI₁ : h₁.get? h.objs.size = some (iterObj a1) := hsb₁.extBut _ _ (show @Ne Nat h.objs.size C by omega) (Heap.get?_push_of_some _ (by rw [← hH2]; exact Heap.get?_push_of_some _ (by rw [hs₂]; exact Heap.get?_push_size _ rfl)))
  have hh₀ : ∀ a : Nat, h.objs.size ≤ a → h₀.get? a = none := fun a ha => Heap.get?_none_of_le (by have a1 : @LE.le Nat _ h₀.objs.size L := F.above; have a2 : @LT.lt Nat _ L h.objs.size := F.ns.lt; omega)
  have hD₀ : h₀.get? D = none := hh₀ _ (by omega)
  have hC₀ : h₀.get? C = none := hh₀ _ (by omega)
  have hI₀ : h₀.get? h.objs.size = none := hh₀ _ (Nat.le_refl _)
  have hLlt : @LT.lt Nat _ L h.objs.size := F.ns.lt
  have hCL : @Ne Nat C L := by omega
  have hDL : @Ne Nat D L := by omega
  have hCD : @Ne Nat C D := by omega
  have hlt : ∀ p ∈ news, @LT.lt Nat _ p.1 h.objs.size := fun p hp => Heap.lt_size (N p hp).1
  generalize hIe : h.objs.size = I at *
  have hIL : @Ne Nat L I := by omega
  have W := Walks.list (prog := prog) (w := w) hh I a1 (show @Ne Nat a1 I by omega) its1
  have hst : h₁.IsListIter I a1 0 ∧ h₁.IsList a1 its1 := ⟨⟨_, hI₁, rfl, rfl⟩, by obtain ⟨o, e, r⟩ := hl1; exact ⟨o, up _ _ e, r⟩⟩
  have loop : ∀ s₃ : Shared, s₃ = { s₂ with heap := h₁, toks := s₂.toks + ([] : List (Str × Value)).length } →
      codeAny (model prog w) A (.compLoop (twoFor elt it1 (.Name z pz) ct (.Name x px) (.Name y py) scope pos) 0 (.ref I) (.ref D) (compEnvC scope cl C env)) (RR (.ref D) C) s₃ := by
    rintro s₃ rfl
    refine loop_out (OutSt s₂ its1 its2 I a1 h₀ L m C D news J) ?_ (its1.size + 1)
      ⟨_, _, 0, [], [], _, rfl, Nat.zero_le _, rfl, hst, F.keeps up, hns₁, fun p hp => ?_, fun p hp => by have := hlt p hp; show @Ne Nat p.1 C; omega, fun p hp => by have := hlt p hp; show @Ne Nat p.1 D; omega, fun p hp => by have := hlt p hp; show @Ne Nat p.1 I; omega, Nat.zero_le _, hJ⟩
    · intro n s' hP0
      refine Classical.byContradiction fun hG => ?_
      obtain ⟨h', tk', i, ys', ex', m', rfl, hi, rfl, hst', F', hn', N', offC, offD, offI, hlen, hJ'⟩ := hP0
      refine hG ?_
      clear hG
      by_cases hlt' : i < its1.size
      · refine W.item i _ _ _ hlt' hst' fun v h₂ tk₂ hPv hst₂ hk₂ => ?_
        have hn₂ : h₂.Ns C m' := hn'.at' fun o e => hk₂ _ o (by simpa using (show @Ne Nat C I by omega)) e
        have F₂ : Fr h₀ L h₂ m := fr_but F' hk₂ hIL hI₀
        have N₂ : News h₀ L h₂ ((D, lst ys') :: (ex' ++ news)) := news_but N' hk₂ fun p hp => by
          rcases List.mem_cons.mp hp with rfl | hp
          · show @Ne Nat D I; omega
          · exact offI p hp
        refine wpAny_assign_Name (wpAny_storeName_local (lookup_relabel_local hx) hn₂ (fun h₃ hn₃ hs₃ => ?_) (by simp [compEnvC, relabel, hkind]))
        have hs₃ : Heap.SameBut C h₂ h₃ := hs₃
        have hst₃ : h₃.IsListIter I a1 (i + 1) ∧ h₃.IsList a1 its1 := W.frame _ _ _ hst₂ fun b hb o e => hs₃.extBut b o (fun q => by
          rcases List.mem_cons.mp hb with rfl | hb
          · exact absurd q (show @Ne Nat b C by omega)
          · rw [List.mem_singleton.mp hb] at q; exact absurd q (show @Ne Nat a1 C by omega)) e
        have F₃ : Fr h₀ L h₃ m := F₂.change hs₃ hCL hC₀
        have N₃ : News h₀ L h₃ ((D, lst ys') :: (ex' ++ news)) := fun p hp => by
          have q := N₂ p hp
          refine ⟨hs₃.extBut _ _ ?_ q.1, q.2⟩
          rcases List.mem_cons.mp hp with rfl | hp
          · exact Ne.symm hCD
          · exact offC p hp
        have hcN := (N₃ (c, oc) (List.mem_cons_of_mem _ (List.mem_append_right _ hcm))).1
        refine wpAny_Name (wpAny_loadName_cell (by simp [compEnvC, relabel, hkind]) (hz C) hc ⟨oc, hcN, hcd⟩ ?_) hzd
        have hl2 : h₃.IsList a2 its2 := ⟨_, (N₃ (a2, listO its2 k2) (List.mem_cons_of_mem _ (List.mem_append_right _ h2))).1, rfl, _, rfl⟩
        refine wpAny_pyIter_list hl2 ?_
        obtain ⟨oI, heI⟩ : ∃ o, h₃.get? I = some o := by obtain ⟨o, e, _⟩ := hst₃.1; exact ⟨o, e⟩
        have e1 : (i + 1) * its2.size = i * its2.size + its2.size := Nat.succ_mul _ _
        have e2 : (i + 1) * its2.size ≤ its1.size * its2.size := Nat.mul_le_mul_right _ hlt'
        have sw : ∀ {p : Addr × Obj}, p ∈ ex' ++ (I, oI) :: news → p = (I, oI) ∨ p ∈ ex' ++ news := fun {p} hp => by
          rcases List.mem_append.mp hp with hp | hp
          · exact .inr (List.mem_append_left _ hp)
          · rcases List.mem_cons.mp hp with hp | hp
            · exact .inl hp
            · exact .inr (List.mem_append_right _ hp)
        refine comp_in (s := s₂) (nb := (I, oI) :: news) (J := J) (x := x) (v1 := v) (K := i * its2.size) hh hkind hy hxy (List.mem_cons_of_mem _ h2) hCL hDL hCD hC₀ hD₀ (fun j v2 hv2 => turn i j v v2 I oI hPv hv2) (by omega) (h := h₃) ⟨F₃, ⟨_, hn₃, by simp⟩, fun p hp => ?_, fun p hp => ?_, fun p hp => ?_, hlen, hJ'⟩ ?_
        · rcases List.mem_cons.mp hp with rfl | hp
          · exact N₃ _ List.mem_cons_self
          · rcases sw hp with rfl | hp
            · exact ⟨heI, Ne.symm hIL, hI₀⟩
            · exact N₃ _ (List.mem_cons_of_mem _ hp)
        · rcases sw hp with rfl | hp
          · show @Ne Nat I C; omega
          · exact offC p hp
        · rcases sw hp with rfl | hp
          · show @Ne Nat I D; omega
          · exact offD p hp
        · intro h₄ tk₄ ys₄ ex₄ hP0
          refine Classical.byContradiction fun hG => ?_
          obtain ⟨F₄, ⟨m₄, hn₄, _⟩, N₄, offC₄, offD₄, hlen₄, hJ₄⟩ := hP0
          refine hG ?_
          clear hG
          have wk : ∀ {p : Addr × Obj}, p ∈ ex₄ ++ news → p ∈ ex₄ ++ (I, oI) :: news := fun {p} hp => by
            rcases List.mem_append.mp hp with hp | hp
            · exact List.mem_append_left _ hp
            · exact List.mem_append_right _ (List.mem_cons_of_mem _ hp)
          have zI := (N₄ (I, oI) (List.mem_cons_of_mem _ (List.mem_append_right _ List.mem_cons_self))).1
          have N₅ : News h₀ L h₄ ((D, lst ys₄) :: (ex₄ ++ news)) := fun p hp => by
            rcases List.mem_cons.mp hp with rfl | hp
            · exact N₄ _ List.mem_cons_self
            · exact N₄ _ (List.mem_cons_of_mem _ (wk hp))
          have hit : h₄.IsListIter I a1 (i + 1) := by obtain ⟨o', q, r⟩ := hst₃.1; rw [heI] at q; cases q; exact ⟨_, zI, r⟩
          refine ⟨rfl, its1.size + 1 - (i + 1), by omega, h₄, tk₄, i + 1, ys₄, ex₄, m₄, rfl, hlt', rfl, ⟨hit, ⟨_, (N₅ (a1, listO its1 k1) (List.mem_cons_of_mem _ (List.mem_append_right _ h1))).1, rfl, _, rfl⟩⟩, F₄, hn₄, N₅, fun p hp => offC₄ p (wk hp), fun p hp => offD₄ p (wk hp), fun p hp => ?_, by omega, hJ₄⟩
          rcases List.mem_append.mp hp with hp | hp
          · intro e
            have a1 := (N₅ p (List.mem_cons_of_mem _ (List.mem_append_left _ hp))).1
            obtain ⟨o', q, r, _⟩ := hit
            have e' : p.1 = I := e
            rw [e', q] at a1
            have := hJc _ _ hJ₄ p hp
            rw [← Option.some.inj a1, r] at this
            exact absurd this (by decide)
          · exact offI p (List.mem_append_right _ hp)
      · obtain rfl : i = its1.size := Nat.le_antisymm hi (Nat.not_lt.mp hlt')
        refine W.done _ _ _ hst' fun h₂ tk₂ hk₂ => ?_
        refine hRR D C h₂ tk₂ ys' ex' m' (fr_but F' hk₂ hIL hI₀) (hn'.at' fun o e => hk₂ _ o (by simpa using (show @Ne Nat C I by omega)) e) (news_but N' hk₂ fun p hp => ?_) (fun p hp => ?_) offD hCL hC₀ hJ' hlen
        · rcases List.mem_cons.mp hp with rfl | hp
          · show @Ne Nat D I; omega
          · exact offI p hp
        · rcases List.mem_cons.mp hp with rfl | hp
          · exact Ne.symm hCD
          · exact offC p hp
    · rcases List.mem_cons.mp hp with rfl | hp
      · exact ⟨hacc, hDL, hD₀⟩
      · exact ⟨up _ _ (N p hp).1, (N p hp).2⟩
  exact codeAny_compStart_list (loop _ rfl) (W.self 0 _ _ _ hst (loop _ rfl))
end
end

section
open PySem PySem.W PyProof.Rows PySem.Calls PySem.Spec
set_option maxRecDepth 100000
set_option maxHeartbeats 2000000
open LCg LCt
section
variable {prog : Program} {w : World} {A : Around} {E : Value → Shared → Prop} {s : Shared} {h₀ : Heap} {L : Addr} {m : Str → Option Value} {env : Env}
theorem assign_two {elt ct : PySem.Expr} {x y z z1 tgt : Str} {px py pz pz1 pt : Pos} {scope : Scope} {cl : List (Str × Addr)} {pos spos : Pos} {a1 a2 c : Addr} {oc : Obj} {its1 its2 : Array Value} {k1 k2 : Nat} {news : List (Addr × Obj)} {J : List Value → List (Addr × Obj) → Prop} {Q : Flow → Shared → Prop}
    (hLe : env.locals = L)
    (hsw : swapsWith (twoFor elt (.Name z1 pz1) (.Name z pz) ct (.Name x px) (.Name y py) scope pos) (some (.Name tgt pt)) spos.line env = pure true)
    (hclos : closureFor scope env = pure cl) (hnames : ∀ z ∈ scope.names, z.2 = .local → scope.names.lookup z.1 = some .local)
    (hy' : env.kindOf tgt = some .local) (hp : (env.scope.kind == .class || (env.scope.kind == .module && env.locals != env.globals)) = false) (hek : env.scope.kind = .function) (hz1 : env.kindOf z1 = some .local)
    (hh : A.handled = none) (hcell : ∀ y ∈ scope.names, y.2 ≠ .cell) (hkind : scope.kind = .function) (hx : scope.names.lookup x = some .local) (hy : scope.names.lookup y = some .local) (hxy : x ≠ y)
    (hz : ∀ C, (compEnvC scope cl C env).kindOf z = some .cell) (hc : cl.lookup z = some c) (hzd : (z == ("__debug__" : Str)) = false) (hzd1 : (z1 == ("__debug__" : Str)) = false)
    (F : Fr h₀ L s.heap m) (N : News h₀ L s.heap news) (hm : m z1 = some (.ref a1)) (hcm : (c, oc) ∈ news) (hcd : oc.data = .cell (some (.ref a2)))
    (h1 : (a1, listO its1 k1) ∈ news) (h2 : (a2, listO its2 k2) ∈ news) (hsz : its1.size * its2.size ≤ sizeLine)
    (hJ : J [] []) (hJc : ∀ ys ex, J ys ex → ∀ q ∈ ex, q.2.cls = .type "list")
    (turn : ∀ (g : Heap) (i j : Nat) v1 v2 I1 oI1, its1[i]? = some v1 → its2[j]? = some v2 → Turn2 prog w A { s with heap := g } h₀ L m env ct elt x y scope cl ((I1, oI1) :: news) J v1 v2)
    (hQ : ∀ D h' tk' ys' ex', Fr h₀ L h' (fun q => if q = tgt then some (.ref D) else m q) → News h₀ L h' ((D, lst ys') :: (ex' ++ news)) → (∀ p ∈ ex' ++ news, p.1 ≠ D) → J ys' ex' → ys'.length ≤ its1.size * its2.size → Q .next { s with heap := h', toks := tk' }) :
    wpAny (model prog w) A (exec (.Assign [.Name tgt pt] (twoFor elt (.Name z1 pz1) (.Name z pz) ct (.Name x px) (.Name y py) scope pos) spos) env) Q E s := by
  subst hLe
  rw [exec_Assign_Name_used _ _ _ _ hsw]
  refine wpAny_bind (wpAny_standAt (wpAny_bind ?_))
  show wpAny _ A (do let _ ← comprehension (twoFor elt (.Name z1 pz1) (.Name z pz) ct (.Name x px) (.Name y py) scope pos) scope env _ (newList []) false (eval (.Name z1 pz1) env) (some (assign (.Name tgt pt) env))) _ _ s
  refine wpAny_bind (wpAny_mono (wpAny_comprehension_free (use := some (assign (.Name tgt pt) env)) (Q := fun _ s' => Q .next s') rfl (by intro _; rfl) hclos hkind hnames
    (wpAny_Name (wpAny_loadName_local hek hz1 F.ns hm ?_) hzd1)) (fun _ s' hq => wpAny_pure (wpAny_pure hq)) fun _ _ e => e)
  refine wpAny_pyIter_list ⟨_, (N _ h1).1, rfl, _, rfl⟩ ?_
  refine comp_out (s₂ := { s with heap := s.heap.push (iterObj a1) }) hh hcell hkind hx hy hxy hz hc hcm hcd hzd h1 h2 hsz (turn _) rfl F N hJ hJc ?_
  intro D C h' tk' ys' ex' m' F' hn' N' offC offD hCL hC₀ hJ' hlen'
  show wpAny _ A (assign (.Name tgt pt) env (.ref D)) _ _ _
  refine wpAny_assign_Name (wpAny_storeName_local hy' F'.ns (fun h₂ hn₂ hs₂ => ?_) hp)
  have hL₀ : h₀.get? env.locals = none := Heap.get?_none_of_le F'.above
  have F₂ : Fr h₀ env.locals h₂ (fun q => if q = tgt then some (.ref D) else m q) := ⟨hn₂, fun b o e => hs₂.extBut b o (fun q => by rw [q, hL₀] at e; cases e) (F'.keep b o e), F'.above⟩
  refine ⟨m', hn'.sameBut hs₂ hCL, fun h'' hs'' => hQ D h'' _ ys' ex' (F₂.change hs'' hCL hC₀) (fun p hp => ?_) offD hJ' hlen'⟩
  have q : h₂.get? p.1 = some p.2 := hs₂.extBut _ _ (N' p hp).2.1 (N' p hp).1
  exact ⟨hs''.extBut _ _ (offC p hp) q, (N' p hp).2⟩
end
end

section
open PySem PySem.W PyProof.Rows PySem.Calls PySem.Spec
set_option maxRecDepth 100000
set_option maxHeartbeats 2000000
/-- one-letter texts -/
noncomputable def Lets (ws : List Str) : Prop := ∀ z ∈ ws, ∃ c, z = ⟨#[c]⟩ ∧ (c = 115 ∨ c = 116)
section
variable {prog : Program} {w : World} {A : Around} {E : Value → Shared → Prop} {s : Shared} {h₀ : Heap} {L : Addr} {m : Str → Option Value} {news : List (Addr × Obj)}
theorem paired_eq : ∀ {vs ys : List Value}, Paired (fun v r => r = v) vs ys → ys = vs
  | _, _, .nil => rfl
  | _, _, .cons h r => by rw [h, paired_eq r]
theorem signs_at {y : Str} {vs : List Value} (hlen : vs.length = y.cps.size) (hP : ∀ (j : Nat) (v : Value), vs[j]? = some v → SignAt y j v) : StrsAre vs (PyProof.Rows.signs y) := by
  have key : ∀ (l : List Nat) (vs : List Value), vs.length = l.length → (∀ (j : Nat) (v : Value), vs[j]? = some v → ∃ c u, l[j]? = some c ∧ v = .str ⟨#[c]⟩ u) → StrsAre vs (l.map fun n => ⟨#[n]⟩) := by
    intro l
    induction l with
    | nil => intro vs hl _; rw [List.length_eq_zero_iff.mp hl]; exact .nil
    | cons c l ih =>
      intro vs hl h
      cases vs with
      | nil => simp at hl
      | cons v vs =>
        obtain ⟨c', u, e, rfl⟩ := h 0 v rfl
        have : c = c' := by simpa using e
        subst this
        refine .cons _ _ (ih vs (by simpa using hl) fun j v hv => ?_)
        obtain ⟨c', u, e, r⟩ := h (j + 1) v (by simpa using hv)
        exact ⟨c', u, by simpa using e, r⟩
  refine key y.cps.toList vs (by simpa using hlen) fun j v hv => ?_
  obtain ⟨c, u, e, r⟩ := hP j v hv
  exact ⟨c, u, by simpa using e, r⟩
theorem letters_src {env : Env} {x z : Str} {pz : Pos} {scope : Scope} {Q : Flow → Shared → Prop} {y : Str} {t : Tok} (hLe : env.locals = L) (hk : scope.kind = .function) (hx : ∀ C, (compEnv scope C env).kindOf x = some .local) (hd : (x == ("__debug__" : Str)) = false)
    (hh : A.handled = none) (F : Fr h₀ L s.heap m) (N : News h₀ L s.heap news) (hsz : y.length ≤ sizeLine)
    (hQ : ∀ D vs n h' tk, Fr h₀ L h' (fun q => if q = z then some (.ref D) else m q) → News h₀ L h' ((D, listOf (List.toArray vs) n) :: news) → (∀ p ∈ news, p.1 ≠ D) → StrsAre vs (PyProof.Rows.signs y) → Q .next { s with heap := h', toks := tk }) :
    wpAny (model prog w) A (pyIter (.str y t)) (CompPostA prog w A env scope x z [] (.Name x pz) Q) E s := by
  subst hLe
  unfold CompPostA
  refine wpAny_pyIter_str fun o St W hst => ?_
  refine ⟨fun _ => true, fun v r => r = v, s.heap.objs.size, [s.heap.objs.size], [s.heap.objs.size], y.cps.size, SignAt y, St, m, rfl, W A hh, hsz, hst, ?_, ?_, (F.push o).ns, ⟨?_, ?_⟩, ?_⟩
  · intro b hb
    show b < (s.heap.push o).objs.size
    rw [Heap.size_push, List.mem_singleton.mp hb]
    exact Nat.lt_succ_self _
  · intro hm
    exact absurd F.ns.lt ((List.mem_singleton.mp hm) ▸ Nat.lt_irrefl _)
  · intro C i v s₃ m₃ E' _ _ _ _ _
    exact wpAny_tests_nil ⟨rfl, _, _, rfl, fun _ _ e => e⟩
  · intro C i v s₃ m₃ E' _ _ hn hm _ _
    exact wpAny_Name (wpAny_loadName_local (by simpa [compEnv] using hk) (hx C) hn hm ⟨rfl, _, _, rfl, fun _ _ e => e⟩) hd
  · intro D h' tk ys vs hnew hlD hplD hlen hP hF hn' hk
    have hys : ys.toList = vs := by
      have := paired_eq hF
      rw [this]
      exact List.filter_eq_self.mpr fun _ _ => rfl
    obtain ⟨n, hg⟩ := hplD
    have hne : ∀ p ∈ news, p.1 ≠ D := fun p hp e => by rw [← e, Heap.get?_push_of_some _ (N p hp).1] at hnew; cases hnew
    have hD₀ : h₀.get? D = none := by
      cases e : h₀.get? D with
      | none => rfl
      | some o' => rw [Heap.get?_push_of_some _ (F.keep _ _ e)] at hnew; cases hnew
    have hDL : D ≠ env.locals := by
      rintro rfl
      obtain ⟨o', _, _, e, _⟩ := F.ns
      rw [Heap.get?_push_of_some _ e] at hnew; cases hnew
    refine hQ D vs n h' tk ⟨hn', fun b o' e => hk b o' (Nat.ne_of_lt (Nat.lt_of_lt_of_le (Heap.lt_size e) F.above)) (old_not_new (F.keep b o' e)) (Heap.get?_push_of_some _ (F.keep b o' e)), F.above⟩ (fun p hp => ?_) hne (signs_at hlen hP)
    rcases List.mem_cons.mp hp with rfl | hp
    · refine ⟨?_, hDL, hD₀⟩
      show h'.get? D = some (listOf vs.toArray n)
      rw [hg, ← hys, Array.toArray_toList]
    · exact ⟨hk _ _ (N p hp).2.1 (old_not_new (N p hp).1) (Heap.get?_push_of_some _ (N p hp).1), (N p hp).2⟩
theorem strs_set {y : Str} {t : Tok} : ∀ {vs : List Value} {ws : List Str} (k : Nat), StrsAre vs ws → StrsAre (vs.set k (.str y t)) (ws.set k y)
  | _, _, _, .nil => .nil
  | _, _, 0, .cons z u r => .cons y t r
  | _, _, k + 1, .cons z u r => .cons z u (strs_set k r)
theorem lets_set {ws : List Str} {c : Nat} (k : Nat) (h : Lets ws) (hc : c = 115 ∨ c = 116) : Lets (ws.set k ⟨#[c]⟩) := fun z hz => by
  rcases List.mem_or_eq_of_mem_set hz with hz | rfl
  · exact h z hz
  · exact ⟨c, rfl, hc⟩
theorem set_let {Q : Unit → Shared → Prop} {D : Addr} {vs : List Value} {ws : List Str} {n : Nat} {k : Int} {t u : Tok} {y : Str} {c N₀ : Nat} (hy : y = ⟨#[c]⟩) (hc : c = 115 ∨ c = 116) (F : Fr h₀ L s.heap m) (N : News h₀ L s.heap ((D, listOf vs.toArray n) :: news)) (hne : ∀ p ∈ news, p.1 ≠ D)
    (hi : StrsAre vs ws) (hw : Lets ws ∧ ws.length = N₀) (hN : N₀ ≤ 10) (h0 : 0 ≤ k) (h1 : k < N₀)
    (h : ∀ h' vs' ws', Fr h₀ L h' m → News h₀ L h' ((D, listOf (List.toArray vs') n) :: news) → StrsAre vs' ws' → Lets ws' ∧ ws'.length = N₀ → Q () { s with heap := h' }) :
    wpAny (model prog w) A (setItem (.ref D) (.int k t) (.str y u)) Q E s := by
  subst hy
  have z := N (D, listOf vs.toArray n) (.head _)
  have hl : vs.length = ws.length := hi.length
  refine ki_setAt z.1 h0 (by omega) (by rw [List.size_toArray]; omega) (h _ (vs.set k.toNat (.str ⟨#[c]⟩ u)) (ws.set k.toNat ⟨#[c]⟩) (F.change (Heap.SameBut.update ..) z.2.1 z.2.2) (ki_turn (pre := []) _ N (fun _ hp => (List.not_mem_nil hp).elim) hne ?_ ?_) (strs_set _ hi) ⟨lets_set _ hw.1 hc, by rw [List.length_set]; exact hw.2⟩)
  · apply Array.toList_inj.mp
    simp
  · simp
end
theorem lets_signs {x : Str} (h : ∀ c ∈ x.cps.toList, c = 115 ∨ c = 116) : Lets (PyProof.Rows.signs x) ∧ (PyProof.Rows.signs x).length = x.length := by
  refine ⟨fun z hz => ?_, signs_length x⟩
  obtain ⟨c, hc, rfl⟩ := List.mem_map.mp hz
  exact ⟨c, rfl, h c hc⟩
end

section
open PySem PySem.W PyProof.Rows PySem.Calls PySem.Spec
set_option maxRecDepth 100000
open LCg
section
variable {prog : Program} {w : World} {A : Around} {s : Shared} {h₀ : Heap} {L : Addr} {m : Str → Option Value} {env : Env}
/-- a comprehension without a test, by what holds between the turns -/
theorem rest_pos {elt : PySem.Expr} {x : Str} {scope : Scope} {cl : List (Str × Addr)} {S : List (Addr × Obj) → Prop} {P : Nat → Value → Prop} {Fin : List Value → List (Addr × Obj) → Prop} {n : Nat} {news : List (Addr × Obj)} (hS : S news) (J : Nat → List Value → Prop)
    (turn : ∀ i ys v I oI C oC D m₂ h tk (E' : Value → Shared → Prop), i < n → J i ys → P i v → NsObj oC m₂ → m₂ x = some v → Fr h₀ L h m → News h₀ L h ((I, oI) :: (C, oC) :: (D, lst ys) :: news) → Off3 I C D news → ((@Ne Nat I C) ∧ (@Ne Nat I D) ∧ (@Ne Nat C D)) →
      wpAny (model prog w) A (eval elt (compEnvC scope cl C env)) (fun y s'' => CTurn h₀ L m s ((I, oI) :: (C, oC) :: (D, lst ys) :: news) (J (i + 1) (ys ++ [y])) s'') E' { s with heap := h, toks := tk })
    (fin : ∀ ys, J n ys → Fin ys news) : ∀ (k i : Nat) (ys : List Value), i + k = n → J i ys → CompRest prog w A h₀ L m env elt x scope cl s S P Fin k i ys news
  | 0, i, ys, hi, hJ => by
    have e : i = n := by omega
    subst e
    exact fin ys hJ
  | k + 1, i, ys, hi, hJ => fun v I oI C oC D m₂ h tk E' hP hC hx F N off ne => by
    refine wpAny_mono (turn i ys v I oI C oC D m₂ h tk E' (by omega) hJ hP hC hx F N off ne) (fun y s'' h'' => ?_) fun _ _ e => e
    obtain ⟨h₂, tk₂, rfl, F₂, N₂, hJ₂⟩ := h''
    exact ⟨h₂, tk₂, news, rfl, F₂, N₂, off, hS, rest_pos hS J turn fin k (i + 1) (ys ++ [y]) (by omega) hJ₂⟩
end
theorem gen_toks {M : Model} {A : Around} {α : Type} {x : Sem α} {Q : α → Shared → Prop} {E : Value → Shared → Prop} {lo : Nat} {h : Heap} {g d tk o} (hlo : lo ≤ tk) (k : ∀ tk', lo ≤ tk' → wpAny M A x Q E { heap := h, gens := g, drawn := d, toks := tk', os := o }) : wpAny M A x Q E { heap := h, gens := g, drawn := d, toks := tk, os := o } := k tk hlo
theorem fold_int {h₀ h : Heap} {L : Addr} {m : Str → Option Value} {a : Str} {v : Int} {t : Tok} (F : Fr h₀ L h (fun y => if y = a then some (.int v t) else m y)) : ∃ t', Fr h₀ L h (fun y => if y = a then some (.int v t') else m y) := ⟨t, F⟩
theorem fold_str {h₀ h : Heap} {L : Addr} {m : Str → Option Value} {a : Str} {v : Str} {t : Tok} (F : Fr h₀ L h (fun y => if y = a then some (.str v t) else m y)) : ∃ t', Fr h₀ L h (fun y => if y = a then some (.str v t') else m y) := ⟨t, F⟩
end

section
open PySem PySem.W PyProof.Rows PySem.Calls PySem.Spec
set_option maxRecDepth 100000
set_option maxHeartbeats 0
section
variable {prog : Program} {w : World} {A : Around} {E : Value → Shared → Prop} {s : Shared} {env : Env} {h₀ : Heap}
/-- what a loop over a list does ahead of a turn is nothing -/
noncomputable def GoFree (prog : Program) (w : World) (target : PySem.Expr) (v : Value) : Prop := ∀ (A : Around) (s : Shared) (I l : Addr) (i : Nat) (Q : Unit → Shared → Prop) (E : Value → Shared → Prop), s.heap.IsListIter I l i → Q () s → wpAny (model prog w) A (letOwnedTupleGo target (.ref I) v) Q E s
theorem GoFree.name {x : Str} {p : Pos} {v : Value} : GoFree prog w (.Name x p) v := fun _ _ _ _ _ _ _ _ h => wpAny_pure h
/-- for .. in a list, by what holds between the turns -/
inductive ListSt (s : Shared) (its : Array Value) (lo : Nat) (I lx : Addr) (h₀ : Heap) (env : Env) (news : List (Addr × Obj)) (J : Nat → (Str → Option Value) → List (Addr × Obj) → Prop) (n : Nat) (s' : Shared) : Prop
  | mk (i h' tk m' ex) : (s' = { s with heap := h', toks := tk }) → (n + i = its.size) → (lo ≤ tk) → (h'.IsListIter I lx i) → (Fr h₀ env.locals h' m') → (News h₀ env.locals h' (ex ++ news)) → ((∀ p ∈ ex ++ news, p.1 ≠ I)) → (J i m' ex) → ListSt s its lo I lx h₀ env news J n s'
theorem list_pos {lo : Nat} {Q : Flow → Shared → Prop} {target : PySem.Expr} {body : List Stmt} {lx : Addr} {its : Array Value} {k : Nat} {m : Str → Option Value} {news ex₀ : List (Addr × Obj)}
    (hh : A.handled = none) (hgo : ∀ v ∈ its, GoFree prog w target v) (hl : (lx, ({ cls := .type "list", data := .seq its k } : Obj)) ∈ news) (F : Fr h₀ env.locals s.heap m) (N : News h₀ env.locals s.heap (ex₀ ++ news)) (hpos : lo ≤ s.toks)
    (J : Nat → (Str → Option Value) → List (Addr × Obj) → Prop) (h0 : J 0 m ex₀)
    (turn : ∀ i v m₁ ex h tk own, i < its.size → its[i]? = some v → lo ≤ tk → (∀ p ∈ ex ++ news, p.1 ≠ own.1) → J i m₁ ex → Fr h₀ env.locals h m₁ → News h₀ env.locals h (own :: (ex ++ news)) →
      wpAny (model prog w) A (assign target env v) (fun _ s₂ => Halt (wpAny (model prog w) A (execs body env) (TurnEnd h₀ env.locals own news (J (i + 1)) { s with heap := h, toks := tk } (fun r s' => match r with | .ok f => Q f s' | .error e => E e s')) E s₂)) E { s with heap := h, toks := tk })
    (fin : ∀ h' tk m' ex, lo ≤ tk → J its.size m' ex → Fr h₀ env.locals h' m' → News h₀ env.locals h' (ex ++ news) → Q .next { s with heap := h', toks := tk })
    (hE : PassesOwn (model prog w) A env E) :
    wpAny (model prog w) A (pyIter (.ref lx)) (fun it s₂ => codeAny (model prog w) A (.forLoop target it body [] env) (fun r s' => match r with | .ok f => Q f s' | .error e => cameBackBy (model prog w) A env E e s') s₂) E s := by
  have hLl := (N _ (List.mem_append_right _ hl))
  have hls : s.heap.IsList lx its := ⟨_, hLl.1, rfl, k, rfl⟩
  refine wpAny_pyIter_list hls ?_
  have hI : s.heap.objs.size ≠ env.locals := fun e => absurd F.ns.lt (by rw [e]; exact Nat.lt_irrefl _)
  have hI₀ : h₀.get? s.heap.objs.size = none := by
    cases e : h₀.get? s.heap.objs.size with
    | none => rfl
    | some o => exact absurd (Heap.lt_size (F.keep _ _ e)) (Nat.lt_irrefl _)
  have hoff : ∀ p ∈ ex₀ ++ news, p.1 ≠ s.heap.objs.size := fun p hp e => absurd (Heap.lt_size (N p hp).1) (by rw [e]; exact Nat.lt_irrefl _)
  have hst : (s.heap.push (iterObj lx)).IsListIter s.heap.objs.size lx 0 := ⟨_, Heap.get?_push_size _ rfl, rfl, rfl⟩
  have hlx : lx ≠ s.heap.objs.size := hoff _ (List.mem_append_right _ hl)
  generalize s.heap.objs.size = I at *
  have W := Walks.list (prog := prog) (w := w) hh I lx hlx its
  refine codeAny_forLoop_any
    (ListSt s its lo I lx h₀ env news J) ?_ its.size
    ⟨0, _, s.toks, m, ex₀, rfl, by omega, hpos, hst, F.push _, fun p hp => ⟨Heap.get?_push_of_some _ (N p hp).1, (N p hp).2⟩, hoff, h0⟩
  intro n s' hP0
  refine Classical.byContradiction fun hG => ?_
  obtain ⟨i, h', tk, m', ex, rfl, hk, htk, st, F', N', hof, hJ⟩ := hP0
  refine hG ?_
  clear hG
  have hls' : h'.IsList lx its := ⟨_, (N' _ (List.mem_append_right _ hl)).1, rfl, k, rfl⟩
  have up : ∀ h₁ : Heap, (∀ b o, b ∉ [I] → h'.get? b = some o → h₁.get? b = some o) → Fr h₀ env.locals h₁ m' ∧ News h₀ env.locals h₁ (ex ++ news) := fun h₁ hh =>
    ⟨LCg.fr_but F' hh (Ne.symm hI) hI₀, LCg.news_but N' hh hof⟩
  by_cases hlt : i < its.size
  · refine wpAny_with_toks (n := lo) htk (W.item i _ _ _ hlt ⟨st, hls'⟩ fun v h₁ tk₁ hP st₁ hh₁ ht₁ => ?_)
    replace ht₁ : lo ≤ tk₁ := ht₁
    obtain ⟨F₁, N₁⟩ := up h₁ hh₁
    refine hgo v (Array.mem_of_getElem? hP) A _ I lx (i + 1) _ _ st₁.1 ?_
    obtain ⟨o, ho⟩ : ∃ o, h₁.get? I = some o := by obtain ⟨o, e, _⟩ := st₁.1; exact ⟨o, e⟩
    have N₂ : News h₀ env.locals h₁ ((I, o) :: (ex ++ news)) := fun p hp => by
      rcases List.mem_cons.mp hp with rfl | hp
      · exact ⟨ho, hI, hI₀⟩
      · exact N₁ p hp
    have T := turn i v m' ex h₁ tk₁ (I, o) hlt hP ht₁ hof hJ F₁ N₂
    refine wpAny_passesOwn hE (wpAny_mono (wpAny_toks_of (n := lo) (show lo ≤ tk₁ from ht₁) T) (fun _ s₂ h₂ => ?_) fun _ _ e => e.2)
    refine wpAny_mono (wpAny_passesOwn hE (wpAny_mono (wpAny_toks_of (n := lo) h₂.1 h₂.2.go) (fun f s₃ h₃ => h₃) fun _ _ e => e.2)) (fun f s₃ h₃ => ?_) fun _ _ e => e
    obtain ⟨ht₃, h₃⟩ := h₃
    have go : (∃ h' tk' m₂ ex₂, s₃ = { s with heap := h', toks := tk' } ∧ Fr h₀ env.locals h' m₂ ∧ News h₀ env.locals h' ((I, o) :: (ex₂ ++ news)) ∧ (∀ p ∈ ex₂, p.1 ≠ I) ∧ J (i + 1) m₂ ex₂) →
        ∃ m, m < n ∧ ListSt s its lo I lx h₀ env news J m s₃ := by
      rintro ⟨h₄, tk₄, m₄, ex₄, rfl, F₄, N₄, hex₄, hJ₄⟩
      refine ⟨n - 1, by omega, i + 1, h₄, tk₄, m₄, ex₄, rfl, by omega, ht₃, ?_, F₄, fun p hp => N₄ p (.tail _ hp), fun p hp => ?_, hJ₄⟩
      · obtain ⟨o', e, r⟩ := st₁.1
        rw [ho] at e; cases e
        exact ⟨o, (N₄ _ (.head _)).1, r⟩
      · rcases List.mem_append.mp hp with hp | hp
        · exact hex₄ p hp
        · exact hof p (List.mem_append_right _ hp)
    cases f with
    | ret v => exact h₃
    | brk => exact h₃
    | next => exact go h₃
    | cont => exact go h₃
  · have hin : i = its.size := by omega
    subst hin
    refine wpAny_with_toks (n := lo) htk (W.done _ _ _ ⟨st, hls'⟩ fun h₁ tk₁ hh₁ ht₁ => wpAny_execs_nil ?_)
    obtain ⟨F₁, N₁⟩ := up h₁ hh₁
    exact fin h₁ tk₁ m' ex ht₁ hJ F₁ N₁
end
theorem GoFree.tuple {prog : Program} {w : World} {elts : List PySem.Expr} {x1} {pos : Pos} {T : Addr} : GoFree prog w (.Tuple elts x1 pos) (.ref T) := fun _ _ _ _ _ _ _ hi h => wpAny_letOwnedTupleGo_listiter hi h
theorem led_one {a : Addr × Obj} {r : List (Addr × Obj)} (h : a ∈ r) : ∀ p ∈ [a], p ∈ r := fun p hp => by rw [List.mem_singleton.mp hp]; exact h
end

section
open PySem PySem.W PyProof.Rows PySem.Calls
set_option maxRecDepth 100000
set_option maxHeartbeats 0
set_option rowWalk.seconds 0
noncomputable def pairsF (cs : List Nat) (a b : Nat) (i : Nat) : List Int := ((List.range i).filter fun k => decide ((cs.drop k).take 2 = [a, b])).map Int.ofNat
theorem pairsF_succ (cs : List Nat) (a b i : Nat) : pairsF cs a b (i + 1) = pairsF cs a b i ++ (if (cs.drop i).take 2 = [a, b] then [(i : Int)] else []) := by
  unfold pairsF
  rw [List.range_succ, List.filter_append, List.map_append]
  congr 1
  by_cases h : (cs.drop i).take 2 = [a, b] <;> simp [h]
theorem pairs_yes {x z : Str} {a b i : Nat} {ys : List Value} {t : Tok} (hz : z = ⟨#[a, b]⟩) (hI : IntsAre ys (pairsF x.cps.toList a b i)) (hat : i < x.length) (h : (Txt.slice x (some (0 + (i : Int))) (some (0 + (i : Int) + 2)) == z) = true) : IntsAre (ys ++ [.int (0 + (i : Int)) t]) (pairsF x.cps.toList a b (i + 1)) := by
  rw [Int.zero_add] at h ⊢
  rw [pair_is hat hz] at h
  rw [pairsF_succ, if_pos (of_decide_eq_true h)]
  exact hI.append (.cons _ _ .nil)
theorem pairs_no {x z : Str} {a b i : Nat} {ys : List Value} (hz : z = ⟨#[a, b]⟩) (hI : IntsAre ys (pairsF x.cps.toList a b i)) (hat : i < x.length) (h : (Txt.slice x (some (0 + (i : Int))) (some (0 + (i : Int) + 2)) == z) = false) : IntsAre ys (pairsF x.cps.toList a b (i + 1)) := by
  rw [Int.zero_add] at h
  rw [pair_is hat hz] at h
  rw [pairsF_succ, if_neg (of_decide_eq_false h), List.append_nil]
  exact hI
local macro_rules | `(tactic| walk_at "compareOp Eq ref ref") => `(tactic| (walk_at "h!"))
local macro_rules | `(tactic| walk_at "subscriptTail Name BinOp ref int") => `(tactic| (walk_at "h!"))
theorem tt_is : Str.ofString "t" = ⟨#[116]⟩ := by rfl
theorem ss_one : Str.ofString "s" = ⟨#[115]⟩ := by rfl
local macro_rules | `(tactic| walk_at "setItem ref int") => `(tactic| (k_here; (with_reducible show wpAny _ _ (setItem (Value.ref _) (Value.int _ _) (Value.str _ _)) _ _ _); k_dflt (refine' set_let ?y ?c ?F ?N ?ne ?i ?w ?n ?k0 ?k1 ?_; (case y => first | exact tt_is | exact ss_one); (case c => decide); (case F => k_asm); (case N => first | with_reducible assumption | with_reducible exact news_tail (by with_reducible assumption)); (case ne | i | w | n => with_reducible assumption); (case k0 | k1 => omega); k_whole); intro h' vs' ws' F' N' hi' hw'; (try k_sweep)))
local macro_rules | `(tactic| walk_at "call builtin:str.join") => `(tactic| (walk_at "h!"))
local macro_rules | `(tactic| walk_at "eval ListComp") => `(tactic| (walk_at "h!"))
local macro_rules | `(tactic| walk_at "CompSrcT") => `(tactic| with_reducible refine at_halt ?_)
theorem upd_two {c : Addr} {o : Obj} {p1 p2 p3 : Addr × Obj} {r : List (Addr × Obj)} {D1 D2 : Addr} {o1 o2 : Obj} (e1 : p1 = (D1, o1)) (e2 : p2 = (D2, o2)) (f1 : LCg.Off1 D1 (p2 :: (c, o) :: p3 :: r)) (f2 : LCg.Off1 D2 ((c, o) :: p3 :: r)) (f3 : ∀ p ∈ p3 :: r, p.1 ≠ c) :
    UpdF c o (p1 :: p2 :: (c, o) :: p3 :: r) (fun o' => p1 :: p2 :: (c, o') :: p3 :: r) := by
  subst e1; subst e2
  exact .tail (Ne.symm f1.2.1) (.tail (Ne.symm f2.1) (.head f3))
/-- what the list of ways holds -/
noncomputable def WayJ (x : Str) (ys : List Value) (ex : List (Addr × Obj)) : Prop :=
  (∀ v ∈ ys, ∃ (p : Addr) (i j : Nat) (ti tj : Tok) (k : Nat), v = .ref p ∧ (p, listOf #[.int (i : Int) ti, .int (j : Int) tj] k) ∈ ex ∧ i + 1 < x.length ∧ j + 1 < x.length) ∧ ∀ q ∈ ex, q.2.cls = .type "list"
theorem pairs_len {cs : List Nat} {a b i : Nat} {ys : List Value} (h : IntsAre ys (pairsF cs a b i)) : ys.length ≤ i := by
  rw [h.length]
  unfold pairsF
  rw [List.length_map]
  exact Nat.le_trans (List.length_filter_le _ _) (by simp)
theorem pair_val {cs : List Nat} {a b i k : Nat} {ys : List Value} {v : Value} (h : IntsAre ys (pairsF cs a b i)) (hk : ys.toArray[k]? = some v) : ∃ (j : Nat) (t : Tok), v = .int (j : Int) t ∧ j < i := by
  have aux : ∀ {vs : List Value} {us : List Int}, IntsAre vs us → ∀ {v : Value}, v ∈ vs → ∃ n t, v = .int n t ∧ n ∈ us := by
    intro vs us h
    induction h with
    | nil => intro v h; cases h
    | cons n t r ih =>
      intro v hv
      rcases List.mem_cons.mp hv with rfl | hv
      · exact ⟨n, t, rfl, .head _⟩
      · obtain ⟨n', t', e, hm⟩ := ih hv
        exact ⟨n', t', e, .tail _ hm⟩
  have hv : v ∈ ys := by
    rw [List.getElem?_toArray] at hk
    exact List.mem_of_getElem? hk
  obtain ⟨n, t, rfl, hn⟩ := aux h hv
  obtain ⟨j, hj, rfl⟩ := List.mem_map.mp hn
  exact ⟨j, t, rfl, List.mem_range.mp (List.mem_filter.mp hj).1⟩
theorem yes2_new {s : Shared} {h₀ h' : Heap} {L : Addr} {m : Str → Option Value} {nb ex : List (Addr × Obj)} {x : Str} {ws : List Value} {I C D l : Addr} {oI oC : Obj} {i j : Nat} {ti tj tk : Tok} (F : Fr h₀ L h' m)
    (N : News h₀ L h' ((l, listOf #[.int (i : Int) ti, .int (j : Int) tj] 0) :: (I, oI) :: (C, oC) :: (D, LCg.lst ws) :: (ex ++ nb))) (hl : I < l ∧ C < l ∧ D < l ∧ AllLt l (ex ++ nb)) (off : LCg.Off3 I C D (ex ++ nb)) (hJ : WayJ x ws ex) (hi : i < ((x.length : Int) - 1 - 0).toNat) (hj : j < ((x.length : Int) - 1 - 0).toNat) :
    Yes2 s h₀ L m nb (WayJ x) ws I oI C oC D (.ref l) { s with heap := h', toks := tk } := by
  refine ⟨h', tk, (l, listOf #[.int (i : Int) ti, .int (j : Int) tj] 0) :: ex, rfl, F, fun p hp => N p ?_, ⟨⟨Ne.symm (Nat.ne_of_lt hl.1), Ne.symm (Nat.ne_of_lt hl.2.1), Ne.symm (Nat.ne_of_lt hl.2.2.1)⟩, off⟩, fun v hv => ?_, fun q hq => ?_⟩
  · rcases List.mem_cons.mp hp with rfl | hp
    · exact .tail _ (.head _)
    rcases List.mem_cons.mp hp with rfl | hp
    · exact .tail _ (.tail _ (.head _))
    rcases List.mem_cons.mp hp with rfl | hp
    · exact .tail _ (.tail _ (.tail _ (.head _)))
    rcases List.mem_cons.mp hp with rfl | hp
    · exact .head _
    · exact .tail _ (.tail _ (.tail _ (.tail _ hp)))
  · rcases List.mem_append.mp hv with hv | hv
    · obtain ⟨p, i', j', t1, t2, k, e, hm, h1, h2⟩ := hJ.1 v hv
      exact ⟨p, i', j', t1, t2, k, e, .tail _ hm, h1, h2⟩
    · exact ⟨l, i, j, ti, tj, 0, List.mem_singleton.mp hv, .head _, by omega, by omega⟩
  · rcases List.mem_cons.mp hq with rfl | hq
    · rfl
    · exact hJ.2 q hq
theorem way_reads {h : Heap} : ∀ {ys : List Value}, (∀ v ∈ ys, ∃ (p : Addr) (i j : Int) (ti tj : Tok) (k : Nat), v = .ref p ∧ h.get? p = some (listOf #[.int i ti, .int j tj] k)) → ∃ ds as, ReadsAll h ys ds as ∧ PyData.canLayAll0 ds = true ∧ PyData.depthAll ds ≤ 1 ∧ ds.length = ys.length
  | [], _ => ⟨[], [], .nil, rfl, Nat.zero_le _, rfl⟩
  | v :: ys, hv => by
    obtain ⟨p, i, j, ti, tj, k, rfl, hg⟩ := hv v (.head _)
    obtain ⟨ds, as, h1, h2, h3, h4⟩ := way_reads (ys := ys) fun v hm => hv v (.tail _ hm)
    refine ⟨.list [.int i, .int j] :: ds, _, .cons (reads_list_at hg rfl rfl (.cons (.int i ti) (.cons (.int j tj) .nil))) h1, ?_, ?_, by simp [h4]⟩
    · simp [PyData.canLayAll0, PyData.canLay0, h2]
    · simp [PyData.depthAll, PyData.depth]; omega
theorem eq_ways {prog : Program} {w : World} {A : Around} {E : Value → Shared → Prop} {s : Shared} {D D' : Addr} {ys : List Value} {k k' : Nat} {Q : Value → Shared → Prop} (hD : s.heap.get? D = some (listO ys.toArray k)) (hE : s.heap.get? D' = some (listO #[] k'))
    (hv : ∀ v ∈ ys, ∃ (p : Addr) (i j : Int) (ti tj : Tok) (k : Nat), v = .ref p ∧ s.heap.get? p = some (listOf #[.int i ti, .int j tj] k)) (hu : A.units + 64 < cLine) (h : Q (.bool (decide (ys = []))) s) : wpAny (model prog w) A (compareOp .Eq (.ref D) (.ref D')) Q E s := by
  obtain ⟨ds, as, h1, h2, h3, h4⟩ := way_reads hv
  refine eq_dataH (reads_list_at hD rfl rfl h1) (reads_list_at (xs := []) hE rfl rfl .nil) ?_ (by decide) hu ?_
  · simp [SeqAt.shaped, PyData.canLay0, h2, PyData.depth]; omega
  · have e : PyData.eqv (.list ds) (.list []) = decide (ys = []) := by
      cases ds with
      | nil => rw [List.length_eq_zero_iff.mp h4.symm]; rfl
      | cons d ds =>
        cases ys with
        | nil => simp at h4
        | cons y ys => rfl
    rw [e]; exact h
theorem join_eq (sep : Str) (l : List Str) : Txt.join sep l = Str.join sep l := StrLaws.glued_eq_join ..
theorem join_lets : ∀ {ws : List Str}, Lets ws → (Txt.join (Str.ofString "") ws).length = ws.length ∧ ∀ c ∈ (Txt.join (Str.ofString "") ws).cps.toList, c = 115 ∨ c = 116
  | [], _ => ⟨by rfl, fun c hc => by simp [show (Txt.join (Str.ofString "") []).cps.toList = [] by rfl] at hc⟩
  | [z], h => by
    obtain ⟨c, rfl, hc⟩ := h _ (.head _)
    refine ⟨by rfl, fun d hd => ?_⟩
    have hd' : d ∈ [c] := hd
    rw [List.mem_singleton.mp hd']; exact hc
  | z :: y :: r, h => by
    obtain ⟨h1, h2⟩ := join_lets (ws := y :: r) fun q hq => h q (.tail _ hq)
    obtain ⟨c, rfl, hc⟩ := h _ (.head _)
    have e : Txt.join (Str.ofString "") (⟨#[c]⟩ :: y :: r) = ⟨#[c]⟩ ++ Str.ofString "" ++ Txt.join (Str.ofString "") (y :: r) := by rw [join_eq, join_eq]; rfl
    have e2 : (Txt.join (Str.ofString "") (⟨#[c]⟩ :: y :: r)).cps.toList = c :: (Txt.join (Str.ofString "") (y :: r)).cps.toList := by
      rw [e, cps_add, cps_add]; rfl
    refine ⟨?_, fun d hd => ?_⟩
    · have := congrArg List.length e2
      simp only [Array.length_toList, List.length_cons] at this
      show Array.size _ = _
      rw [this, List.length_cons]
      show Array.size _ + 1 = _
      have : (Txt.join (Str.ofString "") (y :: r)).cps.size = (y :: r).length := h1
      omega
    · rw [e2] at hd
      rcases List.mem_cons.mp hd with rfl | hd
      · exact hc
      · exact h2 d hd
theorem lets_sum : ∀ {ws : List Str}, Lets ws → (ws.map (·.length)).sum = ws.length
  | [], _ => rfl
  | z :: r, h => by
    obtain ⟨c, rfl, hc⟩ := h _ (.head _)
    rw [List.map_cons, List.sum_cons, lets_sum fun q hq => h q (.tail _ hq), List.length_cons]
    show 1 + _ = _
    omega
theorem moved_ok (w : World) (x : Str) (n : Int) (t u : Tok) (h1 : x.length ≤ 10) (h2 : 0 ≤ n) (h3 : n ≤ 1000000000) (hwd : ∀ c ∈ x.cps.toList, c = 115 ∨ c = 116) : LCx w 0 20 160 198 [.str x t, .int n u] [] (fun h₀ L led v h' => ∃ z t1, v = .str z t1 ∧ z.length = x.length ∧ (∀ c ∈ z.cps.toList, c = 115 ∨ c = 116) ∧ News h₀ L h' led) := by
  unfold LCx
  w_strict (k_with_none; w_top off; k_fill; intro mean mg mb dp un gd cn cs a ccd cl outer A₀ base h₀ L m news s Q E B F X N T hcs hdp hun hpos hB1 hret; refine wpAny_call ?_)
  w_strict (k_dflt (first | cell_enter | (refine' code_defC ?k1 ?k2 ?k3 ?k4 ?k5 ?kA ?kF ?kK ?k6 ?k7 ?k8 ?k9 ?kB ?kD ?_ ?c2 ?c3 ?c4; (case kA => exact rfl); (case kF => exact rfl); (case kK => assumption); (case k1 => k_asm); (case k2 => k_asm); (case k3 => k_asm); (case k4 => k_asm); (case k5 => k_asm); (case k6 => k_is); (case k7 => k_is); (case k8 => ktr_room); (case k9 => exact BindsTo.of_eq rfl); (case kB => exact rfl); (case kD => decide +kernel); (case c2 => exact rfl); (case c3 => exact rfl); (case c4 => exact rfl); k_whole; intro g' L' h' tk' cells' FG' F' N' Y' B' X' T' l1; (try k_lt l1); k_cells Y'; (try simp only [List.cons_append, List.nil_append] at N'); (try dsimp only); (try k_lift B'); (try k_fold))))
  rename_i o1 o2 d1 d2
  rename Fr _ _ _ _ => F0
  have d2' : o2.data = Data.cell (some (.str x t)) := d2.trans (by with_unfolding_all rfl)
  have d1' : o1.data = Data.cell none := d1.trans (by with_unfolding_all rfl)
  clear d2 d1
  have F1 : Fr g' L' h' (fun z => if z = Str.ofString "number" then some (.int n u) else none) := by with_unfolding_all exact F0
  clear F0
  refine cons_halt ?_
  refine LCt.Assign_ListComp_T (F₀ := by assumption) (by rfl) (by with_unfolding_all rfl) (by with_unfolding_all rfl) (by decide) (by rfl) (by decide) (by rfl) (by with_unfolding_all rfl) (by rfl) ?_
  w_strict k_steps
  rename IsRange _ _ _ _ _ _ _ _ => hr
  rename News _ _ _ _ => N1
  refine Halt.mk (LCt.CompSrcT.range rfl (by assumption) N1 hr (small_one (by decide) (by decide) (by omega) (by omega)) (rangeSize_nat _ _) (by rw [sizeLine_eq]; omega) fun g => restT_pos trivial (fun i ys => IntsAre ys (pairsF x.cps.toList 115 116 i)) ?_ ?_ _ 0 [] (Nat.zero_add _) .nil)
  · rintro i ys v I oI C oC D m₂ h tk E' hi hJ ⟨ti, rfl⟩ hC hx F₁ N₁ off ne
    have hat : i < x.length := by omega
    w_strict k_steps
    · exact ⟨_, _, rfl, by assumption, by assumption, pairs_yes (z := Str.ofString "st") (by rfl) hJ hat (by with_reducible assumption)⟩
    · exact ⟨_, _, rfl, by assumption, by assumption, pairs_no (z := Str.ofString "st") (by rfl) hJ hat (by with_reducible assumption)⟩
  · intro ys hI D h tk F₁ N₁ off
    refine Halt.mk (cons_halt ?_)
    w_strict k_steps
    refine Halt.mk (LCt.ListComp_T (F₀ := by assumption) (by with_unfolding_all rfl) (by decide) (by rfl) (by decide) (by rfl) ?_)
    w_strict k_steps
    rename IsRange _ _ _ _ _ _ _ _ => hr2
    rename News _ _ _ _ => N2
    refine Halt.mk (LCt.CompSrcT.range rfl (by assumption) N2 hr2 (small_one (by decide) (by decide) (by omega) (by omega)) (rangeSize_nat _ _) (by rw [sizeLine_eq]; omega) fun g => restT_pos trivial (fun i ys => IntsAre ys (pairsF x.cps.toList 116 115 i)) ?_ ?_ _ 0 [] (Nat.zero_add _) .nil)
    · rintro i ys v I oI C oC D m₂ h tk E' hi hJ ⟨ti, rfl⟩ hC hx F₁ N₁ off ne
      have hat : i < x.length := by omega
      w_strict k_steps
      · exact ⟨_, _, rfl, by assumption, by assumption, pairs_yes (z := Str.ofString "ts") (by rfl) hJ hat (by with_reducible assumption)⟩
      · exact ⟨_, _, rfl, by assumption, by assumption, pairs_no (z := Str.ofString "ts") (by rfl) hJ hat (by with_reducible assumption)⟩
    · intro zs hZ D2 h2' tk2 F₂ N₂ off2
      w_strict k_steps
      dsimp only
      refine' storeX_C F₂ N₂ ?k1 (upd_two rfl rfl off2 off ?k2) ?k3 ?_ ?k4 ?k5
      case k1 => exact rfl
      case k2 =>
        intro p hp
        rcases List.mem_cons.mp hp with rfl | hp
        · exact Nat.ne_of_lt (Nat.lt_succ_self _)
        · exact Nat.ne_of_lt (Nat.lt_succ_of_lt (Nat.lt_succ_of_lt (l1 p hp)))
      case k3 => exact d1'
      case k4 => exact rfl
      case k5 => exact rfl
      intro h3' o3 F₃ N₃ d3
      clear F₂ N₂
      refine Halt.mk (cons_halt ?_)
      refine' assign_two (J := WayJ x) (F := F₃) (N := N₃) ?a1 ?a2 ?a3 ?a4 ?a5 ?a6 ?a7 ?a8 ?a9 ?b1 ?b2 ?b3 ?b4 ?b5 ?b6 ?b7 ?b8 ?b9 ?c1 ?c2 ?c3 ?c4 ?c5 ?c6 ?c7 ?c8 ?c9 ?c10
      case a1 => exact rfl
      case a2 => with_unfolding_all rfl
      case a3 => with_unfolding_all rfl
      case a4 => decide
      case a5 => exact rfl
      case a6 => exact rfl
      case a7 => exact rfl
      case a8 => exact rfl
      case a9 => exact rfl
      case b1 => decide
      case b2 => exact rfl
      case b3 => exact rfl
      case b4 => exact rfl
      case b5 => decide
      case b6 => exact fun _ => rfl
      case b7 => exact rfl
      case b8 => decide
      case b9 => decide
      case c1 => exact rfl
      case c2 => exact .tail _ (.tail _ (.head _))
      case c3 => exact d3
      case c4 => exact .tail _ (.head _)
      case c5 => exact .head _
      case c6 =>
        have e1 := pairs_len hI
        have e2 := pairs_len hZ
        rw [List.size_toArray, List.size_toArray, sizeLine_eq]
        refine Nat.le_trans (Nat.mul_le_mul (show ys.length ≤ 9 by omega) (show zs.length ≤ 9 by omega)) (by decide)
      case c7 => exact ⟨fun v hv => (List.not_mem_nil hv).elim, fun v hv => (List.not_mem_nil hv).elim⟩
      case c8 => exact fun _ _ h => h.2
      case c9 =>
        clear hret
        intro g i j v1 v2 I1 oI1 hi hj
        obtain ⟨i', ti, rfl, hi'⟩ := pair_val hI hi
        obtain ⟨j', tj, rfl, hj'⟩ := pair_val hZ hj
        intro ws ex I oI C oC D4 m₂ h tk E' hJ hC hx hy F N off ne
        w_strict k_steps
        · exact yes2_new (by assumption) (by assumption) (by assumption) off hJ hi' hj'
        · exact yes2_new (by assumption) (by assumption) (by assumption) off hJ hi' hj'
        · exact ⟨_, _, rfl, by assumption, by assumption, hJ⟩
      case c10 =>
        intro D3 h5 tk5 ws ex F₅ N₅ off₅ hJ hwl
        have hwl' : ws.length ≤ 81 := by
          have e1 := pairs_len hI
          have e2 := pairs_len hZ
          refine Nat.le_trans hwl ?_
          rw [List.size_toArray, List.size_toArray]
          exact Nat.mul_le_mul (show ys.length ≤ 9 by omega) (show zs.length ≤ 9 by omega)
        clear F₃ N₃
        obtain ⟨qs, hqs⟩ : ∃ qs, qs = ex ++ [(D2, LCg.lst zs), (D, LCg.lst ys), (L' + 1 + 1, o3)] := ⟨_, rfl⟩
        have N₇ : News g' L' h5 ((D3, LCg.lst ws) :: (L' + 1, o2) :: (qs ++ news)) := news_pick N₅ fun p hp => by
          rw [hqs] at hp
          simp only [List.mem_cons, List.mem_append, List.append_assoc] at hp ⊢
          grind
        have hqJ : ∀ v ∈ ws, ∃ (p : Addr) (i j : Nat) (ti tj : Tok) (k : Nat), v = .ref p ∧ (p, listOf #[.int (i : Int) ti, .int (j : Int) tj] k) ∈ qs ∧ i + 1 < x.length ∧ j + 1 < x.length := fun v hv => by
          obtain ⟨p, i, j, ti, tj, k, e, hm, a, b⟩ := hJ.1 v hv
          exact ⟨p, i, j, ti, tj, k, e, hqs ▸ List.mem_append_left _ hm, a, b⟩
        clear hJ off₅ N₅ hqs d3 off off2 l1 hZ hI d1'
        refine Halt.mk (cons_halt ?_)
        w_strict k_steps
        rename News _ _ _ _ => N6
        refine Halt.mk (eq_ways (ys := ws) (N6 _ (.tail _ (.head _))).1 (N6 _ (.head _)).1 (fun v hv => ?_) (by ktr_units) ?_)
        · obtain ⟨p, i, j, ti, tj, k, e, hm, _, _⟩ := hqJ v hv
          exact ⟨p, _, _, ti, tj, k, e, (N6 _ (.tail _ (.tail _ (.tail _ (List.mem_append_left _ hm))))).1⟩
        by_cases hws : ws = []
        · rw [decide_eq_true hws]
          w_strict (iterate 5 (first | walk1 | (dsimp only; walk1)))
          refine' nameX_C N6 (by rfl) (.tail _ (.tail _ (.head _))) d2' ?_ rfl rfl
          w_strict k_steps
          rename News _ _ _ _ => N8
          exact hret _ _ _ (by assumption) ⟨x, t, rfl, rfl, hwd, fun p hp => N8 p (.tail _ (.tail _ (.tail _ (List.mem_append_right _ hp))))⟩
        · rw [decide_eq_false hws]
          w_strict k_steps
          refine Halt.mk (cons_halt ?_)
          w_strict k_steps
          have hw0 : ((ws.toArray.size : Nat) : Int) ≠ 0 := by
            rw [List.size_toArray]
            intro e
            exact hws (List.length_eq_zero_iff.mp (by omega))
          refine call_len_list (News.isList N6 (.tail _ (.head _))) (by rw [List.size_toArray]; omega) ?_
          w_strict k_steps
          have hp0 : (0 : Int) < ((ws.toArray.size : Nat) : Int) := by omega
          have hk0 := Int.fmod_nonneg_of_pos n hp0
          have hk1 := Int.fmod_lt_of_pos n hp0
          obtain ⟨v, hv⟩ : ∃ v, ws.toArray[(n.fmod (ws.toArray.size : Nat)).toNat]? = some v := ⟨_, Array.getElem?_eq_getElem (by omega)⟩
          obtain ⟨p, i, j, ti, tj, k, rfl, hpm, hi, hj⟩ := hqJ v (List.mem_of_getElem? (by rw [← List.getElem?_toArray]; exact hv))
          refine Halt.mk (PyProof.Rows.item_list (News.isList N6 (.tail _ (.head _))) hk0 (by rw [List.size_toArray] at hk1; rw [List.size_toArray]; omega) hv ?_)
          have N8 : News g' L' _ ((p, listOf #[.int (i : Int) ti, .int (j : Int) tj] k) :: (L' + 1, o2) :: (qs ++ news)) := news_pick N6 fun q hq => by
            rcases List.mem_cons.mp hq with rfl | hq
            · exact .tail _ (.tail _ (.tail _ (List.mem_append_left _ hpm)))
            · exact .tail _ (.tail _ hq)
          clear N6 hqJ hv hk0 hk1 hp0 hw0 hws hwl' hwl
          w_strict k_steps
          rename Fr g' L' _ _ => F9
          rename News g' L' _ _ => N9
          refine Halt.mk (cons_halt ?_)
          refine Assign_ListComp_rowsP (by with_unfolding_all rfl) (by decide) (by decide) (by rfl) (by decide) (by rfl) (by rfl) (by rfl) ?_
          refine nameX_C N9 (by rfl) (.tail _ (.head _)) d2' ?_ rfl rfl
          refine letters_src (L := L') rfl rfl (fun _ => rfl) (by decide) (by rfl) F9 N9 (by rw [sizeLine_eq]; omega) ?_
          intro D9 vs9 n9 h9 tk9 F₁₀ N₁₀ hne9 hS9
          have hL9 := lets_signs hwd
          generalize PyProof.Rows.signs x = ws9 at hS9 hL9
          clear N9 F9
          refine Halt.mk (cons_halt ?_)
          w_strict k_steps
          refine Halt.mk (cons_halt ?_)
          w_strict k_steps
          refine Halt.mk (cons_halt ?_)
          w_strict k_steps
          rename Lets _ ∧ _ => hLw
          rename StrsAre _ _ => hSw
          rename News g' L' _ _ => Nw
          refine Halt.mk (join_listW (News.isList Nw (.head _)) hSw (by decide) (by rw [lets_sum hLw.1]; omega) ?_)
          intro tz kz
          have hz := join_lets hLw.1
          w_strict k_steps
          rename News _ _ _ _ => N8
          exact hret _ _ _ (by assumption) ⟨_, _, rfl, hz.1.trans hLw.2, hz.2, fun p hp => N8 p (.tail _ (.tail _ (.tail _ (List.mem_append_right _ hp))))⟩
end

end Mine
end

section
open PySem PySem.W PyProof.Rows
namespace Mine
/-! ways -/
theorem ways_fold (ws : List Int) (seen : Int) : ∀ i, i ≤ ws.length → (∀ j, ((rangeKs 0 i).foldl (waysAdd ws seen) (ws ++ [0])).getD j 0 = ws.getD j 0 + (if 1 ≤ j ∧ j ≤ i then ws.getD (j - 1) 0 * (seen - ((j - 1 : Nat) : Int)) else 0)) ∧ ((rangeKs 0 i).foldl (waysAdd ws seen) (ws ++ [0])).length = ws.length + 1
  | 0, _ => by
    refine ⟨fun j => ?_, by simp [rangeKs]⟩
    have h : ¬ (1 ≤ j ∧ j ≤ 0) := by omega
    rw [if_neg h, Int.add_zero]
    simp only [rangeKs, List.range_zero, List.map_nil, List.foldl_nil, List.getD_eq_getElem?_getD, List.getElem?_append]
    by_cases h : j < ws.length
    · rw [if_pos h]
    · rw [if_neg h]
      rw [List.getElem?_eq_none (by omega : ws.length ≤ j)]
      by_cases h2 : j - ws.length = 0
      · simp [h2]
      · rw [List.getElem?_eq_none (by simp; omega)]
  | i + 1, hi => by
    obtain ⟨h1, h2⟩ := ways_fold ws seen i (by omega)
    have e : (rangeKs 0 (i + 1)).foldl (waysAdd ws seen) (ws ++ [0]) = waysAdd ws seen ((rangeKs 0 i).foldl (waysAdd ws seen) (ws ++ [0])) (i : Int) := by
      unfold rangeKs
      rw [List.range_succ, List.map_append, List.foldl_append]
      simp
    rw [e]
    generalize (rangeKs 0 i).foldl (waysAdd ws seen) (ws ++ [0]) = l at h1 h2 ⊢
    refine ⟨fun j => ?_, by unfold waysAdd; rw [List.length_set, h2]⟩
    unfold waysAdd
    rw [Int.toNat_natCast]
    by_cases hj : j = i + 1
    · subst hj
      rw [if_pos (by omega), List.getD_eq_getElem?_getD, List.getElem?_set_self (by omega), Option.getD_some, h1, if_neg (by omega)]
      simp
    · rw [List.getD_eq_getElem?_getD, List.getElem?_set_ne (by omega), ← List.getD_eq_getElem?_getD, h1]
      by_cases h3 : 1 ≤ j ∧ j ≤ i
      · rw [if_pos h3, if_pos (by omega)]
      · rw [if_neg h3, if_neg (by omega)]
theorem waysNext_len (ws : List Int) (seen : Int) : (waysNext ws seen).length = ws.length + 1 := (ways_fold ws seen _ (Nat.le_refl _)).2
theorem waysNext_zero (ws : List Int) (seen : Int) : (waysNext ws seen).getD 0 0 = ws.getD 0 0 := by
  unfold waysNext
  rw [(ways_fold ws seen _ (Nat.le_refl _)).1 0, if_neg (by omega)]; simp
theorem waysNext_succ (ws : List Int) (seen : Int) (j : Nat) : (waysNext ws seen).getD (j + 1) 0 = ws.getD (j + 1) 0 + ws.getD j 0 * (seen - j) := by
  unfold waysNext
  rw [(ways_fold ws seen _ (Nat.le_refl _)).1 (j + 1)]
  by_cases h : j < ws.length
  · rw [if_pos (by omega)]; simp
  · rw [if_neg (by omega)]
    have : ws.getD j 0 = 0 := by rw [List.getD_eq_getElem?_getD, List.getElem?_eq_none (by omega)]; rfl
    rw [this]; simp
/-- in how many ways -/
noncomputable def wy (u : List Nat) (k : Nat) : Int := (waysF u).1.getD k 0
theorem waysF_snoc (u : List Nat) (c : Nat) : waysF (u ++ [c]) = waysStep (waysF u) c := by unfold waysF; rw [List.foldl_append]; rfl
/-- a word of s and t -/
noncomputable def Wd (u : List Nat) : Prop := ∀ c ∈ u, c = 115 ∨ c = 116
theorem Wd.pre {u : List Nat} {c : Nat} (h : Wd (u ++ [c])) : Wd u := fun x hx => h x (List.mem_append_left _ hx)
theorem Wd.last {u : List Nat} {c : Nat} (h : Wd (u ++ [c])) : c = 115 ∨ c = 116 := h c (List.mem_append_right _ (.head _))
theorem snoc_ind {P : List Nat → Prop} (h0 : P []) (hs : ∀ u c, P u → P (u ++ [c])) (u : List Nat) : P u := by
  have : ∀ v : List Nat, P v.reverse := fun v => by
    induction v with
    | nil => exact h0
    | cons c v ih => rw [List.reverse_cons]; exact hs _ _ ih
  have h := this u.reverse
  rwa [List.reverse_reverse] at h
theorem seen_is (u : List Nat) : (waysF u).2 = (u.count 116 : Nat) := by
  induction u using snoc_ind with
  | h0 => rfl
  | hs u c ih =>
    rw [waysF_snoc, List.count_append]
    unfold waysStep
    by_cases h : c = 116
    · subst h; rw [if_pos rfl]; simp [ih]
    · rw [if_neg h]; simp [ih, h]
theorem ways_len_is (u : List Nat) (h : Wd u) : (waysF u).1.length = u.count 115 + 1 := by
  induction u using snoc_ind with
  | h0 => rfl
  | hs u c ih =>
    rw [waysF_snoc, List.count_append]
    unfold waysStep
    rcases h.last with rfl | rfl
    · rw [if_neg (by decide), waysNext_len, ih h.pre]; simp
    · rw [if_pos rfl, ih h.pre]; simp
theorem wy_t (u : List Nat) (k : Nat) : wy (u ++ [116]) k = wy u k := by unfold wy; rw [waysF_snoc]; rfl
theorem wy_s0 (u : List Nat) : wy (u ++ [115]) 0 = wy u 0 := by
  unfold wy; rw [waysF_snoc]; exact waysNext_zero _ _
theorem wy_s (u : List Nat) (k : Nat) : wy (u ++ [115]) (k + 1) = wy u (k + 1) + wy u k * ((u.count 116 : Nat) - (k : Int)) := by
  unfold wy; rw [waysF_snoc, ← seen_is]; exact waysNext_succ _ _ _
theorem cnt_t (u : List Nat) : (u ++ [116]).count 116 = u.count 116 + 1 := by simp
theorem cnt_ts (u : List Nat) : (u ++ [115]).count 116 = u.count 116 := by simp
theorem cnt_s (u : List Nat) : (u ++ [115]).count 115 = u.count 115 + 1 := by simp
theorem cnt_st (u : List Nat) : (u ++ [116]).count 115 = u.count 115 := by simp
theorem wy_far (u : List Nat) (h : Wd u) : ∀ k, u.count 116 < k → wy u k = 0 := by
  induction u using snoc_ind with
  | h0 => intro k hk; unfold wy; rw [List.getD_eq_getElem?_getD, List.getElem?_eq_none (by show 1 ≤ k; simp at hk; omega)]; rfl
  | hs u c ih =>
    intro k hk
    rcases h.last with rfl | rfl
    · rw [cnt_ts] at hk
      obtain ⟨k, rfl⟩ : ∃ j, k = j + 1 := ⟨k - 1, by omega⟩
      rw [wy_s, ih h.pre _ hk]
      by_cases q : k = u.count 116
      · subst q; simp
      · rw [ih h.pre k (by omega)]; simp
    · rw [cnt_t] at hk
      rw [wy_t, ih h.pre k (by omega)]
theorem wy_far' (u : List Nat) (h : Wd u) (k : Nat) (hk : u.count 115 < k) : wy u k = 0 := by
  unfold wy; rw [List.getD_eq_getElem?_getD, List.getElem?_eq_none (by rw [ways_len_is u h]; omega)]; rfl
/-! sums -/
noncomputable def Sg (f : Nat → Int) : Nat → Int
  | 0 => 0
  | n + 1 => Sg f n + f n
theorem Sg_congr {f g : Nat → Int} : ∀ {n : Nat}, (∀ j, j < n → f j = g j) → Sg f n = Sg g n
  | 0, _ => rfl
  | n + 1, h => by unfold Sg; rw [Sg_congr fun j hj => h j (by omega), h n (by omega)]
theorem Sg_add (f g : Nat → Int) : ∀ n : Nat, Sg (fun j => f j + g j) n = Sg f n + Sg g n
  | 0 => rfl
  | n + 1 => by unfold Sg; rw [Sg_add f g n]; omega
theorem Sg_mul (f : Nat → Int) (a : Int) : ∀ n : Nat, Sg (fun j => a * f j) n = a * Sg f n
  | 0 => by simp [Sg]
  | n + 1 => by unfold Sg; rw [Sg_mul f a n, Int.mul_add]
theorem Sg_head (f : Nat → Int) : ∀ n : Nat, Sg f (n + 1) = f 0 + Sg (fun j => f (j + 1)) n
  | 0 => by simp [Sg]
  | n + 1 => by rw [Sg, Sg_head f n, Sg]; omega
theorem Sg_more (f : Nat → Int) (n : Nat) : ∀ m : Nat, (∀ j, n ≤ j → j < n + m → f j = 0) → Sg f (n + m) = Sg f n
  | 0, _ => rfl
  | m + 1, h => by rw [← Nat.add_assoc, Sg, Sg_more f n m (fun j a b => h j a (by omega)), h (n + m) (by omega) (by omega), Int.add_zero]
theorem Sg_to (f : Nat → Int) {n N : Nat} (h : n ≤ N) (h0 : ∀ j, n ≤ j → j < N → f j = 0) : Sg f N = Sg f n := by
  obtain ⟨m, rfl⟩ : ∃ m, N = n + m := ⟨N - n, by omega⟩
  exact Sg_more f n m h0
/-! falling powers -/
noncomputable def ff (x : Int) : Nat → Int
  | 0 => 1
  | n + 1 => ff x n * (x - n)
theorem fallN_is (x a : Int) : ∀ m, fallN x a m = a * ff x m
  | 0 => by simp [fallN, ff]
  | m + 1 => by rw [fallN_succ, fallN_is x a m, ff, Int.mul_assoc]
theorem ff_left (x : Int) : ∀ n, ff x (n + 1) = x * ff (x - 1) n
  | 0 => by simp [ff]
  | n + 1 => by
    have := ff_left x n
    rw [ff, this, ff]
    have e : x - ((n + 1 : Nat) : Int) = x - 1 - n := by omega
    rw [e, Int.mul_assoc]
theorem ff_up (x : Int) (n : Nat) : ff (x + 1) (n + 1) = ff x (n + 1) + ((n : Int) + 1) * ff x n := by
  rw [ff_left, show x + 1 - 1 = x by omega, ff]
  grind
/-! what is told, by the sum -/
noncomputable def SumA (u : List Nat) (x : Int) (N : Nat) : Int := Sg (fun j => wy u j * ff x (u.count 116 - j)) N
noncomputable def SumB (u : List Nat) (x : Int) (N : Nat) : Int := Sg (fun j => wy u j * ff x (u.count 115 - j)) N
theorem SumA_any (u : List Nat) (h : Wd u) (x : Int) {n N : Nat} (h1 : n ≤ N) (h2 : u.count 116 < n ∨ u.count 115 < n) : SumA u x N = SumA u x n := by
  refine Sg_to _ h1 fun j a _ => ?_
  rcases h2 with h2 | h2
  · rw [wy_far u h j (by omega), Int.zero_mul]
  · rw [wy_far' u h j (by omega), Int.zero_mul]
theorem SumB_any (u : List Nat) (h : Wd u) (x : Int) {n N : Nat} (h1 : n ≤ N) (h2 : u.count 116 < n ∨ u.count 115 < n) : SumB u x N = SumB u x n := by
  refine Sg_to _ h1 fun j a _ => ?_
  rcases h2 with h2 | h2
  · rw [wy_far u h j (by omega), Int.zero_mul]
  · rw [wy_far' u h j (by omega), Int.zero_mul]
theorem SumA_t (u : List Nat) (h : Wd u) (x : Int) (N : Nat) : SumA (u ++ [116]) x N = x * SumA u (x - 1) N := by
  unfold SumA
  rw [← Sg_mul]
  refine Sg_congr fun j _ => ?_
  rw [wy_t, cnt_t]
  by_cases q : j ≤ u.count 116
  · rw [show u.count 116 + 1 - j = (u.count 116 - j) + 1 by omega, ff_left]
    grind
  · rw [wy_far u h j (by omega)]; simp
theorem SumA_s (u : List Nat) (h : Wd u) (x : Int) (N : Nat) (hN : u.count 116 < N) : SumA (u ++ [115]) x (N + 1) = SumA u (x + 1) N := by
  unfold SumA
  rw [cnt_ts, Sg_head, wy_s0]
  have e : Sg (fun j => wy (u ++ [115]) (j + 1) * ff x (u.count 116 - (j + 1))) N = Sg (fun j => wy u (j + 1) * ff x (u.count 116 - (j + 1))) N + Sg (fun j => wy u j * ((u.count 116 : Nat) - (j : Int)) * ff x (u.count 116 - (j + 1))) N := by
    rw [← Sg_add]
    refine Sg_congr fun j _ => ?_
    rw [wy_s]; grind
  have e2 : wy u 0 * ff x (u.count 116 - 0) + Sg (fun j => wy u (j + 1) * ff x (u.count 116 - (j + 1))) N = Sg (fun j => wy u j * ff x (u.count 116 - j)) N := by
    rw [← Sg_head (fun j => wy u j * ff x (u.count 116 - j)) N, Sg, wy_far u h N hN]; simp
  rw [e, ← Int.add_assoc, e2, ← Sg_add]
  refine Sg_congr fun j _ => ?_
  by_cases q : j < u.count 116
  · rw [show u.count 116 - j = (u.count 116 - (j + 1)) + 1 by omega, ff_up]
    have : ((u.count 116 - (j + 1) : Nat) : Int) + 1 = (u.count 116 : Nat) - (j : Int) := by omega
    rw [this]; grind
  · by_cases q2 : j = u.count 116
    · subst q2; simp [ff]
    · rw [wy_far u h j (by omega)]; simp
theorem SumB_t (u : List Nat) (x : Int) (N : Nat) : SumB (u ++ [116]) x N = SumB u x N := by
  unfold SumB
  refine Sg_congr fun j _ => ?_
  rw [wy_t, cnt_st]
theorem SumB_s (u : List Nat) (h : Wd u) (x : Int) (N : Nat) (hN : u.count 115 < N) : SumB (u ++ [115]) x (N + 1) = SumB u x N * (x + (u.count 116 : Nat) - (u.count 115 : Nat)) := by
  unfold SumB
  rw [cnt_s, Sg_head, wy_s0]
  have e : Sg (fun j => wy (u ++ [115]) (j + 1) * ff x (u.count 115 + 1 - (j + 1))) N = Sg (fun j => wy u (j + 1) * ff x (u.count 115 + 1 - (j + 1))) N + Sg (fun j => wy u j * ((u.count 116 : Nat) - (j : Int)) * ff x (u.count 115 + 1 - (j + 1))) N := by
    rw [← Sg_add]
    refine Sg_congr fun j _ => ?_
    rw [wy_s]; grind
  have e2 : wy u 0 * ff x (u.count 115 + 1 - 0) + Sg (fun j => wy u (j + 1) * ff x (u.count 115 + 1 - (j + 1))) N = Sg (fun j => wy u j * ff x (u.count 115 + 1 - j)) N := by
    rw [← Sg_head (fun j => wy u j * ff x (u.count 115 + 1 - j)) N, Sg, wy_far' u h N hN]; simp
  rw [e, ← Int.add_assoc, e2, ← Sg_add, Int.mul_comm (Sg _ _), ← Sg_mul]
  refine Sg_congr fun j _ => ?_
  by_cases q : j ≤ u.count 115
  · rw [show u.count 115 + 1 - j = (u.count 115 - j) + 1 by omega, show u.count 115 + 1 - (j + 1) = u.count 115 - j by omega, ff]
    have : ((u.count 115 - j : Nat) : Int) = (u.count 115 : Nat) - (j : Int) := by omega
    rw [this]; grind
  · rw [wy_far' u h j (by omega)]; simp
theorem sumF_is (us : List Int) (n : Nat) (x : Int) : ∀ i : Nat, sumF us n x i = Sg (fun j => us.getD j 0 * ff x (n - j)) i
  | 0 => rfl
  | i + 1 => by
    rw [sumF_succ, sumF_is us n x i, Sg, fallN_is]
    congr 3
    omega
theorem done_from (up p a : Int) (cs : List Int) : cs.foldl (doneStep up) (p, a) = ((doneF up p cs).1, a * (doneF up p cs).2) := by
  unfold doneF
  induction cs generalizing p a with
  | nil => simp
  | cons c cs ih =>
    rw [List.foldl_cons, List.foldl_cons]
    by_cases h : c = up
    · rw [show doneStep up (p, a) c = (p + 1, a) from if_pos h, show doneStep up (p, 1) c = (p + 1, 1) from if_pos h]; exact ih _ _
    · rw [show doneStep up (p, a) c = (p - 1, a * p) from if_neg h, show doneStep up (p, 1) c = (p - 1, 1 * p) from if_neg h, ih, ih (p - 1) (1 * p)]
      simp [Int.mul_assoc]
/-- the codes as numbers -/
noncomputable def ci (u : List Nat) : List Int := u.map fun (c : Nat) => (c : Int)
theorem done_rev_s (u : List Nat) (x : Int) : doneF 115 x (ci (u ++ [115]).reverse) = doneF 115 (x + 1) (ci u.reverse) := by
  rw [List.reverse_append]
  simp [ci, doneF, doneStep]
theorem done_rev_t (u : List Nat) (x : Int) : doneF 115 x (ci (u ++ [116]).reverse) = ((doneF 115 (x - 1) (ci u.reverse)).1, x * (doneF 115 (x - 1) (ci u.reverse)).2) := by
  rw [List.reverse_append]
  show List.foldl (doneStep 115) (x, 1) (116 :: ci u.reverse) = _
  rw [List.foldl_cons]
  show List.foldl (doneStep 115) (x - 1, 1 * x) (ci u.reverse) = _
  rw [done_from, Int.one_mul]
theorem navon1 (u : List Nat) (h : Wd u) : ∀ (x : Int) (N : Nat), u.count 116 < N ∨ u.count 115 < N → doneF 115 x (ci u.reverse) = (x + (u.count 115 : Nat) - (u.count 116 : Nat), SumA u x N) := by
  induction u using snoc_ind with
  | h0 =>
    intro x N hN
    rw [SumA_any [] h x (n := 1) (by simp at hN; omega) (by simp)]
    simp [ci, doneF, SumA, Sg, wy, waysF, ff]
  | hs u c ih =>
    intro x N hN
    rcases h.last with rfl | rfl
    · rw [done_rev_s, ih h.pre (x + 1) (u.count 116 + u.count 115 + 1 + N) (by omega), ← SumA_s u h.pre x _ (by omega), SumA_any _ h x (n := N) (by omega) hN, cnt_s, cnt_ts]
      congr 1; omega
    · rw [done_rev_t, ih h.pre (x - 1) N (by rw [cnt_t, cnt_st] at hN; omega), SumA_t u h.pre, cnt_t, cnt_st]
      dsimp only
      congr 1; omega
theorem done_s (u : List Nat) (x : Int) : doneF 116 x (ci (u ++ [115])) = ((doneF 116 x (ci u)).1 - 1, (doneF 116 x (ci u)).2 * (doneF 116 x (ci u)).1) := by
  unfold ci doneF
  rw [List.map_append, List.foldl_append]; rfl
theorem done_t (u : List Nat) (x : Int) : doneF 116 x (ci (u ++ [116])) = ((doneF 116 x (ci u)).1 + 1, (doneF 116 x (ci u)).2) := by
  unfold ci doneF
  rw [List.map_append, List.foldl_append]; rfl
theorem navon2 (u : List Nat) (h : Wd u) (x : Int) : ∀ N : Nat, u.count 116 < N ∨ u.count 115 < N → doneF 116 x (ci u) = (x + (u.count 116 : Nat) - (u.count 115 : Nat), SumB u x N) := by
  induction u using snoc_ind with
  | h0 =>
    intro N hN
    rw [SumB_any [] h x (n := 1) (by simp at hN; omega) (by simp)]
    simp [ci, doneF, SumB, Sg, wy, waysF, ff]
  | hs u c ih =>
    intro N hN
    rcases h.last with rfl | rfl
    · rw [done_s, ih h.pre (u.count 116 + u.count 115 + 1 + N) (by omega), ← SumB_any _ h x (n := N) (N := u.count 116 + u.count 115 + 1 + N + 1) (by omega) hN, SumB_s u h.pre x _ (by omega), cnt_s, cnt_ts]
      dsimp only
      congr 1; omega
    · rw [done_t, ih h.pre N (by rw [cnt_t, cnt_st] at hN; omega), SumB_t, cnt_t, cnt_st]
      dsimp only
      congr 1; omega
end Mine
end

section
namespace Mine
/-! leads -/
noncomputable def room (cs : List Nat) (k : Nat) : Nat := (cs.take k).count 116 + (cs.drop (k + 1)).count 115
noncomputable def roomsT (cs : List Nat) (i : Nat) : List Nat := ((List.range i).filter fun k => decide (cs.getD k 0 = 116)).map (room cs)
noncomputable def roomsS (cs : List Nat) (i : Nat) : List Nat := ((List.range i).filter fun k => decide (¬ cs.getD k 0 = 116)).map (room cs)
theorem roomsT_succ (cs : List Nat) (i : Nat) : roomsT cs (i + 1) = roomsT cs i ++ (if cs.getD i 0 = 116 then [room cs i] else []) := by
  unfold roomsT
  rw [List.range_succ, List.filter_append, List.map_append]
  congr 1
  rw [List.filter_cons, List.filter_nil]
  by_cases h : cs.getD i 0 = 116
  · rw [if_pos (by rw [decide_eq_true_eq]; exact h), if_pos h]; rfl
  · rw [if_neg (by rw [decide_eq_true_eq]; exact h), if_neg h]; rfl
theorem roomsS_succ (cs : List Nat) (i : Nat) : roomsS cs (i + 1) = roomsS cs i ++ (if cs.getD i 0 = 116 then [] else [room cs i]) := by
  unfold roomsS
  rw [List.range_succ, List.filter_append, List.map_append]
  congr 1
  rw [List.filter_cons, List.filter_nil]
  by_cases h : cs.getD i 0 = 116
  · rw [if_neg (by rw [decide_eq_true_eq]; exact fun q => q h), if_pos h]; rfl
  · rw [if_pos (by rw [decide_eq_true_eq]; exact h), if_neg h]; rfl
noncomputable def cnts (rs : List Nat) : List Int := rs.foldl incr []
theorem cnts_snoc (rs : List Nat) (r : Nat) : cnts (rs ++ [r]) = incr (cnts rs) r := by unfold cnts; rw [List.foldl_append]; rfl
theorem norm_rep (X : List Nat) : ∀ r, normF (X ++ List.replicate r 32) = ((normF X).1, (normF X).2 + r)
  | 0 => by simp
  | r + 1 => by
    rw [List.replicate_succ', ← List.append_assoc, normF_snoc, norm_rep X r]
    unfold normStep; rw [if_pos rfl, Nat.add_assoc]
theorem norm_lead (cs : List Nat) : ∀ i, normF (leadF cs i).1 = (cnts (roomsT cs i), 0) ∧ normF (leadF cs i).2 = (cnts (roomsS cs i), 0)
  | 0 => ⟨rfl, rfl⟩
  | i + 1 => by
    obtain ⟨h1, h2⟩ := norm_lead cs i
    rw [leadF_succ, roomsT_succ, roomsS_succ]
    unfold leadStep
    by_cases h : cs.getD i 0 = 116
    · rw [if_pos h, if_pos h, if_pos h]
      refine ⟨?_, by rw [List.append_nil]; exact h2⟩
      rw [normF_snoc, norm_rep, h1, cnts_snoc]
      unfold normStep; rw [if_neg (by decide)]; dsimp only; rw [Nat.zero_add]; rfl
    · rw [if_neg h, if_neg h, if_neg h]
      refine ⟨by rw [List.append_nil]; exact h1, ?_⟩
      rw [normF_snoc, norm_rep, h2, cnts_snoc]
      unfold normStep; rw [if_neg (by decide)]; dsimp only; rw [Nat.zero_add]; rfl
noncomputable def rT (u : List Nat) : List Nat := roomsT u u.length
noncomputable def rS (u : List Nat) : List Nat := roomsS u u.length
theorem norm_T (u : List Nat) : normF (leadT u) = (cnts (rT u), u.count 115) := by
  unfold leadT; rw [norm_rep, (norm_lead u _).1]; simp [rT]
theorem norm_S (u : List Nat) : normF (leadS u) = (cnts (rS u), u.count 116) := by
  unfold leadS; rw [norm_rep, (norm_lead u _).2]; simp [rS]
theorem getD_snoc (u : List Nat) (c : Nat) {k : Nat} (h : k < u.length) : (u ++ [c]).getD k 0 = u.getD k 0 := by
  simp [List.getD_eq_getElem?_getD, List.getElem?_append, h]
theorem getD_last (u : List Nat) (c : Nat) : (u ++ [c]).getD u.length 0 = c := by simp
theorem room_snoc (u : List Nat) (c : Nat) {k : Nat} (h : k < u.length) : room (u ++ [c]) k = room u k + (if c = 115 then 1 else 0) := by
  unfold room
  rw [List.take_append_of_le_length (by omega), List.drop_append_of_le_length (by omega), List.count_append, ← Nat.add_assoc]
  congr 1
  by_cases q : c = 115 <;> simp [q]
theorem room_last (u : List Nat) (c : Nat) : room (u ++ [c]) u.length = u.count 116 := by
  unfold room
  rw [List.take_append_of_le_length (Nat.le_refl _), List.drop_eq_nil_of_le (by simp)]; simp
theorem filter_range_congr {p q : Nat → Bool} {n : Nat} (h : ∀ k, k < n → p k = q k) : (List.range n).filter p = (List.range n).filter q :=
  List.filter_congr fun k hk => h k (List.mem_range.mp hk)
theorem roomsT_pre (u : List Nat) (c : Nat) : roomsT (u ++ [c]) u.length = (rT u).map (· + (if c = 115 then 1 else 0)) := by
  unfold rT roomsT
  rw [List.map_map, filter_range_congr (q := fun k => decide (u.getD k 0 = 116)) fun k hk => by rw [getD_snoc u c hk]]
  refine List.map_congr_left fun k hk => ?_
  exact room_snoc u c (List.mem_range.mp (List.mem_filter.mp hk).1)
theorem roomsS_pre (u : List Nat) (c : Nat) : roomsS (u ++ [c]) u.length = (rS u).map (· + (if c = 115 then 1 else 0)) := by
  unfold rS roomsS
  rw [List.map_map, filter_range_congr (q := fun k => decide (¬ u.getD k 0 = 116)) fun k hk => by rw [getD_snoc u c hk]]
  refine List.map_congr_left fun k hk => ?_
  exact room_snoc u c (List.mem_range.mp (List.mem_filter.mp hk).1)
theorem rT_s (u : List Nat) : rT (u ++ [115]) = (rT u).map (· + 1) := by
  rw [rT, List.length_append, List.length_singleton, roomsT_succ, roomsT_pre, getD_last]; simp
theorem rT_t (u : List Nat) : rT (u ++ [116]) = rT u ++ [u.count 116] := by
  rw [rT, List.length_append, List.length_singleton, roomsT_succ, roomsT_pre, getD_last, room_last]; simp
theorem rS_s (u : List Nat) : rS (u ++ [115]) = (rS u).map (· + 1) ++ [u.count 116] := by
  rw [rS, List.length_append, List.length_singleton, roomsS_succ, roomsS_pre, getD_last, room_last]; simp
theorem rS_t (u : List Nat) : rS (u ++ [116]) = rS u := by
  rw [rS, List.length_append, List.length_singleton, roomsS_succ, roomsS_pre, getD_last]; simp
theorem rT_len (u : List Nat) (h : Wd u) : (rT u).length = u.count 116 := by
  induction u using snoc_ind with
  | h0 => rfl
  | hs u c ih =>
    rcases h.last with rfl | rfl
    · rw [rT_s, List.length_map, ih h.pre, cnt_ts]
    · rw [rT_t, List.length_append, ih h.pre, cnt_t]; rfl
theorem rS_len (u : List Nat) (h : Wd u) : (rS u).length = u.count 115 := by
  induction u using snoc_ind with
  | h0 => rfl
  | hs u c ih =>
    rcases h.last with rfl | rfl
    · rw [rS_s, List.length_append, List.length_map, ih h.pre, cnt_s]; rfl
    · rw [rS_t, ih h.pre, cnt_st]
theorem room_lt {u : List Nat} {k : Nat} (hk : k < u.length) : room u k < u.length := by
  unfold room
  have h1 := List.count_le_length (a := 116) (l := u.take k)
  have h2 := List.count_le_length (a := 115) (l := u.drop (k + 1))
  rw [List.length_take] at h1
  rw [List.length_drop] at h2
  omega
theorem rT_lt {u : List Nat} {r : Nat} (h : r ∈ rT u) : r < u.length := by
  obtain ⟨k, hk, rfl⟩ := List.mem_map.mp h
  exact room_lt (List.mem_range.mp (List.mem_filter.mp hk).1)
theorem rS_lt {u : List Nat} {r : Nat} (h : r ∈ rS u) : r < u.length := by
  obtain ⟨k, hk, rfl⟩ := List.mem_map.mp h
  exact room_lt (List.mem_range.mp (List.mem_filter.mp hk).1)
/-! products -/
noncomputable def pr (y : Int) : List Nat → Int
  | [] => 1
  | r :: rs => (y + r) * pr y rs
theorem pr_snoc (y : Int) (r : Nat) : ∀ rs : List Nat, pr y (rs ++ [r]) = pr y rs * (y + r)
  | [] => by simp [pr]
  | a :: rs => by
    rw [List.cons_append, pr, pr_snoc y r rs, pr, Int.mul_assoc]
theorem pr_up (y : Int) : ∀ rs : List Nat, pr y (rs.map (· + 1)) = pr (y + 1) rs
  | [] => rfl
  | a :: rs => by
    rw [List.map_cons, pr, pr, pr_up y rs]
    congr 1; omega
theorem gjw1 (u : List Nat) (h : Wd u) : ∀ x : Int, (doneF 115 x (ci u.reverse)).2 = pr (x - (u.count 116 : Nat) + 1) (rT u) := by
  induction u using snoc_ind with
  | h0 => intro x; rfl
  | hs u c ih =>
    intro x
    rcases h.last with rfl | rfl
    · rw [done_rev_s, ih h.pre, rT_s, pr_up, cnt_ts]
      congr 1; omega
    · rw [done_rev_t, ih h.pre, rT_t, pr_snoc, cnt_t, Int.mul_comm]
      have e1 : x - ((u.count 116 + 1 : Nat) : Int) + 1 = x - 1 - (u.count 116 : Nat) + 1 := by omega
      have e2 : x - 1 - (u.count 116 : Nat) + 1 + ((u.count 116 : Nat) : Int) = x := by omega
      rw [e1, e2]
theorem gjw2 (u : List Nat) (h : Wd u) (x : Int) : (doneF 116 x (ci u)).2 = pr (x - (u.count 115 : Nat) + 1) (rS u) := by
  induction u using snoc_ind with
  | h0 => rfl
  | hs u c ih =>
    rcases h.last with rfl | rfl
    · rw [done_s, ih h.pre, navon2 u h.pre x (u.count 116 + 1) (by omega), rS_s, pr_snoc, pr_up, cnt_s]
      have e1 : x - ((u.count 115 + 1 : Nat) : Int) + 1 + 1 = x - (u.count 115 : Nat) + 1 := by omega
      have e2 : x - ((u.count 115 + 1 : Nat) : Int) + 1 + ((u.count 116 : Nat) : Int) = x + (u.count 116 : Nat) - (u.count 115 : Nat) := by omega
      rw [e1, e2]
    · rw [done_t, ih h.pre, rS_t, cnt_st]
/-! counts -/
theorem grow_getD (c : List Int) (n j : Nat) : (if c.length ≤ n then c ++ List.replicate (n - c.length + 1) 0 else c).getD j 0 = c.getD j 0 := by
  split
  · rw [List.getD_eq_getElem?_getD, List.getD_eq_getElem?_getD, List.getElem?_append]
    split
    · rfl
    · rename_i h
      rw [List.getElem?_eq_none (by omega : c.length ≤ j), List.getElem?_replicate]
      split <;> rfl
  · rfl
theorem grow_len (c : List Int) (n : Nat) : (if c.length ≤ n then c ++ List.replicate (n - c.length + 1) 0 else c).length = max c.length (n + 1) := by
  split
  · rw [List.length_append, List.length_replicate]; omega
  · omega
theorem incr_getD (c : List Int) (b j : Nat) : (incr c b).getD j 0 = c.getD j 0 + (if j = b then 1 else 0) := by
  unfold incr
  by_cases h : j = b
  · subst h
    rw [if_pos rfl, List.getD_eq_getElem?_getD, List.getElem?_set_self (by rw [grow_len]; omega), Option.getD_some, grow_getD]
  · rw [if_neg h, List.getD_eq_getElem?_getD, List.getElem?_set_ne (by omega), ← List.getD_eq_getElem?_getD, grow_getD, Int.add_zero]
theorem incr_length (c : List Int) (b : Nat) : (incr c b).length = max c.length (b + 1) := by
  unfold incr; rw [List.length_set, grow_len]
theorem cnts_getD (rs : List Nat) (j : Nat) : (cnts rs).getD j 0 = (rs.count j : Nat) := by
  induction rs using snoc_ind with
  | h0 => rfl
  | hs rs r ih =>
    rw [cnts_snoc, incr_getD, ih, List.count_append, List.count_singleton]
    by_cases h : j = r
    · simp [h]
    · have : ¬ (r == j) = true := by simpa using fun e => h e.symm
      rw [if_neg h, if_neg this]; rfl
theorem cnts_len (rs : List Nat) (n : Nat) : (cnts rs).length ≤ n ↔ ∀ r ∈ rs, r < n := by
  induction rs using snoc_ind with
  | h0 => simp [cnts]
  | hs rs r ih =>
    rw [cnts_snoc, incr_length]
    constructor
    · intro h a ha
      rcases List.mem_append.mp ha with ha | ha
      · exact ih.mp (by omega) a ha
      · rw [List.mem_singleton.mp ha]; omega
    · intro h
      have h1 := ih.mpr fun a ha => h a (List.mem_append_left _ ha)
      have h2 := h r (List.mem_append_right _ (.head _))
      omega
theorem cnts_mem {rs : List Nat} {x : Int} (h : x ∈ cnts rs) : 0 ≤ x ∧ x ≤ rs.length := by
  obtain ⟨j, hj, rfl⟩ := List.getElem_of_mem h
  have := cnts_getD rs j
  rw [List.getD_eq_getElem?_getD, List.getElem?_eq_getElem hj, Option.getD_some] at this
  rw [this]
  have := List.count_le_length (a := j) (l := rs)
  omega
theorem prodF_incr (c : List Int) (b : Nat) (hc : ∀ j, 0 ≤ c.getD j 0) (y : Int) : ∀ L, prodF (incr c b) y L = prodF c y L * (if b < L then y + b else 1)
  | 0 => by simp [prodF]
  | L + 1 => by
    rw [prodF_succ, prodF_incr c b hc y L, prodF_succ, incr_getD]
    by_cases h : L = b
    · subst h
      have e : (c.getD L 0 + 1).toNat = (c.getD L 0).toNat + 1 := by have := hc L; omega
      rw [if_pos rfl, e, if_neg (by omega), if_pos (by omega), Int.pow_succ]
      simp [Int.mul_assoc]
    · rw [if_neg h, Int.add_zero]
      by_cases h2 : b < L
      · rw [if_pos h2, if_pos (by omega)]; grind
      · rw [if_neg h2, if_neg (by omega)]; simp
theorem prod_cnts (y : Int) (L : Nat) (rs : List Nat) (h : ∀ r ∈ rs, r < L) : prodF (cnts rs) y L = pr y rs := by
  induction rs using snoc_ind with
  | h0 =>
    show prodF [] y L = 1
    have : ∀ L, prodF [] y L = 1 := fun L => by
      induction L with
      | zero => rfl
      | succ L ih => rw [prodF_succ, ih]; simp
    exact this L
  | hs rs r ih =>
    rw [cnts_snoc, prodF_incr _ _ (fun j => by rw [cnts_getD]; omega), ih fun a ha => h a (List.mem_append_left _ ha), if_pos (h r (List.mem_append_right _ (.head _))), pr_snoc]
theorem prod_cnts' (y : Int) (rs : List Nat) : prodF (cnts rs) y (cnts rs).length = pr y rs := prod_cnts y _ rs ((cnts_len rs _).mp (Nat.le_refl _))
end Mine
end

section
namespace Mine
/-! falling powers are independent -/
theorem ff_zero : ∀ {i n : Nat}, i < n → ff (i : Int) n = 0
  | i, n + 1, h => by
    rw [ff]
    by_cases q : i = n
    · subst q; simp
    · rw [ff_zero (i := i) (n := n) (by omega), Int.zero_mul]
theorem ff_pos : ∀ {i n : Nat}, n ≤ i → 0 < ff (i : Int) n
  | i, 0, _ => by simp [ff]
  | i, n + 1, h => by
    rw [ff]
    exact Int.mul_pos (ff_pos (by omega)) (by omega)
theorem Sg_rev (f : Nat → Int) (n : Nat) : Sg f (n + 1) = Sg (fun i => f (n - i)) (n + 1) := by
  induction n generalizing f with
  | zero => rfl
  | succ n ih =>
    have e : Sg (fun i => f (n + 1 - i)) (n + 1 + 1) = Sg (fun i => f (n + 1 - i)) (n + 1) + f (n + 1 - (n + 1)) := rfl
    rw [Sg_head, ih, e, show n + 1 - (n + 1) = 0 by omega, Int.add_comm]
    congr 1
    refine Sg_congr fun j hj => ?_
    rw [show n - j + 1 = n + 1 - j by omega]
theorem Sg_nil {f : Nat → Int} : ∀ {n : Nat}, (∀ j, j < n → f j = 0) → Sg f n = 0
  | 0, _ => rfl
  | n + 1, h => by rw [Sg, Sg_nil fun j hj => h j (by omega), h n (by omega)]; rfl
theorem Sg_sub (f g : Nat → Int) : ∀ n : Nat, Sg (fun j => f j - g j) n = Sg f n - Sg g n
  | 0 => rfl
  | n + 1 => by unfold Sg; rw [Sg_sub f g n]; omega
theorem ff_free {d : Nat} {e : Nat → Int} (h : ∀ x : Int, Sg (fun i => e i * ff x i) (d + 1) = 0) : ∀ i, i ≤ d → e i = 0 := by
  intro i
  induction i using Nat.strongRecOn with
  | ind i ih =>
    intro hi
    have hx := h (i : Int)
    rw [Sg_to (n := i + 1) _ (by omega) (fun j a _ => by rw [ff_zero (by omega), Int.mul_zero]), Sg,
      Sg_nil (fun j hj => by rw [ih j hj (by omega), Int.zero_mul]), Int.zero_add] at hx
    rcases Int.mul_eq_zero.mp hx with q | q
    · exact q
    · have := ff_pos (Nat.le_refl i); omega
theorem ff_same {d : Nat} {a b : Nat → Int} (h : ∀ x : Int, Sg (fun j => a j * ff x (d - j)) (d + 1) = Sg (fun j => b j * ff x (d - j)) (d + 1)) {j : Nat} (hj : j ≤ d) : a j = b j := by
  have := ff_free (d := d) (e := fun i => a (d - i) - b (d - i)) (fun x => by
    have e : Sg (fun i => (a (d - i) - b (d - i)) * ff x i) (d + 1) = Sg (fun i => (fun j => a j * ff x (d - j)) (d - i) - (fun j => b j * ff x (d - j)) (d - i)) (d + 1) := by
      refine Sg_congr fun i hi => ?_
      dsimp only
      rw [show d - (d - i) = i by omega]; grind
    rw [e, Sg_sub, ← Sg_rev (fun j => a j * ff x (d - j)), ← Sg_rev (fun j => b j * ff x (d - j)), h x]; omega) (d - j) (by omega)
  rw [show d - (d - j) = j by omega] at this
  omega
/-! a product tells its factors -/
theorem pr_shift (z M : Int) : ∀ R : List Nat, ∃ q, pr (z + M) R = pr z R + M * q
  | [] => ⟨0, by simp [pr]⟩
  | a :: R => by
    obtain ⟨q, hq⟩ := pr_shift z M R
    refine ⟨(z + a) * q + pr z R + M * q, ?_⟩
    rw [pr, pr, hq]; grind
theorem pr_zero {z : Int} : ∀ {R : List Nat}, pr z R = 0 → ∃ a ∈ R, z + (a : Nat) = 0
  | [], h => by simp [pr] at h
  | a :: R, h => by
    rw [pr] at h
    rcases Int.mul_eq_zero.mp h with q | q
    · exact ⟨a, .head _, q⟩
    · obtain ⟨b, hb, e⟩ := pr_zero q
      exact ⟨b, .tail _ hb, e⟩
theorem pr_erase {y : Int} {r : Nat} : ∀ {R : List Nat}, r ∈ R → pr y R = (y + r) * pr y (R.erase r)
  | a :: R, h => by
    by_cases q : a = r
    · subst q; simp [pr]
    · have h' : r ∈ R := by rcases List.mem_cons.mp h with e | e; exact absurd e.symm q; exact e
      rw [List.erase_cons_tail (by simpa using q), pr, pr, pr_erase h']; grind
theorem pr_roots {N : Int} : ∀ {R R' : List Nat}, R.length = R'.length → (∀ y, N ≤ y → pr y R = pr y R') → ∀ r, R.count r = R'.count r
  | [], R', hl, _, r => by rw [List.length_eq_zero_iff.mp hl.symm]
  | a :: R, R', hl, h, r => by
    have ha : a ∈ R' := by
      have hM := h (-(a : Int) + ((pr (-(a : Int)) R').natAbs + N.natAbs + a + 1)) (by omega)
      obtain ⟨q, hq⟩ := pr_shift (-(a : Int)) ((pr (-(a : Int)) R').natAbs + N.natAbs + a + 1) R'
      rw [hq, pr] at hM
      have hd : ((pr (-(a : Int)) R').natAbs + N.natAbs + a + 1 : Int) ∣ pr (-(a : Int)) R' := by
        refine ⟨pr (-(a : Int) + ((pr (-(a : Int)) R').natAbs + N.natAbs + a + 1)) R - q, ?_⟩
        rw [Int.mul_sub]
        have e : (-(a : Int) + ((pr (-(a : Int)) R').natAbs + N.natAbs + a + 1) + (a : Nat)) = ((pr (-(a : Int)) R').natAbs + N.natAbs + a + 1) := by omega
        rw [e] at hM
        omega
      have h0 : pr (-(a : Int)) R' = 0 := by
        refine Int.eq_zero_of_dvd_of_natAbs_lt_natAbs hd ?_
        omega
      obtain ⟨b, hb, e⟩ := pr_zero h0
      have : b = a := by omega
      exact this ▸ hb
    have hl' : R.length = (R'.erase a).length := by
      rw [List.length_erase_of_mem ha]; simp only [List.length_cons] at hl; omega
    have ih := pr_roots (N := N.natAbs + 1) hl' (fun y hy => by
      have hy' := h y (by omega)
      rw [pr, pr_erase ha] at hy'
      exact Int.eq_of_mul_eq_mul_left (by omega) hy') r
    rw [(List.perm_cons_erase ha).count_eq r, List.count_cons, List.count_cons, ih]
theorem cnts_eq {R R' : List Nat} (h : ∀ r, R.count r = R'.count r) : cnts R = cnts R' := by
  have hm : ∀ r, r ∈ R ↔ r ∈ R' := fun r => by rw [← List.count_pos_iff, ← List.count_pos_iff, h r]
  have hl : (cnts R).length = (cnts R').length := Nat.le_antisymm ((cnts_len R _).mpr fun r hr => (cnts_len R' _).mp (Nat.le_refl _) r ((hm r).mp hr)) ((cnts_len R' _).mpr fun r hr => (cnts_len R _).mp (Nat.le_refl _) r ((hm r).mpr hr))
  refine List.ext_getElem hl fun j h1 h2 => ?_
  have e1 := cnts_getD R j
  have e2 := cnts_getD R' j
  rw [List.getD_eq_getElem?_getD, List.getElem?_eq_getElem h1, Option.getD_some] at e1
  rw [List.getD_eq_getElem?_getD, List.getElem?_eq_getElem h2, Option.getD_some] at e2
  rw [e1, e2, h j]
theorem cnts_count {R R' : List Nat} (h : cnts R = cnts R') (r : Nat) : R.count r = R'.count r := by
  have e1 := cnts_getD R r
  rw [h, cnts_getD] at e1
  omega
theorem cnts_length {R R' : List Nat} (h : cnts R = cnts R') : R.length = R'.length := (List.perm_iff_count.mpr fun r => cnts_count h r).length_eq
theorem cnts_pr {R R' : List Nat} (h : cnts R = cnts R') (y : Int) : pr y R = pr y R' := by rw [← prod_cnts', ← prod_cnts', h]
/-! the sums and the products of a word -/
theorem sum_pr1 (u : List Nat) (h : Wd u) (x : Int) (N : Nat) (hN : u.count 116 < N ∨ u.count 115 < N) : SumA u x N = pr (x - (u.count 116 : Nat) + 1) (rT u) := by
  rw [← gjw1 u h, navon1 u h x N hN]
theorem sum_pr2 (u : List Nat) (h : Wd u) (x : Int) (N : Nat) (hN : u.count 116 < N ∨ u.count 115 < N) : SumB u x N = pr (x - (u.count 115 : Nat) + 1) (rS u) := by
  rw [← gjw2 u h, navon2 u h x N hN]
theorem ways_same {u v : List Nat} (hu : Wd u) (hv : Wd v) (hc : u.count 115 = v.count 115) (h : ∀ k, wy u k = wy v k) : (waysF u).1 = (waysF v).1 := by
  have h1 := ways_len_is u hu
  have h2 := ways_len_is v hv
  refine List.ext_getElem (by omega) fun j a b => ?_
  have e := h j
  unfold wy at e
  rw [List.getD_eq_getElem?_getD, List.getElem?_eq_getElem a, Option.getD_some, List.getD_eq_getElem?_getD, List.getElem?_eq_getElem b, Option.getD_some] at e
  exact e
/-- two words are one deed -/
noncomputable def Deed (u v : List Nat) : Prop := u.count 116 = v.count 116 ∧ (waysF u).1 = (waysF v).1
theorem Deed.ups {u v : List Nat} (hu : Wd u) (hv : Wd v) (h : Deed u v) : u.count 115 = v.count 115 := by
  have h1 := ways_len_is u hu
  have h2 := ways_len_is v hv
  rw [h.2] at h1
  omega
theorem Deed.wy {u v : List Nat} (h : Deed u v) (k : Nat) : wy u k = wy v k := by unfold Mine.wy; rw [h.2]
theorem deed_T {u v : List Nat} (hu : Wd u) (hv : Wd v) : (normF (leadT u)).1 = (normF (leadT v)).1 ∧ (normF (leadT u)).2 = (normF (leadT v)).2 ↔ Deed u v := by
  rw [norm_T, norm_T]
  dsimp only
  constructor
  · rintro ⟨h1, h2⟩
    have hd : u.count 116 = v.count 116 := by rw [← rT_len u hu, ← rT_len v hv]; exact cnts_length h1
    refine ⟨hd, ways_same hu hv h2 fun k => ?_⟩
    by_cases q : k ≤ u.count 116
    · refine ff_same (d := u.count 116) (a := Mine.wy u) (b := Mine.wy v) (fun x => ?_) q
      have e := (sum_pr1 u hu x (u.count 116 + 1) (by omega)).trans ((cnts_pr h1 _).trans ((hd ▸ sum_pr1 v hv x (v.count 116 + 1) (by omega)).symm))
      unfold SumA at e
      rw [← hd] at e
      exact e
    · rw [wy_far u hu k (by omega), wy_far v hv k (by omega)]
  · intro h
    have hm := h.ups hu hv
    refine ⟨cnts_eq (pr_roots (N := 0) (by rw [rT_len u hu, rT_len v hv, h.1]) fun y _ => ?_), hm⟩
    have e1 := sum_pr1 u hu (y + (u.count 116 : Nat) - 1) (u.count 116 + 1) (by omega)
    have e2 := sum_pr1 v hv (y + (u.count 116 : Nat) - 1) (u.count 116 + 1) (by rw [h.1]; omega)
    rw [show y + ((u.count 116 : Nat) : Int) - 1 - (u.count 116 : Nat) + 1 = y by omega] at e1
    rw [← h.1, show y + ((u.count 116 : Nat) : Int) - 1 - (u.count 116 : Nat) + 1 = y by omega] at e2
    rw [← e1, ← e2]
    unfold SumA
    rw [h.1]
    exact Sg_congr fun j _ => by rw [h.wy]
theorem deed_S {u v : List Nat} (hu : Wd u) (hv : Wd v) : (normF (leadS u)).1 = (normF (leadS v)).1 ∧ (normF (leadS u)).2 = (normF (leadS v)).2 ↔ Deed u v := by
  rw [norm_S, norm_S]
  dsimp only
  constructor
  · rintro ⟨h1, h2⟩
    have hd : u.count 115 = v.count 115 := by rw [← rS_len u hu, ← rS_len v hv]; exact cnts_length h1
    refine ⟨h2, ways_same hu hv hd fun k => ?_⟩
    by_cases q : k ≤ u.count 115
    · refine ff_same (d := u.count 115) (a := Mine.wy u) (b := Mine.wy v) (fun x => ?_) q
      have e := (sum_pr2 u hu x (u.count 115 + 1) (by omega)).trans ((cnts_pr h1 _).trans ((hd ▸ sum_pr2 v hv x (v.count 115 + 1) (by omega)).symm))
      unfold SumB at e
      rw [← hd] at e
      exact e
    · rw [wy_far' u hu k (by omega), wy_far' v hv k (by omega)]
  · intro h
    have hm := h.ups hu hv
    refine ⟨cnts_eq (pr_roots (N := 0) (by rw [rS_len u hu, rS_len v hv, hm]) fun y _ => ?_), h.1⟩
    have e1 := sum_pr2 u hu (y + (u.count 115 : Nat) - 1) (u.count 115 + 1) (by omega)
    have e2 := sum_pr2 v hv (y + (u.count 115 : Nat) - 1) (u.count 115 + 1) (by rw [hm]; omega)
    rw [show y + ((u.count 115 : Nat) : Int) - 1 - (u.count 115 : Nat) + 1 = y by omega] at e1
    rw [← hm, show y + ((u.count 115 : Nat) : Int) - 1 - (u.count 115 : Nat) + 1 = y by omega] at e2
    rw [← e1, ← e2]
    unfold SumB
    rw [hm]
    exact Sg_congr fun j _ => by rw [h.wy]
end Mine
end

section
open PySem PySem.W PyProof.Rows PySem.Calls PySem.Spec
set_option maxRecDepth 100000
namespace Mine
/-! what is typed is prepared back -/
theorem prepL_add (l r : List Nat) : prepL (l ++ r) = prepL l ++ prepL r := by simp [prepL]
theorem prepL_one (c : Nat) : prepL [c] = prepOne c := by simp [prepL]
theorem unseen_prep : ((List.range 27).all fun k => prepOne (codesB1.getD k 0).toNat == [] && signs.contains (codesB1.getD k 0).toNat) = true := by decide +kernel
theorem form_prep : ((List.range 15).all fun k => [18, 19].all fun p => prepOne (if 12 < k then 65 + p + 32 * (k - 13) else 119808 + 52 * k + p) == (if p = 18 then [115] else [116]) && signs.contains (if 12 < k then 65 + p + 32 * (k - 13) else 119808 + 52 * k + p)) = true := by decide +kernel
theorem twin_prep : prepOne 64261 = [115, 116] ∧ prepOne 64262 = [115, 116] ∧ prepOne 223 = [115, 115] ∧ 64261 ∈ signs ∧ 64262 ∈ signs ∧ 223 ∈ signs := by decide +kernel
theorem hid_prep (sp : Int) (at_ : Nat) : prepL (hid sp codesB1 at_) = [] ∧ ∀ c ∈ hid sp codesB1 at_, c ∈ signs := by
  unfold hid
  split
  · rename_i h
    have h0 := Int.fmod_nonneg_of_pos (sp.fdiv 45 + 5 * (at_ : Int)) (show (0 : Int) < 29 by decide)
    have := List.all_eq_true.mp unseen_prep ((sp.fdiv 45 + 5 * (at_ : Int)).fmod 29).toNat (List.mem_range.mpr (by omega))
    rw [Bool.and_eq_true] at this
    refine ⟨by rw [prepL_one]; simpa using this.1, fun c hc => ?_⟩
    rw [List.mem_singleton.mp hc]
    simpa using this.2
  · exact ⟨rfl, fun c hc => (List.not_mem_nil hc).elim⟩
theorem else_prep (cs : List Nat) (h : ∀ c ∈ cs, c = 115 ∨ c = 116) (sp : Int) {at_ : Nat} (hat : at_ < cs.length) : prepOne (elseCode cs sp at_).toNat = [cs.getD at_ 0] ∧ (elseCode cs sp at_).toNat ∈ signs := by
  have h0 := Int.fmod_nonneg_of_pos (sp.fdiv 3 + (at_ : Int)) (show (0 : Int) < 15 by decide)
  have h1 := Int.fmod_lt_of_pos (sp.fdiv 3 + (at_ : Int)) (show (0 : Int) < 15 by decide)
  unfold elseCode
  generalize (sp.fdiv 3 + (at_ : Int)).fmod 15 = f at h0 h1 ⊢
  obtain ⟨k, rfl⟩ : ∃ k : Nat, f = k := ⟨f.toNat, by omega⟩
  have hk := List.all_eq_true.mp form_prep k (List.mem_range.mpr (by omega))
  have hc : cs.getD at_ 0 = 115 ∨ cs.getD at_ 0 = 116 := by
    rw [List.getD_eq_getElem?_getD, List.getElem?_eq_getElem hat, Option.getD_some]
    exact h _ (List.getElem_mem hat)
  have e (p : Nat) : (if (12 : Int) < (k : Int) then 65 + (p : Int) + 32 * ((k : Int) - 13) else 119808 + 52 * (k : Int) + (p : Int)).toNat = if 12 < k then 65 + p + 32 * (k - 13) else 119808 + 52 * k + p := by
    split <;> split <;> omega
  rcases hc with hc | hc
  · rw [hc, if_pos rfl]
    have := List.all_eq_true.mp hk 18 (by decide)
    rw [Bool.and_eq_true, if_pos rfl] at this
    have e := e 18
    exact ⟨by show prepOne (Int.toNat (if (12 : Int) < (k : Int) then 65 + ((18 : Nat) : Int) + 32 * ((k : Int) - 13) else 119808 + 52 * (k : Int) + ((18 : Nat) : Int))) = _; rw [e]; simpa using this.1, by
      show Int.toNat (if (12 : Int) < (k : Int) then 65 + ((18 : Nat) : Int) + 32 * ((k : Int) - 13) else 119808 + 52 * (k : Int) + ((18 : Nat) : Int)) ∈ signs
      rw [e]; simpa using this.2⟩
  · rw [hc, if_neg (show ¬ ((116 : Nat) = 115) by decide)]
    have := List.all_eq_true.mp hk 19 (by decide)
    rw [Bool.and_eq_true, if_neg (show ¬ ((19 : Nat) = 18) by decide)] at this
    have e := e 19
    exact ⟨by show prepOne (Int.toNat (if (12 : Int) < (k : Int) then 65 + ((19 : Nat) : Int) + 32 * ((k : Int) - 13) else 119808 + 52 * (k : Int) + ((19 : Nat) : Int))) = _; rw [e]; simpa using this.1, by
      show Int.toNat (if (12 : Int) < (k : Int) then 65 + ((19 : Nat) : Int) + 32 * ((k : Int) - 13) else 119808 + 52 * (k : Int) + ((19 : Nat) : Int)) ∈ signs
      rw [e]; simpa using this.2⟩
theorem code_prep (cs : List Nat) (h : ∀ c ∈ cs, c = 115 ∨ c = 116) (sp : Int) {at_ : Nat} (hat : at_ < cs.length) :
    prepOne (typedCode cs sp at_).1.toNat = (cs.drop at_).take (typedCode cs sp at_).2 ∧ (typedCode cs sp at_).1.toNat ∈ signs ∧ at_ + (typedCode cs sp at_).2 ≤ cs.length := by
  have h0 := Int.fmod_nonneg_of_pos (sp + (at_ : Int)) (show (0 : Int) < 3 by decide)
  have h1 := Int.fmod_lt_of_pos (sp + (at_ : Int)) (show (0 : Int) < 3 by decide)
  obtain ⟨t1, t2, t3, t4, t5, t6⟩ := twin_prep
  unfold typedCode
  split
  · rename_i hq
    have hl := pair_len hq.2
    generalize (sp + (at_ : Int)).fmod 3 = f at h0 h1 hq ⊢
    have hf : f = 1 ∨ f = 2 := by omega
    dsimp only
    rw [hq.2]
    rcases hf with rfl | rfl
    · exact ⟨t1, t4, hl⟩
    · exact ⟨t2, t5, hl⟩
  · split
    · rename_i hq
      dsimp only
      rw [hq.2]
      exact ⟨t3, t6, pair_len hq.2⟩
    · have := else_prep cs h sp hat
      dsimp only
      refine ⟨?_, this.2, by omega⟩
      show prepOne (elseCode cs sp at_).toNat = _
      rw [this.1, List.getD_eq_getElem?_getD, List.getElem?_eq_getElem hat, Option.getD_some, List.drop_eq_getElem_cons hat]
      rfl
theorem typed_prep (cs : List Nat) (h : ∀ c ∈ cs, c = 115 ∨ c = 116) (sp : Int) : ∀ n, prepL (typedIter cs sp codesB1 n).1 = cs.take (typedIter cs sp codesB1 n).2 ∧ (typedIter cs sp codesB1 n).2 ≤ cs.length ∧ ∀ c ∈ (typedIter cs sp codesB1 n).1, c ∈ signs
  | 0 => ⟨rfl, Nat.zero_le _, fun c hc => (List.not_mem_nil hc).elim⟩
  | n + 1 => by
    obtain ⟨h1, h2, h3⟩ := typed_prep cs h sp n
    show prepL (typedStep cs sp codesB1 (typedIter cs sp codesB1 n)).1 = cs.take (typedStep cs sp codesB1 (typedIter cs sp codesB1 n)).2 ∧ (typedStep cs sp codesB1 (typedIter cs sp codesB1 n)).2 ≤ cs.length ∧ ∀ c ∈ (typedStep cs sp codesB1 (typedIter cs sp codesB1 n)).1, c ∈ signs
    generalize typedIter cs sp codesB1 n = a at h1 h2 h3 ⊢
    unfold typedStep
    split
    · rename_i hat
      obtain ⟨c1, c2, c3⟩ := code_prep cs h sp hat
      obtain ⟨p1, p2⟩ := hid_prep sp a.2
      refine ⟨?_, c3, fun c hc => ?_⟩
      · dsimp only
        rw [prepL_add, prepL_add, h1, p1, prepL_one, c1, List.nil_append, ← List.take_add]
      · rcases List.mem_append.mp hc with hc | hc
        · exact h3 c hc
        rcases List.mem_append.mp hc with hc | hc
        · exact p2 c hc
        · rw [List.mem_singleton.mp hc]; exact c2
    · exact ⟨h1, h2, h3⟩
/-- the sixteen signs beside the runs -/
noncomputable def besideL : List Int := [172, 174, 846, 848, 6149, 6151, 6154, 6158, 8202, 8206, 8287, 8289, 65278, 65280, 65023, 65040]
theorem beside_prep : (besideL.all fun b => prepOne b.toNat == [b.toNat] && signs.contains b.toNat && decide (0 ≤ b) && decide (b ≤ 65280)) = true := by decide +kernel
theorem beside_at {i : Nat} (hi : i < 16) : prepOne (besideL.getD i 0).toNat = [(besideL.getD i 0).toNat] ∧ (besideL.getD i 0).toNat ∈ signs ∧ 0 ≤ besideL.getD i 0 ∧ besideL.getD i 0 ≤ 65280 := by
  have := List.all_eq_true.mp beside_prep (besideL.getD i 0) (by
    rw [List.getD_eq_getElem?_getD, List.getElem?_eq_getElem (show i < besideL.length from hi), Option.getD_some]
    exact List.getElem_mem _)
  simp only [Bool.and_eq_true, decide_eq_true_eq] at this
  obtain ⟨⟨⟨a, b⟩, c⟩, d⟩ := this
  exact ⟨by simpa using a, by simpa using b, c, d⟩
end Mine
end

section
open PySem PySem.W PyProof.Rows
namespace Mine
/-- how many terms are summed -/
noncomputable abbrev upTo (u : List Nat) (d : Nat) : Nat := (if ((waysF u).1.length : Int) < (d : Int) + 1 then ((waysF u).1.length : Int) else (d : Int) + 1).toNat
theorem upTo_T (u : List Nat) (h : Wd u) : u.count 116 < upTo u (u.count 116) ∨ u.count 115 < upTo u (u.count 116) := by
  unfold upTo
  rw [ways_len_is u h]
  split <;> omega
theorem upTo_S (u : List Nat) (h : Wd u) : u.count 116 < upTo u (u.count 115) ∨ u.count 115 < upTo u (u.count 115) := by
  unfold upTo
  rw [ways_len_is u h]
  split <;> omega
theorem cnts_bounds {rs : List Nat} {n : Nat} (h : ∀ r ∈ rs, r < n) (hl : rs.length ≤ n) (hn : n ≤ 12) : (cnts rs).length ≤ 20 ∧ ∀ x ∈ cnts rs, 0 ≤ x ∧ x ≤ 100 := by
  refine ⟨Nat.le_trans ((cnts_len rs n).mpr h) (by omega), fun x hx => ?_⟩
  have := cnts_mem hx
  omega
theorem law_T (u : List Nat) (h : Wd u) (hl : u.length ≤ 9) (x : Int) :
    doneF 115 x (ci u.reverse) = (x + (u.count 115 : Nat) - (u.count 116 : Nat), SumA u x (upTo u (u.count 116))) ∧ sumF (waysF u).1 (u.count 116 : Nat) x (upTo u (u.count 116)) = SumA u x (upTo u (u.count 116)) ∧
    prodF (normF (leadT u)).1 (x - (u.count 116 : Nat) + 1) (normF (leadT u)).1.length = SumA u x (upTo u (u.count 116)) ∧ (normF (leadT u)).2 = u.count 115 ∧ (normF (leadT u)).1.length ≤ 20 ∧ ∀ y ∈ (normF (leadT u)).1, 0 ≤ y ∧ y ≤ 100 := by
  have hN := upTo_T u h
  generalize upTo u (u.count 116) = N at hN ⊢
  refine ⟨navon1 u h x N hN, sumF_is _ _ _ _, ?_, ?_, ?_⟩
  · rw [norm_T]
    dsimp only
    rw [prod_cnts', ← gjw1 u h x, navon1 u h x N hN]
  · rw [norm_T]
  · rw [norm_T]
    have hc := List.count_le_length (a := 116) (l := u)
    exact cnts_bounds (fun r hr => rT_lt hr) (by rw [rT_len u h]; exact hc) (by omega)
theorem law_S (u : List Nat) (h : Wd u) (hl : u.length ≤ 9) (x : Int) :
    doneF 116 x (ci u) = (x + (u.count 116 : Nat) - (u.count 115 : Nat), SumB u x (upTo u (u.count 115))) ∧ sumF (waysF u).1 (u.count 115 : Nat) x (upTo u (u.count 115)) = SumB u x (upTo u (u.count 115)) ∧
    prodF (normF (leadS u)).1 (x - (u.count 115 : Nat) + 1) (normF (leadS u)).1.length = SumB u x (upTo u (u.count 115)) ∧ (normF (leadS u)).2 = u.count 116 ∧ (normF (leadS u)).1.length ≤ 20 ∧ ∀ y ∈ (normF (leadS u)).1, 0 ≤ y ∧ y ≤ 100 := by
  have hN := upTo_S u h
  generalize upTo u (u.count 115) = N at hN ⊢
  refine ⟨navon2 u h x N hN, sumF_is _ _ _ _, ?_, ?_, ?_⟩
  · rw [norm_S]
    dsimp only
    rw [prod_cnts', ← gjw2 u h x, navon2 u h x N hN]
  · rw [norm_S]
  · rw [norm_S]
    have hc := List.count_le_length (a := 115) (l := u)
    exact cnts_bounds (fun r hr => rS_lt hr) (by rw [rS_len u h]; exact hc) (by omega)
end Mine
end

section
open PySem PySem.W PyProof.Rows PySem.Calls PySem.Spec
set_option maxRecDepth 100000
set_option maxHeartbeats 0
set_option rowWalk.seconds 0
namespace Mine
theorem entry_map {h₀ h : Heap} {L : Addr} {m1 m2 : Str → Option Value} (F : Fr h₀ L h m1) (e : m1 = m2) : Fr h₀ L h m2 := e ▸ F
theorem with_pass {M : Model} {A : Around} {env : Env} {b : List Stmt} {Q : Flow → Shared → Prop} {E : Value → Shared → Prop} {s : Shared} (h : PassesOwn M A env E) (k : PassesOwn M A env E → wpAny M A (execs b env) Q E s) : wpAny M A (execs b env) Q E s := k h
theorem gen_err {M : Model} {A : Around} {env : Env} {α : Type} {x : Sem α} {Q : α → Shared → Prop} {E : Value → Shared → Prop} {s : Shared} (hE : PassesOwn M A env E) (h : ∀ E', PassesOwn M A env E' → wpAny M A x Q E' s) : wpAny M A x Q E s := h E hE
theorem news_two {h₀ h : Heap} {L : Addr} {own : List (Addr × Obj)} {a b : Addr × Obj} (N : News h₀ L h (own ++ ([a] ++ [b]))) : News h₀ L h (a :: b :: own) := news_pick N fun p hp => by
  rcases List.mem_cons.mp hp with rfl | hp
  · exact List.mem_append_right _ (.head _)
  rcases List.mem_cons.mp hp with rfl | hp
  · exact List.mem_append_right _ (.tail _ (.head _))
  · exact List.mem_append_left _ hp
theorem news_two' {h₀ h : Heap} {L : Addr} {own : List (Addr × Obj)} {a b : Addr × Obj} (N : News h₀ L h (a :: b :: own)) : News h₀ L h (own ++ ([a] ++ [b])) := news_pick N fun p hp => by
  rcases List.mem_append.mp hp with hp | hp
  · exact .tail _ (.tail _ hp)
  rcases List.mem_cons.mp hp with rfl | hp
  · exact .head _
  · rw [List.mem_singleton.mp hp]; exact .tail _ (.head _)
theorem news_cons {h₀ h : Heap} {L : Addr} {p : Addr × Obj} {r : List (Addr × Obj)} (hp : h.get? p.1 = some p.2 ∧ p.1 ≠ L ∧ h₀.get? p.1 = none) (N : News h₀ L h r) : News h₀ L h (p :: r) := fun q hq => by
  rcases List.mem_cons.mp hq with rfl | hq
  · exact hp
  · exact N q hq
theorem sub8 {α : Type} {r : List α} {a b c d e f g h : α} (h1 : a ∈ r) (h2 : b ∈ r) (h3 : c ∈ r) (h4 : d ∈ r) (h5 : e ∈ r) (h6 : f ∈ r) (h7 : g ∈ r) (h8 : h ∈ r) : ∀ p ∈ [a, b, c, d, e, f, g, h], p ∈ r := fun p hp => by
  simp only [List.mem_cons, List.not_mem_nil, or_false] at hp
  rcases hp with rfl | rfl | rfl | rfl | rfl | rfl | rfl | rfl <;> assumption
theorem pick9 {α : Type} {own rest exl : List α} {k a b c d e p : α} (h : p ∈ own ++ ((k :: (exl ++ rest)) ++ [a, b, c, d, e])) : p ∈ k :: (exl ++ ([b, c, d, e] ++ (own ++ (rest ++ [a])))) := by
  rcases List.mem_append.mp h with h | h
  · exact .tail _ (List.mem_append_right _ (List.mem_append_right _ (List.mem_append_left _ h)))
  rcases List.mem_append.mp h with h | h
  · rcases List.mem_cons.mp h with rfl | h
    · exact .head _
    rcases List.mem_append.mp h with h | h
    · exact .tail _ (List.mem_append_left _ h)
    · exact .tail _ (List.mem_append_right _ (List.mem_append_right _ (List.mem_append_right _ (List.mem_append_left _ h))))
  · rcases List.mem_cons.mp h with rfl | h
    · exact .tail _ (List.mem_append_right _ (List.mem_append_right _ (List.mem_append_right _ (List.mem_append_right _ (.head _)))))
    · exact .tail _ (List.mem_append_right _ (List.mem_append_left _ h))
theorem pick2 {α : Type} {own rest rem : List α} {k a b c d e p : α} (hr : rem = own ++ (rest ++ [a])) (h : p ∈ k :: b :: c :: d :: e :: rem) : p ∈ own ++ ((k :: rest) ++ [a, b, c, d, e]) := by
  rcases List.mem_cons.mp h with rfl | h
  · exact List.mem_append_right _ (.head _)
  rcases List.mem_append.mp (show p ∈ [b, c, d, e] ++ rem from h) with h | h
  · exact List.mem_append_right _ (List.mem_append_right (_ :: _) (.tail _ h))
  rw [hr] at h
  rcases List.mem_append.mp h with h | h
  · exact List.mem_append_left _ h
  rcases List.mem_append.mp h with h | h
  · exact List.mem_append_right _ (.tail _ (List.mem_append_left _ h))
  · rw [List.mem_singleton.mp h]
    exact List.mem_append_right _ (List.mem_append_right (_ :: _) (.head _))
theorem pick7 {α : Type} {exl rem : List α} {k e0 e1 e2 e3 e4 e5 e6 e7 e8 e9 x y a b c d p : α} (he : exl = [e0, e1, e2, e3, e4, e5, e6, e7, e8, e9]) (h : p ∈ k :: (exl ++ ([a, b, c, d] ++ rem))) : p ∈ e0 :: e1 :: x :: e2 :: e3 :: e4 :: e5 :: e6 :: e7 :: e8 :: e9 :: y :: k :: a :: b :: c :: d :: rem := by
  rcases List.mem_cons.mp h with rfl | h
  · exact .tail _ (.tail _ (.tail _ (.tail _ (.tail _ (.tail _ (.tail _ (.tail _ (.tail _ (.tail _ (.tail _ (.tail _ (.head _))))))))))))
  rcases List.mem_append.mp h with h | h
  · rw [he] at h
    exact List.Sublist.subset (.cons₂ _ (.cons₂ _ (.cons _ (.cons₂ _ (.cons₂ _ (.cons₂ _ (.cons₂ _ (.cons₂ _ (.cons₂ _ (.cons₂ _ (.cons₂ _ (List.nil_sublist _)))))))))))) h
  · exact .tail _ (.tail _ (.tail _ (.tail _ (.tail _ (.tail _ (.tail _ (.tail _ (.tail _ (.tail _ (.tail _ (.tail _ (.tail _ (h)))))))))))))
theorem all10 {α : Type} {P : α → Prop} {a b c d e f g h i j : α} (h0 : P a) (h1 : P b) (h2 : P c) (h3 : P d) (h4 : P e) (h5 : P f) (h6 : P g) (h7 : P h) (h8 : P i) (h9 : P j) : ∀ p ∈ [a, b, c, d, e, f, g, h, i, j], P p :=
  List.forall_mem_cons.mpr ⟨h0, List.forall_mem_cons.mpr ⟨h1, List.forall_mem_cons.mpr ⟨h2, List.forall_mem_cons.mpr ⟨h3, List.forall_mem_cons.mpr ⟨h4, List.forall_mem_cons.mpr ⟨h5, List.forall_mem_cons.mpr ⟨h6, List.forall_mem_cons.mpr ⟨h7, List.forall_mem_cons.mpr ⟨h8, List.forall_mem_cons.mpr ⟨h9, fun _ hp => (List.not_mem_nil hp).elim⟩⟩⟩⟩⟩⟩⟩⟩⟩⟩
theorem chain10 {x0 x1 x2 x3 x4 x5 x6 x7 x8 x9 : Nat} (b1 : x0 < x1) (b2 : x1 < x2) (b3 : x2 < x3) (b4 : x3 < x4) (b5 : x4 < x5) (b6 : x5 < x6) (b7 : x6 < x7) (b8 : x7 < x8) (b9 : x8 < x9) : x0 ≤ x1 ∧ x0 ≤ x2 ∧ x0 ≤ x3 ∧ x0 ≤ x4 ∧ x0 ≤ x5 ∧ x0 ≤ x6 ∧ x0 ≤ x7 ∧ x0 ≤ x8 ∧ x0 ≤ x9 := by
  have d1 := Nat.le_of_lt b1
  have d2 := Nat.le_trans d1 (Nat.le_of_lt b2)
  have d3 := Nat.le_trans d2 (Nat.le_of_lt b3)
  have d4 := Nat.le_trans d3 (Nat.le_of_lt b4)
  have d5 := Nat.le_trans d4 (Nat.le_of_lt b5)
  have d6 := Nat.le_trans d5 (Nat.le_of_lt b6)
  have d7 := Nat.le_trans d6 (Nat.le_of_lt b7)
  have d8 := Nat.le_trans d7 (Nat.le_of_lt b8)
  have d9 := Nat.le_trans d8 (Nat.le_of_lt b9)
  exact ⟨d1, d2, d3, d4, d5, d6, d7, d8, d9⟩
theorem low_units {a : Nat} (h : Nat.ble a 1000 = true) : a < cLine := by
  have := Nat.le_of_ble_eq_true h
  have := cLine_is
  omega
theorem lt63 {a : Int} (h : a < 16) : a < 2 ^ 63 := by omega
theorem toNat16 {a : Int} (h0 : 0 ≤ a) (h : a < 16) : a.toNat < 16 := by omega
theorem x7lo {x : Int} {i : Nat} (h : 0 ≤ x ∧ x ≤ 100000000) : 0 ≤ x + 7 * (i : Int) := by omega
theorem x7hi {x : Int} {i : Nat} (h : 0 ≤ x ∧ x ≤ 100000000) (hi : i < 5) : x + 7 * (i : Int) ≤ 1000000000 := by omega
theorem i20 {n : Nat} (h : n ≤ 9) : (n : Int) ≤ 20 := by omega
theorem st_lo {r : Int} (h : 0 ≤ r) : 100 ≤ 1000 + r := by omega
theorem st_hi {r : Int} (h : r < 9001) : 1000 + r ≤ 20000 := by omega
theorem pr_lo {r : Int} {n : Nat} (h0 : 0 ≤ r) (h : n ≤ 9) : 2 ≤ 1000 + r - (n : Int) + 1 := by omega
theorem pr_hi {r : Int} {n : Nat} (h0 : r < 9001) (h : n ≤ 9) : 1000 + r - (n : Int) + 1 ≤ 20000 := by omega
/-- the cells between the turns -/
def CellsJ (l : Addr) (i : Nat) (ex : List (Addr × Obj)) : Prop :=
  ∃ cvs cus n, ex = [(l, listOf (List.toArray cvs) n)] ∧ IntsAre cvs cus ∧ cus.length = 4 ∧ ∀ u ∈ cus, 0 ≤ u ∧ u ≤ 166 + (i : Int) * 1000000
theorem mod_k {prog : Program} {w : World} {A : Around} {E : Value → Shared → Prop} {s : Shared} {a b : Int} {t u : Tok} {Q : Value → Shared → Prop} (hb : 0 < b)
    (h : ∀ r t' k, r = a.fmod b → 0 ≤ r → r < b → Q (.int r t') { s with toks := k }) : wpAny (model prog w) A (binaryOp .Mod (.int a t) (.int b u)) Q E s :=
  PyProof.Rows.mod_int (by omega) (h _ _ _ rfl (Int.fmod_nonneg_of_pos a hb) (Int.fmod_lt_of_pos a hb))
theorem ints_mem {vs : List Value} {us : List Int} (h : IntsAre vs us) {v : Value} (hv : v ∈ vs) : ∃ n t, v = .int n t ∧ n ∈ us := by
  induction h with
  | nil => cases hv
  | cons n t r ih =>
    rcases List.mem_cons.mp hv with rfl | hv
    · exact ⟨n, t, rfl, .head _⟩
    · obtain ⟨n', t', e, hm⟩ := ih hv
      exact ⟨n', t', e, .tail _ hm⟩
theorem getD_mem {us : List Int} {k : Nat} (h : k < us.length) : us.getD k 0 ∈ us := by
  rw [List.getD_eq_getElem?_getD, List.getElem?_eq_getElem h, Option.getD_some]; exact List.getElem_mem h
def adds (a : Int) (i : Nat) : List Int := (List.range i).map fun (k : Nat) => a + (k : Int)
theorem adds_snoc {ys : List Value} {a : Int} {i : Nat} {t : Tok} (h : IntsAre ys (adds a i)) : IntsAre (ys ++ [.int (a + (0 + (i : Int))) t]) (adds a (i + 1)) := by
  unfold adds at h ⊢
  rw [List.range_succ, List.map_append, Int.zero_add]
  exact h.append (.cons _ _ .nil)
theorem besides {h₀ h : Heap} {L D : Addr} {r : List (Addr × Obj)} {t1 t2 t3 t4 t5 t6 t7 t8 t9 t10 t11 t12 t13 t14 t15 t16 : Tok}
    (N : News h₀ L h ((D, listOf #[.int 172 t1, .int 174 t2, .int 846 t3, .int 848 t4, .int 6149 t5, .int 6151 t6, .int 6154 t7, .int 6158 t8, .int 8202 t9, .int 8206 t10, .int 8287 t11, .int 8289 t12, .int 65278 t13, .int 65280 t14, .int 65023 t15, .int 65040 t16] 0) :: r)) :
    ∃ bs, IntsAre bs besideL ∧ News h₀ L h ((D, listOf (List.toArray bs) 0) :: r) :=
  ⟨_, .cons _ _ (.cons _ _ (.cons _ _ (.cons _ _ (.cons _ _ (.cons _ _ (.cons _ _ (.cons _ _ (.cons _ _ (.cons _ _ (.cons _ _ (.cons _ _ (.cons _ _ (.cons _ _ (.cons _ _ (.cons _ _ .nil))))))))))))))), N⟩
theorem item_st {r : Int} (h0 : 0 ≤ r) (h1 : r < 2) : ∃ c, Txt.item (Str.ofString "st") r = ⟨#[c]⟩ ∧ (c = 115 ∨ c = 116) := by
  have : r = 0 ∨ r = 1 := by omega
  rcases this with rfl | rfl
  · exact ⟨115, by rfl, .inl rfl⟩
  · exact ⟨116, by rfl, .inr rfl⟩
theorem lets_snoc {ws : List Str} {z : Str} (h : Lets ws) (hz : ∃ c, z = ⟨#[c]⟩ ∧ (c = 115 ∨ c = 116)) : Lets (ws ++ [z]) := fun y hy => by
  rcases List.mem_append.mp hy with hy | hy
  · exact h y hy
  · rw [List.mem_singleton.mp hy]; exact hz
theorem floordiv_k {prog : Program} {w : World} {A : Around} {E : Value → Shared → Prop} {s : Shared} {a b : Int} {t u : Tok} {Q : Value → Shared → Prop} (hb : 0 < b) (hs : b < 1000000) (h : ∀ t' k, Q (.int (a.fdiv b) t') { s with toks := k }) :
    wpAny (model prog w) A (binaryOp .FloorDiv (.int a t) (.int b u)) Q E s :=
  floordiv_int (by omega) (h _ _) (.inl (PyProof.noPylong_small (by omega)))
theorem first_turn {ys : List Value} {ws : List Str} {i : Nat} {r : Int} {t : Tok} (h1 : StrsAre ys ws) (h2 : Lets ws) (h3 : ws.length = i) (h0 : 0 ≤ r) (hr : r < 2) : ∃ ws', StrsAre (ys ++ [.str (Txt.item (Str.ofString "st") r) t]) ws' ∧ Lets ws' ∧ ws'.length = i + 1 :=
  ⟨ws ++ [_], kct_snoc h1, lets_snoc h2 (item_st h0 hr), by rw [List.length_append, h3]; rfl⟩
/-- a word of the five -/
def WordV (v : Value) : Prop := ∃ (z : Str) (t : Tok), v = .str z t ∧ (∀ c ∈ z.cps.toList, c = 115 ∨ c = 116) ∧ z.length ≤ 9
theorem word_s {x z : Str} (hx : ∀ c ∈ x.cps.toList, c = 115 ∨ c = 116) (hz : z = Str.ofString "s" ++ x) : ∀ c ∈ z.cps.toList, c = 115 ∨ c = 116 := by
  subst hz
  intro c hc
  rw [cps_add] at hc
  rcases List.mem_append.mp hc with h | h
  · exact .inl (List.mem_singleton.mp (show c ∈ [115] from h))
  · exact hx c h
theorem word_t {x z : Str} (hx : ∀ c ∈ x.cps.toList, c = 115 ∨ c = 116) (hz : z = x ++ Str.ofString "t") : ∀ c ∈ z.cps.toList, c = 115 ∨ c = 116 := by
  subst hz
  intro c hc
  rw [cps_add] at hc
  rcases List.mem_append.mp hc with h | h
  · exact hx c h
  · exact .inr (List.mem_singleton.mp (show c ∈ [116] from h))
theorem five_words {z1 z2 z3 z4 z5 : Str} {t1 t2 t3 t4 t5 : Tok} (h1 : ∀ c ∈ z1.cps.toList, c = 115 ∨ c = 116) (h2 : ∀ c ∈ z2.cps.toList, c = 115 ∨ c = 116) (h3 : ∀ c ∈ z3.cps.toList, c = 115 ∨ c = 116) (h4 : ∀ c ∈ z4.cps.toList, c = 115 ∨ c = 116) (h5 : ∀ c ∈ z5.cps.toList, c = 115 ∨ c = 116)
    (l1 : z1.length = 8) (l2 : z2.length = 8) (l3 : z3.length = 8) (l4 : z4.length ≤ 9) (l5 : z5.length ≤ 9) : ∀ v ∈ (#[.str z1 t1, .str z2 t2, .str z3 t3, .str z4 t4, .str z5 t5] : Array Value), WordV v := by
  intro v hv
  have hv : v ∈ [Value.str z1 t1, .str z2 t2, .str z3 t3, .str z4 t4, .str z5 t5] := by simpa using hv
  simp only [List.mem_cons, List.not_mem_nil, or_false] at hv
  rcases hv with rfl | rfl | rfl | rfl | rfl
  · exact ⟨_, _, rfl, h1, by omega⟩
  · exact ⟨_, _, rfl, h2, by omega⟩
  · exact ⟨_, _, rfl, h3, by omega⟩
  · exact ⟨_, _, rfl, h4, l4⟩
  · exact ⟨_, _, rfl, h5, l5⟩
/-- what stays of the names from turn to turn -/
def MapJ (lk Db Du : Addr) (r : Int) (tst : Tok) (m : Str → Option Value) : Prop :=
  m (Str.ofString "kept") = some (.ref lk) ∧ m (Str.ofString "start") = some (.int (1000 + r) tst) ∧ m (Str.ofString "beside") = some (.ref Db) ∧ m (Str.ofString "unseen") = some (.ref Du)
/-- a lead's object -/
inductive LeadAt (P : Params) (ex : List (Addr × Obj)) (y : Addr) (c : List Int) (b : Nat) : Prop
  | mk (dx tc tN X tX n nt tb tn tt k1 k2 k3 k4 k5 bs vs) : (IntsAre vs c) → ((tN, tupO [.ref tc, .int (b : Nat) tb]) ∈ ex) → ((tc, tupO vs) ∈ ex) → ((y, instObj 83 dx) ∈ ex) → ((dx, wsDict P X tX n nt tn tt tN bs k1 k2 k3 k4 k5) ∈ ex) → LeadAt P ex y c b
theorem LeadAt.more {P : Params} {ex ex' : List (Addr × Obj)} {y : Addr} {c : List Int} {b : Nat} (h : LeadAt P ex y c b) (hs : ∀ p ∈ ex, p ∈ ex') : LeadAt P ex' y c b := by
  obtain ⟨dx, tc, tN, X, tX, n, nt, tb, tn, tt, k1, k2, k3, k4, k5, bs, vs, h1, h2, h3, h4, h5⟩ := h
  exact ⟨dx, tc, tN, X, tX, n, nt, tb, tn, tt, k1, k2, k3, k4, k5, bs, vs, h1, hs _ h2, hs _ h3, hs _ h4, hs _ h5⟩
theorem LeadAt.of {P : Params} {ex : List (Addr × Obj)} {y : Addr} {c : List Int} {b : Nat} {dx tc tN X tX n nt tb tn tt k1 k2 k3 k4 k5 bs vs} (h1 : IntsAre vs c) (h2 : (tN, tupO [.ref tc, .int (b : Nat) tb]) ∈ ex) (h3 : (tc, tupO vs) ∈ ex) (h4 : (y, instObj 83 dx) ∈ ex)
    (h5 : (dx, wsDict P X tX n nt tn tt tN bs k1 k2 k3 k4 k5) ∈ ex) : LeadAt P ex y c b := ⟨dx, tc, tN, X, tX, n, nt, tb, tn, tt, k1, k2, k3, k4, k5, bs, vs, h1, h2, h3, h4, h5⟩
theorem LeadAt.elim {P : Params} {ex : List (Addr × Obj)} {y : Addr} {c : List Int} {b : Nat} {C : Prop} (h : LeadAt P ex y c b)
    (k : ∀ dx tc tN X tX n nt tb tn tt k1 k2 k3 k4 k5 bs vs, IntsAre vs c → (tN, tupO [.ref tc, .int (b : Nat) tb]) ∈ ex → (tc, tupO vs) ∈ ex → (y, instObj 83 dx) ∈ ex → (dx, wsDict P X tX n nt tn tt tN bs k1 k2 k3 k4 k5) ∈ ex → C) : C := by
  obtain ⟨dx, tc, tN, X, tX, n, nt, tb, tn, tt, k1, k2, k3, k4, k5, bs, vs, h1, h2, h3, h4, h5⟩ := h
  exact k dx tc tN X tX n nt tb tn tt k1 k2 k3 k4 k5 bs vs h1 h2 h3 h4 h5
/-- what is kept of a word -/
inductive KeptV (P : Params) (ex : List (Addr × Obj)) (v : Value) : Prop
  | mk (u : List Nat) (e ya yb wl : Addr) (k1 k2 : Nat) (wvs : List Value) : (v = .ref e) → (Wd u) → (IntsAre wvs (((u.count 116 : Nat) : Int) :: (waysF u).1)) → ((waysF u).1.length ≤ 12) → ((e, listOf #[.ref ya, .ref yb, .ref wl] k1) ∈ ex) → ((wl, listOf (List.toArray wvs) k2) ∈ ex) → (LeadAt P ex ya (normF (leadT u)).1 (normF (leadT u)).2) → (LeadAt P ex yb (normF (leadS u)).1 (normF (leadS u)).2) → KeptV P ex v
theorem KeptV.of {P : Params} {ex : List (Addr × Obj)} {u : List Nat} {e ya yb wl : Addr} {k1 k2 : Nat} {wvs : List Value} (hu : Wd u) (hw : IntsAre wvs (((u.count 116 : Nat) : Int) :: (waysF u).1)) (hl : (waysF u).1.length ≤ 12) (h1 : (e, listOf #[.ref ya, .ref yb, .ref wl] k1) ∈ ex) (h2 : (wl, listOf (List.toArray wvs) k2) ∈ ex)
    (h3 : LeadAt P ex ya (normF (leadT u)).1 (normF (leadT u)).2) (h4 : LeadAt P ex yb (normF (leadS u)).1 (normF (leadS u)).2) : KeptV P ex (.ref e) := ⟨u, e, ya, yb, wl, k1, k2, wvs, rfl, hu, hw, hl, h1, h2, h3, h4⟩
theorem KeptV.elim {P : Params} {ex : List (Addr × Obj)} {v : Value} {C : Prop} (h : KeptV P ex v)
    (k : ∀ (u : List Nat) (e ya yb wl : Addr) (k1 k2 : Nat) (wvs : List Value), v = .ref e → Wd u → IntsAre wvs (((u.count 116 : Nat) : Int) :: (waysF u).1) → (waysF u).1.length ≤ 12 → (e, listOf #[.ref ya, .ref yb, .ref wl] k1) ∈ ex → (wl, listOf (List.toArray wvs) k2) ∈ ex →
      LeadAt P ex ya (normF (leadT u)).1 (normF (leadT u)).2 → LeadAt P ex yb (normF (leadS u)).1 (normF (leadS u)).2 → C) : C := by
  obtain ⟨u, e, ya, yb, wl, k1, k2, wvs, h1, h2, h3, h4, h5, h6, h7, h8⟩ := h
  exact k u e ya yb wl k1 k2 wvs h1 h2 h3 h4 h5 h6 h7 h8
theorem KeptV.more {P : Params} {ex ex' : List (Addr × Obj)} {v : Value} (h : KeptV P ex v) (hs : ∀ p ∈ ex, p ∈ ex') : KeptV P ex' v := by
  obtain ⟨u, e, ya, yb, wl, k1, k2, wvs, h1, h2, h3, h4, h5, h6, h7, h8⟩ := h
  exact ⟨u, e, ya, yb, wl, k1, k2, wvs, h1, h2, h3, h4, hs _ h5, hs _ h6, h7.more hs, h8.more hs⟩
def KeptJ (P : Params) (lk : Addr) (i : Nat) (ex : List (Addr × Obj)) : Prop :=
  ∃ kvs nk rest, ex = (lk, listOf (List.toArray kvs) nk) :: rest ∧ kvs.length = i ∧ (∀ p ∈ rest, p.1 ≠ lk) ∧ ∀ v ∈ kvs, KeptV P rest v
theorem add_k {prog : Program} {w : World} {A : Around} {E : Value → Shared → Prop} {s : Shared} {a b : Int} {t u : Tok} {Q : Value → Shared → Prop} (h : ∀ t' k, Q (.int (a + b) t') { s with toks := k }) : wpAny (model prog w) A (binaryOp .Add (.int a t) (.int b u)) Q E s :=
  add_int (h _ _)
theorem cnt_list (c : Nat) : ∀ l : List Nat, PyProof.Rows.cnt c l = ((l.count c : Nat) : Int)
  | [] => rfl
  | n :: r => by
    rw [PyProof.Rows.cnt_cons, cnt_list c r, List.count_cons]
    by_cases h : n = c
    · simp [h]; omega
    · simp [h]
theorem count_k {prog : Program} {w : World} {A : Around} {E : Value → Shared → Prop} {s : Shared} {x y : Str} {c : Nat} {t u : Tok} {Q : Value → Shared → Prop} (hy : y = ⟨#[c]⟩)
    (h : ∀ t' k, Q (.int ((x.cps.toList.count c : Nat) : Int) t') { s with toks := k }) : wpAny (model prog w) A (call (.builtin "str.count") [.str x t, .str y u]) Q E s := by
  subst hy
  refine SC.count ?_
  rw [PyProof.Rows.count_cnt, cnt_list]
  exact h _ _
theorem str_ext {a b : Str} (h : a.cps.toList = b.cps.toList) : a = b := by
  obtain ⟨a⟩ := a; obtain ⟨b⟩ := b
  exact congrArg Str.mk (Array.toList_inj.mp h)
theorem slice_last {x y : Str} (hy : y.length = 1) : Txt.slice (x ++ y) none (some (-1)) = x := by
  refine str_ext ?_
  have hl : (x ++ y).length = x.length + 1 := by rw [len_add, hy]
  have q : Builtin.Str.strSliceIndices none (some (-1)) 1 (x ++ y).length = Builtin.Str.strSliceIndices none (some ((x.length : Nat) : Int)) 1 (x ++ y).length := by
    rw [hl]
    have a1 : ((-1 : Int) < 0) := by decide
    have a2 : ¬ (((x.length : Nat) : Int) < 0) := by omega
    simp only [Builtin.Str.strSliceIndices, a1, a2, if_false, if_true, show (1 : Int) > 0 by decide]
    have a3 : max (0 : Int) (min (-1 + ((x.length + 1 : Nat) : Int)) ((x.length + 1 : Nat) : Int)) = x.length := by omega
    have a4 : max (0 : Int) (min ((x.length : Nat) : Int) ((x.length + 1 : Nat) : Int)) = x.length := by omega
    simp only [a3, a4]
  show (StrLaws.sliceText (x ++ y) none (some (-1))).cps.toList = _
  have e : StrLaws.sliceText (x ++ y) none (some (-1)) = StrLaws.sliceText (x ++ y) none (some ((x.length : Nat) : Int)) := by
    unfold StrLaws.sliceText
    rw [q]
  rw [e]
  have := slice_to (x := x ++ y) (i := x.length) (by omega)
  rw [show (StrLaws.sliceText (x ++ y) none (some ((x.length : Nat) : Int))).cps.toList = _ from this, cps_add]
  simp [Str.length]
theorem prep_all {ty sy z wd : Str} {bz sp : Int} {nn at_ : Nat} (hwd : ∀ c ∈ wd.cps.toList, c = 115 ∨ c = 116) (hit : (ty.cps.toList, at_) = typedIter wd.cps.toList sp codesB1 nn) (hat : wd.length ≤ at_) (hsy : sy = ⟨#[bz.toNat]⟩) (b1 : prepOne bz.toNat = [bz.toNat]) (b2 : bz.toNat ∈ Mine.signs) (hz : z = ty ++ sy) :
    sOf (prepL z.cps.toList) = wd ++ sy ∧ ∀ c ∈ z.cps.toList, c ∈ Mine.signs := by
  obtain ⟨h1, h2, h3⟩ := typed_prep wd.cps.toList hwd sp nn
  rw [← hit] at h1 h2 h3
  have e : at_ = wd.cps.toList.length := Nat.le_antisymm h2 (by rw [len_is]; exact hat)
  subst hz hsy
  have e2 : (ty ++ (⟨#[bz.toNat]⟩ : Str)).cps.toList = ty.cps.toList ++ [bz.toNat] := cps_add _ _
  rw [e2]
  refine ⟨?_, fun c hc => ?_⟩
  · rw [prepL_add, show prepL ty.cps.toList = _ from h1, e, List.take_length, prepL_one, b1]
    refine str_ext ?_
    rw [cps_add]
    simp [sOf]
  · rcases List.mem_append.mp hc with hc | hc
    · exact h3 c hc
    · rw [List.mem_singleton.mp hc]; exact b2
theorem rev_cps (x : Str) (u : Tok) : (Txt.sliceBy x none none (-1, u)).cps.toList = x.cps.toList.reverse := by
  rw [← fold_front_eq_rev x ⟨#[]⟩ rfl u, fold_front_list _ _ rfl]
/-- the names that stay -/
def NamesJ (lk Db Du ya yb wl : Addr) (r : Int) (tst : Tok) (dn : Nat) (tdn : Tok) (m : Str → Option Value) : Prop :=
  MapJ lk Db Du r tst m ∧ m (Str.ofString "ours") = some (.ref ya) ∧ m (Str.ofString "theirs") = some (.ref yb) ∧ m (Str.ofString "downs") = some (.int (dn : Nat) tdn) ∧ m (Str.ofString "ways") = some (.ref wl)
/-- one of the two turns -/
inductive TurnP (P : Params) (led : List (Addr × Obj)) (start : Int) (ws : List Int) (v : Value) : Prop
  | mk (T y : Addr) (z zu : Str) (tz tu tm tl : Tok) (up more less : Nat) (S : Int) (c : List Int) : (v = .ref T) → ((T, ({ cls := .type "tuple", data := .seq #[.ref y, .str z tz, .str zu tu, .int (more : Nat) tm, .int (less : Nat) tl] } : Obj)) ∈ led) → (LeadAt P led y c more) → (zu = ⟨#[up]⟩) → (z.length ≤ 9) → (doneF up start (KStt.codes z) = (start + (more : Nat) - (less : Nat), S)) → (sumF ws (less : Nat) start (if (ws.length : Int) < ((less : Nat) : Int) + 1 then (ws.length : Int) else ((less : Nat) : Int) + 1).toNat = S) → (prodF c (start - (less : Nat) + 1) c.length = S) → (c.length ≤ 20) → ((∀ x ∈ c, 0 ≤ x ∧ x ≤ 100)) → (less ≤ 9) → (more ≤ 9) → TurnP P led start ws v
theorem TurnP.elim {P : Params} {led : List (Addr × Obj)} {start : Int} {ws : List Int} {v : Value} {C : Prop} (h : TurnP P led start ws v)
    (k : ∀ (T y : Addr) (z zu : Str) (tz tu tm tl : Tok) (up more less : Nat) (S : Int) (c : List Int), v = .ref T → ((T, ({ cls := .type "tuple", data := .seq #[.ref y, .str z tz, .str zu tu, .int (more : Nat) tm, .int (less : Nat) tl] } : Obj)) ∈ led) → (LeadAt P led y c more) → (zu = ⟨#[up]⟩) → (z.length ≤ 9) → (doneF up start (KStt.codes z) = (start + (more : Nat) - (less : Nat), S)) → (sumF ws (less : Nat) start (if (ws.length : Int) < ((less : Nat) : Int) + 1 then (ws.length : Int) else ((less : Nat) : Int) + 1).toNat = S) → (prodF c (start - (less : Nat) + 1) c.length = S) → (c.length ≤ 20) → ((∀ x ∈ c, 0 ≤ x ∧ x ≤ 100)) → (less ≤ 9) → (more ≤ 9) → C) : C := by
  obtain ⟨T, y, z, zu, tz, tu, tm, tl, up, more, less, S, c, h, h0, h1, h2, h3, h4, h5, h6, h7, h8, h9, h10⟩ := h
  exact k T y z zu tz tu tm tl up more less S c h h0 h1 h2 h3 h4 h5 h6 h7 h8 h9 h10
theorem two_turns {P : Params} {led : List (Addr × Obj)} {start : Int} {wd rv : Str} {D1 D2 ya yb : Addr} {t1 t2 t3 t4 t5 t6 t7 t8 : Tok} (hwd : ∀ c ∈ wd.cps.toList, c = 115 ∨ c = 116) (hwl : wd.length ≤ 9) (hrv : rv.cps.toList = wd.cps.toList.reverse) (hrl : rv.length ≤ 9)
    (h1 : (D1, ({ cls := .type "tuple", data := .seq #[.ref ya, .str rv t1, .str (Str.ofString "s") t2, .int ((wd.cps.toList.count 115 : Nat) : Int) t3, .int ((wd.cps.toList.count 116 : Nat) : Int) t4] } : Obj)) ∈ led)
    (h2 : (D2, ({ cls := .type "tuple", data := .seq #[.ref yb, .str wd t5, .str (Str.ofString "t") t6, .int ((wd.cps.toList.count 116 : Nat) : Int) t7, .int ((wd.cps.toList.count 115 : Nat) : Int) t8] } : Obj)) ∈ led)
    (l1 : LeadAt P led ya (normF (leadT wd.cps.toList)).1 (normF (leadT wd.cps.toList)).2) (l2 : LeadAt P led yb (normF (leadS wd.cps.toList)).1 (normF (leadS wd.cps.toList)).2) :
    ∀ v ∈ (#[.ref D1, .ref D2] : Array Value), TurnP P led start (waysF wd.cps.toList).1 v := by
  intro v hv
  have hv : v ∈ [Value.ref D1, .ref D2] := by simpa using hv
  have hl : wd.cps.toList.length ≤ 9 := by rw [len_is]; exact hwl
  have c1 := Nat.le_trans (List.count_le_length (a := 115) (l := wd.cps.toList)) hl
  have c2 := Nat.le_trans (List.count_le_length (a := 116) (l := wd.cps.toList)) hl
  obtain ⟨a1, a2, a3, a4, a5, a6⟩ := law_T wd.cps.toList hwd hl start
  obtain ⟨b1, b2, b3, b4, b5, b6⟩ := law_S wd.cps.toList hwd hl start
  have e1 : KStt.codes rv = ci wd.cps.toList.reverse := by unfold KStt.codes ci; rw [hrv]
  rcases List.mem_cons.mp hv with rfl | hv
  · exact ⟨D1, ya, rv, _, t1, t2, t3, t4, 115, _, _, _, _, rfl, h1, a4 ▸ l1, ss_one, hrl, by rw [e1]; exact a1, a2, a3, a5, a6, c2, c1⟩
  · rw [List.mem_singleton.mp hv]
    exact ⟨D2, yb, wd, _, t5, t6, t7, t8, 116, _, _, _, _, rfl, h2, b4 ▸ l2, tt_is, hwl, b1, b2, b3, b5, b6, c1, c2⟩
theorem with_led {h₀ h : Heap} {L : Addr} {led : List (Addr × Obj)} (N : News h₀ L h led) : ∃ led', led' = led ∧ News h₀ L h led' := ⟨led, rfl, N⟩
theorem ne_intK {prog : Program} {w : World} {A : Around} {E : Value → Shared → Prop} {s : Shared} {a : Int} {t u : Tok} {Q : Value → Shared → Prop} (h : Q (.bool false) s) : wpAny (model prog w) A (compareOp .NotEq (.int a t) (.int a u)) Q E s :=
  ne_int (by simpa using h)
theorem ne_same {α : Type} [DecidableEq α] (a : α) : (!decide (a = a)) = false := by simp
theorem append_one {prog : Program} {w : World} {A : Around} {E : Value → Shared → Prop} {s : Shared} {h₀ : Heap} {L : Addr} {m : Str → Option Value} {led led' : List (Addr × Obj)} {D : Addr} {vs : List Value} {n : Nat} {v : Value} {Q : Value → Shared → Prop} (F : Fr h₀ L s.heap m) (N : News h₀ L s.heap led)
    (hD : (D, listOf vs.toArray n) ∈ led) (hs : ∀ p ∈ led', p ∈ led ∧ p.1 ≠ D) (hsz : vs.length ≤ sizeLine)
    (h : ∀ h', Fr h₀ L h' m → News h₀ L h' ((D, listOf (vs ++ [v]).toArray (n + 1)) :: led') → Q .none { s with heap := h' }) : wpAny (model prog w) A (call (.builtin "list.append") [.ref D, v]) Q E s := by
  have z := N _ hD
  refine append_at (hsz := by rw [List.size_toArray]; exact hsz) z.1 fun h' hs' hg => ?_
  refine h h' (F.change hs' z.2.1 z.2.2) fun p hp => ?_
  rcases List.mem_cons.mp hp with rfl | hp
  · refine ⟨hg.trans ?_, z.2⟩
    rw [List.push_toArray]
  · have q := hs p hp
    exact ⟨hs'.extBut _ _ q.2 (N p q.1).1, (N p q.1).2⟩
theorem allLt_lt {D : Addr} : ∀ {r : List (Addr × Obj)}, AllLt D r → ∀ p ∈ r, @LT.lt Nat _ p.1 D
  | [], _, _, hp => (List.not_mem_nil hp).elim
  | a :: r, h, p, hp => by
    rcases List.mem_cons.mp hp with e | hp
    · rw [e]; exact h.1
    · exact allLt_lt h.2 p hp
theorem same_deed {u v : List Nat} : ((u.count 116 : Nat) : Int) :: (waysF u).1 = ((v.count 116 : Nat) : Int) :: (waysF v).1 ↔ Deed u v := by
  unfold Deed
  rw [List.cons.injEq]
  constructor
  · rintro ⟨h1, h2⟩; exact ⟨by omega, h2⟩
  · rintro ⟨h1, h2⟩; exact ⟨by omega, h2⟩
local macro_rules | `(tactic| walk_at "h!") => `(tactic| (k_here; with_reducible refine at_halt ?_))
local macro_rules | `(tactic| k_room) => `(tactic| ((try simp only [depth_under_make, depth_under_kw, depth_in1, depth_deeper, depth_caller]); first | decide | ((try simp only [depth_deeper]); omega) | (simp only [Around.deeper]; omega)))
local macro_rules | `(tactic| walk_at "past") => `(tactic| ((try dsimp only); first | assumption | exact Past.add (by walk_at "past")))
local macro_rules | `(tactic| walk_at "call type:enumerate") => `(tactic| (walk_at "h!"))
local macro_rules | `(tactic| walk_at "call ref") => `(tactic| (k_here; (with_reducible show wpAny _ _ (call (Value.ref _) _) _ _ _); with_reducible refine at_halt ?_))
local macro_rules | `(tactic| walk_at "lc") => `(tactic| (refine' lc_use (by with_reducible assumption) ?k1 ?k2 ?k3 ?k4 ?hl ?k5 ?kK ?kd ?ku ?kp ?kb ?_; (case k1 | k2 | k3 | k4 => k_asm); (case hl => first | with_reducible assumption | (intro p hp; cases hp; done) | (refine led_one ?_; k_dflt k_mem)); (case k5 => k_asm); (case kK => first | exact rfl | assumption); (case kd => ktr_room); (case ku => ktr_units); (case kp => first | exact Nat.zero_le _ | with_reducible assumption | walk_at "past"); (case kb => first | assumption | exact B1At.keep (by assumption) (Fr.keep (by assumption))); k_whole))
local macro_rules | `(tactic| walk_at "subscriptTail Name BinOp ref int") => `(tactic| (walk_at "h!"))
local macro_rules | `(tactic| walk_at "subscriptTail Name Constant ref int") => `(tactic| (k_here; (with_reducible show wpAny _ _ (subscriptTail (PySem.Expr.Name (Str.ofString "cells") _) _ _ _) _ _ _); with_reducible refine at_halt ?_))
local macro_rules | `(tactic| walk_at "setItem ref int") => `(tactic| (walk_at "h!"))
local macro_rules | `(tactic| walk_at "binaryOp Mod int int") => `(tactic| (k_here; refine mod_k (by decide) ?_; intro r' t' k' hr' h0' h1'))
local macro_rules | `(tactic| walk_at "eval ListComp") => `(tactic| (walk_at "h!"))
local macro_rules | `(tactic| walk_at "CompSrc") => `(tactic| with_reducible refine at_halt ?_)
local macro_rules | `(tactic| walk_at "binaryOp Add ref ref") => `(tactic| (walk_at "h!"))
local macro_rules | `(tactic| walk_at "binaryOp Pow int int") => `(tactic| (k_here; (with_reducible show wpAny _ _ (binaryOp _ (Value.int 2 _) _) _ _ _); with_reducible refine at_halt ?_))
local macro_rules | `(tactic| walk_at "binaryOp FloorDiv int int") => `(tactic| (walk_at "h!"))
local macro_rules | `(tactic| walk_at "call builtin:str.join") => `(tactic| (walk_at "h!"))
local macro_rules | `(tactic| walk_at "binaryOp Add str str") => `(tactic| (walk_at "h!"))
local macro_rules | `(tactic| walk_at "call builtin:chr") => `(tactic| (walk_at "h!"))
local macro_rules | `(tactic| walk_at "compareOp NotEq str str") => `(tactic| (walk_at "h!"))
local macro_rules | `(tactic| walk_at "call builtin:str.count") => `(tactic| (k_here; refine' count_k ?hy ?_; (case hy => first | exact ss_one | exact tt_is); intro tC kC))
local macro_rules | `(tactic| walk_at "subscriptTail Name Slice str ref") => `(tactic| (walk_at "h!"))
local macro_rules | `(tactic| walk_at "compareOp NotEq ref ref") => `(tactic| (walk_at "h!"))
local macro_rules | `(tactic| walk_at "compareOp NotEq int int") => `(tactic| (walk_at "h!"))
local macro_rules | `(tactic| walk_at "call builtin:list.append") => `(tactic| (walk_at "h!"))
local macro_rules | `(tactic| walk_at "compareOp Eq ref ref") => `(tactic| (walk_at "h!"))
local macro_rules | `(tactic| k_qdec) => `(tactic| first | (rw [Fast.te17448422675489707002, Fast.te821141287760084731]; kernel_rfl) | (rw [Fast.te2458874890965802552]; kernel_rfl))
local macro_rules | `(tactic| ktr_units) => `(tactic| exact low_units (by rfl))
local macro_rules | `(tactic| ktr_room) => `(tactic| (simp only [depth_deeper, depth_caller]; decide))
theorem law_holds : PySem.Challenge.rw_tl0043_01.Holds := hd (by
  w_strict (
    k_with_none
    w_top off
    k_fill
    intro w s₀ s₁ mg mb G Y fa o pm cd doc dV kV ho hd hcd hD hmg hg args vals as hpre hlay hrd hwl hlo
    have KX := kIn_of Y.1
    have hB1 := b1_at Y.2
    k_behind G ho hd hcd hD hmg hpre hlay hrd hwl hlo cd)
  all_goals (try w_strict k_fold)
  rename Top _ _ _ _ _ _ => T
  rename Below _ _ _ _ => K0
  rename IntsAre _ _ => hI
  rename Heap.IsList _ _ _ => hL
  rename Fr _ _ _ _ => F0
  rename News _ _ _ _ => N0
  rename (Obj.data _ = Data.cell _) => d0
  rename (¬ (63 : Int) < _) => hlen
  have hfin : ∀ (h : Heap) (tk : Nat) (m' : Str → Option Value) (nw : List (Addr × Obj)), Fr s₁.heap s₁.heap.objs.size h m' → News s₁.heap s₁.heap.objs.size h nw → qk (.ret (.bool true)) { s₁ with heap := h, toks := tk } := by
    intro h tk m' nw F N
    clear F0 N0 d0
    w_strict k_steps
  refine with_pass (by passes_own) ?_
  intro hpass
  clear_value qk ek
  dsimp only at hpass
  rename_i ns q1 q2 q3 q4 q5 q6 q7 sc vs q8 q9 q10 q11 q12 q13 hA tkA oc hcells
  have F1 : Fr s₁.heap s₁.heap.objs.size hA (fun z => if z = Str.ofString "script" then some (.ref sc) else none) := entry_map F0 (by with_unfolding_all rfl)
  have d1 := d0.trans (show Data.cell _ = Data.cell none by with_unfolding_all rfl)
  have K1 : Below callerA s₁.heap [] s₁.heap := K0
  clear F0 d0 K0 hcells hD hcd Y G hg ho q1 q2 q3 q4 q5 q8 q9 q10 q11 q12 q13
  dsimp only
  rename Glob _ _ _ _ _ _ _ _ => z1
  rename Tables _ _ _ _ => z2
  rename TopE _ _ _ _ => z3
  rename TopW _ _ _ => z4
  rename BMod _ _ _ _ _ => z5
  rename LooseAre _ _ _ => z6
  rename Flt.MathXP _ _ _ => z7
  clear z1 z2 z3 z4 z5 z6 z7 q6 q7
  generalize s₁.heap.objs.size = L at *
  refine gen_err hpass ?_
  clear hpass
  intro E1 hpass
  refine cons_halt ?_
  w_strict k_steps
  rename Fr _ _ _ _ => F2
  rename News _ _ _ _ => N2
  rename (Obj.data _ = Data.cell _) => d2
  clear d1
  rename_i w3 w2 w1 w0 l hb l1 hc o2
  refine Halt.mk (cons_halt (For_halt ?_))
  w_strict k_steps
  refine Halt.mk (enum_list_pos (lo := 1) (ex₀ := [(l, _)]) (news := [(L + 1, o2)]) rfl rfl rfl rfl (.inl hL) F2 N2 (Nat.le_add_left 1 _) (fun i _ ex => CellsJ l i ex) ⟨_, [166, 63, 7, 100], _, rfl, .cons _ _ (.cons _ _ (.cons _ _ (.cons _ _ .nil))), rfl, by decide⟩ ?_ ?_ hpass)
  · rintro i v ti m₁ ex h₁ tk₁ own hi hv _ hex hJ2 F₁ N₁
    refine Classical.byContradiction fun hG => ?_
    obtain ⟨cvs, cus, n, rfl, hcI, hcl, hcb⟩ := hJ2
    refine hG ?_
    clear hG
    refine Classical.byContradiction fun hG => ?_
    obtain ⟨u, tu, rfl, _⟩ := ints_mem hI (List.mem_of_getElem? (by rw [← List.getElem?_toArray]; exact hv))
    refine hG ?_
    clear hG
    have N₂ : News s₁.heap L h₁ _ := news_two N₁
    have F₂ : Fr s₁.heap L h₁ _ := F₁
    clear N₁ F₁
    w_strict k_steps
    rename_i r t4 k4 hr hr0 hr4
    refine Halt.mk (ksa_sub N₂ (.head _) hcI hr0 (by rw [hcl]; exact hr4) (by omega) fun ta => ?_)
    have hub := hcb _ (getD_mem (k := r.toNat) (by omega))
    w_strict k_steps
    rename_i q tq kq hq hq0 hq6 r' t5 k5 hr' hr0' hr4'
    refine Halt.mk (ksa_set F₂ N₂ (Upd.head fun p hp => ?_) hcI hr0' (by rw [hcl]; exact hr4') (by omega) fun h₃ F₃ N₃ hi₃ hl₃ _ => ?_)
    · rcases List.mem_cons.mp hp with rfl | hp
      · exact Nat.ne_of_lt l1
      · exact Ne.symm (hex _ (.head _) p hp)
    have hq6' : q < 1000000 := hq6
    have hcb' : ∀ z ∈ cus.set r'.toNat (cus.getD r.toNat 0 + q), 0 ≤ z ∧ z ≤ 166 + ((i + 1 : Nat) : Int) * 1000000 := fun z hz => by
      rcases List.mem_or_eq_of_mem_set hz with hz | rfl
      · have := hcb z hz; omega
      · omega
    clear N₂ F₂ hq6 hr hr'
    w_strict k_steps
    exact ⟨_, _, _, [(l, _)], rfl, by assumption, news_two' (by assumption), fun p hp q hq => by rw [List.mem_singleton.mp hp]; exact hex _ (.head _) q hq, ⟨_, _, n, rfl, hi₃, hl₃.trans hcl, hcb'⟩⟩
  · rintro h₃ tk₃ m₃ ex htk₃ hJ2 F₃ N₃
    refine Classical.byContradiction fun hG => ?_
    obtain ⟨cvs, cus, n, rfl, hcI, hcl, hcb0⟩ := hJ2
    refine hG ?_
    clear hG
    have F₄ : Fr s₁.heap L h₃ m₃ := F₃
    have N₄ : News s₁.heap L h₃ [(l, listOf (List.toArray cvs) n), (L + 1, o2)] := N₃
    have hcb : ∀ u ∈ cus, 0 ≤ u ∧ u ≤ 100000000 := fun u hu => by
      have h1 := hcb0 u hu
      have h2 := hI.length
      rw [List.size_toArray] at h1
      omega
    clear hcb0 F₃ N₃ F2 N2 hlen hL hI
    dsimp only
    clear o pm doc w3 w2 w0 vs ns sc hA tkA oc hb hc
    refine Halt.mk (cons_halt ?_)
    w_strict k_steps
    refine Halt.mk (LCg.ListComp_U (F₀ := by assumption) (by with_unfolding_all rfl) (by decide) (by rfl) (by decide) (by rfl) ?_)
    w_strict k_steps
    rename IsRange _ _ _ _ _ _ _ _ => hr
    rename News _ _ _ _ => N5
    rename Fr _ _ _ _ => F5
    refine Halt.mk (LCg.CompSrc.range rfl F5 N5 hr (small_one (by decide) (by decide) (by decide) (by decide)) (rangeSize_nat _ _) (by rw [sizeLine_eq]; decide) fun g => rest_pos trivial (fun i ys => IntsAre ys (adds 65024 i)) ?_ ?_ _ 0 [] (Nat.zero_add _) .nil)
    · rintro i ys v I oI C oC D m₂ h tk E' hi hJ ⟨ti, rfl⟩ hC hx F₁ N₁ off ne
      w_strict k_steps
      exact ⟨_, _, rfl, by assumption, by assumption, adds_snoc hJ⟩
    · intro ys hy D h tk F₁ N₁ off
      clear N5 F5
      w_strict k_steps
      refine Halt.mk (kmk_add_ints (ns := [173, 847, 6150, 6155, 6156, 6157, 8203, 8204, 8205, 8288, 65279]) F₁ N₁ (News.isList N₁ (.tail _ (.head _))) (News.isList N₁ (.head _)) (.cons _ _ (.cons _ _ (.cons _ _ (.cons _ _ (.cons _ _ (.cons _ _ (.cons _ _ (.cons _ _ (.cons _ _ (.cons _ _ (.cons _ _ .nil))))))))))) hy (fun Du us h₅ F₅ N₅ lu hu => ?_) (by rw [sizeLine_eq]; decide))
      have hu : IntsAre us codesB1 := hu
      have N₆ : News s₁.heap L h₅ [(Du, listOf us.toArray 0), (l, listOf cvs.toArray n), (L + 1, o2)] := news_pick N₅ fun p hp => by
        simp only [List.mem_cons, List.not_mem_nil, or_false] at hp ⊢
        rcases hp with h | h | h <;> simp [h]
      have lu : l < Du := lu _ (.tail _ (.tail _ (.head _)))
      clear N₁ F₁ N₅ off hy
      w_strict k_steps
      refine Halt.mk (cons_halt ?_)
      w_strict k_steps
      refine Halt.mk (cons_halt ?_)
      w_strict k_steps
      rename_i Db hb1 lb hb2 F7 N7
      refine Classical.byContradiction fun hG => ?_
      obtain ⟨bs, hbs, N8⟩ := besides N7
      refine hG ?_
      clear hG
      clear N7
      refine Halt.mk (ksa_sub N8 (.tail _ (.tail _ (.head _))) hcI (by decide) (by rw [hcl]; decide) (by decide) fun ta => ?_)
      have hc2 := hcb _ (getD_mem (us := cus) (k := 2) (by rw [hcl]; decide))
      generalize cus.getD (Int.toNat 2) 0 = c2
      w_strict k_steps
      refine Halt.mk (floordiv_int (by decide) ?_)
      w_strict k_steps
      dsimp only
      rename Fr _ _ _ _ => F8
      rename News _ _ _ _ => N9
      rename_i r tr kr hr hr0 hr1 hZ
      refine Classical.byContradiction fun hG => ?_
      obtain ⟨tst, F9⟩ := fold_int F8
      refine hG ?_
      clear hG
      refine Halt.mk (gen_toks (lo := 1) (by omega) ?_)
      intro tk9 htk9
      clear F8
      rename IntsAre _ codesB1 => hu
      rename IntsAre _ besideL => hbs
      refine cons_haltP (lo := 1) htk9 ?_
      w_strict k_steps
      refine Halt.mk (LCg.ListComp_U (F₀ := by assumption) (by with_unfolding_all rfl) (by decide) (by rfl) (by decide) (by rfl) ?_)
      w_strict k_steps
      rename IsRange _ _ _ _ _ _ _ _ => hr2
      rename News _ _ _ _ => N5
      rename Fr _ _ _ _ => F5
      refine Halt.mk (LCg.CompSrc.range rfl F5 N5 hr2 (small_one (by decide) (by decide) (by decide) (by decide)) (rangeSize_nat _ _) (by rw [sizeLine_eq]; decide) fun g => rest_pos trivial (fun i ys => ∃ ws, StrsAre ys ws ∧ Lets ws ∧ ws.length = i) ?_ ?_ _ 0 [] (Nat.zero_add _) ⟨[], .nil, fun z hz => (List.not_mem_nil hz).elim, rfl⟩)
      · rintro i ys v I oI C oC D m₂ h tk E' hi hJ4 hP4 hC hx F₁ N₁ off ne
        refine Classical.byContradiction fun hG => ?_
        obtain ⟨ws, hw1, hw2, hw3⟩ := hJ4
        obtain ⟨ti, rfl⟩ := hP4
        refine hG ?_
        clear hG
        w_strict k_steps
        rename News _ _ _ _ => N7
        refine Halt.mk (ksa_sub N7 (.tail _ (.tail _ (.tail _ (.tail _ (.tail _ (.head _)))))) hcI (by decide) (by rw [hcl]; decide) (by decide) fun ta => ?_)
        have hc0 := hcb _ (getD_mem (us := cus) (k := (0 : Int).toNat) (by rw [hcl]; decide))
        generalize cus.getD (Int.toNat 0) 0 = c0 at hc0 ⊢
        w_strict k_steps
        refine Halt.mk (pow_small (by omega) (by omega) (by decide) (by decide) fun tp => ?_)
        have hpz : (2 : Int) ^ (0 + (i : Int)).toNat ≠ 0 := Int.ne_of_gt (Int.pow_pos (by decide))
        generalize (2 : Int) ^ (0 + (i : Int)).toNat = pz at hpz ⊢
        w_strict k_steps
        refine Halt.mk (floordiv_int hpz ?_)
        w_strict k_steps
        exact ⟨_, _, rfl, by assumption, by assumption, first_turn hw1 hw2 hw3 (by assumption) (by assumption)⟩
      · intro ys ⟨ws, hw1, hw2, hw3⟩ D h tk F₁ N₁ off
        clear N5 F5
        w_strict k_steps
        have hlw : ws.length = 8 := hw3
        refine Halt.mk (join_listW (News.isList N₁ (.head _)) hw1 (by decide) (by rw [lets_sum hw2]; omega) ?_)
        intro tz kz
        have hz := join_lets hw2
        obtain ⟨fst, hfst⟩ : ∃ z, z = Txt.join (Str.ofString "") ws := ⟨_, rfl⟩
        rw [← hfst] at hz ⊢
        have hf8 : fst.length = 8 := hz.1.trans hlw
        have hfw := hz.2
        clear hz hfst hw1 hw2 hw3 hlw
        w_strict k_steps
        refine LoTo.intro ?_
        intro hpast
        dsimp only at hpast ⊢
        rename News _ _ _ _ => N8
        have N9 := news_tail N8
        clear N8
        refine Halt.mk (cons_haltP (lo := 1) hpast ?_)
        w_strict k_steps
        refine Halt.mk (ksa_sub N9 (.tail _ (.tail _ (.head _))) hcI (by decide) (by rw [hcl]; decide) (by decide) fun ta => ?_)
        have hc1 := hcb _ (getD_mem (us := cus) (k := (1 : Int).toNat) (by rw [hcl]; decide))
        generalize cus.getD (Int.toNat 1) 0 = c1 at hc1 ⊢
        w_strict k_steps
        have hC := moved_ok w fst c1 tz ta (by omega) (by omega) (by omega) hfw
        refine Halt.mk ?_
        w_strict (walk_at "lc")
        clear hC
        intro v8 h8 tk8 F8 P8 ht8 hs8
        refine Classical.byContradiction fun hG => ?_
        obtain ⟨snd, ts, rfl, hs8l, hsw, N10⟩ := P8
        refine hG ?_
        clear hG
        clear N9
        w_strict k_steps
        refine LoTo.intro ?_
        intro hpast2
        dsimp only at hpast2 ⊢
        have hs8 : snd.length = 8 := hs8l.trans hf8
        rename News _ _ _ _ => N11
        refine Halt.mk (cons_haltP (lo := 1) hpast2 ?_)
        w_strict k_steps
        refine Halt.mk (ksa_sub N11 (.tail _ (.tail _ (.head _))) hcI (by decide) (by rw [hcl]; decide) (by decide) fun tb => ?_)
        have hd1 := hcb _ (getD_mem (us := cus) (k := (1 : Int).toNat) (by rw [hcl]; decide))
        generalize cus.getD (Int.toNat 1) 0 = d1 at hd1 ⊢
        w_strict k_steps
        refine Halt.mk (floordiv_k (by decide) (by decide) fun te ke => ?_)
        have hd2 : 0 ≤ d1.fdiv 20 ∧ d1.fdiv 20 ≤ 100000000 := by
          rw [Int.fdiv_eq_ediv_of_nonneg _ (by decide)]; omega
        generalize d1.fdiv 20 = e1 at hd2 ⊢
        w_strict k_steps
        refine Halt.mk ?_
        have hC := moved_ok w snd e1 ts te (by omega) (by omega) (by omega) hsw
        w_strict (walk_at "lc")
        clear hC
        intro v9 h9 tk9 F9 P9 ht9 hs9
        refine Classical.byContradiction fun hG => ?_
        obtain ⟨thd, tt, rfl, ht9l, htw, N12⟩ := P9
        refine hG ?_
        clear hG
        w_strict k_steps
        refine LoTo.intro ?_
        intro hpast3
        dsimp only at hpast3 ⊢
        have ht8 : thd.length = 8 := ht9l.trans hs8
        refine Halt.mk (cons_haltP (lo := 1) hpast3 ?_)
        w_strict k_steps
        rename_i lk hk1 lkall hk2 F20 N20
        refine LoTo.intro ?_
        intro hpast4
        dsimp only at hpast4 ⊢
        simp only [List.nil_append] at N20
        refine Halt.mk (gen_toks (lo := 1) hpast4 ?_)
        intro tk20 htk20
        have htk20 : Past 1 _ := htk20
        refine cons_haltP (lo := 1) htk20 ?_
        refine For_halt ?_
        w_strict k_steps
        refine Halt.mk (past_tail (lo := 1) (by walk_at "past") (add_b (a := 1) (b := 8) (by decide) (by omega) (by decide) fun fo t4 k4 hfo hfol => LoTo.intro fun hp4 => ?_))
        dsimp only at hp4
        w_strict k_steps
        refine Halt.mk (past_tail (lo := 1) (by walk_at "past") (add_b (a := 8) (b := 1) (by omega) (by decide) (by decide) fun fi t5 k5 hfi hfil => LoTo.intro fun hp5 => ?_))
        dsimp only at hp5
        have hfow := word_s hfw hfo
        have hfiw := word_t hfw hfi
        clear hfo hfi
        w_strict k_steps
        rename_i lw hw1 F21 N21 lw5
        have N22 : News s₁.heap L _ ([(lk, listOf (List.toArray []) 0)] ++ [(lw, listOf #[.str fst tz, .str snd ts, .str thd tt, .str fo t4, .str fi t5] 0), (Db, listOf bs.toArray 0), (Du, listOf us.toArray 0), (l, listOf cvs.toArray n), (L + 1, o2)]) := news_pick N21 fun p hp => by
          rcases List.mem_cons.mp hp with rfl | hp
          · exact .tail _ (.head _)
          rcases List.mem_cons.mp hp with rfl | hp
          · exact .head _
          · exact .tail _ (.tail _ hp)
        clear N21
        refine Halt.mk (enum_list_pos (lo := 1) (ex₀ := [(lk, _)]) rfl rfl rfl rfl (.inr ⟨0, .head _⟩) F21 N22 ?k0 (fun i m ex => MapJ lk Db Du r tst m ∧ KeptJ w.params lk i ex) ⟨⟨rfl, rfl, rfl, rfl⟩, _, _, [], rfl, rfl, fun p hp => (List.not_mem_nil hp).elim, fun v hv => (List.not_mem_nil hv).elim⟩ ?kt ?kf hpass)
        case k0 => exact hp5
        case kt =>
          rintro i v ti m₁ ex h₁ tk₁ own hi hv (htk₁ : Past 1 tk₁) hex hJ5 F₁ N₁
          refine Classical.byContradiction fun hG => ?_
          obtain ⟨⟨hm1, hm2, hm3, hm4⟩, kvs, nk, rest, rfl, hkl, hkr, hkv⟩ := hJ5
          refine hG ?_
          clear hG
          refine Classical.byContradiction fun hG => ?_
          obtain ⟨wd, tw, rfl, hwd, hwl⟩ := five_words hfw hsw htw hfow hfiw hf8 hs8 ht8 hfol hfil v (Array.mem_of_getElem? hv)
          refine hG ?_
          clear hG
          refine gen_post fun Q5 hQ5 => ?_
          have F₂ : Fr s₁.heap L h₁ _ := F₁
          clear F₁
          rw [put_eq hm1, put_eq hm2, put_eq hm3, put_eq hm4] at F₂
          obtain ⟨rem, hrem⟩ : ∃ rem, rem = own ++ (rest ++ [(lw, listOf #[Value.str fst tz, Value.str snd ts, Value.str thd tt, Value.str fo t4, Value.str fi t5] 0)]) := ⟨_, rfl⟩
          have N₂ : News s₁.heap L h₁ ((lk, listOf (List.toArray kvs) nk) :: (Db, listOf bs.toArray 0) :: (Du, listOf us.toArray 0) :: (l, listOf cvs.toArray n) :: (L + 1, o2) :: rem) := news_pick (show News s₁.heap L h₁ _ from N₁) fun p hp => pick2 hrem hp
          have hlk : ∀ p ∈ rem, p.1 ≠ lk := fun p hp => by
            rw [hrem] at hp
            rcases List.mem_append.mp hp with hp | hp
            · exact Ne.symm (hex _ (.head _) p hp)
            rcases List.mem_append.mp hp with hp | hp
            · exact hkr p hp
            · rw [List.mem_singleton.mp hp]; exact Ne.symm (Nat.ne_of_lt lw5.1)
          clear N₁
          refine cons_haltP (lo := 1) htk₁ ?_
          w_strict k_steps
          refine Halt.mk (ksa_sub N₂ (.tail _ (.tail _ (.tail _ (.head _)))) hcI (by decide) (by rw [hcl]; decide) (by decide) fun ta => ?_)
          have hx2 := hcb _ (getD_mem (us := cus) (k := (2 : Int).toNat) (by rw [hcl]; decide))
          generalize cus.getD (Int.toNat 2) 0 = x2 at hx2 ⊢
          w_strict k_steps
          rename_i r16 tq kq hq hq0 hq16
          refine Halt.mk (ksa_sub N₂ (.tail _ (.head _)) hbs hq0 hq16 (lt63 hq16) fun tb => ?_)
          refine Classical.byContradiction fun hG => ?_
          obtain ⟨bz1, bz2, bz3, bz4⟩ := beside_at (i := r16.toNat) (toNat16 hq0 hq16)
          refine hG ?_
          clear hG
          generalize besideL.getD r16.toNat 0 = bz at bz1 bz2 bz3 bz4 ⊢
          clear hq
          w_strict k_steps
          refine Halt.mk (chr_K ⟨bz3, by omega⟩ fun sy tsy ks hsy hsyl => ?_)
          w_strict k_steps
          refine LoTo.intro ?_
          intro hp1
          dsimp only at hp1 ⊢
          refine Halt.mk (cons_haltP (lo := 1) hp1 ?_)
          w_strict k_steps
          rename News _ _ _ _ => N3
          refine Halt.mk (ksa_sub N3 (.tail _ (.tail _ (.tail _ (.head _)))) hcI (by decide) (by rw [hcl]; decide) (by decide) fun td => ?_)
          have hx3 := hcb _ (getD_mem (us := cus) (k := (3 : Int).toNat) (by rw [hcl]; decide))
          generalize cus.getD (Int.toNat 3) 0 = x3 at hx3 ⊢
          have hi5 : i < 5 := hi
          w_strict k_steps
          have hDu : ∀ p ∈ [(Du, listOf us.toArray 0)], p ∈ (lk, listOf kvs.toArray nk) :: (Db, listOf bs.toArray 0) :: (Du, listOf us.toArray 0) :: (l, listOf cvs.toArray n) :: (L + 1, o2) :: rem := fun p hp => by
            rw [List.mem_singleton.mp hp]; exact .tail _ (.tail _ (.head _))
          refine Halt.mk ?_
          refine' lc_use (typed_ok w wd (x3 + 7 * (i : Int)) tw _ Du codesB1 us 0 hu (by decide) (by decide) (Nat.le_trans hwl (by decide)) (x7lo hx3) (x7hi hx3 hi5)) ?k1 ?k2 ?k3 ?k4 ?hl ?k5 ?kK ?kd ?ku ?kp ?kb ?_
          case k1 => k_asm
          case k2 => k_asm
          case k3 => k_asm
          case k4 => k_asm
          case hl => exact hDu
          case k5 => k_asm
          case kK => exact rfl
          case kd => ktr_room
          case ku => ktr_units
          case kp => exact Nat.zero_le _
          case kb => first | assumption | exact B1At.keep (by assumption) (Fr.keep (by assumption))
          k_whole
          intro v4 h4 tk4 F4 P4 ht4 hs4
          refine Classical.byContradiction fun hG => ?_
          obtain ⟨ty, tty, nn, at_, rfl, hit, hat, htl, N4⟩ := P4
          refine hG ?_
          clear hG
          have N5 : News s₁.heap L h4 ((lk, listOf kvs.toArray nk) :: (Db, listOf bs.toArray 0) :: (Du, listOf us.toArray 0) :: (l, listOf cvs.toArray n) :: (L + 1, o2) :: rem) := fun p hp => N4 p (List.mem_append_right _ hp)
          clear N4 N3 hDu
          w_strict k_steps
          have hC := lcx (concat_ok w ty sy tty tsy htl hsyl (by decide))
          refine Halt.mk ?_
          w_strict (walk_at "lc")
          clear hC
          intro v5 h5 tk5 F5 P5 ht5 hs5
          refine Classical.byContradiction fun hG => ?_
          obtain ⟨tz5, tt5, rfl, hz5, hzl5, N6⟩ := P5
          refine hG ?_
          clear hG
          obtain ⟨hpr, hsg⟩ := prep_all hwd hit hat hsy bz1 bz2 hz5
          w_strict k_steps
          have hC := lcx (prep_ok w tz5 tt5 (Nat.le_trans hzl5 (by decide)) hsg)
          refine Halt.mk ?_
          w_strict (walk_at "lc")
          clear hC
          intro v6 h6 tk6 F6 P6 ht6 hs6
          refine Classical.byContradiction fun hG => ?_
          obtain ⟨tt6, rfl, N7⟩ := P6
          refine hG ?_
          clear hG
          rw [hpr]
          clear N5 N6
          w_strict k_steps
          refine LoTo.intro ?_
          intro hp2
          dsimp only at hp2 ⊢
          rename News _ _ _ _ => N8
          simp only [List.nil_append] at N8
          refine Halt.mk (cons_haltP (lo := 1) hp2 ?_)
          w_strict k_steps
          refine Halt.mk (add_b (a := 9) (b := 1) hwl hsyl (by decide) fun z6 t6 k6 hz6 _ => ?_)
          subst hz6
          w_strict k_steps
          refine Halt.mk (PySem.P.ne_str ?_)
          rw [bne_self_eq_false]
          w_strict k_steps
          refine LoTo.intro ?_
          intro hp3
          dsimp only at hp3 ⊢
          refine Halt.mk (cons_haltP (lo := 1) hp3 ?_)
          w_strict k_steps
          rename News _ _ _ _ => N9
          rename Fr _ _ _ _ => F9
          refine Halt.mk ?_
          dsimp only
          refine slice_strN_ns (hsz := by rw [sizeLine_eq]; omega) (s := ⟨_, _, _, _, _⟩) F9 N9 ?_
          intro h9 t9 k9 F10 N10
          rw [slice_last (by rw [hsy]; rfl)]
          clear F9 N9
          w_strict k_steps
          refine LoTo.intro ?_
          intro hp4'
          dsimp only at hp4' ⊢
          refine Halt.mk (cons_haltP (lo := 1) hp4' ?_)
          w_strict k_steps
          rename_i tcs kcs tct kct
          have hC := lcx (ways_ok w wd tw (Nat.le_trans hwl (by decide)))
          refine Halt.mk ?_
          w_strict (walk_at "lc")
          clear hC
          intro v7 h7 tk7 F7 P7 ht7 hs7
          refine Classical.byContradiction fun hG => ?_
          obtain ⟨wl, wvs, wk, rfl, hwI, hwL, N7w, lw7⟩ := P7
          refine hG ?_
          clear hG
          simp only [List.nil_append] at N7w lw7
          w_strict k_steps
          refine LoTo.intro ?_
          intro hp6
          dsimp only at hp6 ⊢
          rename News _ _ _ _ => N8w
          have N9 := news_tail N8w
          clear N8w
          refine Halt.mk (cons_haltP (lo := 1) hp6 ?_)
          w_strict k_steps
          have hC := leads_ok w wd t9 (Nat.le_trans hwl (by decide))
          refine Halt.mk ?_
          w_strict (walk_at "lc")
          clear hC
          intro v8 h8' tk8' F8' P8 ht8' hs8'
          refine Classical.byContradiction fun hG => ?_
          refine LeadPost.elim P8 fun ll kl ya dxa tca tNa Xa tXa na nta tba tna tta ka1 ka2 ka3 ka4 ka5 bsa vsa yb dxb tcb tNb Xb tXb nb ntb tbb tnb ttb kb1 kb2 kb3 kb4 kb5 bsb vsb hEl hIa hIb N10 le1 le2 le3 le4 le5 le6 le7 le8 le9 => ?_
          subst hEl
          clear P8
          refine hG ?_
          clear hG
          simp only [List.nil_append] at N10 le9
          clear N9
          w_strict k_steps
          refine LoTo.intro ?_
          intro hp7
          dsimp only at hp7 ⊢
          rename News _ _ _ _ => N11
          rename Fr _ _ _ _ => F11
          refine Halt.mk (cons_haltP (lo := 1) hp7 ?_)
          refine For_halt ?_
          w_strict k_steps
          rename News _ _ _ _ => N12
          rename Fr _ _ _ _ => F12
          refine Halt.mk ?_
          dsimp only
          refine past_tail (lo := 1) (by walk_at "past") (slice_strK_nn (hsz := by rw [sizeLine_eq]; omega) (s := ⟨_, _, _, _, _⟩) F12 N12 (by decide) ?_)
          intro h13 t13 k13 F13 N13
          refine LoTo.intro ?_
          intro hp8
          dsimp only at hp8
          clear F12 N12
          generalize hrv' : Txt.sliceBy wd none none (-1, _) = rv
          have hrv := (congrArg (fun z : Str => z.cps.toList) hrv').symm.trans (rev_cps _ _)
          have hrl : rv.length ≤ 9 := by
            have := congrArg List.length hrv
            simp only [List.length_reverse, Array.length_toList] at this
            show rv.cps.size ≤ 9
            have h9 : wd.cps.size ≤ 9 := hwl
            omega
          w_strict k_steps
          rename_i D1 hd1 ld1 D2 hd2 ld2 lq hq1 F14 N14 lq1
          clear hrv'
          obtain ⟨led, hled, N15⟩ := with_led N14
          have lA : LeadAt w.params led ya (normF (leadT wd.cps.toList)).1 (normF (leadT wd.cps.toList)).2 :=
            LeadAt.of (dx := dxa) (tc := tca) (tN := tNa) (X := Xa) (tX := tXa) (n := na) (nt := nta) (tb := tba) (tn := tna) (tt := tta) (k1 := ka1) (k2 := ka2) (k3 := ka3) (k4 := ka4) (k5 := ka5) (bs := bsa) (vs := vsa) hIa (by rw [hled]; repeat (first | with_reducible exact .head _ | refine .tail _ ?_)) (by rw [hled]; repeat (first | with_reducible exact .head _ | refine .tail _ ?_)) (by rw [hled]; repeat (first | with_reducible exact .head _ | refine .tail _ ?_)) (by rw [hled]; repeat (first | with_reducible exact .head _ | refine .tail _ ?_))
          have lB : LeadAt w.params led yb (normF (leadS wd.cps.toList)).1 (normF (leadS wd.cps.toList)).2 :=
            LeadAt.of (dx := dxb) (tc := tcb) (tN := tNb) (X := Xb) (tX := tXb) (n := nb) (nt := ntb) (tb := tbb) (tn := tnb) (tt := ttb) (k1 := kb1) (k2 := kb2) (k3 := kb3) (k4 := kb4) (k5 := kb5) (bs := bsb) (vs := vsb) hIb (by rw [hled]; repeat (first | with_reducible exact .head _ | refine .tail _ ?_)) (by rw [hled]; repeat (first | with_reducible exact .head _ | refine .tail _ ?_)) (by rw [hled]; repeat (first | with_reducible exact .head _ | refine .tail _ ?_)) (by rw [hled]; repeat (first | with_reducible exact .head _ | refine .tail _ ?_))
          have hturns := two_turns (P := w.params) (led := led) (start := 1000 + r) hwd hwl hrv hrl (by rw [hled]; exact .tail _ (.tail _ (.head _))) (by rw [hled]; exact .tail _ (.head _)) lA lB
          have hwm : (wl, listOf wvs.toArray wk) ∈ led := by rw [hled]; repeat (first | with_reducible exact .head _ | refine .tail _ ?_)
          refine Halt.mk (list_pos (lo := 1) (ex₀ := []) (news := led) (k := 0) rfl (fun v hv => ?_) (by rw [hled]; exact .head _) F14 N15 ?_ (fun i m ex => NamesJ lk Db Du ya yb wl r tst (wd.cps.toList.count 116) tct m ∧ ex = []) ⟨⟨⟨rfl, rfl, rfl, rfl⟩, rfl, rfl, rfl, rfl⟩, rfl⟩ ?_ ?_ ?_)
          · obtain ⟨T, _, _, _, _, _, _, _, _, _, _, _, _, rfl, _⟩ := hturns v hv
            exact GoFree.tuple
          · have : 1 ≤ k13 := hp8
            show 1 ≤ k13 + 1 + 1
            exact Nat.le_add_left 1 _
          · rintro i2 v2 m2 ex2 h2 tk2 own2 hi2 hv2 (htk2 : Past 1 tk2) hown hJ7 F₁ N₁
            refine Classical.byContradiction fun hG => ?_
            obtain ⟨⟨⟨hm1, hm2, hm3, hm4⟩, hm5, hm6, hm7, hm8⟩, rfl⟩ := hJ7
            refine TurnP.elim (hturns v2 (Array.mem_of_getElem? hv2)) fun T2 y2 z2 zu2 tz2 tu2 tm2 tl2 up2 more2 less2 S2 c2z hE2 hT2 hLd2 hzu2 hz2 hdone hsum hprod hcl2 hcb2 hless2 hmore2 => ?_
            refine LeadAt.elim hLd2 fun dx2 tc2 tN2 X2 tX2 n2 nt2 tb2 tn2 tt2 j1 j2 j3 j4 j5 bs2 vs2 hI2 hL1 hL2 hL3 hL4 => ?_
            subst hE2
            clear hLd2
            refine hG ?_
            clear hG
            have F₂ : Fr s₁.heap L h2 m2 := F₁
            have N₂ : News s₁.heap L h2 ((T2, ({ cls := .type "tuple", data := .seq #[.ref y2, .str z2 tz2, .str zu2 tu2, .int (more2 : Nat) tm2, .int (less2 : Nat) tl2] } : Obj)) :: (y2, instObj 83 dx2) :: (dx2, wsDict w.params X2 tX2 n2 nt2 tn2 tt2 tN2 bs2 j1 j2 j3 j4 j5) :: (tN2, tupO [.ref tc2, .int (more2 : Nat) tb2]) :: (tc2, tupO vs2) :: (wl, listOf wvs.toArray wk) :: (own2 :: led)) := by
              have go : ∀ q ∈ led, h2.get? q.1 = some q.2 ∧ q.1 ≠ L ∧ s₁.heap.get? q.1 = none := fun q hq => N₁ q (.tail _ hq)
              exact news_cons (go _ hT2) (news_cons (go _ hL3) (news_cons (go _ hL4) (news_cons (go _ hL1) (news_cons (go _ hL2) (news_cons (go _ hwm) N₁)))))
            rw [put_eq hm1, put_eq hm2, put_eq hm3, put_eq hm4, put_eq hm5, put_eq hm6, put_eq hm7, put_eq hm8] at F₂
            clear F₁ N₁ N15 N14 F14
            w_strict k_steps
            subst hzu2
            refine Halt.mk (gen_post fun Q8 hQ8 => cons_halt ?_)
            w_strict k_steps
            have hC := lcx (summed_ok w wl (waysF wd.cps.toList).1 wvs wk hwI (less2 : Nat) (1000 + r) tl2 tst (Nat.le_trans hwL (Nat.le_trans (Nat.succ_le_succ hwl) (by decide))) (by rw [ways_len_is _ hwd]; exact Nat.le_add_left _ _) (Int.natCast_nonneg _) (i20 hless2) (st_lo hr0) (st_hi hr1))
            refine Halt.mk ?_
            w_strict (walk_at "lc")
            clear hC
            intro v21 h21 tk21 F21 P21 ht21 hs21
            refine Classical.byContradiction fun hG => ?_
            obtain ⟨ts21, rfl, N21⟩ := P21
            refine hG ?_
            clear hG
            have N22 : News s₁.heap L h21 _ := fun p hp => N21 p (List.mem_append_right _ hp)
            rw [hsum]
            clear N21
            w_strict k_steps
            refine Halt.mk (cons_halt ?_)
            w_strict k_steps
            have hC := lcx (done_ok w z2 up2 (1000 + r) tz2 tu2 tst (Nat.le_trans hz2 (by decide)) (st_lo hr0) (st_hi hr1))
            refine Halt.mk ?_
            w_strict (walk_at "lc")
            clear hC
            intro v23 h23 tk23 F23 P23 ht23 hs23
            refine Classical.byContradiction fun hG => ?_
            obtain ⟨ld, td1, td2, kd, rfl, N23, ld23⟩ := P23
            refine hG ?_
            clear hG
            rw [hdone] at N23
            dsimp only at N23
            simp only [List.nil_append] at N23 ld23
            w_strict k_steps
            rename News _ _ _ _ => N24
            refine Halt.mk (ke_ne_ints (ns := [S2, 1000 + r + (more2 : Nat) - (less2 : Nat)]) (ms := [S2, 1000 + r + (more2 : Nat) - (less2 : Nat)]) (xs := [_, _]) (ys := [_, _]) (News.isList N24 (.tail _ (.head _))) (News.isList N24 (.head _)) (.cons _ _ (.cons _ _ .nil)) (.cons _ _ (.cons _ _ .nil)) (by ktr_units) ?_)
            rw [ne_same]
            have N25 := news_tail (news_tail N24)
            clear N24
            w_strict k_steps
            refine Halt.mk (cons_halt ?_)
            w_strict k_steps
            refine Halt.mk ?_
            refine' lc_use (lcx (product_ok w tc2 c2z vs2 0 hI2 (1000 + r - (less2 : Nat) + 1) _ hcl2 hcb2 (pr_lo hr0 hless2) (pr_hi hr1 hless2))) ?k1 ?k2 ?k3 ?k4 ?hl ?k5 ?kK ?kd ?ku ?kp ?kb ?_
            case k1 => k_asm
            case k2 => k_asm
            case k3 => k_asm
            case k4 => k_asm
            case hl => exact led_one (.tail _ (.tail _ (.tail _ (.tail _ (.head _)))))
            case k5 => k_asm
            case kK => exact rfl
            case kd => ktr_room
            case ku => ktr_units
            case kp => exact Nat.zero_le _
            case kb => first | assumption | exact B1At.keep (by assumption) (Fr.keep (by assumption))
            k_whole
            intro v26 h26 tk26 F26 P26 ht26 hs26
            refine Classical.byContradiction fun hG => ?_
            obtain ⟨tp26, rfl, N26⟩ := P26
            refine hG ?_
            clear hG
            have N27 : News s₁.heap L h26 _ := fun p hp => N26 p (List.mem_append_right _ hp)
            rw [hprod]
            clear N26
            w_strict k_steps
            refine Halt.mk (ne_intK ?_)
            w_strict k_steps
            refine Halt.mk (ne_intK ?_)
            w_strict k_steps
            refine Halt.mk ?_
            w_strict k_steps
            rename News _ _ _ _ => N28
            exact hQ8 _ _ ⟨_, _, _, [], rfl, by assumption, fun p hp => N28 p (.tail _ (.tail _ (.tail _ (.tail _ (.tail _ (.tail _ hp)))))), fun p hp => (List.not_mem_nil hp).elim, ⟨⟨rfl, rfl, rfl, rfl⟩, rfl, rfl, rfl, rfl⟩, rfl⟩
          · rintro h3 tk3 m3 ex3 htk3 hJ9 F₁ N₁
            refine Classical.byContradiction fun hG => ?_
            obtain ⟨⟨⟨hm1, hm2, hm3, hm4⟩, hm5, hm6, hm7, hm8⟩, rfl⟩ := hJ9
            refine hG ?_
            clear hG
            dsimp only
            refine LoTo.intro ?_
            intro hp9
            dsimp only at hp9 ⊢
            have F₂ : Fr s₁.heap L h3 m3 := F₁
            have N₂ : News s₁.heap L h3 led := N₁
            clear F₁ N₁
            rw [put_eq hm1, put_eq hm2, put_eq hm3, put_eq hm4, put_eq hm5, put_eq hm6, put_eq hm7, put_eq hm8] at F₂
            rw [hled] at N₂
            have N₃ := news_tail (news_tail (news_tail (news_tail N₂)))
            clear N₂
            refine Halt.mk (cons_halt ?_)
            w_strict k_steps
            rename News _ _ _ _ => N4
            rename Fr _ _ _ _ => F4
            have hkw := hwL
            refine Halt.mk (kmk_add_ints (vs := [.int ((wd.cps.toList.count 116 : Nat) : Int) tct]) (ns := [((wd.cps.toList.count 116 : Nat) : Int)]) (ms := (waysF wd.cps.toList).1) F4 N4 (News.isList N4 (.head _)) (News.isList N4 (.tail _ (.tail _ (.tail _ (.tail _ (.tail _ (.tail _ (.tail _ (.tail _ (.tail _ (.head _))))))))))) (.cons _ _ .nil) hwI (fun Dw dvs h5 F5 N5 lu5 hu5 => ?_) (by rw [sizeLine_eq]; show 1 + _ ≤ _; omega))
            clear F4 N4
            w_strict k_steps
            rename_i en he1 F6 N6 len
            refine Classical.byContradiction fun hG => ?_
            obtain ⟨c1, c2, c3, c4, c5, c6, c7⟩ := le9
            refine hG ?_
            clear hG
            have b1 : @LT.lt Nat _ dxa ya := le8
            have b2 : @LT.lt Nat _ ya tca := le7
            have b3 : @LT.lt Nat _ tca tNa := le6
            have b4 : @LT.lt Nat _ tNa dxb := le5
            have b5 : @LT.lt Nat _ dxb yb := le4
            have b6 : @LT.lt Nat _ yb tcb := le3
            have b7 : @LT.lt Nat _ tcb tNb := le2
            have b8 : @LT.lt Nat _ tNb Dw := lu5 _ (.tail _ (.head _))
            have b9 : @LT.lt Nat _ Dw en := len.1
            have b10 : @LT.lt Nat _ lk dxa := c2
            have hrlt : ∀ q ∈ rem, @LT.lt Nat _ q.1 dxa := allLt_lt c7
            have hlkb : ∀ p ∈ [(Db, listOf bs.toArray 0), (Du, listOf us.toArray 0), (l, listOf cvs.toArray n), (L + 1, o2)], p.1 ≠ lk := fun p hp => Nat.ne_of_lt (lkall p hp)
            obtain ⟨exl, hexl⟩ : ∃ exl : List (Addr × Obj), exl = [(en, listOf #[.ref ya, .ref yb, .ref Dw] 0), (Dw, listOf dvs.toArray 0), (tNb, tupO [.ref tcb, .int ((normF (leadS wd.cps.toList)).2 : Nat) tbb]), (tcb, tupO vsb), (yb, instObj 83 dxb), (dxb, wsDict w.params Xb tXb nb ntb tnb ttb tNb bsb kb1 kb2 kb3 kb4 kb5), (tNa, tupO [.ref tca, .int ((normF (leadT wd.cps.toList)).2 : Nat) tba]), (tca, tupO vsa), (ya, instObj 83 dxa), (dxa, wsDict w.params Xa tXa na nta tna tta tNa bsa ka1 ka2 ka3 ka4 ka5)] := ⟨_, rfl⟩
            have hch := chain10 b1 b2 b3 b4 b5 b6 b7 b8 b9
            have hmin : ∀ p ∈ exl, @LE.le Nat _ dxa p.1 := by
              rw [hexl]
              exact all10 (P := fun p : Addr × Obj => @LE.le Nat _ dxa p.1) hch.2.2.2.2.2.2.2.2 hch.2.2.2.2.2.2.2.1 hch.2.2.2.2.2.2.1 hch.2.2.2.2.2.1 hch.2.2.2.2.1 hch.2.2.2.1 hch.2.2.1 hch.2.1 hch.1 (Nat.le_refl _)
            have N7 : News s₁.heap L _ ((lk, listOf kvs.toArray nk) :: (exl ++ ([(Db, listOf bs.toArray 0), (Du, listOf us.toArray 0), (l, listOf cvs.toArray n), (L + 1, o2)] ++ rem))) := news_pick N6 fun p hp => pick7 hexl hp
            refine Halt.mk (append_one (led' := exl ++ ([(Db, listOf bs.toArray 0), (Du, listOf us.toArray 0), (l, listOf cvs.toArray n), (L + 1, o2)] ++ rem)) F6 N7 (.head _) (fun p hp => ⟨.tail _ hp, ?_⟩) (by rw [hkl, sizeLine_eq]; omega) fun h7 F7' N8 => ?_)
            · rcases List.mem_append.mp hp with hp | hp
              · exact Nat.ne_of_gt (Nat.lt_of_lt_of_le b10 (hmin p hp))
              rcases List.mem_append.mp hp with hp | hp
              · exact hlkb p hp
              · exact hlk p hp
            clear N6 N7 F6
            have kA : LeadAt w.params (exl ++ rest) ya (normF (leadT wd.cps.toList)).1 (normF (leadT wd.cps.toList)).2 :=
              LeadAt.of (dx := dxa) (tc := tca) (tN := tNa) (X := Xa) (tX := tXa) (n := na) (nt := nta) (tb := tba) (tn := tna) (tt := tta) (k1 := ka1) (k2 := ka2) (k3 := ka3) (k4 := ka4) (k5 := ka5) (bs := bsa) (vs := vsa) hIa (List.mem_append_left _ (by rw [hexl]; repeat (first | with_reducible exact .head _ | refine .tail _ ?_))) (List.mem_append_left _ (by rw [hexl]; repeat (first | with_reducible exact .head _ | refine .tail _ ?_))) (List.mem_append_left _ (by rw [hexl]; repeat (first | with_reducible exact .head _ | refine .tail _ ?_))) (List.mem_append_left _ (by rw [hexl]; repeat (first | with_reducible exact .head _ | refine .tail _ ?_)))
            have kB : LeadAt w.params (exl ++ rest) yb (normF (leadS wd.cps.toList)).1 (normF (leadS wd.cps.toList)).2 :=
              LeadAt.of (dx := dxb) (tc := tcb) (tN := tNb) (X := Xb) (tX := tXb) (n := nb) (nt := ntb) (tb := tbb) (tn := tnb) (tt := ttb) (k1 := kb1) (k2 := kb2) (k3 := kb3) (k4 := kb4) (k5 := kb5) (bs := bsb) (vs := vsb) hIb (List.mem_append_left _ (by rw [hexl]; repeat (first | with_reducible exact .head _ | refine .tail _ ?_))) (List.mem_append_left _ (by rw [hexl]; repeat (first | with_reducible exact .head _ | refine .tail _ ?_))) (List.mem_append_left _ (by rw [hexl]; repeat (first | with_reducible exact .head _ | refine .tail _ ?_))) (List.mem_append_left _ (by rw [hexl]; repeat (first | with_reducible exact .head _ | refine .tail _ ?_)))
            have kV : KeptV w.params (exl ++ rest) (.ref en) :=
              KeptV.of (u := wd.cps.toList) (wl := Dw) (wvs := dvs) (k1 := 0) (k2 := 0) hwd hu5 (Nat.le_trans hwL (Nat.le_trans (Nat.succ_le_succ hwl) (by decide))) (List.mem_append_left _ (by rw [hexl]; exact .head _)) (List.mem_append_left _ (by rw [hexl]; exact .tail _ (.head _))) kA kB
            have kAll : ∀ v ∈ kvs ++ [.ref en], KeptV w.params (exl ++ rest) v := fun v hv => by
              rcases List.mem_append.mp hv with hv | hv
              · exact (hkv v hv).more fun p hp => List.mem_append_right _ hp
              · rw [List.mem_singleton.mp hv]; exact kV
            w_strict k_steps
            refine Halt.mk ?_
            w_strict k_steps
            rename Fr _ _ _ _ => F9
            rw [hrem] at N8
            have N9 : News s₁.heap L h7 (own ++ (((lk, listOf (List.toArray (kvs ++ [Value.ref en])) (nk + 1)) :: (exl ++ rest)) ++ [(lw, listOf #[.str fst tz, .str snd ts, .str thd tt, .str fo t4, .str fi t5] 0), (Db, listOf bs.toArray 0), (Du, listOf us.toArray 0), (l, listOf cvs.toArray n), (L + 1, o2)])) := news_pick N8 fun p hp => pick9 hp
            refine hQ5 _ _ ⟨_, _, _, (lk, listOf (List.toArray (kvs ++ [Value.ref en])) (nk + 1)) :: (exl ++ rest), rfl, F9, N9, fun p hp q hq => ?_, ⟨⟨rfl, rfl, rfl, rfl⟩, _, _, _, rfl, by rw [List.length_append, hkl]; rfl, fun p hp => ?_, kAll⟩⟩
            · rcases List.mem_cons.mp hp with rfl | hp
              · exact hex _ (.head _) q hq
              rcases List.mem_append.mp hp with hp | hp
              · have e1 := hmin p hp
                have e2 := hrlt q (by rw [hrem]; exact List.mem_append_left _ hq)
                exact Nat.ne_of_gt (Nat.lt_of_lt_of_le e2 e1)
              · exact hex _ (.tail _ hp) q hq
            · rcases List.mem_append.mp hp with hp | hp
              · exact Nat.ne_of_gt (Nat.lt_of_lt_of_le b10 (hmin p hp))
              · exact hkr p hp
          · exact hpass
        case kf =>
          rintro h₆ tk₆ m₆ ex htk₆ ⟨_, kvs, nk, rest, rfl, hkl, hkr, hkv⟩ F₆ N₆
          rename MapJ _ _ _ _ _ _ => hmap
          obtain ⟨hm1, _, _, _⟩ := hmap
          dsimp only
          refine LoTo.intro ?_
          intro hp10
          dsimp only at hp10 ⊢
          have F₇ : Fr s₁.heap L h₆ m₆ := F₆
          have N₇ : News s₁.heap L h₆ ((lk, listOf (List.toArray kvs) nk) :: (rest ++ [(lw, listOf #[.str fst tz, .str snd ts, .str thd tt, .str fo t4, .str fi t5] 0), (Db, listOf bs.toArray 0), (Du, listOf us.toArray 0), (l, listOf cvs.toArray n), (L + 1, o2)])) := N₆
          rw [put_eq hm1] at F₇
          obtain ⟨led, hled, N₈⟩ := with_led N₇
          have hk2 : ∀ v ∈ kvs, KeptV w.params led v := fun v hv => (hkv v hv).more fun p hp => by rw [hled]; exact .tail _ (List.mem_append_left _ hp)
          have hlkm : (lk, listOf (List.toArray kvs) nk) ∈ led := by rw [hled]; exact .head _
          clear F₆ N₆ N₇
          refine Halt.mk (cons_halt ?_)
          refine For_halt ?_
          w_strict k_steps
          refine Halt.mk (list_pos (lo := 1) (ex₀ := []) (news := led) rfl (fun v hv => GoFree.name) hlkm F₇ N₈ hp10 (fun i m ex => m (Str.ofString "kept") = some (.ref lk) ∧ ex = []) ⟨rfl, rfl⟩ ?_ ?_ hpass)
          · rintro i2 v2 m2 ex2 h2 tk2 own2 hi2 hv2 (htk2 : Past 1 tk2) hown hJ2 F₁ N₁
            refine Classical.byContradiction fun hG => ?_
            obtain ⟨hk1', rfl⟩ := hJ2
            have F₂ : Fr s₁.heap L h2 m2 := F₁
            have N₂ : News s₁.heap L h2 (own2 :: led) := N₁
            rw [put_eq hk1'] at F₂
            clear F₁ N₁ N₈ F₇
            have hv2m : v2 ∈ kvs := List.mem_of_getElem? (by rw [← List.getElem?_toArray]; exact hv2)
            refine KeptV.elim (hk2 v2 hv2m) fun u1 e1 ya1 yb1 wl1 ke1 kw1 wvs1 hE1 hu1 hw1 hwl1 me1 mw1 hLA1 hLB1 => ?_
            refine LeadAt.elim hLA1 fun dx1 tc1 tN1 X1 tX1 n1 nt1 tb1 tn1 tt1 j1 j2 j3 j4 j5 bs1 vs1 hI1 mA1 mA2 mA3 mA4 => ?_
            refine LeadAt.elim hLB1 fun dx1b tc1b tN1b X1b tX1b n1b nt1b tb1b tn1b tt1b j1b j2b j3b j4b j5b bs1b vs1b hI1b mB1 mB2 mB3 mB4 => ?_
            subst hE1
            clear hLA1 hLB1
            refine hG ?_
            clear hG
            w_strict k_steps
            refine Halt.mk (gen_post fun Q2 hQ2 => cons_halt ?_)
            refine For_halt ?_
            w_strict k_steps
            rename Fr _ _ _ _ => F₃
            rename News _ _ _ _ => N₃
            refine Halt.mk (list_pos (lo := 1) (ex₀ := []) (news := own2 :: led) rfl (fun v hv => GoFree.name) (.tail _ hlkm) F₃ N₃ (by have h : 1 ≤ tk2 := htk2; dsimp only; omega) (fun i m ex => (m (Str.ofString "kept") = some (.ref lk) ∧ m (Str.ofString "one") = some (.ref e1)) ∧ ex = []) ⟨⟨rfl, rfl⟩, rfl⟩ ?_ ?_ hpass)
            · rintro i3 v3 m3 ex3 h3 tk3 own3 hi3 hv3 htk3 hown3 hJ3 F₁ N₁
              refine Classical.byContradiction fun hG => ?_
              obtain ⟨⟨hk1'', hk2''⟩, rfl⟩ := hJ3
              have F₄ : Fr s₁.heap L h3 m3 := F₁
              have N₄ : News s₁.heap L h3 (own3 :: (own2 :: led)) := N₁
              rw [put_eq hk1'', put_eq hk2''] at F₄
              clear F₁ N₁ N₃ F₃
              have hv3m : v3 ∈ kvs := List.mem_of_getElem? (by rw [← List.getElem?_toArray]; exact hv3)
              refine KeptV.elim (hk2 v3 hv3m) fun u2 e2 ya2 yb2 wl2 ke2 kw2 wvs2 hE2 hu2 hw2 hwl2 me2 mw2 hLA2 hLB2 => ?_
              refine LeadAt.elim hLA2 fun dx2 tc2 tN2 X2 tX2 n2 nt2 tb2 tn2 tt2 i1 i2 i3 i4 i5 bs2 vs2 hI2 nA1 nA2 nA3 nA4 => ?_
              refine LeadAt.elim hLB2 fun dx2b tc2b tN2b X2b tX2b n2b nt2b tb2b tn2b tt2b i1b i2b i3b i4b i5b bs2b vs2b hI2b nB1 nB2 nB3 nB4 => ?_
              subst hE2
              clear hLA2 hLB2
              refine hG ?_
              clear hG
              have N₅ : News s₁.heap L h3 ((e1, listOf #[.ref ya1, .ref yb1, .ref wl1] ke1) :: (e2, listOf #[.ref ya2, .ref yb2, .ref wl2] ke2) :: (wl1, listOf wvs1.toArray kw1) :: (wl2, listOf wvs2.toArray kw2) :: (ya1, instObj 83 dx1) :: (dx1, wsDict w.params X1 tX1 n1 nt1 tn1 tt1 tN1 bs1 j1 j2 j3 j4 j5) :: (yb1, instObj 83 dx1b) :: (dx1b, wsDict w.params X1b tX1b n1b nt1b tn1b tt1b tN1b bs1b j1b j2b j3b j4b j5b) :: (own3 :: (own2 :: led))) := by
                have go : ∀ q ∈ led, h3.get? q.1 = some q.2 ∧ q.1 ≠ L ∧ s₁.heap.get? q.1 = none := fun q hq => N₄ q (.tail _ (.tail _ hq))
                exact news_cons (go _ me1) (news_cons (go _ me2) (news_cons (go _ mw1) (news_cons (go _ mw2) (news_cons (go _ mA3) (news_cons (go _ mA4) (news_cons (go _ mB3) (news_cons (go _ mB4) N₄)))))))
              clear N₄
              w_strict k_steps
              refine Halt.mk (gen_post fun Q3 hQ3 => cons_halt ?_)
              w_strict k_steps
              rename News _ _ _ _ => N6
              refine Halt.mk (ke_eq_ints (News.isList N6 (.tail _ (.tail _ (.head _)))) (News.isList N6 (.tail _ (.tail _ (.tail _ (.head _))))) hw1 hw2 (by ktr_units) ?_)
              obtain ⟨same, hsame⟩ : ∃ b : Bool, b = decide (((u1.count 116 : Nat) : Int) :: (waysF u1).1 = ((u2.count 116 : Nat) : Int) :: (waysF u2).1) := ⟨_, rfl⟩
              rw [← hsame]
              have hT : decide ((normF (leadT u1)).1 = (normF (leadT u2)).1 ∧ (normF (leadT u1)).2 = (normF (leadT u2)).2) = same := by
                rw [hsame]; exact decide_eq_decide.mpr ((deed_T hu1 hu2).trans same_deed.symm)
              have hS : decide ((normF (leadS u1)).1 = (normF (leadS u2)).1 ∧ (normF (leadS u1)).2 = (normF (leadS u2)).2) = same := by
                rw [hsame]; exact decide_eq_decide.mpr ((deed_S hu1 hu2).trans same_deed.symm)
              w_strict k_steps
              refine Halt.mk (cons_halt ?_)
              w_strict k_steps
              have m8A : ∀ p ∈ [(tN1, tupO [.ref tc1, .int ((normF (leadT u1)).2 : Nat) tb1]), (tc1, tupO vs1), (ya1, instObj 83 dx1), (dx1, wsDict w.params X1 tX1 n1 nt1 tn1 tt1 tN1 bs1 j1 j2 j3 j4 j5), (tN2, tupO [.ref tc2, .int ((normF (leadT u2)).2 : Nat) tb2]), (tc2, tupO vs2), (ya2, instObj 83 dx2), (dx2, wsDict w.params X2 tX2 n2 nt2 tn2 tt2 tN2 bs2 i1 i2 i3 i4 i5)], p ∈ led := sub8 mA1 mA2 mA3 mA4 nA1 nA2 nA3 nA4
              have m8B : ∀ p ∈ [(tN1b, tupO [.ref tc1b, .int ((normF (leadS u1)).2 : Nat) tb1b]), (tc1b, tupO vs1b), (yb1, instObj 83 dx1b), (dx1b, wsDict w.params X1b tX1b n1b nt1b tn1b tt1b tN1b bs1b j1b j2b j3b j4b j5b), (tN2b, tupO [.ref tc2b, .int ((normF (leadS u2)).2 : Nat) tb2b]), (tc2b, tupO vs2b), (yb2, instObj 83 dx2b), (dx2b, wsDict w.params X2b tX2b n2b nt2b tn2b tt2b tN2b bs2b i1b i2b i3b i4b i5b)], p ∈ led := sub8 mB1 mB2 mB3 mB4 nB1 nB2 nB3 nB4
              refine Halt.mk ?_
              refine' lc_use (lcx (equal_ok w ya1 dx1 tc1 tN1 ya2 dx2 tc2 tN2 X1 X2 tX1 tX2 n1 nt1 n2 nt2 tn1 tt1 tn2 tt2 tb1 tb2 (normF (leadT u1)).2 (normF (leadT u2)).2 bs1 bs2 j1 j2 j3 j4 j5 i1 i2 i3 i4 i5 vs1 vs2 (normF (leadT u1)).1 (normF (leadT u2)).1 hI1 hI2)) ?k1 ?k2 ?k3 ?k4 ?hl ?k5 ?kK ?kd ?ku ?kp ?kb ?_
              case k1 => k_asm
              case k2 => k_asm
              case k3 => k_asm
              case k4 => k_asm
              case hl => exact fun p hp => .tail _ (.tail _ (.tail _ (.tail _ (.tail _ (.tail _ (.tail _ (.tail _ (.tail _ (.tail _ (m8A p hp))))))))))
              case k5 => k_asm
              case kK => exact rfl
              case kd => ktr_room
              case ku => ktr_units
              case kp => exact Nat.zero_le _
              case kb => first | assumption | exact B1At.keep (by assumption) (Fr.keep (by assumption))
              k_whole
              intro v31 h31 tk31 F31 P31 ht31 hs31
              refine Classical.byContradiction fun hG => ?_
              obtain ⟨rfl, N31⟩ := P31
              refine hG ?_
              clear hG
              have N31' : News s₁.heap L h31 _ := fun p hp => N31 p (List.mem_append_right _ hp)
              clear N31
              rw [hT]
              w_strict k_steps
              · rename ((_ != _) = true) => hbad
                simp at hbad
              refine Halt.mk ?_
              refine' lc_use (lcx (equal_ok w yb1 dx1b tc1b tN1b yb2 dx2b tc2b tN2b X1b X2b tX1b tX2b n1b nt1b n2b nt2b tn1b tt1b tn2b tt2b tb1b tb2b (normF (leadS u1)).2 (normF (leadS u2)).2 bs1b bs2b j1b j2b j3b j4b j5b i1b i2b i3b i4b i5b vs1b vs2b (normF (leadS u1)).1 (normF (leadS u2)).1 hI1b hI2b)) ?k1 ?k2 ?k3 ?k4 ?hl ?k5 ?kK ?kd ?ku ?kp ?kb ?_
              case k1 => k_asm
              case k2 => k_asm
              case k3 => k_asm
              case k4 => k_asm
              case hl => exact fun p hp => .tail _ (.tail _ (.tail _ (.tail _ (.tail _ (.tail _ (.tail _ (.tail _ (.tail _ (.tail _ (m8B p hp))))))))))
              case k5 => k_asm
              case kK => exact rfl
              case kd => ktr_room
              case ku => ktr_units
              case kp => exact Nat.zero_le _
              case kb => first | assumption | exact B1At.keep (by assumption) (Fr.keep (by assumption))
              k_whole
              intro v33 h33 tk33 F33 P33 ht33 hs33
              refine Classical.byContradiction fun hG => ?_
              obtain ⟨rfl, N33⟩ := P33
              refine hG ?_
              clear hG
              have N33' : News s₁.heap L h33 _ := fun p hp => N33 p (List.mem_append_right _ hp)
              clear N33
              rw [hS]
              w_strict k_steps
              dsimp only
              refine Halt.mk ?_
              w_strict k_steps
              rename News _ _ _ _ => N35
              exact hQ3 _ _ ⟨_, _, _, [], rfl, by assumption, fun p hp => N35 p (.tail _ (.tail _ (.tail _ (.tail _ (.tail _ (.tail _ (.tail _ (.tail _ hp)))))))), fun p hp => (List.not_mem_nil hp).elim, ⟨rfl, rfl⟩, rfl⟩
            · rintro h4 tk4 m4 ex4 htk4 ⟨⟨hk3', hk4'⟩, rfl⟩ F₄ N₄
              dsimp only
              refine Halt.mk ?_
              w_strict k_steps
              exact hQ2 _ _ ⟨_, _, m4, [], rfl, F₄, N₄, fun p hp => (List.not_mem_nil hp).elim, hk3', rfl⟩
          · rintro h4 tk4 m4 ex4 htk4 ⟨hk3', rfl⟩ F₄ N₄
            dsimp only
            refine Halt.mk ?_
            w_strict k_steps
            exact hfin _ _ _ _ F₄ N₄)
end Mine
end

theorem PySem.Challenge.cw_tl0043_01_holds : PySem.Challenge.rw_tl0043_01.Holds :=
  Mine.law_holds
