import PyProof.Rows.All
import Wide.All
import OpenK.AllK
import Wide.FinOn
import PySem.Challenge.RW_ta0079_01
set_option compiler.extract_closed false
open PySem PySem.W PyProof.Rows
set_option Elab.async false
namespace Mine
section
variable {tb : String → Option Builtin} {p : Program} {w : World} {n₀ : Nat} {ann : Option Value}
noncomputable def topRunT (tb : String → Option Builtin) (p : Program) (w : World) (n₀ : Nat) (ann : Option Value) : Nat → SharedT → Thread → Option SharedT
  | 0, _, _ => none
  | n + 1, s, t => match through t with
    | true => some s
    | false => match stepOk n₀ ann t with
      | false => none
      | true => match stepT (denote tb) p w s t with
        | some (s', t') => topRunT tb p w n₀ ann n s' t'
        | none => none
theorem topRunT_spec : ∀ (n : Nat) (s s' : SharedT) (t : Thread), topRunT tb p w n₀ ann n s t = some s' → topRun tb p w n₀ ann n s.abs t = some s'.abs
  | 0, _, _, _, h => by cases h
  | n + 1, s, s', t, h => by
    unfold topRunT at h
    unfold topRun
    cases ht : through t with
    | true => rw [ht] at h; cases h; rfl
    | false =>
      rw [ht] at h
      cases hk : stepOk n₀ ann t with
      | false => rw [hk] at h; cases h
      | true =>
        rw [hk] at h
        cases hs : stepT (denote tb) p w s t with
        | none => rw [hs] at h; cases h
        | some r =>
          obtain ⟨s₂, t₂⟩ := r
          rw [hs] at h
          have := stepT_spec hs
          simp only [this]
          exact topRunT_spec n s₂ s' t₂ h
end
noncomputable def buildT : List Obj → BT → Nat → Option (BT × Nat)
  | [], t, n => some (t, n)
  | o :: r, t, n => match ((t.ins n o).get n).isSome with
    | true => buildT r (t.ins n o) (n + 1)
    | false => none
theorem buildT_spec (life : Life) : ∀ (l : List Obj) (t : BT) (n : Nat) (t' : BT) (n' : Nat), buildT l t n = some (t', n') → (absHeap t' n' life).objs = (absHeap t n life).objs ++ l.toArray
  | [], t, n, t', n', h => by cases h; simp
  | o :: r, t, n, t', n', h => by
    unfold buildT at h
    cases g : ((t.ins n o).get n).isSome with
    | false => rw [g] at h; cases h
    | true =>
      rw [g] at h
      rw [buildT_spec life r _ _ _ _ h, absHeap_ins g]
      show (absHeap t n life).objs.push o ++ r.toArray = _
      simp
noncomputable def toT (s : Shared) : Option SharedT := match buildT s.heap.objs.toList .nil 0 with
  | some (t, n) => some ⟨t, n, s.heap.life, s.gens, s.drawn, s.toks, s.os⟩
  | none => none
theorem toT_spec {s : Shared} {S : SharedT} (h : toT s = some S) : S.abs = s := by
  unfold toT at h
  split at h
  · rename_i t n hb
    cases h
    have := buildT_spec s.heap.life _ _ _ _ _ hb
    have e0 : (absHeap .nil 0 s.heap.life).objs = #[] := by simp [absHeap, BT.list]
    rw [e0] at this
    obtain ⟨⟨objs, life⟩, gens, drawn, toks, os⟩ := s
    show Shared.mk _ _ _ _ _ = _
    have e2 : absHeap t n life = ⟨objs, life⟩ := by
      show Heap.mk _ _ = Heap.mk _ _
      refine congrArg (Heap.mk · life) ?_
      exact this.trans (by simp)
    simp only [e2]
  · cases h
noncomputable def chk {α : Type} (p q : Program) (loose : List Str) (Xt : Shared → Bool) (Yf : Shared → α) (N : Nat) (w : World) :=
  (fencedOpening treeTable p w N).bind fun s₀ => match s₀.heap.isNs mainGlobals && s₀.gens.size == 0 with
    | false => none
    | true => (toT s₀).bind fun S₀ => (topRunT treeTable p w s₀.heap.objs.size (s₀.heap.nsMap mainGlobals "__annotations__") N S₀ (topStub p)).bind fun S₁ =>
      match staticsOk (importedModules p.main.body) s₀.heap S₁.abs.heap && namesBound p S₁.abs.heap && gensDone S₁.abs && laidKept s₀.heap S₁.abs.heap with
      | true => some (openSeen q loose (importedModules p.main.body) Xt true S₁.abs, Yf S₁.abs)
      | false => none
theorem left_of_chk {α : Type} {p q : Program} {loose : List Str} {Xt : Shared → Bool} {Yf : Shared → α} {Ya : World → α} {N : Nat} (w : World)
    (h : chk p q loose Xt Yf N w = some (openGood q loose, Ya w)) : (openEnds treeTable p w N).map (fun s => (openSeen q loose (importedModules p.main.body) Xt true s, Yf s)) = some (openGood q loose, Ya w) := by
  unfold chk at h
  obtain ⟨s₀, h0, h⟩ := Option.bind_eq_some_iff.mp h
  unfold openEnds
  rw [h0]
  show (topFrom treeTable p w N s₀).map _ = _
  unfold topFrom
  cases hg : s₀.heap.isNs mainGlobals && s₀.gens.size == 0 with
  | false => rw [hg] at h; cases h
  | true =>
    rw [hg] at h
    dsimp only at h ⊢
    obtain ⟨S₀, h1, h⟩ := Option.bind_eq_some_iff.mp h
    obtain ⟨S₁, h2, h⟩ := Option.bind_eq_some_iff.mp h
    have r := topRunT_spec _ _ _ _ h2
    rw [toT_spec h1] at r
    rw [r]
    show Option.map _ (match staticsOk (importedModules p.main.body) s₀.heap S₁.abs.heap && namesBound p S₁.abs.heap && gensDone S₁.abs && laidKept s₀.heap S₁.abs.heap with | true => some S₁.abs | false => none) = _
    cases hs : staticsOk (importedModules p.main.body) s₀.heap S₁.abs.heap && namesBound p S₁.abs.heap && gensDone S₁.abs && laidKept s₀.heap S₁.abs.heap with
    | false => rw [hs] at h; cases h
    | true => rw [hs] at h; exact h
set_option maxRecDepth 100000
set_option maxHeartbeats 4000000
noncomputable def s0 : Stmt := by
  refine (?f : (s : Stmt) → (PySem.Challenge.pw_ta0079_01.main.body.getD 0 (.Pass default) = s) → Stmt) ?s ?h
  case f => exact fun s _ => s
  case h => conv => lhs; reduce
noncomputable def s1 : Stmt := by
  refine (?f : (s : Stmt) → (PySem.Challenge.pw_ta0079_01.main.body.getD 1 (.Pass default) = s) → Stmt) ?s ?h
  case f => exact fun s _ => s
  case h => conv => lhs; reduce
noncomputable def s2 : Stmt := by
  refine (?f : (s : Stmt) → (PySem.Challenge.pw_ta0079_01.main.body.getD 2 (.Pass default) = s) → Stmt) ?s ?h
  case f => exact fun s _ => s
  case h => conv => lhs; reduce
noncomputable def s3 : Stmt := by
  refine (?f : (s : Stmt) → (PySem.Challenge.pw_ta0079_01.main.body.getD 3 (.Pass default) = s) → Stmt) ?s ?h
  case f => exact fun s _ => s
  case h => conv => lhs; reduce
noncomputable def s4 : Stmt := by
  refine (?f : (s : Stmt) → (PySem.Challenge.pw_ta0079_01.main.body.getD 4 (.Pass default) = s) → Stmt) ?s ?h
  case f => exact fun s _ => s
  case h => conv => lhs; reduce
noncomputable def s5 : Stmt := by
  refine (?f : (s : Stmt) → (PySem.Challenge.pw_ta0079_01.main.body.getD 5 (.Pass default) = s) → Stmt) ?s ?h
  case f => exact fun s _ => s
  case h => conv => lhs; reduce
noncomputable def s6 : Stmt := by
  refine (?f : (s : Stmt) → (PySem.Challenge.pw_ta0079_01.main.body.getD 6 (.Pass default) = s) → Stmt) ?s ?h
  case f => exact fun s _ => s
  case h => conv => lhs; reduce
noncomputable def s7 : Stmt := by
  refine (?f : (s : Stmt) → (PySem.Challenge.pw_ta0079_01.main.body.getD 7 (.Pass default) = s) → Stmt) ?s ?h
  case f => exact fun s _ => s
  case h => conv => lhs; reduce
noncomputable def s8 : Stmt := by
  refine (?f : (s : Stmt) → (PySem.Challenge.pw_ta0079_01.main.body.getD 8 (.Pass default) = s) → Stmt) ?s ?h
  case f => exact fun s _ => s
  case h => conv => lhs; reduce
noncomputable def s9 : Stmt := by
  refine (?f : (s : Stmt) → (PySem.Challenge.pw_ta0079_01.main.body.getD 9 (.Pass default) = s) → Stmt) ?s ?h
  case f => exact fun s _ => s
  case h => conv => lhs; reduce
noncomputable def s10 : Stmt := by
  refine (?f : (s : Stmt) → (PySem.Challenge.pw_ta0079_01.main.body.getD 10 (.Pass default) = s) → Stmt) ?s ?h
  case f => exact fun s _ => s
  case h => conv => lhs; reduce
noncomputable def s11 : Stmt := by
  refine (?f : (s : Stmt) → (PySem.Challenge.pw_ta0079_01.main.body.getD 11 (.Pass default) = s) → Stmt) ?s ?h
  case f => exact fun s _ => s
  case h => conv => lhs; reduce
noncomputable def s12 : Stmt := by
  refine (?f : (s : Stmt) → (PySem.Challenge.pw_ta0079_01.main.body.getD 12 (.Pass default) = s) → Stmt) ?s ?h
  case f => exact fun s _ => s
  case h => conv => lhs; reduce
noncomputable def s13 : Stmt := by
  refine (?f : (s : Stmt) → (PySem.Challenge.pw_ta0079_01.main.body.getD 13 (.Pass default) = s) → Stmt) ?s ?h
  case f => exact fun s _ => s
  case h => conv => lhs; reduce
noncomputable def s14 : Stmt := by
  refine (?f : (s : Stmt) → (PySem.Challenge.pw_ta0079_01.main.body.getD 14 (.Pass default) = s) → Stmt) ?s ?h
  case f => exact fun s _ => s
  case h => conv => lhs; reduce
noncomputable def s15 : Stmt := by
  refine (?f : (s : Stmt) → (PySem.Challenge.pw_ta0079_01.main.body.getD 15 (.Pass default) = s) → Stmt) ?s ?h
  case f => exact fun s _ => s
  case h => conv => lhs; reduce
noncomputable def s16 : Stmt := by
  refine (?f : (s : Stmt) → (PySem.Challenge.pw_ta0079_01.main.body.getD 16 (.Pass default) = s) → Stmt) ?s ?h
  case f => exact fun s _ => s
  case h => conv => lhs; reduce
noncomputable def s17 : Stmt := by
  refine (?f : (s : Stmt) → (PySem.Challenge.pw_ta0079_01.main.body.getD 17 (.Pass default) = s) → Stmt) ?s ?h
  case f => exact fun s _ => s
  case h => conv => lhs; reduce
noncomputable def s18 : Stmt := by
  refine (?f : (s : Stmt) → (PySem.Challenge.pw_ta0079_01.main.body.getD 18 (.Pass default) = s) → Stmt) ?s ?h
  case f => exact fun s _ => s
  case h => conv => lhs; reduce
noncomputable def s19 : Stmt := by
  refine (?f : (s : Stmt) → (PySem.Challenge.pw_ta0079_01.main.body.getD 19 (.Pass default) = s) → Stmt) ?s ?h
  case f => exact fun s _ => s
  case h => conv => lhs; reduce
noncomputable def s20 : Stmt := by
  refine (?f : (s : Stmt) → (PySem.Challenge.pw_ta0079_01.main.body.getD 20 (.Pass default) = s) → Stmt) ?s ?h
  case f => exact fun s _ => s
  case h => conv => lhs; reduce
noncomputable def s21 : Stmt := by
  refine (?f : (s : Stmt) → (PySem.Challenge.pw_ta0079_01.main.body.getD 21 (.Pass default) = s) → Stmt) ?s ?h
  case f => exact fun s _ => s
  case h => conv => lhs; reduce
noncomputable def s22 : Stmt := by
  refine (?f : (s : Stmt) → (PySem.Challenge.pw_ta0079_01.main.body.getD 22 (.Pass default) = s) → Stmt) ?s ?h
  case f => exact fun s _ => s
  case h => conv => lhs; reduce
noncomputable def s23 : Stmt := by
  refine (?f : (s : Stmt) → (PySem.Challenge.pw_ta0079_01.main.body.getD 23 (.Pass default) = s) → Stmt) ?s ?h
  case f => exact fun s _ => s
  case h => conv => lhs; reduce
noncomputable def s24 : Stmt := by
  refine (?f : (s : Stmt) → (PySem.Challenge.pw_ta0079_01.main.body.getD 24 (.Pass default) = s) → Stmt) ?s ?h
  case f => exact fun s _ => s
  case h => conv => lhs; reduce
noncomputable def s25 : Stmt := by
  refine (?f : (s : Stmt) → (PySem.Challenge.pw_ta0079_01.main.body.getD 25 (.Pass default) = s) → Stmt) ?s ?h
  case f => exact fun s _ => s
  case h => conv => lhs; reduce
noncomputable def s26 : Stmt := by
  refine (?f : (s : Stmt) → (PySem.Challenge.pw_ta0079_01.main.body.getD 26 (.Pass default) = s) → Stmt) ?s ?h
  case f => exact fun s _ => s
  case h => conv => lhs; reduce
noncomputable def s27 : Stmt := by
  refine (?f : (s : Stmt) → (PySem.Challenge.pw_ta0079_01.main.body.getD 27 (.Pass default) = s) → Stmt) ?s ?h
  case f => exact fun s _ => s
  case h => conv => lhs; reduce
noncomputable def s28 : Stmt := by
  refine (?f : (s : Stmt) → (PySem.Challenge.pw_ta0079_01.main.body.getD 28 (.Pass default) = s) → Stmt) ?s ?h
  case f => exact fun s _ => s
  case h => conv => lhs; reduce
noncomputable def s29 : Stmt := by
  refine (?f : (s : Stmt) → (PySem.Challenge.pw_ta0079_01.main.body.getD 29 (.Pass default) = s) → Stmt) ?s ?h
  case f => exact fun s _ => s
  case h => conv => lhs; reduce
noncomputable def s30 : Stmt := by
  refine (?f : (s : Stmt) → (PySem.Challenge.pw_ta0079_01.main.body.getD 30 (.Pass default) = s) → Stmt) ?s ?h
  case f => exact fun s _ => s
  case h => conv => lhs; reduce
noncomputable def s31 : Stmt := by
  refine (?f : (s : Stmt) → (PySem.Challenge.pw_ta0079_01.main.body.getD 31 (.Pass default) = s) → Stmt) ?s ?h
  case f => exact fun s _ => s
  case h => conv => lhs; reduce
noncomputable def s32 : Stmt := by
  refine (?f : (s : Stmt) → (PySem.Challenge.pw_ta0079_01.main.body.getD 32 (.Pass default) = s) → Stmt) ?s ?h
  case f => exact fun s _ => s
  case h => conv => lhs; reduce
noncomputable def s33 : Stmt := by
  refine (?f : (s : Stmt) → (PySem.Challenge.pw_ta0079_01.main.body.getD 33 (.Pass default) = s) → Stmt) ?s ?h
  case f => exact fun s _ => s
  case h => conv => lhs; reduce
noncomputable def s34 : Stmt := by
  refine (?f : (s : Stmt) → (PySem.Challenge.pw_ta0079_01.main.body.getD 34 (.Pass default) = s) → Stmt) ?s ?h
  case f => exact fun s _ => s
  case h => conv => lhs; reduce
noncomputable def s35 : Stmt := by
  refine (?f : (s : Stmt) → (PySem.Challenge.pw_ta0079_01.main.body.getD 35 (.Pass default) = s) → Stmt) ?s ?h
  case f => exact fun s _ => s
  case h => conv => lhs; reduce
noncomputable def s36 : Stmt := by
  refine (?f : (s : Stmt) → (PySem.Challenge.pw_ta0079_01.main.body.getD 36 (.Pass default) = s) → Stmt) ?s ?h
  case f => exact fun s _ => s
  case h => conv => lhs; reduce
noncomputable def s37 : Stmt := by
  refine (?f : (s : Stmt) → (PySem.Challenge.pw_ta0079_01.main.body.getD 37 (.Pass default) = s) → Stmt) ?s ?h
  case f => exact fun s _ => s
  case h => conv => lhs; reduce
noncomputable def s38 : Stmt := by
  refine (?f : (s : Stmt) → (PySem.Challenge.pw_ta0079_01.main.body.getD 38 (.Pass default) = s) → Stmt) ?s ?h
  case f => exact fun s _ => s
  case h => conv => lhs; reduce
noncomputable def s39 : Stmt := by
  refine (?f : (s : Stmt) → (PySem.Challenge.pw_ta0079_01.main.body.getD 39 (.Pass default) = s) → Stmt) ?s ?h
  case f => exact fun s _ => s
  case h => conv => lhs; reduce
noncomputable def s40 : Stmt := by
  refine (?f : (s : Stmt) → (PySem.Challenge.pw_ta0079_01.main.body.getD 40 (.Pass default) = s) → Stmt) ?s ?h
  case f => exact fun s _ => s
  case h => conv => lhs; reduce
noncomputable def s41 : Stmt := by
  refine (?f : (s : Stmt) → (PySem.Challenge.pw_ta0079_01.main.body.getD 41 (.Pass default) = s) → Stmt) ?s ?h
  case f => exact fun s _ => s
  case h => conv => lhs; reduce
noncomputable def s42 : Stmt := by
  refine (?f : (s : Stmt) → (PySem.Challenge.pw_ta0079_01.main.body.getD 42 (.Pass default) = s) → Stmt) ?s ?h
  case f => exact fun s _ => s
  case h => conv => lhs; reduce
noncomputable def s43 : Stmt := by
  refine (?f : (s : Stmt) → (PySem.Challenge.pw_ta0079_01.main.body.getD 43 (.Pass default) = s) → Stmt) ?s ?h
  case f => exact fun s _ => s
  case h => conv => lhs; reduce
noncomputable def s44 : Stmt := by
  refine (?f : (s : Stmt) → (PySem.Challenge.pw_ta0079_01.main.body.getD 44 (.Pass default) = s) → Stmt) ?s ?h
  case f => exact fun s _ => s
  case h => conv => lhs; reduce
noncomputable def s45 : Stmt := by
  refine (?f : (s : Stmt) → (PySem.Challenge.pw_ta0079_01.main.body.getD 45 (.Pass default) = s) → Stmt) ?s ?h
  case f => exact fun s _ => s
  case h => conv => lhs; reduce
noncomputable def s46 : Stmt := by
  refine (?f : (s : Stmt) → (PySem.Challenge.pw_ta0079_01.main.body.getD 46 (.Pass default) = s) → Stmt) ?s ?h
  case f => exact fun s _ => s
  case h => conv => lhs; reduce
noncomputable def s47 : Stmt := by
  refine (?f : (s : Stmt) → (PySem.Challenge.pw_ta0079_01.main.body.getD 47 (.Pass default) = s) → Stmt) ?s ?h
  case f => exact fun s _ => s
  case h => conv => lhs; reduce
noncomputable def s48 : Stmt := by
  refine (?f : (s : Stmt) → (PySem.Challenge.pw_ta0079_01.main.body.getD 48 (.Pass default) = s) → Stmt) ?s ?h
  case f => exact fun s _ => s
  case h => conv => lhs; reduce
noncomputable def s49 : Stmt := by
  refine (?f : (s : Stmt) → (PySem.Challenge.pw_ta0079_01.main.body.getD 49 (.Pass default) = s) → Stmt) ?s ?h
  case f => exact fun s _ => s
  case h => conv => lhs; reduce
noncomputable def s50 : Stmt := by
  refine (?f : (s : Stmt) → (PySem.Challenge.pw_ta0079_01.main.body.getD 50 (.Pass default) = s) → Stmt) ?s ?h
  case f => exact fun s _ => s
  case h => conv => lhs; reduce
noncomputable def s51 : Stmt := by
  refine (?f : (s : Stmt) → (PySem.Challenge.pw_ta0079_01.main.body.getD 51 (.Pass default) = s) → Stmt) ?s ?h
  case f => exact fun s _ => s
  case h => conv => lhs; reduce
noncomputable def s52 : Stmt := by
  refine (?f : (s : Stmt) → (PySem.Challenge.pw_ta0079_01.main.body.getD 52 (.Pass default) = s) → Stmt) ?s ?h
  case f => exact fun s _ => s
  case h => conv => lhs; reduce
noncomputable def s53 : Stmt := by
  refine (?f : (s : Stmt) → (PySem.Challenge.pw_ta0079_01.main.body.getD 53 (.Pass default) = s) → Stmt) ?s ?h
  case f => exact fun s _ => s
  case h => conv => lhs; reduce
noncomputable def s54 : Stmt := by
  refine (?f : (s : Stmt) → (PySem.Challenge.pw_ta0079_01.main.body.getD 54 (.Pass default) = s) → Stmt) ?s ?h
  case f => exact fun s _ => s
  case h => conv => lhs; reduce
noncomputable def s55 : Stmt := by
  refine (?f : (s : Stmt) → (PySem.Challenge.pw_ta0079_01.main.body.getD 55 (.Pass default) = s) → Stmt) ?s ?h
  case f => exact fun s _ => s
  case h => conv => lhs; reduce
noncomputable def s56 : Stmt := by
  refine (?f : (s : Stmt) → (PySem.Challenge.pw_ta0079_01.main.body.getD 56 (.Pass default) = s) → Stmt) ?s ?h
  case f => exact fun s _ => s
  case h => conv => lhs; reduce
noncomputable def s57 : Stmt := by
  refine (?f : (s : Stmt) → (PySem.Challenge.pw_ta0079_01.main.body.getD 57 (.Pass default) = s) → Stmt) ?s ?h
  case f => exact fun s _ => s
  case h => conv => lhs; reduce
noncomputable def s58 : Stmt := by
  refine (?f : (s : Stmt) → (PySem.Challenge.pw_ta0079_01.main.body.getD 58 (.Pass default) = s) → Stmt) ?s ?h
  case f => exact fun s _ => s
  case h => conv => lhs; reduce
noncomputable def s59 : Stmt := by
  refine (?f : (s : Stmt) → (PySem.Challenge.pw_ta0079_01.main.body.getD 59 (.Pass default) = s) → Stmt) ?s ?h
  case f => exact fun s _ => s
  case h => conv => lhs; reduce
noncomputable def s60 : Stmt := by
  refine (?f : (s : Stmt) → (PySem.Challenge.pw_ta0079_01.main.body.getD 60 (.Pass default) = s) → Stmt) ?s ?h
  case f => exact fun s _ => s
  case h => conv => lhs; reduce
noncomputable def s61 : Stmt := by
  refine (?f : (s : Stmt) → (PySem.Challenge.pw_ta0079_01.main.body.getD 61 (.Pass default) = s) → Stmt) ?s ?h
  case f => exact fun s _ => s
  case h => conv => lhs; reduce
noncomputable def s62 : Stmt := by
  refine (?f : (s : Stmt) → (PySem.Challenge.pw_ta0079_01.main.body.getD 62 (.Pass default) = s) → Stmt) ?s ?h
  case f => exact fun s _ => s
  case h => conv => lhs; reduce
noncomputable def s63 : Stmt := by
  refine (?f : (s : Stmt) → (PySem.Challenge.pw_ta0079_01.main.body.getD 63 (.Pass default) = s) → Stmt) ?s ?h
  case f => exact fun s _ => s
  case h => conv => lhs; reduce
noncomputable def s64 : Stmt := by
  refine (?f : (s : Stmt) → (PySem.Challenge.pw_ta0079_01.main.body.getD 64 (.Pass default) = s) → Stmt) ?s ?h
  case f => exact fun s _ => s
  case h => conv => lhs; reduce
noncomputable def s65 : Stmt := by
  refine (?f : (s : Stmt) → (PySem.Challenge.pw_ta0079_01.main.body.getD 65 (.Pass default) = s) → Stmt) ?s ?h
  case f => exact fun s _ => s
  case h => conv => lhs; reduce
noncomputable def s66 : Stmt := by
  refine (?f : (s : Stmt) → (PySem.Challenge.pw_ta0079_01.main.body.getD 66 (.Pass default) = s) → Stmt) ?s ?h
  case f => exact fun s _ => s
  case h => conv => lhs; reduce
noncomputable def s67 : Stmt := by
  refine (?f : (s : Stmt) → (PySem.Challenge.pw_ta0079_01.main.body.getD 67 (.Pass default) = s) → Stmt) ?s ?h
  case f => exact fun s _ => s
  case h => conv => lhs; reduce
noncomputable def s68 : Stmt := by
  refine (?f : (s : Stmt) → (PySem.Challenge.pw_ta0079_01.main.body.getD 68 (.Pass default) = s) → Stmt) ?s ?h
  case f => exact fun s _ => s
  case h => conv => lhs; reduce
noncomputable def s69 : Stmt := by
  refine (?f : (s : Stmt) → (PySem.Challenge.pw_ta0079_01.main.body.getD 69 (.Pass default) = s) → Stmt) ?s ?h
  case f => exact fun s _ => s
  case h => conv => lhs; reduce
noncomputable def s70 : Stmt := by
  refine (?f : (s : Stmt) → (PySem.Challenge.pw_ta0079_01.main.body.getD 70 (.Pass default) = s) → Stmt) ?s ?h
  case f => exact fun s _ => s
  case h => conv => lhs; reduce
noncomputable def s71 : Stmt := by
  refine (?f : (s : Stmt) → (PySem.Challenge.pw_ta0079_01.main.body.getD 71 (.Pass default) = s) → Stmt) ?s ?h
  case f => exact fun s _ => s
  case h => conv => lhs; reduce
noncomputable def s72 : Stmt := by
  refine (?f : (s : Stmt) → (PySem.Challenge.pw_ta0079_01.main.body.getD 72 (.Pass default) = s) → Stmt) ?s ?h
  case f => exact fun s _ => s
  case h => conv => lhs; reduce
noncomputable def s73 : Stmt := by
  refine (?f : (s : Stmt) → (PySem.Challenge.pw_ta0079_01.main.body.getD 73 (.Pass default) = s) → Stmt) ?s ?h
  case f => exact fun s _ => s
  case h => conv => lhs; reduce
noncomputable def s74 : Stmt := by
  refine (?f : (s : Stmt) → (PySem.Challenge.pw_ta0079_01.main.body.getD 74 (.Pass default) = s) → Stmt) ?s ?h
  case f => exact fun s _ => s
  case h => conv => lhs; reduce
noncomputable def s75 : Stmt := by
  refine (?f : (s : Stmt) → (PySem.Challenge.pw_ta0079_01.main.body.getD 75 (.Pass default) = s) → Stmt) ?s ?h
  case f => exact fun s _ => s
  case h => conv => lhs; reduce
noncomputable def s76 : Stmt := by
  refine (?f : (s : Stmt) → (PySem.Challenge.pw_ta0079_01.main.body.getD 76 (.Pass default) = s) → Stmt) ?s ?h
  case f => exact fun s _ => s
  case h => conv => lhs; reduce
noncomputable def zNames : List (Str × NameKind) := by
  refine (?f : (s : List (Str × NameKind)) → (PySem.Challenge.pw_ta0079_01.main.scope.names = s) → List (Str × NameKind)) ?s ?h
  case f => exact fun s _ => s
  case h => conv => lhs; reduce
noncomputable def zFile : Str := by
  refine (?f : (s : Str) → (PySem.Challenge.pw_ta0079_01.main.file = s) → Str) ?s ?h
  case f => exact fun s _ => s
  case h => conv => lhs; reduce
noncomputable def zGiven : Given := by
  refine (?f : (s : Given) → (PySem.Challenge.pw_ta0079_01.given = s) → Given) ?s ?h
  case f => exact fun s _ => s
  case h => conv => lhs; reduce
noncomputable def zb0 : List Stmt := [s0, s1, s2, s3, s4, s5, s6, s7, s8, s9, s10]
noncomputable def zb1 : List Stmt := [s11, s12, s13, s14, s15, s16, s17, s18, s19, s20, s21]
noncomputable def zb2 : List Stmt := [s22, s23, s24, s25, s26, s27, s28, s29, s30, s31, s32]
noncomputable def zb3 : List Stmt := [s33, s34, s35, s36, s37, s38, s39, s40, s41, s42, s43]
noncomputable def zb4 : List Stmt := [s44, s45, s46, s47, s48, s49, s50, s51, s52, s53, s54]
noncomputable def zb5 : List Stmt := [s55, s56, s57, s58, s59, s60, s61, s62, s63, s64, s65]
noncomputable def zb6 : List Stmt := [s66, s67, s68, s69, s70, s71, s72, s73, s74, s75, s76]
noncomputable def zBody : List Stmt := zb0 ++ (zb1 ++ (zb2 ++ (zb3 ++ (zb4 ++ (zb5 ++ (zb6))))))
/-- the program, its statements told one by one -/
noncomputable def pz : Program := { main := { body := zBody, scope := { kind := .module, names := zNames, isGenerator := false, isCoroutine := false, more := [] }, futureAnnotations := false, file := zFile, more := [] }, modules := [], parses := [], absent := [], harvested := [], given := zGiven }
theorem pz_eq : PySem.Challenge.pw_ta0079_01 = pz := rfl
noncomputable def stm (i : Nat) : Stmt := PySem.Challenge.pw_ta0079_01.main.body.getD i (.Pass default)
noncomputable def cB : Stmt → List Stmt
  | .ClassDef _ _ _ b _ _ _ _ _ _ _ => b
  | _ => []
noncomputable def mth (i j : Nat) : Stmt := (cB (stm i)).getD j (.Pass default)
noncomputable def fP : Stmt → Arguments
  | .FunctionDef _ a _ _ _ _ _ _ _ _ => a
  | _ => default
noncomputable def fB : Stmt → List Stmt
  | .FunctionDef _ _ b _ _ _ _ _ _ _ => b
  | _ => []
noncomputable def fS : Stmt → Scope
  | .FunctionDef _ _ _ _ _ _ s _ _ _ => s
  | _ => default
noncomputable def o2 (P : Params) : Obj := ⟨.none, none, .dict #[⟨PyData.keyHash P "\x69mport.loaded._sre", (.str "\x69mport.loaded._sre" 183), (.bool true)⟩, ⟨PyData.keyHash P "class._frozen_importlib.BuiltinImporter", (.str "class._frozen_importlib.BuiltinImporter" 185), (.ref 14)⟩, ⟨PyData.keyHash P "watched.\x69mport", (.str "watched.\x69mport" 206), (.ref 18)⟩, ⟨PyData.keyHash P "class._frozen_importlib.ModuleSpec", (.str "class._frozen_importlib.ModuleSpec" 216), (.ref 22)⟩, ⟨PyData.keyHash P "sys.modules.booked-epoch", (.str "sys.modules.booked-epoch" 245), (.int 3 0)⟩, ⟨PyData.keyHash P "\x69mport.later-laid._sre", (.str "\x69mport.later-laid._sre" 270), (.bool true)⟩, ⟨PyData.keyHash P "watched.library", (.str "watched.library" 272), (.ref 27)⟩, ⟨PyData.keyHash P "watched.library-objects", (.str "watched.library-objects" 0), (.str "\x0c" 0)⟩, ⟨PyData.keyHash P "watched.library-deep._sre", (.str "watched.library-deep._sre" 273), (.str "\x04\x00\x00\x0b\x04\x00\x00\x0b\x04\x00\x00\x03\x04\x00\x00\x0b\x08\x04dict\x02" 0)⟩] 9, #[]⟩
noncomputable def e3_0 (P : Params) : List DictEntry := [⟨PyData.keyHash P "__name__", (.str "__name__" 165), (.str "law_ta0079_01" 824)⟩, ⟨PyData.keyHash P "__doc__", (.str "__doc__" 166), .none⟩, ⟨PyData.keyHash P "__package__", (.str "__package__" 167), .none⟩, ⟨PyData.keyHash P "__loader__", (.str "__loader__" 168), (.builtin "__main__.__loader__#opaque")⟩, ⟨PyData.keyHash P "__spec__", (.str "__spec__" 169), .none⟩, ⟨PyData.keyHash P "__annotations__", (.str "__annotations__" 170), (.ref 6)⟩, ⟨PyData.keyHash P "__builtins__", (.str "__builtins__" 171), (.ref 4)⟩, ⟨PyData.keyHash P "__file__", (.str "__file__" 173), (.str "/claim/cut.py" 172)⟩, ⟨PyData.keyHash P "__cached__", (.str "__cached__" 174), .none⟩, ⟨PyData.keyHash P "_sre", (.str "_sre" 275), (.ref 12)⟩, ⟨PyData.keyHash P "_wall", (.str "_wall" 288), (.ref 38)⟩, ⟨PyData.keyHash P "tspecials", (.str "tspecials" 324), (.ref 43)⟩]
noncomputable def e3_1 (P : Params) : List DictEntry := [⟨PyData.keyHash P "_name_disallowed_re", (.str "_name_disallowed_re" 350), (.ref 48)⟩, ⟨PyData.keyHash P "_value_disallowed_re", (.str "_value_disallowed_re" 384), (.ref 53)⟩, ⟨PyData.keyHash P "_formatparam", (.str "_formatparam" 394), (.ref 61)⟩, ⟨PyData.keyHash P "Headers", (.str "Headers" 551), (.ref 182)⟩, ⟨PyData.keyHash P "COMPILER_FLAG_NAMES", (.str "COMPILER_FLAG_NAMES" 584), (.ref 187)⟩, ⟨PyData.keyHash P "pretty_flags", (.str "pretty_flags" 594), (.ref 194)⟩, ⟨PyData.keyHash P "_parse_varint", (.str "_parse_varint" 603), (.ref 201)⟩, ⟨PyData.keyHash P "ENDMARKER", (.str "ENDMARKER" 607), (.int 0 606)⟩, ⟨PyData.keyHash P "LPAR", (.str "LPAR" 609), (.int 7 608)⟩, ⟨PyData.keyHash P "RPAR", (.str "RPAR" 611), (.int 8 610)⟩, ⟨PyData.keyHash P "LSQB", (.str "LSQB" 613), (.int 9 612)⟩, ⟨PyData.keyHash P "RSQB", (.str "RSQB" 615), (.int 10 614)⟩]
noncomputable def e3_2 (P : Params) : List DictEntry := [⟨PyData.keyHash P "COLON", (.str "COLON" 617), (.int 11 616)⟩, ⟨PyData.keyHash P "COMMA", (.str "COMMA" 619), (.int 12 618)⟩, ⟨PyData.keyHash P "SEMI", (.str "SEMI" 621), (.int 13 620)⟩, ⟨PyData.keyHash P "PLUS", (.str "PLUS" 623), (.int 14 622)⟩, ⟨PyData.keyHash P "MINUS", (.str "MINUS" 625), (.int 15 624)⟩, ⟨PyData.keyHash P "STAR", (.str "STAR" 627), (.int 16 626)⟩, ⟨PyData.keyHash P "SLASH", (.str "SLASH" 629), (.int 17 628)⟩, ⟨PyData.keyHash P "VBAR", (.str "VBAR" 631), (.int 18 630)⟩, ⟨PyData.keyHash P "AMPER", (.str "AMPER" 633), (.int 19 632)⟩, ⟨PyData.keyHash P "LESS", (.str "LESS" 635), (.int 20 634)⟩, ⟨PyData.keyHash P "GREATER", (.str "GREATER" 637), (.int 21 636)⟩, ⟨PyData.keyHash P "EQUAL", (.str "EQUAL" 639), (.int 22 638)⟩]
noncomputable def e3_3 (P : Params) : List DictEntry := [⟨PyData.keyHash P "DOT", (.str "DOT" 641), (.int 23 640)⟩, ⟨PyData.keyHash P "PERCENT", (.str "PERCENT" 643), (.int 24 642)⟩, ⟨PyData.keyHash P "LBRACE", (.str "LBRACE" 645), (.int 25 644)⟩, ⟨PyData.keyHash P "RBRACE", (.str "RBRACE" 647), (.int 26 646)⟩, ⟨PyData.keyHash P "EQEQUAL", (.str "EQEQUAL" 649), (.int 27 648)⟩, ⟨PyData.keyHash P "NOTEQUAL", (.str "NOTEQUAL" 651), (.int 28 650)⟩, ⟨PyData.keyHash P "LESSEQUAL", (.str "LESSEQUAL" 653), (.int 29 652)⟩, ⟨PyData.keyHash P "GREATEREQUAL", (.str "GREATEREQUAL" 655), (.int 30 654)⟩, ⟨PyData.keyHash P "TILDE", (.str "TILDE" 657), (.int 31 656)⟩, ⟨PyData.keyHash P "CIRCUMFLEX", (.str "CIRCUMFLEX" 659), (.int 32 658)⟩, ⟨PyData.keyHash P "LEFTSHIFT", (.str "LEFTSHIFT" 661), (.int 33 660)⟩, ⟨PyData.keyHash P "RIGHTSHIFT", (.str "RIGHTSHIFT" 663), (.int 34 662)⟩]
noncomputable def e3_4 (P : Params) : List DictEntry := [⟨PyData.keyHash P "DOUBLESTAR", (.str "DOUBLESTAR" 665), (.int 35 664)⟩, ⟨PyData.keyHash P "PLUSEQUAL", (.str "PLUSEQUAL" 667), (.int 36 666)⟩, ⟨PyData.keyHash P "MINEQUAL", (.str "MINEQUAL" 669), (.int 37 668)⟩, ⟨PyData.keyHash P "STAREQUAL", (.str "STAREQUAL" 671), (.int 38 670)⟩, ⟨PyData.keyHash P "SLASHEQUAL", (.str "SLASHEQUAL" 673), (.int 39 672)⟩, ⟨PyData.keyHash P "PERCENTEQUAL", (.str "PERCENTEQUAL" 675), (.int 40 674)⟩, ⟨PyData.keyHash P "AMPEREQUAL", (.str "AMPEREQUAL" 677), (.int 41 676)⟩, ⟨PyData.keyHash P "VBAREQUAL", (.str "VBAREQUAL" 679), (.int 42 678)⟩, ⟨PyData.keyHash P "CIRCUMFLEXEQUAL", (.str "CIRCUMFLEXEQUAL" 681), (.int 43 680)⟩, ⟨PyData.keyHash P "LEFTSHIFTEQUAL", (.str "LEFTSHIFTEQUAL" 683), (.int 44 682)⟩, ⟨PyData.keyHash P "RIGHTSHIFTEQUAL", (.str "RIGHTSHIFTEQUAL" 685), (.int 45 684)⟩, ⟨PyData.keyHash P "DOUBLESTAREQUAL", (.str "DOUBLESTAREQUAL" 687), (.int 46 686)⟩]
noncomputable def e3_5 (P : Params) : List DictEntry := [⟨PyData.keyHash P "DOUBLESLASH", (.str "DOUBLESLASH" 689), (.int 47 688)⟩, ⟨PyData.keyHash P "DOUBLESLASHEQUAL", (.str "DOUBLESLASHEQUAL" 691), (.int 48 690)⟩, ⟨PyData.keyHash P "AT", (.str "AT" 693), (.int 49 692)⟩, ⟨PyData.keyHash P "ATEQUAL", (.str "ATEQUAL" 695), (.int 50 694)⟩, ⟨PyData.keyHash P "RARROW", (.str "RARROW" 697), (.int 51 696)⟩, ⟨PyData.keyHash P "ELLIPSIS", (.str "ELLIPSIS" 699), (.int 52 698)⟩, ⟨PyData.keyHash P "COLONEQUAL", (.str "COLONEQUAL" 701), (.int 53 700)⟩, ⟨PyData.keyHash P "EXCLAMATION", (.str "EXCLAMATION" 703), (.int 54 702)⟩, ⟨PyData.keyHash P "NT_OFFSET", (.str "NT_OFFSET" 705), (.int 256 704)⟩, ⟨PyData.keyHash P "EXACT_TOKEN_TYPES", (.str "EXACT_TOKEN_TYPES" 802), (.ref 202)⟩, ⟨PyData.keyHash P "ISTERMINAL", (.str "ISTERMINAL" 809), (.ref 211)⟩, ⟨PyData.keyHash P "ISNONTERMINAL", (.str "ISNONTERMINAL" 816), (.ref 218)⟩]
noncomputable def e3_6 (P : Params) : List DictEntry := [⟨PyData.keyHash P "ISEOF", (.str "ISEOF" 823), (.ref 225)⟩, ⟨PyData.keyHash P "_law_drawn", (.str "_law_drawn" 843), (.ref 232)⟩, ⟨PyData.keyHash P "_law_read", (.str "_law_read" 849), (.ref 237)⟩, ⟨PyData.keyHash P "_law_total", (.str "_law_total" 855), (.ref 242)⟩, ⟨PyData.keyHash P "_law_name", (.str "_law_name" 862), (.ref 249)⟩, ⟨PyData.keyHash P "_law_lay", (.str "_law_lay" 868), (.ref 254)⟩, ⟨PyData.keyHash P "_law_gathered", (.str "_law_gathered" 874), (.ref 259)⟩, ⟨PyData.keyHash P "_law_eliminated", (.str "_law_eliminated" 880), (.ref 264)⟩, ⟨PyData.keyHash P "_law_chosen", (.str "_law_chosen" 886), (.ref 269)⟩, ⟨PyData.keyHash P "law", (.str "law" 892), (.ref 274)⟩]
noncomputable def o3 (P : Params) : Obj := ⟨(.type "dict"), none, .dict (List.toArray (e3_0 P ++ (e3_1 P ++ (e3_2 P ++ (e3_3 P ++ (e3_4 P ++ (e3_5 P ++ (e3_6 P)))))))) 82, #[]⟩
noncomputable def o47 (_ : Params) : Obj := ⟨(.type "tuple"), none, .seq #[(.int 14 0), (.int 10 0), (.int 4 0), (.int 1 0), (.int 1 0), (.int 22 0), (.int 0 0), (.int 31 0), (.int 16 0), (.int 127 0), (.int 0 0), (.int 13 0), (.int 7 0), (.int 22 0), (.int 0 0), (.int 31 0), (.int 16 0), (.int 127 0), (.int 0 0), (.int 1 0)] 0, #[]⟩
noncomputable def o48 (_ : Params) : Obj := ⟨(.type "re.Pattern"), none, .fields #[(.str "[\\x00-\\x1F\\x7F]" 326), (.int 32 349), (.int 0 0), .none, .none, (.ref 47), (.int 0 0)], #[]⟩
noncomputable def o52 (_ : Params) : Obj := ⟨(.type "tuple"), none, .seq #[(.int 14 0), (.int 14 0), (.int 4 0), (.int 1 0), (.int 1 0), (.int 9 0), (.int 4294966783 0), (.int 0 0), (.int 0 0), (.int 2147483648 0), (.int 0 0), (.int 0 0), (.int 0 0), (.int 0 0), (.int 0 0), (.int 13 0), (.int 11 0), (.int 9 0), (.int 4294966783 0), (.int 0 0), (.int 0 0), (.int 2147483648 0), (.int 0 0), (.int 0 0), (.int 0 0), (.int 0 0), (.int 0 0), (.int 1 0)] 0, #[]⟩
noncomputable def o53 (_ : Params) : Obj := ⟨(.type "re.Pattern"), none, .fields #[(.str "[\\x00-\\x08\\x0A-\\x1F\\x7F]" 352), (.int 32 383), (.int 0 0), .none, .none, (.ref 52), (.int 0 0)], #[]⟩
noncomputable def o69 (_ : Params) : Obj := ⟨(.type "tuple"), none, .seq #[.none] 0, #[]⟩
noncomputable def o75 (_ : Params) : Obj := ⟨(.type "code"), none, .fields #[(.str "__init__" 407), (.str "Headers.__init__" 408), (.str "/claim/cut.py" 409), (.int 20 0), (.int 2 0), (.int 0 0), (.int 0 0), (.int 3 0), (.ref 70), (.bool true), (.int 276 0), (.ref 71), .none, (.ref 72), (.ref 73), (.ref 74), (.int 414 0), (.int 20 0), (.str "/claim/cut.py" 415)], #[]⟩
noncomputable def o76 (_ : Params) : Obj := ⟨(.type "function"), none, .func ⟨"__init__", "Headers.__init__", fP (mth 7 0), .stmts (fB (mth 7 0)), fS (mth 7 0), 3, [], (.ref 69), .none, .none, (.str "cpy313.wsgiref.headers" 289), none, (.ref 75), .none, 0⟩, #[]⟩
noncomputable def o82 (_ : Params) : Obj := ⟨(.type "code"), none, .fields #[(.str "_convert_string_type" 417), (.str "Headers._convert_string_type" 418), (.str "/claim/cut.py" 419), (.int 30 0), (.int 2 0), (.int 0 0), (.int 1 0), (.int 3 0), (.ref 77), (.bool true), (.int 276 0), (.ref 78), .none, (.ref 79), (.ref 80), (.ref 81), (.int 424 0), (.int 30 0), (.str "/claim/cut.py" 425)], #[]⟩
noncomputable def o83 (_ : Params) : Obj := ⟨(.type "function"), none, .func ⟨"_convert_string_type", "Headers._convert_string_type", fP (mth 7 1), .stmts (fB (mth 7 1)), fS (mth 7 1), 3, [], .none, .none, .none, (.str "cpy313.wsgiref.headers" 289), none, (.ref 82), .none, 0⟩, #[]⟩
noncomputable def o101 (_ : Params) : Obj := ⟨(.type "code"), none, .fields #[(.str "__delitem__" 443), (.str "Headers.__delitem__" 444), (.str "/claim/cut.py" 445), (.int 45 0), (.int 2 0), (.int 0 0), (.int 0 0), (.int 3 0), (.ref 98), (.bool true), (.int 276 0), (.ref 99), .none, .none, .none, (.ref 100), (.int 446 0), (.int 45 0), (.str "/claim/cut.py" 447)], #[]⟩
noncomputable def o102 (_ : Params) : Obj := ⟨(.type "function"), none, .func ⟨"__delitem__", "Headers.__delitem__", fP (mth 7 4), .stmts (fB (mth 7 4)), fS (mth 7 4), 3, [], .none, .none, .none, (.str "cpy313.wsgiref.headers" 289), none, (.ref 101), .none, 0⟩, #[]⟩
noncomputable def o120 (_ : Params) : Obj := ⟨(.type "code"), none, .fields #[(.str "get_all" 465), (.str "Headers.get_all" 466), (.str "/claim/cut.py" 467), (.int 55 0), (.int 2 0), (.int 0 0), (.int 0 0), (.int 3 0), (.ref 117), (.bool true), (.int 276 0), (.ref 118), .none, .none, .none, (.ref 119), (.int 468 0), (.int 55 0), (.str "/claim/cut.py" 469)], #[]⟩
noncomputable def o121 (_ : Params) : Obj := ⟨(.type "function"), none, .func ⟨"get_all", "Headers.get_all", fP (mth 7 7), .stmts (fB (mth 7 7)), fS (mth 7 7), 3, [], .none, .none, .none, (.str "cpy313.wsgiref.headers" 289), none, (.ref 120), .none, 0⟩, #[]⟩
noncomputable def o145 (_ : Params) : Obj := ⟨(.type "code"), none, .fields #[(.str "items" 494), (.str "Headers.items" 495), (.str "/claim/cut.py" 496), (.int 72 0), (.int 1 0), (.int 0 0), (.int 0 0), (.int 3 0), (.ref 140), (.bool true), (.int 276 0), (.ref 141), .none, (.ref 142), (.ref 143), (.ref 144), (.int 498 0), (.int 72 0), (.str "/claim/cut.py" 499)], #[]⟩
noncomputable def o146 (_ : Params) : Obj := ⟨(.type "function"), none, .func ⟨"items", "Headers.items", fP (mth 7 11), .stmts (fB (mth 7 11)), fS (mth 7 11), 3, [], .none, .none, .none, (.str "cpy313.wsgiref.headers" 289), none, (.ref 145), .none, 0⟩, #[]⟩
noncomputable def o178 (_ : Params) : Obj := ⟨(.type "code"), none, .fields #[(.str "add_header" 530), (.str "Headers.add_header" 531), (.str "/claim/cut.py" 532), (.int 87 0), (.int 3 0), (.int 0 0), (.int 0 0), (.int 11 0), (.ref 173), (.bool true), (.int 276 0), (.ref 174), .none, (.ref 175), (.ref 176), (.ref 177), (.int 540 0), (.int 87 0), (.str "/claim/cut.py" 541)], #[]⟩
noncomputable def o179 (_ : Params) : Obj := ⟨(.type "function"), none, .func ⟨"add_header", "Headers.add_header", fP (mth 7 16), .stmts (fB (mth 7 16)), fS (mth 7 16), 3, [], .none, .none, .none, (.str "cpy313.wsgiref.headers" 289), none, (.ref 178), .none, 0⟩, #[]⟩
noncomputable def o181 (P : Params) : Obj := ⟨(.type "dict"), none, .dict #[⟨PyData.keyHash P "__module__", (.str "__module__" 402), (.str "cpy313.wsgiref.headers" 289)⟩, ⟨PyData.keyHash P "__firstlineno__", (.str "__firstlineno__" 406), (.int 18 405)⟩, ⟨PyData.keyHash P "__init__", (.str "__init__" 416), (.ref 76)⟩, ⟨PyData.keyHash P "_convert_string_type", (.str "_convert_string_type" 426), (.ref 83)⟩, ⟨PyData.keyHash P "__len__", (.str "__len__" 433), (.ref 90)⟩, ⟨PyData.keyHash P "__setitem__", (.str "__setitem__" 442), (.ref 97)⟩, ⟨PyData.keyHash P "__delitem__", (.str "__delitem__" 448), (.ref 102)⟩, ⟨PyData.keyHash P "__getitem__", (.str "__getitem__" 456), (.ref 109)⟩, ⟨PyData.keyHash P "__contains__", (.str "__contains__" 464), (.ref 116)⟩, ⟨PyData.keyHash P "get_all", (.str "get_all" 470), (.ref 121)⟩, ⟨PyData.keyHash P "get", (.str "get" 481), (.ref 129)⟩, ⟨PyData.keyHash P "keys", (.str "keys" 487), (.ref 134)⟩, ⟨PyData.keyHash P "values", (.str "values" 493), (.ref 139)⟩, ⟨PyData.keyHash P "items", (.str "items" 500), (.ref 146)⟩, ⟨PyData.keyHash P "__repr__", (.str "__repr__" 507), (.ref 153)⟩, ⟨PyData.keyHash P "__str__", (.str "__str__" 513), (.ref 158)⟩, ⟨PyData.keyHash P "__bytes__", (.str "__bytes__" 520), (.ref 165)⟩, ⟨PyData.keyHash P "setdefault", (.str "setdefault" 529), (.ref 172)⟩, ⟨PyData.keyHash P "add_header", (.str "add_header" 542), (.ref 179)⟩, ⟨PyData.keyHash P "__static_attributes__", (.str "__static_attributes__" 544), (.ref 180)⟩, ⟨PyData.keyHash P "__dict__", (.str "__dict__" 546), (.ref 183)⟩, ⟨PyData.keyHash P "__weakref__", (.str "__weakref__" 548), (.ref 184)⟩, ⟨PyData.keyHash P "__doc__", (.str "__doc__" 549), .none⟩] 4, #[]⟩
noncomputable def o182 (_ : Params) : Obj := ⟨(.type "type"), none, .cls ⟨"Headers", [(.type "object")], [(.ref 182), (.type "object")], 181, "Headers", true, [], [], false, none, false⟩, #[none, none, (some (.str "Headers" 395)), (some (.str "Headers" 403)), (some (.builtin "object.__new__")), (some (.bool true))]⟩
noncomputable def o187 (_ : Params) : Obj := ⟨(.type "dict"), none, .dict #[⟨1, (.int 1 554), (.str "OPTIMIZED" 555)⟩, ⟨2, (.int 2 556), (.str "NEWLOCALS" 557)⟩, ⟨4, (.int 4 558), (.str "VARARGS" 559)⟩, ⟨8, (.int 8 560), (.str "VARKEYWORDS" 561)⟩, ⟨16, (.int 16 562), (.str "NESTED" 563)⟩, ⟨32, (.int 32 564), (.str "GENERATOR" 565)⟩, ⟨64, (.int 64 566), (.str "NOFREE" 567)⟩, ⟨128, (.int 128 568), (.str "COROUTINE" 569)⟩, ⟨256, (.int 256 570), (.str "ITERABLE_COROUTINE" 571)⟩, ⟨512, (.int 512 572), (.str "ASYNC_GENERATOR" 573)⟩] 10, #[]⟩
noncomputable def o193 (_ : Params) : Obj := ⟨(.type "code"), none, .fields #[(.str "pretty_flags" 585), (.str "pretty_flags" 586), (.str "/claim/cut.py" 587), (.int 102 0), (.int 1 0), (.int 0 0), (.int 0 0), (.int 3 0), (.ref 188), (.bool true), (.int 276 0), (.ref 189), .none, (.ref 190), (.ref 191), (.ref 192), (.int 592 0), (.int 102 0), (.str "/claim/cut.py" 593)], #[]⟩
noncomputable def o194 (_ : Params) : Obj := ⟨(.type "function"), none, .func ⟨"pretty_flags", "pretty_flags", fP (stm 10), .stmts (fB (stm 10)), fS (stm 10), 3, [], .none, .none, .none, (.str "cpy313.dis" 552), none, (.ref 193), .none, 0⟩, #[]⟩
noncomputable def o200 (_ : Params) : Obj := ⟨(.type "code"), none, .fields #[(.str "_parse_varint" 595), (.str "_parse_varint" 596), (.str "/claim/cut.py" 597), (.int 114 0), (.int 1 0), (.int 0 0), (.int 0 0), (.int 3 0), (.ref 195), (.bool true), (.int 276 0), (.ref 196), .none, (.ref 197), (.ref 198), (.ref 199), (.int 601 0), (.int 114 0), (.str "/claim/cut.py" 602)], #[]⟩
noncomputable def o201 (_ : Params) : Obj := ⟨(.type "function"), none, .func ⟨"_parse_varint", "_parse_varint", fP (stm 11), .stmts (fB (stm 11)), fS (stm 11), 3, [], .none, .none, .none, (.str "cpy313.dis" 552), none, (.ref 200), .none, 0⟩, #[]⟩
noncomputable def e202_0 (P : Params) : List DictEntry := [⟨PyData.keyHash P "!", (.str "!" 706), (.int 54 702)⟩, ⟨PyData.keyHash P "!=", (.str "!=" 708), (.int 28 650)⟩, ⟨PyData.keyHash P "%", (.str "%" 710), (.int 24 642)⟩, ⟨PyData.keyHash P "%=", (.str "%=" 712), (.int 40 674)⟩, ⟨PyData.keyHash P "&", (.str "&" 714), (.int 19 632)⟩, ⟨PyData.keyHash P "&=", (.str "&=" 716), (.int 41 676)⟩, ⟨PyData.keyHash P "(", (.str "(" 718), (.int 7 608)⟩, ⟨PyData.keyHash P ")", (.str ")" 720), (.int 8 610)⟩, ⟨PyData.keyHash P "*", (.str "*" 722), (.int 16 626)⟩, ⟨PyData.keyHash P "**", (.str "**" 724), (.int 35 664)⟩, ⟨PyData.keyHash P "**=", (.str "**=" 726), (.int 46 686)⟩, ⟨PyData.keyHash P "*=", (.str "*=" 728), (.int 38 670)⟩]
noncomputable def e202_1 (P : Params) : List DictEntry := [⟨PyData.keyHash P "+", (.str "+" 730), (.int 14 622)⟩, ⟨PyData.keyHash P "+=", (.str "+=" 732), (.int 36 666)⟩, ⟨PyData.keyHash P ",", (.str "," 734), (.int 12 618)⟩, ⟨PyData.keyHash P "-", (.str "-" 736), (.int 15 624)⟩, ⟨PyData.keyHash P "-=", (.str "-=" 738), (.int 37 668)⟩, ⟨PyData.keyHash P "->", (.str "->" 740), (.int 51 696)⟩, ⟨PyData.keyHash P ".", (.str "." 742), (.int 23 640)⟩, ⟨PyData.keyHash P "...", (.str "..." 744), (.int 52 698)⟩, ⟨PyData.keyHash P "/", (.str "/" 746), (.int 17 628)⟩, ⟨PyData.keyHash P "//", (.str "//" 748), (.int 47 688)⟩, ⟨PyData.keyHash P "//=", (.str "//=" 750), (.int 48 690)⟩, ⟨PyData.keyHash P "/=", (.str "/=" 752), (.int 39 672)⟩]
noncomputable def e202_2 (P : Params) : List DictEntry := [⟨PyData.keyHash P ":", (.str ":" 754), (.int 11 616)⟩, ⟨PyData.keyHash P ":=", (.str ":=" 756), (.int 53 700)⟩, ⟨PyData.keyHash P ";", (.str ";" 758), (.int 13 620)⟩, ⟨PyData.keyHash P "<", (.str "<" 760), (.int 20 634)⟩, ⟨PyData.keyHash P "<<", (.str "<<" 762), (.int 33 660)⟩, ⟨PyData.keyHash P "<<=", (.str "<<=" 764), (.int 44 682)⟩, ⟨PyData.keyHash P "<=", (.str "<=" 766), (.int 29 652)⟩, ⟨PyData.keyHash P "=", (.str "=" 768), (.int 22 638)⟩, ⟨PyData.keyHash P "==", (.str "==" 770), (.int 27 648)⟩, ⟨PyData.keyHash P ">", (.str ">" 772), (.int 21 636)⟩, ⟨PyData.keyHash P ">=", (.str ">=" 774), (.int 30 654)⟩, ⟨PyData.keyHash P ">>", (.str ">>" 775), (.int 34 662)⟩]
noncomputable def e202_3 (P : Params) : List DictEntry := [⟨PyData.keyHash P ">>=", (.str ">>=" 776), (.int 45 684)⟩, ⟨PyData.keyHash P "@", (.str "@" 777), (.int 49 692)⟩, ⟨PyData.keyHash P "@=", (.str "@=" 778), (.int 50 694)⟩, ⟨PyData.keyHash P "[", (.str "[" 779), (.int 9 612)⟩, ⟨PyData.keyHash P "]", (.str "]" 780), (.int 10 614)⟩, ⟨PyData.keyHash P "^", (.str "^" 781), (.int 32 658)⟩, ⟨PyData.keyHash P "^=", (.str "^=" 782), (.int 43 680)⟩, ⟨PyData.keyHash P "{", (.str "{" 783), (.int 25 644)⟩, ⟨PyData.keyHash P "|", (.str "|" 784), (.int 18 630)⟩, ⟨PyData.keyHash P "|=", (.str "|=" 785), (.int 42 678)⟩, ⟨PyData.keyHash P "}", (.str "}" 786), (.int 26 646)⟩, ⟨PyData.keyHash P "~", (.str "~" 787), (.int 31 656)⟩]
noncomputable def o202 (P : Params) : Obj := ⟨(.type "dict"), none, .dict (List.toArray (e202_0 P ++ (e202_1 P ++ (e202_2 P ++ (e202_3 P))))) 48, #[]⟩
noncomputable def o210 (_ : Params) : Obj := ⟨(.type "code"), none, .fields #[(.str "ISTERMINAL" 803), (.str "ISTERMINAL" 804), (.str "/claim/cut.py" 805), (.int 174 0), (.int 1 0), (.int 0 0), (.int 0 0), (.int 3 0), (.ref 205), (.bool true), (.int 276 0), (.ref 206), .none, (.ref 207), (.ref 208), (.ref 209), (.int 807 0), (.int 174 0), (.str "/claim/cut.py" 808)], #[]⟩
noncomputable def o211 (_ : Params) : Obj := ⟨(.type "function"), none, .func ⟨"ISTERMINAL", "ISTERMINAL", fP (stm 64), .stmts (fB (stm 64)), fS (stm 64), 3, [], .none, .none, .none, (.str "cpy313.token" 604), none, (.ref 210), .none, 0⟩, #[]⟩
noncomputable def o217 (_ : Params) : Obj := ⟨(.type "code"), none, .fields #[(.str "ISNONTERMINAL" 810), (.str "ISNONTERMINAL" 811), (.str "/claim/cut.py" 812), (.int 176 0), (.int 1 0), (.int 0 0), (.int 0 0), (.int 3 0), (.ref 212), (.bool true), (.int 276 0), (.ref 213), .none, (.ref 214), (.ref 215), (.ref 216), (.int 814 0), (.int 176 0), (.str "/claim/cut.py" 815)], #[]⟩
noncomputable def o218 (_ : Params) : Obj := ⟨(.type "function"), none, .func ⟨"ISNONTERMINAL", "ISNONTERMINAL", fP (stm 65), .stmts (fB (stm 65)), fS (stm 65), 3, [], .none, .none, .none, (.str "cpy313.token" 604), none, (.ref 217), .none, 0⟩, #[]⟩
noncomputable def o224 (_ : Params) : Obj := ⟨(.type "code"), none, .fields #[(.str "ISEOF" 817), (.str "ISEOF" 818), (.str "/claim/cut.py" 819), (.int 178 0), (.int 1 0), (.int 0 0), (.int 0 0), (.int 3 0), (.ref 219), (.bool true), (.int 276 0), (.ref 220), .none, (.ref 221), (.ref 222), (.ref 223), (.int 821 0), (.int 178 0), (.str "/claim/cut.py" 822)], #[]⟩
noncomputable def o225 (_ : Params) : Obj := ⟨(.type "function"), none, .func ⟨"ISEOF", "ISEOF", fP (stm 66), .stmts (fB (stm 66)), fS (stm 66), 3, [], .none, .none, .none, (.str "cpy313.token" 604), none, (.ref 224), .none, 0⟩, #[]⟩
noncomputable def o231 (_ : Params) : Obj := ⟨(.type "code"), none, .fields #[(.str "_law_drawn" 826), (.str "_law_drawn" 827), (.str "/claim/cut.py" 828), (.int 181 0), (.int 1 0), (.int 0 0), (.int 0 0), (.int 3 0), (.ref 226), (.bool true), (.int 276 0), (.ref 227), .none, (.ref 228), (.ref 229), (.ref 230), (.int 841 0), (.int 181 0), (.str "/claim/cut.py" 842)], #[]⟩
noncomputable def o232 (_ : Params) : Obj := ⟨(.type "function"), none, .func ⟨"_law_drawn", "_law_drawn", fP (stm 68), .stmts (fB (stm 68)), fS (stm 68), 3, [], .none, .none, .none, (.str "law_ta0079_01" 824), none, (.ref 231), .none, 0⟩, #[]⟩
noncomputable def o236 (_ : Params) : Obj := ⟨(.type "code"), none, .fields #[(.str "_law_read" 844), (.str "_law_read" 845), (.str "/claim/cut.py" 846), (.int 193 0), (.int 1 0), (.int 0 0), (.int 0 0), (.int 3 0), (.ref 233), (.bool true), (.int 276 0), (.ref 234), .none, .none, .none, (.ref 235), (.int 847 0), (.int 193 0), (.str "/claim/cut.py" 848)], #[]⟩
noncomputable def o237 (_ : Params) : Obj := ⟨(.type "function"), none, .func ⟨"_law_read", "_law_read", fP (stm 69), .stmts (fB (stm 69)), fS (stm 69), 3, [], .none, .none, .none, (.str "law_ta0079_01" 824), none, (.ref 236), .none, 0⟩, #[]⟩
noncomputable def o241 (_ : Params) : Obj := ⟨(.type "code"), none, .fields #[(.str "_law_total" 850), (.str "_law_total" 851), (.str "/claim/cut.py" 852), (.int 216 0), (.int 2 0), (.int 0 0), (.int 0 0), (.int 3 0), (.ref 238), (.bool true), (.int 276 0), (.ref 239), .none, .none, .none, (.ref 240), (.int 853 0), (.int 216 0), (.str "/claim/cut.py" 854)], #[]⟩
noncomputable def o242 (_ : Params) : Obj := ⟨(.type "function"), none, .func ⟨"_law_total", "_law_total", fP (stm 70), .stmts (fB (stm 70)), fS (stm 70), 3, [], .none, .none, .none, (.str "law_ta0079_01" 824), none, (.ref 241), .none, 0⟩, #[]⟩
noncomputable def o248 (_ : Params) : Obj := ⟨(.type "code"), none, .fields #[(.str "_law_name" 856), (.str "_law_name" 857), (.str "/claim/cut.py" 858), (.int 219 0), (.int 1 0), (.int 0 0), (.int 0 0), (.int 3 0), (.ref 243), (.bool true), (.int 276 0), (.ref 244), .none, (.ref 245), (.ref 246), (.ref 247), (.int 860 0), (.int 219 0), (.str "/claim/cut.py" 861)], #[]⟩
noncomputable def o249 (_ : Params) : Obj := ⟨(.type "function"), none, .func ⟨"_law_name", "_law_name", fP (stm 71), .stmts (fB (stm 71)), fS (stm 71), 3, [], .none, .none, .none, (.str "law_ta0079_01" 824), none, (.ref 248), .none, 0⟩, #[]⟩
noncomputable def o253 (_ : Params) : Obj := ⟨(.type "code"), none, .fields #[(.str "_law_lay" 863), (.str "_law_lay" 864), (.str "/claim/cut.py" 865), (.int 221 0), (.int 5 0), (.int 0 0), (.int 0 0), (.int 3 0), (.ref 250), (.bool true), (.int 276 0), (.ref 251), .none, .none, .none, (.ref 252), (.int 866 0), (.int 221 0), (.str "/claim/cut.py" 867)], #[]⟩
noncomputable def o254 (_ : Params) : Obj := ⟨(.type "function"), none, .func ⟨"_law_lay", "_law_lay", fP (stm 72), .stmts (fB (stm 72)), fS (stm 72), 3, [], .none, .none, .none, (.str "law_ta0079_01" 824), none, (.ref 253), .none, 0⟩, #[]⟩
noncomputable def o258 (_ : Params) : Obj := ⟨(.type "code"), none, .fields #[(.str "_law_gathered" 869), (.str "_law_gathered" 870), (.str "/claim/cut.py" 871), (.int 227 0), (.int 4 0), (.int 0 0), (.int 0 0), (.int 3 0), (.ref 255), (.bool true), (.int 276 0), (.ref 256), .none, .none, .none, (.ref 257), (.int 872 0), (.int 227 0), (.str "/claim/cut.py" 873)], #[]⟩
noncomputable def o259 (_ : Params) : Obj := ⟨(.type "function"), none, .func ⟨"_law_gathered", "_law_gathered", fP (stm 73), .stmts (fB (stm 73)), fS (stm 73), 3, [], .none, .none, .none, (.str "law_ta0079_01" 824), none, (.ref 258), .none, 0⟩, #[]⟩
noncomputable def o263 (_ : Params) : Obj := ⟨(.type "code"), none, .fields #[(.str "_law_eliminated" 875), (.str "_law_eliminated" 876), (.str "/claim/cut.py" 877), (.int 242 0), (.int 1 0), (.int 0 0), (.int 0 0), (.int 3 0), (.ref 260), (.bool true), (.int 276 0), (.ref 261), .none, .none, .none, (.ref 262), (.int 878 0), (.int 242 0), (.str "/claim/cut.py" 879)], #[]⟩
noncomputable def o264 (_ : Params) : Obj := ⟨(.type "function"), none, .func ⟨"_law_eliminated", "_law_eliminated", fP (stm 74), .stmts (fB (stm 74)), fS (stm 74), 3, [], .none, .none, .none, (.str "law_ta0079_01" 824), none, (.ref 263), .none, 0⟩, #[]⟩
noncomputable def o268 (_ : Params) : Obj := ⟨(.type "code"), none, .fields #[(.str "_law_chosen" 881), (.str "_law_chosen" 882), (.str "/claim/cut.py" 883), (.int 260 0), (.int 1 0), (.int 0 0), (.int 0 0), (.int 3 0), (.ref 265), (.bool true), (.int 276 0), (.ref 266), .none, .none, .none, (.ref 267), (.int 884 0), (.int 260 0), (.str "/claim/cut.py" 885)], #[]⟩
noncomputable def o269 (_ : Params) : Obj := ⟨(.type "function"), none, .func ⟨"_law_chosen", "_law_chosen", fP (stm 75), .stmts (fB (stm 75)), fS (stm 75), 3, [], .none, .none, .none, (.str "law_ta0079_01" 824), none, (.ref 268), .none, 0⟩, #[]⟩
noncomputable def o273 (_ : Params) : Obj := ⟨(.type "code"), none, .fields #[(.str "law" 887), (.str "law" 888), (.str "/claim/cut.py" 889), (.int 269 0), (.int 1 0), (.int 0 0), (.int 0 0), (.int 3 0), (.ref 270), (.bool true), (.int 276 0), (.ref 271), .none, .none, .none, (.ref 272), (.int 890 0), (.int 269 0), (.str "/claim/cut.py" 891)], #[]⟩
noncomputable def o274 (_ : Params) : Obj := ⟨(.type "function"), none, .func ⟨"law", "law", fP (stm 76), .stmts (fB (stm 76)), fS (stm 76), 3, [], .none, .none, .none, (.str "law_ta0079_01" 824), none, (.ref 273), .none, 0⟩, #[]⟩
noncomputable def KK (P : Params) : Frag := [(2, o2 P), (3, o3 P), (47, o47 P), (48, o48 P), (52, o52 P), (53, o53 P), (69, o69 P), (75, o75 P), (76, o76 P), (82, o82 P), (83, o83 P), (101, o101 P), (102, o102 P), (120, o120 P), (121, o121 P), (145, o145 P), (146, o146 P), (178, o178 P), (179, o179 P), (181, o181 P), (182, o182 P), (187, o187 P), (193, o193 P), (194, o194 P), (200, o200 P), (201, o201 P), (202, o202 P), (210, o210 P), (211, o211 P), (217, o217 P), (218, o218 P), (224, o224 P), (225, o225 P), (231, o231 P), (232, o232 P), (236, o236 P), (237, o237 P), (241, o241 P), (242, o242 P), (248, o248 P), (249, o249 P), (253, o253 P), (254, o254 P), (258, o258 P), (259, o259 P), (263, o263 P), (264, o264 P), (268, o268 P), (269, o269 P), (273, o273 P), (274, o274 P)]
noncomputable def KA : List Addr := [2, 3, 47, 48, 52, 53, 69, 75, 76, 82, 83, 101, 102, 120, 121, 145, 146, 178, 179, 181, 182, 187, 193, 194, 200, 201, 202, 210, 211, 217, 218, 224, 225, 231, 232, 236, 237, 241, 242, 248, 249, 253, 254, 258, 259, 263, 264, 268, 269, 273, 274]

theorem KA_eq : ∀ P, KA = (KK P).map (·.1) := fun _ => rfl
/-- the view: the law's own def alone -/
noncomputable def q1 : Program := { pz with main := { pz.main with body := [s76] } }
noncomputable def loose1 : List Str := pz.boundNames.filter (fun n => n != "law")
noncomputable def chk1 (w : World) (b : Bool) := chk pz q1 loose1 (fun s => xlAt q1 [] s && recOk [] s) (fun s => KA.map s.heap.get?) 6200 (w.withFollow "special-get-raises" b)
noncomputable def good1F (K : Params → Frag) (w : World) := (openGood q1 loose1, (K w.params).map fun p => some p.2)
noncomputable def fPos : Stmt → Pos
  | .FunctionDef _ _ _ _ _ _ _ _ _ p => p
  | _ => default
noncomputable def dlaw : DefRec := ⟨"law", fP (stm 76), fB (stm 76), fS (stm 76), fPos (stm 76)⟩
end Mine
lay_quick Mine.chk1 Mine.good1F
namespace Mine
set_option maxRecDepth 100000
theorem chkF (w : World) : PySem.W.Fast.tw3405852715925843453 w false = some (PySem.W.Fast.tw16539801209700596232 KK w) := by kernel_rfl
theorem chkT (w : World) : PySem.W.Fast.tw3405852715925843453 w true = some (PySem.W.Fast.tw16539801209700596232 KK w) := by kernel_rfl
theorem leftO0 : LeftO pz q1 loose1 (fun s => xlAt q1 [] s && recOk [] s) (kHook KK KA KA_eq).obs (kHook KK KA KA_eq).val 6200 := fun w => by
  have e := World.withFollow_self w "special-get-raises"
  have k : ∀ b, chk1 w b = some (good1F KK w) := fun b => by
    have h1 : @chk1 = @PySem.W.Fast.tw3405852715925843453 := PySem.W.Fast.te3405852715925843453
    have h2 : @good1F = @PySem.W.Fast.tw16539801209700596232 := PySem.W.Fast.te16539801209700596232
    rw [h1, h2]
    cases b
    · exact chkF w
    · exact chkT w
  have z := k (w.params.followText "special-get-raises")
  unfold chk1 good1F at z
  rw [e] at z
  exact left_of_chk (Ya := (kHook KK KA KA_eq).val) w z
end Mine

open PySem PySem.W PyProof.Rows
set_option Elab.async false
namespace Mine
set_option maxRecDepth 100000
/-- the statement's row, over the program in pieces -/
noncomputable def rz : OpenLaw := { prog := pz, name := Str.ofString "law", about := [Str.ofString "Headers", Str.ofString "get_all"], foot := 9, most := some 63, bound := none, writes := false }
theorem rz_eq : PySem.Challenge.rw_ta0079_01 = rz := by
  show ({ prog := PySem.Challenge.pw_ta0079_01, name := Str.ofString "law", about := [Str.ofString "Headers", Str.ofString "get_all"], foot := 9, most := some 63, bound := none, writes := false } : OpenLaw) = rz
  rw [pz_eq]; rfl
set_option maxHeartbeats 8000000 in
theorem head_z (walk : WalkO q1 loose1 (XL q1 []) (InK KK) rz.row.toRowW dlaw [] (fun f vs => PySem.call f vs)) : rz.Holds := by
  w_on
  o_law
  exact PySem.W.holds_open (q := q1) (loose := loose1) (Xt := fun s => xlAt q1 [] s && recOk [] s) (XP := XL q1 []) (Yf := (kHook KK KA KA_eq).obs) (Ya := (kHook KK KA KA_eq).val) (YP := InK KK) (N := 6200)
    leftO0 (kHook KK KA KA_eq).of (kHook KK KA KA_eq).keeps (fun s e => xl_of s (Bool.and_eq_true_iff.mp e).1) XL.keeps (d := dlaw) (kwd := []) (by kernel_rfl) (by kernel_rfl) (by rfl) (fun s e => recFacts_of (Bool.and_eq_true_iff.mp e).2) (by rfl) (by assumption) (by kernel_rfl) ⟨rfl, rfl, rfl, rfl, rfl, by decide +kernel⟩ ⟨[.list []], by decide +kernel, by decide +kernel⟩ walk
theorem head_of (walk : WalkO q1 loose1 (XL q1 []) (InK KK) PySem.Challenge.rw_ta0079_01.row.toRowW dlaw [] (fun f vs => PySem.call f vs)) : PySem.Challenge.rw_ta0079_01.Holds := by
  rw [rz_eq] at walk ⊢
  exact head_z walk
end Mine

open PySem PySem.W PyProof.Rows PySem.AutoIntOps
set_option Elab.async false
set_option linter.unusedVariables false
namespace Mine
/-! # data, and how a heap bears it -/
inductive D where
  | none
  | bool (b : Bool)
  | int (i : Int)
  | str (x : Str)
  | tup (ds : List D)
  | lst (ds : List D)
noncomputable abbrev Ext (h h' : Heap) : Prop := ∀ b o, h.get? b = some o → h'.get? b = some o
noncomputable abbrev ExtX (X : Addr → Prop) (h h' : Heap) : Prop := ∀ b o, ¬ X b → h.get? b = some o → h'.get? b = some o
noncomputable def Own (X : Addr → Prop) (v : Value) : Prop := ∀ a, v = .ref a → ¬ X a
mutual
inductive RpB (X : Addr → Prop) (h : Heap) : Value → D → Prop
  | none : RpB X h .none .none
  | bool (b : Bool) : RpB X h (.bool b) (.bool b)
  | int (i : Int) (t : Tok) : RpB X h (.int i t) (.int i)
  | str (x : Str) (t : Tok) : RpB X h (.str x t) (.str x)
  | tup {a : Addr} {vs : List Value} {ds : List D} : h.IsTuple a vs.toArray → RpL X h vs ds → RpB X h (.ref a) (.tup ds)
  | lst {a : Addr} {vs : List Value} {ds : List D} : h.PlainList a vs.toArray → RpL X h vs ds → RpB X h (.ref a) (.lst ds)
inductive RpL (X : Addr → Prop) (h : Heap) : List Value → List D → Prop
  | nil : RpL X h [] []
  | cons {v : Value} {d : D} {vs : List Value} {ds : List D} : RpB X h v d → Own X v → RpL X h vs ds → RpL X h (v :: vs) (d :: ds)
end
/-- what a heap bears, another bears, whose lists and tuples stand alike -/
theorem RpB.gen {X X' : Addr → Prop} {h h' : Heap} {P : Addr → Prop} (kT : ∀ a (l : Array Value), P a → h.IsTuple a l → h'.IsTuple a l) (kL : ∀ a (l : Array Value), P a → h.PlainList a l → h'.PlainList a l) (kO : ∀ v d, RpB X h v d → Own X v → Own X' v ∧ ∀ a, v = .ref a → P a)
    {v : Value} {d : D} (r : RpB X h v d) : (∀ a, v = .ref a → P a) → RpB X' h' v d :=
  RpB.rec (motive_1 := fun v d _ => (∀ a, v = .ref a → P a) → RpB X' h' v d) (motive_2 := fun vs ds _ => RpL X' h' vs ds) (fun _ => .none) (fun b _ => .bool b) (fun i t _ => .int i t) (fun x t _ => .str x t)
    (fun hl _ ih q => .tup (kT _ _ (q _ rfl) hl) ih) (fun hl _ ih q => .lst (kL _ _ (q _ rfl) hl) ih) .nil (fun a o _ ih ih' => .cons (ih (kO _ _ a o).2) (kO _ _ a o).1 ih') r
theorem RpL.gen {X X' : Addr → Prop} {h h' : Heap} {P : Addr → Prop} (kT : ∀ a (l : Array Value), P a → h.IsTuple a l → h'.IsTuple a l) (kL : ∀ a (l : Array Value), P a → h.PlainList a l → h'.PlainList a l) (kO : ∀ v d, RpB X h v d → Own X v → Own X' v ∧ ∀ a, v = .ref a → P a)
    {vs : List Value} {ds : List D} (r : RpL X h vs ds) : RpL X' h' vs ds :=
  RpL.rec (motive_1 := fun _ _ _ => True) (motive_2 := fun vs ds _ => RpL X' h' vs ds) trivial (fun _ => trivial) (fun _ _ => trivial) (fun _ _ => trivial)
    (fun _ _ _ => trivial) (fun _ _ _ => trivial) .nil (fun a o _ _ ih' => .cons (a.gen kT kL kO (kO _ _ a o).2) (kO _ _ a o).1 ih') r
theorem RpB.ext {X : Addr → Prop} {h h' : Heap} (k : Ext h h') {v : Value} {d : D} (r : RpB X h v d) : RpB X h' v d :=
  r.gen (P := fun _ => True) (fun _ _ _ hl => hl.at fun o e => k _ o e) (fun _ _ _ hl => hl.at fun o e => k _ o e) (fun _ _ _ o => ⟨o, fun _ _ => trivial⟩) fun _ _ => trivial
theorem RpL.ext {X : Addr → Prop} {h h' : Heap} (k : Ext h h') {vs : List Value} {ds : List D} (r : RpL X h vs ds) : RpL X h' vs ds :=
  r.gen (P := fun _ => True) (fun _ _ _ hl => hl.at fun o e => k _ o e) (fun _ _ _ hl => hl.at fun o e => k _ o e) fun _ _ _ o => ⟨o, fun _ _ => trivial⟩
theorem RpB.extX {X : Addr → Prop} {h h' : Heap} (k : ExtX X h h') {v : Value} {d : D} (r : RpB X h v d) (ow : Own X v) : RpB X h' v d :=
  r.gen (P := fun a => ¬ X a) (fun _ _ q hl => hl.at fun o e => k _ o q e) (fun _ _ q hl => hl.at fun o e => k _ o q e) (fun _ _ _ o => ⟨o, o⟩) ow
theorem RpL.extX {X : Addr → Prop} {h h' : Heap} (k : ExtX X h h') {vs : List Value} {ds : List D} (r : RpL X h vs ds) : RpL X h' vs ds :=
  r.gen (P := fun a => ¬ X a) (fun _ _ q hl => hl.at fun o e => k _ o q e) (fun _ _ q hl => hl.at fun o e => k _ o q e) fun _ _ _ o => ⟨o, o⟩
theorem RpB.weak {X X' : Addr → Prop} {h : Heap} (k : ∀ a, X' a → X a) {v : Value} {d : D} (r : RpB X h v d) : RpB X' h v d :=
  r.gen (P := fun _ => True) (fun _ _ _ hl => hl) (fun _ _ _ hl => hl) (fun _ _ _ o => ⟨fun x e q => o x e (k _ q), fun _ _ => trivial⟩) fun _ _ => trivial
theorem RpL.weak {X X' : Addr → Prop} {h : Heap} (k : ∀ a, X' a → X a) {vs : List Value} {ds : List D} (r : RpL X h vs ds) : RpL X' h vs ds :=
  r.gen (P := fun _ => True) (fun _ _ _ hl => hl) (fun _ _ _ hl => hl) fun _ _ _ o => ⟨fun x e q => o x e (k _ q), fun _ _ => trivial⟩
section
variable {X : Addr → Prop} {h : Heap} {v : Value} {d : D} {vs ws : List Value} {ds es : List D}
theorem RpL.length (r : RpL X h vs ds) : vs.length = ds.length := by
  induction vs generalizing ds with
  | nil => cases r; rfl
  | cons v vs ih => cases r with | cons _ _ r => rw [List.length_cons, List.length_cons, ih r]
theorem RpL.append (r : RpL X h vs ds) (k : RpL X h ws es) : RpL X h (vs ++ ws) (ds ++ es) := by
  induction vs generalizing ds with
  | nil => cases r; exact k
  | cons v vs ih => cases r with | cons a o r => exact .cons a o (ih r)
theorem RpL.one (a : RpB X h v d) (o : Own X v) : RpL X h [v] [d] := .cons a o .nil
theorem RpL.get {i : Nat} (r : RpL X h vs ds) (hd : ds[i]? = some d) : ∃ v, vs[i]? = some v ∧ RpB X h v d ∧ Own X v := by
  induction vs generalizing ds i with
  | nil => cases r; simp at hd
  | cons v vs ih =>
    cases r with
    | cons a o r =>
      cases i with
      | zero => simp at hd; subst hd; exact ⟨v, rfl, a, o⟩
      | succ i => exact ih r (by first | exact of_decide_eq_true hd | exact of_decide_eq_false hd | exact bne_iff_ne.mp hd | exact eq_of_beq hd | simpa using hd)
end
theorem RpB.tup_inv {X : Addr → Prop} {h : Heap} {v : Value} {ds : List D} (r : RpB X h v (.tup ds)) : ∃ a vs, v = .ref a ∧ h.IsTuple a (List.toArray vs) ∧ RpL X h vs ds := by cases r; exact ⟨_, _, rfl, ‹_›, ‹_›⟩
theorem RpB.lst_inv {X : Addr → Prop} {h : Heap} {v : Value} {ds : List D} (r : RpB X h v (.lst ds)) : ∃ a vs, v = .ref a ∧ h.PlainList a (List.toArray vs) ∧ RpL X h vs ds := by cases r; exact ⟨_, _, rfl, ‹_›, ‹_›⟩
theorem RpB.int_inv {X : Addr → Prop} {h : Heap} {v : Value} {i : Int} (r : RpB X h v (.int i)) : ∃ t, v = .int i t := by cases r; exact ⟨_, rfl⟩
theorem RpB.str_inv {X : Addr → Prop} {h : Heap} {v : Value} {x : Str} (r : RpB X h v (.str x)) : ∃ t, v = .str x t := by cases r; exact ⟨_, rfl⟩
theorem RpL.cons_inv {X : Addr → Prop} {h : Heap} {vs : List Value} {d : D} {ds : List D} (r : RpL X h vs (d :: ds)) : ∃ v us, vs = v :: us ∧ RpB X h v d ∧ Own X v ∧ RpL X h us ds := by cases r; exact ⟨_, _, rfl, ‹_›, ‹_›, ‹_›⟩
theorem RpL.nil_inv {X : Addr → Prop} {h : Heap} {vs : List Value} (r : RpL X h vs []) : vs = [] := by cases r; rfl
theorem RpL.two_inv {X : Addr → Prop} {h : Heap} {vs : List Value} {d1 d2 : D} (r : RpL X h vs [d1, d2]) : ∃ v1 v2, vs = [v1, v2] ∧ (RpB X h v1 d1 ∧ Own X v1) ∧ RpB X h v2 d2 ∧ Own X v2 := by
  obtain ⟨v1, _, rfl, r1, o1, r⟩ := r.cons_inv
  obtain ⟨v2, _, rfl, r2, o2, r⟩ := r.cons_inv
  cases r.nil_inv
  exact ⟨v1, v2, rfl, ⟨r1, o1⟩, r2, o2⟩
theorem RpB.pair_inv {X : Addr → Prop} {h : Heap} {v : Value} {d1 d2 : D} (r : RpB X h v (.tup [d1, d2])) : ∃ a v1 v2, v = .ref a ∧ h.IsTuple a #[v1, v2] ∧ (RpB X h v1 d1 ∧ Own X v1) ∧ RpB X h v2 d2 ∧ Own X v2 := by
  obtain ⟨a, vs, e, hl, rl⟩ := r.tup_inv
  obtain ⟨v1, v2, rfl, q⟩ := rl.two_inv
  exact ⟨a, v1, v2, e, hl, q⟩
theorem Own.int {X : Addr → Prop} {i : Int} {t : Tok} : Own X (.int i t) := fun _ e => nomatch e
theorem Own.str {X : Addr → Prop} {x : Str} {t : Tok} : Own X (.str x t) := fun _ e => nomatch e
theorem Own.bool {X : Addr → Prop} {b : Bool} : Own X (.bool b) := fun _ e => nomatch e
theorem Own.none {X : Addr → Prop} : Own X .none := fun _ e => nomatch e
theorem Own.fresh {X : Addr → Prop} {h : Heap} {a : Addr} (low : ∀ a, X a → ∃ o, h.get? a = some o) (hn : h.get? a = Option.none) : Own X (.ref a) := by
  intro b e q
  cases e
  obtain ⟨o, ho⟩ := low _ q
  rw [hn] at ho; cases ho
theorem get_size (h : Heap) : h.get? h.objs.size = none := by
  cases q : h.get? h.objs.size with
  | none => rfl
  | some o => exact absurd (Heap.lt_size q) (Nat.lt_irrefl _)
/-! # the names -/
inductive NameIs (env : Env) (h : Heap) (x : Str) (v : Value) : Prop
  | loc (m : Str → Option Value) : env.kindOf x = some .local → h.Ns env.locals m → m x = some v → NameIs env h x v
  | cell (c : Addr) : env.kindOf x = some .cell → env.cells.lookup x = some c → h.IsCell c (some v) → NameIs env h x v
  | free (c : Addr) : env.kindOf x = some .free → env.cells.lookup x = some c → h.IsCell c (some v) → (x == ("__classdict__" : Str)) = false → NameIs env h x v
theorem NameIs.ext {env : Env} {h h' : Heap} {x : Str} {v : Value} (k : Ext h h') : NameIs env h x v → NameIs env h' x v
  | .loc m a b c => .loc m a (b.keeps k) c
  | .cell c a b d => .cell c a b (d.keeps k)
  | .free c a b d e => .free c a b (d.keeps k) e
theorem NameIs.load {M : Model} {A : Around} {E : Value → Shared → Prop} {s : Shared} {env : Env} {x : Str} {v : Value} {Q : Value → Shared → Prop} (n : NameIs env s.heap x v) (hk : env.scope.kind = .function) (q : Q v s) :
    wpAny M A (loadName env x) Q E s := by
  cases n with
  | loc m a b c => exact wpAny_loadName_local hk a b c q
  | cell c a b d => exact wpAny_loadName_cell hk a b d q
  | free c a b d e => exact wpAny_loadName_free hk a b d q e
/-! # what every place of the law knows -/
structure Bs (w : World) (h : Heap) : Prop where
  inK : (KK w.params).In h
  top : ∃ mg mb, TopRead q1 (looseW q1 loose1) mg mb h
theorem Bs.ext {w : World} {h h' : Heap} (b : Bs w h) (k : Ext h h') : Bs w h' := ⟨b.inK.keeps k, let ⟨mg, mb, t⟩ := b.top; ⟨mg, mb, t.keeps k⟩⟩
/-- room for n calls more -/
structure Rm (n : Nat) (A : Around) : Prop where
  handled : A.handled = none
  depth : A.depth + n ≤ 900
  units : A.units + 12 * n ≤ 4000
structure Cx (w : World) (X : Addr → Prop) (env : Env) (sc : Scope) (ρ : List (Str × Bool × D)) (h : Heap) : Prop where
  base : Bs w h
  scope : env.scope = sc
  fn : sc.kind = .function
  glob : env.globals = mainGlobals
  blt : env.builtins = builtinsNs
  low : ∀ a, X a → ∃ o, h.get? a = some o
  vars : ∀ x b d, ρ.lookup x = some (b, d) → ∃ v, NameIs env h x v ∧ RpB X h v d ∧ (b = true → Own X v)
theorem Cx.ext {w : World} {X : Addr → Prop} {env : Env} {sc : Scope} {ρ : List (Str × Bool × D)} {h h' : Heap} (c : Cx w X env sc ρ h) (k : Ext h h') : Cx w X env sc ρ h' :=
  ⟨c.base.ext k, c.scope, c.fn, c.glob, c.blt, fun a q => let ⟨o, e⟩ := c.low a q; ⟨o, k _ _ e⟩, fun x b d e => let ⟨v, n, r, o⟩ := c.vars x b d e; ⟨v, n.ext k, r.ext k, o⟩⟩
theorem keeps_refl (s : Shared) : Keeps s s := ⟨s.heap, s.toks, rfl, fun _ _ e => e⟩
theorem keeps_tok (s : Shared) (t : Nat) : Keeps s { s with toks := t } := ⟨s.heap, t, rfl, fun _ _ e => e⟩
theorem keeps_trans {s s' s'' : Shared} (a : Keeps s s') (b : Keeps s' s'') : Keeps s s'' := by
  obtain ⟨h, t, rfl, k⟩ := a
  obtain ⟨h', t', rfl, k'⟩ := b
  exact ⟨h', t', rfl, fun b o e => k' b o (k b o e)⟩
theorem keeps_ext {s s' : Shared} (a : Keeps s s') : Ext s.heap s'.heap := by
  obtain ⟨h, t, rfl, k⟩ := a
  exact k
theorem keeps_heap (s : Shared) (h : Heap) (k : Ext s.heap h) : Keeps s { s with heap := h } := ⟨h, s.toks, rfl, k⟩
theorem keeps_ht (s : Shared) (h : Heap) (t : Nat) (k : Ext s.heap h) : Keeps s { s with heap := h, toks := t } := ⟨h, t, rfl, k⟩
noncomputable abbrev Md (w : World) : Model := model PySem.Challenge.pw_ta0079_01 w
/-- an end: the value bears d, all that stood is kept -/
noncomputable def Yld (X : Addr → Prop) (b : Bool) (d : D) (s : Shared) (v : Value) (s' : Shared) : Prop := RpB X s'.heap v d ∧ (b = true → Own X v) ∧ Keeps s s'
noncomputable def Ev (w : World) (n : Nat) (X : Addr → Prop) (env : Env) (sc : Scope) (ρ : List (Str × Bool × D)) (b : Bool) (e : Expr) (d : D) : Prop :=
  ∀ (A : Around) (s : Shared) (E : Value → Shared → Prop), Rm n A → Cx w X env sc ρ s.heap → wpAny (Md w) A (eval e env) (Yld X b d s) E s
section
variable {w : World} {n : Nat} {X : Addr → Prop} {env : Env} {sc : Scope} {ρ : List (Str × Bool × D)} {b b1 b2 : Bool} {e e1 e2 : Expr} {d d1 d2 : D} {pos : Pos}
theorem ev_name {x : Str} {b' : Bool} (h : ρ.lookup x = some (b', d)) (hb : (!b || b') = true := by rfl) (hd : (x == ("__debug__" : Str)) = false := by decide) : Ev w n X env sc ρ b (.Name x pos) d := by
  intro A s E _ C
  obtain ⟨v, nm, r, o⟩ := C.vars x b' d h
  exact wpAny_Name (nm.load (C.scope ▸ C.fn) ⟨r, fun e => o (by rw [e] at hb; simpa using hb), keeps_refl s⟩) hd
theorem ev_int {i : Int} {k : Nat} : Ev w n X env sc ρ b (.Constant (.int i) k pos) (.int i) := fun _ s _ _ _ => wpAny_Constant_int ⟨.int _ _, fun _ => .int, keeps_tok s _⟩
theorem ev_str {x : Str} {k : Nat} : Ev w n X env sc ρ b (.Constant (.str x) k pos) (.str x) := fun _ s _ _ _ => wpAny_Constant_str ⟨.str _ _, fun _ => .str, keeps_tok s _⟩
theorem ev_bool {x : Bool} {k : Nat} : Ev w n X env sc ρ b (.Constant (.bool x) k pos) (.bool x) := fun _ s _ _ _ => wpAny_Constant_bool ⟨.bool _, fun _ => .bool, keeps_refl s⟩
theorem ev_none {k : Nat} : Ev w n X env sc ρ b (.Constant .none k pos) .none := fun _ s _ _ _ => wpAny_Constant_none ⟨.none, fun _ => .none, keeps_refl s⟩
/-- two terms, then a step -/
theorem two {α : Type} {A : Around} {s : Shared} {E : Value → Shared → Prop} {f : Value → Value → Sem α} {Q : α → Shared → Prop} (ha : Ev w n X env sc ρ false e1 d1) (hb : Ev w n X env sc ρ false e2 d2) (hA : Rm n A) (C : Cx w X env sc ρ s.heap)
    (op : ∀ v1 v2 s', Keeps s s' → Cx w X env sc ρ s'.heap → RpB X s'.heap v1 d1 → RpB X s'.heap v2 d2 → (false = true → Own X v1) → (false = true → Own X v2) → wpAny (Md w) A (f v1 v2) Q E s') :
    wpAny (Md w) A (eval e1 env) (fun v1 s₁ => wpAny (Md w) A (eval e2 env) (fun v2 s₂ => wpAny (Md w) A (f v1 v2) Q E s₂) E s₁) E s := by
  refine wpAny_mono (ha A s E hA C) (fun v1 s₁ q => ?_) fun _ _ x => x
  obtain ⟨r1, o1, k1⟩ := q
  refine wpAny_mono (hb A s₁ E hA (C.ext (keeps_ext k1))) (fun v2 s₂ q => ?_) fun _ _ x => x
  obtain ⟨r2, o2, k2⟩ := q
  exact op v1 v2 s₂ (keeps_trans k1 k2) (C.ext (keeps_ext (keeps_trans k1 k2))) (r1.ext (keeps_ext k2)) r2 o1 o2
/-- a step on two values -/
noncomputable def Op2 (w : World) (n : Nat) (X : Addr → Prop) (b : Bool) (f : Value → Value → Sem Value) (d1 d2 d : D) : Prop :=
  ∀ (A : Around) (s : Shared) (E : Value → Shared → Prop) (v1 v2 : Value), Rm n A → Bs w s.heap → (∀ a, X a → ∃ o, s.heap.get? a = some o) → RpB X s.heap v1 d1 → RpB X s.heap v2 d2 → wpAny (Md w) A (f v1 v2) (Yld X b d s) E s
theorem Yld.trans {s s' : Shared} {v : Value} {s'' : Shared} (k : Keeps s s') (y : Yld X b d s' v s'') : Yld X b d s v s'' := ⟨y.1, y.2.1, keeps_trans k y.2.2⟩
theorem ev_bin {op : Operator} (ha : Ev w n X env sc ρ false e1 d1) (hb : Ev w n X env sc ρ false e2 d2) (h : Op2 w n X b (binaryOp op) d1 d2 d) : Ev w n X env sc ρ b (.BinOp e1 op e2 pos) d :=
  fun A s E hA C => wpAny_BinOp (two ha hb hA C fun v1 v2 s' k C' r1 r2 _ _ => wpAny_mono (h A s' E v1 v2 hA C'.base C'.low r1 r2) (fun _ _ y => y.trans k) fun _ _ x => x)
theorem ev_cmp {op : CmpOp} (ha : Ev w n X env sc ρ false e1 d1) (hb : Ev w n X env sc ρ false e2 d2) (h : Op2 w n X b (compareOp op) d1 d2 d) (hm : behindInMarks op e2 = false := by with_unfolding_all rfl) :
    Ev w n X env sc ρ b (.Compare e1 [op] [e2] pos) d :=
  fun A s E hA C => wpAny_Compare1 (two ha hb hA C fun v1 v2 s' k C' r1 r2 _ _ => wpAny_mono (h A s' E v1 v2 hA C'.base C'.low r1 r2) (fun _ _ y => y.trans k) fun _ _ x => x) hm
end
/-! # ints -/
section
variable {w : World} {n : Nat} {X : Addr → Prop} {b : Bool} {x y : Int}
theorem op_int2 {f : Value → Value → Sem Value} {z : D} (h : ∀ (A : Around) (s : Shared) (E : Value → Shared → Prop) t u, wpAny (Md w) A (f (.int x t) (.int y u)) (Yld X b z s) E s) : Op2 w n X b f (.int x) (.int y) z :=
  fun A s E v1 v2 _ _ _ r1 r2 => by cases r1; cases r2; exact h A s E _ _
theorem made_int {s : Shared} {i : Int} : (Made.int i).post (Yld X b (.int i) s) s := by
  first
    | exact ⟨.int _ _, fun _ => .int, keeps_tok s _⟩
    | (intro; exact ⟨.int _ _, fun _ => .int, keeps_tok s _⟩)
theorem op_add : Op2 w n X b (binaryOp .Add) (.int x) (.int y) (.int (x + y)) := op_int2 fun _ _ _ _ _ => add_0 made_int
theorem op_sub : Op2 w n X b (binaryOp .Sub) (.int x) (.int y) (.int (x - y)) := op_int2 fun _ _ _ _ _ => sub_0 made_int
theorem op_iadd : Op2 w n X b (inplaceOp .Add) (.int x) (.int y) (.int (x + y)) := op_int2 fun _ _ _ _ _ => iadd_0 made_int
theorem op_mul (h : IntMulOk x y) : Op2 w n X b (binaryOp .Mult) (.int x) (.int y) (.int (x * y)) := op_int2 fun _ _ _ _ _ => mul_0 made_int h
theorem op_mod (h : y ≠ 0) : Op2 w n X b (binaryOp .Mod) (.int x) (.int y) (.int (x.fmod y)) := op_int2 fun _ _ _ _ _ => mod_1 (by first | exact of_decide_eq_true h | exact of_decide_eq_false h | exact bne_iff_ne.mp h | exact eq_of_beq h | simpa using h) made_int
end
end Mine

open PySem PySem.W PyProof.Rows PySem.AutoIntOps
set_option Elab.async false
set_option linter.unusedVariables false
namespace Mine
/-- X' excludes more, but nothing that stood in h -/
noncomputable def Fr2 (X X' : Addr → Prop) (h : Heap) : Prop := ∀ a, X' a → X a ∨ h.get? a = none
/-- what is borne at a place stands there: a list, a tuple -/
theorem RpB.alive {X : Addr → Prop} {h : Heap} {v : Value} {d : D} {x : Addr} (a : RpB X h v d) (e : v = .ref x) : ∃ o, h.get? x = some o ∧ ∃ xs k, o.data = .seq xs k := by
  cases a with
  | tup hl _ => cases e; obtain ⟨o, ho, _, j, hd⟩ := hl; exact ⟨o, ho, _, _, hd⟩
  | lst hl _ => cases e; obtain ⟨j, ho⟩ := hl; exact ⟨_, ho, _, _, rfl⟩
  | _ => cases e
theorem Own.more {X X' : Addr → Prop} {h : Heap} {v : Value} {d : D} (k : Fr2 X X' h) (a : RpB X h v d) (o : Own X v) : Own X' v := fun x e q => (k x q).elim (o x e) fun hn => by
  obtain ⟨o', ho, _⟩ := a.alive e
  rw [hn] at ho; cases ho
theorem RpB.more {X X' : Addr → Prop} {h : Heap} (k : Fr2 X X' h) {v : Value} {d : D} (r : RpB X h v d) : RpB X' h v d :=
  r.gen (P := fun _ => True) (fun _ _ _ hl => hl) (fun _ _ _ hl => hl) (fun _ _ r o => ⟨Own.more k r o, fun _ _ => trivial⟩) fun _ _ => trivial
theorem RpL.more {X X' : Addr → Prop} {h : Heap} (k : Fr2 X X' h) {vs : List Value} {ds : List D} (r : RpL X h vs ds) : RpL X' h vs ds :=
  r.gen (P := fun _ => True) (fun _ _ _ hl => hl) (fun _ _ _ hl => hl) fun _ _ r o => ⟨Own.more k r o, fun _ _ => trivial⟩
noncomputable def ExtQ (X : Addr → Prop) (h h' : Heap) : Prop := ∀ b o, ¬ X b → h.get? b = some o → (∃ xs k, o.data = .seq xs k) → h'.get? b = some o
/-- no list and no tuple that stood is excluded anew -/
noncomputable def Fr3 (X X' : Addr → Prop) (h : Heap) : Prop := ∀ a o, h.get? a = some o → (∃ xs k, o.data = .seq xs k) → X' a → X a
theorem Fr2.three {X X' : Addr → Prop} {h : Heap} (k : Fr2 X X' h) : Fr3 X X' h := fun a o e _ q => (k a q).resolve_right fun z => by rw [z] at e; cases e
theorem Own.move {X X' : Addr → Prop} {h : Heap} {v : Value} {d : D} (f : Fr3 X X' h) (a : RpB X h v d) (o : Own X v) : Own X' v := fun x e q => by
  obtain ⟨o', ho, hd⟩ := a.alive e
  exact o x e (f _ _ ho hd q)
theorem tup_q {X : Addr → Prop} {h h' : Heap} (k : ExtQ X h h') (a : Addr) (l : Array Value) (q : ¬ X a) (hl : h.IsTuple a l) : h'.IsTuple a l := by
  obtain ⟨o, ho, hc, j, hd⟩ := hl
  exact ⟨o, k _ o q ho ⟨_, _, hd⟩, hc, j, hd⟩
theorem lst_q {X : Addr → Prop} {h h' : Heap} (k : ExtQ X h h') (a : Addr) (l : Array Value) (q : ¬ X a) (hl : h.PlainList a l) : h'.PlainList a l := by
  obtain ⟨j, ho⟩ := hl
  exact ⟨j, k _ _ q ho ⟨_, _, rfl⟩⟩
theorem RpB.move {X X' : Addr → Prop} {h h' : Heap} (f : Fr3 X X' h) (k : ExtQ X h h') {v : Value} {d : D} (r : RpB X h v d) (ow : Own X v) : RpB X' h' v d :=
  r.gen (P := fun a => ¬ X a) (tup_q k) (lst_q k) (fun _ _ r o => ⟨Own.move f r o, o⟩) ow
noncomputable def locOrCell (sc : Scope) (x : Str) : Bool := sc.names.lookup x == some .local || sc.names.lookup x == some .cell
/-- a name, two names -/
noncomputable def nmC : (e : Expr) → Option { q : Str × Pos // e = .Name q.1 q.2 }
  | .Name x p => some ⟨(x, p), rfl⟩
  | _ => none
noncomputable def tupC : (e : Expr) → Option { q : List Expr × Nat × Pos // e = .Tuple q.1 q.2.1 q.2.2 }
  | .Tuple l k p => some ⟨(l, k, p), rfl⟩
  | _ => none
noncomputable def nmOf (e : Expr) : Option Str := (nmC e).map fun q => q.1.1
noncomputable def nmL : List Expr → Option (Str × Str)
  | [a, b] => (nmOf a).bind fun x => (nmOf b).map fun y => (x, y)
  | _ => none
noncomputable def twoOf (e : Expr) : Option (Str × Str) := (tupC e).bind fun q => nmL q.1.1
theorem nmOf_some {e : Expr} {x : Str} (h : nmOf e = some x) : ∃ p, e = .Name x p := by
  obtain ⟨⟨⟨y, p⟩, e⟩, _, h⟩ := Option.map_eq_some_iff.mp h
  cases h; exact ⟨p, e⟩
theorem nmL_some {l : List Expr} {q : Str × Str} (h : nmL l = some q) : ∃ px py, l = [.Name q.1 px, .Name q.2 py] := by
  rcases l with _ | ⟨a, _ | ⟨b, _ | ⟨c, l⟩⟩⟩
  · cases h
  · cases h
  · obtain ⟨x, h1, h⟩ := Option.bind_eq_some_iff.mp (show ((nmOf a).bind fun x => (nmOf b).map fun y => (x, y)) = some q from h)
    obtain ⟨y, h2, h⟩ := Option.map_eq_some_iff.mp h
    obtain ⟨px, rfl⟩ := nmOf_some h1
    obtain ⟨py, rfl⟩ := nmOf_some h2
    cases h; exact ⟨px, py, rfl⟩
  · cases h
theorem twoOf_some {e : Expr} {q : Str × Str} (h : twoOf e = some q) : ∃ px py k p, e = .Tuple [.Name q.1 px, .Name q.2 py] k p := by
  obtain ⟨⟨⟨l, k, p⟩, e⟩, _, h⟩ := Option.bind_eq_some_iff.mp h
  obtain ⟨px, py, h⟩ := nmL_some h
  dsimp only at h; subst h
  exact ⟨px, py, k, p, e⟩
/-- what a target binds -/
noncomputable def bindD (e : Expr) (d : D) : List (Str × Bool × D) := match nmOf e with
  | some x => [(x, true, d)]
  | none => match twoOf e, d with
    | some q, .tup [d1, d2] => [(q.1, true, d1), (q.2, true, d2)]
    | _, _ => []
noncomputable def tgtOk (sc : Scope) (e : Expr) : Bool := match nmOf e with
  | some x => locOrCell sc x
  | none => match twoOf e with
    | some q => locOrCell sc q.1 && (locOrCell sc q.2 && !(q.1 == q.2))
    | none => false
/-- the thing that a source hands on -/
noncomputable def Item (X : Addr → Prop) (target : Expr) (h : Heap) (v : Value) (d : D) : Prop :=
  match nmC target with
  | some _ => RpB X h v d ∧ Own X v
  | none => ∃ d1 d2, d = .tup [d1, d2] ∧ RpB X h v d
inductive IterOK (w : World) (A : Around) (X : Addr → Prop) (target : Expr) (q : Bool) (ds : List D) (h₀ : Heap) (it : Value) (s₂ : Shared) : Prop
  | mk (I : Addr) (fp wr : List Addr) (P Md' : Nat → Value → Heap → Prop) (St : Nat → Heap → Prop) : it = .ref I → KTurns PySem.Challenge.pw_ta0079_01 w A target I fp wr ds.length P Md' St → St 0 s₂.heap → (∀ b ∈ fp, ∃ o, s₂.heap.get? b = some o) → (∀ b ∈ wr, h₀.get? b = none) →
    (∀ i h, St i h → ∀ b ∈ wr, ∃ o, h.get? b = some o) → (q = true → ∀ b ∈ fp, h₀.get? b = none ∨ ∃ o, h₀.get? b = some o ∧ (∃ xs k, o.data = .seq xs k) ∧ ¬ X b) →
    (∀ X', Fr3 X X' h₀ → ∀ i d v h, ds[i]? = some d → P i v h → ExtQ X h₀ h → Item X' target h v d) →
    (∀ (s : Shared) (Q : Value → Shared → Prop) (E : Value → Shared → Prop), St 0 s.heap → Q (.ref I) s → wpAny (Md w) A (pyIter (.ref I)) Q E s) → IterOK w A X target q ds h₀ it s₂
noncomputable def EvIt (w : World) (n : Nat) (X : Addr → Prop) (env : Env) (sc : Scope) (ρ : List (Str × Bool × D)) (target iter : Expr) (q : Bool) (ds : List D) : Prop :=
  ∀ (A : Around) (s : Shared) (E : Value → Shared → Prop), Rm n A → Cx w X env sc ρ s.heap →
    wpAny (Md w) A (eval iter env) (fun xv s₁ => wpAny (Md w) A (pyIter xv) (fun it s₂ => Keeps s s₂ ∧ IterOK w A X target q ds s.heap it s₂) E s₁) E s
/-! ## the block of a comprehension: its frame -/
noncomputable def relS (scope sc : Scope) : Scope :=
  { scope with names := scope.names.map fun (n, k) => if (k == .free && sc.kind == .function && sc.names.lookup n == some .cell) then (n, .cell) else (n, k) }
theorem relS_eq (scope : Scope) (env : Env) : relabel scope env = relS scope env.scope := rfl
/-- a frame that is stored into: local and cell names, the cells of T alone -/
structure Fm (env : Env) (T : List Str) (m : Str → Option Value) (cm : Str → Option Value) (h : Heap) : Prop where
  ns : h.Ns env.locals m
  has : ∀ n ∈ T, env.kindOf n = some .cell → ∃ c, env.cells.lookup n = some c
  cell : ∀ n ∈ T, ∀ c, env.cells.lookup n = some c → env.kindOf n = some .cell → h.IsCell c (cm n)
  apart : ∀ n ∈ T, ∀ n' ∈ T, ∀ c c', env.kindOf n = some .cell → env.kindOf n' = some .cell → env.cells.lookup n = some c → env.cells.lookup n' = some c' → n ≠ n' → c ≠ c'
  off : ∀ n ∈ T, env.kindOf n = some .cell → ∀ c, env.cells.lookup n = some c → c ≠ env.locals
noncomputable def Fm.at (env : Env) (T : List Str) (b : Addr) : Prop := b = env.locals ∨ ∃ n ∈ T, env.kindOf n = some .cell ∧ env.cells.lookup n = some b
theorem Fm.ext {env : Env} {T : List Str} {m cm : Str → Option Value} {h h' : Heap} (f : Fm env T m cm h) (k : ∀ b o, Fm.at env T b → h.get? b = some o → h'.get? b = some o) : Fm env T m cm h' :=
  ⟨f.ns.at' fun o e => k _ o (.inl rfl) e, f.has, fun n hn c hc hk => let ⟨o, ho, hd⟩ := f.cell n hn c hc hk; ⟨o, k _ _ (.inr ⟨n, hn, hk, hc⟩) ho, hd⟩, f.apart, f.off⟩
noncomputable def put (x : Str) (v : Value) (m : Str → Option Value) : Str → Option Value := fun y => if y = x then some v else m y
theorem kind_or {env : Env} {x : Str} (hx : locOrCell env.scope x = true) : env.kindOf x = some .local ∨ env.kindOf x = some .cell := by
  unfold locOrCell at hx
  show env.scope.names.lookup x = some .local ∨ env.scope.names.lookup x = some .cell
  simpa using hx
/-- a heap that keeps the lists and the tuples -/
noncomputable def SeqK (h h' : Heap) : Prop := ∀ b o, h.get? b = some o → (∃ xs k, o.data = .seq xs k) → h'.get? b = some o
theorem SeqK.q {h h' : Heap} (k : SeqK h h') : ExtQ (fun _ => False) h h' := fun b o _ e q => k b o e q
theorem RpB.seq {X : Addr → Prop} {h h' : Heap} (k : SeqK h h') {v : Value} {d : D} (r : RpB X h v d) : RpB X h' v d :=
  r.gen (P := fun _ => ¬ False) (tup_q k.q) (lst_q k.q) (fun _ _ _ o => ⟨o, fun _ _ => id⟩) fun _ _ => id
theorem RpL.seq {X : Addr → Prop} {h h' : Heap} (k : SeqK h h') {vs : List Value} {ds : List D} (r : RpL X h vs ds) : RpL X h' vs ds :=
  r.gen (P := fun _ => ¬ False) (tup_q k.q) (lst_q k.q) fun _ _ _ o => ⟨o, fun _ _ => id⟩
theorem SeqK.trans {h h' h'' : Heap} (a : SeqK h h') (b : SeqK h' h'') : SeqK h h'' := fun x o e q => b x o (a x o e q) q
theorem SeqK.ext {h h' : Heap} (a : Ext h h') : SeqK h h' := fun x o e _ => a x o e
theorem fm_store {M : Model} {A : Around} {E : Value → Shared → Prop} {s : Shared} {env : Env} {T : List Str} {m cm : Str → Option Value} {x : Str} {v : Value} {Q : Unit → Shared → Prop} (f : Fm env T m cm s.heap) (hk : env.scope.kind = .function)
    (hx : locOrCell env.scope x = true) (hT : x ∈ T)
    (h : ∀ h' tk, Fm env T (if env.kindOf x = some .local then put x v m else m) (if env.kindOf x = some .local then cm else put x v cm) h' → SeqK s.heap h' →
      (∀ b o, ¬ Fm.at env [x] b → s.heap.get? b = some o → h'.get? b = some o) → Q () { s with heap := h', toks := tk }) : wpAny M A (storeName env x v) Q E s := by
  have hp : (env.scope.kind == .class || (env.scope.kind == .module && env.locals != env.globals)) = false := by rw [hk]; rfl
  by_cases hl : env.kindOf x = some .local
  · refine wpAny_storeName_local hl f.ns (fun h' hn hs => ?_) hp
    have := h h' (s.toks + 1)
    rw [if_pos hl, if_pos hl] at this
    refine this ⟨hn, f.has, fun n hn' c hc' hk' => (f.cell n hn' c hc' hk').sameBut hs (f.off n hn' hk' c hc'), f.apart, f.off⟩ (fun b o e q => hs.extBut b o (fun z => ?_) e) fun b o hb e => hs.extBut b o (fun z => hb (.inl z)) e
    subst z
    obtain ⟨o', es, ep, ho', hd', _⟩ := f.ns
    rw [e] at ho'; cases ho'
    obtain ⟨xs, k, q⟩ := q
    rw [hd'] at q; cases q
  · have hcell : env.kindOf x = some .cell := (kind_or hx).resolve_left hl
    obtain ⟨c, hc⟩ := f.has x hT hcell
    have hcx := f.cell x hT c hc hcell
    refine wpAny_storeName_cell hk hcell hc hcx fun h' hc' hs => ?_
    have := h h' s.toks
    rw [if_neg hl, if_neg hl] at this
    refine this ⟨f.ns.sameBut hs (Ne.symm (f.off x hT hcell c hc)), f.has, fun n hn c' hn' hk' => ?_, f.apart, f.off⟩ (fun b o e q => hs.extBut b o (fun z => ?_) e) fun b o hb e => hs.extBut b o (fun z => hb (.inr ⟨x, List.mem_singleton.mpr rfl, hcell, z ▸ hc⟩)) e
    · by_cases hnx : n = x
      · subst hnx
        rw [hc] at hn'; cases hn'
        simpa [put] using hc'
      · have hne : c' ≠ c := f.apart n hn x hT c' c hk' hcell hn' hc hnx
        have := (f.cell n hn c' hn' hk').sameBut hs hne
        simpa [put, hnx] using this
    · subst z
      obtain ⟨o', ho', hd'⟩ := hcx
      rw [e] at ho'; cases ho'
      obtain ⟨xs, k, q⟩ := q
      rw [hd'] at q; cases q
/-- what is read back -/
theorem Fm.nameIs {env : Env} {T : List Str} {m cm : Str → Option Value} {h : Heap} {x : Str} {v : Value} (f : Fm env T m cm h) (hx : locOrCell env.scope x = true) (hT : x ∈ T)
    (hv : (if env.kindOf x = some .local then m x else cm x) = some v) : NameIs env h x v := by
  by_cases hl : env.kindOf x = some .local
  · rw [if_pos hl] at hv; exact .loc m hl f.ns hv
  · rw [if_neg hl] at hv
    have hcell : env.kindOf x = some .cell := (kind_or hx).resolve_left hl
    obtain ⟨c, hc⟩ := f.has x hT hcell
    exact .cell c hcell hc (hv ▸ f.cell x hT c hc hcell)
theorem put_here (x : Str) (v : Value) (m : Str → Option Value) : put x v m x = some v := by simp [put]
theorem put_other {x y : Str} (v : Value) (m : Str → Option Value) (h : y ≠ x) : put x v m y = m y := by simp [put, h]
theorem stored_here {env : Env} {x : Str} {v : Value} {m cm : Str → Option Value} :
    (if env.kindOf x = some .local then (if env.kindOf x = some .local then put x v m else m) x else (if env.kindOf x = some .local then cm else put x v cm) x) = some v := by
  split <;> rename_i h <;> simp [h, put_here]
theorem stored_other {env : Env} {x y : Str} {v u : Value} {m cm : Str → Option Value} (hne : y ≠ x) (hv : (if env.kindOf y = some .local then m y else cm y) = some u) :
    (if env.kindOf y = some .local then (if env.kindOf x = some .local then put x v m else m) y else (if env.kindOf x = some .local then cm else put x v cm) y) = some u := by
  split at hv <;> rename_i hy <;> simp only [hy, if_true, if_false] <;> (split <;> first | exact hv | (rw [put_other _ _ hne]; exact hv))
noncomputable def tgtNames (e : Expr) : List Str := match nmOf e with
  | some x => [x]
  | none => match twoOf e with
    | some q => [q.1, q.2]
    | none => []
theorem at_sub {env : Env} {T T' : List Str} (h : ∀ x ∈ T, x ∈ T') {b : Addr} : Fm.at env T b → Fm.at env T' b
  | .inl e => .inl e
  | .inr ⟨n, hn, e⟩ => .inr ⟨n, h n hn, e⟩
theorem tgt_cases {sc : Scope} {target : Expr} (h : tgtOk sc target = true) : (∃ x pos, target = .Name x pos) ∨ ∃ x px y py k pos, target = .Tuple [.Name x px, .Name y py] k pos := by
  unfold tgtOk at h
  cases h1 : nmOf target with
  | some x => obtain ⟨p, e⟩ := nmOf_some h1; exact .inl ⟨_, _, e⟩
  | none =>
    rw [h1] at h
    cases h2 : twoOf target with
    | none => rw [h2] at h; cases h
    | some q => obtain ⟨px, py, k, p, e⟩ := twoOf_some h2; exact .inr ⟨_, _, _, _, _, _, e⟩
/-- a target takes its thing -/
theorem assign_target {w : World} {A : Around} {E : Value → Shared → Prop} {s : Shared} {env : Env} {X : Addr → Prop} {T : List Str} {m cm : Str → Option Value} {target : Expr} {v : Value} {d : D} {Q : Unit → Shared → Prop} (hh : A.handled = none)
    (f : Fm env T m cm s.heap) (hsz : ∀ b, Fm.at env T b → ∃ o, s.heap.get? b = some o) (hk : env.scope.kind = .function) (ht : tgtOk env.scope target = true) (hT : ∀ x ∈ tgtNames target, x ∈ T) (it : Item X target s.heap v d)
    (h : ∀ h' tk m' cm', Fm env T m' cm' h' → SeqK s.heap h' → (∀ b o, ¬ Fm.at env (tgtNames target) b → s.heap.get? b = some o → h'.get? b = some o) →
      (∀ y b d', (bindD target d).lookup y = some (b, d') → ∃ u, NameIs env h' y u ∧ RpB X h' u d' ∧ (b = true → Own X u)) →
      (∀ y u, y ∉ tgtNames target → (if env.kindOf y = some .local then m y else cm y) = some u → (if env.kindOf y = some .local then m' y else cm' y) = some u) → Q () { s with heap := h', toks := tk }) :
    wpAny (Md w) A (assign target env v) Q E s := by
  rcases tgt_cases ht with ⟨x, pos, rfl⟩ | ⟨x, px, y, py, k, pos, rfl⟩
  · obtain ⟨r, o⟩ := it
    refine wpAny_assign_Name (fm_store f hk ht (hT x (List.mem_singleton.mpr rfl)) fun h' tk f' sk kp => ?_)
    refine h h' tk _ _ f' sk kp (fun y b d' e => ?_) fun y u hy e => stored_other (fun z => hy (List.mem_singleton.mpr z)) e
    replace e : List.lookup y [(x, true, d)] = some (b, d') := e
    simp only [List.lookup_cons, List.lookup_nil] at e
    split at e
    · rename_i hyx
      cases e
      have := beq_iff_eq.mp hyx; subst this
      exact ⟨v, f'.nameIs ht (hT y (List.mem_singleton.mpr rfl)) stored_here, r.seq sk, fun _ => o⟩
    · cases e
  · obtain ⟨d1, d2, rfl, r⟩ := it
    replace ht : (locOrCell env.scope x && (locOrCell env.scope y && !(x == y))) = true := ht
    simp only [Bool.and_eq_true, Bool.not_eq_true', beq_eq_false_iff_ne, ne_eq] at ht
    obtain ⟨hx, hy, hxy⟩ := ht
    obtain ⟨a, v1, v2, rfl, hl, ⟨r1, o1⟩, r2, o2⟩ := r.pair_inv
    rw [assign_Tuple]
    refine wpAny_bind (wpAny_standAt ?_)
    unfold unpack
    refine wpAny_bind (wpAny_holding ?_)
    refine unpackItems_tuple (items := #[v1, v2]) hh hl fun h₁ ex => ?_
    have hnew : ∀ b o, s.heap.get? b = some o → h₁.get? b = some o := fun b o e => ex b o (fun z => by rw [z, get_size] at e; cases e) e
    have xT := hT x List.mem_cons_self
    have yT := hT y (List.mem_cons_of_mem _ List.mem_cons_self)
    have f₁ : Fm env T m cm h₁ := f.ext fun b o hb e => hnew b o e
    show wpAny _ A (assignInOrder [assign (.Name x px) env, assign (.Name y py) env] [v1, v2]) Q E _
    unfold assignInOrder
    refine wpAny_bind (wpAny_holding (wpAny_assign_Name (fm_store f₁ hk hx xT fun h₂ tk₂ f₂ sk₂ kp₂ => ?_)))
    unfold assignInOrder
    refine wpAny_bind (wpAny_holding (wpAny_assign_Name (fm_store f₂ hk hy yT fun h₃ tk₃ f₃ sk₃ kp₃ => ?_)))
    unfold assignInOrder
    refine wpAny_pure ?_
    have sk : SeqK s.heap h₃ := (SeqK.ext hnew).trans (sk₂.trans sk₃)
    refine h h₃ tk₃ _ _ f₃ sk (fun b o hb e => kp₃ b o (fun z => hb (at_sub (fun u hu => List.mem_cons_of_mem _ hu) z)) (kp₂ b o (fun z => hb (at_sub (fun u hu => List.mem_singleton.mp hu ▸ List.mem_cons_self) z)) (hnew b o e))) (fun z b d' e => ?_) fun z u hz e => ?_
    · replace e : List.lookup z [(x, true, d1), (y, true, d2)] = some (b, d') := e
      simp only [List.lookup_cons, List.lookup_nil] at e
      split at e
      · rename_i hzx
        cases e
        have := beq_iff_eq.mp hzx; subst this
        exact ⟨v1, f₃.nameIs hx xT (stored_other hxy stored_here), r1.seq sk, fun _ => o1⟩
      · split at e
        · rename_i hzy
          cases e
          have := beq_iff_eq.mp hzy; subst this
          exact ⟨v2, f₃.nameIs hy yT stored_here, r2.seq sk, fun _ => o2⟩
        · cases e
    · replace hz : z ∉ [x, y] := hz
      simp only [List.mem_cons, List.not_mem_nil, or_false, not_or] at hz
      exact stored_other hz.2 (stored_other hz.1 e)
end Mine

open PySem PySem.W PyProof.Rows PySem.AutoIntOps
set_option Elab.async false
set_option linter.unusedVariables false
set_option linter.unusedSimpArgs false
namespace Mine
/-! ## the closure and the frame of a comprehension -/
noncomputable def clFold (env : Env) : List (Str × NameKind) → List (Str × Addr) → List (Str × Addr)
  | [], cs => cs
  | (n, k) :: r, cs => clFold env r (if k == .free then (match env.cells.lookup n with | some c => (n, c) :: cs | none => cs) else cs)
theorem closure_go {env : Env} (f : Str × NameKind → List (Str × Addr) → Sem (ForInStep (List (Str × Addr))))
    (hf : ∀ n k cs, f (n, k) cs = if k == .free then (do let c ← cellOf env n; pure (.yield ((n, c) :: cs))) else pure (.yield cs)) :
    ∀ (names : List (Str × NameKind)) (cs : List (Str × Addr)), (∀ y ∈ names, y.2 = .free → ∃ c, env.cells.lookup y.1 = some c) → forIn names cs f = pure (clFold env names cs)
  | [], cs, _ => rfl
  | (n, k) :: r, cs, h => by
    rw [List.forIn_cons, hf]
    unfold clFold
    by_cases hk : (k == NameKind.free) = true
    · obtain ⟨c, hc⟩ := h (n, k) List.mem_cons_self (by first | exact of_decide_eq_true hk | exact of_decide_eq_false hk | exact bne_iff_ne.mp hk | exact eq_of_beq hk | simpa using hk)
      rw [if_pos hk, if_pos hk]
      have : cellOf env n = pure c := by unfold cellOf; rw [hc]
      rw [this, hc]
      exact closure_go f hf r _ fun y hy => h y (List.mem_cons_of_mem _ hy)
    · rw [if_neg hk, if_neg hk]
      exact closure_go f hf r _ fun y hy => h y (List.mem_cons_of_mem _ hy)
theorem closure_eq {scope : Scope} {env : Env} (h : ∀ y ∈ scope.names, y.2 = .free → ∃ c, env.cells.lookup y.1 = some c) : closureFor scope env = pure (clFold env scope.names []) := by
  simp only [closureFor]
  have := closure_go (env := env) (fun (x : Str × NameKind) (cs : List (Str × Addr)) => if x.2 == .free then (do let c ← cellOf env x.1; pure (.yield ((x.1, c) :: cs))) else pure (.yield cs)) (fun _ _ _ => rfl) scope.names [] h
  refine Eq.trans ?_ (congrArg (· >>= fun cs => pure cs) this)
  first
    | rfl
    | (congr 1; congr 1; funext x cs; split <;> rfl)
theorem clFold_lookup {env : Env} {y : Str} {c : Addr} (hy : env.cells.lookup y = some c) : ∀ (names : List (Str × NameKind)) (cs : List (Str × Addr)), ((y, NameKind.free) ∈ names ∨ cs.lookup y = some c) → (∀ d, cs.lookup y = some d → d = c) → (clFold env names cs).lookup y = some c
  | [], cs, h, _ => h.resolve_left (fun q => nomatch q)
  | (n, k) :: r, cs, h, hd => by
    unfold clFold
    by_cases hk : (k == NameKind.free) = true
    · rw [if_pos hk]
      cases hn : env.cells.lookup n with
      | none =>
        refine clFold_lookup hy r cs (h.imp (fun q => ?_) id) hd
        rcases List.mem_cons.mp q with e | q
        · cases e; rw [hy] at hn; cases hn
        · exact q
      | some c' =>
        by_cases hny : y = n
        · subst hny
          rw [hy] at hn; cases hn
          exact clFold_lookup hy r _ (.inr (by simp [List.lookup_cons])) (fun d e => by simp [List.lookup_cons] at e; exact e.symm)
        · have hb : (y == n) = false := by first | exact of_decide_eq_true hny | exact of_decide_eq_false hny | exact bne_iff_ne.mp hny | exact eq_of_beq hny | simpa using hny
          refine clFold_lookup hy r _ (h.imp (fun q => ?_) fun q => by simpa [List.lookup_cons, hb] using q) (fun d e => hd d (by simpa [List.lookup_cons, hb] using e))
          rcases List.mem_cons.mp q with e | q
          · cases e; exact absurd rfl hny
          · exact q
    · rw [if_neg hk]
      refine clFold_lookup hy r cs (h.imp (fun q => ?_) id) hd
      rcases List.mem_cons.mp q with e | q
      · cases e; exact absurd rfl hk
      · exact q
/-- the cells of a new frame -/
theorem cellsFrom_other {y : Str} : ∀ (names : List (Str × NameKind)) (k : Nat) (acc : List (Str × Addr)), (y, NameKind.cell) ∉ names → (cellsFrom k names acc).lookup y = acc.lookup y
  | [], _, _, _ => rfl
  | (n, kd) :: r, k, acc, h => by
    unfold cellsFrom
    split
    · rename_i hk
      rw [cellsFrom_other r _ _ (fun q => h (List.mem_cons_of_mem _ q))]
      have hne : (y == n) = false := by
        by_cases e : y = n
        · exfalso
          subst e
          have : kd = .cell := by first | exact of_decide_eq_true hk | exact of_decide_eq_false hk | exact bne_iff_ne.mp hk | exact eq_of_beq hk | simpa using hk
          subst this
          exact h List.mem_cons_self
        · simpa using e
      rw [List.lookup_cons, hne]
    · exact cellsFrom_other r _ _ (fun q => h (List.mem_cons_of_mem _ q))
/-- each cell name has a cell of its own, above k -/
theorem cellsFrom_own : ∀ (names : List (Str × NameKind)) (k : Nat) (acc : List (Str × Addr)) (y : Str), (y, NameKind.cell) ∈ names → ∃ c, (cellsFrom k names acc).lookup y = some c ∧ k ≤ c
  | [], _, _, _, h => nomatch h
  | (n, kd) :: r, k, acc, y, h => by
    unfold cellsFrom
    split
    · rename_i hk
      by_cases hin : (y, NameKind.cell) ∈ r
      · obtain ⟨c, e, l⟩ := cellsFrom_own r (k + 1) ((n, k) :: acc) y hin
        exact ⟨c, e, Nat.le_of_succ_le l⟩
      · rcases List.mem_cons.mp h with e | q
        · cases e
          exact ⟨k, by rw [cellsFrom_other r _ _ hin]; simp [List.lookup_cons], Nat.le_refl _⟩
        · exact absurd q hin
    · rename_i hk
      rcases List.mem_cons.mp h with e | q
      · cases e; exact absurd rfl hk
      · exact cellsFrom_own r k acc y q
theorem cellsFrom_mem : ∀ (names : List (Str × NameKind)) (k : Nat) (acc : List (Str × Addr)) (y : Str) (c : Addr), (y, c) ∈ cellsFrom k names acc → (y, c) ∈ acc ∨ k ≤ c
  | [], _, _, _, _, h => .inl h
  | (n, kd) :: r, k, acc, y, c, h => by
    unfold cellsFrom at h
    split at h
    · rcases cellsFrom_mem r _ _ y c h with q | q
      · rcases List.mem_cons.mp q with e | q
        · cases e; exact .inr (Nat.le_refl _)
        · exact .inl q
      · exact .inr (Nat.le_of_succ_le q)
    · exact cellsFrom_mem r _ _ y c h
/-- two new cells of two names differ -/
theorem cellsFrom_apart : ∀ (names : List (Str × NameKind)) (k : Nat) (acc : List (Str × Addr)), (∀ y c, (y, c) ∈ acc → c < k) → ∀ y y' c, k ≤ c → (y, c) ∈ cellsFrom k names acc → (y', c) ∈ cellsFrom k names acc → y = y'
  | [], k, acc, ha, y, y', c, hk, h, _ => absurd (ha y c h) (Nat.not_lt.mpr hk)
  | (n, kd) :: r, k, acc, ha, y, y', c, hk, h, h' => by
    unfold cellsFrom at h h'
    split at h
    · rename_i hkd
      rw [if_pos hkd] at h'
      have ha' : ∀ y c, (y, c) ∈ (n, k) :: acc → c < k + 1 := fun y c q => by
        rcases List.mem_cons.mp q with e | q
        · cases e; exact Nat.lt_succ_self _
        · exact Nat.lt_succ_of_lt (ha y c q)
      by_cases hck : k + 1 ≤ c
      · exact cellsFrom_apart r _ _ ha' y y' c hck h h'
      · have hc : c = k := Nat.le_antisymm (Nat.le_of_not_lt hck) hk
        subst hc
        have one : ∀ z, (z, c) ∈ cellsFrom (c + 1) r ((n, c) :: acc) → z = n := fun z q => by
          rcases cellsFrom_mem r _ _ z c q with q | q
          · rcases List.mem_cons.mp q with e | q
            · cases e; rfl
            · exact absurd (ha z c q) (Nat.lt_irrefl _)
          · exact absurd q (Nat.not_succ_le_self _)
        rw [one y h, one y' h']
    · rename_i hkd
      rw [if_neg hkd] at h'
      exact cellsFrom_apart r _ _ ha y y' c hk h h'
theorem pushCells_at : ∀ (names : List (Str × NameKind)) (h : Heap) (acc : List (Str × Addr)) (y : Str) (c : Addr), (y, c) ∈ cellsFrom h.objs.size names acc → h.objs.size ≤ c → ((y, c) ∈ acc → False) → (pushCells h names).IsCell c none
  | [], h, acc, y, c, hm, _, hn => (hn hm).elim
  | (n, kd) :: r, h, acc, y, c, hm, hk, hn => by
    unfold cellsFrom at hm
    unfold pushCells
    split at hm
    · rename_i hkd
      rw [if_pos hkd]
      by_cases hc : c = h.objs.size
      · subst hc
        exact ⟨_, pushCells_keeps r _ _ _ (Heap.get?_push_size _ rfl), rfl⟩
      · have := pushCells_at r (h.push { cls := .type "cell", data := .cell none }) ((n, h.objs.size) :: acc) y c (by rw [Heap.size_push]; exact hm) (by rw [Heap.size_push]; exact Nat.lt_of_le_of_ne hk (Ne.symm hc))
        refine this fun q => ?_
        rcases List.mem_cons.mp q with e | q
        · cases e; exact hc rfl
        · exact hn q
    · rename_i hkd
      rw [if_neg hkd]
      exact pushCells_at r h acc y c hm hk hn
theorem compEnv_new {M : Model} {A : Around} {E : Value → Shared → Prop} {s : Shared} {scope : Scope} {env : Env} {cl : List (Str × Addr)} {Q : Env → Shared → Prop}
    (h : Q { scope, locals := s.heap.objs.size, globals := env.globals, cells := cellsFrom (s.heap.objs.size + 1) scope.names cl, qual := env.qual, func := none, code := env.code, frame := env.frame, builtins := env.builtins }
      { s with heap := pushCells (s.heap.push { cls := .type "dict", data := .dict #[] }) scope.names }) :
    wpAny M A (newFunctionEnv scope env.globals cl [] env.qual none .none (some env)) Q E s := by
  simp only [newFunctionEnv, Option.isSome_some, if_true]
  refine wpAny_bind (wpAny_alloc ?_)
  refine wpAny_bind (wpAny_layCells _ (fun name kind cells => by cases hkc : kind == NameKind.cell <;> simp [hkc]) _ _ _ _ ?_)
  rw [show ({ s with heap := s.heap.push { cls := .type "dict", data := .dict #[] } } : Shared).heap.objs.size = s.heap.objs.size + 1 from Heap.size_push ..]
  refine wpAny_bind ?_
  rw [List.forIn_nil]
  exact wpAny_pure (wpAny_pure h)
/-- the goal under a name while things are taken apart -/
theorem hide {G : Prop} (h : ∀ R : Prop, (G → R) → R) : G := h G id
/-- what is wanted behind, told by a name: it keeps the proofs small -/
theorem wpAny_gen {M : Model} {A : Around} {α : Type} {m : Sem α} {Q : α → Shared → Prop} {E : Value → Shared → Prop} {s : Shared} (h : ∀ Q' : α → Shared → Prop, (∀ v s', Q v s' → Q' v s') → wpAny M A m Q' E s) : wpAny M A m Q E s := h Q fun _ _ q => q
theorem wpAny_gen2 {M : Model} {A : Around} {α : Type} {m : Sem α} {Q : α → Shared → Prop} {E : Value → Shared → Prop} {s : Shared} (h : ∀ (Q' : α → Shared → Prop) (E' : Value → Shared → Prop), (∀ v s', Q v s' → Q' v s') → wpAny M A m Q' E' s) : wpAny M A m Q E s := h Q E fun _ _ q => q
theorem codeAny_gen {M : Model} {A : Around} {c : Code} {R : Result → Shared → Prop} {s : Shared} (h : ∀ R' : Result → Shared → Prop, (∀ r s', R r s' → R' r s') → codeAny M A c R' s) : codeAny M A c R s := h R fun _ _ q => q
end Mine

open PySem PySem.W PyProof.Rows PySem.AutoIntOps
set_option Elab.async false
set_option linter.unusedVariables false
set_option linter.unusedSimpArgs false
namespace Mine
theorem none_above {h h' : Heap} {a : Addr} (k : Ext h h') (ha : h'.objs.size ≤ a) : h.get? a = none := by
  cases q : h.get? a with
  | none => rfl
  | some o => exact absurd (Heap.lt_size (k _ _ q)) (Nat.not_lt.mpr ha)
/-- a test -/
noncomputable def EvT (w : World) (n : Nat) (X : Addr → Prop) (env : Env) (sc : Scope) (ρ : List (Str × Bool × D)) (c : Expr) (v : Bool) : Prop :=
  ∀ (A : Around) (s : Shared) (E : Value → Shared → Prop), Rm n A → Cx w X env sc ρ s.heap → wpAny (Md w) A (isTrue c env (eval c env)) (fun b s' => b = v ∧ Keeps s s') E s
noncomputable def EvTs (w : World) (n : Nat) (X : Addr → Prop) (env : Env) (sc : Scope) (ρ : List (Str × Bool × D)) (ifs : List Expr) (v : Bool) : Prop :=
  match ifs with
  | [] => v = true
  | [c] => EvT w n X env sc ρ c v
  | _ => False
theorem tests_run {w : World} {n : Nat} {X : Addr → Prop} {env : Env} {sc : Scope} {ρ : List (Str × Bool × D)} {ifs : List Expr} {v : Bool} {A : Around} {s : Shared} {E : Value → Shared → Prop} (h : EvTs w n X env sc ρ ifs v) (hA : Rm n A) (C : Cx w X env sc ρ s.heap) :
    wpAny (Md w) A (forIn ifs true fun c r => if r = true then do let ok ← isTrue c env (eval c env); pure (ForInStep.yield ok) else pure (ForInStep.yield r)) (fun b s' => b = v ∧ Keeps s s') E s := by
  match ifs, h with
  | [], h => exact wpAny_tests_nil ⟨h.symm, keeps_refl s⟩
  | [c], h => exact wpAny_tests_one (h A s E hA C)
/-- what the text of a comprehension must be (all by looking) -/
structure CompText (scope sc : Scope) (ρ ρ' : List (Str × Bool × D)) (target : Expr) (rn : List Str := []) : Prop where
  fn : scope.kind = .function
  tgt : tgtOk (relS scope sc) target = true
  cellT : ∀ x ∈ tgtNames target, (relS scope sc).names.lookup x = some .cell → (x, NameKind.cell) ∈ scope.names
  names : ∀ x ∈ scope.names, x.2 = .local → scope.names.lookup x.1 = some .local
  free : ∀ y ∈ scope.names, y.2 = .free → ((∃ b d, ρ.lookup y.1 = some (b, d)) ∨ y.1 ∈ rn) ∧ (sc.names.lookup y.1 = some .cell ∨ sc.names.lookup y.1 = some .free)
  cap : ∀ y b d, ρ'.lookup y = some (b, d) → (y, NameKind.free) ∈ scope.names ∧ scope.names.lookup y = some .free ∧ (y, NameKind.cell) ∉ scope.names ∧ ρ.lookup y = some (b, d) ∧ (y == ("__classdict__" : Str)) = false
theorem lookup_relS_free {scope sc : Scope} {y : Str} (hs : scope.names.lookup y = some .free) : (relS scope sc).names.lookup y = some .cell ∨ (relS scope sc).names.lookup y = some .free := by
  unfold relS
  dsimp only
  have key : ∀ l : List (Str × NameKind), l.lookup y = some .free → (l.map fun x : Str × NameKind => match x with | (n, k) => if (k == .free && sc.kind == .function && sc.names.lookup n == some .cell) then (n, NameKind.cell) else (n, k)).lookup y = some .cell ∨
      (l.map fun x : Str × NameKind => match x with | (n, k) => if (k == .free && sc.kind == .function && sc.names.lookup n == some .cell) then (n, NameKind.cell) else (n, k)).lookup y = some .free := by
    intro l
    induction l with
    | nil => intro h; cases h
    | cons p r ih =>
      obtain ⟨m, k⟩ := p
      intro h
      rw [List.lookup_cons] at h
      rw [List.map_cons]
      cases hb : y == m with
      | true =>
        rw [hb] at h
        cases h
        dsimp only
        split
        · left; rw [List.lookup_cons, hb]
        · right; rw [List.lookup_cons, hb]
      | false =>
        rw [hb] at h
        have e : ∀ k' : NameKind, (((m, k') : Str × NameKind) :: (r.map fun x : Str × NameKind => match x with | (n, k) => if (k == .free && sc.kind == .function && sc.names.lookup n == some .cell) then (n, NameKind.cell) else (n, k))).lookup y =
            (r.map fun x : Str × NameKind => match x with | (n, k) => if (k == .free && sc.kind == .function && sc.names.lookup n == some .cell) then (n, NameKind.cell) else (n, k)).lookup y := fun k' => by rw [List.lookup_cons, hb]
        dsimp only
        split <;> (rw [e]; exact ih h)
  exact key _ hs
theorem NameIs.captured {env cenv : Env} {h : Heap} {y : Str} {v : Value} {scope : Scope} (hsc : cenv.scope = relS scope env.scope) (hs : scope.names.lookup y = some .free) (hl : cenv.cells.lookup y = env.cells.lookup y) (hn : (y == ("__classdict__" : Str)) = false)
    (hk : env.scope.names.lookup y = some .cell ∨ env.scope.names.lookup y = some .free) (nm : NameIs env h y v) : NameIs cenv h y v := by
  have key : ∃ c, env.cells.lookup y = some c ∧ h.IsCell c (some v) := by
    cases nm with
    | loc m a _ _ => exfalso; have a' : env.scope.names.lookup y = some .local := a; rw [a'] at hk; rcases hk with e | e <;> cases e
    | cell c _ b d => exact ⟨c, b, d⟩
    | free c _ b d _ => exact ⟨c, b, d⟩
  obtain ⟨c, hc, hv⟩ := key
  rcases lookup_relS_free (sc := env.scope) hs with e | e
  · exact .cell c (by show cenv.scope.names.lookup y = _; rw [hsc]; exact e) (hl.trans hc) hv
  · exact .free c (by show cenv.scope.names.lookup y = _; rw [hsc]; exact e) (hl.trans hc) hv hn
theorem Bs.frame {H h h' : Heap} (B : Bs w h) (BH : Bs w H) (k : ∀ c o', H.get? c = some o' → ∀ o, h.get? c = some o → h'.get? c = some o) : Bs w h' := by
  refine ⟨fun c o e => k c o (BH.inK c o e) o (B.inK c o e), ?_⟩
  obtain ⟨mg, mb, T⟩ := B.top
  obtain ⟨mg', mb', T'⟩ := BH.top
  have ns : ∀ {a : Addr} {m m' : Str → Option Value}, H.Ns a m' → h.Ns a m → h'.Ns a m := fun {a m m'} q r => by
    obtain ⟨o', _, _, ho', _⟩ := q
    exact r.at' fun o e => k a o' ho' o e
  obtain ⟨mc, a, b⟩ := T.nolimit
  obtain ⟨mc', a', b'⟩ := T'.nolimit
  exact ⟨mg, mb, ns T'.g T.g, ns T'.b T.b, ⟨mc, ns a' a, b⟩, T.builtins, T.free⟩
/-- what others may change meanwhile, and its state turn by turn -/
structure JK (X : Addr → Prop) (h₀ : Heap) (Ja : Addr → Prop) (JS : Nat → Heap → Prop) : Prop where
  inX : ∀ b, Ja b → X b
  obj : ∀ b, Ja b → ∃ o, h₀.get? b = some o ∧ ∃ fs, o.data = .fields fs
  keep : ∀ i h h', JS i h → (∀ b o, Ja b → h.get? b = some o → h'.get? b = some o) → JS i h'
  live : ∀ i h, JS i h → ∀ b, Ja b → ∃ o, h.get? b = some o
noncomputable def KB (Ja : Addr → Prop) (h h' : Heap) : Prop := ∀ b o, ¬ Ja b → h.get? b = some o → h'.get? b = some o
theorem JK.no (X : Addr → Prop) (h₀ : Heap) : JK X h₀ (fun _ => False) fun _ _ => True := ⟨fun _ q => q.elim, fun _ q => q.elim, fun _ _ _ _ _ => trivial, fun _ _ _ _ q => q.elim⟩
theorem NameIs.but {env : Env} {h h' : Heap} {x : Str} {v : Value} (k : ∀ b o, (∀ fs, o.data ≠ .fields fs) → h.get? b = some o → h'.get? b = some o) : NameIs env h x v → NameIs env h' x v
  | .loc m a b c => .loc m a (b.at' fun o e => by
      obtain ⟨o', _, _, ho, hd, _⟩ := b
      rw [e] at ho; cases ho
      exact k _ o (fun fs z => by rw [hd] at z; cases z) e) c
  | .cell c a b ⟨o, ho, hd⟩ => .cell c a b ⟨o, k _ o (fun fs z => by rw [hd] at z; cases z) ho, hd⟩
  | .free c a b ⟨o, ho, hd⟩ e => .free c a b ⟨o, k _ o (fun fs z => by rw [hd] at z; cases z) ho, hd⟩ e
/-- what a turn's terms do -/
noncomputable def BodyJ (w : World) (A : Around) (X : Addr → Prop) (h₀ : Heap) (Ja : Addr → Prop) (JS : Nat → Heap → Prop) (cenv : Env) (scope sc : Scope) (target elt : Expr) (ifs : List Expr) (ρ' : List (Str × Bool × D)) {α : Type} (l : List α) (g : α → D) (p : α → Bool) (f : α → D) : Prop :=
  ∀ i x, l[i]? = some x → ∀ X' (s₃ : Shared) (E : Value → Shared → Prop), Fr2 X X' h₀ → (∀ a, X a → X' a) → Cx w X' cenv (relS scope sc) (bindD target (g x) ++ ρ') s₃.heap → KB Ja h₀ s₃.heap → JS i s₃.heap →
    wpAny (Md w) A (forIn ifs true fun c r => if r = true then do let ok ← isTrue c cenv (eval c cenv); pure (ForInStep.yield ok) else pure (ForInStep.yield r)) (fun b s' => b = p x ∧ Keeps s₃ s') E s₃ ∧
    (p x = true → wpAny (Md w) A (eval elt cenv) (fun v s' => RpB X' s'.heap v (f x) ∧ Own X' v ∧ (∃ h' tk, s' = { s₃ with heap := h', toks := tk } ∧ KB Ja s₃.heap h' ∧ Bs w h') ∧ JS (i + 1) s'.heap) E s₃)
section
variable {w : World} {n : Nat} {X : Addr → Prop} {env : Env} {sc : Scope} {ρ ρ' : List (Str × Bool × D)} {A : Around} {E : Value → Shared → Prop} {s : Shared}
theorem lookup_append {α : Type} (l r : List (Str × α)) (y : Str) : (l ++ r).lookup y = (l.lookup y).or (r.lookup y) := by
  induction l with
  | nil => rfl
  | cons p l ih =>
    obtain ⟨k, v⟩ := p
    rw [List.cons_append, List.lookup_cons, List.lookup_cons]
    cases y == k <;> simp [ih]
/-- between the turns of a comprehension -/
inductive CInv (s : Shared) (St : Nat → Heap → Prop) (cenv : Env) (T : List Str) (Da : Addr) (X' : Addr → Prop) (vals : Nat → List D) (K : Nat → Heap → Prop) (N k : Nat) (s' : Shared) : Prop
  | mk (h' : Heap) (tk : Nat) (m cm : Str → Option Value) (ys : List Value) (i : Nat) : s' = { s with heap := h', toks := tk } → St i h' → Fm cenv T m cm h' → h'.PlainList Da ys.toArray → RpL X' h' ys (vals i) → K i h' → i ≤ N → k = N + 1 - i → CInv s St cenv T Da X' vals K N k s'
/-- the loop of a comprehension -/
theorem comp_loop {elt target iter : Expr} {ifs : List Expr} {scope : Scope} {pos : Pos} {α : Type} {l : List α} {g : α → D} {ds : List D} {p : α → Bool} {f : α → D} {h₀ : Heap} {I : Addr} {fp wr : List Addr} {P Mi : Nat → Value → Heap → Prop} {St : Nat → Heap → Prop} {cenv : Env} {Da : Addr} {R : Result → Shared → Prop} {rn : List Str} {Ja : Addr → Prop} {JS : Nat → Heap → Prop}
    (hds : ds = l.map g) (hA : Rm n A) (C₀ : Cx w X env sc ρ h₀) (tx : CompText scope sc ρ ρ' target rn) (W : KTurns PySem.Challenge.pw_ta0079_01 w A target I fp wr ds.length P Mi St)
    (hwr : ∀ b ∈ wr, h₀.get? b = none) (hlive : ∀ i h, St i h → ∀ b ∈ wr, ∃ o, h.get? b = some o)
    (hitem : ∀ X', Fr2 X X' h₀ → ∀ i d v h, ds[i]? = some d → P i v h → ExtQ X h₀ h → Item X' target h v d)
    (hbody : BodyJ w A X h₀ Ja JS cenv scope sc target elt ifs ρ' l g p f) (hskip : ∀ i x h, l[i]? = some x → p x = false → JS i h → JS (i + 1) h) (J : JK X h₀ Ja JS) (hJf : ∀ b, Ja b → b ∉ fp) (hJ0 : JS 0 s.heap) (B₀ : Bs w s.heap)
    (hsc : cenv.scope = relS scope sc) (hgl : cenv.globals = mainGlobals) (hbl : cenv.builtins = builtinsNs)
    (hcl : ∀ y b d, ρ'.lookup y = some (b, d) → cenv.cells.lookup y = env.cells.lookup y)
    (hst : St 0 s.heap) (hfm : ∃ m cm, Fm cenv (tgtNames target) m cm s.heap) (hacc : s.heap.PlainList Da #[]) (k₀ : KB Ja h₀ s.heap)
    (hDa : h₀.get? Da = none) (hDf : Da ∉ fp) (hDm : ¬ Fm.at cenv (tgtNames target) Da) (hmf : ∀ b, Fm.at cenv (tgtNames target) b → h₀.get? b = none ∧ b ∉ fp) (hsz : ds.length ≤ sizeLine)
    (hR : ∀ h' tk m cm ys X', (∀ a, X a → X' a) → X' cenv.locals ∧ X' Da → Fr2 X X' h₀ → Fm cenv (tgtNames target) m cm h' → h'.PlainList Da ys.toArray → RpL X' h' ys ((l.filter p).map f) → KB Ja h₀ h' → Bs w h' → JS l.length h' → R (.ok .next) { s with heap := h', toks := tk }) :
    codeAny (Md w) A (.compLoop (.ListComp elt [⟨target, iter, ifs, 0⟩] scope pos) 0 (.ref I) (.ref Da) cenv) R s := by
  let X' : Addr → Prop := fun a => X a ∨ a ∈ wr ∨ a = Da ∨ Fm.at cenv (tgtNames target) a
  have hX' : Fr2 X X' h₀ := fun a q => by
    rcases q with q | q | q | q
    · exact .inl q
    · exact .inr (hwr a q)
    · exact .inr (q ▸ hDa)
    · exact .inr (hmf a q).1
  have hk : cenv.scope.kind = .function := by rw [hsc]; exact tx.fn
  have hDw : Da ∉ wr := fun q => hDf (W.sub _ q)
  have hmw : ∀ b, Fm.at cenv (tgtNames target) b → b ∉ wr := fun b q z => (hmf b q).2 (W.sub _ z)
  obtain ⟨m, cm, hfm⟩ := hfm
  have hll : l.length = ds.length := by rw [hds, List.length_map]
  have hJn : ∀ b, h₀.get? b = none → ¬ Ja b := fun b e z => by obtain ⟨o, q, _⟩ := J.obj b z; rw [e] at q; cases q
  have hJw : ∀ b, Ja b → b ∉ wr := fun b z q => hJn b (hwr b q) z
  have hJm : ∀ b, Ja b → ¬ Fm.at cenv (tgtNames target) b := fun b z q => hJn b (hmf b q).1 z
  have hJD : Da ≠ Da ∨ ¬ Ja Da := .inr (hJn Da hDa)
  have hJD : ¬ Ja Da := hJn Da hDa
  refine codeAny_loop rfl (CInv s St cenv (tgtNames target) Da X' (fun i => ((l.take i).filter p).map f) (fun i h' => KB Ja h₀ h' ∧ Bs w h' ∧ JS i h') ds.length) ?_ (ds.length + 1)
    ⟨s.heap, s.toks, m, cm, [], 0, rfl, hst, hfm, hacc, by simpa using RpL.nil, ⟨k₀, B₀, hJ0⟩, Nat.zero_le _, rfl⟩
  intro k s' q
  refine hide fun R kR => ?_
  obtain ⟨h', tk, m, cm, ys, i, rfl, hst', f', ha, hy, ⟨k', B', J'⟩, hi, rfl⟩ := q
  replace hy : RpL X' h' ys (((l.take i).filter p).map f) := hy
  refine kR ?_
  clear kR R
  show wpAny _ A ((compTurn (.ListComp elt [⟨target, iter, ifs, 0⟩] scope pos) 0 (.ref I) (.ref Da) cenv).onRaise (fun x => do noteFrame x cenv; theTreesLotGoes x)) _ _ _
  refine wpAny_noted (wpAny_gen2 fun Q' E' hQ' => ?_)
  rw [compTurn_list]
  refine wpAny_bind (wpAny_standAt (wpAny_bind ?_))
  by_cases hlt : i < ds.length
  · refine W.item i _ _ _ hlt hst' fun v h₁ tk₁ hMd hk₁ => ?_
    dsimp only at hk₁
    refine wpAny_bind (W.go i v _ _ _ hMd fun h₂ hP hst₂ hk₂ => ?_)
    dsimp only at hk₂
    obtain ⟨x, hx⟩ : ∃ x, l[i]? = some x := ⟨l[i]'(by first | exact Nat.le_trans (by assumption) (by decide) | omega), by simp⟩
    have hbx := hbody i x hx
    have hd : ds[i]? = some (g x) := by rw [hds, List.getElem?_map, hx]; rfl
    generalize g x = d at hd hbx
    have k12 : ∀ b o, b ∉ wr → h'.get? b = some o → h₂.get? b = some o := fun b o hb e => hk₂ b o hb (hk₁ b o hb e)
    have kk : KB Ja h₀ h₂ := fun b o hj e => k12 b o (fun q => by rw [hwr b q] at e; cases e) (k' b o hj e)
    have B₂ : Bs w h₂ := B'.frame C₀.base fun c o' e' o e => k12 c o (fun q => by rw [hwr c q] at e'; cases e') e
    have J₂ : JS i h₂ := J.keep _ _ _ J' fun b o hb e => k12 b o (hJw b hb) e
    have f₂ : Fm cenv (tgtNames target) m cm h₂ := f'.ext fun b o hb e => k12 b o (hmw b hb) e
    have kX : ∀ b o, ¬ X' b → h'.get? b = some o → h₂.get? b = some o := fun b o hb e => k12 b o (fun q => hb (.inr (.inl q))) e
    have hy₂ : RpL X' h₂ ys _ := hy.extX kX
    have ha₂ : h₂.PlainList Da ys.toArray := ha.at fun o e => k12 _ o hDw e
    refine wpAny_bind (assign_target hA.handled f₂ (fun b q => ?_) hk (by rw [hsc]; exact tx.tgt) (fun x q => q) (hitem X' hX' i d v h₂ hd hP fun b o hb e _ => kk b o (fun z => hb (J.inX b z)) e) fun h₃ tk₃ m₃ cm₃ f₃ sk₃ kp₃ bnd₃ _ => ?_)
    · rcases q with q | ⟨y, hyT, hyk, hyc⟩
      · subst q; obtain ⟨o, _, _, ho, _⟩ := f₂.ns; exact ⟨o, ho⟩
      · obtain ⟨o, ho, _⟩ := f₂.cell y hyT b hyc hyk; exact ⟨o, ho⟩
    dsimp only at kp₃ sk₃
    have kk₃ : KB Ja h₀ h₃ := fun b o hj e => kp₃ b o (fun q => by rw [(hmf b q).1] at e; cases e) (kk b o hj e)
    have B₃ : Bs w h₃ := B₂.frame C₀.base fun c o' e' o e => kp₃ c o (fun q => by rw [(hmf c q).1] at e'; cases e') e
    have J₃ : JS i h₃ := J.keep _ _ _ J₂ fun b o hb e => kp₃ b o (hJm b hb) e
    have nof : ∀ b o, (∀ fs, o.data ≠ .fields fs) → h₀.get? b = some o → h₃.get? b = some o := fun b o hf e => kk₃ b o (fun z => by
      obtain ⟨o', e', fs, q⟩ := J.obj b z
      rw [e] at e'; cases e'
      exact hf fs q) e
    have sk0 : SeqK h₀ h₃ := fun b o e q => nof b o (fun fs z => by obtain ⟨_, _, q⟩ := q; rw [q] at z; cases z) e
    have hst₃ : St (i + 1) h₃ := W.frame _ _ _ hst₂ fun b hb o e => kp₃ b o (fun q => (hmf b q).2 hb) e
    have hy₃ : RpL X' h₃ ys _ := hy₂.seq sk₃
    have ha₃ : h₃.PlainList Da ys.toArray := ha₂.at fun o e => kp₃ _ o hDm e
    have low₃ : ∀ a, X' a → ∃ o, h₃.get? a = some o := fun a q => by
      rcases q with q | q | q | q
      · by_cases z : Ja a
        · exact J.live _ _ J₃ a z
        · obtain ⟨o, e⟩ := C₀.low a q; exact ⟨o, kk₃ _ _ z e⟩
      · exact hlive _ _ hst₃ a q
      · subst q; obtain ⟨_, e⟩ := ha₃; exact ⟨_, e⟩
      · rcases q with q | ⟨y, hyT, hyk, hyc⟩
        · subst q; obtain ⟨o, _, _, ho, _⟩ := f₃.ns; exact ⟨o, ho⟩
        · obtain ⟨o, ho, _⟩ := f₃.cell y hyT a hyc hyk; exact ⟨o, ho⟩
    have C₃ : Cx w X' cenv (relS scope sc) (bindD target d ++ ρ') h₃ := by
      refine ⟨B₃, hsc, tx.fn, hgl, hbl, low₃, fun y b d' e => ?_⟩
      rw [lookup_append] at e
      cases hbd : (bindD target d).lookup y with
      | some q =>
        rw [hbd] at e
        obtain rfl : q = (b, d') := by first | exact of_decide_eq_true e | exact of_decide_eq_false e | exact bne_iff_ne.mp e | exact eq_of_beq e | simpa using e
        exact bnd₃ y b d' hbd
      | none =>
        rw [hbd] at e
        have e' : ρ'.lookup y = some (b, d') := by first | exact of_decide_eq_true e | exact of_decide_eq_false e | exact bne_iff_ne.mp e | exact eq_of_beq e | simpa using e
        obtain ⟨c1, c2, c3, c4, c5⟩ := tx.cap y b d' e'
        obtain ⟨u, nm, r, o⟩ := C₀.vars y b d' c4
        obtain ⟨_, hkd⟩ := tx.free (y, .free) c1 rfl
        refine ⟨u, NameIs.captured (by rw [hsc, C₀.scope]) c2 (hcl y b d' e') c5 (by rw [C₀.scope]; exact hkd) (nm.but nof), (r.more hX').seq sk0, fun hb => (o hb).more hX' r⟩
    refine wpAny_bind (wpAny_mono (hbx X' _ _ hX' (fun a q => .inl q) C₃ kk₃ J₃).1 (fun ok s₄ h₄ => ?_) fun _ _ x => x)
    obtain ⟨rfl, h₄, tk₄, rfl, k₄⟩ := h₄
    dsimp only at k₄
    have kk₄ : KB Ja h₀ h₄ := fun b o hj e => k₄ b o (kk₃ b o hj e)
    have J₄ : JS i h₄ := J.keep _ _ _ J₃ fun b o _ e => k₄ b o e
    have tk' : l.take (i + 1) = l.take i ++ [x] := by simp [List.take_add_one, hx]
    cases hp : p x with
    | false =>
      simp only [Bool.false_eq_true, if_false]
      refine wpAny_bind (wpAny_pure (wpAny_pure (hQ' (.again _) _ ⟨rfl, ds.length + 1 - (i + 1), by first | exact Nat.sub_lt_sub_left (Nat.lt_succ_of_lt hlt) (Nat.lt_succ_self _) | omega, h₄, tk₄, m₃, cm₃, ys, i + 1, rfl, W.frame _ _ _ hst₃ fun b _ o e => k₄ b o e, f₃.ext fun b o _ e => k₄ b o e, ha₃.at fun o e => k₄ _ o e, ?_, ⟨kk₄, B₃.ext k₄, hskip i x _ hx hp J₄⟩, hlt, rfl⟩)))
      show RpL X' h₄ ys (((l.take (i + 1)).filter p).map f)
      rw [tk', List.filter_append]
      simpa [hp] using hy₃.ext k₄
    | true =>
      simp only [if_true]
      refine wpAny_bind (wpAny_bind (wpAny_mono ((hbx X' _ _ hX' (fun a q => .inl q) (C₃.ext k₄) kk₄ J₄).2 hp) (fun v₅ s₅ h₅ => ?_) fun _ _ x => x))
      obtain ⟨r₅, o₅, ⟨h₅, tk₅, rfl, k₅, B₅⟩, J₅⟩ := h₅
      dsimp only at r₅ k₅ J₅
      have ha₅ : h₅.PlainList Da ys.toArray := (ha₃.at fun o e => k₄ _ o e).at fun o e => k₅ _ o hJD e
      have hlen : ys.length ≤ ds.length := by
        have := hy.length
        rw [this, List.length_map]
        exact Nat.le_trans (List.length_filter_le _ _) (by rw [List.length_take]; omega)
      refine wpAny_bind (wpAny_list_append_plain ha₅ (fun h₆ ha₆ hs₆ => ?_) (by simpa using Nat.le_trans hlen hsz))
      have hX6 : ∀ b o, ¬ X' b → h₅.get? b = some o → h₆.get? b = some o := fun b o hb e => hs₆.extBut b o (fun z => hb (.inr (.inr (.inl z)))) e
      refine wpAny_pure (wpAny_pure (hQ' (.again _) _ ⟨rfl, ds.length + 1 - (i + 1), by first | exact Nat.sub_lt_sub_left (Nat.lt_succ_of_lt hlt) (Nat.lt_succ_self _) | omega, h₆, tk₅, m₃, cm₃, ys ++ [v₅], i + 1, rfl, W.frame _ _ _ hst₃ fun b hb o e => hs₆.extBut b o (fun z => hDf (z ▸ hb)) (k₅ b o (fun z => hJf b z hb) (k₄ b o e)), f₃.ext fun b o hb e => hs₆.extBut b o (fun z => hDm (z ▸ hb)) (k₅ b o (fun z => hJm b z hb) (k₄ b o e)), ?_, ?_, ⟨fun b o hj e => hs₆.extBut b o (fun z => by subst z; rw [hDa] at e; cases e) (k₅ b o hj (kk₄ b o hj e)),
        B₅.frame C₀.base fun c o' e' o e => hs₆.extBut c o (fun z => by subst z; rw [hDa] at e'; cases e') e, J.keep _ _ _ J₅ fun b o hb e => hs₆.extBut b o (fun z => hJD (z ▸ hb)) e⟩, hlt, rfl⟩))
      · have e : (ys ++ [v₅]).toArray = ys.toArray.push v₅ := by simp
        rw [e]; exact ha₆
      · show RpL X' h₆ (ys ++ [v₅]) (((l.take (i + 1)).filter p).map f)
        rw [tk', List.filter_append]
        have := (((hy₃.ext k₄).extX fun b o hb e => k₅ b o (fun z => hb (.inl (J.inX b z))) e).append (RpL.one r₅ o₅)).extX hX6
        simpa [hp] using this
  · have hin : i = ds.length := by omega
    subst hin
    refine W.done _ _ _ hst' fun h₁ tk₁ hk₁ => ?_
    dsimp only at hk₁
    refine wpAny_pure (hQ' (.done _) _ ?_)
    refine hR h₁ tk₁ m cm ys X' (fun a q => .inl q) ⟨.inr (.inr (.inr (.inl rfl))), .inr (.inr (.inl rfl))⟩ hX' (f'.ext fun b o hb e => hk₁ b o (hmw b hb) e) (ha.at fun o e => hk₁ _ o hDw e) ?_ (fun b o hj e => hk₁ b o (fun q => by rw [hwr b q] at e; cases e) (k' b o hj e)) (B'.frame C₀.base fun c o' e' o e => hk₁ c o (fun q => by rw [hwr c q] at e'; cases e') e) (hll ▸ J.keep _ _ _ J' fun b o hb e => hk₁ b o (hJw b hb) e)
    rw [← hll, List.take_length] at hy
    exact hy.extX fun b o hb e => hk₁ b o (fun q => hb (.inr (.inl q))) e
end
end Mine

open PySem PySem.W PyProof.Rows PySem.AutoIntOps
set_option Elab.async false
set_option linter.unusedVariables false
set_option linter.unusedSimpArgs false
namespace Mine
section
variable {w : World} {n : Nat} {X : Addr → Prop} {env : Env} {sc : Scope} {ρ ρ' : List (Str × Bool × D)} {A : Around} {E : Value → Shared → Prop} {s : Shared}
/-- a name that a block within reads: its cell -/
theorem cell_of {h : Heap} {y : Str} {v : Value} (hs : env.scope = sc) (hkd : sc.names.lookup y = some .cell ∨ sc.names.lookup y = some .free) (nm : NameIs env h y v) : ∃ c, env.cells.lookup y = some c ∧ ∃ o, h.get? c = some o := by
  cases nm with
  | loc m a _ _ =>
    exfalso
    have a' : env.scope.names.lookup y = some .local := a
    rw [hs] at a'; rw [a'] at hkd; rcases hkd with e | e <;> cases e
  | cell c _ b x => obtain ⟨o, ho, _⟩ := x; exact ⟨c, b, o, ho⟩
  | free c _ b x _ => obtain ⟨o, ho, _⟩ := x; exact ⟨c, b, o, ho⟩
theorem named_of {h : Heap} {rn : List Str} {y : Str} (C₀ : Cx w X env sc ρ h) (hrn : ∀ y ∈ rn, ∃ v, NameIs env h y v) (q : (∃ b d, ρ.lookup y = some (b, d)) ∨ y ∈ rn) : ∃ v, NameIs env h y v := by
  rcases q with ⟨b, d, e⟩ | q
  · obtain ⟨v, nm, _⟩ := C₀.vars _ _ _ e; exact ⟨v, nm⟩
  · exact hrn y q
theorem clFold_lives {h : Heap} {rn : List Str} (C₀ : Cx w X env sc ρ h) (hrn : ∀ y ∈ rn, ∃ v, NameIs env h y v) : ∀ (names : List (Str × NameKind)) (cs : List (Str × Addr)), (∀ y ∈ names, y.2 = .free → ((∃ b d, ρ.lookup y.1 = some (b, d)) ∨ y.1 ∈ rn) ∧ (sc.names.lookup y.1 = some .cell ∨ sc.names.lookup y.1 = some .free)) →
    (∀ y c, (y, c) ∈ cs → ∃ o, h.get? c = some o) → ∀ y c, (y, c) ∈ clFold env names cs → ∃ o, h.get? c = some o
  | [], cs, _, h => h
  | (m, k) :: r, cs, hfr, h => by
    unfold clFold
    refine clFold_lives C₀ hrn r _ (fun y hy => hfr y (List.mem_cons_of_mem _ hy)) ?_
    split
    · rename_i hk
      split
      · rename_i c hc
        intro y c' hm
        rcases List.mem_cons.mp hm with e | hm
        · cases e
          obtain ⟨q, hkd⟩ := hfr (m, k) List.mem_cons_self (by first | exact of_decide_eq_true hk | exact of_decide_eq_false hk | exact bne_iff_ne.mp hk | exact eq_of_beq hk | simpa using hk)
          obtain ⟨v, nm⟩ := named_of C₀ hrn q
          obtain ⟨c2, b2, o, ho⟩ := cell_of C₀.scope hkd nm
          rw [hc] at b2; cases b2
          exact ⟨o, ho⟩
        · exact h y c' hm
      · exact h
    · exact h
/-- a comprehension, whatever is done with its list and whatever its turns change -/
theorem comp_coreJ {elt target iter : Expr} {ifs : List Expr} {scope : Scope} {pos : Pos} {α : Type} {l : List α} {g : α → D} {p : α → Bool} {f : α → D} {use : Option (Value → Sem Unit)} {Q : Value → Shared → Prop} {rn : List Str} {Ja : Addr → Prop} {JS : Nat → Heap → Prop}
    (hA : Rm n A) (C₀ : Cx w X env sc ρ s.heap) (tx : CompText scope sc ρ ρ' target rn) (hrn : ∀ y ∈ rn, ∃ v, NameIs env s.heap y v) {q : Bool} (hit : wpAny (Md w) A (eval iter env) (fun xv s₁ => wpAny (Md w) A (pyIter xv) (fun it s₂ => Keeps s s₂ ∧ IterOK w A X target q (l.map g) s.heap it s₂) E s₁) E s)
    (hbody : ∀ cenv : Env, cenv.scope = relS scope sc → (∀ y, (y, NameKind.free) ∈ scope.names → (y, NameKind.cell) ∉ scope.names → cenv.cells.lookup y = env.cells.lookup y) → BodyJ w A X s.heap Ja JS cenv scope sc target elt ifs ρ' l g p f)
    (hskip : ∀ i x h, l[i]? = some x → p x = false → JS i h → JS (i + 1) h) (J : JK X s.heap Ja JS) (hJq : q = true ∨ ∀ b, ¬ Ja b) (hJ0 : JS 0 s.heap)
    (hsz : l.length ≤ sizeLine)
    (hQ : ∀ (s' : Shared) (Da C : Addr) m, (∃ h' tk, s' = { s with heap := h', toks := tk } ∧ KB Ja s.heap h') → Bs w s'.heap → JS l.length s'.heap → s.heap.get? Da = none → s.heap.get? C = none → s'.heap.Ns C m → (∃ X' ys, (∀ a, X a → X' a) ∧ (X' C ∧ X' Da) ∧ Fr2 X X' s.heap ∧ s'.heap.PlainList Da ys ∧ RpL X' s'.heap ys.toList ((l.filter p).map f)) →
      compPost (Md w) A E use Q (.ref Da) C (.ok .next) s')
    (hs : ∀ x, foldedSetIterable iter env x = pure x := by intro _; rfl) :
    wpAny (Md w) A (comprehension (.ListComp elt [⟨target, iter, ifs, 0⟩] scope pos) scope env (firstIterPos [⟨target, iter, ifs, 0⟩] pos) (newList []) false (eval iter env) use) Q E s := by
  have hfree : ∀ y ∈ scope.names, y.2 = .free → ∃ c, env.cells.lookup y.1 = some c := fun y hy hk => by
    obtain ⟨q, hkd⟩ := tx.free y hy hk
    obtain ⟨v, nm⟩ := named_of C₀ hrn q
    obtain ⟨c, e, _⟩ := cell_of C₀.scope hkd nm
    exact ⟨c, e⟩
  refine wpAny_comprehension_free (cl := clFold env scope.names []) rfl hs (closure_eq hfree) tx.fn tx.names ?_
  refine wpAny_mono hit (fun xv s₁ h₁ => wpAny_mono h₁ (fun it s₂ h₂ => ?_) fun _ _ x => x) fun _ _ x => x
  refine hide fun R kR => ?_
  obtain ⟨k₂, I, fp, wr, P, Mi, St, rfl, W, hst, hfp, hwr, hlive, hqf, hitem, hself⟩ := h₂
  refine kR ?_
  clear kR R
  have hJf : ∀ b, Ja b → b ∉ fp := fun b z m => by
    rcases hJq with e | e
    · obtain ⟨o, e1, fs, e2⟩ := J.obj b z
      rcases hqf e b m with q | ⟨o', q, ⟨xs, k, e3⟩, _⟩
      · rw [e1] at q; cases q
      · rw [e1] at q; cases q; rw [e2] at e3; cases e3
    · exact e b z
  have hfp : ∀ b ∈ fp, b < s₂.heap.objs.size := fun b hb => let ⟨o, e⟩ := hfp b hb; Heap.lt_size e
  obtain ⟨H₂, tk₂, rfl, k₂⟩ := k₂
  dsimp only at hst hfp k₂
  refine wpAny_newObj_type (compEnv_new ?_)
  dsimp only
  generalize hH : H₂.push { cls := .type "list", dict := none, data := .seq ([] : List Value).toArray } = H₃
  have hC : H₃.objs.size = H₂.objs.size + 1 := by rw [← hH, Heap.size_push]
  generalize hN : pushCells (H₃.push { cls := .type "dict", data := .dict #[] }) scope.names = H₄
  have k23 : Ext H₂ H₃ := fun b o e => by rw [← hH]; exact Heap.get?_push_of_some _ e
  have k34 : Ext H₃ H₄ := fun b o e => by rw [← hN]; exact pushCells_keeps _ _ b o (Heap.get?_push_of_some _ e)
  have k24 : Ext H₂ H₄ := fun b o e => k34 b o (k23 b o e)
  have k₄ : Ext s.heap H₄ := fun b o e => k24 b o (k₂ b o e)
  have hDn : s.heap.get? H₂.objs.size = none := none_above k₂ (Nat.le_refl _)
  have hCn : s.heap.get? H₃.objs.size = none := none_above k₂ (by rw [hC]; exact Nat.le_succ _)
  let cenv : Env := { scope := relabel scope env, locals := H₃.objs.size, globals := env.globals, cells := cellsFrom (H₃.objs.size + 1) scope.names (clFold env scope.names []), qual := env.qual, func := none, code := env.code, frame := env.frame, builtins := env.builtins }
  have hsc : cenv.scope = relS scope sc := by show relabel scope env = _; rw [relS_eq, C₀.scope]
  have hownc : ∀ y c, cenv.cells.lookup y = some c → (y, NameKind.cell) ∈ scope.names → H₃.objs.size + 1 ≤ c := fun y c hc hm => by
    obtain ⟨c', e, l⟩ := cellsFrom_own scope.names (H₃.objs.size + 1) (clFold env scope.names []) y hm
    have : cenv.cells.lookup y = some c' := e
    rw [hc] at this; cases this; exact l
  have htc : ∀ x ∈ tgtNames target, cenv.kindOf x = some .cell → (x, NameKind.cell) ∈ scope.names := fun x hx hk => tx.cellT x hx (by rw [← hsc]; exact hk)
  have hns : H₄.Ns H₃.objs.size (fun _ => none) := by
    rw [← hN]; exact (Heap.Ns.new H₃ (.type "dict")).keeps (pushCells_keeps _ _)
  have memOf : ∀ y c, cenv.cells.lookup y = some c → (y, c) ∈ cellsFrom (H₃.objs.size + 1) scope.names (clFold env scope.names []) := fun y c e => mem_of_lookup e
  have hlow : ∀ y c, (y, c) ∈ clFold env scope.names [] → c < H₃.objs.size + 1 := fun y c q => by
    obtain ⟨o, ho⟩ := clFold_lives C₀ hrn scope.names [] tx.free (fun _ _ q => nomatch q) y c q
    exact Nat.lt_succ_of_lt (Heap.lt_size (k23 _ _ (k₂ _ _ ho)))
  have hcell : ∀ x ∈ tgtNames target, ∀ c, cenv.cells.lookup x = some c → cenv.kindOf x = some .cell → H₄.IsCell c none := fun x hx c hc hk => by
    have hm := memOf x c hc
    have hle := hownc x c hc (htc x hx hk)
    have hsz3 : (H₃.push { cls := .type "dict", data := .dict #[] }).objs.size = H₃.objs.size + 1 := Heap.size_push ..
    have := pushCells_at scope.names (H₃.push { cls := .type "dict", data := .dict #[] }) (clFold env scope.names []) x c (by rw [hsz3]; exact hm) (by rw [hsz3]; exact hle) (fun q => absurd (hlow x c q) (Nat.not_lt.mpr hle))
    rw [← hN]; exact this
  have hfm : Fm cenv (tgtNames target) (fun _ => none) (fun _ => none) H₄ := by
    refine ⟨hns, fun x hx hk => ?_, hcell, fun x hx y hy c c' hkx hky hcx hcy hne => fun e => ?_, fun x hx hk c hc e => ?_⟩
    · obtain ⟨c, e, _⟩ := cellsFrom_own scope.names (H₃.objs.size + 1) (clFold env scope.names []) x (htc x hx hk)
      exact ⟨c, e⟩
    · subst e
      exact hne (cellsFrom_apart scope.names (H₃.objs.size + 1) (clFold env scope.names []) hlow x y c (hownc x c hcx (htc x hx hkx)) (memOf x c hcx) (memOf y c hcy))
    · have := hownc x c hc (htc x hx hk)
      have e' : c = H₃.objs.size := e
      rw [e'] at this
      exact Nat.not_succ_le_self _ this
  have hmf : ∀ b, Fm.at cenv (tgtNames target) b → H₃.objs.size ≤ b := fun b q => by
    rcases q with q | ⟨x, hx, hk, hc⟩
    · exact Nat.le_of_eq q.symm
    · exact Nat.le_of_succ_le (hownc x b hc (htc x hx hk))
  have hrun : ∀ sx : Shared, sx.heap = H₄ → sx = { s with heap := H₄, toks := sx.toks } → codeAny (Md w) A (.compLoop (.ListComp elt [⟨target, iter, ifs, 0⟩] scope pos) 0 (.ref I) (.ref H₂.objs.size) cenv) (compPost (Md w) A E use Q (.ref H₂.objs.size) cenv.locals) sx := by
    intro sx hx hsx
    have hst4 : St 0 sx.heap := by rw [hx]; exact W.frame _ _ _ hst fun b _ o e => k24 b o e
    have hcells : ∀ y, (y, NameKind.free) ∈ scope.names → (y, NameKind.cell) ∉ scope.names → cenv.cells.lookup y = env.cells.lookup y := fun y c1 c3 => by
      show (cellsFrom (H₃.objs.size + 1) scope.names (clFold env scope.names [])).lookup y = _
      rw [cellsFrom_other _ _ _ c3]
      obtain ⟨c, hc⟩ := hfree (y, .free) c1 rfl
      rw [clFold_lookup hc scope.names [] (.inl c1) (fun d e => by simp at e), hc]
    refine comp_loop rfl hA C₀ tx W hwr (fun i h st b hb => hlive i h st b hb) (fun X' hf i d v h e p k => hitem X' hf.three i d v h e p k) (hbody cenv hsc hcells) hskip J hJf (J.keep _ _ _ hJ0 fun b o _ e => by rw [hx]; exact k₄ b o e) (by rw [hx]; exact C₀.base.ext k₄) hsc C₀.glob C₀.blt (fun y b d e => by
      obtain ⟨c1, c2, c3, c4, c5⟩ := tx.cap y b d e
      exact hcells y c1 c3) hst4 ⟨_, _, by rw [hx]; exact hfm⟩ ?_ (by rw [hx]; exact fun b o _ e => k₄ b o e) hDn (fun q => Nat.lt_irrefl _ (hfp _ q)) (fun q => ?_) (fun b q => ⟨none_above k₂ (Nat.le_trans (by rw [hC]; exact Nat.le_succ _) (hmf b q)), fun z => ?_⟩) (by first | exact of_decide_eq_true hsz | exact of_decide_eq_false hsz | exact bne_iff_ne.mp hsz | exact eq_of_beq hsz | simpa using hsz) ?_
    · rw [hx]
      exact ⟨0, k34 _ _ (by rw [← hH]; exact Heap.get?_push_size _ rfl)⟩
    · have := hmf _ q
      rw [hC] at this
      exact Nat.not_succ_le_self _ this
    · have h1 := hmf b q
      have h2 := hfp b z
      rw [hC] at h1
      exact Nat.lt_irrefl _ (Nat.lt_of_lt_of_le (Nat.lt_succ_of_lt h2) h1)
    · intro h' tk m cm ys X' hXX hXC hX' f' hl hy k' B' J'
      refine hQ _ _ _ m ⟨h', tk, by rw [hsx], k'⟩ B' J' hDn hCn f'.ns ⟨X', ys.toArray, hXX, hXC, hX', hl, by first | exact of_decide_eq_true hy | exact of_decide_eq_false hy | exact bne_iff_ne.mp hy | exact eq_of_beq hy | simpa using hy⟩
  refine codeAny_compStart_list (hrun _ rfl rfl) (hself _ _ _ ?_ (hrun _ rfl rfl))
  exact W.frame _ _ _ hst fun b _ o e => k24 b o e
/-- a comprehension, whatever is done with its list -/
theorem comp_core {elt target iter : Expr} {ifs : List Expr} {scope : Scope} {pos : Pos} {α : Type} {l : List α} {g : α → D} {p : α → Bool} {f : α → D} {use : Option (Value → Sem Unit)} {Q : Value → Shared → Prop}
    (hA : Rm n A) (C₀ : Cx w X env sc ρ s.heap) (tx : CompText scope sc ρ ρ' target) {q : Bool} (hit : wpAny (Md w) A (eval iter env) (fun xv s₁ => wpAny (Md w) A (pyIter xv) (fun it s₂ => Keeps s s₂ ∧ IterOK w A X target q (l.map g) s.heap it s₂) E s₁) E s)
    (hbody : ∀ d ∈ l, ∀ X' env', Fr2 X X' s.heap → EvTs w n X' env' (relS scope sc) (bindD target (g d) ++ ρ') ifs (p d) ∧ (p d = true → Ev w n X' env' (relS scope sc) (bindD target (g d) ++ ρ') true elt (f d)))
    (hsz : l.length ≤ sizeLine)
    (hQ : ∀ (s' : Shared) (Da C : Addr) m, Keeps s s' → s.heap.get? Da = none → s.heap.get? C = none → s'.heap.Ns C m → (∃ X' ys, (∀ a, X a → X' a) ∧ (X' C ∧ X' Da) ∧ Fr2 X X' s.heap ∧ s'.heap.PlainList Da ys ∧ RpL X' s'.heap ys.toList ((l.filter p).map f)) →
      compPost (Md w) A E use Q (.ref Da) C (.ok .next) s')
    (hs : ∀ x, foldedSetIterable iter env x = pure x := by intro _; rfl) :
    wpAny (Md w) A (comprehension (.ListComp elt [⟨target, iter, ifs, 0⟩] scope pos) scope env (firstIterPos [⟨target, iter, ifs, 0⟩] pos) (newList []) false (eval iter env) use) Q E s :=
  comp_coreJ hA C₀ tx (fun _ q => nomatch q) hit (fun cenv hsc _ i x hx X' s₃ E hf hw C k _ => ⟨tests_run (hbody x (List.mem_of_getElem? hx) X' cenv hf).1 hA C, fun hp => wpAny_mono ((hbody x (List.mem_of_getElem? hx) X' cenv hf).2 hp A s₃ E hA C) (fun v s' y => by
    obtain ⟨r, o, h', tk, rfl, k'⟩ := y
    exact ⟨r, o rfl, ⟨h', tk, rfl, fun b o _ e => k' b o e, C.base.ext k'⟩, trivial⟩) fun _ _ x => x⟩) (fun _ _ _ _ _ _ => trivial) (JK.no X s.heap) (.inr fun _ q => q) trivial hsz (fun s' Da Ca m k _ _ => hQ s' Da Ca m (by
      obtain ⟨h', tk, e, k⟩ := k
      exact ⟨h', tk, e, fun b o e => k b o (fun q => q) e⟩)) hs
/-- a comprehension's value, here -/
theorem run_comp {elt target iter : Expr} {ifs : List Expr} {scope : Scope} {pos : Pos} {α : Type} {l : List α} {g : α → D} {p : α → Bool} {f : α → D} {b q : Bool} (hA : Rm n A) (C : Cx w X env sc ρ s.heap)
    (tx : CompText scope sc ρ ρ' target) (hit : wpAny (Md w) A (eval iter env) (fun xv s₁ => wpAny (Md w) A (pyIter xv) (fun it s₂ => Keeps s s₂ ∧ IterOK w A X target q (l.map g) s.heap it s₂) E s₁) E s)
    (hbody : ∀ d ∈ l, ∀ X' env', EvTs w n X' env' (relS scope sc) (bindD target (g d) ++ ρ') ifs (p d) ∧ (p d = true → Ev w n X' env' (relS scope sc) (bindD target (g d) ++ ρ') true elt (f d)))
    (hsz : l.length ≤ sizeLine) (hs : ∀ x, foldedSetIterable iter env x = pure x := by intro _; rfl) : wpAny (Md w) A (eval (.ListComp elt [⟨target, iter, ifs, 0⟩] scope pos) env) (Yld X b (.lst ((l.filter p).map f)) s) E s := by
  rw [eval_ListComp]
  refine comp_core (use := none) hA C tx hit (fun d hd X' env' _ => hbody d hd X' env') hsz (fun s' Da Ca m k hD hC hn h => ?_) hs
  obtain ⟨X', ys, hw, ⟨hXC, hXD⟩, hf, hl, hr⟩ := h
  refine ⟨m, hn, fun h' hs' => ?_⟩
  have hne : Da ≠ Ca := by
    rintro rfl
    obtain ⟨o, _, _, ho, hd, _⟩ := hn
    obtain ⟨j, ho'⟩ := hl
    rw [ho] at ho'; cases ho'
    cases hd
  have kx : ExtX X' s'.heap h' := fun b o hb e => hs'.extBut b o (fun z => hb (z ▸ hXC)) e
  obtain ⟨H, tk, rfl, kk⟩ := k
  exact ⟨.lst (by simpa using hl.at fun o e => hs'.extBut _ o hne e) ((hr.extX kx).weak hw), fun _ => Own.fresh C.low hD, h', tk, rfl, fun b o e => hs'.extBut b o (fun z => by subst z; rw [hC] at e; cases e) (kk b o e)⟩
/-- a comprehension's value, its turns changing what is others' -/
theorem run_compJ {elt target iter : Expr} {ifs : List Expr} {scope : Scope} {pos : Pos} {α : Type} {l : List α} {g : α → D} {p : α → Bool} {f : α → D} {b : Bool} {rn : List Str} {Ja : Addr → Prop} {JS : Nat → Heap → Prop} (hA : Rm n A) (C : Cx w X env sc ρ s.heap)
    (tx : CompText scope sc ρ ρ' target rn) (hrn : ∀ y ∈ rn, ∃ v, NameIs env s.heap y v) (hit : wpAny (Md w) A (eval iter env) (fun xv s₁ => wpAny (Md w) A (pyIter xv) (fun it s₂ => Keeps s s₂ ∧ IterOK w A X target true (l.map g) s.heap it s₂) E s₁) E s)
    (hbody : ∀ cenv : Env, cenv.scope = relS scope sc → (∀ y, (y, NameKind.free) ∈ scope.names → (y, NameKind.cell) ∉ scope.names → cenv.cells.lookup y = env.cells.lookup y) → BodyJ w A X s.heap Ja JS cenv scope sc target elt ifs ρ' l g p f)
    (hskip : ∀ i x h, l[i]? = some x → p x = false → JS i h → JS (i + 1) h) (J : JK X s.heap Ja JS) (hJ0 : JS 0 s.heap)
    (hsz : l.length ≤ sizeLine) (hs : ∀ x, foldedSetIterable iter env x = pure x := by intro _; rfl) : wpAny (Md w) A (eval (.ListComp elt [⟨target, iter, ifs, 0⟩] scope pos) env) (fun v s' => RpB X s'.heap v (.lst ((l.filter p).map f)) ∧ Own X v ∧ (∃ h' tk, s' = { s with heap := h', toks := tk } ∧ KB Ja s.heap h') ∧ Bs w s'.heap ∧ JS l.length s'.heap) E s := by
  rw [eval_ListComp]
  refine comp_coreJ (use := none) hA C tx hrn hit hbody hskip J (.inl rfl) hJ0 hsz (fun s' Da Ca m k B J' hD hC hn h => ?_) hs
  obtain ⟨X', ys, hw, ⟨hXC, hXD⟩, hf, hl, hr⟩ := h
  refine ⟨m, hn, fun h' hs' => ?_⟩
  have hne : Da ≠ Ca := by
    rintro rfl
    obtain ⟨o, _, _, ho, hd, _⟩ := hn
    obtain ⟨j, ho'⟩ := hl
    rw [ho] at ho'; cases ho'
    cases hd
  have kx : ExtX X' s'.heap h' := fun b o hb e => hs'.extBut b o (fun z => hb (z ▸ hXC)) e
  obtain ⟨H, tk, rfl, kk⟩ := k
  have hC' : ∀ c o', s.heap.get? c = some o' → c ≠ Ca := fun c o' e z => by subst z; rw [hC] at e; cases e
  exact ⟨.lst (by simpa using hl.at fun o e => hs'.extBut _ o hne e) ((hr.extX kx).weak hw), Own.fresh C.low hD, ⟨h', tk, rfl, fun b o hj e => hs'.extBut b o (hC' b o e) (kk b o hj e)⟩,
    B.frame C.base fun c o' e' o e => hs'.extBut c o (hC' c o' e') e, J.keep _ _ _ J' fun b o hb e => hs'.extBut b o (fun z => by obtain ⟨o', e', _⟩ := J.obj b hb; exact hC' b o' e' z) e⟩
/-- a comprehension's value -/
theorem ev_comp {elt target iter : Expr} {ifs : List Expr} {scope : Scope} {pos : Pos} {α : Type} {l : List α} {g : α → D} {p : α → Bool} {f : α → D} {b : Bool}
    (tx : CompText scope sc ρ ρ' target) (hit : EvIt w n X env sc ρ target iter false (l.map g))
    (hbody : ∀ d ∈ l, ∀ X' env', EvTs w n X' env' (relS scope sc) (bindD target (g d) ++ ρ') ifs (p d) ∧ (p d = true → Ev w n X' env' (relS scope sc) (bindD target (g d) ++ ρ') true elt (f d)))
    (hsz : l.length ≤ sizeLine) (hs : ∀ x, foldedSetIterable iter env x = pure x := by intro _; rfl) : Ev w n X env sc ρ b (.ListComp elt [⟨target, iter, ifs, 0⟩] scope pos) (.lst ((l.filter p).map f)) :=
  fun A s E hA C => run_comp hA C tx (hit A s E hA C) hbody hsz hs
end
end Mine

open PySem PySem.W PyProof.Rows PySem.AutoIntOps
set_option Elab.async false
set_option linter.unusedVariables false
set_option linter.unusedSimpArgs false
namespace Mine
section
variable {w : World} {n : Nat} {X : Addr → Prop} {env : Env} {sc : Scope} {ρ ρ' : List (Str × Bool × D)} {A : Around} {E : Value → Shared → Prop} {s : Shared}
/-! # global names -/
noncomputable def GlobIs (w : World) (x : Str) (v : Value) : Prop := nsIn (KK w.params) mainGlobals x = some (some v) ∨ (nsIn (KK w.params) mainGlobals x = some none ∧ bootBuiltins x = some v ∧ x ≠ "__name__")
theorem load_glob {x : Str} {p : Pos} {v : Value} {Q : Value → Shared → Prop} (C : Cx w X env sc ρ s.heap) (hs : sc.names.lookup x = some .globalImplicit) (hg : GlobIs w x v) (q : Q v s) (hd : (x == ("__debug__" : Str)) = false := by decide) :
    wpAny (Md w) A (eval (.Name x p) env) Q E s := by
  refine wpAny_Name ?_ hd
  rw [loadName_read (C.scope ▸ C.fn) (by show env.scope.names.lookup x = _; rw [C.scope]; exact hs)]
  obtain ⟨mg, mb, T⟩ := C.base.top
  rcases hg with hg | ⟨hg, hb, hn⟩
  · unfold loadGlobal
    rw [C.glob]
    exact wpAny_bind ((looks_nsIn C.base.inK hg).here (wpAny_pure q))
  · exact PySem.Calls.loadGlobal_builtin (C.glob ▸ T.g) (mg_none_of C.base.inK T.g hg) (C.blt ▸ T.b) ((T.builtins x hn).trans hb) q
noncomputable def intC : (v : Value) → Option { q : Int × Tok // v = .int q.1 q.2 }
  | .int j t => some ⟨(j, t), rfl⟩
  | _ => none
noncomputable def gintOk (w : World) (x : Str) (i : Int) : Bool := match nsIn (KK w.params) mainGlobals x with
  | some (some v) => (intC v).any fun q => q.1.1 == i
  | _ => false
theorem gint_is {w : World} {x : Str} {i : Int} (h : gintOk w x i = true) : ∃ t, GlobIs w x (.int i t) := by
  unfold gintOk at h
  cases e : nsIn (KK w.params) mainGlobals x with
  | none => rw [e] at h; cases h
  | some u => cases u with
    | none => rw [e] at h; cases h
    | some v =>
      rw [e] at h
      obtain ⟨⟨⟨j, t⟩, rfl⟩, _, h⟩ := (Option.any_eq_true _ _).mp h
      obtain rfl := eq_of_beq h
      exact ⟨t, .inl e⟩
theorem ev_gint {x : Str} {p : Pos} {i : Int} {b : Bool} (hs : sc.names.lookup x = some .globalImplicit) (hg : gintOk w x i = true) (hd : (x == ("__debug__" : Str)) = false := by decide) : Ev w n X env sc ρ b (.Name x p) (.int i) :=
  fun A s E hA C => let ⟨t, hg⟩ := gint_is hg; load_glob C hs hg ⟨.int _ _, fun _ => .int, keeps_refl s⟩ hd
/-! # calls -/
inductive RpA (X : Addr → Prop) (h : Heap) : List Value → List D → Prop
  | nil : RpA X h [] []
  | cons {v : Value} {d : D} {vs : List Value} {ds : List D} : RpB X h v d → RpA X h vs ds → RpA X h (v :: vs) (d :: ds)
theorem RpA.ext {h h' : Heap} (k : Ext h h') {vs : List Value} {ds : List D} (r : RpA X h vs ds) : RpA X h' vs ds := by
  induction r with
  | nil => exact .nil
  | cons a _ ih => exact .cons (a.ext k) ih
theorem RpA.cons_inv {h : Heap} {vs : List Value} {d : D} {ds : List D} (r : RpA X h vs (d :: ds)) : ∃ v us, vs = v :: us ∧ RpB X h v d ∧ RpA X h us ds := by cases r; exact ⟨_, _, rfl, ‹_›, ‹_›⟩
theorem RpA.nil_inv {h : Heap} {vs : List Value} (r : RpA X h vs []) : vs = [] := by cases r; rfl
theorem RpA.one_inv {h : Heap} {vs : List Value} {d : D} (r : RpA X h vs [d]) : ∃ v, vs = [v] ∧ RpB X h v d := by
  obtain ⟨v, us, rfl, r1, r⟩ := r.cons_inv
  cases r.nil_inv
  exact ⟨v, rfl, r1⟩
inductive EvArgs (w : World) (n : Nat) (X : Addr → Prop) (env : Env) (sc : Scope) (ρ : List (Str × Bool × D)) : List Expr → List D → Prop
  | nil : EvArgs w n X env sc ρ [] []
  | cons {e : Expr} {d : D} {es : List Expr} {ds : List D} : Ev w n X env sc ρ false e d → starEach (e :: es) env = (false, eval e env) :: starEach es env → EvArgs w n X env sc ρ es ds → EvArgs w n X env sc ρ (e :: es) (d :: ds)
theorem args_run {pos : Pos} {es : List Expr} {ds : List D} {s : Shared} (a : EvArgs w n X env sc ρ es ds) (hA : Rm n A) (C : Cx w X env sc ρ s.heap) : wpAny (Md w) A (spliced (backTo pos (starEach es env))) (fun vs s' => RpA X s'.heap vs ds ∧ Keeps s s') E s := by
  induction a generalizing s with
  | nil => exact wpAny_items_nil ⟨.nil, keeps_refl s⟩
  | cons ha he hr ih =>
    refine wpAny_items_cons (wpAny_mono (ha A s E hA C) (fun v s₁ q => ?_) fun _ _ x => x) he
    obtain ⟨r1, _, k1⟩ := q
    refine wpAny_mono (ih (C.ext (keeps_ext k1))) (fun vs s₂ q => ?_) fun _ _ x => x
    exact ⟨.cons (r1.ext (keeps_ext q.2)) q.1, keeps_trans k1 q.2⟩
theorem backTo_plain {pos : Pos} {es : List Expr} {ds : List D} (a : EvArgs w n X env sc ρ es ds) : (backTo pos (starEach es env)).any (·.1) = false := by
  induction a with
  | nil => rfl
  | cons _ he _ ih => rw [he]; exact ih
/-- how the interpreter takes the thing that is called -/
noncomputable def KeepF (w : World) (f : Value) : Prop := (∃ a, f = .ref a ∧ keepIn (KK w.params) f = true) ∨ (∃ id, f = .builtin id) ∨ ∃ t, f = .type t
theorem callWith_any {pos : Pos} {f : Value} {first : List Value} {es : List Expr} {ds : List D} {Q : Value → Shared → Prop} (hf : KeepF w f) (ha : EvArgs w n X env sc ρ es ds) (hA : Rm n A) (C : Cx w X env sc ρ s.heap)
    (h : ∀ vs s', RpA X s'.heap vs ds → Keeps s s' → wpAny (Md w) A (call f (first ++ vs)) Q E s') :
    wpAny (Md w) A (callWith pos f first (backTo pos (starEach es env)) []) Q E s := by
  have hk : ∀ h, (KK w.params).In h → ∃ k, (k = Keeper.frame ∨ k = Keeper.machine ∨ k = Keeper.boundFrame) ∧ Looks (Md w) h (keeperOf f) k := by
    intro h X
    rcases hf with ⟨a, _, hk⟩ | ⟨id, rfl⟩ | ⟨t, rfl⟩
    · exact keeps_K hk h X
    · exact ⟨.machine, .inr (.inl rfl), Looks.of_pure rfl⟩
    · exact ⟨.machine, .inr (.inl rfl), Looks.of_pure rfl⟩
  cases ha with
  | nil =>
    refine callWith_of (P := (KK w.params).In) rfl hk (PySem.evalArgs_none ⟨C.base.inK, ?_⟩)
    exact h [] s .nil (keeps_refl s)
  | cons h1 he hr =>
    rename_i e d es ds
    have hp := backTo_plain (pos := pos) (EvArgs.cons h1 he hr)
    refine callWith_of (P := (KK w.params).In) (by rw [hp]; rfl) hk ?_
    have hrun := args_run (E := E) (pos := pos) (EvArgs.cons h1 he hr) hA C
    rw [he] at hrun ⊢
    refine PySem.Calls.evalArgs_plain (wpAny_mono hrun (fun vs s' q => ⟨C.base.inK.keeps (keeps_ext q.2), ?_⟩) fun _ _ x => x)
    exact h vs s' q.1 q.2
/-- a call of a thing that a global names -/
theorem call_glob {x : Str} {p pos : Pos} {f : Value} {es : List Expr} {ds : List D} {Q : Value → Shared → Prop} (hs : sc.names.lookup x = some .globalImplicit) (hg : GlobIs w x f) (hf : KeepF w f) (ha : EvArgs w n X env sc ρ es ds) (hA : Rm n A) (C : Cx w X env sc ρ s.heap)
    (h : ∀ vs s', RpA X s'.heap vs ds → Keeps s s' → wpAny (Md w) A (call f vs) Q E s') (hd : (x == ("__debug__" : Str)) = false := by decide) :
    wpAny (Md w) A (eval (.Call (.Name x p) es [] pos) env) Q E s :=
  wpAny_Call_NameR (load_glob C hs hg (callWith_any (first := []) hf ha hA C h) hd)
/-- a step on values -/
noncomputable def OpN (w : World) (n : Nat) (X : Addr → Prop) (b : Bool) (f : List Value → Sem Value) (ds : List D) (d : D) : Prop :=
  ∀ (A : Around) (s : Shared) (E : Value → Shared → Prop) (vs : List Value), Rm n A → Bs w s.heap → (∀ a, X a → ∃ o, s.heap.get? a = some o) → RpA X s.heap vs ds → wpAny (Md w) A (f vs) (Yld X b d s) E s
theorem ev_call {x : Str} {p pos : Pos} {f : Value} {es : List Expr} {ds : List D} {b : Bool} {d : D} (hs : sc.names.lookup x = some .globalImplicit) (hg : GlobIs w x f) (hf : KeepF w f) (ha : EvArgs w n X env sc ρ es ds) (h : OpN w n X b (fun vs => call f vs) ds d)
    (hd : (x == ("__debug__" : Str)) = false := by decide) : Ev w n X env sc ρ b (.Call (.Name x p) es [] pos) d :=
  fun A s E hA C => call_glob hs hg hf ha hA C (fun vs s' r k => wpAny_mono (h A s' E vs hA (C.base.ext (keeps_ext k)) (C.ext (keeps_ext k)).low r) (fun _ _ y => y.trans k) fun _ _ x => x) hd
/-! # the frame of a def -/
theorem bind_val {k : Str → Option NameKind} {x : Str} {v : Value} : ∀ {binds : List (Str × Value)} {m cm : Str → Option Value}, ((x, v) ∈ binds ∧ (binds.map (·.1)).Nodup ∨ (x ∉ binds.map (·.1) ∧ (if k x = some .local then m x else cm x) = some v)) →
    (if k x = some .local then bindL k binds m x else bindC k binds cm x) = some v
  | [], m, cm, h => by
    rcases h with ⟨h, _⟩ | ⟨_, h⟩
    · cases h
    · exact h
  | (y, u) :: r, m, cm, h => by
    show (if k x = some .local then bindL k r (if k y = some .local then fun z => if z = y then some u else m z else m) x else bindC k r (if k y = some .local then cm else fun z => if z = y then some u else cm z) x) = some v
    refine bind_val ?_
    rcases h with ⟨h, nd⟩ | ⟨h, hv⟩
    · rw [List.map_cons, List.nodup_cons] at nd
      rcases List.mem_cons.mp h with e | h
      · cases e
        refine .inr ⟨nd.1, ?_⟩
        by_cases hk : k x = some .local <;> simp [hk]
      · exact .inl ⟨h, nd.2⟩
    · rw [List.map_cons, List.mem_cons, not_or] at h
      refine .inr ⟨h.2, ?_⟩
      by_cases hk : k x = some .local
      · rw [if_pos hk] at hv ⊢
        by_cases hy : k y = some .local
        · rw [if_pos hy, if_neg h.1]; exact hv
        · rw [if_neg hy]; exact hv
      · rw [if_neg hk] at hv ⊢
        by_cases hy : k y = some .local
        · rw [if_pos hy]; exact hv
        · rw [if_neg hy, if_neg h.1]; exact hv
noncomputable def allNames (sc : Scope) : List Str := sc.names.map (·.1)
/-- a def of the text, entered: its names bound at s₁ -/
theorem def_entryB {s₁ : Shared} {f : Addr} {fd : FuncData} {od : Option Addr} {osl : Array (Option Value)} {oc : Value} {body : List Stmt} {args : Args} {binds : List (Str × Value)} {R : Result → Shared → Prop} {cd : Addr} {oc' : Value} {cdd : Option Addr} {cs : Array (Option Value)} {cvs : Array Value} {tq : Tok}
    (hA : Rm (n + 1) A) (B : Bs w s.heap) (hl : (KK w.params).lookup f = some ⟨oc, od, .func fd, osl⟩) (hb : fd.body = .stmts body) (hco : fd.scope.isCoroutine = false) (hgen : fd.scope.isGenerator = false) (hk : fd.scope.kind = .function) (hclo : fd.closure = []) (hglo : fd.globals = mainGlobals) (hblt : fd.builtins = builtinsNs)
    (hcode : fd.code = .ref cd) (hcl : (KK w.params).lookup cd = some ⟨oc', cdd, .fields cvs, cs⟩) (hq : cvs[1]? = some (.str fd.qualname tq))
    (k₁ : Keeps s s₁) (hbinds : ∀ (A' : Around) (Q' : List (Str × Value) → Shared → Prop) (E' : Value → Shared → Prop), Q' binds s₁ → wpAny (Md w) A' (bindArgs fd args) Q' E' s) (hnd : (binds.map (·.1)).Nodup) (hbk : ∀ x ∈ binds, locOrCell fd.scope x.1 = true)
    (h : ∀ env s' m cm, env.scope = fd.scope → env.globals = mainGlobals → env.builtins = builtinsNs → Fm env (allNames fd.scope) m cm s'.heap → (∀ x v, (x, v) ∈ binds → (if env.kindOf x = some .local then m x else cm x) = some v) → Keeps s₁ s' → (∀ b, Fm.at env (allNames fd.scope) b → s₁.heap.get? b = none) →
      wpAny (Md w) (A.deeper env) (execs body env) (fun fl s'' => R (.ok (.ret (match fl with | .ret v => v | _ => .none))) s'') (fun _ _ => False) s') :
    codeAny (Md w) A (.call (.ref f) args) R s := by
  obtain ⟨mg, mb, T⟩ := B.top
  have memC : ∀ x, fd.scope.names.lookup x = some .cell → (x, NameKind.cell) ∈ fd.scope.names := fun x e => mem_of_lookup e
  refine codeAny_call_function (by have := hA.depth; show _ < 1000; omega) (B.inK _ _ hl) rfl hco hgen hb ⟨cd, _, cvs, tq, hcode, B.inK _ _ hcl, rfl, hq⟩ ?_
  refine hbinds _ _ _ ?_
  rw [hclo, hglo]
  refine wpAny_newFunctionEnv_cells hk (fun x hx => ?_) fun env he s' ic => ?_
  · have := hbk x hx
    unfold locOrCell at this
    simp only [Bool.or_eq_true, beq_iff_eq] at this
    rcases this with e | e
    · exact .inl e
    · obtain ⟨c, hc, _⟩ := cellsFrom_own fd.scope.names (s₁.heap.objs.size + 1) [] x.1 (memC _ e)
      exact .inr ⟨e, by rw [hc]; rfl⟩
  have k := ic.toInCall.keep
  have hs' : Keeps s₁ s' := let ⟨h, t, e⟩ := ic.toInCall.same; ⟨h, t, e, by rw [e] at k; exact k⟩
  have hsc : env.scope = fd.scope := by rw [he]; rfl
  have hcells : env.cells = cellsFrom (s₁.heap.objs.size + 1) fd.scope.names [] := by rw [he]; rfl
  have hloc : env.locals = s₁.heap.objs.size := by rw [he]; rfl
  have hlive : ∀ x c, env.kindOf x = some .cell → env.cells.lookup x = some c → s₁.heap.objs.size + 1 ≤ c := fun x c hk hc => by
    obtain ⟨c', e, l⟩ := cellsFrom_own fd.scope.names (s₁.heap.objs.size + 1) [] x (memC x (by rw [← hsc]; exact hk))
    rw [← hcells, hc] at e; cases e; exact l
  refine ⟨T.nolimit.keeps (fun b o e => k b o (keeps_ext k₁ b o e)), codeAny_func (wpAny_mono (h env s' _ _ hsc (by rw [he]; rfl) (by rw [he]; exact hblt) ⟨ic.toInCall.ns, fun x hx hkx => ?_, fun x hx c hc _ => ic.cell x c hc, fun x hx y hy c c' hkx hky hcx hcy hne e => ?_, fun x hx hkx c hc e => ?_⟩ (fun x v hx => bind_val (.inl ⟨hx, hnd⟩)) hs' fun b hb => ?_) (fun _ _ x => x) fun _ _ x => x.elim)⟩
  · obtain ⟨c, e, _⟩ := cellsFrom_own fd.scope.names (s₁.heap.objs.size + 1) [] x (memC x (by rw [← hsc]; exact hkx))
    exact ⟨c, by rw [hcells]; exact e⟩
  · subst e
    exact hne (name_of_addr ic.apart (mem_of_lookup hcx) (mem_of_lookup hcy))
  · have := hlive x c hkx hc
    rw [e, hloc] at this
    exact Nat.not_succ_le_self _ this
  · rcases hb with e | ⟨x, hx, hkx, hc⟩
    · rw [e, hloc]; exact get_size _
    · have := hlive x b hkx hc
      cases q : s₁.heap.get? b with
      | none => rfl
      | some o => exact absurd (Heap.lt_size q) (Nat.not_lt.mpr (Nat.le_of_succ_le this))
/-- a def of the text, entered -/
theorem def_entry {f : Addr} {fd : FuncData} {od : Option Addr} {osl : Array (Option Value)} {oc : Value} {body : List Stmt} {args : Args} {binds : List (Str × Value)} {R : Result → Shared → Prop} {cd : Addr} {oc' : Value} {cdd : Option Addr} {cs : Array (Option Value)} {cvs : Array Value} {tq : Tok}
    (hA : Rm (n + 1) A) (B : Bs w s.heap) (hl : (KK w.params).lookup f = some ⟨oc, od, .func fd, osl⟩) (hb : fd.body = .stmts body) (hco : fd.scope.isCoroutine = false) (hgen : fd.scope.isGenerator = false) (hk : fd.scope.kind = .function) (hclo : fd.closure = []) (hglo : fd.globals = mainGlobals) (hblt : fd.builtins = builtinsNs)
    (hcode : fd.code = .ref cd) (hcl : (KK w.params).lookup cd = some ⟨oc', cdd, .fields cvs, cs⟩) (hq : cvs[1]? = some (.str fd.qualname tq))
    (hbinds : peek (KK w.params) ⟨PySem.Challenge.pw_ta0079_01, w.params⟩ (bindArgs fd args) = some binds) (hnd : (binds.map (·.1)).Nodup) (hbk : ∀ x ∈ binds, locOrCell fd.scope x.1 = true)
    (h : ∀ env s' m cm, env.scope = fd.scope → env.globals = mainGlobals → env.builtins = builtinsNs → Fm env (allNames fd.scope) m cm s'.heap → (∀ x v, (x, v) ∈ binds → (if env.kindOf x = some .local then m x else cm x) = some v) → Keeps s s' → (∀ b, Fm.at env (allNames fd.scope) b → s.heap.get? b = none) →
      wpAny (Md w) (A.deeper env) (execs body env) (fun fl s'' => R (.ok (.ret (match fl with | .ret v => v | _ => .none))) s'') (fun _ _ => False) s') :
    codeAny (Md w) A (.call (.ref f) args) R s :=
  def_entryB hA B hl hb hco hgen hk hclo hglo hblt hcode hcl hq (keeps_refl s) (fun A' Q' E' q => (Looks.of_peek B.inK hbinds).here q) hnd hbk h
end
end Mine

open PySem PySem.W PyProof.Rows PySem.AutoIntOps
set_option Elab.async false
set_option linter.unusedVariables false
set_option linter.unusedSimpArgs false
namespace Mine
/-! # a def's frame, between its statements -/
/-- what a name of the frame holds: data that nothing shares with a list that changes; data lent; a list of the frame's own that changes; any value -/
inductive Bd where
  | own (d : D)
  | par (d : D)
  | grow (a : Addr) (ds : List D)
  | raw (v : Value)
noncomputable abbrev Vs := List (Str × Bd)
noncomputable abbrev XZ (X Z : Addr → Prop) : Addr → Prop := fun a => X a ∨ Z a
noncomputable def Bd.view : Bd → Option (Bool × D)
  | .own d => some (true, d)
  | .par d => some (false, d)
  | .grow _ ds => some (false, .lst ds)
  | .raw _ => none
/-- a name that no text has: what stands there is reached by another road -/
noncomputable abbrev star : Str := "*"
noncomputable def Bd.sight (x : Str) (b : Bd) : Option (Bool × D) := if x == star then none else b.view
/-- what a term sees of the frame -/
noncomputable def seen : Vs → List (Str × Bool × D)
  | [] => []
  | (x, b) :: r => match b.sight x with
    | some q => (x, q) :: seen r
    | none => seen r
noncomputable def Holds1 (X : Addr → Prop) (Z : Addr → Prop) (h : Heap) (v : Value) : Bd → Prop
  | .own d => RpB (XZ X Z) h v d ∧ Own (XZ X Z) v
  | .par d => RpB (XZ X Z) h v d ∧ Own Z v
  | .grow a ds => v = .ref a ∧ Z a ∧ ∃ vs : List Value, h.PlainList a vs.toArray ∧ RpL (XZ X Z) h vs ds
  | .raw u => v = u
/-- what a step of the frame leaves: things that stand as they are; places that are others' to change -/
structure Gd where
  P : Addr → Obj → Prop
  W : Addr → Prop
  S : Addr → Prop
noncomputable def Gd.no : Gd := ⟨fun _ _ => False, fun _ => False, fun _ => False⟩
/-- X: the caller's lists that change; Z: the frame's own -/
structure Fs (w : World) (G : Gd) (X Z : Addr → Prop) (env : Env) (sc : Scope) (ρ : Vs) (H : Heap) (Y : Addr → Prop) (h : Heap) : Prop where
  base : Bs w h
  baseH : Bs w H
  scope : env.scope = sc
  fn : sc.kind = .function
  glob : env.globals = mainGlobals
  blt : env.builtins = builtinsNs
  low : ∀ a, XZ X Z a → ∃ o, h.get? a = some o
  fm : ∃ m cm, Fm env (allNames sc) m cm h ∧ ∀ x b, ρ.lookup x = some b → (x ≠ star → locOrCell sc x = true) ∧ ∃ v, (x ≠ star → (if env.kindOf x = some .local then m x else cm x) = some v) ∧ Holds1 X Z h v b
  dist : ∀ x y a ds es, ρ.lookup x = some (.grow a ds) → ρ.lookup y = some (.grow a es) → x = y
  new : ∀ b, Fm.at env (allNames sc) b → H.get? b = none
  keep : ∀ b o, ¬ Y b → H.get? b = some o → h.get? b = some o
  mine : ∀ a, Z a → Y a ∨ H.get? a = none
  prot : ∀ b o, G.P b o → h.get? b = some o ∧ ¬ Fm.at env (allNames sc) b ∧ (∀ x ds, ρ.lookup x ≠ some (.grow b ds))
  wall : ∀ a, G.W a → Z a ∧ ¬ Fm.at env (allNames sc) a ∧ (∀ x ds, ρ.lookup x ≠ some (.grow a ds)) ∧ H.get? a = none
  live : ∀ b o, H.get? b = some o → ∃ o', h.get? b = some o'
  safe : ∀ b, G.S b → ¬ Z b ∧ ∃ o, h.get? b = some o
/-- the state is turned in its heap and its count alone -/
noncomputable def Chg (s s' : Shared) : Prop := ∃ h t, s' = { s with heap := h, toks := t }
theorem Chg.refl (s : Shared) : Chg s s := ⟨s.heap, s.toks, rfl⟩
theorem Chg.trans {s s' s'' : Shared} (a : Chg s s') (b : Chg s' s'') : Chg s s'' := by
  obtain ⟨h, t, rfl⟩ := a
  obtain ⟨h', t', rfl⟩ := b
  exact ⟨h', t', rfl⟩
theorem Chg.of_keeps {s s' : Shared} (k : Keeps s s') : Chg s s' := let ⟨h, t, e, _⟩ := k; ⟨h, t, e⟩
theorem mem_allNames {sc : Scope} {x : Str} (h : locOrCell sc x = true) : x ∈ allNames sc := by
  unfold locOrCell at h
  simp only [Bool.or_eq_true, beq_iff_eq] at h
  rcases h with e | e <;> exact List.mem_map.mpr ⟨_, mem_of_lookup e, rfl⟩
theorem seen_lookup : ∀ {ρ : Vs} {x : Str} {b : Bool} {d : D}, (seen ρ).lookup x = some (b, d) → (∀ p ∈ ρ, p.1 = x → (p.2.sight p.1).isSome) → ∃ q, ρ.lookup x = some q ∧ q.sight x = some (b, d)
  | [], _, _, _, h, _ => nomatch h
  | (y, q) :: r, x, b, d, h, hr => by
    unfold seen at h
    by_cases hxy : (x == y) = true
    · have e : y = x := (beq_iff_eq.mp hxy).symm
      have hs := hr (y, q) List.mem_cons_self e
      cases hv : q.sight y with
      | none => rw [hv] at hs; cases hs
      | some z =>
        rw [hv] at h
        dsimp only at h
        rw [List.lookup_cons, hxy] at h
        refine ⟨q, by rw [List.lookup_cons, hxy], ?_⟩
        rw [← e, hv]; exact h
    · have hf : (x == y) = false := by first | exact of_decide_eq_true hxy | exact of_decide_eq_false hxy | exact bne_iff_ne.mp hxy | exact eq_of_beq hxy | simpa using hxy
      have key : (seen r).lookup x = some (b, d) := by
        cases hv : q.sight y with
        | none => rw [hv] at h; exact h
        | some z => rw [hv] at h; dsimp only at h; rwa [List.lookup_cons, hf] at h
      obtain ⟨q', e1, e2⟩ := seen_lookup key fun p hp => hr p (List.mem_cons_of_mem _ hp)
      exact ⟨q', by rw [List.lookup_cons, hf]; exact e1, e2⟩
section
variable {w : World} {n : Nat} {G : Gd} {X Z Z' : Addr → Prop} {env : Env} {sc : Scope} {ρ ρ' : Vs} {H : Heap} {Y : Addr → Prop} {A : Around} {E : Value → Shared → Prop} {s : Shared} {Q : Flow → Shared → Prop}
theorem Holds1.ext {X Z : Addr → Prop} {h h' : Heap} {v : Value} {b : Bd} (k : Ext h h') (a : Holds1 X Z h v b) : Holds1 X Z h' v b := by
  cases b with
  | own d => exact ⟨a.1.ext k, a.2⟩
  | par d => exact ⟨a.1.ext k, a.2⟩
  | grow b ds => obtain ⟨e, z, vs, l, r⟩ := a; exact ⟨e, z, vs, l.at fun o e => k _ o e, r.ext k⟩
  | raw u => exact a
theorem Holds1.seq {X Z : Addr → Prop} {h h' : Heap} {v : Value} {b : Bd} (k : SeqK h h') (a : Holds1 X Z h v b) : Holds1 X Z h' v b := by
  cases b with
  | own d => exact ⟨a.1.seq k, a.2⟩
  | par d => exact ⟨a.1.seq k, a.2⟩
  | grow b ds => obtain ⟨e, z, vs, ⟨j, ho⟩, r⟩ := a; exact ⟨e, z, vs, ⟨j, k _ _ ho ⟨_, _, rfl⟩⟩, r.seq k⟩
  | raw u => exact a
/-- the frame after a step that keeps all -/
theorem Fs.ext {h h' : Heap} (F : Fs w G X Z env sc ρ H Y h) (k : Ext h h') : Fs w G X Z env sc ρ H Y h' :=
  ⟨F.base.ext k, F.baseH, F.scope, F.fn, F.glob, F.blt, fun a q => let ⟨o, e⟩ := F.low a q; ⟨o, k _ _ e⟩, let ⟨m, cm, f, g⟩ := F.fm; ⟨m, cm, f.ext fun b o _ e => k b o e, fun x b e => let ⟨l, v, e1, e2⟩ := g x b e; ⟨l, v, e1, e2.ext k⟩⟩,
    F.dist, F.new, fun b o hb e => k b o (F.keep b o hb e), F.mine, fun b o p => let ⟨a, c⟩ := F.prot b o p; ⟨k _ _ a, c⟩, F.wall, fun b o e => let ⟨o', e'⟩ := F.live b o e; ⟨o', k _ _ e'⟩, fun b q => let ⟨z, o, e⟩ := F.safe b q; ⟨z, o, k _ _ e⟩⟩
/-- no name is told raw below another telling: what a term sees is what stands -/
noncomputable def clean (ρ : Vs) : Bool := ρ.all fun p => (p.2.sight p.1).isSome || !((seen ρ).map (·.1)).contains p.1
theorem Fs.cx {h : Heap} (F : Fs w G X Z env sc ρ H Y h) (hc : clean ρ = true) : Cx w (XZ X Z) env sc (seen ρ) h := by
  refine ⟨F.base, F.scope, F.fn, F.glob, F.blt, F.low, fun x b d e => ?_⟩
  obtain ⟨m, cm, f, g⟩ := F.fm
  obtain ⟨q, e1, e2⟩ := seen_lookup e fun p hp hx => by
    have := List.all_eq_true.mp hc p hp
    simp only [Bool.or_eq_true, Bool.not_eq_true', List.contains_eq_mem, decide_eq_false_iff_not] at this
    refine this.resolve_right fun z => z ?_
    rw [hx]
    exact List.mem_map.mpr ⟨_, mem_of_lookup e, rfl⟩
  obtain ⟨l, v, e3, e4⟩ := g x q e1
  have hst : x ≠ star := fun z => by unfold Bd.sight at e2; rw [z] at e2; cases e2
  have e2 : q.view = some (b, d) := by
    have hs : (x == star) = false := by first | exact of_decide_eq_true hst | exact of_decide_eq_false hst | exact bne_iff_ne.mp hst | exact eq_of_beq hst | simpa using hst
    unfold Bd.sight at e2; rw [hs] at e2; exact e2
  have l := l hst
  have e3 := e3 hst
  refine ⟨v, f.nameIs (by rw [F.scope]; exact l) (mem_allNames l) e3, ?_⟩
  cases q with
  | own d' => cases e2; exact ⟨e4.1, fun _ => e4.2⟩
  | par d' => cases e2; exact ⟨e4.1, fun z => nomatch z⟩
  | grow a ds => cases e2; obtain ⟨rfl, _, vs, l, r⟩ := e4; exact ⟨.lst l r, fun z => nomatch z⟩
  | raw u => cases e2
theorem Holds1.less {h : Heap} {v : Value} {b : Bd} (k : ∀ a, Z' a → Z a) (hg : ∀ a ds, b = .grow a ds → Z' a) (q : Holds1 X Z h v b) : Holds1 X Z' h v b := by
  have kk : ∀ a, XZ X Z' a → XZ X Z a := fun a q => q.imp id (k a)
  cases b with
  | own d => exact ⟨q.1.weak kk, fun a z e => q.2 a z (kk a e)⟩
  | par d => exact ⟨q.1.weak kk, fun a z e => q.2 a z (k a e)⟩
  | grow a ds => obtain ⟨e, z, vs, l, r⟩ := q; exact ⟨e, hg a ds rfl, vs, l, r.weak kk⟩
  | raw u => exact q
/-- fewer tellings -/
theorem Fs.less {h : Heap} (F : Fs w G X Z env sc ρ H Y h) (k : ∀ x b, ρ'.lookup x = some b → ρ.lookup x = some b) : Fs w G X Z env sc ρ' H Y h :=
  ⟨F.base, F.baseH, F.scope, F.fn, F.glob, F.blt, F.low, let ⟨m, cm, f, g⟩ := F.fm; ⟨m, cm, f, fun x b e => g x b (k x b e)⟩, fun x y a ds es e1 e2 => F.dist x y a ds es (k _ _ e1) (k _ _ e2), F.new, F.keep, F.mine, fun b o p => let ⟨e1, e2, e3⟩ := F.prot b o p; ⟨e1, e2, fun x ds z => e3 x ds (k _ _ z)⟩, fun a q => let ⟨e1, e2, e3⟩ := F.wall a q; ⟨e1, e2, fun x ds z => e3.1 x ds (k _ _ z), e3.2⟩, F.live, F.safe⟩
/-- a list of the frame's own is let be: from now on it is data -/
theorem Fs.freeze {h : Heap} {x : Str} {a : Addr} {ds : List D} (F : Fs w G X Z env sc ρ H Y h) (hx : ρ.lookup x = some (.grow a ds)) (hX : ¬ X a) : Fs w G X (fun c => Z c ∧ c ≠ a) env sc ((x, .own (.lst ds)) :: ρ) H Y h := by
  have look : ∀ y b, ((x, Bd.own (.lst ds)) :: ρ).lookup y = some b → (y = x ∧ b = .own (.lst ds)) ∨ (y ≠ x ∧ ρ.lookup y = some b) := fun y b e => by
    rw [List.lookup_cons] at e
    cases hb : y == x with
    | true => rw [hb] at e; cases e; exact .inl ⟨beq_iff_eq.mp hb, rfl⟩
    | false => rw [hb] at e; exact .inr ⟨by first | exact of_decide_eq_true hb | exact of_decide_eq_false hb | exact bne_iff_ne.mp hb | exact eq_of_beq hb | simpa using hb, e⟩
  have lm : ∀ y c es, ((x, Bd.own (.lst ds)) :: ρ).lookup y = some (.grow c es) → y ≠ x ∧ ρ.lookup y = some (.grow c es) := fun y c es e => by
    rcases look y _ e with ⟨_, q⟩ | q
    · cases q
    · exact q
  refine ⟨F.base, F.baseH, F.scope, F.fn, F.glob, F.blt, fun c q => F.low c (q.imp id (·.1)), ?_, fun y z c es fs e1 e2 => F.dist y z c es fs (lm _ _ _ e1).2 (lm _ _ _ e2).2, F.new, F.keep, fun c q => F.mine c q.1, fun b o p => let ⟨e1, e2, e3⟩ := F.prot b o p; ⟨e1, e2, fun y es z => e3 y es (lm y b es z).2⟩, fun c q => let ⟨e1, e2, e3⟩ := F.wall c q; ⟨⟨e1, fun z => e3.1 x ds (z ▸ hx)⟩, e2, fun y es z => e3.1 y es (lm y c es z).2, e3.2⟩, F.live, fun b q => let ⟨z, e⟩ := F.safe b q; ⟨fun y => z y.1, e⟩⟩
  obtain ⟨m, cm, f, g⟩ := F.fm
  refine ⟨m, cm, f, fun y b e => ?_⟩
  rcases look y b e with ⟨rfl, rfl⟩ | ⟨hne, e0⟩
  · obtain ⟨l, v, e1, rfl, hz, vs, l', r⟩ := g y _ hx
    refine ⟨l, _, e1, .lst l' (r.weak fun c q => q.imp id (·.1)), fun c q z => ?_⟩
    cases q
    rcases z with z | z
    · exact hX z
    · exact z.2 rfl
  · obtain ⟨l, v, e1, e2⟩ := g y b e0
    refine ⟨l, v, e1, e2.less (fun c q => q.1) fun c es hb => ⟨?_, fun z => ?_⟩⟩
    · subst hb; exact e2.2.1
    · subst hb; subst z; exact hne (F.dist y x _ _ _ e0 hx)
theorem KK_nolist (w : World) : (KK w.params).all (fun p => match p.2.cls with | .type t => t != "list" | _ => true) = true := by kernel_rfl
theorem Bs.list {h h' : Heap} {a : Addr} {xs : Array Value} (B : Bs w h) (hl : h.IsList a xs) (hs : Heap.SameBut a h h') : Bs w h' := by
  obtain ⟨oa, hoa, hca, ja, hda⟩ := hl
  have ns : ∀ {b : Addr} {m : Str → Option Value}, h.Ns b m → h'.Ns b m := fun {b m} q => q.sameBut hs fun z => by
    subst z
    obtain ⟨o, _, _, ho, hd, _⟩ := q
    rw [hoa] at ho; cases ho; rw [hda] at hd; cases hd
  refine ⟨fun b o e => ?_, ?_⟩
  · have hb := B.inK b o e
    refine hs.extBut b o (fun z => ?_) hb
    subst z
    rw [hoa] at hb; cases hb
    have mem : ∀ {l : Frag} {b : Addr} {o : Obj}, l.lookup b = some o → (b, o) ∈ l := by
      intro l
      induction l with
      | nil => intro b o e; cases e
      | cons p r ih =>
        intro b o e
        rw [List.lookup_cons] at e
        cases hb : b == p.1 with
        | true => rw [hb] at e; cases e; have := beq_iff_eq.mp hb; subst this; exact List.mem_cons_self
        | false => rw [hb] at e; exact List.mem_cons_of_mem _ (ih e)
    have := List.all_eq_true.mp (KK_nolist w) _ (mem e)
    rw [hca] at this
    cases this
  · obtain ⟨mg, mb, T⟩ := B.top
    exact ⟨mg, mb, ns T.g, ns T.b, let ⟨mc, a, b⟩ := T.nolimit; ⟨mc, ns a, b⟩, T.builtins, T.free⟩
/-- the list x has another content; all else that stood stands -/
theorem Fs.grown {h h' : Heap} {x : Str} {a : Addr} {ds es : List D} {vs' : List Value} (F : Fs w G X Z env sc ρ H Y h) (hx : ρ.lookup x = some (.grow a ds)) (hs : ∀ b o, b ≠ a → h.get? b = some o → h'.get? b = some o) (hbK : Bs w h') (hl : h'.PlainList a vs'.toArray) (hr : RpL (XZ X Z) h' vs' es) :
    Fs w G X Z env sc ((x, .grow a es) :: ρ) H Y h' := by
  have look : ∀ y b, ((x, Bd.grow a es) :: ρ).lookup y = some b → (y = x ∧ b = .grow a es) ∨ (y ≠ x ∧ ρ.lookup y = some b) := fun y b e => by
    rw [List.lookup_cons] at e
    cases hb : y == x with
    | true => rw [hb] at e; cases e; exact .inl ⟨beq_iff_eq.mp hb, rfl⟩
    | false => rw [hb] at e; exact .inr ⟨by first | exact of_decide_eq_true hb | exact of_decide_eq_false hb | exact bne_iff_ne.mp hb | exact eq_of_beq hb | simpa using hb, e⟩
  have mOf : ∀ y c fs, ((x, Bd.grow a es) :: ρ).lookup y = some (.grow c fs) → ∃ gs, ρ.lookup y = some (.grow c gs) := fun y c fs e => by
    rcases look y _ e with ⟨rfl, q⟩ | ⟨_, q⟩
    · cases q; exact ⟨_, hx⟩
    · exact ⟨_, q⟩
  obtain ⟨m, cm, f, g⟩ := F.fm
  obtain ⟨_, va, _, _, hza, _, hpl, _⟩ := g x _ hx
  obtain ⟨oa, hoa, hca, ja, hda⟩ := hpl.isList
  have keepX : ExtX (XZ X Z) h h' := fun b o hb e => hs b o (fun z => hb (z ▸ .inr hza)) e
  have hoff : ∀ b, Fm.at env (allNames sc) b → b ≠ a := fun b q z => by
    subst z
    rcases q with q | ⟨y, hy, hk, hc⟩
    · subst q
      obtain ⟨o, _, _, ho, hd, _⟩ := f.ns
      rw [hoa] at ho; cases ho; rw [hda] at hd; cases hd
    · obtain ⟨o, ho, hd⟩ := f.cell y hy _ hc hk
      rw [hoa] at ho; cases ho; rw [hda] at hd; cases hd
  refine ⟨hbK, F.baseH, F.scope, F.fn, F.glob, F.blt, fun c q => ?_, ⟨m, cm, f.ext fun b o hb e => hs b o (hoff b hb) e, fun y b e => ?_⟩, fun y z c fs gs e1 e2 => ?_, F.new, fun b o hb e => ?_, F.mine, fun b o p => let ⟨e1, e2, e3⟩ := F.prot b o p; ⟨hs b o (fun z => e3 x ds (z ▸ hx)) e1, e2, fun y fs z => let ⟨gs, z⟩ := mOf y b fs z; e3 y gs z⟩, fun c q => let ⟨e1, e2, e3⟩ := F.wall c q; ⟨e1, e2, fun y fs z => let ⟨gs, z⟩ := mOf y c fs z; e3.1 y gs z, e3.2⟩, fun b o e => ?_, fun b q => let ⟨z, o, e⟩ := F.safe b q; ⟨z, o, hs b o (fun y => z (y ▸ hza)) e⟩⟩
  · obtain ⟨o, ho⟩ := F.low c q
    by_cases hca' : c = a
    · subst hca'; obtain ⟨_, ho'⟩ := hl; exact ⟨_, ho'⟩
    · exact ⟨o, hs c o hca' ho⟩
  · rcases look y b e with ⟨rfl, rfl⟩ | ⟨hne, e0⟩
    · obtain ⟨l, v, e1, e2⟩ := g y _ hx
      exact ⟨l, v, e1, e2.1, hza, vs', hl, hr⟩
    · obtain ⟨l, v, e1, e2⟩ := g y b e0
      refine ⟨l, v, e1, ?_⟩
      cases b with
      | own d => exact ⟨e2.1.extX keepX e2.2, e2.2⟩
      | par d =>
        refine ⟨?_, e2.2⟩
        have ho : ∀ c, v = .ref c → c ≠ a := fun c z q => by subst q; exact e2.2 c z hza
        exact e2.1.gen (P := fun c => c ≠ a) (fun _ _ p hl => hl.at fun o e => hs _ o p e) (fun _ _ p hl => hl.at fun o e => hs _ o p e) (fun _ _ _ o => ⟨o, fun c z q => o c z (q ▸ .inr hza)⟩) ho
      | grow c fs =>
        obtain ⟨rfl, hzc, vs, l, r⟩ := e2
        have hne' : c ≠ a := fun z => by subst z; exact hne (F.dist y x _ _ _ e0 hx)
        exact ⟨rfl, hzc, vs, l.at fun o e => hs _ o hne' e, r.extX keepX⟩
      | raw u => exact e2
  · obtain ⟨_, e1⟩ := mOf _ _ _ e1
    obtain ⟨_, e2⟩ := mOf _ _ _ e2
    exact F.dist y z c _ _ e1 e2
  · have := F.keep b o hb e
    refine hs b o (fun z => ?_) this
    subst z
    rcases F.mine _ hza with q | q
    · exact hb q
    · rw [q] at e; cases e
  · obtain ⟨o', e'⟩ := F.live b o e
    by_cases hba : b = a
    · subst hba; obtain ⟨_, ho'⟩ := hl; exact ⟨_, ho'⟩
    · exact ⟨o', hs b o' hba e'⟩
/-- a list of the frame's own is turned: its new things -/
theorem Fs.turn {h h' : Heap} {x : Str} {a : Addr} {ds es : List D} {vs' : List Value} (F : Fs w G X Z env sc ρ H Y h) (hx : ρ.lookup x = some (.grow a ds)) (hs : Heap.SameBut a h h') (hl : h'.PlainList a vs'.toArray) (hr : RpL (XZ X Z) h vs' es) :
    Fs w G X Z env sc ((x, .grow a es) :: ρ) H Y h' := by
  obtain ⟨m, cm, f, g⟩ := id F.fm
  obtain ⟨_, va, _, _, hza, _, hpl, _⟩ := g x _ hx
  exact F.grown hx (fun b o hb e => hs.extBut b o hb e) (F.base.list hpl.isList hs) hl (hr.extX fun b o hb e => hs.extBut b o (fun z => hb (z ▸ .inr hza)) e)
end
end Mine

open PySem PySem.W PyProof.Rows PySem.AutoIntOps
set_option Elab.async false
set_option linter.unusedVariables false
set_option linter.unusedSimpArgs false
namespace Mine
section
variable {w : World} {n : Nat} {G : Gd} {X Z Z' : Addr → Prop} {env : Env} {sc : Scope} {ρ ρ' : Vs} {H : Heap} {Y : Addr → Prop} {A : Around} {E : Value → Shared → Prop} {s : Shared} {Q : Flow → Shared → Prop} {h h' : Heap}
/-- new places are kept off -/
theorem Fs.widen (F : Fs w G X Z env sc ρ H Y h) (k : Ext h h') (hX : ∀ a, Z a → Z' a) (hn : ∀ a, Z' a → Z a ∨ (h.get? a = none ∧ ∃ o, h'.get? a = some o)) : Fs w G X Z' env sc ρ H Y h' := by
  have hf : Fr2 (XZ X Z) (XZ X Z') h := fun a q => by
    rcases q with q | q
    · exact .inl (.inl q)
    · exact (hn a q).imp .inr (·.1)
  have hf' : ∀ {v : Value} {d : D}, RpB (XZ X Z) h v d → Own Z v → Own Z' v := fun {v d} r o a e q => (hn a q).elim (o a e) fun hn => by
    obtain ⟨o', ho, _⟩ := r.alive e
    rw [hn.1] at ho; cases ho
  refine ⟨F.base.ext k, F.baseH, F.scope, F.fn, F.glob, F.blt, fun a q => ?_, ?_, F.dist, F.new, fun b o hb e => k b o (F.keep b o hb e), fun a q => ?_, fun b o p => let ⟨e1, e2, e3⟩ := F.prot b o p; ⟨k _ _ e1, e2, e3⟩, fun c q => let ⟨e1, e2, e3⟩ := F.wall c q; ⟨hX c e1, e2, e3⟩, fun b o e => let ⟨o', e'⟩ := F.live b o e; ⟨o', k _ _ e'⟩, fun b q => let ⟨z, o, e⟩ := F.safe b q; ⟨fun y => (hn b y).elim z fun y => (by rw [y.1] at e; cases e), o, k _ _ e⟩⟩
  · rcases q with q | q
    · obtain ⟨o, e⟩ := F.low a (.inl q); exact ⟨o, k _ _ e⟩
    · rcases hn a q with q | ⟨_, q⟩
      · obtain ⟨o, e⟩ := F.low a (.inr q); exact ⟨o, k _ _ e⟩
      · exact q
  · obtain ⟨m, cm, f, g⟩ := F.fm
    refine ⟨m, cm, f.ext fun b o _ e => k b o e, fun x b e => ?_⟩
    obtain ⟨l, v, e1, e2⟩ := g x b e
    refine ⟨l, v, e1, ?_⟩
    cases b with
    | own d => exact ⟨(e2.1.more hf).ext k, e2.2.more hf e2.1⟩
    | par d => exact ⟨(e2.1.more hf).ext k, hf' e2.1 e2.2⟩
    | grow a ds => obtain ⟨rfl, z, vs, l, r⟩ := e2; exact ⟨rfl, hX _ z, vs, l.at fun o e => k _ o e, (r.more hf).ext k⟩
    | raw u => exact e2
  · rcases hn a q with q | ⟨q, _⟩
    · exact F.mine a q
    · by_cases hy : Y a
      · exact .inl hy
      · right
        cases e : H.get? a with
        | none => rfl
        | some o => rw [F.keep a o hy e] at q; cases q
/-- what may be bound -/
noncomputable def Fit (G : Gd) (X Z : Addr → Prop) (ρ : Vs) (h : Heap) (x : Str) (v : Value) (b : Bd) : Prop := Holds1 X Z h v b ∧ ∀ a ds, b = .grow a ds → (∀ y es, ρ.lookup y = some (.grow a es) → y = x) ∧ ¬ G.W a ∧ ∀ o, ¬ G.P a o
theorem fs_store {x : Str} {v : Value} {b : Bd} {Q : Unit → Shared → Prop} (F : Fs w G X Z env sc ρ H Y s.heap) (hx : locOrCell sc x = true) (hb : Fit G X Z ρ s.heap x v b)
    (h : ∀ s', Chg s s' → Fs w G X Z env sc ((x, b) :: ρ) H Y s'.heap → SeqK s.heap s'.heap → (∀ c o, ¬ Fm.at env (allNames sc) c → s.heap.get? c = some o → s'.heap.get? c = some o) → Q () s') : wpAny (Md w) A (storeName env x v) Q E s := by
  obtain ⟨m, cm, f, g⟩ := F.fm
  have hk : env.scope.kind = .function := by rw [F.scope]; exact F.fn
  have hx' : locOrCell env.scope x = true := by rw [F.scope]; exact hx
  refine fm_store f hk hx' (mem_allNames hx) fun h' tk f' sk kp => ?_
  have kp' : ∀ c o, ¬ Fm.at env (allNames sc) c → s.heap.get? c = some o → h'.get? c = some o := fun c o hc e => kp c o (fun q => hc (at_sub (fun y hy => by rw [List.mem_singleton.mp hy]; exact mem_allNames hx) q)) e
  refine h _ ⟨h', tk, rfl⟩ ?_ sk kp'
  have look : ∀ y b', ((x, b) :: ρ).lookup y = some b' → (y = x ∧ b' = b) ∨ (y ≠ x ∧ ρ.lookup y = some b') := fun y b' e => by
    rw [List.lookup_cons] at e
    cases hb : y == x with
    | true => rw [hb] at e; cases e; exact .inl ⟨beq_iff_eq.mp hb, rfl⟩
    | false => rw [hb] at e; exact .inr ⟨by first | exact of_decide_eq_true hb | exact of_decide_eq_false hb | exact bne_iff_ne.mp hb | exact eq_of_beq hb | simpa using hb, e⟩
  have base' : Bs w h' := F.base.frame F.baseH fun c o' e o e' => kp' c o (fun q => by rw [F.new c q] at e; cases e) e'
  have hdist : ∀ y z a ds es, ((x, b) :: ρ).lookup y = some (.grow a ds) → ((x, b) :: ρ).lookup z = some (.grow a es) → y = z := fun y z a ds es e1 e2 => by
    rcases look y _ e1 with ⟨h1, q1⟩ | ⟨n1, e1⟩ <;> rcases look z _ e2 with ⟨h2, q2⟩ | ⟨n2, e2⟩
    · exact h1.trans h2.symm
    · exact h1.trans ((hb.2 a ds q1.symm).1 z es e2).symm
    · exact ((hb.2 a es q2.symm).1 y ds e1).trans h2.symm
    · exact F.dist y z a ds es e1 e2
  refine ⟨base', F.baseH, F.scope, F.fn, F.glob, F.blt, fun c q => ?_, ⟨_, _, f', fun y b' e => ?_⟩, hdist, F.new, fun c o hc e => kp' c o (fun q => by rw [F.new c q] at e; cases e) (F.keep c o hc e), F.mine, fun b o p => let ⟨e1, e2, e3⟩ := F.prot b o p; ⟨kp' b o e2 e1, e2, fun y ds z => (look y _ z).elim (fun z => (hb.2 b ds z.2.symm).2.2 o p) fun z => e3 y ds z.2⟩, fun c q => let ⟨e1, e2, e3⟩ := F.wall c q; ⟨e1, e2, fun y ds z => (look y _ z).elim (fun z => (hb.2 c ds z.2.symm).2.1 q) fun z => e3.1 y ds z.2, e3.2⟩, fun c o e => let ⟨o', e'⟩ := F.live c o e; ⟨o', kp' c o' (fun q => by rw [F.new c q] at e; cases e) e'⟩, fun c q => ?_⟩
  · obtain ⟨o, ho⟩ := F.low c q
    by_cases hfm : Fm.at env (allNames sc) c
    · rcases hfm with q | ⟨y, hy, hky, hcy⟩
      · subst q; obtain ⟨o, _, _, ho, _⟩ := f'.ns; exact ⟨o, ho⟩
      · obtain ⟨o, ho, _⟩ := f'.cell y hy c hcy hky; exact ⟨o, ho⟩
    · exact ⟨o, kp' c o hfm ho⟩
  · rcases look y b' e with ⟨rfl, rfl⟩ | ⟨hne, e0⟩
    · exact ⟨fun _ => hx, v, fun _ => stored_here, hb.1.seq sk⟩
    · obtain ⟨l, u, e1, e2⟩ := g y b' e0
      exact ⟨l, u, fun z => stored_other hne (e1 z), e2.seq sk⟩
  · obtain ⟨z, o, ho⟩ := F.safe c q
    refine ⟨z, ?_⟩
    by_cases hfm : Fm.at env (allNames sc) c
    · rcases hfm with q | ⟨y, hy, hky, hcy⟩
      · subst q; obtain ⟨o, _, _, ho, _⟩ := f'.ns; exact ⟨o, ho⟩
      · obtain ⟨o, ho, _⟩ := f'.cell y hy c hcy hky; exact ⟨o, ho⟩
    · exact ⟨o, kp' c o hfm ho⟩
/-- a step that turns others' places alone -/
theorem Fs.others' {W W₁ : Addr → Prop} (F : Fs w G X Z env sc ρ H Y h) (hW : ∀ a, W a → G.W a) (hP : ∀ a o, W a → ¬ G.P a o) (k : ∀ b o, ¬ W b → h.get? b = some o → h'.get? b = some o) (k1 : ∀ a, Z' a → Z a) (hl : ∀ b, XZ X Z' b → W b → ∃ o, h'.get? b = some o)
    (hgr : ∀ x a ds, ρ.lookup x = some (.grow a ds) → Z' a) (hw1 : ∀ a, W₁ a → G.W a ∧ Z' a) : Fs w ⟨G.P, W₁, G.S⟩ X Z' env sc ρ H Y h' := by
  have kX : ExtX (XZ X Z) h h' := fun b o hb e => k b o (fun q => hb (.inr (F.wall b (hW b q)).1)) e
  have kf : ∀ b o, Fm.at env (allNames sc) b → h.get? b = some o → h'.get? b = some o := fun b o hb e => k b o (fun q => (F.wall b (hW b q)).2.1 hb) e
  have kH : ∀ b o, H.get? b = some o → ¬ W b := fun b o e q => by rw [(F.wall b (hW b q)).2.2.2] at e; cases e
  obtain ⟨m, cm, f, g⟩ := F.fm
  refine ⟨F.base.frame F.baseH fun c o' e o e' => k c o (kH c o' e) e', F.baseH, F.scope, F.fn, F.glob, F.blt, fun c q => ?_, ⟨m, cm, f.ext fun b o hb e => kf b o hb e, fun x b e => ?_⟩, F.dist, F.new, fun b o hb e => k b o (kH b o e) (F.keep b o hb e), fun a q => F.mine a (k1 a q),
    fun b o p => let ⟨e1, e2, e3⟩ := F.prot b o p; ⟨k b o (fun z => hP b o z p) e1, e2, e3⟩, fun a q => ⟨(hw1 a q).2, (F.wall a (hw1 a q).1).2⟩, fun b o e => let ⟨o', e'⟩ := F.live b o e; ⟨o', k b o' (kH b o e) e'⟩, fun b q => let ⟨z, o, e⟩ := F.safe b q; ⟨fun y => z (k1 b y), o, k b o (fun y => z (F.wall b (hW b y)).1) e⟩⟩
  · by_cases hw : W c
    · exact hl c q hw
    · obtain ⟨o, e⟩ := F.low c (q.imp id (k1 c)); exact ⟨o, k c o hw e⟩
  · obtain ⟨l, v, e1, e2⟩ := g x b e
    refine ⟨l, v, e1, Holds1.less k1 (fun a ds hb => hgr x a ds (hb ▸ e)) ?_⟩
    cases b with
    | own d => exact ⟨e2.1.extX kX e2.2, e2.2⟩
    | par d =>
      refine ⟨?_, e2.2⟩
      have ho : ∀ c, v = .ref c → ¬ W c := fun c z q => e2.2 c z (F.wall c (hW c q)).1
      exact e2.1.gen (P := fun c => ¬ W c) (fun _ _ p hl => hl.at fun o e => k _ o p e) (fun _ _ p hl => hl.at fun o e => k _ o p e) (fun _ _ _ o => ⟨o, fun c z q => o c z (.inr (F.wall c (hW c q)).1)⟩) ho
    | grow a ds =>
      obtain ⟨rfl, hz, vs, l, r⟩ := e2
      exact ⟨rfl, hz, vs, l.at fun o e' => k _ o (fun q => (F.wall a (hW a q)).2.2.1 x ds e) e', r.extX kX⟩
    | raw u => exact e2
theorem Fs.others {W : Addr → Prop} (F : Fs w G X Z env sc ρ H Y h) (hW : ∀ a, W a → G.W a) (hP : ∀ a o, W a → ¬ G.P a o) (k : ∀ b o, ¬ W b → h.get? b = some o → h'.get? b = some o) (hl : ∀ b, W b → ∃ o, h'.get? b = some o) : Fs w G X Z env sc ρ H Y h' :=
  F.others' hW hP k (fun _ q => q) (fun b _ q => hl b q) (fun x a ds e => let ⟨m, cm, f, g⟩ := F.fm; by obtain ⟨_, v, _, _, hz, _⟩ := g x _ e; exact hz) fun a q => ⟨q, (F.wall a q).1⟩
/-- new guards -/
theorem Fs.guard {G' : Gd} (F : Fs w G X Z env sc ρ H Y h) (hp : ∀ b o, G'.P b o → h.get? b = some o ∧ ¬ Fm.at env (allNames sc) b ∧ (∀ x ds, ρ.lookup x ≠ some (.grow b ds))) (hw : ∀ a, G'.W a → Z a ∧ ¬ Fm.at env (allNames sc) a ∧ (∀ x ds, ρ.lookup x ≠ some (.grow a ds)) ∧ H.get? a = none) (hsf : ∀ b, G'.S b → ¬ Z b ∧ ∃ o, h.get? b = some o) : Fs w G' X Z env sc ρ H Y h :=
  ⟨F.base, F.baseH, F.scope, F.fn, F.glob, F.blt, F.low, F.fm, F.dist, F.new, F.keep, F.mine, hp, hw, F.live, hsf⟩
theorem Fs.freshH (F : Fs w G X Z env sc ρ H Y h) {a : Addr} (e : h.get? a = none) : H.get? a = none := by
  cases q : H.get? a with
  | none => rfl
  | some o => obtain ⟨o', e'⟩ := F.live a o q; rw [e] at e'; cases e'
theorem Fs.notFm (F : Fs w G X Z env sc ρ H Y h) {a : Addr} (e : h.get? a = none) : ¬ Fm.at env (allNames sc) a := fun q => by
  obtain ⟨m, cm, f, _⟩ := F.fm
  rcases q with q | ⟨y, hy, hky, hcy⟩
  · subst q; obtain ⟨o, _, _, ho, _⟩ := f.ns; rw [e] at ho; cases ho
  · obtain ⟨o, ho, _⟩ := f.cell y hy a hcy hky; rw [e] at ho; cases ho
theorem Fs.noGrow (F : Fs w G X Z env sc ρ H Y h) {a : Addr} (e : h.get? a = none) : ∀ x ds, ρ.lookup x ≠ some (.grow a ds) := fun x ds q => by
  obtain ⟨m, cm, f, g⟩ := F.fm
  obtain ⟨_, v, _, rfl, _, vs, ⟨j, ho⟩, _⟩ := g x _ q
  rw [e] at ho; cases ho
end
end Mine

open PySem PySem.W PyProof.Rows PySem.AutoIntOps
set_option Elab.async false
set_option linter.unusedVariables false
set_option linter.unusedSimpArgs false
namespace Mine
noncomputable abbrev NoE : Value → Shared → Prop := fun _ _ => False
section
variable {w : World} {n : Nat} {G : Gd} {X Z Z' : Addr → Prop} {env : Env} {sc : Scope} {ρ ρ' : Vs} {H : Heap} {Y : Addr → Prop} {A : Around} {E : Value → Shared → Prop} {s : Shared} {Q : Flow → Shared → Prop} {h h' : Heap}
/-! # statements -/
/-- what is wanted behind a statement: the rest; behind a turn -/
noncomputable def SQ (w : World) (A : Around) (rest : List Stmt) (env : Env) (Q : Flow → Shared → Prop) (E : Value → Shared → Prop) (f : Flow) (s' : Shared) : Prop := match f with | .next => wpAny (Md w) A (execs rest env) Q E s' | f => Q f s'
noncomputable def TQ (T T' : Shared → Prop) (Q : Flow → Shared → Prop) (f : Flow) (s' : Shared) : Prop := match f with
  | .next | .cont => T s'
  | .brk => T' s'
  | .ret v => Q (.ret v) s'
theorem st_seq {st : Stmt} {rest : List Stmt} (h : wpAny (Md w) A (exec st env) (SQ w A rest env Q E) E s) : wpAny (Md w) A (execs (st :: rest) env) Q E s := wpAny_execs_cons h
/-- the frame when a term has been told -/
theorem Fs.told (F : Fs w G X Z env sc ρ H Y s.heap) {s' : Shared} (k : Keeps s s') : Fs w G X Z env sc ρ H Y s'.heap := F.ext (keeps_ext k)
theorem fit_own {x : Str} {v : Value} {d : D} (r : RpB (XZ X Z) h v d) (o : Own (XZ X Z) v) : Fit G X Z ρ h x v (.own d) := ⟨⟨r, o⟩, fun _ _ e => nomatch e⟩
/-- x = e -/
theorem st_assign {x : Str} {px pos : Pos} {e : Expr} {d : D} (F : Fs w G X Z env sc ρ H Y s.heap) (hA : Rm n A) (hc : clean ρ = true) (hx : locOrCell sc x = true) (he : Ev w n (XZ X Z) env sc (seen ρ) true e d)
    (h : ∀ s', Chg s s' → Fs w G X Z env sc ((x, .own d) :: ρ) H Y s'.heap → Q .next s') (hs : swapsWith e (some (.Name x px)) pos.line env = pure false := by rfl) : wpAny (Md w) A (exec (.Assign [.Name x px] e pos) env) Q E s := by
  refine wpAny_Assign_Name (wpAny_mono (he A s E hA (F.cx hc)) (fun v s₁ q => ?_) fun _ _ x => x) hs
  obtain ⟨r, o, k⟩ := q
  exact fs_store (F.told k) hx (fit_own r (o rfl)) fun s' c F' _ _ => h s' ((Chg.of_keeps k).trans c) F'
theorem swaps_cell {elt target iter : Expr} {ifs : List Expr} {scope : Scope} {p : Pos} {x : Str} {px : Pos} {l : Nat} (hk : env.kindOf x ≠ some .local) : swapsWith (.ListComp elt [⟨target, iter, ifs, 0⟩] scope p) (some (.Name x px)) l env = pure false := by
  unfold swapsWith
  have : (env.kindOf x == some NameKind.local) = false := by first | exact of_decide_eq_true hk | exact of_decide_eq_false hk | exact bne_iff_ne.mp hk | exact eq_of_beq hk | simpa using hk
  simp only [this, Bool.and_false, Bool.false_and, Bool.false_eq_true]
theorem swaps_local {elt target iter : Expr} {ifs : List Expr} {scope : Scope} {p : Pos} {x : Str} {px : Pos} {l : Nat} (hf : env.scope.kind = .function) (hk : env.kindOf x = some .local) (hl : (px.line == (Expr.ListComp elt [⟨target, iter, ifs, 0⟩] scope p).pos.line) = true)
    (hn : (scope.names.any fun (n, k) => n == x && (k == .local || k == .cell)) = false) : swapsWith (.ListComp elt [⟨target, iter, ifs, 0⟩] scope p) (some (.Name x px)) l env = pure true := by
  unfold swapsWith
  simp only [Env.blockKind, hf, ScopeKind.isAnnotationScope, Bool.false_eq_true, if_false, hk, hl, hn]
  rfl
/-- x = [.. for ..], x a local name -/
theorem st_assign_comp {x : Str} {px pos cpos : Pos} {elt target iter : Expr} {ifs : List Expr} {scope : Scope} {α : Type} {l : List α} {g : α → D} {p : α → Bool} {f : α → D} {ρc : List (Str × Bool × D)} (F : Fs w G X Z env sc ρ H Y s.heap) (hA : Rm n A) (hc : clean ρ = true) (hx : sc.names.lookup x = some .local)
    (tx : CompText scope sc (seen ρ) ρc target) (hit : EvIt w n (XZ X Z) env sc (seen ρ) target iter false (l.map g))
    (hbody : ∀ d ∈ l, ∀ X' env', EvTs w n X' env' (relS scope sc) (bindD target (g d) ++ ρc) ifs (p d) ∧ (p d = true → Ev w n X' env' (relS scope sc) (bindD target (g d) ++ ρc) true elt (f d))) (hsz : l.length ≤ sizeLine)
    (hl : (px.line == (Expr.ListComp elt [⟨target, iter, ifs, 0⟩] scope cpos).pos.line) = true) (hn : (scope.names.any fun (n, k) => n == x && (k == .local || k == .cell)) = false)
    (h : ∀ s', Chg s s' → Fs w G X Z env sc ((x, .own (.lst ((l.filter p).map f))) :: ρ) H Y s'.heap → Q .next s') (hs : ∀ x, foldedSetIterable iter env x = pure x := by intro _; rfl) :
    wpAny (Md w) A (exec (.Assign [.Name x px] (.ListComp elt [⟨target, iter, ifs, 0⟩] scope cpos) pos) env) Q E s := by
  have hk : env.kindOf x = some .local := by show env.scope.names.lookup x = _; rw [F.scope]; exact hx
  have hlc : locOrCell sc x = true := by unfold locOrCell; rw [hx]; rfl
  have C := F.cx hc
  rw [exec_Assign_Name_used _ _ _ _ (swaps_local (by rw [F.scope]; exact F.fn) hk hl hn)]
  refine wpAny_bind (wpAny_standAt (wpAny_bind ?_))
  show wpAny _ A (do let _ ← comprehension (.ListComp elt [⟨target, iter, ifs, 0⟩] scope cpos) scope env _ (newList []) false (eval iter env) (some (assign (.Name x px) env))) _ _ s
  refine wpAny_bind (wpAny_mono (comp_core (use := some (assign (.Name x px) env)) (Q := fun _ s' => Q .next s') hA C tx (hit A s _ hA C) (fun d hd X' env' _ => hbody d hd X' env') hsz (fun s' Da Ca m k hD hC hn' hl' => ?_) hs) (fun _ s' hq => wpAny_pure (wpAny_pure hq)) fun _ _ e => e)
  obtain ⟨X', ys, hw, ⟨hXC, hXD⟩, hf, hl', hr⟩ := hl'
  show wpAny _ A (assign (.Name x px) env (.ref Da)) _ _ _
  have hne : Da ≠ Ca := by
    rintro rfl
    obtain ⟨o, _, _, ho, hd, _⟩ := hn'
    obtain ⟨j, ho'⟩ := hl'
    rw [ho] at ho'; cases ho'
    cases hd
  obtain ⟨H₁, tk, rfl, kk⟩ := k
  have hold : ∀ a, XZ X Z a → ∃ o, s.heap.get? a = some o := F.low
  have hCfm : ¬ Fm.at env (allNames sc) Ca := F.notFm hC
  obtain ⟨oC, _, _, hoC, _⟩ := id hn'
  have F₁ : Fs w G X (fun a => Z a ∨ a = Ca) env sc ρ H Y H₁ := F.widen kk (fun a q => .inl q) fun a q => q.imp id fun e => by subst e; exact ⟨hC, _, hoC⟩
  have hsub : ∀ a, XZ X (fun a => Z a ∨ a = Ca) a → X' a := fun a q => by
    rcases q with q | q | q
    · exact hw a (.inl q)
    · exact hw a (.inr q)
    · exact q ▸ hXC
  have hown : Own (XZ X (fun a => Z a ∨ a = Ca)) (.ref Da) := fun a e q => by
    cases e
    rcases q with q | q | q
    · obtain ⟨o, ho⟩ := F.low _ (.inl q); rw [hD] at ho; cases ho
    · obtain ⟨o, ho⟩ := F.low _ (.inr q); rw [hD] at ho; cases ho
    · exact hne q
  refine wpAny_assign_Name (fs_store F₁ hlc (fit_own (.lst (by first | exact of_decide_eq_true hl' | exact of_decide_eq_false hl' | exact bne_iff_ne.mp hl' | exact eq_of_beq hl' | simpa using hl') (hr.weak hsub)) hown) fun s'' c F' sk kp => ?_)
  refine ⟨m, hn'.at' fun o e => kp Ca o hCfm e, fun h'' hs'' => ?_⟩
  obtain ⟨h₃, t₃, rfl⟩ := c
  refine h _ ⟨h'', t₃, rfl⟩ ?_
  have hng : ∀ y ds', ((x, Bd.own (.lst ((l.filter p).map f))) :: ρ).lookup y ≠ some (.grow Ca ds') := fun y ds' e => by
    rw [List.lookup_cons] at e
    cases hb : y == x with
    | true => rw [hb] at e; cases e
    | false => rw [hb] at e; exact F.noGrow hC y ds' e
  have F₂ := F'.guard (G' := ⟨G.P, fun a => G.W a ∨ a = Ca, G.S⟩) (fun b o q => F'.prot b o q) (fun a q => by
    rcases q with q | q
    · exact F'.wall a q
    · subst q; exact ⟨.inr rfl, hCfm, hng, F.freshH hC⟩) F'.safe
  have hZC : ¬ XZ X Z Ca := fun q => by obtain ⟨o, ho⟩ := F.low Ca q; rw [hC] at ho; cases ho
  exact F₂.others' (Z' := Z) (W := fun a => a = Ca) (W₁ := G.W) (fun a q => .inr q) (fun a o z q => by have := (F.prot a o q).1; rw [z, hC] at this; cases this) (fun b o hb e => hs''.extBut b o hb e) (fun a q => .inl q) (fun b q _ => by
      have hb : b ≠ Ca := fun z => hZC (z ▸ q)
      obtain ⟨o, ho⟩ := F₂.low b (q.imp id .inl)
      exact ⟨o, hs''.extBut b o hb ho⟩)
    (fun y a ds' e => by
      obtain ⟨m', cm', f', g'⟩ := F'.fm
      obtain ⟨_, v, _, rfl, hz, _⟩ := g' y _ e
      exact hz.resolve_right fun z => by subst z; exact hng y ds' e) fun a q => ⟨.inl q, (F.wall a q).1⟩
end
end Mine

open PySem PySem.W PyProof.Rows PySem.AutoIntOps
set_option Elab.async false
set_option linter.unusedVariables false
set_option linter.unusedSimpArgs false
namespace Mine
section
variable {w : World} {n : Nat} {G : Gd} {X Z Z' : Addr → Prop} {env : Env} {sc : Scope} {ρ ρ' : Vs} {H : Heap} {Y : Addr → Prop} {A : Around} {E : Value → Shared → Prop} {s : Shared} {Q : Flow → Shared → Prop} {h h' : Heap}
/-! ## tests -/
theorem evt_val {X : Addr → Prop} {ρ : List (Str × Bool × D)} {e : Expr} {d : D} {v : Bool} (he : Ev w n X env sc ρ false e d) (hv : ∀ (A : Around) (s : Shared) (E : Value → Shared → Prop) (u : Value), Rm n A → RpB X s.heap u d → wpAny (Md w) A (truthy u) (fun c s' => c = v ∧ Keeps s s') E s)
    (hi : isTrue e env (eval e env) = (do let u ← eval e env; standAt e.pos; holding [u] (truthy u)) := by rfl) : EvT w n X env sc ρ e v := fun A s E hA C =>
  wpAny_isTrue_value (wpAny_mono (he A s E hA C) (fun u s₁ q => wpAny_mono (hv A s₁ E u hA q.1) (fun c s₂ r => ⟨r.1, keeps_trans q.2.2 r.2⟩) fun _ _ x => x) fun _ _ x => x) hi
theorem truthy_bool' {X : Addr → Prop} {v : Bool} : ∀ (A : Around) (s : Shared) (E : Value → Shared → Prop) (u : Value), Rm n A → RpB X s.heap u (.bool v) → wpAny (Md w) A (truthy u) (fun c s' => c = v ∧ Keeps s s') E s := fun A s E u _ r => by
  cases r; exact wpAny_truthy_bool ⟨rfl, keeps_refl s⟩
theorem evt_cmp {X : Addr → Prop} {ρ : List (Str × Bool × D)} {e1 e2 : Expr} {d1 d2 : D} {op : CmpOp} {pos : Pos} {v : Bool} (ha : Ev w n X env sc ρ false e1 d1) (hb : Ev w n X env sc ρ false e2 d2) (h : Op2 w n X true (compareOp op) d1 d2 (.bool v))
    (hm : behindInMarks op e2 = false := by with_unfolding_all rfl) : EvT w n X env sc ρ (.Compare e1 [op] [e2] pos) v := fun A s E hA C =>
  wpAny_isTrue_Compare1 (two ha hb hA C fun v1 v2 s' k C' r1 r2 _ _ => wpAny_mono (h A s' E v1 v2 hA C'.base C'.low r1 r2) (fun c s₂ y => by
    obtain ⟨r, _, k2⟩ := y
    cases r
    exact wpAny_truthy_bool ⟨rfl, keeps_trans k k2⟩) fun _ _ x => x) hm
theorem evt_not {X : Addr → Prop} {ρ : List (Str × Bool × D)} {e : Expr} {pos : Pos} {v : Bool} (h : EvT w n X env sc ρ e v) : EvT w n X env sc ρ (.UnaryOp .Not e pos) (!v) := fun A s E hA C =>
  wpAny_isTrue_Not (wpAny_mono (h A s E hA C) (fun c s' q => ⟨by rw [q.1], q.2⟩) fun _ _ x => x)
theorem evt_and {X : Addr → Prop} {ρ : List (Str × Bool × D)} {e1 e2 : Expr} {pos : Pos} {v1 v2 : Bool} (h1 : EvT w n X env sc ρ e1 v1) (h2 : v1 = true → EvT w n X env sc ρ e2 v2) : EvT w n X env sc ρ (.BoolOp .And [e1, e2] pos) (v1 && v2) := fun A s E hA C =>
  wpAny_isTrue_BoolOp (wpAny_allTrue_And_cons (wpAny_mono (h1 A s E hA C) (fun c s₁ q => by
    obtain ⟨rfl, k⟩ := q
    cases hc : c with
    | false => exact ⟨rfl, k⟩
    | true => exact wpAny_allTrue_And_cons (wpAny_mono (h2 hc A s₁ E hA (C.ext (keeps_ext k))) (fun c2 s₂ q => by
        obtain ⟨rfl, k2⟩ := q
        cases c2 with
        | false => exact ⟨rfl, keeps_trans k k2⟩
        | true => exact wpAny_allTrue_And_nil ⟨rfl, keeps_trans k k2⟩) fun _ _ x => x)) fun _ _ x => x))
theorem evt_or {X : Addr → Prop} {ρ : List (Str × Bool × D)} {e1 e2 : Expr} {pos : Pos} {v1 v2 : Bool} (h1 : EvT w n X env sc ρ e1 v1) (h2 : v1 = false → EvT w n X env sc ρ e2 v2) : EvT w n X env sc ρ (.BoolOp .Or [e1, e2] pos) (v1 || v2) := fun A s E hA C =>
  wpAny_isTrue_BoolOp (wpAny_allTrue_Or_cons (wpAny_mono (h1 A s E hA C) (fun c s₁ q => by
    obtain ⟨rfl, k⟩ := q
    cases hc : c with
    | true => exact ⟨rfl, k⟩
    | false => exact wpAny_allTrue_Or_cons (wpAny_mono (h2 hc A s₁ E hA (C.ext (keeps_ext k))) (fun c2 s₂ q => by
        obtain ⟨rfl, k2⟩ := q
        cases c2 with
        | true => exact ⟨rfl, keeps_trans k k2⟩
        | false => exact wpAny_allTrue_Or_nil ⟨rfl, keeps_trans k k2⟩) fun _ _ x => x)) fun _ _ x => x))
theorem evt_or3 {X : Addr → Prop} {ρ : List (Str × Bool × D)} {e1 e2 e3 : Expr} {pos : Pos} {v1 v2 v3 : Bool} (h1 : EvT w n X env sc ρ e1 v1) (h2 : v1 = false → EvT w n X env sc ρ e2 v2) (h3 : v1 = false → v2 = false → EvT w n X env sc ρ e3 v3) : EvT w n X env sc ρ (.BoolOp .Or [e1, e2, e3] pos) (v1 || (v2 || v3)) := fun A s E hA C =>
  wpAny_isTrue_BoolOp (wpAny_allTrue_Or_cons (wpAny_mono (h1 A s E hA C) (fun c s₁ q => by
    obtain ⟨rfl, k⟩ := q
    cases hc : c with
    | true => exact ⟨rfl, k⟩
    | false => exact wpAny_allTrue_Or_cons (wpAny_mono (h2 hc A s₁ E hA (C.ext (keeps_ext k))) (fun c2 s₂ q => by
        obtain ⟨rfl, k2⟩ := q
        cases hc2 : c2 with
        | true => exact ⟨rfl, keeps_trans k k2⟩
        | false => exact wpAny_allTrue_Or_cons (wpAny_mono (h3 hc hc2 A s₂ E hA (C.ext (keeps_ext (keeps_trans k k2)))) (fun c3 s₃ q => by
            obtain ⟨rfl, k3⟩ := q
            cases c3 with
            | true => exact ⟨rfl, keeps_trans k (keeps_trans k2 k3)⟩
            | false => exact wpAny_allTrue_Or_nil ⟨rfl, keeps_trans k (keeps_trans k2 k3)⟩) fun _ _ x => x)) fun _ _ x => x)) fun _ _ x => x))
theorem EvT.cast {X : Addr → Prop} {ρ : List (Str × Bool × D)} {e : Expr} {v v' : Bool} (h : EvT w n X env sc ρ e v) (e' : v = v') : EvT w n X env sc ρ e v' := e' ▸ h
theorem Ev.cast {X : Addr → Prop} {ρ : List (Str × Bool × D)} {b : Bool} {e : Expr} {d d' : D} (h : Ev w n X env sc ρ b e d) (e' : d = d') : Ev w n X env sc ρ b e d' := e' ▸ h
/-- a or b, a conditional -/
theorem ev_if {X : Addr → Prop} {ρ : List (Str × Bool × D)} {t e1 e2 : Expr} {pos : Pos} {v b : Bool} {d : D} (ht : EvT w n X env sc ρ t v) (h1 : v = true → Ev w n X env sc ρ b e1 d) (h2 : v = false → Ev w n X env sc ρ b e2 d) : Ev w n X env sc ρ b (.IfExp t e1 e2 pos) d := fun A s E hA C =>
  wpAny_IfExp (wpAny_mono (ht A s E hA C) (fun c s₁ q => by
    obtain ⟨rfl, k⟩ := q
    cases hc : c with
    | true => exact wpAny_mono (h1 hc A s₁ E hA (C.ext (keeps_ext k))) (fun _ _ y => y.trans k) fun _ _ x => x
    | false => exact wpAny_mono (h2 hc A s₁ E hA (C.ext (keeps_ext k))) (fun _ _ y => y.trans k) fun _ _ x => x) fun _ _ x => x)
theorem ev_tup {X : Addr → Prop} {ρ : List (Str × Bool × D)} {es : List Expr} {ds : List D} {k : Nat} {pos : Pos} {b : Bool} (h : ∀ (A : Around) (s : Shared) (E : Value → Shared → Prop), Rm n A → Cx w X env sc ρ s.heap → wpAny (Md w) A (spliced (backTo pos (starEach es env))) (fun vs s' => RpL X s'.heap vs ds ∧ Keeps s s') E s) (hsz : ds.length ≤ sizeLine) :
    Ev w n X env sc ρ b (.Tuple es k pos) (.tup ds) := fun A s E hA C => wpAny_Tuple (wpAny_mono (h A s E hA C) (fun vs s₁ q => by
  refine ⟨by rw [q.1.length]; exact hsz, .tup ⟨_, Heap.get?_push_size _ rfl, rfl, 0, rfl⟩ (q.1.ext fun b o e => Heap.get?_push_of_some _ e), fun _ => Own.fresh (C.ext (keeps_ext q.2)).low (get_size _), keeps_trans q.2 ?_⟩
  exact keeps_heap _ _ fun b o e => Heap.get?_push_of_some _ e) fun _ _ x => x)
/-- things told one by one, none shared with a list that changes -/
inductive EvL (w : World) (n : Nat) (X : Addr → Prop) (env : Env) (sc : Scope) (ρ : List (Str × Bool × D)) : List Expr → List D → Prop
  | nil : EvL w n X env sc ρ [] []
  | cons {e : Expr} {d : D} {es : List Expr} {ds : List D} : Ev w n X env sc ρ true e d → starEach (e :: es) env = (false, eval e env) :: starEach es env → EvL w n X env sc ρ es ds → EvL w n X env sc ρ (e :: es) (d :: ds)
theorem list_run {X : Addr → Prop} {ρ : List (Str × Bool × D)} {pos : Pos} {es : List Expr} {ds : List D} {s : Shared} (a : EvL w n X env sc ρ es ds) (hA : Rm n A) (C : Cx w X env sc ρ s.heap) : wpAny (Md w) A (spliced (backTo pos (starEach es env))) (fun vs s' => RpL X s'.heap vs ds ∧ Keeps s s') E s := by
  induction a generalizing s with
  | nil => exact wpAny_items_nil ⟨.nil, keeps_refl s⟩
  | cons ha he hr ih =>
    refine wpAny_items_cons (wpAny_mono (ha A s E hA C) (fun v s₁ q => ?_) fun _ _ x => x) he
    obtain ⟨r1, o1, k1⟩ := q
    refine wpAny_mono (ih (C.ext (keeps_ext k1))) (fun vs s₂ q => ?_) fun _ _ x => x
    exact ⟨.cons (r1.ext (keeps_ext q.2)) (o1 rfl) q.1, keeps_trans k1 q.2⟩
theorem ev_tuple {X : Addr → Prop} {ρ : List (Str × Bool × D)} {es : List Expr} {ds : List D} {k : Nat} {pos : Pos} {b : Bool} (h : EvL w n X env sc ρ es ds) (hsz : ds.length ≤ sizeLine) : Ev w n X env sc ρ b (.Tuple es k pos) (.tup ds) :=
  ev_tup (fun A s E hA C => list_run h hA C) hsz
/-- a list that is made anew -/
noncomputable def EvN (w : World) (n : Nat) (X : Addr → Prop) (env : Env) (sc : Scope) (ρ : List (Str × Bool × D)) (e : Expr) (ds : List D) : Prop :=
  ∀ (A : Around) (s : Shared) (E : Value → Shared → Prop), Rm n A → Cx w X env sc ρ s.heap → wpAny (Md w) A (eval e env) (fun v s' => ∃ a, v = .ref a ∧ s.heap.get? a = none ∧ (∃ vs : List Value, s'.heap.PlainList a vs.toArray ∧ RpL (fun c => X c ∨ c = a) s'.heap vs ds) ∧ Keeps s s') E s
theorem EvN.ev {X : Addr → Prop} {ρ : List (Str × Bool × D)} {e : Expr} {ds : List D} {b : Bool} (h : EvN w n X env sc ρ e ds) : Ev w n X env sc ρ b e (.lst ds) := fun A s E hA C =>
  wpAny_mono (h A s E hA C) (fun v s' q => by
    obtain ⟨a, rfl, hn, ⟨vs, l, r⟩, k⟩ := q
    exact ⟨.lst l (r.weak fun c q => .inl q), fun _ => Own.fresh C.low hn, k⟩) fun _ _ x => x
theorem evn_list {X : Addr → Prop} {ρ : List (Str × Bool × D)} {es : List Expr} {ds : List D} {pos : Pos} (h : EvL w n X env sc ρ es ds) (hsz : ds.length ≤ sizeLine) : EvN w n X env sc ρ (.List es pos) ds := fun A s E hA C => wpAny_List (wpAny_mono (list_run h hA C) (fun vs s₁ q => by
  have hn := get_size s₁.heap
  refine ⟨by rw [q.1.length]; exact hsz, _, rfl, ?_, ⟨vs, ⟨0, Heap.get?_push_size _ rfl⟩, (q.1.more (X' := fun c => X c ∨ c = s₁.heap.objs.size) fun c z => z.imp id fun e => by subst e; exact hn).ext fun b o e => Heap.get?_push_of_some _ e⟩, keeps_trans q.2 (keeps_heap _ _ fun b o e => Heap.get?_push_of_some _ e)⟩
  exact none_above (keeps_ext q.2) (Nat.le_refl _)) fun _ _ x => x)
theorem ev_list {X : Addr → Prop} {ρ : List (Str × Bool × D)} {es : List Expr} {ds : List D} {pos : Pos} {b : Bool} (h : EvL w n X env sc ρ es ds) (hsz : ds.length ≤ sizeLine) : Ev w n X env sc ρ b (.List es pos) (.lst ds) := (evn_list h hsz).ev
/-! ## x = a new list, which is to grow -/
theorem st_assign_new {x : Str} {px pos : Pos} {e : Expr} {ds : List D} (F : Fs w G X Z env sc ρ H Y s.heap) (hA : Rm n A) (hc : clean ρ = true) (hx : locOrCell sc x = true) (he : EvN w n (XZ X Z) env sc (seen ρ) e ds)
    (h : ∀ a s', ¬ X a → s.heap.get? a = none → Chg s s' → Fs w G X (fun c => Z c ∨ c = a) env sc ((x, .grow a ds) :: ρ) H Y s'.heap → Q .next s') (hs : swapsWith e (some (.Name x px)) pos.line env = pure false := by rfl) : wpAny (Md w) A (exec (.Assign [.Name x px] e pos) env) Q E s := by
  refine wpAny_Assign_Name (wpAny_mono (he A s E hA (F.cx hc)) (fun v s₁ q => ?_) fun _ _ x => x) hs
  obtain ⟨a, rfl, hn, ⟨vs, l, r⟩, k⟩ := q
  obtain ⟨j, ho⟩ := id l
  have F₁ : Fs w G X (fun c => Z c ∨ c = a) env sc ρ H Y s₁.heap := F.widen (keeps_ext k) (fun c q => .inl q) fun c q => q.imp id fun e => by subst e; exact ⟨hn, _, ho⟩
  refine fs_store F₁ hx (b := .grow a ds) ⟨⟨rfl, .inr rfl, vs, l, r.weak fun c q => ?_⟩, fun b es e => ?_⟩ fun s' c F' _ _ => h a s' (fun q => ?_) hn ((Chg.of_keeps k).trans c) F'
  · rcases q with q | q | q
    · exact .inl (.inl q)
    · exact .inl (.inr q)
    · exact .inr q
  · cases e
    refine ⟨fun y es e => absurd e (F.noGrow hn y es), fun q => ?_, fun o q => ?_⟩
    · obtain ⟨o, e⟩ := F.low a (.inr (F.wall a q).1)
      rw [hn] at e; cases e
    · have := (F.prot a o q).1
      rw [hn] at this; cases this
  · obtain ⟨o, e⟩ := F.low a (.inl q); rw [hn] at e; cases e
/-! ## x.append(e) -/
theorem callWith_own {X : Addr → Prop} {ρ : List (Str × Bool × D)} {pos : Pos} {id : String} {first : List Value} {e : Expr} {es : List Expr} {ds : List D} {Q : Value → Shared → Prop} (ha : EvL w n X env sc ρ (e :: es) ds) (hA : Rm n A) (C : Cx w X env sc ρ s.heap)
    (h : ∀ vs s', RpL X s'.heap vs ds → Keeps s s' → wpAny (Md w) A (call (.builtin id) (first ++ vs)) Q E s') : wpAny (Md w) A (callWith pos (.builtin id) first (backTo pos (starEach (e :: es) env)) []) Q E s := by
  have hp : (backTo pos (starEach (e :: es) env)).any (·.1) = false := by
    have key : ∀ {es : List Expr} {ds : List D}, EvL w n X env sc ρ es ds → (backTo pos (starEach es env)).any (·.1) = false := by
      intro es
      induction es with
      | nil => intro ds _; rfl
      | cons e es ih => intro ds q; cases q with | cons a he r => rw [he]; show (false || (backTo pos (starEach es env)).any (·.1)) = false; rw [ih r]; rfl
    exact key ha
  have hrun := list_run (E := E) (pos := pos) ha hA C
  cases ha with
  | cons h1 he hr =>
    refine PySem.Calls.callWith_builtin hp ?_
    rw [he] at hrun ⊢
    exact PySem.Calls.evalArgs_plain (wpAny_mono hrun (fun vs s' q => h vs s' q.1 q.2) fun _ _ x => x)
theorem st_append {x : Str} {p ap cp ep : Pos} {pl : Sem Bool} {e : Expr} {a : Addr} {ds : List D} {d : D} (F : Fs w G X Z env sc ρ H Y s.heap) (hA : Rm n A) (hc : clean ρ = true) (hx : ρ.lookup x = some (.grow a ds)) (he : Ev w n (XZ X Z) env sc (seen ρ) true e d) (hsz : ds.length ≤ sizeLine)
    (h : ∀ s', Chg s s' → Fs w G X Z env sc ((x, .grow a (ds ++ [d])) :: ρ) H Y s'.heap → Q .next s') (hse : starEach [e] env = (false, eval e env) :: starEach [] env := by rfl) (hd : (x == ("__debug__" : Str)) = false := by decide)
    (hev : eval (.Call (.Attribute (.Name x p) "append" ap) [e] [] cp) env = (do
      let ov ← eval (.Name x p) env
      standAt ap.atName
      let (f, first) ← holding [ov] (getMethod ov "append" pl)
      callWith cp f first (backTo cp (starEach [e] env)) (backToKw cp (keywordEach [] env))) := by rfl) (hst : (x == star) = false := by decide) :
    wpAny (Md w) A (exec (.Expr (.Call (.Attribute (.Name x p) "append" ap) [e] [] cp) ep) env) Q E s := by
  have hint : interactive env = false := by unfold interactive; rw [F.scope, F.fn]; rfl
  refine wpAny_Expr (methodCall_KW ?_ hev) hint rfl
  obtain ⟨m, cm, f, g⟩ := F.fm
  obtain ⟨l, v, e1, rfl, hz, vs, hl, r⟩ := g x _ hx
  have hst : x ≠ star := by first | exact of_decide_eq_true hst | exact of_decide_eq_false hst | exact bne_iff_ne.mp hst | exact eq_of_beq hst | simpa using hst
  have l := l hst
  have e1 := e1 hst
  have nm := f.nameIs (by rw [F.scope]; exact l) (mem_allNames l) e1
  refine wpAny_Name (nm.load (by rw [F.scope]; exact F.fn) ?_) hd
  obtain ⟨j, ho⟩ := id hl
  refine PySem.Calls.getMethod_list_append ho rfl rfl ?_
  refine callWith_own (.cons he hse .nil) hA (F.cx hc) fun us s₁ q k => ?_
  cases q with
  | cons r1 o1 q =>
  cases q
  rename_i u
  have hl₁ := hl.at fun o e => keeps_ext k _ o e
  show wpAny _ A (call (.builtin "list.append") [.ref a, u]) _ _ _
  refine wpAny_list_append_plain hl₁ (fun h' hl' hs' => ?_) (by simpa [r.length] using hsz)
  have F₁ := F.told k
  have e2 : (vs ++ [u]).toArray = vs.toArray.push u := by simp
  exact h _ ((Chg.of_keeps k).trans ⟨h', _, rfl⟩) (F₁.turn hx hs' (vs' := vs ++ [u]) (by rw [e2]; exact hl') ((r.ext (keeps_ext k)).append (.one r1 o1)))
end
end Mine

open PySem PySem.W PyProof.Rows PySem.AutoIntOps
set_option Elab.async false
set_option linter.unusedVariables false
set_option linter.unusedSimpArgs false
namespace Mine
section
variable {w : World} {n : Nat} {G : Gd} {X Z Z' : Addr → Prop} {env : Env} {sc : Scope} {ρ ρ' : Vs} {H : Heap} {Y : Addr → Prop} {A : Around} {E : Value → Shared → Prop} {s : Shared} {Q : Flow → Shared → Prop} {h h' : Heap}
/-! # several names at once -/
inductive Cp where
  | val (d : D)
  | new (ds : List D)
inductive EvC (w : World) (n : Nat) (env : Env) (sc : Scope) (ρ : List (Str × Bool × D)) : List Expr → List Cp → Prop
  | nil : EvC w n env sc ρ [] []
  | val {e : Expr} {d : D} {es : List Expr} {cs : List Cp} : (∀ X, Ev w n X env sc ρ true e d) → starEach (e :: es) env = (false, eval e env) :: starEach es env → EvC w n env sc ρ es cs → EvC w n env sc ρ (e :: es) (.val d :: cs)
  | new {e : Expr} {ds : List D} {es : List Expr} {cs : List Cp} : (∀ X, EvN w n X env sc ρ e ds) → starEach (e :: es) env = (false, eval e env) :: starEach es env → EvC w n env sc ρ es cs → EvC w n env sc ρ (e :: es) (.new ds :: cs)
inductive CsAt (X : Addr → Prop) (h : Heap) : List Value → List Cp → List Bd → Prop
  | nil : CsAt X h [] [] []
  | val {v : Value} {d : D} {vs : List Value} {cs : List Cp} {bs : List Bd} : RpB X h v d → Own X v → CsAt X h vs cs bs → CsAt X h (v :: vs) (.val d :: cs) (.own d :: bs)
  | new {a : Addr} {ds : List D} {vs : List Value} {cs : List Cp} {bs : List Bd} : X a → (∃ us : List Value, h.PlainList a us.toArray ∧ RpL X h us ds) → CsAt X h vs cs bs → CsAt X h (.ref a :: vs) (.new ds :: cs) (.grow a ds :: bs)
theorem CsAt.gen {X X' : Addr → Prop} (kX : ∀ a, X a → X' a) (kB : ∀ v d, RpB X h v d → RpB X' h' v d) (kO : ∀ v, Own X v → Own X' v) (kL : ∀ a (us : List Value) ds, h.PlainList a us.toArray → RpL X h us ds → h'.PlainList a us.toArray ∧ RpL X' h' us ds) {vs : List Value} {cs : List Cp} {bs : List Bd} (t : CsAt X h vs cs bs) : CsAt X' h' vs cs bs := by
  induction t with
  | nil => exact .nil
  | val r o _ ih => exact .val (kB _ _ r) (kO _ o) ih
  | new z u _ ih => exact .new (kX _ z) (u.elim fun us q => ⟨us, kL _ _ _ q.1 q.2⟩) ih
theorem CsAt.ext {X : Addr → Prop} (k : Ext h h') {vs : List Value} {cs : List Cp} {bs : List Bd} (t : CsAt X h vs cs bs) : CsAt X h' vs cs bs :=
  t.gen (fun _ q => q) (fun _ _ r => r.ext k) (fun _ o => o) fun _ _ _ l r => ⟨l.at fun o e => k _ o e, r.ext k⟩
theorem CsAt.seq {X : Addr → Prop} (k : SeqK h h') {vs : List Value} {cs : List Cp} {bs : List Bd} (t : CsAt X h vs cs bs) : CsAt X h' vs cs bs :=
  t.gen (fun _ q => q) (fun _ _ r => r.seq k) (fun _ o => o) fun a _ _ l r => ⟨lst_q k.q a _ id l, r.seq k⟩
theorem CsAt.congr {X X' : Addr → Prop} (k : ∀ a, X a ↔ X' a) {vs : List Value} {cs : List Cp} {bs : List Bd} (t : CsAt X h vs cs bs) : CsAt X' h vs cs bs :=
  t.gen (fun a q => (k a).mp q) (fun _ _ r => r.weak fun a q => (k a).mpr q) (fun _ o a e q => o a e ((k a).mpr q)) fun _ _ _ l r => ⟨l, r.weak fun a q => (k a).mpr q⟩
noncomputable def growsOf : List Bd → List Addr
  | [] => []
  | .grow a _ :: r => a :: growsOf r
  | _ :: r => growsOf r
theorem Cx.more {X X' : Addr → Prop} {ρ : List (Str × Bool × D)} (C : Cx w X env sc ρ h) (k : Fr2 X X' h) (ke : Ext h h') (low : ∀ a, X' a → ∃ o, h'.get? a = some o) : Cx w X' env sc ρ h' :=
  ⟨C.base.ext ke, C.scope, C.fn, C.glob, C.blt, low, fun x b d e => let ⟨v, nm, r, o⟩ := C.vars x b d e; ⟨v, nm.ext ke, (r.more k).ext ke, fun hb => (o hb).more k r⟩⟩
theorem cs_run {pos : Pos} {ρ : List (Str × Bool × D)} {es : List Expr} {cs : List Cp} {s : Shared} {X : Addr → Prop} (a : EvC w n env sc ρ es cs) (hA : Rm n A) (C : Cx w X env sc ρ s.heap) :
    wpAny (Md w) A (spliced (backTo pos (starEach es env))) (fun vs s' => ∃ bs, CsAt (fun c => X c ∨ c ∈ growsOf bs) s'.heap vs cs bs ∧ (growsOf bs).Nodup ∧ (∀ a ∈ growsOf bs, s.heap.get? a = none) ∧ Keeps s s') E s := by
  induction a generalizing s X with
  | nil => exact wpAny_items_nil ⟨[], .nil, List.nodup_nil, fun _ q => (nomatch q), keeps_refl s⟩
  | val ha he hr ih =>
    refine wpAny_items_cons (wpAny_mono (ha X A s E hA C) (fun v s₁ q => ?_) fun _ _ x => x) he
    obtain ⟨r1, o1, k1⟩ := q
    refine wpAny_mono (ih (C.ext (keeps_ext k1))) (fun vs s₂ q => ?_) fun _ _ x => x
    obtain ⟨bs, ca, nd, hn, k2⟩ := q
    have hf : Fr2 X (fun c => X c ∨ c ∈ growsOf bs) s₁.heap := fun c z => z.imp id fun z => hn c z
    refine ⟨.own _ :: bs, .val ((r1.more hf).ext (keeps_ext k2)) ((o1 rfl).more hf r1) ca, nd, fun a q => ?_, keeps_trans k1 k2⟩
    cases e : s.heap.get? a with
    | none => rfl
    | some o => have := hn a q; rw [keeps_ext k1 _ _ e] at this; cases this
  | @new e ds es cs ha he hr ih =>
    refine wpAny_items_cons (wpAny_mono (ha X A s E hA C) (fun v s₁ q => ?_) fun _ _ x => x) he
    obtain ⟨a, rfl, hna, ⟨us, l, r⟩, k1⟩ := q
    obtain ⟨j, ho⟩ := id l
    have C₁ : Cx w (fun c => X c ∨ c = a) env sc ρ s₁.heap := C.more (fun c q => q.imp id fun e => by subst e; exact hna) (keeps_ext k1) fun c q => by
      rcases q with q | q
      · obtain ⟨o, e⟩ := C.low c q; exact ⟨o, keeps_ext k1 _ _ e⟩
      · subst q; exact ⟨_, ho⟩
    refine wpAny_mono (ih C₁) (fun vs s₂ q => ?_) fun _ _ x => x
    obtain ⟨bs, ca, nd, hn, k2⟩ := q
    have hf : Fr2 (fun c => X c ∨ c = a) (fun c => X c ∨ c ∈ a :: growsOf bs) s₁.heap := fun c z => by
      rcases z with z | z
      · exact .inl (.inl z)
      · rcases List.mem_cons.mp z with z | z
        · exact .inl (.inr z)
        · exact .inr (hn c z)
    refine ⟨.grow a ds :: bs, .new (.inr List.mem_cons_self) ⟨us, l.at fun o e => keeps_ext k2 _ o e, (r.more hf).ext (keeps_ext k2)⟩ (ca.congr fun c => ?_), List.nodup_cons.mpr ⟨fun q => ?_, nd⟩, fun c q => ?_, keeps_trans k1 k2⟩
    · constructor
      · rintro ((q | q) | q)
        · exact .inl q
        · exact .inr (q ▸ List.mem_cons_self)
        · exact .inr (List.mem_cons_of_mem _ q)
      · rintro (q | q)
        · exact .inl (.inl q)
        · rcases List.mem_cons.mp q with q | q
          · exact .inl (.inr q)
          · exact .inr q
    · have := hn a q; rw [ho] at this; cases this
    · rcases List.mem_cons.mp q with q | q
      · subst q; exact hna
      · cases e : s.heap.get? c with
        | none => rfl
        | some o => have := hn c q; rw [keeps_ext k1 _ _ e] at this; cases this
noncomputable def bindAll : List Str → List Bd → Vs → Vs
  | x :: xs, b :: bs, ρ => bindAll xs bs ((x, b) :: ρ)
  | _, _, ρ => ρ
inductive StAs (w : World) (A : Around) (E : Value → Shared → Prop) (env : Env) : List Str → List (Value → Sem Unit) → Prop
  | nil : StAs w A E env [] []
  | cons {x : Str} {f : Value → Sem Unit} {xs : List Str} {fs : List (Value → Sem Unit)} : (∀ v (s : Shared) (Q : Unit → Shared → Prop), wpAny (Md w) A (storeName env x v) Q E s → wpAny (Md w) A (f v) Q E s) → StAs w A E env xs fs → StAs w A E env (x :: xs) (f :: fs)
/-- the stores, one by one -/
theorem stores_run {xs : List Str} {fs : List (Value → Sem Unit)} (hf : StAs w A E env xs fs) : ∀ {vs : List Value} {cs : List Cp} {bs : List Bd} {ρ : Vs} {s : Shared} {Q : Unit → Shared → Prop},
    Fs w G X Z env sc ρ H Y s.heap → CsAt (XZ X Z) s.heap vs cs bs → xs.length = vs.length → (∀ x ∈ xs, locOrCell sc x = true) → (growsOf bs).Nodup → (∀ a ∈ growsOf bs, Z a ∧ (∀ y es, ρ.lookup y ≠ some (.grow a es)) ∧ ¬ G.W a ∧ ∀ o, ¬ G.P a o) →
    (∀ s', Chg s s' → Fs w G X Z env sc (bindAll xs bs ρ) H Y s'.heap → Q () s') → wpAny (Md w) A (assignInOrder fs vs) Q E s := by
  induction hf with
  | nil =>
    intro vs cs bs ρ s Q F ca hl _ _ _ hq
    cases ca with
    | nil => exact wpAny_pure (hq s (Chg.refl s) F)
    | val => nomatch hl
    | new => nomatch hl
  | cons hf hfs ih =>
    intro vs cs bs ρ s Q F ca hl hx nd hg hq
    cases ca with
    | nil => nomatch hl
    | val r o t =>
      unfold assignInOrder
      refine wpAny_bind (wpAny_holding (hf _ s _ ?_))
      refine fs_store F (hx _ List.mem_cons_self) (fit_own r o) fun s' c F' sk kp => ?_
      refine ih F' (t.seq sk) (by first | exact of_decide_eq_true hl | exact of_decide_eq_false hl | exact bne_iff_ne.mp hl | exact eq_of_beq hl | simpa using hl) (fun y hy => hx y (List.mem_cons_of_mem _ hy)) nd (fun a ha => ⟨(hg a ha).1, fun y es e => ?_, (hg a ha).2.2⟩) fun s'' c' F'' => hq s'' (c.trans c') F''
      rw [List.lookup_cons] at e
      split at e
      · cases e
      · exact (hg a ha).2.1 y es e
    | new z hu t =>
      rename_i a ds vs' cs' bs'
      obtain ⟨us, l, r⟩ := hu
      have ha := hg a List.mem_cons_self
      unfold assignInOrder
      refine wpAny_bind (wpAny_holding (hf _ s _ ?_))
      refine fs_store F (hx _ List.mem_cons_self) (b := .grow a ds) ⟨⟨rfl, ha.1, us, l, r⟩, fun b es e => by cases e; exact ⟨fun y es e => absurd e (ha.2.1 y es), ha.2.2⟩⟩ fun s' c F' sk kp => ?_
      have nd' := List.nodup_cons.mp nd
      refine ih F' (t.seq sk) (by first | exact of_decide_eq_true hl | exact of_decide_eq_false hl | exact bne_iff_ne.mp hl | exact eq_of_beq hl | simpa using hl) (fun y hy => hx y (List.mem_cons_of_mem _ hy)) nd'.2 (fun b hb => ⟨(hg b (List.mem_cons_of_mem _ hb)).1, fun y es e => ?_, (hg b (List.mem_cons_of_mem _ hb)).2.2⟩) fun s'' c' F'' => hq s'' (c.trans c') F''
      rw [List.lookup_cons] at e
      split at e
      · cases e; exact nd'.1 hb
      · exact (hg b (List.mem_cons_of_mem _ hb)).2.1 y es e
/-- what the names hold behind, for whatever places the new lists have -/
noncomputable def CK : List Cp → (List Bd → Prop) → Prop
  | [], k => k []
  | .val d :: cs, k => CK cs fun bs => k (.own d :: bs)
  | .new ds :: cs, k => ∀ a, CK cs fun bs => k (.grow a ds :: bs)
theorem CK.at {X : Addr → Prop} {vs : List Value} {cs : List Cp} {bs : List Bd} {k : List Bd → Prop} (t : CsAt X h vs cs bs) (q : CK cs k) : k bs := by
  induction t generalizing k with
  | nil => exact q
  | val _ _ _ ih => exact ih (k := fun bs => k (.own _ :: bs)) q
  | new _ _ _ ih => exact ih (k := fun bs => k (.grow _ _ :: bs)) (q _)
theorem CsAt.rev {X : Addr → Prop} {vs : List Value} {cs : List Cp} {bs : List Bd} (t : CsAt X h vs cs bs) : CsAt X h vs.reverse cs.reverse bs.reverse := by
  have app : ∀ {vs₁ : List Value} {cs₁ : List Cp} {bs₁ : List Bd} {vs₂ : List Value} {cs₂ : List Cp} {bs₂ : List Bd}, CsAt X h vs₁ cs₁ bs₁ → CsAt X h vs₂ cs₂ bs₂ → CsAt X h (vs₁ ++ vs₂) (cs₁ ++ cs₂) (bs₁ ++ bs₂) := by
    intro vs₁ cs₁ bs₁ vs₂ cs₂ bs₂ a b
    induction a with
    | nil => exact b
    | val r o _ ih => exact .val r o ih
    | new z u _ ih => exact .new z u ih
  induction t with
  | nil => exact .nil
  | val r o t ih => rw [List.reverse_cons, List.reverse_cons, List.reverse_cons]; exact app ih (.val r o .nil)
  | new z u t ih => rw [List.reverse_cons, List.reverse_cons, List.reverse_cons]; exact app ih (.new z u .nil)
theorem growsOf_append (a b : List Bd) : growsOf (a ++ b) = growsOf a ++ growsOf b := by
  induction a with
  | nil => rfl
  | cons x a ih => cases x <;> simp [growsOf, ih]
theorem growsOf_reverse (a : List Bd) : growsOf a.reverse = (growsOf a).reverse := by
  induction a with
  | nil => rfl
  | cons x a ih => rw [List.reverse_cons, growsOf_append, ih]; cases x <;> simp [growsOf]
theorem CsAt.len {X : Addr → Prop} {vs : List Value} {cs : List Cp} {bs : List Bd} (t : CsAt X h vs cs bs) : vs.length = cs.length ∧ bs.length = cs.length := by
  induction t with
  | nil => exact ⟨rfl, rfl⟩
  | val _ _ _ ih => simp [ih.1, ih.2]
  | new _ _ _ ih => simp [ih.1, ih.2]
noncomputable def asNames : List Expr → List Str
  | [] => []
  | e :: r => match nmOf e with
    | some x => x :: asNames r
    | none => []
noncomputable def allName : List Expr → Bool
  | [] => true
  | e :: r => (nmOf e).isSome && allName r
theorem stas_names {ts : List Expr} (h : allName ts = true) : StAs w A E env (asNames ts) ((assignEach ts env).map (·.2)) ∧ (assignEach ts env).findIdx? (·.1) = none ∧ (assignEach ts env).length = (asNames ts).length := by
  induction ts with
  | nil =>
    have e : assignEach [] env = [] := by first | rfl | simp [assignEach]
    rw [e]; exact ⟨.nil, rfl, rfl⟩
  | cons e r ih =>
    obtain ⟨h1, h2⟩ := Bool.and_eq_true_iff.mp h
    obtain ⟨x, hx⟩ := Option.isSome_iff_exists.mp h1
    obtain ⟨p, rfl⟩ := nmOf_some hx
    have e : assignEach (.Name x p :: r) env = (false, assign (.Name x p) env) :: assignEach r env := by first | rfl | simp [assignEach]
    obtain ⟨h1, h2, h3⟩ := ih h2
    rw [e]
    refine ⟨.cons (fun v s Q q => wpAny_assign_Name q) h1, ?_, congrArg (· + 1) h3⟩
    simp [List.findIdx?_cons, h2]
theorem stas_bind : ∀ (xs : List Str), StAs w A E env xs (xs.map fun x => bindName env x)
  | [] => .nil
  | x :: xs => .cons (fun v s Q q => wpAny_bindName q) (stas_bind xs)
noncomputable def swOf (sc : Scope) (ts vs : List Expr) : Option (List Str) :=
  if !(ts.length == 2 || ts.length == 3) || vs.length != ts.length then none
  else if vs.any (fun | .Starred .. => true | _ => false) then none
  else
    let line := (ts.head?.map (·.pos.line)).getD 0
    let names := ts.filterMap fun
      | .Name id pos => if sc.names.lookup id == some .local && pos.line == line then some id else none
      | _ => none
    if names.length != ts.length || names.eraseDups.length != names.length then none
    else if vs.all (foldedForSure 8) then none else some names
theorem ite_pure {α : Type} {c : Prop} [Decidable c] {a b : α} {m : Sem α} (h : ¬ c → m = pure b) : (if c then pure a else m) = (pure (if c then a else b) : Sem α) := by
  by_cases hc : c
  · rw [if_pos hc, if_pos hc]
  · rw [if_neg hc, if_neg hc]; exact h hc
theorem sw_eq {ts vs : List Expr} {k k' : Nat} {tp vp : Pos} (he : env.scope = sc) (hk : sc.kind = .function) (hc : vs.all (constantsAlone 8) = true → vs.all (foldedForSure 8) = true) : swappedStores [.Tuple ts k tp] (.Tuple vs k' vp) env = pure (swOf sc ts vs) := by
  subst he
  have hb : env.blockKind = .function := by unfold Env.blockKind; rw [hk]; rfl
  unfold swappedStores swOf
  dsimp only
  rw [hb, bne_self_eq_false, Bool.or_false]
  refine ite_pure fun _ => ite_pure fun _ => ite_pure fun _ => ite_pure fun hf => ?_
  exact if_neg fun e => hf (hc e)
/-- a, b, .. = u, v, .. -/
theorem st_tuple_run {ts es : List Expr} {k k' : Nat} {tp vp pos : Pos} {cs : List Cp} {sw : Option (List Str)} (F : Fs w G X Z env sc ρ H Y s.heap) (hA : Rm n A) (hrun : wpAny (Md w) A (spliced (backTo vp (starEach es env))) (fun vs s' => ∃ bs, CsAt (fun c => XZ X Z c ∨ c ∈ growsOf bs) s'.heap vs cs bs ∧ (growsOf bs).Nodup ∧ (∀ a ∈ growsOf bs, s.heap.get? a = none) ∧ Keeps s s') E s) (hx : (asNames ts).all (locOrCell sc) = true) (hts : allName ts = true) (hlen : (asNames ts).length = cs.length) (hsz : cs.length ≤ sizeLine)
    (hce : (!es.all (constantsAlone 8) || es.all (foldedForSure 8)) = true) (hsw : swOf sc ts es = sw) (hsn : (match sw with | none => true | some ns => ns == asNames ts) = true)
    (h : CK cs fun bs => (∀ a ∈ growsOf bs, ¬ X a ∧ s.heap.get? a = none) → ∀ s', Chg s s' → Fs w G X (fun c => Z c ∨ c ∈ growsOf bs) env sc (if sw.isSome then bindAll (asNames ts).reverse bs.reverse ρ else bindAll (asNames ts) bs ρ) H Y s'.heap → Q .next s')
    (hs : swapsWithSole [.Tuple ts k tp] (.Tuple es k' vp) pos.line env = pure false := by rfl) : wpAny (Md w) A (exec (.Assign [.Tuple ts k tp] (.Tuple es k' vp) pos) env) Q E s := by
  have hx : ∀ x ∈ asNames ts, locOrCell sc x = true := List.all_eq_true.mp hx
  have hsw : swappedStores [.Tuple ts k tp] (.Tuple es k' vp) env = pure sw := hsw ▸ sw_eq F.scope F.fn fun e => by rw [e] at hce; simpa using hce
  have main : ∀ (f : Value → Shared → Prop), (∀ T vs bs (s₂ : Shared), IsTup s₂.heap T vs.toArray → CsAt (XZ X fun c => Z c ∨ c ∈ growsOf bs) s₂.heap vs cs bs → (growsOf bs).Nodup → (∀ a ∈ growsOf bs, s.heap.get? a = none) → Keeps s s₂ → Fs w G X (fun c => Z c ∨ c ∈ growsOf bs) env sc ρ H Y s₂.heap → f (.ref T) s₂) →
      wpAny (Md w) A (eval (.Tuple es k' vp) env) f E s := by
    intro f hf
    refine wpAny_Tuple (wpAny_mono hrun (fun vs s₁ q => ?_) fun _ _ x => x)
    obtain ⟨bs, ca, nd, hn, k1⟩ := q
    have kp : Keeps s { s₁ with heap := s₁.heap.push { cls := .type "tuple", data := .seq vs.toArray } } := keeps_trans k1 (keeps_heap _ _ fun b o e => Heap.get?_push_of_some _ e)
    refine ⟨by rw [ca.len.1]; exact hsz, hf _ vs bs _ ⟨_, Heap.get?_push_size _ rfl, rfl, 0, rfl⟩ ((ca.congr fun c => ?_).ext fun b o e => Heap.get?_push_of_some _ e) nd hn kp (F.widen (keeps_ext kp) (fun a q => .inl q) fun a q => q.imp id fun q => ⟨hn a q, ?_⟩)⟩
    · constructor
      · rintro ((q | q) | q)
        · exact .inl q
        · exact .inr (.inl q)
        · exact .inr (.inr q)
      · rintro (q | q | q)
        · exact .inl (.inl q)
        · exact .inl (.inr q)
        · exact .inr q
    · have key : ∀ {vs : List Value} {cs : List Cp} {bs : List Bd} {X : Addr → Prop}, CsAt X s₁.heap vs cs bs → a ∈ growsOf bs → ∃ o, s₁.heap.get? a = some o := by
        intro vs cs bs X t
        induction t with
        | nil => intro q; cases q
        | val _ _ _ ih => exact ih
        | new _ u _ ih =>
          intro q
          rcases List.mem_cons.mp q with q | q
          · subst q; obtain ⟨us, ⟨j, ho⟩, _⟩ := u; exact ⟨_, ho⟩
          · exact ih q
      obtain ⟨o, e⟩ := key ca q
      exact ⟨o, Heap.get?_push_of_some _ e⟩
  have hkf : env.scope.kind = .function := by rw [F.scope]; exact F.fn
  have fin : ∀ {bs : List Bd} {vs : List Value} {s₂ : Shared}, CsAt (XZ X fun c => Z c ∨ c ∈ growsOf bs) s₂.heap vs cs bs → (∀ a ∈ growsOf bs, s.heap.get? a = none) → (∀ a ∈ growsOf bs, ¬ X a ∧ s.heap.get? a = none) := fun ca hn a q => ⟨fun z => (by obtain ⟨o, e⟩ := F.low a (.inl z); rw [hn a q] at e; cases e), hn a q⟩
  have gr : ∀ {bs : List Bd}, (∀ a ∈ growsOf bs, s.heap.get? a = none) → ∀ a ∈ growsOf bs, (Z a ∨ a ∈ growsOf bs) ∧ (∀ y es, ρ.lookup y ≠ some (.grow a es)) ∧ ¬ G.W a ∧ ∀ o, ¬ G.P a o := fun hn a q => ⟨.inr q, F.noGrow (hn a q), fun z => (by obtain ⟨o, e⟩ := F.low a (.inr (F.wall a z).1); rw [hn a q] at e; cases e), fun o z => by have := (F.prot a o z).1; rw [hn a q] at this; cases this⟩
  cases sw with
  | some ns =>
    have e : ns = asNames ts := by first | exact of_decide_eq_true hsn | exact of_decide_eq_false hsn | exact bne_iff_ne.mp hsn | exact eq_of_beq hsn | simpa using hsn
    subst e
    refine Assign_Tuple_swapped (main _ fun T vs bs s₂ ht ca nd hn k2 F₂ => ?_) hs hsw
    have hvl : vs.toArray.size = (asNames ts).length := by rw [List.size_toArray, ca.len.1, hlen]
    rw [← hvl]
    refine unpackItems_tuple hA.handled ht fun h₁ ex => ?_
    have k12 : Ext s₂.heap h₁ := fun b o e => ex b o (fun z => by rw [z, get_size] at e; cases e) e
    have nd' : (growsOf bs.reverse).Nodup := by rw [growsOf_reverse]; exact List.pairwise_reverse.mpr (nd.imp Ne.symm)
    refine stores_run (stas_bind _) (F₂.ext k12) (ca.ext k12).rev (by simp [ca.len.1, hlen]) (fun x hx' => hx x (List.mem_reverse.mp hx')) nd' (fun a ha => gr hn a (by rw [growsOf_reverse] at ha; exact List.mem_reverse.mp ha)) fun s' c F' => ?_
    exact CK.at ca h (fin ca hn) s' ((Chg.of_keeps k2).trans (Chg.trans ⟨h₁, _, rfl⟩ c)) F'
  | none =>
    refine wpAny_Assign_stores (main _ fun T vs bs s₂ ht ca nd hn k2 F₂ => ?_) hs hsw
    show wpAny _ A (do assignAll (.ref T) [assign (.Tuple ts k tp) env]) _ _ _
    show wpAny _ A (assign (.Tuple ts k tp) env (.ref T)) _ _ _
    obtain ⟨hst, hnf, hln⟩ := stas_names (w := w) (A := A) (E := E) (env := env) hts
    refine assign_Tuple_tuple hA.handled ht (by rw [hln, List.size_toArray, ca.len.1, hlen]) hnf fun h₁ ex => ?_
    have k12 : Ext s₂.heap h₁ := fun b o e => ex b o (fun z => by rw [z, get_size] at e; cases e) e
    refine stores_run hst (F₂.ext k12) (ca.ext k12) (by simp [ca.len.1, hlen]) hx nd (fun a ha => gr hn a ha) fun s' c F' => ?_
    exact CK.at ca h (fin ca hn) s' ((Chg.of_keeps k2).trans (Chg.trans ⟨h₁, _, rfl⟩ c)) F'
/-- a, b, .. = u, v, .. -/
theorem st_assign_tuple {ts es : List Expr} {k k' : Nat} {tp vp pos : Pos} {cs : List Cp} {sw : Option (List Str)} (F : Fs w G X Z env sc ρ H Y s.heap) (hA : Rm n A) (hc : clean ρ = true) (he : EvC w n env sc (seen ρ) es cs) (hx : (asNames ts).all (locOrCell sc) = true) (hts : allName ts = true) (hlen : (asNames ts).length = cs.length) (hsz : cs.length ≤ sizeLine)
    (hce : (!es.all (constantsAlone 8) || es.all (foldedForSure 8)) = true) (hsw : swOf sc ts es = sw) (hsn : (match sw with | none => true | some ns => ns == asNames ts) = true)
    (h : CK cs fun bs => (∀ a ∈ growsOf bs, ¬ X a ∧ s.heap.get? a = none) → ∀ s', Chg s s' → Fs w G X (fun c => Z c ∨ c ∈ growsOf bs) env sc (if sw.isSome then bindAll (asNames ts).reverse bs.reverse ρ else bindAll (asNames ts) bs ρ) H Y s'.heap → Q .next s')
    (hs : swapsWithSole [.Tuple ts k tp] (.Tuple es k' vp) pos.line env = pure false := by rfl) : wpAny (Md w) A (exec (.Assign [.Tuple ts k tp] (.Tuple es k' vp) pos) env) Q E s :=
  st_tuple_run F hA (cs_run he hA (F.cx hc)) hx hts hlen hsz hce hsw hsn h hs
end
end Mine

open PySem PySem.W PyProof.Rows PySem.AutoIntOps
set_option Elab.async false
set_option linter.unusedVariables false
set_option linter.unusedSimpArgs false
namespace Mine
section
variable {w : World} {n : Nat} {G : Gd} {X Z Z' : Addr → Prop} {env : Env} {sc : Scope} {ρ ρ' : Vs} {H : Heap} {Y : Addr → Prop} {A : Around} {E : Value → Shared → Prop} {s : Shared} {Q : Flow → Shared → Prop} {h h' : Heap}
/-! # loops -/
noncomputable def bindV (e : Expr) (d : D) (ρ : Vs) : Vs := match nmOf e with
  | some x => (x, .own d) :: ρ
  | none => match twoOf e, d with
    | some q, .tup [d1, d2] => (q.2, .own d2) :: (q.1, .own d1) :: ρ
    | _, _ => ρ
theorem fs_target {target : Expr} {v : Value} {d : D} {Q : Unit → Shared → Prop} (hh : A.handled = none) (F : Fs w G X Z env sc ρ H Y s.heap) (ht : tgtOk sc target = true) (it : Item (XZ X Z) target s.heap v d)
    (h : ∀ s', Chg s s' → Fs w G X Z env sc (bindV target d ρ) H Y s'.heap → Q () s') : wpAny (Md w) A (assign target env v) Q E s := by
  rcases tgt_cases ht with ⟨x, pos, rfl⟩ | ⟨x, px, y, py, k, pos, rfl⟩
  · exact wpAny_assign_Name (fs_store F ht (fit_own it.1 it.2) fun s' c F' _ _ => h s' c F')
  · obtain ⟨d1, d2, rfl, r⟩ := it
    replace ht : (locOrCell sc x && (locOrCell sc y && !(x == y))) = true := ht
    simp only [Bool.and_eq_true, Bool.not_eq_true', beq_eq_false_iff_ne, ne_eq] at ht
    obtain ⟨hx, hy, hxy⟩ := ht
    obtain ⟨a, v1, v2, rfl, hl, ⟨r1, o1⟩, r2, o2⟩ := r.pair_inv
    refine assign_Tuple_tuple (items := #[v1, v2]) hh hl rfl rfl fun h₁ ex => ?_
    have k : Ext s.heap h₁ := fun b o e => ex b o (fun z => by rw [z, get_size] at e; cases e) e
    show wpAny _ A (assignInOrder [assign (.Name x px) env, assign (.Name y py) env] [v1, v2]) Q E _
    unfold assignInOrder
    refine wpAny_bind (wpAny_holding (wpAny_assign_Name (fs_store (F.ext k) hx (fit_own (r1.ext k) o1) fun s₂ c₂ F₂ sk₂ _ => ?_)))
    unfold assignInOrder
    refine wpAny_bind (wpAny_holding (wpAny_assign_Name (fs_store F₂ hy (fit_own ((r2.ext k).seq sk₂) o2) fun s₃ c₃ F₃ sk₃ _ => ?_)))
    unfold assignInOrder
    exact wpAny_pure (h s₃ (Chg.trans ⟨h₁, _, rfl⟩ (c₂.trans c₃)) F₃)
/-- between the turns of a loop -/
inductive FInv (w : World) (G : Gd) (X : Addr → Prop) (env : Env) (sc : Scope) (H : Heap) (Y : Addr → Prop) (s : Shared) (I : Nat → Vs → Prop) (St : Nat → Heap → Prop) (N k : Nat) (s' : Shared) : Prop
  | mk (i : Nat) (ρ₁ : Vs) (Z₁ : Addr → Prop) : i ≤ N → k = N - i → I i ρ₁ → Chg s s' → St i s'.heap → Fs w G X Z₁ env sc ρ₁ H Y s'.heap → FInv w G X env sc H Y s I St N k s'
theorem st_forG {target iter : Expr} {body orelse : List Stmt} {pos : Pos} {ds : List D} (I : Nat → Vs → Prop) (J : Vs → Prop) (F : Fs w G X Z env sc ρ H Y s.heap) (hA : Rm n A) (hc : clean ρ = true) (ht : tgtOk sc target = true)
    (hit : EvIt w n (XZ X Z) env sc (seen ρ) target iter true ds) (h0 : I 0 ρ)
    (turn : ∀ i d ρ₁ Z₁ G₁ (s₁ : Shared), (∀ b o, G.P b o → G₁.P b o) → ds[i]? = some d → I i ρ₁ → Chg s s₁ → Fs w G₁ X Z₁ env sc (bindV target d ρ₁) H Y s₁.heap →
      wpAny (Md w) A (execs body env) (TQ (fun s₂ => ∃ ρ₂ Z₂, I (i + 1) ρ₂ ∧ Chg s s₂ ∧ Fs w G₁ X Z₂ env sc ρ₂ H Y s₂.heap) (fun s₂ => ∃ ρ₂ Z₂, J ρ₂ ∧ Chg s s₂ ∧ Fs w G₁ X Z₂ env sc ρ₂ H Y s₂.heap) Q) NoE s₁)
    (done : ∀ ρ₁ Z₁ (s₁ : Shared), I ds.length ρ₁ → Chg s s₁ → Fs w G X Z₁ env sc ρ₁ H Y s₁.heap → wpAny (Md w) A (execs orelse env) Q NoE s₁)
    (brk : ∀ ρ₁ Z₁ (s₁ : Shared), J ρ₁ → Chg s s₁ → Fs w G X Z₁ env sc ρ₁ H Y s₁.heap → Q .next s₁)
    (hs : ∀ x, foldedSetIterable iter env x = pure x := by intro _; rfl) : wpAny (Md w) A (exec (.For target iter body orelse pos) env) Q E s := by
  refine wpAny_For (wpAny_mono (hit A s E hA (F.cx hc)) (fun xv s₁ h₁ => wpAny_mono h₁ (fun it s₂ h₂ => ?_) fun _ _ x => x) fun _ _ x => x) hs
  refine hide fun R kR => ?_
  obtain ⟨k₂, I', fp, wr, P, Md', St, rfl, W, hst, hfp, hwr, hlive, hfpX, hitem, hself⟩ := h₂
  have hfpX := hfpX rfl
  have hl : ∀ i h, St i h → ∀ b ∈ wr, ∃ o, h.get? b = some o := fun i h st b hb => hlive i h st b hb
  let Ps : Addr → Obj → Prop := fun b o => (s.heap.get? b = some o ∧ (∃ xs k, o.data = .seq xs k) ∧ ¬ XZ X Z b) ∨ (s.heap.get? b = none ∧ b ∉ wr ∧ s₂.heap.get? b = some o)
  let Gn : Gd := ⟨fun b o => G.P b o ∨ Ps b o, fun a => G.W a ∨ a ∈ wr, fun b => G.S b ∨ ∃ o, s.heap.get? b = some o ∧ (∃ xs k, o.data = .seq xs k) ∧ ¬ XZ X Z b⟩
  have F₂ : Fs w G X (fun a => Z a ∨ a ∈ wr) env sc ρ H Y s₂.heap := F.widen (keeps_ext k₂) (fun a q => .inl q) fun a q => q.imp id fun q => ⟨hwr a q, hl 0 _ hst a q⟩
  have notFmSeq : ∀ {b : Addr} {o : Obj}, s₂.heap.get? b = some o → (∃ xs k, o.data = .seq xs k) → ¬ Fm.at env (allNames sc) b := fun {b o} e q z => by
    obtain ⟨xs, k, q⟩ := q
    obtain ⟨m, cm, f, _⟩ := F₂.fm
    rcases z with z | ⟨y, hy, hky, hcy⟩
    · subst z; obtain ⟨o', _, _, ho, hd, _⟩ := f.ns; rw [e] at ho; cases ho; rw [q] at hd; cases hd
    · obtain ⟨o', ho, hd⟩ := f.cell y hy b hcy hky; rw [e] at ho; cases ho; rw [q] at hd; cases hd
  have growZ : ∀ {x : Str} {a : Addr} {ds : List D}, ρ.lookup x = some (.grow a ds) → Z a := fun {x a ds} e => by
    obtain ⟨m, cm, f, g⟩ := F.fm
    obtain ⟨_, v, _, _, hz, _⟩ := g x _ e
    exact hz
  have F₂' : Fs w Gn X (fun a => Z a ∨ a ∈ wr) env sc ρ H Y s₂.heap := F₂.guard (fun b o q => by
      rcases q with q | ⟨q1, q2, q3⟩ | ⟨q1, q2, q3⟩
      · exact F₂.prot b o q
      · have e := keeps_ext k₂ _ _ q1
        exact ⟨e, notFmSeq e q2, fun x ds z => q3 (.inr (growZ z))⟩
      · exact ⟨q3, F.notFm q1, F.noGrow q1⟩) (fun a q => by
      rcases q with q | q
      · exact F₂.wall a q
      · exact ⟨.inr q, F.notFm (hwr a q), F.noGrow (hwr a q), F.freshH (hwr a q)⟩) (fun b q => by
      rcases q with q | ⟨o, e, q, hx⟩
      · exact F₂.safe b q
      · refine ⟨fun z => ?_, o, keeps_ext k₂ _ _ e⟩
        rcases z with z | z
        · exact hx (.inr z)
        · rw [hwr b z] at e; cases e)
  have stP : ∀ b ∈ wr, ∀ o, ¬ Gn.P b o := fun b hb o q => by
    have hn := hwr b hb
    rcases q with q | ⟨q, _⟩ | ⟨_, q, _⟩
    · rw [(F.prot b o q).1] at hn; cases hn
    · rw [q] at hn; cases hn
    · exact q hb
  have stQ : ∀ {ρ : Vs} {Z₁ : Addr → Prop} {h : Heap}, Fs w Gn X Z₁ env sc ρ H Y h → ExtQ (XZ X Z) s.heap h := fun {ρ Z₁ h} F b o hb e q => (F.prot b o (.inr (.inl ⟨e, q, hb⟩))).1
  have st3 : ∀ {ρ : Vs} {Z₁ : Addr → Prop} {h : Heap}, Fs w Gn X Z₁ env sc ρ H Y h → Fr3 (XZ X Z) (XZ X Z₁) s.heap := fun {ρ Z₁ h} F a o e q z => Classical.byContradiction fun hn => by
    rcases z with z | z
    · exact hn (.inl z)
    · exact (F.safe a (.inr ⟨o, e, q, hn⟩)).1 z
  have stF : ∀ {ρ : Vs} {Z₁ : Addr → Prop} {h : Heap}, Fs w Gn X Z₁ env sc ρ H Y h → ∀ b ∈ fp, b ∉ wr → ∀ o, s₂.heap.get? b = some o → h.get? b = some o := fun {ρ Z₁ h} F b hb hw o e => by
    rcases hfpX b hb with q | ⟨o', e', q, hx⟩
    · exact (F.prot b o (.inr (.inr ⟨q, hw, e⟩))).1
    · have := keeps_ext k₂ _ _ e'
      rw [e] at this; cases this
      exact (F.prot b o (.inr (.inl ⟨e', q, hx⟩))).1
  have back : ∀ {ρ : Vs} {Z₁ : Addr → Prop} {h : Heap}, Fs w Gn X Z₁ env sc ρ H Y h → Fs w G X Z₁ env sc ρ H Y h := fun {ρ Z₁ h} F => F.guard (fun b o q => F.prot b o (.inl q)) (fun a q => F.wall a (.inl q)) fun b q => F.safe b (.inl q)
  refine kR (codeAny_forLoop_any (FInv w Gn X env sc H Y s I St ds.length) ?_ ds.length ⟨0, ρ, _, Nat.zero_le _, rfl, h0, Chg.of_keeps k₂, hst, F₂'⟩)
  clear kR R
  intro k s' q
  refine hide fun R kR => ?_
  obtain ⟨i, ρ₁, Z₁, hi, rfl, hI, hch, hst', F'⟩ := q
  refine kR ?_
  clear kR R
  by_cases hlt : i < ds.length
  · refine W.item i _ _ _ hlt hst' fun v h₁ tk₁ hMd hk₁ => W.go i v _ _ _ hMd fun h₂ hP hst₂ hk₂ => ?_
    dsimp only at hk₁ hk₂
    obtain ⟨d, hd⟩ : ∃ d, ds[i]? = some d := ⟨ds[i], by simp [hlt]⟩
    have F₃ : Fs w Gn X Z₁ env sc ρ₁ H Y h₂ := F'.others (W := fun a => a ∈ wr) (fun a q => .inr q) (fun a o q p => stP a q o p) (fun b o hb e => hk₂ b o hb (hk₁ b o hb e)) fun b q => hl _ _ hst₂ b q
    let Gb : Gd := ⟨fun b o => Gn.P b o ∨ (b ∈ wr ∧ h₂.get? b = some o), Gn.W, Gn.S⟩
    have F₄ : Fs w Gb X Z₁ env sc ρ₁ H Y h₂ := F₃.guard (fun b o q => by
      rcases q with q | ⟨q1, q2⟩
      · exact F₃.prot b o q
      · obtain ⟨_, e2, e3, _⟩ := F₃.wall b (.inr q1)
        exact ⟨q2, e2, e3⟩) (fun a q => F₃.wall a q) F₃.safe
    have toN : ∀ {ρ : Vs} {Z₂ : Addr → Prop} {h : Heap}, Fs w Gb X Z₂ env sc ρ H Y h → Fs w Gn X Z₂ env sc ρ H Y h := fun {ρ Z₂ h} F => F.guard (fun b o q => F.prot b o (.inl q)) (fun a q => F.wall a q) F.safe
    have hSt : ∀ {ρ : Vs} {Z₂ : Addr → Prop} {h : Heap}, Fs w Gb X Z₂ env sc ρ H Y h → St (i + 1) h := fun {ρ Z₂ h} F => W.frame _ _ _ hst₂ fun b hb o e => by
      by_cases hw : b ∈ wr
      · exact (F.prot b o (.inr ⟨hw, e⟩)).1
      · rcases hfpX b hb with q | ⟨o', e', q, hx⟩
        · obtain ⟨o'', e''⟩ := hfp b hb
          have h2 := stF F₃ b hb hw o'' e''
          rw [e] at h2; cases h2
          exact stF (toN F) b hb hw o e''
        · have h2 := stF F₃ b hb hw o' (keeps_ext k₂ _ _ e')
          rw [e] at h2; cases h2
          exact stF (toN F) b hb hw o (keeps_ext k₂ _ _ e')
    refine fs_target hA.handled F₄ ht (hitem (XZ X Z₁) (st3 F₃) i d v h₂ hd hP (stQ F₃)) fun s₃ c₃ F₅ => ?_
    have c₃' : Chg s s₃ := hch.trans (Chg.trans ⟨h₂, tk₁, rfl⟩ c₃)
    have more : ∀ s₄ : Shared, (∃ ρ₂ Z₂, I (i + 1) ρ₂ ∧ Chg s s₄ ∧ Fs w Gb X Z₂ env sc ρ₂ H Y s₄.heap) → ∃ m, m < ds.length - i ∧ FInv w Gn X env sc H Y s I St ds.length m s₄ := fun s₄ q => by
      obtain ⟨ρ₂, Z₂, q1, q2, q3⟩ := q
      exact ⟨_, Nat.sub_lt_sub_left hlt (Nat.lt_succ_self _), i + 1, ρ₂, Z₂, hlt, rfl, q1, q2, hSt q3, toN q3⟩
    refine wpAny_mono (turn i d ρ₁ Z₁ Gb s₃ (fun _ _ q => .inl (.inl q)) hd hI c₃' F₅) (fun f s₄ q => ?_) fun _ _ x => x.elim
    cases f with
    | next => exact more s₄ q
    | cont => exact more s₄ q
    | brk => exact q.elim fun ρ₂ q => q.elim fun Z₂ q => brk ρ₂ Z₂ _ q.1 q.2.1 (back (toN q.2.2))
    | ret v => exact q
  · have hin : i = ds.length := by omega
    subst hin
    refine W.done _ _ _ hst' fun h₁ tk₁ hk₁ => ?_
    have F₆ := F'.others' (Z' := fun a => Z₁ a ∧ a ∉ wr) (W := fun a => a ∈ wr) (W₁ := G.W) (h' := h₁) (fun a q => .inr q) (fun a o q p => stP a q o p) hk₁ (fun a q => q.1) (fun b q z => by
        rcases q with q | q
        · obtain ⟨o, e⟩ := F.low b (.inl q); rw [hwr b z] at e; cases e
        · exact absurd z q.2)
      (fun x a es e => by
        obtain ⟨m, cm, f, g⟩ := F'.fm
        obtain ⟨_, v, _, _, hz, _⟩ := g x _ e
        exact ⟨hz, fun z => (F'.wall a (.inr z)).2.2.1 x es e⟩)
      fun a q => ⟨.inl q, (F'.wall a (.inl q)).1, fun z => by obtain ⟨o, e⟩ := F.low a (.inr (F.wall a q).1); rw [hwr a z] at e; cases e⟩
    have F₇ : Fs w G X _ env sc ρ₁ H Y h₁ := F₆.guard (fun b o q => F₆.prot b o (.inl q)) (fun a q => F₆.wall a q) fun b q => F₆.safe b (.inl q)
    exact wpAny_mono (done ρ₁ _ { s' with heap := h₁, toks := tk₁ } hI (hch.trans ⟨h₁, tk₁, rfl⟩) F₇) (fun _ _ q => q) fun _ _ x => x.elim
theorem st_for {target iter : Expr} {body orelse : List Stmt} {pos : Pos} {ds : List D} (I : Nat → Vs → Prop) (J : Vs → Prop) (F : Fs w G X Z env sc ρ H Y s.heap) (hA : Rm n A) (hc : clean ρ = true) (ht : tgtOk sc target = true)
    (hit : EvIt w n (XZ X Z) env sc (seen ρ) target iter true ds) (h0 : I 0 ρ)
    (turn : ∀ i d ρ₁ Z₁ G₁ (s₁ : Shared), ds[i]? = some d → I i ρ₁ → Chg s s₁ → Fs w G₁ X Z₁ env sc (bindV target d ρ₁) H Y s₁.heap →
      wpAny (Md w) A (execs body env) (TQ (fun s₂ => ∃ ρ₂ Z₂, I (i + 1) ρ₂ ∧ Chg s s₂ ∧ Fs w G₁ X Z₂ env sc ρ₂ H Y s₂.heap) (fun s₂ => ∃ ρ₂ Z₂, J ρ₂ ∧ Chg s s₂ ∧ Fs w G₁ X Z₂ env sc ρ₂ H Y s₂.heap) Q) NoE s₁)
    (done : ∀ ρ₁ Z₁ (s₁ : Shared), I ds.length ρ₁ → Chg s s₁ → Fs w G X Z₁ env sc ρ₁ H Y s₁.heap → wpAny (Md w) A (execs orelse env) Q NoE s₁)
    (brk : ∀ ρ₁ Z₁ (s₁ : Shared), J ρ₁ → Chg s s₁ → Fs w G X Z₁ env sc ρ₁ H Y s₁.heap → Q .next s₁)
    (hs : ∀ x, foldedSetIterable iter env x = pure x := by intro _; rfl) : wpAny (Md w) A (exec (.For target iter body orelse pos) env) Q E s :=
  st_forG I J F hA hc ht hit h0 (fun i d ρ₁ Z₁ G₁ s₁ _ => turn i d ρ₁ Z₁ G₁ s₁) done brk hs
end
end Mine

open PySem PySem.W PyProof.Rows PySem.AutoIntOps
set_option Elab.async false
set_option linter.unusedVariables false
set_option linter.unusedSimpArgs false
namespace Mine
/-! # things to iterate over -/
inductive Flt : D → Prop
  | none : Flt .none
  | bool (b : Bool) : Flt (.bool b)
  | int (i : Int) : Flt (.int i)
  | str (x : Str) : Flt (.str x)
theorem Flt.any {X X' : Addr → Prop} {h h' : Heap} {v : Value} {d : D} (f : Flt d) (r : RpB X h v d) : RpB X' h' v d ∧ Own X' v := by
  cases f with
  | none => cases r; exact ⟨.none, .none⟩
  | bool b => cases r; exact ⟨.bool _, .bool⟩
  | int i => obtain ⟨t, rfl⟩ := r.int_inv; exact ⟨.int _ _, .int⟩
  | str x => obtain ⟨t, rfl⟩ := r.str_inv; exact ⟨.str _ _, .str⟩
theorem allM_cons {P : Addr → Prop} {a : Addr} {l : List Addr} (h : P a) (k : ∀ b ∈ l, P b) : ∀ b ∈ a :: l, P b := List.forall_mem_cons.2 ⟨h, k⟩
theorem allM_nil {P : Addr → Prop} : ∀ b ∈ ([] : List Addr), P b := fun b h => (List.not_mem_nil h).elim
noncomputable def Flts (ds : List D) : Prop := ∀ d ∈ ds, Flt d
theorem flts_ints (l : List Int) : Flts (l.map .int) := fun d h => by
  obtain ⟨i, _, rfl⟩ := List.mem_map.mp h
  exact .int i
theorem flts_strs (l : List Str) : Flts (l.map .str) := fun d h => by
  obtain ⟨i, _, rfl⟩ := List.mem_map.mp h
  exact .str i
section
variable {w : World} {n : Nat} {X : Addr → Prop} {env : Env} {sc : Scope} {ρ : List (Str × Bool × D)} {A : Around} {E : Value → Shared → Prop} {s s₁ : Shared}
/-- a term whose value stood before -/
noncomputable def EvO (w : World) (n : Nat) (X : Addr → Prop) (env : Env) (sc : Scope) (ρ : List (Str × Bool × D)) (b : Bool) (e : Expr) (d : D) : Prop :=
  ∀ (A : Around) (s : Shared) (E : Value → Shared → Prop) (h₀ : Heap), Rm n A → Cx w X env sc ρ h₀ → Ext h₀ s.heap → wpAny (Md w) A (eval e env) (fun v s' => RpB X h₀ v d ∧ (b = true → Own X v) ∧ Keeps s s') E s
theorem evo_name {x : Str} {b b' : Bool} {d : D} {pos : Pos} (h : ρ.lookup x = some (b', d)) (hb : (!b || b') = true := by rfl) (hd : (x == ("__debug__" : Str)) = false := by decide) : EvO w n X env sc ρ b (.Name x pos) d := by
  intro A s E h₀ _ C k
  obtain ⟨v, nm, r, o⟩ := C.vars x b' d h
  exact wpAny_Name ((nm.ext k).load (C.scope ▸ C.fn) ⟨r, fun e => o (by rw [e] at hb; simpa using hb), keeps_refl s⟩) hd
noncomputable def Things (X : Addr → Prop) (target : Expr) (h₀ : Heap) (vs : List Value) (ds : List D) : Prop :=
  ∀ X', Fr3 X X' h₀ → ∀ (i : Nat) (d : D) (v : Value) (h : Heap), ds[i]? = some d → vs[i]? = some v → ExtQ X h₀ h → Item X' target h v d
noncomputable def Fits (target : Expr) (ds : List D) : Prop := match nmC target with
  | some _ => True
  | none => ∀ d ∈ ds, ∃ d1 d2, d = .tup [d1, d2]
theorem things_old {target : Expr} {h₀ : Heap} {vs : List Value} {ds : List D} (r : RpL X h₀ vs ds) (hf : Fits target ds) : Things X target h₀ vs ds := fun X' k i d v h hd hv e => by
  obtain ⟨v', hv', rb, ow⟩ := r.get hd
  rw [hv] at hv'; cases hv'
  cases hc : nmC target with
  | some q =>
    obtain ⟨⟨x, p⟩, rfl⟩ := q
    exact ⟨rb.move k e ow, Own.move k rb ow⟩
  | none =>
    unfold Fits at hf
    rw [hc] at hf
    obtain ⟨d1, d2, rfl⟩ := hf d (List.mem_of_getElem? hd)
    unfold Item
    rw [hc]
    exact ⟨d1, d2, rfl, rb.move k e ow⟩
theorem things_flat {target : Expr} {h₀ h : Heap} {vs : List Value} {ds : List D} (r : RpL X h vs ds) (hf : Flts ds) (hn : ∃ x p, target = .Name x p) : Things X target h₀ vs ds := fun X' k i d v h hd hv e => by
  obtain ⟨v', hv', rb, ow⟩ := r.get hd
  rw [hv] at hv'; cases hv'
  obtain ⟨x, p, rfl⟩ := hn
  exact (hf d (List.mem_of_getElem? hd)).any rb
theorem iter_list {target : Expr} {q : Bool} {a : Addr} {vs : List Value} {ds : List D} (hh : A.handled = none) (k : Keeps s s₁) (hl : s₁.heap.PlainList a vs.toArray) (hlen : vs.length = ds.length) (ht : Things X target s.heap vs ds)
    (hq : q = true → s.heap.get? a = none ∨ ¬ X a) : wpAny (Md w) A (pyIter (.ref a)) (fun it s₂ => Keeps s s₂ ∧ IterOK w A X target q ds s.heap it s₂) E s₁ := by
  have hlt : a < s₁.heap.objs.size := by obtain ⟨_, e⟩ := hl; exact Heap.lt_size e
  refine wpAny_pyIter_list hl.isList ?_
  refine ⟨keeps_trans k (keeps_heap _ _ fun b o e => Heap.get?_push_of_some _ e), ⟨s₁.heap.objs.size, [s₁.heap.objs.size, a], [s₁.heap.objs.size], fun i v _ => vs.toArray[i]? = some v, fun i v h => vs.toArray[i]? = some v ∧ h.IsListIter s₁.heap.objs.size a (i + 1) ∧ h.IsList a vs.toArray, fun i h => h.IsListIter s₁.heap.objs.size a i ∧ h.IsList a vs.toArray, rfl, ?_, ?_, ?_, ?_, ?_, ?_, ?_, ?_⟩⟩
  · have := KTurns.ofWalks (target := target) (Walks.list (prog := PySem.Challenge.pw_ta0079_01) (w := w) hh s₁.heap.objs.size a (Nat.ne_of_lt hlt) vs.toArray) fun i v s Q E st q => letGo_listiter st.1 q
    rwa [show vs.toArray.size = ds.length by simp [hlen]] at this
  · exact ⟨⟨_, Heap.get?_push_size _ rfl, rfl, rfl⟩, hl.isList.at fun o e => Heap.get?_push_of_some _ e⟩
  · exact allM_cons ⟨_, Heap.get?_push_size _ rfl⟩ (allM_cons (by obtain ⟨_, ho⟩ := hl; exact ⟨_, Heap.get?_push_of_some _ ho⟩) allM_nil)
  · intro b hb
    rw [List.mem_singleton.mp hb]
    exact none_above (keeps_ext k) (Nat.le_refl _)
  · intro i h st b hb
    rw [List.mem_singleton.mp hb]
    obtain ⟨⟨o, ho, _⟩, _⟩ := st
    exact ⟨o, ho⟩
  · intro hq'
    refine allM_cons (.inl (none_above (keeps_ext k) (Nat.le_refl _))) (allM_cons ?_ allM_nil)
    · cases hs : s.heap.get? a with
      | none => exact .inl rfl
      | some o =>
        refine .inr ⟨o, rfl, ?_, (hq hq').resolve_left (by rw [hs]; simp)⟩
        obtain ⟨j, ho⟩ := hl
        have := keeps_ext k _ _ hs
        rw [ho] at this; cases this
        exact ⟨_, _, rfl⟩
  · intro X' hf i d v h hd hP he
    have hv : vs.toArray[i]? = some v := hP
    exact ht X' hf i d v h hd (by first | exact of_decide_eq_true hv | exact of_decide_eq_false hv | exact bne_iff_ne.mp hv | exact eq_of_beq hv | simpa using hv) he
  · intro s' Q E' st hQ
    exact wpAny_pyIter_listiter st.1 hQ
theorem iter_tuple {target : Expr} {q : Bool} {a : Addr} {vs : List Value} {ds : List D} (hh : A.handled = none) (k : Keeps s s₁) (hl : s₁.heap.IsTuple a vs.toArray) (hlen : vs.length = ds.length) (ht : Things X target s.heap vs ds)
    (hq : q = true → s.heap.get? a = none ∨ ¬ X a) : wpAny (Md w) A (pyIter (.ref a)) (fun it s₂ => Keeps s s₂ ∧ IterOK w A X target q ds s.heap it s₂) E s₁ := by
  have hlt : a < s₁.heap.objs.size := by obtain ⟨_, e, _⟩ := hl; exact Heap.lt_size e
  refine wpAny_pyIter_tuple hl ?_
  refine ⟨keeps_trans k (keeps_heap _ _ fun b o e => Heap.get?_push_of_some _ e), ⟨s₁.heap.objs.size, [s₁.heap.objs.size, a], [s₁.heap.objs.size], fun i v _ => vs.toArray[i]? = some v, fun i v h => vs.toArray[i]? = some v ∧ h.IsTupleIter s₁.heap.objs.size a (i + 1) ∧ h.IsTuple a vs.toArray, fun i h => h.IsTupleIter s₁.heap.objs.size a i ∧ h.IsTuple a vs.toArray, rfl, ?_, ?_, ?_, ?_, ?_, ?_, ?_, ?_⟩⟩
  · have := KTurns.ofWalks (target := target) (Walks.tuple (prog := PySem.Challenge.pw_ta0079_01) (w := w) hh s₁.heap.objs.size a (Nat.ne_of_lt hlt) vs.toArray) fun i v s Q E st q => letGo_tupleiter st.1 q
    rwa [show vs.toArray.size = ds.length by simp [hlen]] at this
  · exact ⟨⟨_, Heap.get?_push_size _ rfl, rfl, rfl⟩, hl.at fun o e => Heap.get?_push_of_some _ e⟩
  · exact allM_cons ⟨_, Heap.get?_push_size _ rfl⟩ (allM_cons (by obtain ⟨_, ho, _⟩ := hl; exact ⟨_, Heap.get?_push_of_some _ ho⟩) allM_nil)
  · intro b hb
    rw [List.mem_singleton.mp hb]
    exact none_above (keeps_ext k) (Nat.le_refl _)
  · intro i h st b hb
    rw [List.mem_singleton.mp hb]
    obtain ⟨⟨o, ho, _⟩, _⟩ := st
    exact ⟨o, ho⟩
  · intro hq'
    refine allM_cons (.inl (none_above (keeps_ext k) (Nat.le_refl _))) (allM_cons ?_ allM_nil)
    · cases hs : s.heap.get? a with
      | none => exact .inl rfl
      | some o =>
        refine .inr ⟨o, rfl, ?_, (hq hq').resolve_left (by rw [hs]; simp)⟩
        obtain ⟨o', ho, _, j, hd⟩ := hl
        have := keeps_ext k _ _ hs
        rw [ho] at this; cases this
        exact ⟨_, _, hd⟩
  · intro X' hf i d v h hd hP he
    have hv : vs.toArray[i]? = some v := hP
    exact ht X' hf i d v h hd (by first | exact of_decide_eq_true hv | exact of_decide_eq_false hv | exact bne_iff_ne.mp hv | exact eq_of_beq hv | simpa using hv) he
  · intro s' Q E' st hQ
    exact wpAny_pyIter_tupleiter st.1 hQ
/-- over a list that stood -/
theorem evit_old {target iter : Expr} {q : Bool} {ds : List D} (h : EvO w n X env sc ρ q iter (.lst ds)) (hf : Fits target ds) : EvIt w n X env sc ρ target iter q ds := fun A s E hA C =>
  wpAny_mono (h A s E s.heap hA C fun _ _ e => e) (fun v s₁ y => by
    obtain ⟨r, o, k⟩ := y
    obtain ⟨a, vs, rfl, hl, rl⟩ := r.lst_inv
    exact iter_list hA.handled k (hl.at fun o e => keeps_ext k _ o e) rl.length (things_old rl hf) fun z => .inr (o z a rfl)) fun _ _ x => x
/-- over a new list of flat things -/
theorem evit_flat {target iter : Expr} {ds : List D} {q : Bool} (h : Ev w n X env sc ρ true iter (.lst ds)) (hf : Flts ds) (hn : ∃ x p, target = .Name x p := by exact ⟨_, _, rfl⟩) : EvIt w n X env sc ρ target iter q ds := fun A s E hA C =>
  wpAny_mono (h A s E hA C) (fun v s₁ y => by
    obtain ⟨r, o, k⟩ := y
    obtain ⟨a, vs, rfl, hl, rl⟩ := r.lst_inv
    exact iter_list hA.handled k hl rl.length (things_flat rl hf hn) fun z => .inr (o rfl a rfl)) fun _ _ x => x
theorem evit_tflat {target iter : Expr} {ds : List D} {q : Bool} (h : Ev w n X env sc ρ true iter (.tup ds)) (hf : Flts ds) (hn : ∃ x p, target = .Name x p := by exact ⟨_, _, rfl⟩) : EvIt w n X env sc ρ target iter q ds := fun A s E hA C =>
  wpAny_mono (h A s E hA C) (fun v s₁ y => by
    obtain ⟨r, o, k⟩ := y
    obtain ⟨a, vs, rfl, hl, rl⟩ := r.tup_inv
    exact iter_tuple hA.handled k hl rl.length (things_flat rl hf hn) fun z => .inr (o rfl a rfl)) fun _ _ x => x
/-! ## range -/
theorem letGo_rangeiter {target : Expr} {I : Addr} {x left st : Int} {v : Value} {Q : Unit → Shared → Prop} {s' : Shared} (hit : IsRangeIter s'.heap I x left st) (h : Q () s') :
    wpAny (Md w) A (letOwnedTupleGo target (.ref I) v) Q E s' := by
  have ho : s'.heap.get? I = some _ := hit
  unfold letOwnedTupleGo
  cases target <;> first
    | exact wpAny_pure h
    | (cases v <;> first
        | exact wpAny_pure h
        | (refine wpAny_bind (wpAny_load ho ?_)
           exact wpAny_pure h))
noncomputable def upTo (m : Nat) : List D := (List.range m).map fun i => .int (i : Nat)
theorem upTo_length (m : Nat) : (upTo m).length = m := by simp [upTo]
theorem upTo_get {m i : Nat} {d : D} (h : (upTo m)[i]? = some d) : i < m ∧ d = .int (i : Nat) := by
  unfold upTo at h
  rw [List.getElem?_map] at h
  by_cases hi : i < m
  · rw [List.getElem?_range hi] at h
    exact ⟨hi, by simpa using h.symm⟩
  · rw [List.getElem?_eq_none (by simp; omega)] at h; cases h
theorem evit_range {x : Str} {p pn pos : Pos} {e : Expr} {m : Nat} {q : Bool} (he : Ev w n X env sc ρ false e (.int m)) (hs : sc.names.lookup (Str.ofString "range") = some .globalImplicit) (hg : GlobIs w (Str.ofString "range") (.type "range")) (hm : m < 2 ^ 62)
    (hse : starEach [e] env = (false, eval e env) :: starEach [] env := by rfl) : EvIt w n X env sc ρ (.Name x p) (.Call (.Name (Str.ofString "range") pn) [e] [] pos) q (upTo m) := fun A s E hA C => by
  refine call_glob hs hg (.inr (.inr ⟨_, rfl⟩)) (.cons he hse .nil) hA C (fun vs s₁ r k => ?_) (by decide)
  obtain ⟨_, rfl, r1⟩ := r.one_inv
  obtain ⟨t, rfl⟩ := r1.int_inv
  refine call_range_1 ?_
  have k1 : Keeps s { s₁ with heap := s₁.heap.push { cls := .type "range", data := .fields #[.int 0 s₁.toks, .int m t, .int 1 (s₁.toks + 1)] }, toks := s₁.toks + 1 + 1 } := keeps_trans k (keeps_ht _ _ _ fun b o e => Heap.get?_push_of_some _ e)
  refine wpAny_pyIter_range (IsRange.new _ _ _ _ _ _ _) (small_one (by first | exact Nat.le_trans (by assumption) (by decide) | omega) (by first | exact Nat.le_trans (by assumption) (by decide) | omega) (by first | exact Nat.le_trans (by assumption) (by decide) | omega) (by first | exact Nat.le_trans (by assumption) (by decide) | omega)) ?_
  have hz : Builtin.Range.rangeSize 0 m 1 = m := by rw [rangeSize_one]; split <;> omega
  rw [hz]
  have kn := keeps_ext k1
  generalize hI : (s₁.heap.push { cls := .type "range", data := .fields #[.int 0 s₁.toks, .int m t, .int 1 (s₁.toks + 1)] }) = H₁ at kn ⊢
  refine ⟨keeps_trans k1 ⟨_, _, rfl, fun b o e => Heap.get?_push_of_some _ (hI ▸ e)⟩, ⟨H₁.objs.size, [H₁.objs.size], [H₁.objs.size], fun i v _ => ∃ t, v = .int (0 + (i : Int)) t, fun i v h => (∃ t, v = .int (0 + (i : Int)) t) ∧ IsRangeIter h H₁.objs.size (0 + ((i + 1 : Nat) : Int) * 1) ((m : Int) - ((i + 1 : Nat) : Int)) 1, fun i h => IsRangeIter h H₁.objs.size (0 + (i : Nat) * 1) ((m : Int) - (i : Nat)) 1, rfl, ?_, ?_, ?_, ?_, ?_, ?_, ?_, ?_⟩⟩
  · have := KTurns.ofWalks (target := .Name x p) (LCg.range_walks (prog := PySem.Challenge.pw_ta0079_01) (w := w) (I := H₁.objs.size) hA.handled 0 m) fun i v s Q E st q => letGo_rangeiter st q
    rw [upTo_length]; exact this
  · show IsRangeIter (H₁.push _) _ _ _ _
    have e0 : (0 : Int) + ((0 : Nat) : Int) * 1 = 0 := rfl
    have e1 : (m : Int) - ((0 : Nat) : Int) = m := Int.sub_zero _
    rw [e0, e1]
    exact Heap.get?_push_size _ rfl
  · intro b hb
    rw [List.mem_singleton.mp hb]
    exact ⟨_, Heap.get?_push_size _ rfl⟩
  · intro b hb
    rw [List.mem_singleton.mp hb]
    exact none_above kn (Nat.le_refl _)
  · intro i h st b hb
    rw [List.mem_singleton.mp hb]
    exact ⟨_, st⟩
  · intro _ b hb
    rw [List.mem_singleton.mp hb]
    exact .inl (none_above kn (Nat.le_refl _))
  · intro X' hf i d v h hd hP he
    obtain ⟨_, rfl⟩ := upTo_get hd
    obtain ⟨t, rfl⟩ := hP
    rw [Int.zero_add]
    exact ⟨.int _ _, .int⟩
  · intro s' Q E' st hQ
    exact wpAny_pyIter_rangeiter st hQ
end
end Mine

open PySem PySem.W PyProof.Rows PySem.AutoIntOps
set_option Elab.async false
set_option linter.unusedVariables false
set_option linter.unusedSimpArgs false
namespace Mine
/-! ## enumerate, zip, the signs of a text -/
noncomputable abbrev nm0 : Expr := .Name "" default
noncomputable def enumD : Nat → List D → List D
  | _, [] => []
  | i, d :: r => .tup [.int (i : Nat), d] :: enumD (i + 1) r
theorem enumD_length : ∀ (i : Nat) (ds : List D), (enumD i ds).length = ds.length
  | _, [] => rfl
  | i, d :: r => by simp [enumD, enumD_length (i + 1) r]
theorem enumD_get : ∀ (k : Nat) (ds : List D) (i : Nat) {d : D}, (enumD k ds)[i]? = some d → ∃ d', ds[i]? = some d' ∧ d = .tup [.int ((k + i : Nat) : Int), d']
  | k, [], i, d, h => by simp [enumD] at h
  | k, e :: r, 0, d, h => ⟨e, rfl, by simp [enumD] at h; exact h.symm⟩
  | k, e :: r, i + 1, d, h => by
    obtain ⟨d', h1, h2⟩ := enumD_get (k + 1) r i (d := d) (by simpa [enumD] using h)
    exact ⟨d', by first | exact of_decide_eq_true h1 | exact of_decide_eq_false h1 | exact bne_iff_ne.mp h1 | exact eq_of_beq h1 | simpa using h1, by rw [h2, show k + 1 + i = k + (i + 1) by omega]⟩
noncomputable def zipD : List D → List D → List D
  | a :: as, b :: bs => .tup [a, b] :: zipD as bs
  | _, _ => []
theorem zipD_length : ∀ (as bs : List D), (zipD as bs).length = min as.length bs.length
  | [], _ => by simp [zipD]
  | _ :: _, [] => by simp [zipD]
  | a :: as, b :: bs => by simp [zipD, zipD_length as bs]
theorem zipD_get : ∀ (as bs : List D) (i : Nat) {d : D}, (zipD as bs)[i]? = some d → ∃ a b, as[i]? = some a ∧ bs[i]? = some b ∧ d = .tup [a, b]
  | [], _, _, _, h => by simp [zipD] at h
  | _ :: _, [], _, _, h => by simp [zipD] at h
  | a :: as, b :: bs, 0, d, h => ⟨a, b, rfl, rfl, by simp [zipD] at h; exact h.symm⟩
  | a :: as, b :: bs, i + 1, d, h => by
    obtain ⟨x, y, h1, h2, h3⟩ := zipD_get as bs i (d := d) (by simpa [zipD] using h)
    exact ⟨x, y, by first | exact of_decide_eq_true h1 | exact of_decide_eq_false h1 | exact bne_iff_ne.mp h1 | exact eq_of_beq h1 | simpa using h1, by first | exact of_decide_eq_true h2 | exact of_decide_eq_false h2 | exact bne_iff_ne.mp h2 | exact eq_of_beq h2 | simpa using h2, h3⟩
noncomputable def signD (x : Str) : List D := x.cps.toList.map fun c => .str ⟨#[c]⟩
section
variable {w : World} {n : Nat} {X : Addr → Prop} {env : Env} {sc : Scope} {ρ : List (Str × Bool × D)} {A : Around} {E : Value → Shared → Prop} {s s₁ s₂ : Shared}
theorem iterok_U {elts : List Expr} {k : Nat} {pos : Pos} {q : Bool} {ds : List D} {I : Addr} {fp wr : List Addr} {Pt : Nat → Array Value → Prop} {St : Nat → Heap → Prop} {Mid : Nat → Addr → Heap → Prop}
    (W : WalksU PySem.Challenge.pw_ta0079_01 w A I fp wr ds.length Pt St Mid) (hst : St 0 s₂.heap) (hfp : ∀ b ∈ fp, ∃ o, s₂.heap.get? b = some o) (hwr : ∀ b ∈ wr, s.heap.get? b = none) (hlive : ∀ i h, St i h → ∀ b ∈ wr, ∃ o, h.get? b = some o)
    (hq : q = true → ∀ b ∈ fp, s.heap.get? b = none ∨ ∃ o, s.heap.get? b = some o ∧ (∃ xs k, o.data = .seq xs k) ∧ ¬ X b)
    (hit : ∀ X', Fr3 X X' s.heap → ∀ i d vals (h : Heap) T, ds[i]? = some d → Pt i vals → h.IsTuple T vals → ExtQ X s.heap h → ∃ d1 d2, d = .tup [d1, d2] ∧ RpB X' h (.ref T) d) :
    IterOK w A X (.Tuple elts k pos) q ds s.heap (.ref I) s₂ :=
  ⟨I, fp, wr, _, _, _, rfl, KTurns.ofWalksU W, hst, hfp, hwr, hlive, hq, fun X' hf i d v h hd hP he => by
    obtain ⟨T, vals, rfl, hp, hT⟩ := hP
    exact hit X' hf i d vals h T hd hp hT he, fun s' Q E' st hQ => W.self 0 s' Q E' st hQ⟩
/-- a list that is at hand: stood, or flat -/
noncomputable def EvS (w : World) (n : Nat) (X : Addr → Prop) (env : Env) (sc : Scope) (ρ : List (Str × Bool × D)) (b : Bool) (e : Expr) (ds : List D) : Prop :=
  ∀ (A : Around) (s : Shared) (E : Value → Shared → Prop) (h₀ : Heap), Rm n A → Cx w X env sc ρ h₀ → Ext h₀ s.heap → wpAny (Md w) A (eval e env) (fun v s' => ∃ a, v = .ref a ∧ (∃ vs : List Value, s'.heap.PlainList a vs.toArray ∧ vs.length = ds.length ∧ Things X nm0 h₀ vs ds) ∧ (b = true → ¬ X a) ∧ Keeps s s') E s
theorem evs_old {b : Bool} {e : Expr} {ds : List D} (h : EvO w n X env sc ρ b e (.lst ds)) : EvS w n X env sc ρ b e ds := fun A s E h₀ hA C k₀ =>
  wpAny_mono (h A s E h₀ hA C k₀) (fun v s₁ y => by
    obtain ⟨r, o, k⟩ := y
    obtain ⟨a, vs, rfl, hl, rl⟩ := r.lst_inv
    exact ⟨a, rfl, ⟨vs, (hl.at fun o e => k₀ _ o e).at fun o e => keeps_ext k _ o e, rl.length, things_old rl trivial⟩, fun z => o z a rfl, k⟩) fun _ _ x => x
theorem evs_flat {b : Bool} {e : Expr} {ds : List D} (h : Ev w n X env sc ρ b e (.lst ds)) (hf : Flts ds) : EvS w n X env sc ρ b e ds := fun A s E h₀ hA C k₀ =>
  wpAny_mono (h A s E hA (C.ext k₀)) (fun v s₁ y => by
    obtain ⟨r, o, k⟩ := y
    obtain ⟨a, vs, rfl, hl, rl⟩ := r.lst_inv
    exact ⟨a, rfl, ⟨vs, hl, rl.length, things_flat rl hf ⟨_, _, rfl⟩⟩, fun z => o z a rfl, k⟩) fun _ _ x => x
theorem seq_at {a : Addr} {vs : List Value} (k : Keeps s s₁) (hl : s₁.heap.PlainList a vs.toArray) (hx : ¬ X a) : s.heap.get? a = none ∨ ∃ o, s.heap.get? a = some o ∧ (∃ xs k, o.data = .seq xs k) ∧ ¬ X a := by
  cases hs : s.heap.get? a with
  | none => exact .inl rfl
  | some o =>
    obtain ⟨j, ho⟩ := hl
    have := keeps_ext k _ _ hs
    rw [ho] at this; cases this
    exact .inr ⟨_, rfl, ⟨_, _, rfl⟩, hx⟩
theorem one_arg {f : Value} {e : Expr} {pos : Pos} {Q : Args → Shared → Prop} (hse : starEach [e] env = (false, eval e env) :: starEach [] env) (h : wpAny (Md w) A (eval e env) (fun v s' => Q ⟨[v], []⟩ s') E s) : wpAny (Md w) A (evalArgs f true (backTo pos (starEach [e] env)) []) Q E s := by
  have hrun : wpAny (Md w) A (spliced (backTo pos (starEach [e] env))) (fun vs s' => Q ⟨vs, []⟩ s') E s := wpAny_items_cons (wpAny_mono h (fun v s' q => wpAny_items_nil q) fun _ _ x => x) hse
  rw [hse] at hrun ⊢
  exact PySem.Calls.evalArgs_plain hrun
theorem evit_enum {elts : List Expr} {kk : Nat} {tp pn pos : Pos} {e : Expr} {q : Bool} {ds : List D} (he : EvS w n X env sc ρ q e ds) (hs : sc.names.lookup (Str.ofString "enumerate") = some .globalImplicit) (hg : GlobIs w (Str.ofString "enumerate") (.type "enumerate"))
    (hse : starEach [e] env = (false, eval e env) :: starEach [] env := by rfl) : EvIt w n X env sc ρ (.Tuple elts kk tp) (.Call (.Name (Str.ofString "enumerate") pn) [e] [] pos) q (enumD 0 ds) := fun A s E hA C => by
  refine wpAny_Call_NameR (load_glob C hs hg ?_ (by decide))
  refine callWith_of (P := (KK w.params).In) (by rw [hse]; rfl) (fun h _ => ⟨.machine, .inr (.inl rfl), Looks.of_pure rfl⟩) ?_
  refine one_arg hse (wpAny_mono (he A s E s.heap hA C fun _ _ e => e) (fun v s₁ y => ?_) fun _ _ x => x)
  obtain ⟨l, rfl, ⟨vs, hl, hlen, ht⟩, hx, k⟩ := y
  refine ⟨C.base.inK.keeps (keeps_ext k), ?_⟩
  show wpAny _ A (call (.type "enumerate") [.ref l]) _ _ _
  have hlt : l < s₁.heap.objs.size := by obtain ⟨_, e⟩ := hl; exact Heap.lt_size e
  refine call_enumerate_list hl.isList fun h' hE hI hsz hk => ?_
  refine wpAny_pyIter_enum hE ?_
  have hW := (WalksT.enumerate (prog := PySem.Challenge.pw_ta0079_01) (w := w) hA.handled (s₁.heap.objs.size + 1) s₁.heap.objs.size l (Nat.succ_ne_self _) (ktu_ne 1 hlt) (Nat.ne_of_lt hlt) vs.toArray).toU
  have k2 : Keeps s { s₁ with heap := h' } := keeps_trans k (keeps_heap _ _ hk)
  have new : ∀ b, s₁.heap.objs.size ≤ b → s.heap.get? b = none := fun b hb => none_above (keeps_ext k) hb
  rw [show vs.toArray.size = (enumD 0 ds).length by simp [enumD_length, hlen]] at hW
  refine ⟨k2, iterok_U hW ⟨⟨.none, hE⟩, hI, hl.isList.at fun o e => hk l o e⟩ ?_ ?_ (fun i h st => ?_) (fun hq => ?_) ?_⟩
  · exact allM_cons ⟨_, hE⟩ (allM_cons (by obtain ⟨o, ho, _⟩ := hI; exact ⟨o, ho⟩) (allM_cons (by obtain ⟨_, ho⟩ := hl; exact ⟨_, hk _ _ ho⟩) allM_nil))
  · exact allM_cons (new _ (Nat.le_succ _)) (allM_cons (new _ (Nat.le_refl _)) allM_nil)
  · obtain ⟨⟨old, he⟩, ⟨oi, hoi, _⟩, _⟩ := st
    exact allM_cons ⟨_, he⟩ (allM_cons ⟨_, hoi⟩ allM_nil)
  · exact allM_cons (.inl (new _ (Nat.le_succ _))) (allM_cons (.inl (new _ (Nat.le_refl _))) (allM_cons (seq_at k hl (hx hq)) allM_nil))
  · intro X' hf i d vals h T hd hP hT hext
    obtain ⟨d', h1, rfl⟩ := enumD_get 0 ds i hd
    obtain ⟨t, x, hxx, rfl⟩ := hP
    obtain ⟨r1, r2⟩ := ht X' hf i d' x h h1 (by first | exact of_decide_eq_true hxx | exact of_decide_eq_false hxx | exact bne_iff_ne.mp hxx | exact eq_of_beq hxx | simpa using hxx) hext
    refine ⟨_, _, rfl, .tup (vs := [.int i t, x]) hT (.cons ?_ .int (.cons r1 r2 .nil))⟩
    rw [Nat.zero_add]
    exact .int _ _
theorem evit_enum_str {elts : List Expr} {kk : Nat} {tp pn pos : Pos} {e : Expr} {x : Str} {q : Bool} (he : Ev w n X env sc ρ false e (.str x)) (hs : sc.names.lookup (Str.ofString "enumerate") = some .globalImplicit) (hg : GlobIs w (Str.ofString "enumerate") (.type "enumerate"))
    (ha : x.cps.all (· < 128) = true) (hse : starEach [e] env = (false, eval e env) :: starEach [] env := by rfl) : EvIt w n X env sc ρ (.Tuple elts kk tp) (.Call (.Name (Str.ofString "enumerate") pn) [e] [] pos) q (enumD 0 (signD x)) := fun A s E hA C => by
  refine call_glob hs hg (.inr (.inr ⟨_, rfl⟩)) (.cons he hse .nil) hA C (fun vs s₁ r k => ?_) (by decide)
  obtain ⟨_, rfl, r1⟩ := r.one_inv
  obtain ⟨t, rfl⟩ := r1.str_inv
  refine call_enumerate_str fun h' hE hI hsz hk => ?_
  refine wpAny_pyIter_enum hE ?_
  have hty : strIterType x = "str_ascii_iterator" := by unfold strIterType; rw [ha]; rfl
  rw [hty] at hI
  have hW := (WalksT.enumerateD (prog := PySem.Challenge.pw_ta0079_01) (w := w) (A := A) (Draws.strAscii (A := A.in1) (show A.in1.handled = none from hA.handled) s₁.heap.objs.size x t) (s₁.heap.objs.size + 1) (Nat.succ_ne_self _) (by simp) (by simp)).toU
  have k2 : Keeps s { s₁ with heap := h' } := keeps_trans k (keeps_heap _ _ hk)
  have new : ∀ b, s₁.heap.objs.size ≤ b → s.heap.get? b = none := fun b hb => none_above (keeps_ext k) hb
  rw [show x.cps.size = (enumD 0 (signD x)).length by simp [enumD_length, signD]] at hW
  refine ⟨k2, iterok_U hW ⟨⟨.none, hE⟩, hI⟩ ?_ ?_ (fun i h st => ?_) (fun hq => ?_) ?_⟩
  · exact allM_cons ⟨_, hE⟩ (allM_cons (by obtain ⟨o, ho, _⟩ := hI; exact ⟨o, ho⟩) allM_nil)
  · exact allM_cons (new _ (Nat.le_succ _)) (allM_cons (new _ (Nat.le_refl _)) allM_nil)
  · obtain ⟨⟨old, he⟩, ⟨oi, hoi, _⟩⟩ := st
    exact allM_cons ⟨_, he⟩ (allM_cons ⟨_, hoi⟩ allM_nil)
  · exact allM_cons (.inl (new _ (Nat.le_succ _))) (allM_cons (.inl (new _ (Nat.le_refl _))) allM_nil)
  · intro X' hf i d vals h T hd hP hT hext
    obtain ⟨d', h1, rfl⟩ := enumD_get 0 (signD x) i hd
    obtain ⟨t', v, ⟨c, u, hc, rfl⟩, rfl⟩ := hP
    have : d' = .str ⟨#[c]⟩ := by
      unfold signD at h1
      rw [List.getElem?_map] at h1
      have : x.cps.toList[i]? = some c := by first | exact of_decide_eq_true hc | exact of_decide_eq_false hc | exact bne_iff_ne.mp hc | exact eq_of_beq hc | simpa using hc
      rw [this] at h1
      simpa using h1.symm
    subst this
    refine ⟨_, _, rfl, .tup (vs := [.int i t', .str ⟨#[c]⟩ u]) hT (.cons ?_ .int (.cons (.str _ _) .str .nil))⟩
    rw [Nat.zero_add]
    exact .int _ _
theorem letGo_striter {target : Expr} {I : Addr} {T : String} {x : Str} {t : Tok} {i : Nat} {v : Value} {Q : Unit → Shared → Prop} {s' : Shared} (hT : T = "str_ascii_iterator" ∨ T = "str_iterator") (hit : s'.heap.IsStrIter I T x t i) (h : Q () s') :
    wpAny (Md w) A (letOwnedTupleGo target (.ref I) v) Q E s' := by
  obtain ⟨o, ho, hc, hd⟩ := hit
  unfold letOwnedTupleGo
  rcases hT with rfl | rfl
  · cases target <;> first
      | exact wpAny_pure h
      | (cases v <;> first
          | exact wpAny_pure h
          | (refine wpAny_bind (wpAny_load ho ?_)
             rw [hc, hd]
             exact wpAny_pure h))
  · cases target <;> first
      | exact wpAny_pure h
      | (cases v <;> first
          | exact wpAny_pure h
          | (refine wpAny_bind (wpAny_load ho ?_)
             rw [hc, hd]
             exact wpAny_pure h))
theorem evit_str {y : Str} {p : Pos} {e : Expr} {x : Str} {q : Bool} (he : Ev w n X env sc ρ false e (.str x)) : EvIt w n X env sc ρ (.Name y p) e q (signD x) := fun A s E hA C => by
  refine wpAny_mono (he A s E hA C) (fun v s₁ r => ?_) fun _ _ x => x
  obtain ⟨r, _, k⟩ := r
  obtain ⟨t, rfl⟩ := r.str_inv
  refine wpAny_pyIter_strU ?_
  have k2 : Keeps s { s₁ with heap := s₁.heap.push { cls := .type (strIterType x), data := .fields #[.str x t, .int 0 0] } } := keeps_trans k (keeps_heap _ _ fun b o e => Heap.get?_push_of_some _ e)
  have hty : strIterType x = "str_ascii_iterator" ∨ strIterType x = "str_iterator" := by unfold strIterType; split <;> simp
  have new : ∀ b, s₁.heap.objs.size ≤ b → s.heap.get? b = none := fun b hb => none_above (keeps_ext k) hb
  have hW : Walks PySem.Challenge.pw_ta0079_01 w A s₁.heap.objs.size [s₁.heap.objs.size] [s₁.heap.objs.size] x.cps.size (SignAt x) (fun i h => h.IsStrIter s₁.heap.objs.size (strIterType x) x t i) := by
    rcases hty with e | e
    · rw [e]; exact Walks.strAscii hA.handled _ _ _
    · rw [e]; exact Walks.strWide hA.handled _ _ _
  refine ⟨k2, ⟨s₁.heap.objs.size, [s₁.heap.objs.size], [s₁.heap.objs.size], fun i v _ => SignAt x i v, fun i v h => SignAt x i v ∧ h.IsStrIter s₁.heap.objs.size (strIterType x) x t (i + 1), fun i h => h.IsStrIter s₁.heap.objs.size (strIterType x) x t i, rfl, ?_, ?_, ?_, ?_, ?_, ?_, ?_, ?_⟩⟩
  · have := KTurns.ofWalks (target := .Name y p) hW fun i v s Q E st q => letGo_striter hty st q
    rw [show (signD x).length = x.cps.size by simp [signD]]
    exact this
  · exact ⟨_, Heap.get?_push_size _ rfl, rfl, rfl⟩
  · intro b hb
    rw [List.mem_singleton.mp hb]
    exact ⟨_, Heap.get?_push_size _ rfl⟩
  · intro b hb
    rw [List.mem_singleton.mp hb]
    exact new _ (Nat.le_refl _)
  · intro i h st b hb
    rw [List.mem_singleton.mp hb]
    obtain ⟨o, ho, _⟩ := st
    exact ⟨o, ho⟩
  · intro _ b hb
    rw [List.mem_singleton.mp hb]
    exact .inl (new _ (Nat.le_refl _))
  · intro X' hf i d v h hd hP hext
    obtain ⟨c, u, hc, rfl⟩ := hP
    have : d = .str ⟨#[c]⟩ := by
      unfold signD at hd
      rw [List.getElem?_map] at hd
      have : x.cps.toList[i]? = some c := by first | exact of_decide_eq_true hc | exact of_decide_eq_false hc | exact bne_iff_ne.mp hc | exact eq_of_beq hc | simpa using hc
      rw [this] at hd
      simpa using hd.symm
    subst this
    exact ⟨.str _ _, .str⟩
  · intro s' Q E' st hQ
    exact hW.self 0 s' Q E' st hQ
theorem two_args {f : Value} {e1 e2 : Expr} {pos : Pos} {Q : Args → Shared → Prop} (h1 : starEach [e1, e2] env = (false, eval e1 env) :: starEach [e2] env) (h2 : starEach [e2] env = (false, eval e2 env) :: starEach [] env)
    (h : wpAny (Md w) A (eval e1 env) (fun v s' => wpAny (Md w) A (eval e2 env) (fun u s'' => Q ⟨[v, u], []⟩ s'') E s') E s) : wpAny (Md w) A (evalArgs f true (backTo pos (starEach [e1, e2] env)) []) Q E s := by
  have hrun : wpAny (Md w) A (spliced (backTo pos (starEach [e1, e2] env))) (fun vs s' => Q ⟨vs, []⟩ s') E s := wpAny_items_cons (wpAny_mono h (fun v s' q => wpAny_items_cons (wpAny_mono q (fun u s'' q => wpAny_items_nil q) fun _ _ x => x) h2) fun _ _ x => x) h1
  rw [h1] at hrun ⊢
  exact PySem.Calls.evalArgs_plain hrun
theorem evit_zip {elts : List Expr} {kk : Nat} {tp pn pos : Pos} {e1 e2 : Expr} {q : Bool} {as bs : List D} (ha : EvS w n X env sc ρ q e1 as) (hb : EvS w n X env sc ρ q e2 bs) (hs : sc.names.lookup (Str.ofString "zip") = some .globalImplicit) (hg : GlobIs w (Str.ofString "zip") (.type "zip"))
    (hs1 : starEach [e1, e2] env = (false, eval e1 env) :: starEach [e2] env := by rfl) (hs2 : starEach [e2] env = (false, eval e2 env) :: starEach [] env := by rfl) :
    EvIt w n X env sc ρ (.Tuple elts kk tp) (.Call (.Name (Str.ofString "zip") pn) [e1, e2] [] pos) q (zipD as bs) := fun A s E hA C => by
  refine wpAny_Call_NameR (load_glob C hs hg ?_ (by decide))
  refine callWith_of (P := (KK w.params).In) (by rw [hs1, hs2]; rfl) (fun h _ => ⟨.machine, .inr (.inl rfl), Looks.of_pure rfl⟩) ?_
  refine two_args hs1 hs2 (wpAny_mono (ha A s E s.heap hA C fun _ _ e => e) (fun v s₀ y => ?_) fun _ _ x => x)
  obtain ⟨l1, rfl, ⟨vs1, hl1, hlen1, ht1⟩, hx1, k0⟩ := y
  refine wpAny_mono (hb A s₀ E s.heap hA C (keeps_ext k0)) (fun v s₁ y => ?_) fun _ _ x => x
  obtain ⟨l2, rfl, ⟨vs2, hl2, hlen2, ht2⟩, hx2, k1⟩ := y
  have k : Keeps s s₁ := keeps_trans k0 k1
  replace hl1 := hl1.at fun o e => keeps_ext k1 _ o e
  refine ⟨C.base.inK.keeps (keeps_ext k), ?_⟩
  show wpAny _ A (call (.type "zip") [.ref l1, .ref l2]) _ _ _
  have hlt1 : l1 < s₁.heap.objs.size := by obtain ⟨_, e⟩ := hl1; exact Heap.lt_size e
  have hlt2 : l2 < s₁.heap.objs.size := by obtain ⟨_, e⟩ := hl2; exact Heap.lt_size e
  refine call_zip_2 hl1.isList hl2.isList fun h' hz hTI hTO hi1 hi2 hsz hk => ?_
  refine wpAny_pyIter_zip hz ?_
  have D : ZipApart (s₁.heap.objs.size + 4) (s₁.heap.objs.size + 2) (s₁.heap.objs.size + 3) s₁.heap.objs.size (s₁.heap.objs.size + 1) l1 l2 := ktu_apart _ _ _ hlt1 hlt2
  have hW := (WalksT.zip2 (prog := PySem.Challenge.pw_ta0079_01) (w := w) hA.handled _ _ _ _ _ _ _ D vs1.toArray vs2.toArray).toU
  have k2 : Keeps s { s₁ with heap := h' } := keeps_trans k (keeps_heap _ _ hk)
  have new : ∀ b, s₁.heap.objs.size ≤ b → s.heap.get? b = none := fun b hb => none_above (keeps_ext k) hb
  rw [show min vs1.toArray.size vs2.toArray.size = (zipD as bs).length by simp [zipD_length, hlen1, hlen2]] at hW
  refine ⟨k2, iterok_U hW ⟨hz, hTI, ⟨_, _, hTO⟩, hi1, hi2, hl1.isList.at fun o e => hk l1 o e, hl2.isList.at fun o e => hk l2 o e⟩ ?_ ?_ (fun i h st => ?_) (fun hq => ?_) ?_⟩
  · exact allM_cons ⟨_, hz⟩ (allM_cons ⟨_, hTI⟩ (allM_cons ⟨_, hTO⟩ (allM_cons (by obtain ⟨o, ho, _⟩ := hi1; exact ⟨o, ho⟩) (allM_cons (by obtain ⟨o, ho, _⟩ := hi2; exact ⟨o, ho⟩) (allM_cons (by obtain ⟨_, ho⟩ := hl1; exact ⟨_, hk _ _ ho⟩) (allM_cons (by obtain ⟨_, ho⟩ := hl2; exact ⟨_, hk _ _ ho⟩) allM_nil))))))
  · exact allM_cons (new _ (Nat.le_add_right _ 4)) (allM_cons (new _ (Nat.le_add_right _ 3)) (allM_cons (new _ (Nat.le_refl _)) (allM_cons (new _ (Nat.le_succ _)) allM_nil)))
  · obtain ⟨e1, e2, ⟨_, _, e3⟩, ⟨_, e4, _⟩, ⟨_, e5, _⟩, _⟩ := st
    exact allM_cons ⟨_, e1⟩ (allM_cons ⟨_, e3⟩ (allM_cons ⟨_, e4⟩ (allM_cons ⟨_, e5⟩ allM_nil)))
  · exact allM_cons (.inl (new _ (Nat.le_add_right _ 4))) (allM_cons (.inl (new _ (Nat.le_add_right _ 2))) (allM_cons (.inl (new _ (Nat.le_add_right _ 3))) (allM_cons (.inl (new _ (Nat.le_refl _))) (allM_cons (.inl (new _ (Nat.le_succ _))) (allM_cons (seq_at k hl1 (hx1 hq)) (allM_cons (seq_at k hl2 (hx2 hq)) allM_nil))))))
  · intro X' hf i d vals h T hd hP hT hext
    obtain ⟨a, b, h1, h2, rfl⟩ := zipD_get as bs i hd
    obtain ⟨x, y, hxx, hyy, rfl⟩ := hP
    obtain ⟨r1, o1⟩ := ht1 X' hf i a x h h1 (by first | exact of_decide_eq_true hxx | exact of_decide_eq_false hxx | exact bne_iff_ne.mp hxx | exact eq_of_beq hxx | simpa using hxx) hext
    obtain ⟨r2, o2⟩ := ht2 X' hf i b y h h2 (by first | exact of_decide_eq_true hyy | exact of_decide_eq_false hyy | exact bne_iff_ne.mp hyy | exact eq_of_beq hyy | simpa using hyy) hext
    exact ⟨_, _, rfl, .tup (vs := [x, y]) hT (.cons r1 o1 (.cons r2 o2 .nil))⟩
end
end Mine

open PySem PySem.W PyProof.Rows PySem.AutoIntOps
set_option Elab.async false
set_option linter.unusedVariables false
set_option linter.unusedSimpArgs false
set_option maxRecDepth 100000
namespace Mine
/-! # steps on flat things -/
section
variable {w : World} {n : Nat} {X : Addr → Prop} {b : Bool} {x y : Int} {p q : Str}
theorem yi {s : Shared} {i : Int} : Yld X b (.int i) s (.int i s.toks) { s with toks := s.toks + 1 } := ⟨.int _ _, fun _ => .int, keeps_tok s _⟩
theorem yb {s : Shared} {c : Bool} : Yld X b (.bool c) s (.bool c) s := ⟨.bool _, fun _ => .bool, keeps_refl s⟩
theorem op_fdiv (h : y ≠ 0) (hs : y.natAbs < 1073741824) : Op2 w n X b (binaryOp .FloorDiv) (.int x) (.int y) (.int (x.fdiv y)) := op_int2 fun _ _ _ _ _ => floordiv_int h yi (.inl (PyProof.noPylong_small hs))
theorem op_pow (h0 : 0 ≤ y) (h1 : y ≤ 1000000) (hx : x.natAbs < 2 ^ 64) : Op2 w n X b (binaryOp .Pow) (.int x) (.int y) (.int (x ^ y.toNat)) := op_int2 fun _ _ _ _ _ => pow_int_small h0 h1 hx yi
theorem op_shl (h0 : 0 ≤ y) (h1 : y ≤ 1000000) (hx : x.natAbs < 2 ^ 64) : Op2 w n X b (binaryOp .LShift) (.int x) (.int y) (.int (x * 2 ^ y.toNat)) := op_int2 fun _ _ _ _ _ => lshift_int_small h0 h1 hx yi
theorem op_ishl (h0 : 0 ≤ y) (h1 : y ≤ 1000000) (hx : x.natAbs < 2 ^ 64) : Op2 w n X b (inplaceOp .LShift) (.int x) (.int y) (.int (x * 2 ^ y.toNat)) := op_int2 fun _ _ _ _ _ => ilshift_int_small h0 h1 hx yi
theorem op_shr (h0 : 0 ≤ y) : Op2 w n X b (binaryOp .RShift) (.int x) (.int y) (.int (x.fdiv (2 ^ y.toNat))) := op_int2 fun _ _ _ _ _ => rshift_int h0 yi
theorem op_and : Op2 w n X b (binaryOp .BitAnd) (.int x) (.int y) (.int (Builtin.bitAnd x y)) := op_int2 fun _ _ _ _ _ => and_int yi
theorem op_ior : Op2 w n X b (inplaceOp .BitOr) (.int x) (.int y) (.int (Builtin.bitOr x y)) := op_int2 fun _ _ _ _ _ => ior_int yi
theorem op_ixor : Op2 w n X b (inplaceOp .BitXor) (.int x) (.int y) (.int (Builtin.bitXor x y)) := op_int2 fun _ _ _ _ _ => ixor_int yi
theorem op_lt : Op2 w n X b (compareOp .Lt) (.int x) (.int y) (.bool (decide (x < y))) := op_int2 fun _ _ _ _ _ => P.lt_int yb
theorem op_le : Op2 w n X b (compareOp .LtE) (.int x) (.int y) (.bool (decide (x ≤ y))) := op_int2 fun _ _ _ _ _ => P.le_int yb
theorem op_gt : Op2 w n X b (compareOp .Gt) (.int x) (.int y) (.bool (decide (y < x))) := op_int2 fun _ _ _ _ _ => P.gt_int yb
theorem op_ge : Op2 w n X b (compareOp .GtE) (.int x) (.int y) (.bool (decide (y ≤ x))) := op_int2 fun _ _ _ _ _ => P.ge_int yb
theorem op_eq : Op2 w n X b (compareOp .Eq) (.int x) (.int y) (.bool (x == y)) := op_int2 fun _ _ _ _ _ => P.eq_int yb
theorem op_ne : Op2 w n X b (compareOp .NotEq) (.int x) (.int y) (.bool (x != y)) := op_int2 fun _ _ _ _ _ => P.ne_int yb
theorem op_str2 {f : Value → Value → Sem Value} {z : D} (h : ∀ (A : Around) (s : Shared) (E : Value → Shared → Prop) t u, wpAny (Md w) A (f (.str p t) (.str q u)) (Yld X b z s) E s) : Op2 w n X b f (.str p) (.str q) z :=
  fun A s E v1 v2 _ _ _ r1 r2 => by cases r1; cases r2; exact h A s E _ _
theorem op_eqs : Op2 w n X b (compareOp .Eq) (.str p) (.str q) (.bool (p == q)) := op_str2 fun _ _ _ _ _ => PyProof.Rows.eq_str yb
theorem op_nes : Op2 w n X b (compareOp .NotEq) (.str p) (.str q) (.bool (p != q)) := op_str2 fun _ _ _ _ _ => PyProof.Rows.ne_str yb
theorem op_adds (hsz : p.length + q.length ≤ sizeLine) : Op2 w n X b (binaryOp .Add) (.str p) (.str q) (.str (p ++ q)) := op_str2 fun _ s _ _ _ => PyProof.Rows.add_str (fun _ _ => ⟨.str _ _, fun _ => .str, keeps_tok s _⟩) hsz
theorem op_iadds (hsz : p.length + q.length ≤ sizeLine) : Op2 w n X b (inplaceOp .Add) (.str p) (.str q) (.str (p ++ q)) := op_str2 fun _ s _ _ _ => PyProof.Rows.iadd_str (fun _ _ => ⟨.str _ _, fun _ => .str, keeps_tok s _⟩) hsz
theorem op_ins : Op2 w n X b (compareOp .In) (.str q) (.str p) (.bool !(Builtin.Str.occurrences p q 0 p.length 1).isEmpty) :=
  fun A s E v1 v2 _ _ _ r1 r2 => by cases r1; cases r2; exact PyProof.Rows.in_str yb
theorem op_isnb {c d : Bool} : Op2 w n X b (compareOp .IsNot) (.bool c) (.bool d) (.bool (c != d)) := fun A s E v1 v2 _ _ _ r1 r2 => by cases r1; cases r2; exact isnot_bool yb
theorem op_is_none {d : D} : Op2 w n X b (compareOp .Is) d .none (.bool (match d with | .none => true | _ => false)) := fun A s E v1 v2 _ _ _ r1 r2 => by
  cases r2
  cases r1 with
  | none => exact is_none_none yb
  | _ => exact is_none_ne (by intro x; cases x) yb
theorem op_isn_none {d : D} : Op2 w n X b (compareOp .IsNot) d .none (.bool (match d with | .none => false | _ => true)) := fun A s E v1 v2 _ _ _ r1 r2 => by
  cases r2
  cases r1 with
  | none => exact isnot_none_none yb
  | _ => exact isnot_none_ne (by intro x; cases x) yb
/-! ## a text taken a bool's times -/
theorem int_rmul_bool_str (c : Bool) (q : Str) (u : Tok) : Gives (Builtin.«int.__rmul__» ⟨[.bool c, .str q u], []⟩) (.val (Value.notImplemented)) :=
  .of_wp fun M A E s Q h => by obtain ⟨hp, g, d, tk, os⟩ := s; wp_walk; exact ⟨_, rfl, h⟩
theorem str_mul_true (q : Str) (u : Tok) : Gives (Builtin.«str.__mul__» ⟨[.str q u, .bool true], []⟩) (.val (.str q u)) :=
  .of_wp fun M A E s Q h => by obtain ⟨hp, g, d, tk, os⟩ := s; wp_walk; exact ⟨_, rfl, h⟩
theorem str_mul_false (q : Str) (u : Tok) : Gives (Builtin.«str.__mul__» ⟨[.str q u, .bool false], []⟩) (.str Str.empty) :=
  .of_wp fun M A E s Q h => by obtain ⟨hp, g, d, tk, os⟩ := s; wp_walk; exact ⟨_, rfl, h.2⟩
theorem op_mulsb {c : Bool} : Op2 w n X b (binaryOp .Mult) (.str p) (.bool c) (.str (if c then p else Str.empty)) := fun A s E v1 v2 _ _ _ r1 r2 => by
  cases r1; cases r2
  rename_i t
  refine wpAny_binaryOp_repeat (T := "str") (U := "bool") (by decide) (fun s' => typeIs_str s' p t) (fun s' => PySem.typeIs_bool s' c) noFill_str_mul F.fills_bool_mul F.slot_bool_rmul repeat_str F.slot_bool_index.lookup
    (call_gives F.slot_bool_rmul (PySem.typeIs_bool s c) F.entry_int_rmul (F.args_int_rmul_2 _ _) (int_rmul_bool_str c p t) ⟨rfl, ?_⟩)
  cases c
  · exact call_gives F.slot_str_mul (typeIs_str s p t) F.entry_str_mul (F.args_str_mul_2 _ _) (str_mul_false p t) ⟨by decide, .str _ _, fun _ => .str, keeps_tok s _⟩
  · exact call_gives F.slot_str_mul (typeIs_str s p t) F.entry_str_mul (F.args_str_mul_2 _ _) (str_mul_true p t) ⟨.str _ _, fun _ => .str, keeps_refl s⟩
end
end Mine

open PySem PySem.W PyProof.Rows PySem.AutoIntOps
set_option Elab.async false
set_option linter.unusedVariables false
set_option linter.unusedSimpArgs false
set_option maxRecDepth 100000
namespace Mine
/-! # items, cuts, truth -/
section
variable {w : World} {n : Nat} {X : Addr → Prop} {env : Env} {sc : Scope} {ρ : List (Str × Bool × D)} {b b1 b2 : Bool} {e e1 e2 : Expr} {d d1 d2 : D} {pos : Pos}
/-! ## truth -/
theorem truthy_int' {X : Addr → Prop} {i : Int} : ∀ (A : Around) (s : Shared) (E : Value → Shared → Prop) (u : Value), Rm n A → RpB X s.heap u (.int i) → wpAny (Md w) A (truthy u) (fun c s' => c = (i != 0) ∧ Keeps s s') E s := fun A s E u _ r => by
  cases r; exact P.truthy_int ⟨rfl, keeps_refl s⟩
theorem truthy_str' {X : Addr → Prop} {x : Str} (hx : x.length ≤ sizeLine) : ∀ (A : Around) (s : Shared) (E : Value → Shared → Prop) (u : Value), Rm n A → RpB X s.heap u (.str x) → wpAny (Md w) A (truthy u) (fun c s' => c = (x.length != 0) ∧ Keeps s s') E s := fun A s E u _ r => by
  cases r
  rw [sizeLine_eq] at hx
  refine P.truthy_str (by first | exact Nat.le_trans (by assumption) (by decide) | omega) ⟨?_, keeps_tok s _⟩
  cases h : x.length with
  | zero => rfl
  | succ m => rw [show (((m + 1 : Nat) : Int) != 0) = true from bne_iff_ne.mpr (by first | exact Nat.le_trans (by assumption) (by decide) | omega)]; rfl
theorem truthy_lst' {X : Addr → Prop} {ds : List D} (hsz : ds.length ≤ sizeLine) : ∀ (A : Around) (s : Shared) (E : Value → Shared → Prop) (u : Value), Rm n A → RpB X s.heap u (.lst ds) → wpAny (Md w) A (truthy u) (fun c s' => c = !ds.isEmpty ∧ Keeps s s') E s := fun A s E u _ r => by
  obtain ⟨a, vs, rfl, hl, rl⟩ := r.lst_inv
  have hl' := rl.length
  rw [sizeLine_eq] at hsz
  refine wpAny_truthy_list hl.isList (by rw [List.size_toArray]; omega) ⟨?_, keeps_tok s _⟩
  cases vs <;> cases ds <;> simp at hl' ⊢
/-- a or b of two texts -/
theorem ev_or {x y : Str} (hx : x.length ≤ sizeLine) (h1 : Ev w n X env sc ρ b e1 (.str x)) (h2 : Ev w n X env sc ρ b e2 (.str y)) : Ev w n X env sc ρ b (.BoolOp .Or [e1, e2] pos) (.str (if x.length != 0 then x else y)) := fun A s E hA C => by
  refine BoolOp_or (wpAny_mono (h1 A s E hA C) (fun v s₁ q => ?_) fun _ _ x => x)
  refine wpAny_mono (truthy_str' hx A s₁ E v hA q.1) (fun c s₂ r => ?_) fun _ _ x => x
  obtain ⟨rfl, k⟩ := r
  cases hc : (x.length != 0) with
  | true =>
    rw [if_pos rfl]
    exact ⟨q.1.ext (keeps_ext k), q.2.1, keeps_trans q.2.2 k⟩
  | false =>
    rw [if_neg (by simp)]
    refine BoolOp_one (wpAny_mono (h2 A s₂ E hA (C.ext (keeps_ext (keeps_trans q.2.2 k)))) (fun v s₃ z => ?_) fun _ _ x => x)
    exact z.trans (keeps_trans q.2.2 k)
theorem ev_neg {i : Int} (h : Ev w n X env sc ρ false e (.int i)) : Ev w n X env sc ρ b (.UnaryOp .USub e pos) (.int (-i)) := fun A s E hA C =>
  UnaryOp_ (wpAny_mono (h A s E hA C) (fun v s₁ q => by
    obtain ⟨r, _, k⟩ := q
    cases r
    exact P.neg_int ⟨.int _ _, fun _ => .int, keeps_trans k (keeps_tok _ _)⟩) fun _ _ x => x)
/-! ## an item -/
noncomputable def at? (ds : List α) (k : Int) : Option α := if 0 ≤ k then ds[k.toNat]? else if -(ds.length : Int) ≤ k then ds[(k + ds.length).toNat]? else none
theorem at_rp {h : Heap} {vs : List Value} {ds : List D} {k : Int} (r : RpL X h vs ds) (hd : at? ds k = some d) : ∃ v, at? vs k = some v ∧ RpB X h v d ∧ Own X v := by
  unfold at? at hd ⊢
  rw [r.length]
  split at hd
  · obtain ⟨v, e, q⟩ := r.get hd
    exact ⟨v, by simpa [*] using e, q⟩
  · split at hd
    · obtain ⟨v, e, q⟩ := r.get hd
      exact ⟨v, by simpa [*] using e, q⟩
    · cases hd
noncomputable def SliceOk (slice : Expr) : Prop := ∀ o i, ∃ ops, subscripted slice false o i = operate ops (getItem o i)
theorem tail_lst {A : Around} {E : Value → Shared → Prop} {s : Shared} {value slice : Expr} {l : Addr} {vs : List Value} {k : Int} {u : Tok} {v : Value} {Q : Value → Shared → Prop} (hl : s.heap.IsList l vs.toArray) (hlo : -(2 ^ 63) ≤ k) (hhi : k < 2 ^ 63) (hv : at? vs k = some v) (q : Q v s)
    (hs : SliceOk slice) : wpAny (Md w) A (subscriptTail value slice (.ref l) (.int k u)) Q E s := by
  obtain ⟨ops, hs⟩ := hs (.ref l) (.int k u)
  refine tail_any hl.typeIs slot_list_getitem.lookup ?_ hs
  unfold at? at hv
  split at hv
  · exact wpAny_getItem_list hl (by assumption) hhi (by first | exact of_decide_eq_true hv | exact of_decide_eq_false hv | exact bne_iff_ne.mp hv | exact eq_of_beq hv | simpa using hv) q
  · split at hv
    · exact wpAny_getItem_list_neg hl (by first | exact Nat.le_trans (by assumption) (by decide) | omega) (by rw [List.size_toArray]; assumption) hlo (by first | exact of_decide_eq_true hv | exact of_decide_eq_false hv | exact bne_iff_ne.mp hv | exact eq_of_beq hv | simpa using hv) q
    · cases hv
theorem seq_pos {k : Int} {m : Nat} (h0 : 0 ≤ k) (h : k.toNat < m) : seqIndex? k m = some k.toNat := by
  unfold seqIndex?
  have h1 : ¬ k < 0 := by omega
  have h2 : k < (m : Int) := by omega
  simp only [h1, if_false, h0, h2, decide_true, Bool.and_self, if_true]
theorem seq_neg {k : Int} {m : Nat} (h0 : k < 0) (h : -(m : Int) ≤ k) : seqIndex? k m = some (k + m).toNat := by
  unfold seqIndex?
  have h1 : 0 ≤ k + (m : Int) := by omega
  have h2 : k + (m : Int) < m := by omega
  simp only [h0, if_true, h1, h2, decide_true, Bool.and_self]
theorem tail_tup {A : Around} {E : Value → Shared → Prop} {s : Shared} {value slice : Expr} {l : Addr} {vs : List Value} {k : Int} {u : Tok} {v : Value} {Q : Value → Shared → Prop} (hl : s.heap.IsTuple l vs.toArray) (hlo : -(2 ^ 63) ≤ k) (hhi : k < 2 ^ 63) (hv : at? vs k = some v) (q : Q v s)
    (hs : SliceOk slice) : wpAny (Md w) A (subscriptTail value slice (.ref l) (.int k u)) Q E s := by
  obtain ⟨ops, hs⟩ := hs (.ref l) (.int k u)
  unfold at? at hv
  split at hv
  · refine tail_any hl.typeIs slot_tuple_getitem.lookup (getItem_tuple (j := k.toNat) hl hlo hhi ?_ (by first | exact of_decide_eq_true hv | exact of_decide_eq_false hv | exact bne_iff_ne.mp hv | exact eq_of_beq hv | simpa using hv) q) hs
    have := (List.getElem?_eq_some_iff.mp hv).1
    rw [List.size_toArray]
    exact seq_pos (by assumption) this
  · split at hv
    · refine tail_any hl.typeIs slot_tuple_getitem.lookup (getItem_tuple (j := (k + vs.length).toNat) hl hlo hhi ?_ (by first | exact of_decide_eq_true hv | exact of_decide_eq_false hv | exact bne_iff_ne.mp hv | exact eq_of_beq hv | simpa using hv) q) hs
      rw [List.size_toArray]
      exact seq_neg (by first | exact Nat.le_trans (by assumption) (by decide) | omega) (by assumption)
    · cases hv
theorem ev_item {ds : List D} {k : Int} (h1 : Ev w n X env sc ρ false e1 (.lst ds)) (h2 : Ev w n X env sc ρ false e2 (.int k)) (hd : at? ds k = some d) (hlo : -(2 ^ 63) ≤ k := by decide) (hhi : k < 2 ^ 63 := by decide)
    (hs : SliceOk e2 := by exact fun _ _ => ⟨_, by with_unfolding_all rfl⟩) : Ev w n X env sc ρ b (.Subscript e1 e2 pos) d := fun A s E hA C =>
  Subscript_ (two h1 h2 hA C fun v1 v2 s' kk C' r1 r2 _ _ => by
    cases r2
    obtain ⟨_, _, rfl, hl, rl⟩ := r1.lst_inv
    obtain ⟨v, hv, rv, ov⟩ := at_rp rl hd
    exact tail_lst hl.isList hlo hhi hv ⟨rv, fun _ => ov, kk⟩ hs)
theorem ev_titem {ds : List D} {k : Int} (h1 : Ev w n X env sc ρ false e1 (.tup ds)) (h2 : Ev w n X env sc ρ false e2 (.int k)) (hd : at? ds k = some d) (hlo : -(2 ^ 63) ≤ k := by decide) (hhi : k < 2 ^ 63 := by decide)
    (hs : SliceOk e2 := by exact fun _ _ => ⟨_, by with_unfolding_all rfl⟩) : Ev w n X env sc ρ b (.Subscript e1 e2 pos) d := fun A s E hA C =>
  Subscript_ (two h1 h2 hA C fun v1 v2 s' kk C' r1 r2 _ _ => by
    cases r2
    obtain ⟨_, _, rfl, hl, rl⟩ := r1.tup_inv
    obtain ⟨v, hv, rv, ov⟩ := at_rp rl hd
    exact tail_tup hl hlo hhi hv ⟨rv, fun _ => ov, kk⟩ hs)
theorem evo_item {ds : List D} {k : Int} (h1 : EvO w n X env sc ρ false e1 (.lst ds)) (h2 : Ev w n X env sc ρ false e2 (.int k)) (hd : at? ds k = some d) (hlo : -(2 ^ 63) ≤ k := by decide) (hhi : k < 2 ^ 63 := by decide)
    (hs : SliceOk e2 := by exact fun _ _ => ⟨_, by with_unfolding_all rfl⟩) : EvO w n X env sc ρ b (.Subscript e1 e2 pos) d := fun A s E h₀ hA C k₀ => by
  refine Subscript_ (wpAny_mono (h1 A s E h₀ hA C k₀) (fun v1 s₁ q => ?_) fun _ _ x => x)
  obtain ⟨r1, _, k1⟩ := q
  refine wpAny_mono (h2 A s₁ E hA ((C.ext k₀).ext (keeps_ext k1))) (fun v2 s₂ q => ?_) fun _ _ x => x
  obtain ⟨r2, _, k2⟩ := q
  cases r2
  obtain ⟨_, _, rfl, hl, rl⟩ := r1.lst_inv
  obtain ⟨v, hv, rv, ov⟩ := at_rp rl hd
  have ke := keeps_ext (keeps_trans k1 k2)
  exact tail_lst (hl.isList.at fun o e => ke _ o (k₀ _ o e)) hlo hhi hv ⟨rv, fun _ => ov, keeps_trans k1 k2⟩ hs
theorem ev_sitem {x : Str} {k : Int} {c : Nat} (h1 : Ev w n X env sc ρ false e1 (.str x)) (h2 : Ev w n X env sc ρ false e2 (.int k)) (h0 : 0 ≤ k) (hhi : k < 2 ^ 63) (hc : x.cps[k.toNat]? = some c)
    (hs : SliceOk e2 := by exact fun _ _ => ⟨_, by with_unfolding_all rfl⟩) : Ev w n X env sc ρ b (.Subscript e1 e2 pos) (.str ⟨#[c]⟩) := fun A s E hA C =>
  Subscript_ (two h1 h2 hA C fun v1 v2 s' kk C' r1 r2 _ _ => by
    obtain ⟨t, rfl⟩ := r1.str_inv
    obtain ⟨u, rfl⟩ := r2.int_inv
    obtain ⟨ops, hs⟩ := hs (.str x t) (.int k u)
    refine tail_any (PySem.typeIs_str s' x t) F.slot_str_getitem.lookup (P.getItem_str (c := c) ?_ ?_ ⟨.str _ _, fun _ => .str, keeps_trans kk (keeps_tok _ _)⟩) hs
    · have a1 : ¬ k < -(2 ^ 63 : Int) := by omega
      have a2 : ¬ k ≥ 2 ^ 63 := by omega
      rw [decide_eq_false a1, decide_eq_false a2]; rfl
    · have hlt : k.toNat < x.cps.size := (Array.getElem?_eq_some_iff.mp hc).1
      rw [show seqIndex? k x.length = some k.toNat from seq_pos h0 hlt]; exact hc)
/-! ## a cut -/
noncomputable def EvP (w : World) (n : Nat) (X : Addr → Prop) (env : Env) (sc : Scope) (ρ : List (Str × Bool × D)) : Option Expr → Option Int → Prop
  | none, none => True
  | some e, some k => Ev w n X env sc ρ false e (.int k)
  | _, _ => False
theorem evp_run {A : Around} {E : Value → Shared → Prop} {s : Shared} {oe : Option Expr} {ok : Option Int} (h : EvP w n X env sc ρ oe ok) (hA : Rm n A) (C : Cx w X env sc ρ s.heap) :
    wpAny (Md w) A (evalPart oe env) (fun v s' => IsPart v ok ∧ (∀ i t, v = .int i t → ok = some i) ∧ Keeps s s') E s := by
  match oe, ok, h with
  | none, none, _ => exact wpAny_pure ⟨.none, fun _ _ e => (nomatch e), keeps_refl s⟩
  | some e, some k, h =>
    exact wpAny_mono (h A s E hA C) (fun v s' q => by
      obtain ⟨r, _, kk⟩ := q
      cases r
      exact ⟨.int _ _, fun i t e => by cases e; rfl, kk⟩) fun _ _ x => x
noncomputable def cut (ds : List α) (lo hi st : Option Int) : List α :=
  (sliceRange (sliceBounds lo hi st ds.length).1 (sliceBounds lo hi st ds.length).2.1 (sliceBounds lo hi st ds.length).2.2).filterMap (ds[·]?)
theorem rp_pick {h : Heap} {vs : List Value} {ds : List D} (r : RpL X h vs ds) : ∀ l : List Nat, RpL X h (l.filterMap (vs[·]?)) (l.filterMap (ds[·]?))
  | [] => .nil
  | i :: l => by
    cases hd : ds[i]? with
    | none =>
      have hv : vs[i]? = none := by
        rw [List.getElem?_eq_none_iff] at hd ⊢
        rw [r.length]; exact hd
      rw [List.filterMap_cons_none (f := (vs[·]?)) hv, List.filterMap_cons_none (f := (ds[·]?)) hd]; exact rp_pick r l
    | some d =>
      obtain ⟨v, hv, a, o⟩ := r.get hd
      rw [List.filterMap_cons_some (f := (vs[·]?)) hv, List.filterMap_cons_some (f := (ds[·]?)) hd]
      exact .cons a o (rp_pick r l)
theorem rp_cut {h : Heap} {vs : List Value} {ds : List D} (r : RpL X h vs ds) (lo hi st : Option Int) : RpL X h (slicePick vs.toArray lo hi st).toList (cut ds lo hi st) := by
  have := rp_pick r (sliceRange (sliceBounds lo hi st ds.length).1 (sliceBounds lo hi st ds.length).2.1 (sliceBounds lo hi st ds.length).2.2)
  unfold slicePick cut
  simp only [List.size_toArray, List.getElem?_toArray]
  rw [r.length]
  exact this
theorem evn_cut {x : Str} {px p : Pos} {lower upper : Option Expr} {ds : List D} {lo hi : Option Int} (h : Ev w n X env sc ρ false (.Name x px) (.lst ds)) (h1 : EvP w n X env sc ρ lower lo) (h2 : EvP w n X env sc ρ upper hi) (hsz : ds.length ≤ sizeLine) :
    EvN w n X env sc ρ (.Subscript (.Name x px) (.Slice lower upper none p) pos) (cut ds lo hi none) := fun A s E hA C => by
  refine wpAny_Subscript_list_slice (wpAny_mono (h A s E hA C) (fun v s₁ q => ?_) fun _ _ x => x)
  obtain ⟨r, _, k1⟩ := q
  obtain ⟨l, vs, rfl, hl, rl⟩ := r.lst_inv
  refine wpAny_mono (evp_run h1 hA (C.ext (keeps_ext k1))) (fun vl s₂ q => ?_) fun _ _ x => x
  obtain ⟨p1, _, k2⟩ := q
  have k12 := keeps_trans k1 k2
  refine wpAny_mono (evp_run h2 hA (C.ext (keeps_ext k12))) (fun vu s₃ q => ?_) fun _ _ x => x
  obtain ⟨p2, _, k3⟩ := q
  have k := keeps_trans k12 k3
  have k23 := keeps_ext (keeps_trans k2 k3)
  have hsz3 : (s₃.heap.push { cls := .type "slice", data := .fields #[vl, vu, .none] }).objs.size = s₃.heap.objs.size + 1 := Heap.size_push ..
  have kk : Keeps s₃ { s₃ with heap := (s₃.heap.push { cls := .type "slice", data := .fields #[vl, vu, .none] }).push { cls := .type "list", data := .seq (slicePick vs.toArray lo hi none) } } :=
    keeps_heap _ _ fun b o e => Heap.get?_push_of_some _ (Heap.get?_push_of_some _ e)
  have hnew : s₃.heap.get? (s₃.heap.objs.size + 1) = none := none_above (fun _ _ e => e) (Nat.le_succ _)
  refine ⟨l, vs.toArray, lo, hi, rfl, hl.isList.at fun o e => k23 _ o e, by rw [List.size_toArray, rl.length]; exact hsz, p1, p2, _, rfl, none_above (keeps_ext k) (Nat.le_succ _), ⟨(slicePick vs.toArray lo hi none).toList, ⟨0, by rw [← hsz3, Array.toArray_toList]; exact Heap.get?_push_size _ rfl⟩, ?_⟩, keeps_trans k kk⟩
  exact (((rp_cut rl lo hi none).ext k23).more (X' := fun c => X c ∨ c = s₃.heap.objs.size + 1) fun c z => z.imp id fun e => by subst e; exact hnew).ext (keeps_ext kk)
theorem ev_cut4 {x : Str} {px p : Pos} {lower upper : Option Expr} {st : Expr} {ds : List D} {lo hi : Option Int} {k4 : Int} (h : Ev w n X env sc ρ false (.Name x px) (.lst ds)) (h1 : EvP w n X env sc ρ lower lo) (h2 : EvP w n X env sc ρ upper hi) (h3 : EvP w n X env sc ρ (some st) (some k4)) (h0 : k4 ≠ 0) (hsz : ds.length ≤ sizeLine) :
    Ev w n X env sc ρ b (.Subscript (.Name x px) (.Slice lower upper (some st) p) pos) (.lst (cut ds lo hi (some k4))) := fun A s E hA C => by
  refine wpAny_Subscript_Slice_step (T := "list") list_getitem_lookup (wpAny_mono (h A s E hA C) (fun v s₁ q => ?_) fun _ _ x => x)
  obtain ⟨r, _, k1⟩ := q
  obtain ⟨l, vs, rfl, hl, rl⟩ := r.lst_inv
  refine wpAny_Slice ?_
  refine wpAny_mono (evp_run h1 hA (C.ext (keeps_ext k1))) (fun vl s₂ q => ?_) fun _ _ x => x
  obtain ⟨p1, _, k2⟩ := q
  have k12 := keeps_trans k1 k2
  refine wpAny_mono (evp_run h2 hA (C.ext (keeps_ext k12))) (fun vu s₃ q => ?_) fun _ _ x => x
  obtain ⟨p2, _, k3⟩ := q
  have k13 := keeps_trans k12 k3
  refine wpAny_mono (evp_run h3 hA (C.ext (keeps_ext k13))) (fun vt s₄ q => ?_) fun _ _ x => x
  obtain ⟨p3, _, k4'⟩ := q
  have k := keeps_trans k13 k4'
  have k24 := keeps_ext (keeps_trans (keeps_trans k2 k3) k4')
  have hsz3 : (s₄.heap.push { cls := .type "slice", data := .fields #[vl, vu, vt] }).objs.size = s₄.heap.objs.size + 1 := Heap.size_push ..
  have hl4 : s₄.heap.IsList l vs.toArray := hl.isList.at fun o e => k24 _ o e
  have kk : Keeps s₄ { s₄ with heap := (s₄.heap.push { cls := .type "slice", data := .fields #[vl, vu, vt] }).push { cls := .type "list", data := .seq (slicePick vs.toArray lo hi (some k4)) } } :=
    keeps_heap _ _ fun b o e => Heap.get?_push_of_some _ (Heap.get?_push_of_some _ e)
  refine ⟨(hl4.push _).typeIs, wpAny_getItem_list_slice (hl4.push _) (Heap.IsSliceOf.new ..) p1 p2 p3 (by first | exact of_decide_eq_true h0 | exact of_decide_eq_false h0 | exact bne_iff_ne.mp h0 | exact eq_of_beq h0 | simpa using h0) ?_ (by rw [List.size_toArray, rl.length]; exact hsz)⟩
  refine ⟨.lst (vs := (slicePick vs.toArray lo hi (some k4)).toList) ⟨0, by rw [Array.toArray_toList]; exact Heap.get?_push_size _ rfl⟩ (((rp_cut rl lo hi (some k4)).ext k24).ext (keeps_ext kk)), fun _ => Own.fresh C.low (none_above (keeps_ext k) (by rw [hsz3]; exact Nat.le_succ _)), keeps_trans k kk⟩
end
end Mine

open PySem PySem.W PyProof.Rows PySem.AutoIntOps
set_option Elab.async false
set_option linter.unusedVariables false
set_option linter.unusedSimpArgs false
set_option maxRecDepth 100000
namespace Mine
/-! # built-in functions -/
section
variable {w : World} {n : Nat} {X : Addr → Prop} {env : Env} {sc : Scope} {ρ : List (Str × Bool × D)} {b b1 b2 : Bool} {e e1 e2 : Expr} {d d1 d2 : D} {pos : Pos}
theorem ints_of {h : Heap} : ∀ {vs : List Value} {ns : List Int}, RpL X h vs (ns.map .int) → IntsAre vs ns
  | _, [], .nil => .nil
  | _, i :: ns, .cons a _ r => by
    cases a
    exact .cons _ _ (ints_of r)
theorem opn1 {f : List Value → Sem Value} {x : D} {z : D} (h : ∀ (A : Around) (s : Shared) (E : Value → Shared → Prop) (v : Value), Rm n A → Bs w s.heap → (∀ a, X a → ∃ o, s.heap.get? a = some o) → RpB X s.heap v x → wpAny (Md w) A (f [v]) (Yld X b z s) E s) : OpN w n X b f [x] z :=
  fun A s E vs hA B low r => by
    cases r with
    | cons r1 r => cases r; exact h A s E _ hA B low r1
theorem op_abs {i : Int} : OpN w n X b (fun vs => call (.builtin "abs") vs) [.int i] (.int (if i < 0 then -i else i)) := opn1 fun A s E v _ _ _ r => by
  cases r; exact call_abs_int fun u tk => ⟨.int _ _, fun _ => .int, keeps_tok s _⟩
theorem op_len {ds : List D} (hsz : ds.length ≤ sizeLine) : OpN w n X b (fun vs => call (.builtin "len") vs) [.lst ds] (.int ds.length) := opn1 fun A s E v _ _ _ r => by
  obtain ⟨a, vs, rfl, hl, rl⟩ := r.lst_inv
  rw [sizeLine_eq] at hsz
  have hlen := rl.length
  have := PySem.Calls.call_len_list (A := A) (E := E) (prog := PySem.Challenge.pw_ta0079_01) (w := w) (Q := Yld X b (.int ds.length) s) hl.isList (by rw [List.size_toArray]; omega)
  refine this ?_
  rw [List.size_toArray, hlen]
  exact ⟨.int _ _, fun _ => .int, keeps_tok s _⟩
theorem op_slen {x : Str} (hsz : x.length ≤ sizeLine) : OpN w n X b (fun vs => call (.builtin "len") vs) [.str x] (.int x.length) := opn1 fun A s E v _ _ _ r => by
  cases r
  rw [sizeLine_eq] at hsz
  exact P.len_str (by first | exact Nat.le_trans (by assumption) (by decide) | omega) ⟨.int _ _, fun _ => .int, keeps_tok s _⟩
theorem op_ord {c : Nat} : OpN w n X b (fun vs => call (.builtin "ord") vs) [.str ⟨#[c]⟩] (.int c) := opn1 fun A s E v _ _ _ r => by
  cases r; exact P.ord_of_char yi
theorem op_chr {i : Int} (h0 : 0 ≤ i) (h1 : i ≤ 1114111) : OpN w n X b (fun vs => call (.builtin "chr") vs) [.int i] (.str ⟨#[i.toNat]⟩) := opn1 fun A s E v _ _ _ r => by
  cases r
  have a1 : ¬ i < 0 := by omega
  have a2 : ¬ i > 0x10FFFF := by omega
  exact P.chr_of_int (by rw [decide_eq_false a1, decide_eq_false a2]; rfl) ⟨.str _ _, fun _ => .str, keeps_tok s _⟩
theorem op_strint {i : Int} (h : i.natAbs.log2 < 1920) : OpN w n X b (fun vs => call (.type "str") vs) [.int i] (.str (Str.ofString (toString i))) := opn1 fun A s E v _ _ _ r => by
  cases r; exact P.str_of_int h ⟨.str _ _, fun _ => .str, keeps_tok s _⟩
theorem op_hex {i : Int} (hsz : (baseText "0x" 16 i).length ≤ sizeLine) : OpN w n X b (fun vs => call (.builtin "hex") vs) [.int i] (.str (baseText "0x" 16 i)) := opn1 fun A s E v _ _ _ r => by
  cases r; exact P.hex_of_int ⟨.str _ _, fun _ => .str, keeps_tok s _⟩ hsz
theorem op_sum {ns : List Int} : OpN w n X b (fun vs => call (.builtin "sum") vs) [.lst (ns.map .int)] (.int ns.sum) := opn1 fun A s E v hA _ _ r => by
  obtain ⟨a, vs, rfl, hl, rl⟩ := r.lst_inv
  have hi := ints_of rl
  obtain ⟨xs, hxs⟩ := hi.allInts.items
  have hl' : s.heap.IsList a (intItems xs) := hxs ▸ hl.isList
  refine sum_intListG hA.handled hl' fun h' tk t' k => ?_
  have e : preSum (numAt xs) xs.size = ns.sum := by
    rw [preSum_eq, List.take_of_length_le (by simp), ← nums_intItems, ← hxs]
    show (numsOf vs).sum = _
    rw [hi.numsOf]
  rw [e]
  exact ⟨.int _ _, fun _ => .int, keeps_ht s _ _ k⟩
noncomputable def maxL : List Int → Int
  | [] => 0
  | a :: l => l.foldl max a
noncomputable def minL : List Int → Int
  | [] => 0
  | a :: l => l.foldl min a
theorem foldl_max_spec : ∀ (l : List Int) (a : Int), (l.foldl max a ∈ a :: l) ∧ ∀ x ∈ a :: l, x ≤ l.foldl max a
  | [], a => ⟨by simp, by simp⟩
  | c :: l, a => by
    obtain ⟨h1, h2⟩ := foldl_max_spec l (max a c)
    rw [List.foldl_cons]
    refine ⟨?_, fun x hx => ?_⟩
    · rcases List.mem_cons.mp h1 with e | h1
      · rw [e]
        by_cases hac : a ≤ c
        · rw [Int.max_eq_right hac]; exact List.mem_cons_of_mem _ List.mem_cons_self
        · rw [Int.max_eq_left (by first | exact Nat.le_trans (by assumption) (by decide) | omega)]; exact List.mem_cons_self
      · exact List.mem_cons_of_mem _ (List.mem_cons_of_mem _ h1)
    · have h3 := h2 (max a c) List.mem_cons_self
      rcases List.mem_cons.mp hx with e | hx
      · subst e; exact Int.le_trans (Int.le_max_left _ _) h3
      · rcases List.mem_cons.mp hx with e | hx
        · subst e; exact Int.le_trans (Int.le_max_right _ _) h3
        · exact h2 x (List.mem_cons_of_mem _ hx)
theorem foldl_min_spec : ∀ (l : List Int) (a : Int), (l.foldl min a ∈ a :: l) ∧ ∀ x ∈ a :: l, l.foldl min a ≤ x
  | [], a => ⟨by simp, by simp⟩
  | c :: l, a => by
    obtain ⟨h1, h2⟩ := foldl_min_spec l (min a c)
    rw [List.foldl_cons]
    refine ⟨?_, fun x hx => ?_⟩
    · rcases List.mem_cons.mp h1 with e | h1
      · rw [e]
        by_cases hac : a ≤ c
        · rw [Int.min_eq_left hac]; exact List.mem_cons_self
        · rw [Int.min_eq_right (by first | exact Nat.le_trans (by assumption) (by decide) | omega)]; exact List.mem_cons_of_mem _ List.mem_cons_self
      · exact List.mem_cons_of_mem _ (List.mem_cons_of_mem _ h1)
    · have h3 := h2 (min a c) List.mem_cons_self
      rcases List.mem_cons.mp hx with e | hx
      · subst e; exact Int.le_trans h3 (Int.min_le_left _ _)
      · rcases List.mem_cons.mp hx with e | hx
        · subst e; exact Int.le_trans h3 (Int.min_le_right _ _)
        · exact h2 x (List.mem_cons_of_mem _ hx)
theorem maxL_spec {l : List Int} (h : l ≠ []) : maxL l ∈ l ∧ ∀ x ∈ l, x ≤ maxL l := by
  cases l with
  | nil => exact absurd rfl h
  | cons a l => exact foldl_max_spec l a
theorem minL_spec {l : List Int} (h : l ≠ []) : minL l ∈ l ∧ ∀ x ∈ l, minL l ≤ x := by
  cases l with
  | nil => exact absurd rfl h
  | cons a l => exact foldl_min_spec l a
theorem maxL_eq {l : List Int} {m : Int} (h1 : m ∈ l) (h2 : ∀ x ∈ l, x ≤ m) : m = maxL l := by
  obtain ⟨a, b⟩ := maxL_spec (l := l) (fun e => by rw [e] at h1; cases h1)
  exact Int.le_antisymm (b _ h1) (h2 _ a)
theorem minL_eq {l : List Int} {m : Int} (h1 : m ∈ l) (h2 : ∀ x ∈ l, m ≤ x) : m = minL l := by
  obtain ⟨a, b⟩ := minL_spec (l := l) (fun e => by rw [e] at h1; cases h1)
  exact Int.le_antisymm (h2 _ a) (b _ h1)
theorem op_max {ns : List Int} (hne : ns ≠ []) : OpN w n X b (fun vs => call (.builtin "max") vs) [.lst (ns.map .int)] (.int (maxL ns)) := opn1 fun A s E v hA _ _ r => by
  obtain ⟨a, vs, rfl, hl, rl⟩ := r.lst_inv
  have hi := ints_of rl
  obtain ⟨xs, hxs⟩ := hi.allInts.items
  have hl' : s.heap.IsList a (intItems xs) := hxs ▸ hl.isList
  have hns : ns = xs.toList.map (·.1) := by rw [← hi.numsOf, ← nums_intItems, ← hxs]
  have hsz : 0 < xs.size := by
    cases hz : xs.size with
    | zero => exfalso; apply hne; rw [hns]; have : xs.toList.length = 0 := by first | exact of_decide_eq_true hz | exact of_decide_eq_false hz | exact bne_iff_ne.mp hz | exact eq_of_beq hz | simpa using hz
              rw [List.length_eq_zero_iff.mp this]; rfl
    | succ k => omega
  refine max_intList hA.handled hl' hsz fun v h' tk hv k => ?_
  obtain ⟨t, rfl⟩ := intItems_at hv
  obtain ⟨h1, h2⟩ := argBest_gt (numAt xs) (xs.size - 1)
  have e : numAt xs (argBest (fun i j => decide (numAt xs i > numAt xs j)) (xs.size - 1)) = maxL ns := by
    refine maxL_eq ?_ fun a ha => ?_
    · rw [numAt_eq, hns]; exact getD_mem (by rw [List.length_map, Array.length_toList]; omega)
    · rw [hns] at ha
      obtain ⟨j, hj, rfl⟩ := mem_getD ha
      rw [List.length_map, Array.length_toList] at hj
      rw [← numAt_eq]; exact h2 j (by first | exact Nat.le_trans (by assumption) (by decide) | omega)
  rw [e]
  exact ⟨.int _ _, fun _ => .int, keeps_ht s _ _ k⟩
theorem op_min {ns : List Int} (hne : ns ≠ []) : OpN w n X b (fun vs => call (.builtin "min") vs) [.lst (ns.map .int)] (.int (minL ns)) := opn1 fun A s E v hA _ _ r => by
  obtain ⟨a, vs, rfl, hl, rl⟩ := r.lst_inv
  have hi := ints_of rl
  obtain ⟨xs, hxs⟩ := hi.allInts.items
  have hl' : s.heap.IsList a (intItems xs) := hxs ▸ hl.isList
  have hns : ns = xs.toList.map (·.1) := by rw [← hi.numsOf, ← nums_intItems, ← hxs]
  have hsz : 0 < xs.size := by
    cases hz : xs.size with
    | zero => exfalso; apply hne; rw [hns]; have : xs.toList.length = 0 := by first | exact of_decide_eq_true hz | exact of_decide_eq_false hz | exact bne_iff_ne.mp hz | exact eq_of_beq hz | simpa using hz
              rw [List.length_eq_zero_iff.mp this]; rfl
    | succ k => omega
  refine min_intList hA.handled hl' hsz fun v h' tk hv k => ?_
  obtain ⟨t, rfl⟩ := intItems_at hv
  obtain ⟨h1, h2⟩ := argBest_lt (numAt xs) (xs.size - 1)
  have e : numAt xs (argBest (fun i j => decide (numAt xs i < numAt xs j)) (xs.size - 1)) = minL ns := by
    refine minL_eq ?_ fun a ha => ?_
    · rw [numAt_eq, hns]; exact getD_mem (by rw [List.length_map, Array.length_toList]; omega)
    · rw [hns] at ha
      obtain ⟨j, hj, rfl⟩ := mem_getD ha
      rw [List.length_map, Array.length_toList] at hj
      rw [← numAt_eq]; exact h2 j (by first | exact Nat.le_trans (by assumption) (by decide) | omega)
  rw [e]
  exact ⟨.int _ _, fun _ => .int, keeps_ht s _ _ k⟩
/-! ## names of the top -/
theorem glob_b {x : Str} {v : Value} (h : nsIn (KK w.params) mainGlobals x = some none) (hb : bootBuiltins x = some v) (hn : x ≠ "__name__") : GlobIs w x v := .inr ⟨h, hb, hn⟩
theorem g_abs : GlobIs w (Str.ofString "abs") (.builtin "abs") := glob_b (by kernel_rfl) (by decide +kernel) (by decide)
theorem g_len : GlobIs w (Str.ofString "len") (.builtin "len") := glob_b (by kernel_rfl) (by decide +kernel) (by decide)
theorem g_ord : GlobIs w (Str.ofString "ord") (.builtin "ord") := glob_b (by kernel_rfl) (by decide +kernel) (by decide)
theorem g_chr : GlobIs w (Str.ofString "chr") (.builtin "chr") := glob_b (by kernel_rfl) (by decide +kernel) (by decide)
theorem g_sum : GlobIs w (Str.ofString "sum") (.builtin "sum") := glob_b (by kernel_rfl) (by decide +kernel) (by decide)
theorem g_max : GlobIs w (Str.ofString "max") (.builtin "max") := glob_b (by kernel_rfl) (by decide +kernel) (by decide)
theorem g_min : GlobIs w (Str.ofString "min") (.builtin "min") := glob_b (by kernel_rfl) (by decide +kernel) (by decide)
theorem g_hex : GlobIs w (Str.ofString "hex") (.builtin "hex") := glob_b (by kernel_rfl) (by decide +kernel) (by decide)
theorem g_iter : GlobIs w (Str.ofString "iter") (.builtin "iter") := glob_b (by kernel_rfl) (by decide +kernel) (by decide)
theorem g_next : GlobIs w (Str.ofString "next") (.builtin "next") := glob_b (by kernel_rfl) (by decide +kernel) (by decide)
theorem g_str : GlobIs w (Str.ofString "str") (.type "str") := glob_b (by kernel_rfl) (by decide +kernel) (by decide)
theorem g_list : GlobIs w (Str.ofString "list") (.type "list") := glob_b (by kernel_rfl) (by decide +kernel) (by decide)
theorem g_type : GlobIs w (Str.ofString "type") (.type "type") := glob_b (by kernel_rfl) (by decide +kernel) (by decide)
theorem g_int : GlobIs w (Str.ofString "int") (.type "int") := glob_b (by kernel_rfl) (by decide +kernel) (by decide)
theorem g_range : GlobIs w (Str.ofString "range") (.type "range") := glob_b (by kernel_rfl) (by decide +kernel) (by decide)
theorem g_enumerate : GlobIs w (Str.ofString "enumerate") (.type "enumerate") := glob_b (by kernel_rfl) (by decide +kernel) (by decide)
theorem g_zip : GlobIs w (Str.ofString "zip") (.type "zip") := glob_b (by kernel_rfl) (by decide +kernel) (by decide)
end
end Mine

open PySem PySem.W PyProof.Rows PySem.AutoIntOps
set_option Elab.async false
set_option linter.unusedVariables false
set_option linter.unusedSimpArgs false
set_option maxRecDepth 100000
namespace Mine
/-! # texts: their methods, cuts -/
section
variable {w : World} {n : Nat} {X : Addr → Prop} {env : Env} {sc : Scope} {ρ : List (Str × Bool × D)} {b b1 b2 : Bool} {e e1 e2 : Expr} {d d1 d2 : D} {pos ap : Pos}
theorem ev_meth0 {name x : Str} (h1 : Ev w n X env sc ρ false e1 (.str x)) (hbase : attributeBase e1 name env (eval e1 env) = eval e1 env) (hline : (ap.endLine == pos.line) = true)
    (h : ∀ (A : Around) (s : Shared) (E : Value → Shared → Prop) (t : Tok), Rm n A → MethodOnS PySem.Challenge.pw_ta0079_01 w A E name (.str x t) pos [] (Yld X b d s) s) : Ev w n X env sc ρ b (.Call (.Attribute e1 name ap) [] [] pos) d := fun A s E hA C =>
  Call_method0 hbase hline (wpAny_mono (h1 A s E hA C) (fun v s₁ q => by
    obtain ⟨r, _, k⟩ := q
    cases r
    obtain ⟨T, id, p1, p2, p3, p4, p5, p6⟩ := h A s₁ E _ hA
    exact ⟨T, id, p1, p2, p3, p4, p5, wpAny_mono p6 (fun v s' y => Yld.trans k y) fun _ _ x => x⟩) fun _ _ x => x)
theorem ev_lower {x : Str} (h1 : Ev w n X env sc ρ false e1 (.str x)) (hfit : Builtin.Str.tooLong (Txt.lower x).length = false) (hbase : attributeBase e1 (Str.ofString "lower") env (eval e1 env) = eval e1 env := by rfl) (hline : (ap.endLine == pos.line) = true := by rfl) :
    Ev w n X env sc ρ b (.Call (.Attribute e1 (Str.ofString "lower") ap) [] [] pos) (.str (Txt.lower x)) := ev_meth0 h1 hbase hline fun A s E t _ => SB.lower hfit ⟨.str _ _, fun _ => .str, keeps_tok s _⟩
theorem ev_meth1 {name x : Str} (h1 : Ev w n X env sc ρ false e1 (.str x)) (h2 : Ev w n X env sc ρ false e2 d2) (hbase : attributeBase e1 name env (eval e1 env) = eval e1 env) (hs : starEach [e2] env = [(false, eval e2 env)]) (hline : (ap.endLine == pos.line) = true)
    (h : ∀ (A : Around) (s : Shared) (E : Value → Shared → Prop) (t : Tok) (a : Sem Value) (K : Shared → Prop), Rm n A → wpAny (Md w) A a (fun v s₁ => RpB X s₁.heap v d2 ∧ (∀ a, X a → ∃ o, s₁.heap.get? a = some o) ∧ Keeps s s₁) E s → MethodOnS PySem.Challenge.pw_ta0079_01 w A E name (.str x t) pos [(false, a)] (Yld X b d s) s) :
    Ev w n X env sc ρ b (.Call (.Attribute e1 name ap) [e2] [] pos) d := fun A s E hA C =>
  Call_method1 hbase hs hline (wpAny_mono (h1 A s E hA C) (fun v s₁ q => by
    obtain ⟨r, _, k⟩ := q
    cases r
    have C₁ := C.ext (keeps_ext k)
    obtain ⟨T, id, p1, p2, p3, p4, p5, p6⟩ := h A s₁ E _ (eval e2 env) (fun _ => True) hA (wpAny_mono (h2 A s₁ E hA C₁) (fun v s₂ q => ⟨q.1, (C₁.ext (keeps_ext q.2.2)).low, q.2.2⟩) fun _ _ x => x)
    exact ⟨T, id, p1, p2, p3, p4, p5, wpAny_mono p6 (fun v s' y => Yld.trans k y) fun _ _ x => x⟩) fun _ _ x => x)
theorem ev_index {x y : Str} {i : Nat} {rest : List Nat} (h1 : Ev w n X env sc ρ false e1 (.str x)) (h2 : Ev w n X env sc ρ false e2 (.str y)) (ho : Builtin.Str.occurrences x y 0 x.length 1 = i :: rest) (hbase : attributeBase e1 (Str.ofString "index") env (eval e1 env) = eval e1 env := by rfl) (hs : starEach [e2] env = [(false, eval e2 env)] := by rfl)
    (hline : (ap.endLine == pos.line) = true := by rfl) : Ev w n X env sc ρ b (.Call (.Attribute e1 (Str.ofString "index") ap) [e2] [] pos) (.int i) :=
  ev_meth1 h1 h2 hbase hs hline fun A s E t a K hA ha => SB.index (wpAny_mono ha (fun v s₁ q => by
    obtain ⟨r, _, k⟩ := q
    cases r
    exact ⟨_, _, rfl, i, rest, ho, .int _ _, fun _ => .int, keeps_trans k (keeps_tok _ _)⟩) fun _ _ x => x)
theorem strs_rp {h : Heap} : ∀ l : List (Str × Tok), RpL X h (strValues l) ((l.map (·.1)).map .str)
  | [] => .nil
  | p :: l => .cons (.str _ _) .str (strs_rp l)
theorem strs_of {h : Heap} : ∀ {vs : List Value} {ys : List Str}, RpL X h vs (ys.map .str) → ∃ l : List (Str × Tok), vs = strValues l ∧ l.map (·.1) = ys
  | _, [], .nil => ⟨[], rfl, rfl⟩
  | _, y :: ys, .cons a _ r => by
    obtain ⟨t, rfl⟩ := a.str_inv
    obtain ⟨l, rfl, rfl⟩ := strs_of r
    exact ⟨(y, t) :: l, rfl, rfl⟩
theorem ev_join {x : Str} {ys : List Str} (h1 : Ev w n X env sc ρ false e1 (.str x)) (h2 : Ev w n X env sc ρ false e2 (.lst (ys.map .str))) (hok : JoinOk x ys = true) (hbase : attributeBase e1 (Str.ofString "join") env (eval e1 env) = eval e1 env := by rfl) (hs : starEach [e2] env = [(false, eval e2 env)] := by rfl)
    (hline : (ap.endLine == pos.line) = true := by rfl) : Ev w n X env sc ρ b (.Call (.Attribute e1 (Str.ofString "join") ap) [e2] [] pos) (.str (Txt.join x ys)) :=
  ev_meth1 h1 h2 hbase hs hline fun A s E t a K hA ha => ⟨"str", _, F.plainAttrs_str, F.slot_str_join, F.type_str_join, PySem.typeIs_str _ _ _, (fun _ e => nomatch e), by
    refine method1_meets F.slot_str_join F.entry_str_join (wpAny_mono ha (fun v s₁ q => ?_) fun _ _ e => e)
    obtain ⟨r, _, k⟩ := q
    obtain ⟨D, vs, rfl, hl, rl⟩ := r.lst_inv
    obtain ⟨l, rfl, rfl⟩ := strs_of rl
    unfold JoinOk at hok
    rw [Bool.not_eq_true'] at hok
    exact ⟨PySem.typeIs_str _ _ _, F.args_str_join_2 _ _, _, meets_str_join_list x t D l hok, hl.isList, post_join l ⟨joinFit_length hok, fun _ _ => ⟨.str _ _, fun _ => .str, keeps_trans k (keeps_tok _ _)⟩⟩⟩⟩
open Builtin.Str in
theorem ev_split {x y : Str} (h1 : Ev w n X env sc ρ false e1 (.str x)) (h2 : Ev w n X env sc ρ false e2 (.str y)) (hy : (y.length == 0) = false) (hx : x.length ≤ sizeLine) (hn : (partsBetween x (occurrences x y 0 x.length (x.length + 1)) y.length).length ≤ sizeLine)
    (hbase : attributeBase e1 (Str.ofString "split") env (eval e1 env) = eval e1 env := by rfl) (hs : starEach [e2] env = [(false, eval e2 env)] := by rfl) (hline : (ap.endLine == pos.line) = true := by rfl) :
    Ev w n X env sc ρ b (.Call (.Attribute e1 (Str.ofString "split") ap) [e2] [] pos) (.lst ((Txt.split x y).map .str)) :=
  ev_meth1 h1 h2 hbase hs hline fun A s E t a K hA ha => ⟨"str", _, F.plainAttrs_str, F.slot_str_split, F.type_str_split, PySem.typeIs_str _ _ _, (fun _ e => nomatch e), by
    refine method1_meets F.slot_str_split F.entry_str_split (wpAny_mono ha (fun v s₁ q => ?_) fun _ _ e => e)
    obtain ⟨r, low, k⟩ := q
    obtain ⟨u, rfl⟩ := r.str_inv
    have fin : ∀ (l : List (Str × Tok)) (tk : Nat), l.map (·.1) = Txt.split x y → Yld X b (.lst ((Txt.split x y).map .str)) s (.ref s₁.heap.objs.size) { s₁ with toks := tk, heap := s₁.heap.push { cls := .type "list", data := .seq (strValues l).toArray } } := fun l tk hl => by
      refine ⟨.lst (vs := strValues l) ⟨0, Heap.get?_push_size _ rfl⟩ (by rw [← hl]; exact strs_rp l), fun _ => Own.fresh low (get_size _), keeps_trans k (keeps_ht _ _ _ fun b o e => Heap.get?_push_of_some _ e)⟩
    refine ⟨PySem.typeIs_str _ _ _, F.args_str_split_2 _ _, ?_⟩
    cases h1 : (decide (x.length < y.length) || decide (strKind x < strKind y)) with
    | true => exact ⟨_, meets_str_split_cannot_occur x y t u h1, fin [(x, t)] _ (by unfold Txt.split; rw [if_pos h1]; rfl)⟩
    | false =>
      cases hf : (occurrences x y 0 x.length (x.length + 1)).isEmpty with
      | true => exact ⟨_, meets_str_split_not_found x y t u h1 hy hf, fin [(x, t)] _ (by unfold Txt.split; rw [h1, if_neg (by simp), if_pos hf]; rfl)⟩
      | false =>
        refine ⟨_, meets_str_split_sep x y t u h1 hy hf hx hn, ?_⟩
        show wants _ E _ { s₁ with toks := _, heap := s₁.heap.push { cls := .type "list", data := .seq (strsFrom s₁.toks (partsBetween x (occurrences x y 0 x.length (x.length + 1)) y.length)).toArray } }
        rw [strsFrom_eq]
        exact fin (numbered s₁.toks _) _ (by rw [numbered_texts]; unfold Txt.split; rw [h1, if_neg (by simp), hf, if_neg (by simp)])⟩
theorem ev_scut {x : Str} {nx : Str} {px p : Pos} {lower upper : Expr} {i j : Int} (h : Ev w n X env sc ρ false (.Name nx px) (.str x)) (h1 : Ev w n X env sc ρ false lower (.int i)) (h2 : Ev w n X env sc ρ false upper (.int j)) (hsz : x.length ≤ sizeLine) :
    Ev w n X env sc ρ b (.Subscript (.Name nx px) (.Slice (some lower) (some upper) none p) pos) (.str (Txt.slice x (some i) (some j))) := fun A s E hA C => by
  refine wpAny_Subscript_str_slice (wpAny_mono (h A s E hA C) (fun v s₁ q => ?_) fun _ _ x => x)
  obtain ⟨r, _, k1⟩ := q
  obtain ⟨t, rfl⟩ := r.str_inv
  rw [evalPart_some, evalPart_some]
  refine wpAny_mono (h1 A s₁ E hA (C.ext (keeps_ext k1))) (fun vl s₂ q => ?_) fun _ _ x => x
  obtain ⟨r1, _, k2⟩ := q
  obtain ⟨t1, rfl⟩ := r1.int_inv
  have k12 := keeps_trans k1 k2
  refine wpAny_mono (h2 A s₂ E hA (C.ext (keeps_ext k12))) (fun vu s₃ q => ?_) fun _ _ x => x
  obtain ⟨r2, _, k3⟩ := q
  obtain ⟨t2, rfl⟩ := r2.int_inv
  refine ⟨x, t, some (i, t1), some (j, t2), rfl, rfl, rfl, ?_⟩
  exact post_val_or_str ⟨Nat.le_trans (Txt.slice_le x _ _) hsz, fun t' k' => ⟨.str _ _, fun _ => .str, keeps_trans (keeps_trans k12 k3) (keeps_ht _ _ _ fun b o e => Heap.get?_push_of_some _ e)⟩⟩
/-! ## a < b < c -/
theorem evt_chain {e3 : Expr} {op1 op2 : CmpOp} {d3 : D} {v1 v2 : Bool} (h1 : Ev w n X env sc ρ false e1 d1) (h2 : Ev w n X env sc ρ false e2 d2) (h3 : Ev w n X env sc ρ false e3 d3) (o1 : Op2 w n X true (compareOp op1) d1 d2 (.bool v1)) (o2 : Op2 w n X true (compareOp op2) d2 d3 (.bool v2))
    (hm : lastMarks [op1, op2] [e2, e3] = false := by with_unfolding_all rfl) : EvT w n X env sc ρ (.Compare e1 [op1, op2] [e2, e3] pos) (v1 && v2) := fun A s E hA C => by
  refine isTrue_chain (rs := []) (wpAny_mono (h1 A s E hA C) (fun u1 s₁ q => ?_) fun _ _ x => x) hm
  obtain ⟨r1, _, k1⟩ := q
  have C₁ := C.ext (keeps_ext k1)
  refine test_link (wpAny_mono (h2 A s₁ E hA C₁) (fun u2 s₂ q => ?_) fun _ _ x => x)
  obtain ⟨r2, _, k2⟩ := q
  have C₂ := C₁.ext (keeps_ext k2)
  refine wpAny_mono (o1 A s₂ E u1 u2 hA C₂.base C₂.low (r1.ext (keeps_ext k2)) r2) (fun c s₃ y => ?_) fun _ _ x => x
  obtain ⟨rc, _, k3⟩ := y
  cases rc
  have k13 := keeps_trans (keeps_trans k1 k2) k3
  refine wpAny_truthy_bool ?_
  cases v1 with
  | false => exact ⟨rfl, k13⟩
  | true =>
    refine test_last (wpAny_mono (h3 A s₃ E hA (C₂.ext (keeps_ext k3))) (fun u3 s₄ q => ?_) fun _ _ x => x)
    obtain ⟨r3, _, k4⟩ := q
    have C₄ := (C₂.ext (keeps_ext k3)).ext (keeps_ext k4)
    refine wpAny_mono (o2 A s₄ E u2 u3 hA C₄.base C₄.low ((r2.ext (keeps_ext k3)).ext (keeps_ext k4)) r3) (fun c s₅ y => ?_) fun _ _ x => x
    obtain ⟨rc, _, k5⟩ := y
    cases rc
    exact wpAny_truthy_bool ⟨rfl, keeps_trans (keeps_trans k13 k4) k5⟩
end
end Mine

open PySem PySem.W PyProof.Rows PySem.AutoIntOps
set_option Elab.async false
set_option linter.unusedVariables false
set_option linter.unusedSimpArgs false
set_option maxRecDepth 100000
namespace Mine
/-! # tables of the top -/
noncomputable def P0 : PySem.Params := { strHash := fun _ => 0, shareClass := fun _ => 0, mergeTok := id, idOf := fun _ => 0, idOfShared := fun _ _ => 0, followText := fun _ => false, idOfImm := fun _ => 0 }
noncomputable def tokD : List (Str × PyData) := (e202_0 P0 ++ (e202_1 P0 ++ (e202_2 P0 ++ e202_3 P0))).filterMap fun e => match e.key, e.val with
  | .str x _, .int i _ => some (x, .int i)
  | _, _ => none
noncomputable abbrev tokP : List (PyData × PyData) := tokD.map fun p => (PyData.str p.1, p.2)
theorem tok_look (w : World) : KTD.tabLook KTD.flatLooks (fun a => (KK w.params).lookup a) 202 tokD = true := by kernel_rfl
theorem tok_hash (w : World) : KTD.hashesOf (fun a => (KK w.params).lookup a) 202 = tokD.map fun p => (PySem.strKind PySem.Challenge.pw_ta0079_01 w).hash p.1 := by kernel_rfl
theorem tok_tab {w : World} {h : Heap} (B : Bs w h) : StrTab PySem.Challenge.pw_ta0079_01 w h 202 tokP :=
  KTD.strTab_of_look PySem.Challenge.pw_ta0079_01 w (get := fun a => (KK w.params).lookup a) (fun a o e => B.inK a o e) (tok_look w) (by decide +kernel) (tok_hash w)
noncomputable def flgV : List (Int × Value) := [(1, .str "OPTIMIZED" 555), (2, .str "NEWLOCALS" 557), (4, .str "VARARGS" 559), (8, .str "VARKEYWORDS" 561), (16, .str "NESTED" 563), (32, .str "GENERATOR" 565), (64, .str "NOFREE" 567), (128, .str "COROUTINE" 569), (256, .str "ITERABLE_COROUTINE" 571), (512, .str "ASYNC_GENERATOR" 573)]
noncomputable def flgP : List (PyData × PyData) := flgV.map fun p => (.int p.1, match p.2 with | .str x _ => .str x | _ => .none)
theorem flg_tab {w : World} {h : Heap} (B : Bs w h) : IntTab PySem.Challenge.pw_ta0079_01 w h 187 flgP := by
  refine ⟨by decide, flgV, ⟨o187 w.params, _, _, B.inK 187 _ rfl, ⟨rfl, rfl, rfl⟩, rfl, ?_, ?_, by decide⟩, ?_⟩
  · intro e he
    have : e ∈ [(⟨1, (.int 1 554), (.str "OPTIMIZED" 555)⟩ : DictEntry), ⟨2, (.int 2 556), (.str "NEWLOCALS" 557)⟩, ⟨4, (.int 4 558), (.str "VARARGS" 559)⟩, ⟨8, (.int 8 560), (.str "VARKEYWORDS" 561)⟩, ⟨16, (.int 16 562), (.str "NESTED" 563)⟩, ⟨32, (.int 32 564), (.str "GENERATOR" 565)⟩, ⟨64, (.int 64 566), (.str "NOFREE" 567)⟩, ⟨128, (.int 128 568), (.str "COROUTINE" 569)⟩, ⟨256, (.int 256 570), (.str "ITERABLE_COROUTINE" 571)⟩, ⟨512, (.int 512 572), (.str "ASYNC_GENERATOR" 573)⟩] := by first | exact of_decide_eq_true he | exact of_decide_eq_false he | exact bne_iff_ne.mp he | exact eq_of_beq he | simpa using he
    simp only [List.mem_cons, List.not_mem_nil, or_false] at this
    rcases this with rfl | rfl | rfl | rfl | rfl | rfl | rfl | rfl | rfl | rfl
    · exact ⟨1, by rfl, by kernel_rfl⟩
    · exact ⟨2, by rfl, by kernel_rfl⟩
    · exact ⟨4, by rfl, by kernel_rfl⟩
    · exact ⟨8, by rfl, by kernel_rfl⟩
    · exact ⟨16, by rfl, by kernel_rfl⟩
    · exact ⟨32, by rfl, by kernel_rfl⟩
    · exact ⟨64, by rfl, by kernel_rfl⟩
    · exact ⟨128, by rfl, by kernel_rfl⟩
    · exact ⟨256, by rfl, by kernel_rfl⟩
    · exact ⟨512, by rfl, by kernel_rfl⟩
  · exact .cons rfl rfl (.cons rfl rfl (.cons rfl rfl (.cons rfl rfl (.cons rfl rfl (.cons rfl rfl (.cons rfl rfl (.cons rfl rfl (.cons rfl rfl (.cons rfl rfl .nil)))))))))
  · exact .cons (.str _ _) (.cons (.str _ _) (.cons (.str _ _) (.cons (.str _ _) (.cons (.str _ _) (.cons (.str _ _) (.cons (.str _ _) (.cons (.str _ _) (.cons (.str _ _) (.cons (.str _ _) .nil)))))))))
section
variable {w : World} {n : Nat} {X : Addr → Prop} {env : Env} {sc : Scope} {ρ : List (Str × Bool × D)} {b b1 b2 : Bool} {e e1 e2 : Expr} {d d1 d2 : D} {pos ap : Pos}
theorem g_tok : GlobIs w (Str.ofString "EXACT_TOKEN_TYPES") (.ref 202) := .inl (by kernel_rfl)
theorem g_flags : GlobIs w (Str.ofString "COMPILER_FLAG_NAMES") (.ref 187) := .inl (by kernel_rfl)
/-- the text is a token -/
theorem evt_tok {x : Str} {p : Pos} (h1 : Ev w n X env sc ρ false e1 (.str x)) (hs : sc.names.lookup (Str.ofString "EXACT_TOKEN_TYPES") = some .globalImplicit) (hm : behindInMarks .In (.Name (Str.ofString "EXACT_TOKEN_TYPES") p) = false := by with_unfolding_all rfl) :
    EvT w n X env sc ρ (.Compare e1 [.In] [.Name (Str.ofString "EXACT_TOKEN_TYPES") p] pos) (Spec.lookup (.str x) tokP).isSome := fun A s E hA C =>
  wpAny_isTrue_Compare1 (wpAny_mono (h1 A s E hA C) (fun v s₁ q => by
    obtain ⟨r, _, k⟩ := q
    cases r
    have C₁ := C.ext (keeps_ext k)
    exact load_glob C₁ hs g_tok (in_strTab (tok_tab C₁.base) (wpAny_truthy_bool ⟨rfl, keeps_trans k (keeps_tok _ _)⟩)) (by decide)) fun _ _ x => x) hm
/-- its number -/
theorem ev_tok {x : Str} {p : Pos} {i : Int} (h2 : Ev w n X env sc ρ false e2 (.str x)) (hs : sc.names.lookup (Str.ofString "EXACT_TOKEN_TYPES") = some .globalImplicit) (hl : Spec.lookup (.str x) tokP = some (.int i))
    (hsl : ∀ t, subscripted e2 false (.ref 202) (.str x t) = operate [.ref 202, .str x t] (getItem (.ref 202) (.str x t)) := by intro _; with_unfolding_all rfl) :
    Ev w n X env sc ρ b (.Subscript (.Name (Str.ofString "EXACT_TOKEN_TYPES") p) e2 pos) (.int i) := fun A s E hA C => by
  refine Subscript_ (load_glob C hs g_tok ?_ (by decide))
  refine wpAny_mono (h2 A s E hA C) (fun v s₁ q => ?_) fun _ _ x => x
  obtain ⟨r, _, k⟩ := q
  cases r
  refine item_strTab (tok_tab (C.base.ext (keeps_ext k))) hl (fun v hv => ?_) (hsl _) (fun r => by rfl)
  have hv := hv s₁.heap
  cases hv
  exact ⟨.int _ _, fun _ => .int, keeps_trans k (keeps_tok _ _)⟩
end
end Mine

open PySem PySem.W PyProof.Rows PySem.AutoIntOps
set_option Elab.async false
set_option linter.unusedVariables false
set_option linter.unusedSimpArgs false
set_option maxRecDepth 100000
namespace Mine
/-! # lists: joined, taken often, compared -/
section
variable {w : World} {n : Nat} {X : Addr → Prop} {env : Env} {sc : Scope} {ρ : List (Str × Bool × D)} {b b1 b2 : Bool} {e e1 e2 : Expr} {d d1 d2 : D} {pos ap : Pos}
theorem op_addl {xs ys : List D} (hsz : xs.length + ys.length ≤ sizeLine) : Op2 w n X b (binaryOp .Add) (.lst xs) (.lst ys) (.lst (xs ++ ys)) := fun A s E v1 v2 _ _ low r1 r2 => by
  obtain ⟨a1, vs1, rfl, hl1, rl1⟩ := r1.lst_inv
  obtain ⟨a2, vs2, rfl, hl2, rl2⟩ := r2.lst_inv
  obtain ⟨j1, ho1⟩ := hl1
  obtain ⟨j2, ho2⟩ := hl2
  have l1 := rl1.length
  have l2 := rl2.length
  refine P.add_list (items := vs1.toArray) (items2 := vs2.toArray) ho1 ho2 ?_ (by rw [List.size_toArray, List.size_toArray, l1, l2]; exact hsz)
  have e : vs1.toArray ++ vs2.toArray = (vs1 ++ vs2).toArray := by simp
  rw [e]
  exact ⟨.lst (vs := vs1 ++ vs2) ⟨0, Heap.get?_push_size _ rfl⟩ ((rl1.append rl2).ext fun b o e => Heap.get?_push_of_some _ e), fun _ => Own.fresh low (get_size _), keeps_heap _ _ fun b o e => Heap.get?_push_of_some _ e⟩
theorem mul_flat {α : Type} (x : α) : ∀ k : Nat, List.foldl (fun x1 x2 => x1 ++ x2) #[] (List.replicate k #[x]) = (List.replicate k x).toArray := by
  intro k
  have key : ∀ (k : Nat) (acc : Array α), List.foldl (fun x1 x2 => x1 ++ x2) acc (List.replicate k #[x]) = acc ++ (List.replicate k x).toArray := by
    intro k
    induction k with
    | zero => intro acc; simp
    | succ k ih =>
      intro acc
      rw [List.replicate_succ, List.foldl_cons, ih]
      apply Array.ext'
      simp [List.replicate_succ]
  rw [key]; simp
theorem op_mull {x : Str} {k : Int} (h0 : 0 ≤ k) (h1 : k ≤ 1000) : Op2 w n X b (binaryOp .Mult) (.lst [.str x]) (.int k) (.lst (List.replicate k.toNat (.str x))) := fun A s E v1 v2 _ _ low r1 r2 => by
  obtain ⟨a1, vs1, rfl, hl1, rl1⟩ := r1.lst_inv
  obtain ⟨u, rfl⟩ := r2.int_inv
  obtain ⟨_, _, rfl, q, o, rl⟩ := rl1.cons_inv
  cases rl
  obtain ⟨t, rfl⟩ := q.str_inv
  obtain ⟨j1, ho1⟩ := hl1
  have hj1 : ([Value.str x t].toArray).size = 1 := rfl
  refine wpAny_binaryOp_repeat_ref (T := "list") (U := "int") (by decide) ⟨_, ho1, rfl⟩ (fun s' => PySem.typeIs_int s' k u) noFill_list_mul F.fills_int_mul F.slot_int_rmul repeat_list F.slot_int_index.lookup
    (call_meets F.slot_int_rmul (PySem.typeIs_int s k u) F.entry_int_rmul (F.args_int_rmul_2 _ _) (int___rmul___int_list k u a1 [Value.str x t].toArray j1)
      ⟨ho1, rfl, ⟨_, ho1, rfl⟩, call_meets F.slot_list_mul ⟨_, ho1, rfl⟩ F.entry_list_mul (F.args_list_mul_2 _ _)
        (AutoListH.list___mul___list_int_3 a1 [Value.str x t].toArray j1 k u (by simp [Builtin.List.listFitsIndex]; omega) (by rw [hj1]; omega) (by rw [hj1]; simp [Builtin.List.listTooLong, sizeLine]; omega)) ⟨ho1, ?_⟩⟩)
  have e : List.foldl (fun x1 x2 => x1 ++ x2) #[] (List.replicate (if [Value.str x t].toArray.isEmpty = true then 0 else k.toNat) [Value.str x t].toArray) = (List.replicate k.toNat (Value.str x t)).toArray := mul_flat _ _
  show wants _ E _ { s with heap := s.heap.push { cls := .type "list", data := .seq (List.foldl (fun x1 x2 => x1 ++ x2) #[] (List.replicate (if [Value.str x t].toArray.isEmpty = true then 0 else k.toNat) [Value.str x t].toArray)) } }
  rw [e]
  have rr : ∀ m : Nat, RpL X (s.heap.push { cls := .type "list", data := .seq (List.replicate k.toNat (Value.str x t)).toArray }) (List.replicate m (Value.str x t)) (List.replicate m (.str x)) := fun m => by
    induction m with
    | zero => exact .nil
    | succ m ih => exact .cons (.str _ _) .str ih
  exact ⟨.lst (vs := List.replicate k.toNat (Value.str x t)) ⟨0, Heap.get?_push_size _ rfl⟩ (rr _), fun _ => Own.fresh low (get_size _), keeps_heap _ _ fun b o e => Heap.get?_push_of_some _ e⟩
/-! ## two lists compared -/
mutual
noncomputable def dP : D → PyData
  | .none => .none
  | .bool b => .bool b
  | .int i => .int i
  | .str x => .str x
  | .tup ds => .tuple (dPs ds)
  | .lst ds => .list (dPs ds)
noncomputable def dPs : List D → List PyData
  | [] => []
  | d :: ds => dP d :: dPs ds
end
theorem rp_reads {X : Addr → Prop} {h : Heap} {v : Value} {d : D} (r : RpB X h v d) : ∃ as, Reads h v (dP d) as :=
  RpB.rec (motive_1 := fun v d _ => ∃ as, Reads h v (dP d) as) (motive_2 := fun vs ds _ => ∃ as, ReadsAll h vs (dPs ds) as)
    ⟨_, Reads.none⟩ (fun b => ⟨_, Reads.bool b⟩) (fun i t => ⟨_, Reads.int i t⟩) (fun x t => ⟨_, Reads.str x t⟩)
    (fun ⟨_, ho, hc, _, hd⟩ _ ⟨as, q⟩ => ⟨as, reads_tuple_at ho hc hd (by simpa using q)⟩)
    (fun ⟨_, ho⟩ _ ⟨_, q⟩ => ⟨_, reads_list_at ho rfl rfl (by simpa using q)⟩)
    ⟨_, ReadsAll.nil⟩ (fun _ _ _ ⟨_, q⟩ ⟨_, p⟩ => ⟨_, ReadsAll.cons q p⟩) r
noncomputable def okD : Nat → D → Bool
  | _, .none => true
  | _, .bool _ => true
  | _, .int _ => true
  | _, .str x => PyData.strOk x
  | n + 1, .tup ds => ds.all (okD n)
  | n + 1, .lst ds => ds.all (okD n)
  | _, _ => false
theorem okD_lay : ∀ (n : Nat) (d : D), okD n d = true → (dP d).canLay0 = true ∧ (dP d).depth ≤ n := by
  have all : ∀ (n : Nat), (∀ d, okD n d = true → (dP d).canLay0 = true ∧ (dP d).depth ≤ n) → ∀ ds : List D, (∀ d ∈ ds, okD n d = true) → PyData.canLayAll0 (dPs ds) = true ∧ PyData.depthAll (dPs ds) ≤ n := by
    intro n ih ds
    induction ds with
    | nil => intro _; simp [dPs, PyData.canLayAll0, PyData.depthAll]
    | cons d ds hi =>
      intro h
      have h1 := ih d (h d (.head _))
      have h2 := hi fun e he => h e (.tail _ he)
      simp only [dPs, PyData.canLayAll0, PyData.depthAll, h1.1, h2.1, Bool.and_self, true_and]
      have a1 := h1.2
      have a2 := h2.2
      omega
  intro n
  induction n with
  | zero => intro d h; cases d <;> simp_all [okD, dP, PyData.canLay0, PyData.depth]
  | succ n ih =>
    intro d h
    cases d with
    | none => simp [dP, PyData.canLay0, PyData.depth]
    | bool b => simp [dP, PyData.canLay0, PyData.depth]
    | int i => simp [dP, PyData.canLay0, PyData.depth]
    | str x => simp [okD] at h; simp [dP, PyData.canLay0, PyData.depth, h]
    | tup ds =>
      have q := all n ih ds (by simpa [okD] using h)
      have q2 := q.2
      simp only [dP, PyData.canLay0, PyData.depth, q.1, true_and]
      omega
    | lst ds =>
      have q := all n ih ds (by simpa [okD] using h)
      have q2 := q.2
      simp only [dP, PyData.canLay0, PyData.depth, q.1, true_and]
      omega
theorem okD_shaped {d : D} (h : okD 8 d = true) : SeqAt.shaped (dP d) = true := by
  have l := okD_lay 8 d h
  unfold SeqAt.shaped
  rw [l.1, Bool.true_and]
  exact decide_eq_true (Nat.le_trans l.2 (by decide))
mutual
theorem eqv_same : ∀ d : D, PyData.eqv (dP d) (dP d) = true
  | .none => by simp [dP, PyData.eqv]
  | .bool b => by simp [dP, PyData.eqv]
  | .int i => by simp [dP, PyData.eqv]
  | .str x => by simp [dP, PyData.eqv]
  | .tup ds => by simp only [dP, PyData.eqv]; exact eqv_all ds
  | .lst ds => by simp only [dP, PyData.eqv]; exact eqv_all ds
theorem eqv_all : ∀ ds : List D, PyData.eqvAll (dPs ds) (dPs ds) = true
  | [] => by simp [dPs, PyData.eqvAll]
  | d :: ds => by simp only [dPs, PyData.eqvAll, eqv_same d, eqv_all ds, Bool.and_self]
end
theorem rm_units {A : Around} (hA : Rm (n + 1) A) : A.units + 64 < cLine := by
  have := hA.units
  unfold cLine
  omega
theorem op_ne_same {d : D} (hk : okD 8 d = true) : Op2 w (n + 1) X b (compareOp .NotEq) d d (.bool false) := fun A s E v1 v2 hA _ _ r1 r2 => by
  obtain ⟨as, ra⟩ := rp_reads r1
  obtain ⟨bs, rb⟩ := rp_reads r2
  refine ne_dataH ra rb (okD_shaped hk) (okD_shaped hk) (rm_units hA) ?_
  rw [eqv_same]
  exact yb
theorem op_ne_nil {ds : List D} (hk : okD 8 (.lst ds) = true) : Op2 w (n + 1) X b (compareOp .NotEq) (.lst ds) (.lst []) (.bool (!ds.isEmpty)) := fun A s E v1 v2 hA _ _ r1 r2 => by
  obtain ⟨as, ra⟩ := rp_reads r1
  obtain ⟨bs, rb⟩ := rp_reads r2
  refine ne_dataH ra rb (okD_shaped hk) (okD_shaped (d := .lst []) rfl) (rm_units hA) ?_
  have e : PyData.eqv (dP (.lst ds)) (dP (.lst [])) = ds.isEmpty := by cases ds <;> simp [dP, dPs, PyData.eqv, PyData.eqvAll]
  rw [e]
  exact yb
theorem op_eq_nil {ds : List D} (hk : okD 8 (.lst ds) = true) : Op2 w (n + 1) X b (compareOp .Eq) (.lst ds) (.lst []) (.bool ds.isEmpty) := fun A s E v1 v2 hA _ _ r1 r2 => by
  obtain ⟨as, ra⟩ := rp_reads r1
  obtain ⟨bs, rb⟩ := rp_reads r2
  refine eq_dataH ra rb (okD_shaped hk) (okD_shaped (d := .lst []) rfl) (rm_units hA) ?_
  have e : PyData.eqv (dP (.lst ds)) (dP (.lst [])) = ds.isEmpty := by cases ds <;> simp [dP, dPs, PyData.eqv, PyData.eqvAll]
  rw [e]
  exact yb
/-! ## the name of a flag -/
theorem ev_flag {p : Pos} {pl : Sem Bool} {i : Int} {x : Str} (h1 : Ev w n X env sc ρ false e1 (.int i)) (h2 : Ev w n X env sc ρ false e2 (.str x)) (hs : sc.names.lookup (Str.ofString "COMPILER_FLAG_NAMES") = some .globalImplicit)
    {y : Str} (hl : (Spec.lookup (.int i) flgP).getD (.str x) = .str y) (hse1 : starEach [e1, e2] env = (false, eval e1 env) :: starEach [e2] env := by rfl) (hse2 : starEach [e2] env = (false, eval e2 env) :: starEach [] env := by rfl)
    (hev : eval (.Call (.Attribute (.Name (Str.ofString "COMPILER_FLAG_NAMES") p) (Str.ofString "get") ap) [e1, e2] [] pos) env = (do
      let ov ← eval (.Name (Str.ofString "COMPILER_FLAG_NAMES") p) env
      standAt ap.atName
      let (f, first) ← holding [ov] (getMethod ov (Str.ofString "get") pl)
      callWith pos f first (backTo pos (starEach [e1, e2] env)) (backToKw pos (keywordEach [] env))) := by rfl) :
    Ev w n X env sc ρ b (.Call (.Attribute (.Name (Str.ofString "COMPILER_FLAG_NAMES") p) (Str.ofString "get") ap) [e1, e2] [] pos) (.str y) := fun A s E hA C => by
  refine methodCall_KW (load_glob C hs g_flags ?_ (by decide)) hev
  refine getMethod_intTab_get (flg_tab C.base) ?_
  have hp : (backTo pos (starEach [e1, e2] env)).any (·.1) = false := by rw [hse1, hse2]; rfl
  refine PySem.Calls.callWith_builtin hp ?_
  refine two_args hse1 hse2 (wpAny_mono (h1 A s E hA C) (fun v1 s₁ q => ?_) fun _ _ x => x)
  obtain ⟨r1, _, k1⟩ := q
  refine wpAny_mono (h2 A s₁ E hA (C.ext (keeps_ext k1))) (fun v2 s₂ q => ?_) fun _ _ x => x
  obtain ⟨r2, _, k2⟩ := q
  cases r1
  obtain ⟨t2, rfl⟩ := r2.str_inv
  have k := keeps_trans k1 k2
  show wpAny _ A (call (.builtin "dict.get") [.ref 187, _, _]) _ _ _
  refine call_get2_intTab (flg_tab (C.base.ext (keeps_ext k))) (.str x t2) fun v hv => ?_
  rw [hl] at hv
  have hv := hv s₂.heap
  cases hv
  exact ⟨.str _ _, fun _ => .str, keeps_trans k (keeps_tok _ _)⟩
end
end Mine

open PySem PySem.W PyProof.Rows PySem.AutoIntOps
set_option Elab.async false
set_option linter.unusedVariables false
set_option linter.unusedSimpArgs false
set_option maxRecDepth 100000
namespace Mine
/-! # defs that change nothing that stood -/
theorem Rm.deeper {n : Nat} {A : Around} {env : Env} (r : Rm (n + 1) A) : Rm n (A.deeper env) :=
  ⟨r.handled, by have := r.depth; show A.depth + 1 + n ≤ 900; omega, by have := r.units; show A.units + 3 + 12 * n ≤ 4000; omega⟩
noncomputable def Quant : Nat → (List Value → Prop) → Prop
  | 0, P => P []
  | k + 1, P => ∀ v, Quant k fun vs => P (v :: vs)
theorem Quant.at {k : Nat} {P : List Value → Prop} {vs : List Value} (q : Quant k P) (h : vs.length = k) : P vs := by
  subst h
  induction vs generalizing P with
  | nil => exact q
  | cons v vs ih => exact ih (P := fun vs => P (v :: vs)) (q v)
/-- what a def of the text gives back -/
noncomputable def Spec (w : World) (n : Nat) (f : Addr) (ds : List D) (d : D) : Prop :=
  ∀ (X : Addr → Prop) (A : Around) (s : Shared) (vs : List Value), Rm n A → Bs w s.heap → (∀ a, X a → ∃ o, s.heap.get? a = some o) → RpL X s.heap vs ds → codeAny (Md w) A (.call (.ref f) ⟨vs, []⟩) (fun r s' => ∃ v, r = .ok (.ret v) ∧ Yld X true d s v s') s
section
variable {w : World} {n : Nat} {X : Addr → Prop} {env : Env} {sc : Scope} {ρ : List (Str × Bool × D)} {A : Around} {E : Value → Shared → Prop} {s : Shared}
theorem evl_plain {pos : Pos} {es : List Expr} {ds : List D} (a : EvL w n X env sc ρ es ds) : (backTo pos (starEach es env)).any (·.1) = false := by
  induction a with
  | nil => rfl
  | cons _ he _ ih => rw [he]; exact ih
theorem callWith_L {pos : Pos} {f : Value} {first : List Value} {es : List Expr} {ds : List D} {Q : Value → Shared → Prop} (hk : ∀ h, (KK w.params).In h → ∃ k, (k = Keeper.frame ∨ k = Keeper.machine ∨ k = Keeper.boundFrame) ∧ Looks (Md w) h (keeperOf f) k) (ha : EvL w n X env sc ρ es ds) (hA : Rm n A) (C : Cx w X env sc ρ s.heap)
    (h : ∀ vs s', RpL X s'.heap vs ds → Keeps s s' → wpAny (Md w) A (call f (first ++ vs)) Q E s') :
    wpAny (Md w) A (callWith pos f first (backTo pos (starEach es env)) []) Q E s := by
  cases ha with
  | nil =>
    refine callWith_of (P := (KK w.params).In) rfl hk (PySem.evalArgs_none ⟨C.base.inK, ?_⟩)
    exact h [] s .nil (keeps_refl s)
  | cons h1 he hr =>
    rename_i e d es ds
    have hp := evl_plain (pos := pos) (EvL.cons h1 he hr)
    refine callWith_of (P := (KK w.params).In) (by rw [hp]; rfl) hk ?_
    have hrun := list_run (E := E) (pos := pos) (EvL.cons h1 he hr) hA C
    rw [he] at hrun ⊢
    refine PySem.Calls.evalArgs_plain (wpAny_mono hrun (fun vs s' q => ⟨C.base.inK.keeps (keeps_ext q.2), ?_⟩) fun _ _ x => x)
    exact h vs s' q.1 q.2
/-- a call of a def of the text -/
theorem ev_def {x : Str} {p pos : Pos} {f : Addr} {es : List Expr} {ds : List D} {b : Bool} {d : D} (S : Spec w n f ds d) (hs : sc.names.lookup x = some .globalImplicit) (hg : GlobIs w x (.ref f)) (hf : keepIn (KK w.params) (.ref f) = true) (ha : EvL w n X env sc ρ es ds)
    (hd : (x == ("__debug__" : Str)) = false := by decide) : Ev w n X env sc ρ b (.Call (.Name x p) es [] pos) d := fun A s E hA C =>
  wpAny_Call_NameR (load_glob C hs hg (callWith_L (first := []) (fun h B => keeps_K hf h B) ha hA C fun vs s' r k =>
    wpAny_call (codeAny_mono (S X A s' vs hA (C.base.ext (keeps_ext k)) (C.ext (keeps_ext k)).low r) fun r s'' q => by
      obtain ⟨v, rfl, y⟩ := q
      exact ⟨y.1, fun _ => y.2.1 rfl, keeps_trans k y.2.2⟩)) hd)
end
noncomputable def pars : List Str → List D → Vs
  | x :: xs, d :: ds => (x, .own d) :: pars xs ds
  | _, _ => []
theorem pars_lookup {X : Addr → Prop} {h : Heap} {x : Str} {b : Bd} : ∀ {xs : List Str} {vs : List Value} {ds : List D}, RpL X h vs ds → xs.length = ds.length → (pars xs ds).lookup x = some b → ∃ v d, b = .own d ∧ (x, v) ∈ xs.zip vs ∧ RpB X h v d ∧ Own X v
  | [], _, _, _, _, e => by simp [pars] at e
  | y :: xs, _, _, .nil, hl, _ => by simp at hl
  | y :: xs, v :: vs, d :: ds, .cons r o rs, hl, e => by
    unfold pars at e
    rw [List.lookup_cons] at e
    cases hb : x == y with
    | true =>
      rw [hb] at e; cases e
      have := beq_iff_eq.mp hb; subst this
      exact ⟨v, d, rfl, List.mem_cons_self, r, o⟩
    | false =>
      rw [hb] at e
      obtain ⟨v', d', h1, h2, h3⟩ := pars_lookup rs (by first | exact of_decide_eq_true hl | exact of_decide_eq_false hl | exact bne_iff_ne.mp hl | exact eq_of_beq hl | simpa using hl) e
      exact ⟨v', d', h1, List.mem_cons_of_mem _ h2, h3⟩
noncomputable abbrev NoA : Addr → Prop := fun _ => False
/-- the end of a def: its value, all that stood kept -/
noncomputable def PR (X : Addr → Prop) (H : Heap) (s₀ : Shared) (d : D) (fl : Flow) (s' : Shared) : Prop := ∃ v, fl = .ret v ∧ RpB X s'.heap v d ∧ Own X v ∧ Chg s₀ s' ∧ Ext H s'.heap
section
variable {w : World} {n : Nat} {G : Gd} {X Z Z' : Addr → Prop} {env : Env} {sc : Scope} {ρ ρ' : Vs} {H : Heap} {Y : Addr → Prop} {A : Around} {E : Value → Shared → Prop} {s s₀ : Shared} {Q : Flow → Shared → Prop} {h h' : Heap}
theorem spec_of {f : Addr} {fd : FuncData} {od : Option Addr} {osl : Array (Option Value)} {oc : Value} {body : List Stmt} {names : List Str} {ds : List D} {d : D} {cd : Addr} {oc' : Value} {cdd : Option Addr} {cs : Array (Option Value)} {cvs : Array Value} {tq : Tok}
    (hl : (KK w.params).lookup f = some ⟨oc, od, .func fd, osl⟩) (hb : fd.body = .stmts body) (hco : fd.scope.isCoroutine = false) (hgen : fd.scope.isGenerator = false) (hk : fd.scope.kind = .function) (hclo : fd.closure = []) (hglo : fd.globals = mainGlobals) (hblt : fd.builtins = builtinsNs)
    (hcode : fd.code = .ref cd) (hcl : (KK w.params).lookup cd = some ⟨oc', cdd, .fields cvs, cs⟩) (hq : cvs[1]? = some (.str fd.qualname tq))
    (hbinds : Quant names.length fun vs => peek (KK w.params) ⟨PySem.Challenge.pw_ta0079_01, w.params⟩ (bindArgs fd ⟨vs, []⟩) = some (names.zip vs)) (hnd : names.Nodup) (hbk : names.all (fun x => locOrCell fd.scope x && !(x == star)) = true) (hlen : names.length = ds.length)
    (run : ∀ (X : Addr → Prop) (A : Around) (env : Env) (s s₀ : Shared) (H : Heap), Rm n A → Chg s₀ s → Fs w Gd.no X NoA env fd.scope (pars names ds) H NoA s.heap → wpAny (Md w) A (execs body env) (PR X H s₀ d) NoE s) : Spec w (n + 1) f ds d := by
  intro X A s vs hA B low r
  have hvl := r.length
  have hbk' : ∀ x ∈ names, locOrCell fd.scope x = true ∧ x ≠ star := fun x hx => by
    have := List.all_eq_true.mp hbk x hx
    simpa using this
  have hzip : (names.zip vs).map (·.1) = names := by rw [List.map_fst_zip]; rw [hvl, hlen]; exact Nat.le_refl _
  refine def_entry hA B hl hb hco hgen hk hclo hglo hblt hcode hcl hq (hbinds.at (by rw [hvl, hlen])) (by rw [hzip]; exact hnd) (fun x hx => (hbk' x.1 (hzip ▸ List.mem_map.mpr ⟨x, hx, rfl⟩)).1) ?_
  intro env s' m cm hsc hg hbl fm hbd k hnew
  have ke := keeps_ext k
  have F : Fs w Gd.no X NoA env fd.scope (pars names ds) s.heap NoA s'.heap := by
    refine ⟨B.ext ke, B, hsc, hk, hg, hbl, fun a q => ?_, ⟨m, cm, fm, fun x b e => ?_⟩, fun x y a d1 d2 e1 e2 => ?_, hnew, fun b o _ e => ke b o e, fun a q => q.elim, fun b o q => q.elim, fun a q => q.elim, fun b o e => ⟨o, ke _ _ e⟩, fun b q => q.elim⟩
    · obtain ⟨o, e⟩ := low a (q.resolve_right fun z => z); exact ⟨o, ke _ _ e⟩
    · obtain ⟨v, d, rfl, hm, rb, ow⟩ := pars_lookup r hlen e
      have hx : x ∈ names := (List.of_mem_zip hm).1
      refine ⟨fun _ => (hbk' x hx).1, v, fun _ => hbd x v hm, (rb.ext ke).weak (fun a q => q.resolve_right fun z => z), fun a e q => ow a e (q.resolve_right fun z => z)⟩
    · obtain ⟨_, _, e, _⟩ := pars_lookup r hlen e1; cases e
  refine wpAny_mono (run X (A.deeper env) env s' s s.heap hA.deeper (Chg.of_keeps k) F) (fun fl s'' q => ?_) fun _ _ x => x
  obtain ⟨v, rfl, rv, ov, c, ex⟩ := q
  obtain ⟨h, t, rfl⟩ := c
  exact ⟨v, rfl, rv, fun _ => ov, h, t, rfl, ex⟩
theorem Fs.keeps (F : Fs w G X Z env sc ρ H Y h) (hY : ∀ a, ¬ Y a) : Ext H h := fun b o e => F.keep b o (hY b) e
/-- return e -/
theorem st_ret {e : Expr} {pos : Pos} {rest : List Stmt} {d : D} (F : Fs w G X Z env sc ρ H Y s.heap) (hA : Rm n A) (hc : clean ρ = true) (hch : Chg s₀ s) (hY : ∀ a, ¬ Y a) (he : Ev w n (XZ X Z) env sc (seen ρ) true e d) :
    wpAny (Md w) A (execs (.Return (some e) pos :: rest) env) (PR X H s₀ d) NoE s :=
  st_seq (wpAny_Return_some (wpAny_mono (he A s NoE hA (F.cx hc)) (fun v s' q => by
    obtain ⟨r, o, k⟩ := q
    exact ⟨v, rfl, r.weak fun a z => .inl z, fun a e z => o rfl a e (.inl z), hch.trans (Chg.of_keeps k), fun b o e => keeps_ext k b o (F.keeps hY b o e)⟩) fun _ _ x => x))
end
end Mine
namespace Mine
section
variable {w : World} {n : Nat}
theorem spec_isterminal {i : Int} : Spec w (n + 1) 211 [.int i] (.bool (decide (i < 256))) := by
  refine spec_of (names := ["x"]) rfl rfl rfl rfl rfl rfl rfl rfl rfl rfl rfl (fun v => by show _ = some _; kernel_rfl) (by decide) (by decide +kernel) rfl ?_
  intro X A env s s₀ H hA c F
  refine st_ret F hA rfl c (fun _ q => q) (ev_cmp (ev_name rfl) (ev_gint rfl (by kernel_rfl)) op_lt)
end
end Mine

open PySem PySem.W PyProof.Rows PySem.AutoIntOps
set_option Elab.async false
set_option linter.unusedVariables false
set_option linter.unusedSimpArgs false
set_option maxRecDepth 100000
namespace Mine
/-! # more statements -/
section
variable {w : World} {n : Nat} {G : Gd} {X Z Z' : Addr → Prop} {env : Env} {sc : Scope} {ρ ρ' : Vs} {H : Heap} {Y : Addr → Prop} {A : Around} {E : Value → Shared → Prop} {s s₀ : Shared} {Q : Flow → Shared → Prop} {h h' : Heap}
theorem st_nil (h : Q .next s) : wpAny (Md w) A (execs [] env) Q E s := wpAny_execs_nil h
theorem st_if {c : Expr} {b1 b2 : List Stmt} {pos : Pos} {v : Bool} (F : Fs w G X Z env sc ρ H Y s.heap) (hA : Rm n A) (hc : clean ρ = true) (ht : EvT w n (XZ X Z) env sc (seen ρ) c v)
    (h : ∀ s', Chg s s' → Fs w G X Z env sc ρ H Y s'.heap → wpAny (Md w) A (execs (if v then b1 else b2) env) Q E s') : wpAny (Md w) A (exec (.If c b1 b2 pos) env) Q E s := by
  refine wpAny_If (wpAny_mono (ht A s E hA (F.cx hc)) (fun b s' q => ?_) fun _ _ x => x)
  obtain ⟨rfl, k⟩ := q
  have := h s' (Chg.of_keeps k) (F.told k)
  cases b <;> exact this
theorem st_break {pos : Pos} (h : Q .brk s) : wpAny (Md w) A (exec (.Break pos) env) Q E s := wpAny_Break h
/-- x op= e -/
theorem st_aug {x : Str} {px pos : Pos} {op : Operator} {e : Expr} {d1 d2 d : D} {b' : Bool} (F : Fs w G X Z env sc ρ H Y s.heap) (hA : Rm n A) (hc : clean ρ = true) (hx : locOrCell sc x = true) (hl : (seen ρ).lookup x = some (b', d1)) (he : Ev w n (XZ X Z) env sc (seen ρ) false e d2)
    (ho : Op2 w n (XZ X Z) true (inplaceOp op) d1 d2 d) (h : ∀ s', Chg s s' → Fs w G X Z env sc ((x, .own d) :: ρ) H Y s'.heap → Q .next s') : wpAny (Md w) A (exec (.AugAssign (.Name x px) op e pos) env) Q E s := by
  have C := F.cx hc
  obtain ⟨v, nm, r, _⟩ := C.vars x b' d1 hl
  refine wpAny_AugAssign_Name (nm.load (C.scope ▸ C.fn) ?_)
  refine wpAny_mono (he A s E hA C) (fun v2 s₂ q => ?_) fun _ _ x => x
  obtain ⟨r2, _, k⟩ := q
  have C₂ := C.ext (keeps_ext k)
  refine wpAny_mono (ho A s₂ E v v2 hA C₂.base C₂.low (r.ext (keeps_ext k)) r2) (fun v3 s₃ q => ?_) fun _ _ x => x
  obtain ⟨r3, o3, k3⟩ := q
  have kk := keeps_trans k k3
  exact fs_store (F.told kk) hx (fit_own r3 (o3 rfl)) fun s' c F' _ _ => h s' ((Chg.of_keeps kk).trans c) F'
theorem setItem_plain {l : Addr} {items : Array Value} {k : Int} {t : Tok} {v : Value} {Q : Unit → Shared → Prop} (hl : s.heap.PlainList l items) (h0 : 0 ≤ k) (hfit : k < 2 ^ 63) (hn : k < items.size)
    (hQ : ∀ h', h'.PlainList l (items.setIfInBounds k.toNat v) → Heap.SameBut l s.heap h' → Q () { s with heap := h' }) : wpAny (Md w) A (setItem (.ref l) (.int k t) v) Q E s := by
  obtain ⟨ne, ho⟩ := id hl
  have hl' := hl.isList
  unfold setItem
  try with_reducible refine wpAny_holding ?_
  first | refine wpAny_bind (wpAny_pure ?_) | skip
  refine wpAny_bind (wpAny_sequenceKey hl'.typeIs (by decide) ?_)
  refine wpAny_bind (wpAny_callSpecial?_slot (name := Str.ofString "__setitem__") hl'.typeIs slot_list_setitem
    (wpAny_call_entry slot_list_setitem hl'.typeIs entry_list_setitem ?_ (args_list_setitem _ _ _)))
  show wpAny _ _ (Builtin.List.listSubscript? (.int k t) >>= _) _ _ s
  refine wpAny_bind (wpAny_listSubscript_int (fitsIndex_of h0 hfit) ?_)
  clear hfit
  obtain ⟨j, rfl⟩ := Int.eq_ofNat_of_zero_le h0
  have hj : j < items.size := by omega
  show wpAny _ _ ((seqItemAt l j >>= fun r => pure (r.map (j, ·))) >>= _) _ _ s
  refine wpAny_bind (wpAny_bind (wpAny_seqItemAt ho rfl (wpAny_pure ?_)))
  rw [Array.getElem?_eq_getElem hj]
  show wpAny _ _ (setSeqItemAt l j v >>= _) _ _ s
  have hfin : (s.heap.update l (Obj.mapSeq (·.setIfInBounds j v))).PlainList l (items.setIfInBounds j v) := ⟨_, Heap.get?_update_self _ ho rfl⟩
  refine wpAny_bind (wpAny_setSeqItemAt ho rfl ?_)
  first
    | exact wpAny_bind (wpAny_pure (wpAny_pure ⟨.none, rfl, wpAny_pure (hQ _ hfin (Heap.SameBut.update ..))⟩))
    | exact wpAny_pure ⟨.none, rfl, wpAny_pure (hQ _ hfin (Heap.SameBut.update ..))⟩
theorem RpL.set {X : Addr → Prop} {h : Heap} {vs : List Value} {ds : List D} {v : Value} {d : D} (i : Nat) (r : RpL X h vs ds) (a : RpB X h v d) (o : Own X v) : RpL X h (vs.set i v) (ds.set i d) := by
  induction vs generalizing ds i with
  | nil => cases r; exact .nil
  | cons u vs ih =>
    cases r with
    | cons a' o' r =>
      cases i with
      | zero => exact .cons a o r
      | succ i => exact .cons a' o' (ih i r)
/-- x[i] op= e, x a list of the frame's own -/
theorem st_aug_item {x : Str} {px tpos pos : Pos} {op : Operator} {i e : Expr} {a : Addr} {ds : List D} {k : Int} {d1 d2 d : D} (F : Fs w G X Z env sc ρ H Y s.heap) (hA : Rm n A) (hc : clean ρ = true) (hx : ρ.lookup x = some (.grow a ds))
    (hi : Ev w n (XZ X Z) env sc (seen ρ) false i (.int k)) (h0 : 0 ≤ k) (hhi : k < 2 ^ 63) (hd : ds[k.toNat]? = some d1) (he : Ev w n (XZ X Z) env sc (seen ρ) false e d2) (ho : Op2 w n (XZ X Z) true (inplaceOp op) d1 d2 d)
    (h : ∀ s', Chg s s' → Fs w G X Z env sc ((x, .grow a (ds.set k.toNat d)) :: ρ) H Y s'.heap → Q .next s') (hdn : (x == ("__debug__" : Str)) = false := by decide) (hst : (x == star) = false := by decide)
    (hs : ∀ ov iv new, augStore i ov iv new = (do holding [new, ov, iv] (setItem ov iv new); release [new, ov, iv] []; pure .next) := by intros; rfl) : wpAny (Md w) A (exec (.AugAssign (.Subscript (.Name x px) i tpos) op e pos) env) Q E s := by
  have C := F.cx hc
  obtain ⟨m, cm, f, g⟩ := F.fm
  obtain ⟨l, v, e1, rfl, hz, vs, hl, r⟩ := g x _ hx
  have hst : x ≠ star := by first | exact of_decide_eq_true hst | exact of_decide_eq_false hst | exact bne_iff_ne.mp hst | exact eq_of_beq hst | simpa using hst
  have l := l hst
  have e1 := e1 hst
  have nm := f.nameIs (by rw [F.scope]; exact l) (mem_allNames l) e1
  refine wpAny_AugAssign_SubscriptAny (wpAny_Name (nm.load (by rw [F.scope]; exact F.fn) ?_) hdn) hs
  refine wpAny_mono (hi A s E hA C) (fun iv s₁ q => ?_) fun _ _ x => x
  obtain ⟨ri, _, k1⟩ := q
  cases ri with
  | int _ t =>
  obtain ⟨u, hu, ru, ou⟩ := r.get hd
  have hl1 := hl.at fun o e => keeps_ext k1 _ o e
  refine wpAny_getItem_list hl1.isList h0 hhi (by first | exact of_decide_eq_true hu | exact of_decide_eq_false hu | exact bne_iff_ne.mp hu | exact eq_of_beq hu | simpa using hu) ?_
  refine wpAny_mono (he A s₁ E hA (C.ext (keeps_ext k1))) (fun v2 s₂ q => ?_) fun _ _ x => x
  obtain ⟨r2, _, k2⟩ := q
  have k12 := keeps_trans k1 k2
  have C₂ := C.ext (keeps_ext k12)
  refine wpAny_mono (ho A s₂ E u v2 hA C₂.base C₂.low (ru.ext (keeps_ext k12)) r2) (fun v3 s₃ q => ?_) fun _ _ x => x
  obtain ⟨r3, o3, k3⟩ := q
  have kk := keeps_trans k12 k3
  have hl3 := hl.at fun o e => keeps_ext kk _ o e
  have hlt : k.toNat < vs.length := (List.getElem?_eq_some_iff.mp hu).1
  refine setItem_plain hl3 h0 hhi (by rw [List.size_toArray]; omega) fun h' hl' hs' => ?_
  have e2 : vs.toArray.setIfInBounds k.toNat v3 = (vs.set k.toNat v3).toArray := by simp
  rw [e2] at hl'
  exact h _ ((Chg.of_keeps kk).trans ⟨h', _, rfl⟩) ((F.told kk).turn hx hs' hl' ((r.ext (keeps_ext kk)).set k.toNat r3 (o3 rfl)))
/-- return e, in the midst -/
theorem st_retQ {e : Expr} {pos : Pos} {rest : List Stmt} {d : D} (F : Fs w G X Z env sc ρ H Y s.heap) (hA : Rm n A) (hc : clean ρ = true) (hch : Chg s₀ s) (hY : ∀ a, ¬ Y a) (he : Ev w n (XZ X Z) env sc (seen ρ) true e d)
    (hQ : ∀ v s', PR X H s₀ d (.ret v) s' → Q (.ret v) s') : wpAny (Md w) A (execs (.Return (some e) pos :: rest) env) Q NoE s :=
  wpAny_mono (st_ret F hA hc hch hY he) (fun fl s' q => by
    obtain ⟨v, rfl, q⟩ := q
    exact hQ v s' ⟨v, rfl, q⟩) fun _ _ x => x
end
end Mine

open PySem PySem.W PyProof.Rows PySem.AutoIntOps
set_option Elab.async false
set_option linter.unusedVariables false
set_option linter.unusedSimpArgs false
set_option maxRecDepth 100000
namespace Mine
/-! # the text of a comprehension, looked at -/
noncomputable def compOk (scope sc : Scope) (ns : List Str) (target : Expr) : Bool :=
  scope.kind == .function && tgtOk (relS scope sc) target && (tgtNames target).all (fun x => !((relS scope sc).names.lookup x == some .cell) || scope.names.contains (x, .cell)) &&
    scope.names.all (fun x => !(x.2 == .local) || scope.names.lookup x.1 == some .local) &&
    scope.names.all (fun y => !(y.2 == .free) || (ns.contains y.1 && (sc.names.lookup y.1 == some .cell || sc.names.lookup y.1 == some .free) && (scope.names.lookup y.1 == some .free && !scope.names.contains (y.1, .cell) && !(y.1 == ("__classdict__" : Str)))))
noncomputable def capOf (scope : Scope) (ρ : List (Str × Bool × D)) : List (Str × Bool × D) := ρ.filter fun p => scope.names.contains (p.1, .free)
theorem lookup_filter_key {α : Type} (f : Str → Bool) : ∀ {l : List (Str × α)} {y : Str} {v : α}, (l.filter fun p => f p.1).lookup y = some v → f y = true ∧ l.lookup y = some v
  | [], _, _, h => nomatch h
  | (x, u) :: r, y, v, h => by
    rw [List.filter_cons] at h
    cases hf : f x with
    | true =>
      rw [show (f (x, u).1) = true from hf, if_pos rfl, List.lookup_cons] at h
      cases hb : y == x with
      | true =>
        rw [hb] at h; cases h
        have := beq_iff_eq.mp hb; subst this
        exact ⟨hf, by rw [List.lookup_cons, hb]⟩
      | false =>
        rw [hb] at h
        obtain ⟨a, b⟩ := lookup_filter_key f h
        exact ⟨a, by rw [List.lookup_cons, hb]; exact b⟩
    | false =>
      rw [show (f (x, u).1) = false from hf, if_neg (by simp)] at h
      obtain ⟨a, b⟩ := lookup_filter_key f h
      refine ⟨a, ?_⟩
      rw [List.lookup_cons]
      have : (y == x) = false := by
        cases hb : y == x with
        | false => rfl
        | true => have := beq_iff_eq.mp hb; subst this; rw [hf] at a; cases a
      rw [this]; exact b
theorem lookup_some_of_mem {α : Type} : ∀ {l : List (Str × α)} {y : Str}, y ∈ l.map (·.1) → ∃ v, l.lookup y = some v
  | [], _, h => nomatch h
  | (x, u) :: r, y, h => by
    rw [List.lookup_cons]
    cases hb : y == x with
    | true => exact ⟨u, rfl⟩
    | false =>
      rcases List.mem_cons.mp h with e | h
      · have e' : y = x := e
        rw [e'] at hb; simp at hb
      · exact lookup_some_of_mem h
theorem compText_raw {scope sc : Scope} {ρ : List (Str × Bool × D)} {target : Expr} {rn : List Str} (h : compOk scope sc (rn ++ ρ.map (·.1)) target = true) : CompText scope sc ρ (capOf scope ρ) target rn := by
  unfold compOk at h
  simp only [Bool.and_eq_true, List.all_eq_true] at h
  obtain ⟨⟨⟨⟨h1, h2⟩, h3⟩, h4⟩, h5⟩ := h
  have h5' : ∀ y ∈ scope.names, y.2 = .free → y.1 ∈ rn ++ ρ.map (·.1) ∧ (sc.names.lookup y.1 = some .cell ∨ sc.names.lookup y.1 = some .free) ∧ scope.names.lookup y.1 = some .free ∧ (y.1, NameKind.cell) ∉ scope.names ∧ (y.1 == ("__classdict__" : Str)) = false := fun y hy hf => by
    have q := h5 y hy
    rw [hf] at q
    simp only [BEq.rfl, Bool.not_true, Bool.false_or, Bool.and_eq_true, Bool.or_eq_true, Bool.not_eq_true'] at q
    obtain ⟨⟨q1, q2⟩, ⟨q3, q4⟩, q5⟩ := q
    exact ⟨List.contains_iff_mem.mp q1, q2.imp (fun e => beq_iff_eq.mp e) fun e => beq_iff_eq.mp e, beq_iff_eq.mp q3, by first | exact of_decide_eq_true q4 | exact of_decide_eq_false q4 | exact bne_iff_ne.mp q4 | exact eq_of_beq q4 | simpa using q4, q5⟩
  refine ⟨beq_iff_eq.mp h1, h2, fun x hx hk => ?_, fun x hx hk => ?_, fun y hy hf => ?_, fun y b d e => ?_⟩
  · have q := h3 x hx
    rw [hk] at q
    simpa using q
  · have q := h4 x hx
    rw [hk] at q
    simpa using q
  · obtain ⟨q1, q2, _⟩ := h5' y hy hf
    refine ⟨?_, q2⟩
    rcases List.mem_append.mp q1 with q1 | q1
    · exact .inr q1
    · obtain ⟨⟨b, d⟩, e⟩ := lookup_some_of_mem q1
      exact .inl ⟨b, d, e⟩
  · obtain ⟨a, e'⟩ := lookup_filter_key (fun x => scope.names.contains (x, NameKind.free)) e
    have hm : (y, NameKind.free) ∈ scope.names := by first | exact of_decide_eq_true a | exact of_decide_eq_false a | exact bne_iff_ne.mp a | exact eq_of_beq a | simpa using a
    obtain ⟨_, _, q3, q4, q5⟩ := h5' (y, .free) hm rfl
    exact ⟨hm, q3, q4, e', q5⟩
theorem compText_of {scope sc : Scope} {ρ : List (Str × Bool × D)} {target : Expr} (h : compOk scope sc (ρ.map (·.1)) target = true) : CompText scope sc ρ (capOf scope ρ) target := compText_raw (rn := []) h
section
variable {w : World} {n : Nat} {X : Addr → Prop} {env : Env} {sc : Scope} {ρ : List (Str × Bool × D)} {b : Bool}
theorem EvIt.cast {target iter : Expr} {q : Bool} {ds ds' : List D} (h : EvIt w n X env sc ρ target iter q ds) (e : ds = ds') : EvIt w n X env sc ρ target iter q ds' := e ▸ h
theorem zipD_map {α β : Type} (g1 : α → D) (g2 : β → D) : ∀ (as : List α) (bs : List β), zipD (as.map g1) (bs.map g2) = (as.zip bs).map fun p => .tup [g1 p.1, g2 p.2]
  | [], _ => by simp [zipD]
  | _ :: _, [] => by simp [zipD]
  | a :: as, b :: bs => by simp [zipD, zipD_map g1 g2 as bs]
theorem enumD_map {α : Type} (g : α → D) : ∀ (k : Nat) (as : List α), enumD k (as.map g) = (as.zipIdx k).map fun p => .tup [.int (p.2 : Nat), g p.1]
  | _, [] => by simp [enumD]
  | k, a :: as => by simp [enumD, enumD_map g (k + 1) as]
/-- [elt for target in iter if ..] -/
theorem ev_lc {elt target iter : Expr} {ifs : List Expr} {scope : Scope} {pos : Pos} {α : Type} {l : List α} {g : α → D} {p : α → Bool} {f : α → D}
    (tx : compOk scope sc (ρ.map (·.1)) target = true) (hit : EvIt w n X env sc ρ target iter false (l.map g))
    (hbody : ∀ d ∈ l, ∀ X' env', EvTs w n X' env' (relS scope sc) (bindD target (g d) ++ capOf scope ρ) ifs (p d) ∧ (p d = true → Ev w n X' env' (relS scope sc) (bindD target (g d) ++ capOf scope ρ) true elt (f d)))
    (hsz : l.length ≤ sizeLine) (hs : ∀ x, foldedSetIterable iter env x = pure x := by intro _; rfl) : Ev w n X env sc ρ b (.ListComp elt [⟨target, iter, ifs, 0⟩] scope pos) (.lst ((l.filter p).map f)) :=
  ev_comp (compText_of tx) hit hbody hsz hs
/-- [elt for target in iter] -/
theorem ev_lc0 {elt target iter : Expr} {scope : Scope} {pos : Pos} {α : Type} {l : List α} {g : α → D} {f : α → D}
    (tx : compOk scope sc (ρ.map (·.1)) target = true) (hit : EvIt w n X env sc ρ target iter false (l.map g))
    (hbody : ∀ d ∈ l, ∀ X' env', Ev w n X' env' (relS scope sc) (bindD target (g d) ++ capOf scope ρ) true elt (f d))
    (hsz : l.length ≤ sizeLine) (hs : ∀ x, foldedSetIterable iter env x = pure x := by intro _; rfl) : Ev w n X env sc ρ b (.ListComp elt [⟨target, iter, [], 0⟩] scope pos) (.lst (l.map f)) := by
  have := ev_comp (pos := pos) (ifs := []) (b := b) (p := fun _ => true) (f := f) (compText_of tx) hit (fun d hd X' env' => ⟨rfl, fun _ => hbody d hd X' env'⟩) hsz hs
  rwa [List.filter_eq_self.mpr (fun _ _ => rfl)] at this
end
/-! # rows and totals -/
structure Rw where
  a : Int
  b : Int
  c : Int
  s : Bool
noncomputable def rwD (r : Rw) : D := .lst [.int r.a, .int r.b, .int r.c, .bool r.s]
noncomputable def Rw.at (r : Rw) : Nat → Int
  | 0 => r.a
  | 1 => r.b
  | _ => r.c
noncomputable def dot (rs : List Rw) (m : List Int) (k : Nat) : Int := ((m.zip rs).map fun p => p.1 * p.2.at k).sum
noncomputable def anyS (rs : List Rw) (m : List Int) : Bool := !((m.zip rs).filter fun p => (p.1 != 0) && p.2.s).isEmpty
noncomputable def totF (rs : List Rw) (m : List Int) : Rw := ⟨dot rs m 0, dot rs m 1, dot rs m 2, anyS rs m⟩
noncomputable def nameF (r : Rw) : Str := if r.a ≠ 0 then (if 0 < r.a then "x" else "X") else if r.b ≠ 0 then (if 0 < r.b then "y" else "Y") else "1"
section
variable {w : World} {n : Nat}
theorem spec_name {r : Rw} : Spec w (n + 1) 249 [rwD r] (.str (nameF r)) := by
  refine spec_of (names := ["total"]) rfl rfl rfl rfl rfl rfl rfl rfl rfl rfl rfl (fun v => by show _ = some _; kernel_rfl) (by decide) (by decide +kernel) rfl ?_
  intro X A env s s₀ H hA c F
  unfold rwD at F
  refine st_ret F hA rfl c (fun _ q => q) (ev_if (evt_val (ev_item (ev_name rfl) ev_int rfl) truthy_int') (fun h => ?_) fun h => ?_)
  · have h : r.a ≠ 0 := by first | exact of_decide_eq_true h | exact of_decide_eq_false h | exact bne_iff_ne.mp h | exact eq_of_beq h | simpa using h
    refine ev_if (evt_cmp (ev_item (ev_name rfl) ev_int rfl) ev_int op_gt) (fun h' => ev_str.cast ?_) fun h' => ev_str.cast ?_
    · have h' : 0 < r.a := by first | exact of_decide_eq_true h' | exact of_decide_eq_false h' | exact bne_iff_ne.mp h' | exact eq_of_beq h' | simpa using h'
      unfold nameF; rw [if_pos h, if_pos h']
    · have h' : ¬ 0 < r.a := by first | exact of_decide_eq_true h' | exact of_decide_eq_false h' | exact bne_iff_ne.mp h' | exact eq_of_beq h' | simpa using h'
      unfold nameF; rw [if_pos h, if_neg h']
  · have h : ¬ r.a ≠ 0 := by first | exact of_decide_eq_true h | exact of_decide_eq_false h | exact bne_iff_ne.mp h | exact eq_of_beq h | simpa using h
    refine ev_if (evt_val (ev_item (ev_name rfl) ev_int rfl) truthy_int') (fun h1 => ?_) fun h1 => ?_
    · have h1 : r.b ≠ 0 := by first | exact of_decide_eq_true h1 | exact of_decide_eq_false h1 | exact bne_iff_ne.mp h1 | exact eq_of_beq h1 | simpa using h1
      refine ev_if (evt_cmp (ev_item (ev_name rfl) ev_int rfl) ev_int op_gt) (fun h' => ev_str.cast ?_) fun h' => ev_str.cast ?_
      · have h' : 0 < r.b := by first | exact of_decide_eq_true h' | exact of_decide_eq_false h' | exact bne_iff_ne.mp h' | exact eq_of_beq h' | simpa using h'
        unfold nameF; rw [if_neg h, if_pos h1, if_pos h']
      · have h' : ¬ 0 < r.b := by first | exact of_decide_eq_true h' | exact of_decide_eq_false h' | exact bne_iff_ne.mp h' | exact eq_of_beq h' | simpa using h'
        unfold nameF; rw [if_neg h, if_pos h1, if_neg h']
    · have h1 : ¬ r.b ≠ 0 := by first | exact of_decide_eq_true h1 | exact of_decide_eq_false h1 | exact bne_iff_ne.mp h1 | exact eq_of_beq h1 | simpa using h1
      refine ev_str.cast ?_
      unfold nameF; rw [if_neg h, if_neg h1]
theorem sl {k : Nat} (h : k ≤ 100000) : k ≤ sizeLine := by rw [sizeLine_eq]; omega
theorem bits_small {a : Int} (h : a.natAbs < 2 ^ 60) : Builtin.Int.intBits a ≤ 64 := by
  unfold Builtin.Int.intBits
  split
  · omega
  · rename_i h0
    have h0 : a ≠ 0 := by first | exact of_decide_eq_true h0 | exact of_decide_eq_false h0 | exact bne_iff_ne.mp h0 | exact eq_of_beq h0 | simpa using h0
    have : a.natAbs.log2 < 60 := (Nat.log2_lt (by first | exact Nat.le_trans (by assumption) (by decide) | omega)).mpr h
    omega
theorem muls {x y : Int} (h : x.natAbs < 2 ^ 60) : IntMulOk x y := .of_left (bits_small h)
theorem mulr {x y : Int} (h : y.natAbs < 2 ^ 60) : IntMulOk x y := .of_right (bits_small h)
theorem spec_total {rs : List Rw} {m : List Int} (hm : ∀ x ∈ m, x.natAbs < 2 ^ 60) (hrs : rs.length ≤ 1000) (hml : m.length ≤ 1000) : Spec w (n + 2) 242 [.lst (rs.map rwD), .lst (m.map .int)] (rwD (totF rs m)) := by
  refine spec_of (names := ["rows", "recipe"]) rfl rfl rfl rfl rfl rfl rfl rfl rfl rfl rfl (fun v u => by show _ = some _; kernel_rfl) (by decide) (by decide +kernel) rfl ?_
  intro X A env s s₀ H hA c F
  have hsz : (m.zip rs).length ≤ sizeLine := by rw [List.length_zip, sizeLine_eq]; omega
  have zipit : ∀ {X' env' sc' ρ'} {elts kk tp pn pos px py} {h1 : ρ'.lookup (Str.ofString "recipe") = some (true, D.lst (m.map .int))} {h2 : ρ'.lookup (Str.ofString "rows") = some (true, D.lst (rs.map rwD))} {h3 : sc'.names.lookup (Str.ofString "zip") = some .globalImplicit},
      EvIt w (n + 1) X' env' sc' ρ' (.Tuple elts kk tp) (.Call (.Name (Str.ofString "zip") pn) [.Name (Str.ofString "recipe") px, .Name (Str.ofString "rows") py] [] pos) false ((m.zip rs).map fun p => D.tup [.int p.1, rwD p.2]) := by
    intros
    rename_i h1 h2 h3
    exact (evit_zip (evs_old (evo_name h1)) (evs_old (evo_name h2)) h3 g_zip).cast (zipD_map _ _ _ _)
  refine st_seq (st_assign_comp (l := List.range 3) (g := fun i => .int (i : Nat)) (p := fun _ => true) (f := fun i => .int (dot rs m i)) F hA rfl rfl (compText_of (by kernel_rfl)) (evit_range (m := 3) ev_int rfl g_range (by decide)) (fun i hi X' env' => ⟨rfl, fun _ => ?_⟩) (by decide) rfl rfl (fun s' c' F' => ?_))
  · have hi := List.mem_range.mp hi
    refine ev_call rfl g_sum (.inr (.inl ⟨_, rfl⟩)) (.cons ((ev_lc0 (l := m.zip rs) (g := fun p => D.tup [.int p.1, rwD p.2]) (f := fun p => .int (p.1 * p.2.at i)) (by kernel_rfl) (zipit (h1 := rfl) (h2 := rfl) (h3 := rfl)) (fun p hp X'' env'' => ?_) hsz).cast ?_) rfl .nil) op_sum
    · refine ev_bin (ev_name rfl) (ev_item (ev_name rfl) (ev_name rfl) (k := (i : Nat)) (d := .int (p.2.at i)) ?_ (by first | exact Nat.le_trans (by assumption) (by decide) | omega) (by first | exact Nat.le_trans (by assumption) (by decide) | omega)) (op_mul (muls (hm p.1 (List.of_mem_zip hp).1)))
      match i, hi with
      | 0, _ => rfl
      | 1, _ => rfl
      | 2, _ => rfl
    · exact congrArg D.lst (List.map_map (f := fun p : Int × Rw => p.1 * p.2.at i) (g := D.int) (l := m.zip rs)).symm
  · refine st_ret F' hA rfl (c.trans c') (fun _ q => q) ((ev_bin (d1 := .lst [.int (dot rs m 0), .int (dot rs m 1), .int (dot rs m 2)]) (d2 := .lst [.bool (anyS rs m)]) (ev_name rfl) (ev_list (.cons ((ev_cmp (ev_lc (l := m.zip rs) (g := fun p => D.tup [.int p.1, rwD p.2]) (p := fun p => (p.1 != 0) && p.2.s) (f := fun p => rwD p.2) (by kernel_rfl) (zipit (h1 := rfl) (h2 := rfl) (h3 := rfl)) (fun p hp X'' env'' => ⟨?_, fun _ => ?_⟩) hsz) (ev_list .nil (by decide)) (op_ne_nil ?_)).cast ?_) rfl .nil) (sl (Nat.le_of_ble_eq_true rfl))) (op_addl (sl (Nat.le_of_ble_eq_true rfl)))).cast ?_)
    · exact evt_and (evt_val (ev_name rfl) truthy_int') fun _ => evt_val (ev_item (ev_name rfl) ev_int rfl) truthy_bool'
    · exact ev_name rfl
    · show (List.map _ _).all (okD 7) = true
      rw [List.all_eq_true]
      intro d hd
      obtain ⟨p, _, rfl⟩ := List.mem_map.mp hd
      rfl
    · unfold anyS
      rw [List.isEmpty_map]
    · rfl
end
end Mine

open PySem PySem.W PyProof.Rows PySem.AutoIntOps
set_option Elab.async false
set_option linter.unusedVariables false
set_option linter.unusedSimpArgs false
set_option maxRecDepth 100000
namespace Mine
/-! # a loop by what its names hold between the turns -/
noncomputable def LooksAll (ρ : Vs) : Vs → Prop
  | [] => True
  | p :: r => ρ.lookup p.1 = some p.2 ∧ LooksAll ρ r
theorem LooksAll.at {ρ : Vs} : ∀ {κ : Vs}, LooksAll ρ κ → ∀ x b, κ.lookup x = some b → ρ.lookup x = some b
  | [], _, _, _, e => nomatch e
  | (y, c) :: r, h, x, b, e => by
    rw [List.lookup_cons] at e
    cases hb : x == y with
    | true =>
      rw [hb] at e; cases e
      have := beq_iff_eq.mp hb; subst this
      exact h.1
    | false => rw [hb] at e; exact h.2.at x b e
noncomputable def lks (ρ : Vs) : Vs → List (Option Bd)
  | [] => []
  | p :: r => ρ.lookup p.1 :: lks ρ r
noncomputable def bds : Vs → List (Option Bd)
  | [] => []
  | p :: r => some p.2 :: bds r
/-- all at one look -/
theorem looks {ρ κ : Vs} (h : lks ρ κ = bds κ) : LooksAll ρ κ := by
  induction κ with
  | nil => trivial
  | cons p r ih => exact ⟨(List.cons.inj h).1, ih (List.cons.inj h).2⟩
theorem cons_less {ρ κ : Vs} (h : ∀ x b, κ.lookup x = some b → ρ.lookup x = some b) (y : Str) (c : Bd) : ∀ x b, ((y, c) :: κ).lookup x = some b → ((y, c) :: ρ).lookup x = some b := fun x b e => by
  rw [List.lookup_cons] at e ⊢
  cases hb : x == y with
  | true => rw [hb] at e; exact e
  | false => rw [hb] at e; exact h x b e
theorem bindV_less {sc : Scope} {target : Expr} {d : D} {ρ κ : Vs} (ht : tgtOk sc target = true) (h : ∀ x b, κ.lookup x = some b → ρ.lookup x = some b) : ∀ x b, (bindV target d κ).lookup x = some b → (bindV target d ρ).lookup x = some b := by
  rcases tgt_cases ht with ⟨x, pos, rfl⟩ | ⟨x, px, y, py, k, pos, rfl⟩
  · exact cons_less h _ _
  · match d with
    | .tup [d1, d2] => exact cons_less (cons_less h _ _) _ _
    | .none => exact h
    | .bool _ => exact h
    | .int _ => exact h
    | .str _ => exact h
    | .lst _ => exact h
    | .tup [] => exact h
    | .tup [_] => exact h
    | .tup (_ :: _ :: _ :: _) => exact h
section
variable {w : World} {n : Nat} {G : Gd} {X Z Z' : Addr → Prop} {env : Env} {sc : Scope} {ρ ρ' : Vs} {H : Heap} {Y : Addr → Prop} {A : Around} {E : Value → Shared → Prop} {s s₀ : Shared} {Q : Flow → Shared → Prop} {h h' : Heap}
theorem Fs.lessL {h : Heap} {κ : Vs} (F : Fs w G X Z env sc ρ H Y h) (k : LooksAll ρ κ) : Fs w G X Z env sc κ H Y h := F.less k.at
/-- the state behind a turn -/
noncomputable def Turned (w : World) (G : Gd) (X : Addr → Prop) (env : Env) (sc : Scope) (H : Heap) (Y : Addr → Prop) (s₀ : Shared) (K : Vs → Prop) (s : Shared) : Prop :=
  ∃ ρ₂ Z₂ κ, K κ ∧ LooksAll ρ₂ κ ∧ Chg s₀ s ∧ Fs w G X Z₂ env sc ρ₂ H Y s.heap
theorem st_forKG {target iter : Expr} {body orelse : List Stmt} {pos : Pos} {ds : List D} (K : Nat → Vs → Prop) (J : Vs → Prop) {κ₀ : Vs} (F : Fs w G X Z env sc ρ H Y s.heap) (hA : Rm n A) (hc : clean ρ = true) (ht : tgtOk sc target = true)
    (hit : EvIt w n (XZ X Z) env sc (seen ρ) target iter true ds) (h0 : K 0 κ₀) (hl : LooksAll ρ κ₀)
    (turn : ∀ i d κ Z₁ G₁ (s₁ : Shared) (Q' : Flow → Shared → Prop), (∀ f s₂, TQ (Turned w G₁ X env sc H Y s (K (i + 1))) (Turned w G₁ X env sc H Y s J) Q f s₂ → Q' f s₂) → (∀ b o, G.P b o → G₁.P b o) → ds[i]? = some d → K i κ → Chg s s₁ → Fs w G₁ X Z₁ env sc (bindV target d κ) H Y s₁.heap →
      wpAny (Md w) A (execs body env) Q' NoE s₁)
    (done : ∀ κ Z₁ (s₁ : Shared), K ds.length κ → Chg s s₁ → Fs w G X Z₁ env sc κ H Y s₁.heap → wpAny (Md w) A (execs orelse env) Q NoE s₁)
    (brk : ∀ κ Z₁ (s₁ : Shared), J κ → Chg s s₁ → Fs w G X Z₁ env sc κ H Y s₁.heap → Q .next s₁)
    (hs : ∀ x, foldedSetIterable iter env x = pure x := by intro _; rfl) : wpAny (Md w) A (exec (.For target iter body orelse pos) env) Q E s := by
  refine st_forG (fun i ρ => ∃ κ, K i κ ∧ LooksAll ρ κ) (fun ρ => ∃ κ, J κ ∧ LooksAll ρ κ) F hA hc ht hit ⟨κ₀, h0, hl⟩ (fun i d ρ₁ Z₁ G₁ s₁ hG hd hK c F₁ => ?_) (fun ρ₁ Z₁ s₁ hK c F₁ => ?_) (fun ρ₁ Z₁ s₁ hJ c F₁ => ?_) hs
  · obtain ⟨κ, hK, hl⟩ := hK
    refine wpAny_mono (turn i d κ Z₁ G₁ s₁ _ (fun _ _ q => q) hG hd hK c (F₁.less (bindV_less ht hl.at))) (fun f s₂ q => ?_) fun _ _ x => x
    cases f with
    | next => obtain ⟨ρ₂, Z₂, κ₂, q1, q2, q3, q4⟩ := q; exact ⟨ρ₂, Z₂, ⟨κ₂, q1, q2⟩, q3, q4⟩
    | cont => obtain ⟨ρ₂, Z₂, κ₂, q1, q2, q3, q4⟩ := q; exact ⟨ρ₂, Z₂, ⟨κ₂, q1, q2⟩, q3, q4⟩
    | brk => obtain ⟨ρ₂, Z₂, κ₂, q1, q2, q3, q4⟩ := q; exact ⟨ρ₂, Z₂, ⟨κ₂, q1, q2⟩, q3, q4⟩
    | ret v => exact q
  · obtain ⟨κ, hK, hl⟩ := hK
    exact done κ Z₁ s₁ hK c (F₁.lessL hl)
  · obtain ⟨κ, hJ, hl⟩ := hJ
    exact brk κ Z₁ s₁ hJ c (F₁.lessL hl)
theorem st_forK {target iter : Expr} {body orelse : List Stmt} {pos : Pos} {ds : List D} (K : Nat → Vs → Prop) (J : Vs → Prop) {κ₀ : Vs} (F : Fs w G X Z env sc ρ H Y s.heap) (hA : Rm n A) (hc : clean ρ = true) (ht : tgtOk sc target = true)
    (hit : EvIt w n (XZ X Z) env sc (seen ρ) target iter true ds) (h0 : K 0 κ₀) (hl : LooksAll ρ κ₀)
    (turn : ∀ i d κ Z₁ G₁ (s₁ : Shared) (Q' : Flow → Shared → Prop), (∀ f s₂, TQ (Turned w G₁ X env sc H Y s (K (i + 1))) (Turned w G₁ X env sc H Y s J) Q f s₂ → Q' f s₂) → ds[i]? = some d → K i κ → Chg s s₁ → Fs w G₁ X Z₁ env sc (bindV target d κ) H Y s₁.heap →
      wpAny (Md w) A (execs body env) Q' NoE s₁)
    (done : ∀ κ Z₁ (s₁ : Shared), K ds.length κ → Chg s s₁ → Fs w G X Z₁ env sc κ H Y s₁.heap → wpAny (Md w) A (execs orelse env) Q NoE s₁)
    (brk : ∀ κ Z₁ (s₁ : Shared), J κ → Chg s s₁ → Fs w G X Z₁ env sc κ H Y s₁.heap → Q .next s₁)
    (hs : ∀ x, foldedSetIterable iter env x = pure x := by intro _; rfl) : wpAny (Md w) A (exec (.For target iter body orelse pos) env) Q E s :=
  st_forKG K J F hA hc ht hit h0 hl (fun i d κ Z₁ G₁ s₁ Q' hQ _ => turn i d κ Z₁ G₁ s₁ Q' hQ) done brk hs
end
/-! # a place between bounds -/
noncomputable def wholeF (ps : List (Int × Int)) : Int := ps.foldl (fun x p => x * (if p.1 < 0 then -p.1 else p.1)) 1
noncomputable def cutF (ps : List (Int × Int)) (p : Int × Int) : Int := (-p.2 * wholeF ps).fdiv p.1
noncomputable def lowsF (ps : List (Int × Int)) : List Int := (ps.filter fun p => decide (p.1 < 0)).map (cutF ps)
noncomputable def highsF (ps : List (Int × Int)) : List Int := (ps.filter fun p => decide (0 < p.1)).map (cutF ps)
noncomputable def placeF (ps : List (Int × Int)) : Int :=
  if lowsF ps ≠ [] ∧ highsF ps ≠ [] then maxL (lowsF ps) + minL (highsF ps) else if lowsF ps ≠ [] then 2 * maxL (lowsF ps) + 2 else if highsF ps ≠ [] then 2 * minL (highsF ps) - 2 else 0
noncomputable def prD (p : Int × Int) : D := .tup [.int p.1, .int p.2]
section
variable {w : World} {n : Nat}
theorem take_succ_of {α : Type} {l : List α} {i : Nat} {a : α} (h : l[i]? = some a) : l.take (i + 1) = l.take i ++ [a] := by simp [List.take_add_one, h]
theorem map_at {α β : Type} {l : List α} {f : α → β} {i : Nat} {b : β} (h : (l.map f)[i]? = some b) : ∃ a, l[i]? = some a ∧ b = f a := by
  rw [List.getElem?_map] at h
  cases ha : l[i]? with
  | none => rw [ha] at h; cases h
  | some a => rw [ha] at h; exact ⟨a, rfl, by simpa using h.symm⟩
theorem spec_chosen {ps : List (Int × Int)} (hp : ∀ p ∈ ps, p.1.natAbs < 2 ^ 30 ∧ p.2.natAbs < 2 ^ 60) (hl : ps.length ≤ 1000) : Spec w (n + 2) 269 [.lst (ps.map prD)] (.tup [.int (placeF ps), .int (2 * wholeF ps)]) := by
  refine spec_of (names := ["pairs"]) rfl rfl rfl rfl rfl rfl rfl rfl rfl rfl rfl (fun v => by show _ = some _; kernel_rfl) (by decide) (by decide +kernel) rfl ?_
  intro X A env s s₀ H hA c F
  have hsz : ps.length ≤ sizeLine := sl (by first | exact Nat.le_trans (by assumption) (by decide) | omega)
  refine st_seq (st_assign F hA rfl rfl ev_int fun s' c' F => ?_)
  replace c := c.trans c'
  refine st_seq (st_forK (fun i κ => κ = ([("whole", .own (.int (wholeF (ps.take i)))), ("pairs", .own (.lst (ps.map prD)))] : Vs)) (fun _ => False) F hA rfl rfl (evit_old (evo_name rfl) ?_) rfl (looks (by rfl)) ?_ ?_ (fun _ _ _ q => q.elim))
  · intro d hd
    obtain ⟨p, _, rfl⟩ := List.mem_map.mp hd
    exact ⟨_, _, rfl⟩
  · rintro i d κ Z₁ G₁ s₁ Qt hQ hd rfl c₁ F₁
    obtain ⟨p, hpi, rfl⟩ := map_at hd
    have hpm := hp p (List.mem_of_getElem? hpi)
    refine st_seq (st_assign F₁ hA rfl rfl (ev_bin (ev_name rfl) (ev_call rfl g_abs (.inr (.inl ⟨_, rfl⟩)) (.cons (ev_name rfl) rfl .nil) op_abs) (op_mul (mulr ?_))) fun s₂ c₂ F₂ => ?_)
    · have := hpm.1; split <;> omega
    · refine st_nil (hQ .next _ ⟨_, _, _, rfl, ⟨?_, rfl, trivial⟩, c₁.trans c₂, F₂⟩)
      rw [take_succ_of hpi]
      unfold wholeF
      rw [List.foldl_append]
      rfl
  · rintro κ Z₁ s₁ rfl c₁ F₁
    rw [List.length_map, List.take_length] at F₁
    replace c := c.trans c₁
    refine st_nil ?_
    have hcut : ∀ p ∈ ps, IntMulOk (-p.2) (wholeF ps) ∧ p.1.natAbs < 1073741824 := fun p h => ⟨muls (by have := (hp p h).2; omega), by have := (hp p h).1; omega⟩
    refine st_seq (st_assign_comp (l := ps) (g := prD) (p := fun p => decide (p.1 < 0)) (f := fun p => .int (cutF ps p)) F₁ hA rfl rfl (compText_of (by kernel_rfl)) (evit_old (evo_name rfl) fun d hd => ?_) (fun p hpm X' env' => ⟨?_, fun hlt => ?_⟩) hsz rfl rfl fun s₂ c₂ F₂ => ?_)
    · obtain ⟨p, _, rfl⟩ := List.mem_map.mp hd
      exact ⟨_, _, rfl⟩
    · exact evt_cmp (ev_name rfl) ev_int op_lt
    · have hlt : p.1 < 0 := by first | exact of_decide_eq_true hlt | exact of_decide_eq_false hlt | exact bne_iff_ne.mp hlt | exact eq_of_beq hlt | simpa using hlt
      exact ev_bin (ev_bin (ev_neg (ev_name rfl)) (ev_name rfl) (op_mul (hcut p hpm).1)) (ev_name rfl) (op_fdiv (by first | exact Nat.le_trans (by assumption) (by decide) | omega) (hcut p hpm).2)
    replace c := c.trans c₂
    refine st_seq (st_assign_comp (l := ps) (g := prD) (p := fun p => decide (0 < p.1)) (f := fun p => .int (cutF ps p)) F₂ hA rfl rfl (compText_of (by kernel_rfl)) (evit_old (evo_name rfl) fun d hd => ?_) (fun p hpm X' env' => ⟨?_, fun hlt => ?_⟩) hsz rfl rfl fun s₃ c₃ F₃ => ?_)
    · obtain ⟨p, _, rfl⟩ := List.mem_map.mp hd
      exact ⟨_, _, rfl⟩
    · exact evt_cmp (ev_name rfl) ev_int op_gt
    · have hlt : 0 < p.1 := by first | exact of_decide_eq_true hlt | exact of_decide_eq_false hlt | exact bne_iff_ne.mp hlt | exact eq_of_beq hlt | simpa using hlt
      exact ev_bin (ev_bin (ev_neg (ev_name rfl)) (ev_name rfl) (op_mul (hcut p hpm).1)) (ev_name rfl) (op_fdiv (by first | exact Nat.le_trans (by assumption) (by decide) | omega) (hcut p hpm).2)
    replace c := c.trans c₃
    have el : (ps.filter fun p => decide (p.1 < 0)).map (fun p => D.int (cutF ps p)) = (lowsF ps).map .int := (List.map_map (f := cutF ps) (g := D.int)).symm
    have eh : (ps.filter fun p => decide (0 < p.1)).map (fun p => D.int (cutF ps p)) = (highsF ps).map .int := (List.map_map (f := cutF ps) (g := D.int)).symm
    rw [el, eh] at F₃
    have zl : ((lowsF ps).map D.int).length ≤ sizeLine := by rw [List.length_map]; unfold lowsF; rw [List.length_map]; exact Nat.le_trans (List.length_filter_le _ _) hsz
    have zh : ((highsF ps).map D.int).length ≤ sizeLine := by rw [List.length_map]; unfold highsF; rw [List.length_map]; exact Nat.le_trans (List.length_filter_le _ _) hsz
    have ne : ∀ (l : List Int), (!(l.map D.int).isEmpty) = true → l ≠ [] := fun l h => by cases l <;> simp at h ⊢
    have ne' : ∀ (l : List Int), (!(l.map D.int).isEmpty) = false → ¬ l ≠ [] := fun l h => by cases l <;> simp at h ⊢
    have hmax : ∀ {X' env' sc' ρ'} {p1 p2 pos} {x : Str} (l : List Int) (h1 : ρ'.lookup x = some (true, D.lst (l.map .int))) (h3 : sc'.names.lookup (Str.ofString "max") = some .globalImplicit) (hne : l ≠ []) (hd : (x == ("__debug__" : Str)) = false), Ev w (n + 1) X' env' sc' ρ' false (.Call (.Name (Str.ofString "max") p1) [.Name x p2] [] pos) (.int (maxL l)) :=
      fun l h1 h3 hne hd => ev_call h3 g_max (.inr (.inl ⟨_, rfl⟩)) (.cons (ev_name h1 rfl hd) rfl .nil) (op_max hne)
    have hmin : ∀ {X' env' sc' ρ'} {p1 p2 pos} {x : Str} (l : List Int) (h1 : ρ'.lookup x = some (true, D.lst (l.map .int))) (h3 : sc'.names.lookup (Str.ofString "min") = some .globalImplicit) (hne : l ≠ []) (hd : (x == ("__debug__" : Str)) = false), Ev w (n + 1) X' env' sc' ρ' false (.Call (.Name (Str.ofString "min") p1) [.Name x p2] [] pos) (.int (minL l)) :=
      fun l h1 h3 hne hd => ev_call h3 g_min (.inr (.inl ⟨_, rfl⟩)) (.cons (ev_name h1 rfl hd) rfl .nil) (op_min hne)
    refine st_seq (st_if F₃ hA rfl (evt_and (evt_val (ev_name rfl) (truthy_lst' zl)) fun _ => evt_val (ev_name rfl) (truthy_lst' zh)) fun s₄ c₄ F₄ => ?_)
    replace c := c.trans c₄
    cases hb : ((!((lowsF ps).map D.int).isEmpty) && (!((highsF ps).map D.int).isEmpty)) with
    | true =>
      rw [if_pos rfl]
      rw [Bool.and_eq_true] at hb
      have h1 := ne _ hb.1
      have h2 := ne _ hb.2
      refine st_retQ F₄ hA rfl c (fun _ q => q) ?_ fun v s' q => q
      refine Ev.cast (ev_tuple (.cons (ev_bin (hmax _ rfl rfl h1 (by decide)) (hmin _ rfl rfl h2 (by decide)) op_add) rfl (.cons (ev_bin ev_int (ev_name rfl) (op_mul (muls (by decide)))) rfl .nil)) (sl (Nat.le_of_ble_eq_true rfl))) ?_
      unfold placeF; rw [if_pos ⟨h1, h2⟩]
    | false =>
      refine st_nil ?_
      have hn : ¬ (lowsF ps ≠ [] ∧ highsF ps ≠ []) := fun q => by
        have e1 : (!((lowsF ps).map D.int).isEmpty) = true := by cases h : lowsF ps <;> simp [h] at q ⊢
        have e2 : (!((highsF ps).map D.int).isEmpty) = true := by cases h : highsF ps <;> simp [h] at q ⊢
        rw [e1, e2] at hb; cases hb
      refine st_ret F₄ hA rfl c (fun _ q => q) (ev_tuple (.cons (ev_if (evt_val (ev_name rfl) (truthy_lst' zl)) (fun h1 => ?_) fun h1 => ?_) rfl (.cons (ev_bin ev_int (ev_name rfl) (op_mul (muls (by decide)))) rfl .nil)) (sl (Nat.le_of_ble_eq_true rfl)))
      · have h1 := ne _ h1
        refine Ev.cast (ev_bin (ev_bin ev_int (hmax _ rfl rfl h1 (by decide)) (op_mul (muls (by decide)))) ev_int op_add) ?_
        unfold placeF; rw [if_neg hn, if_pos h1]
      · have h1 := ne' _ h1
        refine ev_if (evt_val (ev_name rfl) (truthy_lst' zh)) (fun h2 => ?_) fun h2 => ?_
        · have h2 := ne _ h2
          refine Ev.cast (ev_bin (ev_bin ev_int (hmin _ rfl rfl h2 (by decide)) (op_mul (muls (by decide)))) ev_int op_sub) ?_
          unfold placeF; rw [if_neg hn, if_neg h1, if_pos h2]
        · have h2 := ne' _ h2
          refine ev_int.cast ?_
          unfold placeF; rw [if_neg hn, if_neg h1, if_neg h2]
end
end Mine

open PySem PySem.W PyProof.Rows PySem.AutoIntOps
set_option Elab.async false
set_option linter.unusedVariables false
set_option linter.unusedSimpArgs false
set_option maxRecDepth 100000
namespace Mine
/-! # the drawn rows -/
section
variable {w : World} {n : Nat} {X : Addr → Prop} {b : Bool} {x y : Int}
theorem op_modp (h : 0 < y) : Op2 w n X b (binaryOp .Mod) (.int x) (.int y) (.int (x % y)) := by
  have := op_mod (w := w) (n := n) (X := X) (b := b) (x := x) (y := y) (by first | exact Nat.le_trans (by assumption) (by decide) | omega)
  rwa [Int.fmod_eq_emod_of_nonneg _ (by first | exact Nat.le_trans (by assumption) (by decide) | omega)] at this
theorem op_divp (h : 0 < y) (hs : y < 1073741824) : Op2 w n X b (binaryOp .FloorDiv) (.int x) (.int y) (.int (x / y)) := by
  have := op_fdiv (w := w) (n := n) (X := X) (b := b) (x := x) (y := y) (by first | exact Nat.le_trans (by assumption) (by decide) | omega) (by first | exact Nat.le_trans (by assumption) (by decide) | omega)
  rwa [Int.fdiv_eq_ediv_of_nonneg _ (by first | exact Nat.le_trans (by assumption) (by decide) | omega)] at this
theorem op_shrp {k : Nat} : Op2 w n X b (binaryOp .RShift) (.int x) (.int k) (.int (x / 2 ^ k)) := by
  have := op_shr (w := w) (n := n) (X := X) (b := b) (x := x) (y := (k : Int)) (by first | exact Nat.le_trans (by assumption) (by decide) | omega)
  rwa [Int.fdiv_eq_ediv_of_nonneg _ (by rw [Int.toNat_natCast]; exact Int.le_of_lt (Int.pow_pos (by first | exact Nat.le_trans (by assumption) (by decide) | omega))), Int.toNat_natCast] at this
theorem op_and1 : Op2 w n X b (binaryOp .BitAnd) (.int x) (.int 1) (.int (x % 2)) := by
  have := op_and (w := w) (n := n) (X := X) (b := b) (x := x) (y := 1)
  rwa [bitAnd_m1] at this
end
noncomputable def coef (N : Int) : Nat → Int
  | 0 => N % 9 - 4
  | 1 => N / 9 % 9 - 4
  | _ => N / 81 % 21 - 10
noncomputable def opt (N : Int) : Int := if N / 1701 % 4 = 0 then 20 else if N / 1701 % 4 = 1 then 29 else if N / 1701 % 4 = 2 then 21 else 30
noncomputable def ops (N : Int) : Str := if N / 1701 % 4 = 0 then "<" else if N / 1701 % 4 = 1 then "<=" else if N / 1701 % 4 = 2 then ">" else ">="
noncomputable def bt (N : Int) (k : Nat) : Int := N / 6804 / 2 ^ k % 2
noncomputable def letc (N : Int) : Nat → Str
  | 0 => Str.ofString "*" ++ ⟨#[if bt N 3 = 0 then 120 else 88]⟩
  | 1 => Str.ofString "*" ++ ⟨#[if bt N 4 = 0 then 121 else 89]⟩
  | _ => ""
noncomputable def worth (N : Int) (k : Nat) : Int := if bt N k = 0 then coef N k else -coef N k
noncomputable def itemS (N : Int) (k : Nat) : Str := (if worth N k < 0 then Str.ofString "-" else Str.ofString "+") ++ Str.ofString (toString (if worth N k < 0 then -worth N k else worth N k)) ++ letc N k
noncomputable def side (N : Int) (j : Int) : Nat → Str
  | 0 => Str.ofString ""
  | i + 1 => if bt N i = j then side N j i ++ itemS N i else side N j i
noncomputable def orz (x : Str) : Str := if x.length != 0 then x else Str.ofString "0"
noncomputable def textS (N : Int) : Str := orz (side N 0 3) ++ ops N ++ orz (side N 1 3)
noncomputable def drow (N : Int) : D := .lst [.int (coef N 0), .int (coef N 1), .int (coef N 2), .int (opt N)]
noncomputable def bases : List Int := [43163, 62523, 162399, 6287]
noncomputable def numF (ns : List Int) (p : Nat) (base : Int) : Int := (base + (cut ns (some (p : Int)) (some 60) (some 4)).sum) % 1000000
noncomputable def nums (ns : List Int) : List Int := (bases.zipIdx).map fun q => numF ns q.2 q.1
theorem bt_cases (N : Int) (k : Nat) : bt N k = 0 ∨ bt N k = 1 := by unfold bt; omega
theorem coef_small (N : Int) (k : Nat) : -10 ≤ coef N k ∧ coef N k ≤ 10 := by
  match k with
  | 0 => simp only [coef]; omega
  | 1 => simp only [coef]; omega
  | k + 2 => simp only [coef]; omega
theorem worth_small (N : Int) (k : Nat) : -10 ≤ worth N k ∧ worth N k ≤ 10 := by
  have := coef_small N k
  unfold worth; split <;> omega
theorem letc_len (N : Int) (k : Nat) : (letc N k).length ≤ 2 := by
  match k with
  | 0 => simp only [letc]; rw [Str.length_append]; exact Nat.le_refl _
  | 1 => simp only [letc]; rw [Str.length_append]; exact Nat.le_refl _
  | k + 2 => exact Nat.zero_le _
theorem absw (N : Int) (k : Nat) : (if worth N k < 0 then -worth N k else worth N k).natAbs ≤ 10 := by
  have := worth_small N k
  split <;> omega
theorem digits_len (N : Int) (k : Nat) : (Str.ofString (toString (if worth N k < 0 then -worth N k else worth N k))).length ≤ 12 := by
  have h1 := len_str_of_int (if worth N k < 0 then -worth N k else worth N k)
  have h2 := absw N k
  omega
theorem sign_len (N : Int) (k : Nat) : (if worth N k < 0 then Str.ofString "-" else Str.ofString "+").length = 1 := by split <;> rfl
theorem item_len (N : Int) (k : Nat) : (itemS N k).length ≤ 15 := by
  unfold itemS
  rw [Str.length_append, Str.length_append, sign_len]
  have := digits_len N k
  have := letc_len N k
  omega
theorem side_len (N j : Int) : ∀ i : Nat, (side N j i).length ≤ 15 * i
  | 0 => Nat.le_refl _
  | i + 1 => by
    have h1 := side_len N j i
    have h2 := item_len N i
    unfold side
    split
    · rw [Str.length_append]; omega
    · omega
theorem cut_map {α β : Type} (f : α → β) (l : List α) (lo hi st : Option Int) : cut (l.map f) lo hi st = (cut l lo hi st).map f := by
  unfold cut
  rw [List.length_map]
  have key : ∀ idx : List Nat, idx.filterMap ((l.map f)[·]?) = (idx.filterMap (l[·]?)).map f := fun idx => by
    rw [List.map_filterMap]
    congr 1
    funext i
    rw [List.getElem?_map]
  exact key _
noncomputable def rowsD (ns : List Int) : D := .lst ((nums ns).map drow)
noncomputable def textD (ns : List Int) : Str := Txt.join (Str.ofString ";") ((nums ns).map textS)
section
variable {w : World} {n : Nat}
theorem spec_drawn {ns : List Int} (hns : ns.length ≤ 1000) : Spec w (n + 2) 232 [.lst (ns.map .int)] (.tup [rowsD ns, .str (textD ns)]) := by
  refine spec_of (names := ["script"]) rfl rfl rfl rfl rfl rfl rfl rfl rfl rfl rfl (fun v => by show _ = some _; kernel_rfl) (by decide) (by decide +kernel) rfl ?_
  intro X A env s s₀ H hA c F
  refine st_seq (st_assign_tuple F hA rfl (.new (fun X => evn_list .nil (sl (Nat.le_of_ble_eq_true rfl))) rfl (.new (fun X => evn_list .nil (sl (Nat.le_of_ble_eq_true rfl))) rfl .nil)) (by rfl) rfl rfl (sl (Nat.le_of_ble_eq_true rfl)) (by rfl) rfl (by rfl) (fun a b hnew s₁ c₁ F₁ => ?_))
  replace c := c.trans c₁
  have hsw : Fs w Gd.no X (fun c => NoA c ∨ c ∈ [a, b]) env (fS (stm 68)) ([("rows", .grow a []), ("texts", .grow b []), ("script", .own (.lst (ns.map .int)))] : Vs) H NoA s₁.heap := F₁.lessL (looks (by rfl))
  have hXa := (hnew a (by simp [growsOf])).1
  have hXb := (hnew b (by simp [growsOf])).1
  refine st_seq (st_forK (fun i κ => κ = ([("rows", .grow a (((nums ns).take i).map drow)), ("texts", .grow b (((nums ns).take i).map fun N => .str (textS N))), ("script", .own (.lst (ns.map .int)))] : Vs)) (fun _ => False) hsw hA rfl rfl ((evit_enum (evs_flat (ds := bases.map .int) (ev_list (.cons ev_int rfl (.cons ev_int rfl (.cons ev_int rfl (.cons ev_int rfl .nil)))) (by decide)) (flts_ints _)) rfl g_enumerate).cast (enumD_map _ _ _)) rfl (looks (by rfl)) ?_ ?_ (fun _ _ _ q => q.elim))
  · rintro i d κ Z₁ G₁ s₂ Qt hQ hd rfl c₂ F₂
    obtain ⟨⟨base, p⟩, hbp, rfl⟩ := map_at hd
    have hNi : (nums ns)[i]? = some (numF ns p base) := by
      unfold nums; rw [List.getElem?_map, hbp]; rfl
    have hil : i < 4 := by
      have := (List.getElem?_eq_some_iff.mp hbp).1
      simpa [bases] using this
    obtain ⟨N, hN⟩ : ∃ N, N = numF ns p base := ⟨_, rfl⟩
    rw [← hN] at hNi
    have hsz : (ns.map D.int).length ≤ sizeLine := sl (by rw [List.length_map]; omega)
    refine st_seq (st_assign (d := .int N) F₂ hA rfl rfl ?_ fun s₃ c₃ F₃ => ?_)
    · refine Ev.cast (ev_bin (ev_bin (ev_name rfl) (ev_call rfl g_sum (.inr (.inl ⟨_, rfl⟩)) (.cons (Ev.cast (ev_cut4 (lo := some (p : Int)) (hi := some 60) (k4 := 4) (ev_name rfl) (ev_name rfl) ev_int ev_int (by decide) hsz) (congrArg D.lst (cut_map D.int ns (some (p : Int)) (some 60) (some 4)))) rfl .nil) op_sum) op_add) (Ev.cast (ev_bin ev_int ev_int (op_pow (by decide) (by decide) (by decide))) (show D.int (10 ^ (6 : Int).toNat) = D.int 1000000 by rfl)) (op_modp (by decide))) ?_
      rw [hN]; rfl
    refine st_seq (st_assign (d := drow N) F₃ hA rfl rfl ?_ fun s₄ c₄ F₄ => ?_)
    · refine ev_list (.cons (ev_bin (ev_bin (ev_name rfl) ev_int (op_modp (by decide))) ev_int op_sub) rfl (.cons (ev_bin (ev_bin (ev_bin (ev_name rfl) ev_int (op_divp (by decide) (by decide))) ev_int (op_modp (by decide))) ev_int op_sub) rfl (.cons (ev_bin (ev_bin (ev_bin (ev_name rfl) ev_int (op_divp (by decide) (by decide))) ev_int (op_modp (by decide))) ev_int op_sub) rfl (.cons ?_ rfl .nil)))) (sl (Nat.le_of_ble_eq_true rfl))
      refine ev_titem (k := N / 1701 % 4) (ev_tuple (.cons ev_int rfl (.cons ev_int rfl (.cons ev_int rfl (.cons ev_int rfl .nil)))) (by decide)) (ev_bin (ev_bin (ev_name rfl) ev_int (op_divp (by decide) (by decide))) ev_int (op_modp (by decide))) ?_ (by first | exact Nat.le_trans (by assumption) (by decide) | omega) (by first | exact Nat.le_trans (by assumption) (by decide) | omega)
      have h4 : N / 1701 % 4 = 0 ∨ N / 1701 % 4 = 1 ∨ N / 1701 % 4 = 2 ∨ N / 1701 % 4 = 3 := by omega
      unfold opt
      rcases h4 with h | h | h | h <;> rw [h] <;> rfl
    refine st_seq (st_assign_tuple (cs := [.val (.int (N / 6804)), .new [.str (side N 0 0), .str (side N 1 0)]]) F₄ hA rfl (.val (fun X => ev_bin (ev_name rfl) ev_int (op_divp (by decide) (by decide))) rfl (.new (fun X => evn_list (.cons ev_str rfl (.cons ev_str rfl .nil)) (sl (Nat.le_of_ble_eq_true rfl))) rfl .nil)) (by rfl) rfl rfl (sl (Nat.le_of_ble_eq_true rfl)) (by rfl) rfl (by rfl) (fun e hnew' s₅ c₅ F₅ => ?_))
    have F₅' := F₅.lessL (κ := ([("sides", .grow e [.str (side N 0 0), .str (side N 1 0)]), ("rows", .grow a (((nums ns).take i).map drow)), ("texts", .grow b (((nums ns).take i).map fun N => .str (textS N))), ("script", .own (.lst (ns.map .int))), ("number", .own (.int N)), ("row", .own (drow N)), ("bits", .own (.int (N / 6804)))] : Vs)) (looks (by rfl))
    have hq : ∀ (j : Nat) (c0 c1 : Nat) (lx : Str), lx.cps = #[c0, c1] → lx.cps[(N / 6804 / 2 ^ j % 2).toNat]? = some (if bt N j = 0 then c0 else c1) := fun j c0 c1 lx hl => by
      rw [hl]
      rcases bt_cases N j with h | h <;> (unfold bt at h ⊢; rw [h]; rfl)
    refine st_seq (st_forK (fun j κ => κ = ([("sides", .grow e [.str (side N 0 j), .str (side N 1 j)]), ("rows", .grow a (((nums ns).take i).map drow)), ("texts", .grow b (((nums ns).take i).map fun N => .str (textS N))), ("script", .own (.lst (ns.map .int))), ("number", .own (.int N)), ("row", .own (drow N)), ("bits", .own (.int (N / 6804)))] : Vs)) (fun _ => False) F₅' hA rfl rfl
      ((evit_enum (evs_flat (ds := [letc N 0, letc N 1, letc N 2].map .str) (ev_list (.cons ?_ rfl (.cons ?_ rfl (.cons ev_str rfl .nil))) (sl (Nat.le_of_ble_eq_true rfl))) (flts_strs _)) rfl g_enumerate).cast (enumD_map _ _ _)) rfl (looks (by rfl)) ?_ ?_ (fun _ _ _ q => q.elim))
    · exact ev_bin ev_str (ev_sitem (k := N / 6804 / 2 ^ 3 % 2) ev_str (ev_bin (ev_bin (ev_name rfl) ev_int (op_shrp (k := 3))) ev_int op_and1) (by first | exact Nat.le_trans (by assumption) (by decide) | omega) (by first | exact Nat.le_trans (by assumption) (by decide) | omega) (hq 3 120 88 _ rfl)) (op_adds (sl (by show 2 ≤ 100000; decide)))
    · exact ev_bin ev_str (ev_sitem (k := N / 6804 / 2 ^ 4 % 2) ev_str (ev_bin (ev_bin (ev_name rfl) ev_int (op_shrp (k := 4))) ev_int op_and1) (by first | exact Nat.le_trans (by assumption) (by decide) | omega) (by first | exact Nat.le_trans (by assumption) (by decide) | omega) (hq 4 121 89 _ rfl)) (op_adds (sl (by show 2 ≤ 100000; decide)))
    · rintro j d κ Z₂ G₂ s₆ Qt hQ hd rfl c₆ F₆
      obtain ⟨⟨lt, q⟩, hlq, rfl⟩ := map_at hd
      obtain ⟨h1, h2, hj⟩ : letc N j = lt ∧ j = q ∧ j < 3 := by
        match j, hlq with
        | 0, h => simp at h; exact ⟨h.1, h.2, by decide⟩
        | 1, h => simp at h; exact ⟨h.1, h.2, by decide⟩
        | 2, h => simp at h; exact ⟨h.1, h.2, by decide⟩
        | j + 3, h => simp at h
      subst h1
      subst h2
      have hrow : at? [D.int (coef N 0), .int (coef N 1), .int (coef N 2), .int (opt N)] ((j : Nat) : Int) = some (.int (coef N j)) := by
        match j, hj with
        | 0, _ => rfl
        | 1, _ => rfl
        | 2, _ => rfl
      refine st_seq (st_assign (d := .int (worth N j)) F₆ hA rfl rfl (ev_if (evt_cmp (ev_bin (ev_bin (ev_name rfl) (ev_name rfl) op_shrp) ev_int op_and1) ev_int op_eq) (fun h => ?_) fun h => ?_) fun s₇ c₇ F₇ => ?_)
      · have h : bt N j = 0 := by simpa [bt] using h
        refine Ev.cast (ev_item (ev_name rfl) (ev_name rfl) hrow (by first | exact Nat.le_trans (by assumption) (by decide) | omega) (by first | exact Nat.le_trans (by assumption) (by decide) | omega)) ?_
        unfold worth; rw [if_pos h]
      · have h : ¬ bt N j = 0 := by simpa [bt] using h
        refine Ev.cast (ev_neg (ev_item (ev_name rfl) (ev_name rfl) hrow (by first | exact Nat.le_trans (by assumption) (by decide) | omega) (by first | exact Nat.le_trans (by assumption) (by decide) | omega))) ?_
        unfold worth; rw [if_neg h]
      have hb := bt_cases N j
      have hds : ([D.str (side N 0 j), .str (side N 1 j)] : List D)[(bt N j).toNat]? = some (.str (side N (bt N j) j)) := by
        rcases hb with h | h <;> rw [h] <;> rfl
      have l1 := side_len N (bt N j) j
      have l2 := item_len N j
      have l3 := digits_len N j
      have l4 := letc_len N j
      have l5 := sign_len N j
      have l6 : (letc N j, j).fst.length ≤ 2 := letc_len N j
      refine st_seq (st_aug_item (x := "sides") (k := bt N j) (d1 := .str (side N (bt N j) j)) (d2 := .str (itemS N j)) (d := .str (side N (bt N j) j ++ itemS N j)) F₇ hA rfl rfl (ev_bin (ev_bin (ev_name rfl) (ev_name rfl) op_shrp) ev_int op_and1) (by first | exact Nat.le_trans (by assumption) (by decide) | omega) (by first | exact Nat.le_trans (by assumption) (by decide) | omega) hds ?_ (op_iadds (sl (by first | exact Nat.le_trans (by assumption) (by decide) | omega))) fun s₈ c₈ F₈ => ?_)
      · refine ev_bin (ev_bin (ev_if (evt_cmp (ev_name rfl) ev_int op_lt) (fun h => ?_) fun h => ?_) (ev_call rfl g_str (.inr (.inr ⟨_, rfl⟩)) (.cons (ev_call rfl g_abs (.inr (.inl ⟨_, rfl⟩)) (.cons (ev_name rfl) rfl .nil) op_abs) rfl .nil) (op_strint ?_)) (op_adds (sl (by first | exact Nat.le_trans (by assumption) (by decide) | omega)))) (ev_name rfl) (op_adds (sl (by rw [Str.length_append]; omega)))
        · have h : worth N j < 0 := by first | exact of_decide_eq_true h | exact of_decide_eq_false h | exact bne_iff_ne.mp h | exact eq_of_beq h | simpa using h
          exact Ev.cast ev_str (by rw [if_pos h])
        · have h : ¬ worth N j < 0 := by first | exact of_decide_eq_true h | exact of_decide_eq_false h | exact bne_iff_ne.mp h | exact eq_of_beq h | simpa using h
          exact Ev.cast ev_str (by rw [if_neg h])
        · have := absw N j
          have h10 : ∀ m : Nat, m ≤ 10 → m.log2 < 1920 := fun m hm => by
            by_cases h0 : m = 0
            · rw [h0]; decide
            · have : m.log2 < 4 := (Nat.log2_lt h0).mpr (by first | exact Nat.le_trans (by assumption) (by decide) | omega)
              omega
          exact h10 _ this
      refine st_nil (hQ .next _ ⟨_, _, _, rfl, ⟨?_, rfl, rfl, rfl, rfl, rfl, rfl, trivial⟩, (c₆.trans c₇).trans c₈, F₈⟩)
      show some (Bd.grow e _) = some (Bd.grow e _)
      congr 2
      rcases hb with h | h
      · rw [h]
        simp only [side, h, if_true]
        rfl
      · rw [h]
        simp only [side, h, if_true]
        rfl
    · rintro κ Z₂ s₆ rfl c₆ F₆
      have F₆ : Fs w G₁ X Z₂ env (fS (stm 68)) ([("sides", .grow e [.str (side N 0 3), .str (side N 1 3)]), ("rows", .grow a (((nums ns).take i).map drow)), ("texts", .grow b (((nums ns).take i).map fun N => .str (textS N))), ("script", .own (.lst (ns.map .int))), ("number", .own (.int N)), ("row", .own (drow N)), ("bits", .own (.int (N / 6804)))] : Vs) H NoA s₆.heap := F₆
      have hlen : (nums ns).length = 4 := by simp [nums, bases]
      have ht4 : ((nums ns).take i).length ≤ 4 := by rw [List.length_take]; omega
      refine st_nil ?_
      refine st_seq (st_append F₆ hA rfl rfl (ev_name rfl) (sl (by rw [List.length_map]; omega)) fun s₇ c₇ F₇ => ?_)
      have l0 := side_len N 0 3
      have l1 := side_len N 1 3
      have hops : (ops N).length ≤ 2 := by unfold ops; split; decide; split; decide; split <;> decide
      have hor : ∀ x : Str, x.length ≤ 45 → (orz x).length ≤ 45 := fun x h => by unfold orz; split <;> first | exact h | decide
      have o0 := hor _ l0
      have o1 := hor _ l1
      refine st_seq (st_append (d := .str (textS N)) F₇ hA rfl rfl ?_ (sl (by rw [List.length_map]; omega)) fun s₈ c₈ F₈ => ?_)
      · refine ev_bin (ev_bin (ev_or (x := side N 0 3) (y := "0") (sl (by first | exact Nat.le_trans (by assumption) (by decide) | omega)) (ev_item (ev_name rfl) ev_int rfl) ev_str) (ev_titem (k := N / 1701 % 4) (ev_tuple (.cons ev_str rfl (.cons ev_str rfl (.cons ev_str rfl (.cons ev_str rfl .nil)))) (by decide)) (ev_bin (ev_bin (ev_name rfl) ev_int (op_divp (by decide) (by decide))) ev_int (op_modp (by decide))) (d := .str (ops N)) ?_ (by first | exact Nat.le_trans (by assumption) (by decide) | omega) (by first | exact Nat.le_trans (by assumption) (by decide) | omega)) (op_adds (sl (by show (orz _).length + _ ≤ _; omega)))) (ev_or (x := side N 1 3) (y := "0") (sl (by first | exact Nat.le_trans (by assumption) (by decide) | omega)) (ev_item (ev_name rfl) ev_int rfl) ev_str) (op_adds (sl (by show (orz _ ++ ops N).length + (orz _).length ≤ _; rw [Str.length_append]; omega)))
        have h4 : N / 1701 % 4 = 0 ∨ N / 1701 % 4 = 1 ∨ N / 1701 % 4 = 2 ∨ N / 1701 % 4 = 3 := by omega
        unfold ops
        rcases h4 with h | h | h | h <;> rw [h] <;> rfl
      refine st_nil (hQ .next _ ⟨_, _, _, rfl, ⟨?_, ?_, rfl, trivial⟩, ((((((c₂.trans c₃).trans c₄).trans c₅).trans c₆).trans c₇).trans c₈), F₈⟩)
      · show some (Bd.grow a _) = some (Bd.grow a _)
        rw [take_succ_of hNi, List.map_append]; rfl
      · show some (Bd.grow b _) = some (Bd.grow b _)
        rw [take_succ_of hNi, List.map_append]; rfl
  · rintro κ Z₁ s₂ rfl c₂ F₂
    have F₂ : Fs w Gd.no X Z₁ env (fS (stm 68)) ([("rows", .grow a (((nums ns).take 4).map drow)), ("texts", .grow b (((nums ns).take 4).map fun N => .str (textS N))), ("script", .own (.lst (ns.map .int)))] : Vs) H NoA s₂.heap := F₂
    have hlen : (nums ns).length = 4 := by simp [nums, bases]
    rw [List.take_of_length_le (by first | exact Nat.le_trans (by assumption) (by decide) | omega)] at F₂
    refine st_nil ?_
    have F₃ := F₂.freeze (x := "rows") rfl hXa
    refine st_ret F₃ hA rfl (c.trans c₂) (fun _ q => q) (ev_tuple (.cons (ev_name rfl) rfl (.cons (ev_join (x := ";") (ys := (nums ns).map textS) ev_str (Ev.cast (ev_name rfl) (congrArg D.lst (List.map_map (f := textS) (g := D.str)).symm)) ?_) rfl .nil)) (sl (Nat.le_of_ble_eq_true rfl)))
    unfold JoinOk
    rw [StrLaws.joinFits (B := 100) (fun y hy => ?_) (by rw [List.length_map, hlen]; decide)]; rfl
    obtain ⟨N, _, rfl⟩ := List.mem_map.mp hy
    have l0 := side_len N 0 3
    have l1 := side_len N 1 3
    have hops : (ops N).length ≤ 2 := by unfold ops; split; decide; split; decide; split <;> decide
    have hor : ∀ x : Str, x.length ≤ 45 → (orz x).length ≤ 45 := fun x h => by unfold orz; split <;> first | exact h | decide
    have o0 := hor _ l0
    have o1 := hor _ l1
    unfold textS
    rw [Str.length_append, Str.length_append]
    omega
end
end Mine

open PySem PySem.W PyProof.Rows PySem.AutoIntOps
set_option Elab.async false
set_option linter.unusedVariables false
set_option linter.unusedSimpArgs false
set_option maxRecDepth 100000
namespace Mine
/-! # for the reading -/
section
variable {w : World} {n : Nat}
theorem spec_isnonterminal {i : Int} : Spec w (n + 1) 218 [.int i] (.bool (decide (256 ≤ i))) := by
  refine spec_of (names := ["x"]) rfl rfl rfl rfl rfl rfl rfl rfl rfl rfl rfl (fun v => by show _ = some _; kernel_rfl) (by decide) (by decide +kernel) rfl ?_
  intro X A env s s₀ H hA c F
  exact st_ret F hA rfl c (fun _ q => q) (ev_cmp (ev_name rfl) (ev_gint (i := 256) rfl (by kernel_rfl)) op_ge)
theorem spec_iseof {i : Int} : Spec w (n + 1) 225 [.int i] (.bool (i == 0)) := by
  refine spec_of (names := ["x"]) rfl rfl rfl rfl rfl rfl rfl rfl rfl rfl rfl (fun v => by show _ = some _; kernel_rfl) (by decide) (by decide +kernel) rfl ?_
  intro X A env s s₀ H hA c F
  exact st_ret F hA rfl c (fun _ q => q) (ev_cmp (ev_name rfl) (ev_gint (i := 0) rfl (by kernel_rfl)) op_eq)
theorem g_isterminal : GlobIs w (Str.ofString "ISTERMINAL") (.ref 211) := .inl (by kernel_rfl)
theorem g_isnonterminal : GlobIs w (Str.ofString "ISNONTERMINAL") (.ref 218) := .inl (by kernel_rfl)
theorem g_iseof : GlobIs w (Str.ofString "ISEOF") (.ref 225) := .inl (by kernel_rfl)
end
section
variable {w : World} {n : Nat} {G : Gd} {X Z Z' : Addr → Prop} {env : Env} {sc : Scope} {ρ ρ' : Vs} {H : Heap} {Y : Addr → Prop} {A : Around} {E : Value → Shared → Prop} {s s₀ : Shared} {Q : Flow → Shared → Prop} {h h' : Heap}
theorem op_in_ints {b : Bool} {x : Int} {ns : List Int} : Op2 w n X b (compareOp .In) (.int x) (.tup (ns.map .int)) (.bool (ns.any (· == x))) := fun A s E v1 v2 _ _ _ r1 r2 => by
  cases r1
  obtain ⟨_, _, rfl, hl, rl⟩ := r2.tup_inv
  exact in_tuple_ints hl (ints_of rl) yb
theorem op_max2 {b : Bool} {x y : Int} : OpN w n X b (fun vs => call (.builtin "max") vs) [.int x, .int y] (.int (if x < y then y else x)) := fun A s E vs hA _ _ r => by
  cases r with
  | cons r1 r =>
  cases r with
  | cons r2 r =>
  cases r
  obtain ⟨t, rfl⟩ := r1.int_inv
  obtain ⟨u, rfl⟩ := r2.int_inv
  refine max_two_ints hA.handled fun h' tk k => ?_
  by_cases h : y > x
  · rw [if_pos h]; rw [if_pos (by first | exact Nat.le_trans (by assumption) (by decide) | omega)]; exact ⟨.int _ _, fun _ => .int, keeps_ht s _ _ k⟩
  · rw [if_neg h]; rw [if_neg (by first | exact Nat.le_trans (by assumption) (by decide) | omega)]; exact ⟨.int _ _, fun _ => .int, keeps_ht s _ _ k⟩
/-- x[i], y = (e1, e2), x a list of the frame's own -/
theorem st_assign_item_name {x y : Str} {px py ip tp vp pos : Pos} {k k' : Nat} {i e1 e2 : Expr} {a : Addr} {ds : List D} {j : Int} {d1 d2 : D} (F : Fs w G X Z env sc ρ H Y s.heap) (hA : Rm n A) (hc : clean ρ = true) (hx : ρ.lookup x = some (.grow a ds)) (hy : locOrCell sc y = true) (hxy : (y == x) = false)
    (h1 : Ev w n (XZ X Z) env sc (seen ρ) true e1 d1) (h2 : Ev w n (XZ X Z) env sc (seen ρ) true e2 d2) (hi0 : ∀ X', Ev w n X' env sc (seen ρ) false i (.int j)) (h0 : 0 ≤ j) (hj : j < ds.length) (hhi : j < 2 ^ 63)
    (h : ∀ s', Chg s s' → Fs w G X Z env sc ((y, .own d2) :: (x, .grow a (ds.set j.toNat d1)) :: ρ) H Y s'.heap → Q .next s') (hdn : (x == ("__debug__" : Str)) = false := by decide) (hst : (x == star) = false := by decide)
    (hs : swapsWithSole [.Tuple [.Subscript (.Name x px) i ip, .Name y py] k tp] (.Tuple [e1, e2] k' vp) pos.line env = pure false := by rfl)
    (hw : swappedStores [.Tuple [.Subscript (.Name x px) i ip, .Name y py] k tp] (.Tuple [e1, e2] k' vp) env = pure none)
    (hse1 : starEach [e1, e2] env = (false, eval e1 env) :: starEach [e2] env := by rfl) (hse2 : starEach [e2] env = (false, eval e2 env) :: starEach [] env := by rfl)
    (hrel : ∀ iv : Value, ∀ ov v : Value, assign (.Subscript (.Name x px) i ip) env v = (do
      let ov ← holding [v] (eval (.Name x px) env)
      let iv ← holding [v, ov] (eval i env)
      standAt ip
      holding [v, ov, iv] (setItem ov iv v)
      release [v, ov, iv] []) := by intros; rfl) :
    wpAny (Md w) A (exec (.Assign [.Tuple [.Subscript (.Name x px) i ip, .Name y py] k tp] (.Tuple [e1, e2] k' vp) pos) env) Q E s := by
  have C := F.cx hc
  refine wpAny_Assign_stores (wpAny_Tuple (wpAny_mono (list_run (EvL.cons h1 hse1 (EvL.cons h2 hse2 .nil)) hA C) (fun vs s₁ q => ?_) fun _ _ x => x)) hs hw
  obtain ⟨r, k1⟩ := q
  obtain ⟨v1, v2, rfl, ⟨r1, o1⟩, r2, o2⟩ := r.two_inv
  refine ⟨by show 2 ≤ sizeLine; decide, ?_⟩
  have k2 : Keeps s { s₁ with heap := s₁.heap.push { cls := .type "tuple", data := .seq [v1, v2].toArray } } := keeps_trans k1 (keeps_heap _ _ fun b o e => Heap.get?_push_of_some _ e)
  show wpAny _ A (assign (.Tuple [.Subscript (.Name x px) i ip, .Name y py] k tp) env (.ref s₁.heap.objs.size)) _ _ _
  refine assign_Tuple_tuple (items := [v1, v2].toArray) hA.handled ⟨_, Heap.get?_push_size _ rfl, rfl, 0, rfl⟩ rfl rfl fun h₁ ex => ?_
  have k12 : Ext (s₁.heap.push { cls := .type "tuple", data := .seq [v1, v2].toArray }) h₁ := fun b o e => ex b o (fun z => by rw [z] at e; exact absurd e (by rw [get_size]; simp)) e
  have F₁ := (F.told k2).ext k12
  have r1' := (r1.ext fun b o e => Heap.get?_push_of_some _ e).ext k12
  have r2' := (r2.ext fun b o e => Heap.get?_push_of_some _ e).ext k12
  show wpAny _ A (assignInOrder [assign (.Subscript (.Name x px) i ip) env, assign (.Name y py) env] [v1, v2]) _ _ _
  unfold assignInOrder
  refine wpAny_bind (wpAny_holding ?_)
  rw [hrel v1 v1 v1]
  obtain ⟨m, cm, f, g⟩ := F₁.fm
  obtain ⟨l, v, e1', rfl, hz, vs, hl, r⟩ := g x _ hx
  have hst' : x ≠ star := by first | exact of_decide_eq_true hst | exact of_decide_eq_false hst | exact bne_iff_ne.mp hst | exact eq_of_beq hst | simpa using hst
  have l := l hst'
  have e1' := e1' hst'
  have nm := f.nameIs (by rw [F₁.scope]; exact l) (mem_allNames l) e1'
  refine wpAny_bind (wpAny_holding (wpAny_Name (nm.load (by rw [F₁.scope]; exact F₁.fn) ?_) hdn))
  refine wpAny_bind (wpAny_holding (wpAny_mono (hi0 _ A _ E hA (F₁.cx hc)) (fun iv s₂ q => ?_) fun _ _ x => x))
  obtain ⟨ri, _, k3⟩ := q
  obtain ⟨t, rfl⟩ := ri.int_inv
  have hl2 := hl.at fun o e => keeps_ext k3 _ o e
  have hlen := r.length
  refine wpAny_bind (wpAny_standAt (wpAny_bind (wpAny_holding (setItem_plain hl2 h0 hhi (by rw [List.size_toArray]; omega) fun h' hl' hs' => ?_))))
  refine wpAny_release' ?_
  have e2 : vs.toArray.setIfInBounds j.toNat v1 = (vs.set j.toNat v1).toArray := by simp
  rw [e2] at hl'
  have F₂ := (F₁.told k3).turn hx hs' hl' ((r.ext (keeps_ext k3)).set j.toNat (r1'.ext (keeps_ext k3)) o1)
  unfold assignInOrder
  have r2'' : RpB (XZ X Z) h' v2 d2 := (r2'.ext (keeps_ext k3)).extX (fun b o hb e => hs'.extBut b o (fun z => hb (z ▸ .inr hz)) e) o2
  refine wpAny_bind (wpAny_holding (wpAny_assign_Name (fs_store F₂ hy (fit_own r2'' o2) fun s₃ c₃ F₃ _ _ => ?_)))
  unfold assignInOrder
  exact wpAny_pure (h s₃ ((Chg.of_keeps k2).trans (Chg.trans ⟨h₁, _, rfl⟩ ((Chg.of_keeps k3).trans (Chg.trans ⟨h', _, rfl⟩ c₃)))) F₃)
end
end Mine

open PySem PySem.W PyProof.Rows PySem.AutoIntOps
set_option Elab.async false
set_option linter.unusedVariables false
set_option linter.unusedSimpArgs false
set_option maxRecDepth 100000
namespace Mine
/-! # the text, read -/
noncomputable def tokQ (x : Str) : Option PyData := Spec.lookup (.str x) tokP
noncomputable def tokI (x : Str) : Int := match tokQ x with
  | some (.int i) => i
  | _ => 0
noncomputable def slc (x : Str) (i z : Int) : Str := Txt.slice x (some i) (some (i + z))
noncomputable def sizes (x : Str) (i : Int) : List Int := [3, 2, 1].filter fun z => (tokQ (slc x i z)).isSome
noncomputable def sizeAt (x : Str) (i : Int) : Int := (sizes x i ++ [0]).headD 0
noncomputable def symAt (x : Str) (i : Nat) : Int := if sizeAt x i ≠ 0 then tokI (slc x i (sizeAt x i)) else 256 + (x.cps.getD i 0 : Nat)
noncomputable def lexSt (x : Str) : Nat → List Int × Int
  | 0 => ([], 0)
  | i + 1 => if (lexSt x i).2 ≤ (i : Int) then ((lexSt x i).1 ++ [symAt x i], (i : Int) + (if 1 < sizeAt x i then sizeAt x i else 1)) else lexSt x i
noncomputable def syms (x : Str) : List Int := (lexSt x x.length).1
structure PS where
  rows : List (List Int)
  row : List Int
  place : Int
  number : Int
  sign : Int
  side : Int
noncomputable def isL (y : Int) : Bool := y == 376 || y == 344 || y == 377 || y == 345
noncomputable def plc (y : Int) : Int := if y = 376 ∨ y = 344 then 0 else 1
noncomputable def pflush (p : PS) (y : Int) : PS := { p with row := p.row.set p.place.toNat (p.row.getD p.place.toNat 0 + p.sign * p.side * p.number), place := 2, number := 0, sign := if y = 15 then -1 else 1 }
noncomputable def pstep (p : PS) (y : Int) : PS :=
  if 256 ≤ y then (if isL y then { p with place := plc y } else { p with number := 10 * p.number + y - 304 })
  else if y ≠ 16 then
    (if [20, 21, 29, 30].any (· == y) then { pflush p y with row := (pflush p y).row.set 3 y, side := -1 }
    else if y = 13 ∨ y = 0 then { pflush p y with rows := p.rows ++ [(pflush p y).row], row := [0, 0, 0, 0], side := 1 }
    else pflush p y)
  else p
noncomputable def pinit : PS := ⟨[], [0, 0, 0, 0], 2, 0, 1, 1⟩
noncomputable def readF (x : Str) : List (List Int) := ((syms x ++ [0]).foldl pstep pinit).rows
noncomputable def intsD (l : List Int) : D := .lst (l.map .int)
noncomputable def pgood (p : PS) : Prop := p.row.length = 4 ∧ 0 ≤ p.place ∧ p.place ≤ 2 ∧ (p.sign = 1 ∨ p.sign = -1) ∧ (p.side = 1 ∨ p.side = -1)
theorem pgood_flush {p : PS} {y : Int} (h : pgood p) : pgood (pflush p y) := by
  obtain ⟨h1, h2, h3, h4, h5⟩ := h
  refine ⟨by simp [pflush, h1], by simp [pflush], by simp [pflush], ?_, h5⟩
  simp only [pflush]; split <;> simp
theorem pgood_step {p : PS} {y : Int} (h : pgood p) : pgood (pstep p y) := by
  have hf := pgood_flush (y := y) h
  obtain ⟨h1, h2, h3, h4, h5⟩ := h
  unfold pstep
  split
  · split
    · refine ⟨h1, ?_, ?_, h4, h5⟩ <;> simp only [plc] <;> split <;> omega
    · exact ⟨h1, h2, h3, h4, h5⟩
  · split
    · obtain ⟨f1, f2, f3, f4, f5⟩ := hf
      split
      · exact ⟨by simp [f1], f2, f3, f4, .inr rfl⟩
      · split
        · exact ⟨rfl, f2, f3, f4, .inl rfl⟩
        · exact ⟨f1, f2, f3, f4, f5⟩
    · exact ⟨h1, h2, h3, h4, h5⟩
theorem pgood_fold : ∀ (l : List Int) (p : PS), pgood p → pgood (l.foldl pstep p)
  | [], _, h => h
  | y :: l, p, h => pgood_fold l _ (pgood_step h)
theorem pgood_init : pgood pinit := ⟨rfl, by decide, by decide, .inl rfl, .inl rfl⟩
theorem tokD_ints : tokD.all (fun p => match p.2 with | .int i => decide (0 ≤ i ∧ i < 100) | _ => false) = true := by decide +kernel
theorem lookup_mem : ∀ {l : List (Str × PyData)} {x : PyData} {v : PyData}, Spec.lookup x (l.map fun p => (PyData.str p.1, p.2)) = some v → ∃ p ∈ l, p.2 = v
  | [], _, _, h => nomatch h
  | p :: l, x, v, h => by
    rw [List.map_cons, Spec.lookup] at h
    split at h
    · exact ⟨p, List.mem_cons_self, by first | exact of_decide_eq_true h | exact of_decide_eq_false h | exact bne_iff_ne.mp h | exact eq_of_beq h | simpa using h⟩
    · obtain ⟨q, hq, e⟩ := lookup_mem h
      exact ⟨q, List.mem_cons_of_mem _ hq, e⟩
theorem tokQ_int {x : Str} (h : (tokQ x).isSome = true) : tokQ x = some (.int (tokI x)) ∧ 0 ≤ tokI x ∧ tokI x < 100 := by
  obtain ⟨v, hv⟩ := Option.isSome_iff_exists.mp h
  obtain ⟨p, hp, e⟩ := lookup_mem (l := tokD) hv
  have := List.all_eq_true.mp tokD_ints p hp
  rw [e] at this
  cases v with
  | int i =>
    have : 0 ≤ i ∧ i < 100 := by first | exact of_decide_eq_true this | exact of_decide_eq_false this | exact bne_iff_ne.mp this | exact eq_of_beq this | simpa using this
    unfold tokI
    rw [hv]
    exact ⟨rfl, this⟩
  | _ => cases this
theorem sizeAt_tok {x : Str} {i : Int} (h : sizeAt x i ≠ 0) : (tokQ (slc x i (sizeAt x i))).isSome = true := by
  unfold sizeAt at h ⊢
  cases hs : sizes x i with
  | nil => rw [hs] at h; exact absurd rfl h
  | cons z r =>
    show (tokQ (slc x i z)).isSome = true
    have : z ∈ sizes x i := by rw [hs]; exact List.mem_cons_self
    unfold sizes at this
    exact (List.mem_filter.mp this).2
theorem symAt_small {x : Str} (hx : ∀ c ∈ x.cps.toList, c < 128) (i : Nat) : 0 ≤ symAt x i ∧ symAt x i < 384 := by
  unfold symAt
  split
  · rename_i h
    have := (tokQ_int (sizeAt_tok h)).2
    omega
  · have : x.cps.getD i 0 < 128 := by
      rw [Array.getD_eq_getD_getElem?]
      cases hc : x.cps[i]? with
      | none => decide
      | some c => exact hx c (by simpa using Array.mem_of_getElem? hc)
    omega
theorem lexSt_small {x : Str} (hx : ∀ c ∈ x.cps.toList, c < 128) : ∀ i : Nat, (∀ y ∈ (lexSt x i).1, 0 ≤ y ∧ y < 384) ∧ (lexSt x i).1.length ≤ i
  | 0 => ⟨fun _ h => (nomatch h), Nat.le_refl _⟩
  | i + 1 => by
    obtain ⟨h1, h2⟩ := lexSt_small hx i
    unfold lexSt
    split
    · refine ⟨fun y hy => ?_, by simp; exact h2⟩
      rcases List.mem_append.mp hy with hy | hy
      · exact h1 y hy
      · rw [List.mem_singleton.mp hy]; exact symAt_small hx i
    · exact ⟨h1, Nat.le_succ_of_le h2⟩
theorem isL_occ : ∀ c : Fin 128, (!(Builtin.Str.occurrences (Str.ofString "xXyY") ⟨#[c.val]⟩ 0 (Str.ofString "xXyY").length 1).isEmpty) = isL (256 + c.val) := by decide +kernel
theorem plc_occ : ∀ c : Fin 128, isL (256 + c.val) = true → Builtin.Str.occurrences (Str.ofString "xy") (Txt.lower ⟨#[c.val]⟩) 0 (Str.ofString "xy").length 1 = [(plc (256 + c.val)).toNat] := by decide +kernel
theorem low_fit : ∀ c : Fin 128, Builtin.Str.tooLong (Txt.lower ⟨#[c.val]⟩).length = false := by decide +kernel
end Mine

open PySem PySem.W PyProof.Rows PySem.AutoIntOps
set_option Elab.async false
set_option linter.unusedVariables false
set_option linter.unusedSimpArgs false
set_option maxRecDepth 100000
set_option maxHeartbeats 1000000
namespace Mine
noncomputable def kl (S R r : Addr) (x : Str) (st : List Int × Int) : Vs := [("symbols", .grow S (st.1.map .int)), ("behind", .own (.int st.2)), ("text", .own (.str x)), ("rows", .grow R []), ("row", .grow r [.int 0, .int 0, .int 0, .int 0]), ("place", .own (.int 2)), ("number", .own (.int 0)), ("sign", .own (.int 1)), ("side", .own (.int 1))]
noncomputable def kp (R r : Addr) (p : PS) : Vs := [("rows", .grow R (p.rows.map intsD)), ("row", .grow r (p.row.map .int)), ("place", .own (.int p.place)), ("number", .own (.int p.number)), ("sign", .own (.int p.sign)), ("side", .own (.int p.side))]
section
variable {w : World} {n : Nat} {X : Addr → Prop} {env : Env} {sc : Scope} {ρ : List (Str × Bool × D)} {b : Bool}
theorem ev_chr {p1 p2 p3 p4 p5 : Pos} {k : Nat} {y : Int} (h : ρ.lookup (Str.ofString "symbol") = some (true, .int y)) (hs : sc.names.lookup (Str.ofString "chr") = some .globalImplicit) (h0 : 256 ≤ y) (h1 : y < 384)
    (hse : starEach [.BinOp (.Name (Str.ofString "symbol") p2) .Sub (.Constant (.int 256) k p3) p4] env = (false, eval (.BinOp (.Name (Str.ofString "symbol") p2) .Sub (.Constant (.int 256) k p3) p4) env) :: starEach [] env := by rfl) :
    Ev w n X env sc ρ b (.Call (.Name (Str.ofString "chr") p1) [.BinOp (.Name (Str.ofString "symbol") p2) .Sub (.Constant (.int 256) k p3) p4] [] p5) (.str ⟨#[(y - 256).toNat]⟩) :=
  ev_call hs g_chr (.inr (.inl ⟨_, rfl⟩)) (.cons (ev_bin (ev_name h) ev_int op_sub) hse .nil) (op_chr (by first | exact Nat.le_trans (by assumption) (by decide) | omega) (by first | exact Nat.le_trans (by assumption) (by decide) | omega))
end
theorem rows_step (p : PS) (y : Int) : (pstep p y).rows.length ≤ p.rows.length + 1 := by
  unfold pstep
  split
  · split <;> exact Nat.le_succ _
  · split
    · split
      · exact Nat.le_succ _
      · split
        · simp
        · exact Nat.le_succ _
    · exact Nat.le_succ _
theorem rows_fold : ∀ (l : List Int) (p : PS), (l.foldl pstep p).rows.length ≤ p.rows.length + l.length
  | [], _ => Nat.le_refl _
  | y :: l, p => by
    have h1 := rows_fold l (pstep p y)
    have h2 := rows_step p y
    rw [List.foldl_cons, List.length_cons]
    omega
section
variable {w : World} {n : Nat}
theorem spec_read {x : Str} (hx : ∀ c ∈ x.cps.toList, c < 128) (hl : x.length ≤ 5000) : Spec w (n + 3) 237 [.str x] (.lst ((readF x).map intsD)) := by
  refine spec_of (names := ["text"]) rfl rfl rfl rfl rfl rfl rfl rfl rfl rfl rfl (fun v => by show _ = some _; kernel_rfl) (by decide) (by decide +kernel) rfl ?_
  intro X A env s s₀ H hA c F
  have hxs : x.length ≤ sizeLine := sl (by first | exact Nat.le_trans (by assumption) (by decide) | omega)
  refine st_seq ?_
  with_reducible refine st_assign_tuple (sw := none) (cs := [.new [], .val (.int 0), .new [], .new [.int 0, .int 0, .int 0, .int 0], .val (.int 2), .val (.int 0), .val (.int 1), .val (.int 1)]) F hA ?_ ?_ ?_ ?_ ?_ ?_ ?_ ?_ ?_ ?_ (hs := ?_)
  · rfl
  · exact (.new (fun X => evn_list .nil (sl (Nat.le_of_ble_eq_true rfl))) rfl (.val (fun X => ev_int) rfl (.new (fun X => evn_list .nil (sl (Nat.le_of_ble_eq_true rfl))) rfl (.new (fun X => evn_list (.cons ev_int rfl (.cons ev_int rfl (.cons ev_int rfl (.cons ev_int rfl .nil)))) (sl (Nat.le_of_ble_eq_true rfl))) rfl (.val (fun X => ev_int) rfl (.val (fun X => ev_int) rfl (.val (fun X => ev_int) rfl (.val (fun X => ev_int) rfl .nil))))))))
  · rfl
  · rfl
  · rfl
  · exact sl (Nat.le_of_ble_eq_true rfl)
  · rfl
  · rfl
  · rfl
  rotate_left 1
  · rfl
  intro S R r hnew s₁ c₁ F₁
  replace c := c.trans c₁
  have hXr := (hnew r (by simp [growsOf])).1
  have hXR := (hnew R (by simp [growsOf])).1
  have F₁ := F₁.lessL (κ := kl S R r x (lexSt x 0)) (looks (by rfl))
  refine st_seq (st_forK (fun i κ => κ = kl S R r x (lexSt x i)) (fun _ => False) F₁ hA rfl rfl (evit_range (m := x.length) (ev_call rfl g_len (.inr (.inl ⟨_, rfl⟩)) (.cons (ev_name rfl) rfl .nil) (op_slen hxs)) rfl g_range (by first | exact Nat.le_trans (by assumption) (by decide) | omega)) rfl (looks (by rfl)) ?_ ?_ (fun _ _ _ q => q.elim))
  · rintro i d κ Z₁ G₁ s₂ Qt hQ hd rfl c₂ F₂
    obtain ⟨hi, rfl⟩ := upTo_get hd
    have hll := (lexSt_small hx i).2
    refine st_seq (st_if F₂ hA rfl (evt_cmp (ev_name rfl) (ev_name rfl) op_ge) fun s₃ c₃ F₃ => ?_)
    by_cases hb : (lexSt x i).2 ≤ (i : Int)
    · rw [decide_eq_true hb, if_pos rfl]
      refine st_seq (st_assign (d := .int (sizeAt x i)) F₃ hA rfl rfl ?_ fun s₄ c₄ F₄ => ?_)
      · refine ev_item (k := 0) (ds := (sizes x i ++ [0]).map .int) (Ev.cast (ev_bin (ev_lc (l := ([3, 2, 1] : List Int)) (g := .int) (p := fun z => (tokQ (slc x i z)).isSome) (f := .int) (by kernel_rfl) (evit_tflat (ds := ([3, 2, 1] : List Int).map .int) (ev_tuple (.cons ev_int rfl (.cons ev_int rfl (.cons ev_int rfl .nil))) (sl (Nat.le_of_ble_eq_true rfl))) (flts_ints _)) (fun z hz X' env' => ⟨?_, fun _ => ev_name rfl⟩) (sl (Nat.le_of_ble_eq_true rfl))) (ev_list (.cons ev_int rfl .nil) (sl (Nat.le_of_ble_eq_true rfl))) (op_addl (sl ?_))) ?_) ev_int ?_
        · exact evt_tok (ev_scut (ev_name rfl) (ev_name rfl) (ev_bin (ev_name rfl) (ev_name rfl) op_add) hxs) rfl
        · have := List.length_filter_le (fun z => (tokQ (slc x i z)).isSome) ([3, 2, 1] : List Int)
          simp only [List.length_map, List.length_cons, List.length_nil] at this ⊢
          omega
        · rw [List.map_append]; rfl
        · unfold sizeAt
          cases sizes x i <;> rfl
      have hsz : sizeAt x i ≠ 0 → Spec.lookup (.str (slc x i (sizeAt x i))) tokP = some (.int (tokI (slc x i (sizeAt x i)))) := fun h => (tokQ_int (sizeAt_tok h)).1
      have hc : x.cps[((i : Nat) : Int).toNat]? = some (x.cps.getD i 0) := by
        have hi' : i < x.cps.size := hi
        rw [Int.toNat_natCast, Array.getD_eq_getD_getElem?, Array.getElem?_eq_getElem hi']; rfl
      refine st_seq (st_append (d := .int (symAt x i)) F₄ hA rfl rfl (ev_if (evt_val (ev_name rfl) truthy_int') (fun h => ?_) fun h => ?_) (sl (by rw [List.length_map]; omega)) fun s₅ c₅ F₅ => ?_)
      · have h : sizeAt x i ≠ 0 := by first | exact of_decide_eq_true h | exact of_decide_eq_false h | exact bne_iff_ne.mp h | exact eq_of_beq h | simpa using h
        refine Ev.cast (ev_tok (ev_scut (ev_name rfl) (ev_name rfl) (ev_bin (ev_name rfl) (ev_name rfl) op_add) hxs) rfl (hsz h)) ?_
        unfold symAt; rw [if_pos h]
      · have h : ¬ sizeAt x i ≠ 0 := by first | exact of_decide_eq_true h | exact of_decide_eq_false h | exact bne_iff_ne.mp h | exact eq_of_beq h | simpa using h
        refine Ev.cast (ev_bin ev_int (ev_call rfl g_ord (.inr (.inl ⟨_, rfl⟩)) (.cons (ev_sitem (ev_name rfl) (ev_name rfl) (by first | exact Nat.le_trans (by assumption) (by decide) | omega) (by first | exact Nat.le_trans (by assumption) (by decide) | omega) hc) rfl .nil) op_ord) op_add) ?_
        unfold symAt; rw [if_neg h]
      refine st_seq (st_assign (d := .int ((i : Int) + (if 1 < sizeAt x i then sizeAt x i else 1))) F₅ hA rfl rfl (ev_bin (ev_name rfl) (ev_call rfl g_max (.inr (.inl ⟨_, rfl⟩)) (.cons ev_int rfl (.cons (ev_name rfl) rfl .nil)) op_max2) op_add) fun s₆ c₆ F₆ => ?_)
      refine st_nil (st_nil (hQ .next _ ⟨_, _, _, rfl, ?_, (((c₂.trans c₃).trans c₄).trans c₅).trans c₆, F₆⟩))
      have e : lexSt x (i + 1) = ((lexSt x i).1 ++ [symAt x i], (i : Int) + (if 1 < sizeAt x i then sizeAt x i else 1)) := by
        show (if _ then _ else _) = _
        rw [if_pos hb]
      rw [e]
      refine ⟨?_, rfl, rfl, rfl, rfl, rfl, rfl, rfl, rfl, trivial⟩
      show some (Bd.grow S _) = some (Bd.grow S _)
      rw [List.map_append]; rfl
    · rw [decide_eq_false hb, if_neg (by simp)]
      refine st_nil (st_nil (hQ .next _ ⟨_, _, _, rfl, ?_, c₂.trans c₃, F₃⟩))
      have e : lexSt x (i + 1) = lexSt x i := by
        show (if _ then _ else _) = _
        rw [if_neg hb]
      rw [e]
      exact (looks (by rfl))
  · rintro κ Z₁ s₂ rfl c₂ F₂
    rw [upTo_length] at F₂
    replace c := c.trans c₂
    refine st_nil ?_
    obtain ⟨hsm, hsl⟩ := lexSt_small hx x.length
    have hz : (syms x ++ [0, 255, 256, -1]).length ≤ sizeLine := sl (by rw [List.length_append]; show (lexSt x x.length).1.length + 4 ≤ _; omega)
    refine st_seq (st_if (v := false) F₂ hA rfl (EvT.cast (evt_cmp (ev_lc (l := syms x ++ [0, 255, 256, -1]) (g := .int) (p := fun _ => false) (f := .int) (by kernel_rfl) (evit_flat (Ev.cast (ev_bin (ev_name rfl) (ev_list (.cons ev_int rfl (.cons ev_int rfl (.cons ev_int rfl (.cons (ev_neg ev_int) rfl .nil)))) (sl (Nat.le_of_ble_eq_true rfl))) (op_addl (sl ?_))) ?_) (flts_ints _)) (fun y hy X' env' => ⟨?_, fun h => nomatch h⟩) hz) (ev_list .nil (sl (Nat.le_of_ble_eq_true rfl))) (op_ne_nil ?_)) ?_) fun s₃ c₃ F₃ => ?_)
    · show ((lexSt x x.length).1.map D.int).length + 4 ≤ _
      rw [List.length_map]; omega
    · exact congrArg D.lst (List.map_append (f := D.int) (l₁ := syms x) (l₂ := [0, 255, 256, -1])).symm
    · refine EvT.cast (evt_or3 (evt_cmp (ev_def spec_isterminal rfl g_isterminal (by kernel_rfl) (.cons (ev_name rfl) rfl .nil)) (ev_cmp (ev_name rfl) ev_int op_lt) op_isnb) (fun _ => evt_cmp (ev_def spec_isnonterminal rfl g_isnonterminal (by kernel_rfl) (.cons (ev_name rfl) rfl .nil)) (ev_cmp (ev_name rfl) ev_int op_gt) op_isnb) (fun _ _ => evt_cmp (ev_def spec_iseof rfl g_iseof (by kernel_rfl) (.cons (ev_name rfl) rfl .nil)) (ev_cmp (ev_name rfl) ev_int op_eq) op_isnb)) ?_
      have e1 : (decide (256 ≤ y) != decide (255 < y)) = false := by
        by_cases h : 256 ≤ y
        · rw [decide_eq_true h, decide_eq_true (by first | exact Nat.le_trans (by assumption) (by decide) | omega)]; rfl
        · rw [decide_eq_false h, decide_eq_false (by first | exact Nat.le_trans (by assumption) (by decide) | omega)]; rfl
      have e2 : (decide (y < 256) != decide (y < 256)) = false := by cases decide (y < 256) <;> rfl
      have e3 : ((y == 0) != (y == 0)) = false := by cases (y == 0) <;> rfl
      rw [e1, e2, e3]; rfl
    · rw [List.filter_eq_nil_iff.mpr (by simp)]; rfl
    · rw [List.filter_eq_nil_iff.mpr (by simp)]; rfl
    refine st_nil ?_
    replace c := c.trans c₃
    have F₃ := F₃.lessL (κ := ([("symbols", .grow S ((syms x).map .int)), ("rows", .grow R (pinit.rows.map intsD)), ("row", .grow r (pinit.row.map .int)), ("place", .own (.int pinit.place)), ("number", .own (.int pinit.number)), ("sign", .own (.int pinit.sign)), ("side", .own (.int pinit.side))] : Vs)) (looks (by rfl))
    refine st_seq (st_forK (fun i κ => ∃ r, ¬ X r ∧ κ = kp R r (((syms x ++ [0]).take i).foldl pstep pinit)) (fun _ => False) (κ₀ := kp R r pinit) F₃ hA rfl rfl (evit_flat (ds := (syms x ++ [0]).map .int) (Ev.cast (ev_bin (ev_name rfl) (ev_list (.cons ev_int rfl .nil) (sl (Nat.le_of_ble_eq_true rfl))) (op_addl (sl ?_))) ?_) (flts_ints _)) ⟨r, hXr, rfl⟩ (looks (by rfl)) ?_ ?_ (fun _ _ _ q => q.elim))
    · show ((lexSt x x.length).1.map D.int).length + 1 ≤ _
      rw [List.length_map]; omega
    · exact congrArg D.lst (List.map_append (f := D.int) (l₁ := syms x) (l₂ := [0])).symm
    · rintro i d κ Z₂ G₁ s₄ Qt hQ hd ⟨r, hXr, rfl⟩ c₄ F₄
      obtain ⟨y, hy, rfl⟩ := map_at hd
      have hyb : 0 ≤ y ∧ y < 384 := by
        rcases List.mem_append.mp (List.mem_of_getElem? hy) with h | h
        · exact hsm y h
        · rw [List.mem_singleton.mp h]; decide
      have hp : ((syms x ++ [0]).take (i + 1)).foldl pstep pinit = pstep (((syms x ++ [0]).take i).foldl pstep pinit) y := by
        rw [take_succ_of hy, List.foldl_append]; rfl
      have hg := pgood_fold ((syms x ++ [0]).take i) pinit pgood_init
      have hrl : (((syms x ++ [0]).take i).foldl pstep pinit).rows.length ≤ 5001 := by
        have h1 := rows_fold ((syms x ++ [0]).take i) pinit
        have h2 := List.length_take_le' i (syms x ++ [0])
        have h3 : (syms x ++ [0]).length = (lexSt x x.length).1.length + 1 := by rw [List.length_append]; rfl
        have h4 : pinit.rows.length = 0 := rfl
        omega
      generalize ((syms x ++ [0]).take i).foldl pstep pinit = p at hg hp F₄ hrl
      rw [hp] at hQ
      clear hp
      have hyn : y - 256 = (((y - 256).toNat : Nat) : Int) ∨ y < 256 := by omega
      have cF : 256 ≤ y → ∃ f : Fin 128, (y - 256).toNat = f.val ∧ y = 256 + (f.val : Int) := fun h => ⟨⟨(y - 256).toNat, by omega⟩, rfl, by show y = 256 + (((y - 256).toNat : Nat) : Int); omega⟩
      refine st_seq (st_if (v := decide (256 ≤ y) && isL y) F₄ hA rfl (evt_and (evt_val (ev_def spec_isnonterminal rfl g_isnonterminal (by kernel_rfl) (.cons (ev_name rfl) rfl .nil)) truthy_bool') fun h => ?_) fun s₅ c₅ F₅ => ?_)
      · have h : 256 ≤ y := by first | exact of_decide_eq_true h | exact of_decide_eq_false h | exact bne_iff_ne.mp h | exact eq_of_beq h | simpa using h
        obtain ⟨f, hf, hyf⟩ := cF h
        refine EvT.cast (evt_cmp (ev_chr rfl rfl h hyb.2) ev_str op_ins) ?_
        rw [hf, isL_occ f, ← hyf]
      by_cases hA1 : 256 ≤ y ∧ isL y = true
      · have hv : (decide (256 ≤ y) && isL y) = true := by rw [decide_eq_true hA1.1, hA1.2]; rfl
        rw [hv, if_pos rfl]
        obtain ⟨f, hf, hyf⟩ := cF hA1.1
        refine st_seq (st_assign (d := .int (plc y)) F₅ hA rfl rfl (Ev.cast (ev_index ev_str (ev_lower (ev_chr rfl rfl hA1.1 hyb.2) (by rw [hf]; exact low_fit f)) (by rw [hf]; exact plc_occ f (by rw [← hyf]; exact hA1.2))) ?_) fun s₆ c₆ F₆ => ?_)
        · rw [← hyf]
          unfold plc; split <;> rfl
        refine st_nil (st_nil (hQ .next _ ⟨_, _, _, ⟨r, hXr, rfl⟩, ?_, (c₄.trans c₅).trans c₆, F₆⟩))
        have e : pstep p y = { p with place := plc y } := by unfold pstep; rw [if_pos hA1.1, if_pos hA1.2]
        rw [e]
        exact (looks (by rfl))
      · have hv : (decide (256 ≤ y) && isL y) = false := by
          cases h1 : decide (256 ≤ y) with
          | false => rfl
          | true =>
            cases h2 : isL y with
            | false => rfl
            | true => exact absurd ⟨by first | exact of_decide_eq_true h1 | exact of_decide_eq_false h1 | exact bne_iff_ne.mp h1 | exact eq_of_beq h1 | simpa using h1, h2⟩ hA1
        rw [hv, if_neg (by simp)]
        refine st_seq (st_if F₅ hA rfl (evt_val (ev_def spec_isnonterminal rfl g_isnonterminal (by kernel_rfl) (.cons (ev_name rfl) rfl .nil)) truthy_bool') fun s₆ c₆ F₆ => ?_)
        by_cases hB : 256 ≤ y
        · rw [decide_eq_true hB, if_pos rfl]
          have hnl : ¬ isL y = true := fun h => hA1 ⟨hB, h⟩
          refine st_seq (st_assign (d := .int (10 * p.number + y - 304)) F₆ hA rfl rfl (ev_bin (ev_bin (ev_bin ev_int (ev_name rfl) (op_mul (muls (by decide)))) (ev_name rfl) op_add) ev_int op_sub) fun s₇ c₇ F₇ => ?_)
          refine st_nil (st_nil (st_nil (hQ .next _ ⟨_, _, _, ⟨r, hXr, rfl⟩, ?_, ((c₄.trans c₅).trans c₆).trans c₇, F₇⟩)))
          have e : pstep p y = { p with number := 10 * p.number + y - 304 } := by unfold pstep; rw [if_pos hB, if_neg hnl]
          rw [e]
          exact (looks (by rfl))
        · rw [decide_eq_false hB, if_neg (by simp)]
          have hlt : y < 256 := by omega
          refine st_seq (st_if (v := decide (y < 256) && (y != 16)) F₆ hA rfl (evt_and (evt_val (ev_def spec_isterminal rfl g_isterminal (by kernel_rfl) (.cons (ev_name rfl) rfl .nil)) truthy_bool') fun h => evt_cmp (ev_name rfl) ev_int op_ne) fun s₇ c₇ F₇ => ?_)
          replace c₇ := ((c₄.trans c₅).trans c₆).trans c₇
          by_cases hC : y = 16
          · have hv : (decide (y < 256) && (y != 16)) = false := by rw [hC]; rfl
            rw [hv, if_neg (by simp)]
            refine st_nil (st_nil (st_nil (st_nil (hQ .next _ ⟨_, _, _, ⟨r, hXr, rfl⟩, ?_, c₇, F₇⟩))))
            have e : pstep p y = p := by unfold pstep; rw [if_neg hB, if_neg (by first | exact of_decide_eq_true hC | exact of_decide_eq_false hC | exact bne_iff_ne.mp hC | exact eq_of_beq hC | simpa using hC)]
            rw [e]
            exact (looks (by rfl))
          · have hv : (decide (y < 256) && (y != 16)) = true := by rw [decide_eq_true hlt]; simpa using hC
            rw [hv, if_pos rfl]
            obtain ⟨g1, g2, g3, g4, g5⟩ := hg
            have hss : (p.sign * p.side).natAbs < 2 ^ 60 ∧ p.sign.natAbs < 2 ^ 60 := by
              rcases g4 with h | h <;> rcases g5 with h' | h' <;> rw [h, h'] <;> decide
            have hpr : (p.row.map D.int)[p.place.toNat]? = some (.int (p.row.getD p.place.toNat 0)) := by
              rw [List.getElem?_map, List.getD_eq_getElem?_getD, List.getElem?_eq_getElem (by first | exact Nat.le_trans (by assumption) (by decide) | omega)]; rfl
            refine st_seq (st_aug_item (x := "row") (k := p.place) (d1 := .int (p.row.getD p.place.toNat 0)) (d2 := .int (p.sign * p.side * p.number)) (d := .int (p.row.getD p.place.toNat 0 + p.sign * p.side * p.number)) F₇ hA rfl rfl (ev_name rfl) g2 (by first | exact Nat.le_trans (by assumption) (by decide) | omega) hpr (ev_bin (ev_bin (ev_name rfl) (ev_name rfl) (op_mul (muls hss.2))) (ev_name rfl) (op_mul (muls hss.1))) op_iadd fun s₈ c₈ F₈ => ?_)
            replace c₈ := c₇.trans c₈
            refine st_seq ?_
            with_reducible refine st_assign_tuple (sw := some ["place", "number", "sign"]) (cs := [.val (.int 2), .val (.int 0), .val (.int (if y = 15 then -1 else 1))]) F₈ hA ?_ ?_ ?_ ?_ ?_ ?_ ?_ ?_ ?_ ?_ (hs := ?_)
            · rfl
            · refine .val (fun X => ev_int) rfl (.val (fun X => ev_int) rfl (.val (fun X => ev_if (evt_cmp (ev_name rfl) ev_int op_eq) (fun h => ?_) fun h => ?_) rfl .nil))
              · have h : y = 15 := by first | exact of_decide_eq_true h | exact of_decide_eq_false h | exact bne_iff_ne.mp h | exact eq_of_beq h | simpa using h
                exact Ev.cast (ev_neg ev_int) (by rw [if_pos h])
              · have h : ¬ y = 15 := by first | exact of_decide_eq_true h | exact of_decide_eq_false h | exact bne_iff_ne.mp h | exact eq_of_beq h | simpa using h
                exact Ev.cast ev_int (by rw [if_neg h])
            · rfl
            · rfl
            · rfl
            · exact sl (Nat.le_of_ble_eq_true rfl)
            · rfl
            · rfl
            · rfl
            rotate_left 1
            · rfl
            intro hnew s₉ c₉ F₉
            replace c₉ := c₈.trans c₉
            have F₉ := F₉.lessL (κ := (("symbol", .own (.int y)) :: kp R r (pflush p y) : Vs)) ⟨rfl, rfl, by
              show some (Bd.grow r _) = some (Bd.grow r _)
              unfold pflush
              rw [List.map_set], rfl, rfl, rfl, rfl, trivial⟩
            have hstep : pstep p y = (if [20, 21, 29, 30].any (· == y) then { pflush p y with row := (pflush p y).row.set 3 y, side := -1 }
                else if y = 13 ∨ y = 0 then { pflush p y with rows := (pflush p y).rows ++ [(pflush p y).row], row := [0, 0, 0, 0], side := 1 } else pflush p y) := by
              unfold pstep
              rw [if_neg hB, if_pos (by first | exact of_decide_eq_true hC | exact of_decide_eq_false hC | exact bne_iff_ne.mp hC | exact eq_of_beq hC | simpa using hC)]
              rfl
            have hql : (pflush p y).row.length = 4 := by unfold pflush; simp [g1]
            have hqr : (pflush p y).rows.length ≤ 100000 := by show p.rows.length ≤ 100000; omega
            rw [hstep] at hQ
            clear hstep
            generalize pflush p y = q at F₉ hql hqr hQ
            refine st_seq (st_if (v := [20, 21, 29, 30].any (· == y)) F₉ hA rfl (evt_cmp (d2 := .tup (([20, 21, 29, 30] : List Int).map .int)) (ev_name rfl) (ev_tuple (.cons ev_int rfl (.cons ev_int rfl (.cons ev_int rfl (.cons ev_int rfl .nil)))) (sl (Nat.le_of_ble_eq_true rfl))) op_in_ints) fun t₁ d₁ K₁ => ?_)
            replace d₁ := c₉.trans d₁
            cases hD : [20, 21, 29, 30].any (· == y) with
            | true =>
              rw [hD, if_pos rfl] at hQ
              refine st_seq (st_assign_item_name (x := "row") (y := "side") (j := 3) (d1 := .int y) (d2 := .int (-1)) K₁ hA rfl rfl rfl rfl (ev_name rfl) (ev_neg ev_int) (fun _ => ev_int) (by decide) (by rw [List.length_map, hql]; decide) (by decide) (fun t₂ d₂ K₂ => ?_) (hw := (sw_eq K₁.scope K₁.fn (fun e => by cases e)).trans rfl))
              refine st_nil (st_nil (st_nil (st_nil (st_nil (hQ .next _ ⟨_, _, _, ⟨r, hXr, rfl⟩, ?_, d₁.trans d₂, K₂⟩)))))
              refine ⟨rfl, ?_, rfl, rfl, rfl, rfl, trivial⟩
              show some (Bd.grow r _) = some (Bd.grow r _)
              rw [List.map_set]; rfl
            | false =>
              rw [hD, if_neg Bool.false_ne_true] at hQ
              refine st_seq (st_if (v := (y == 13) || (y == 0)) K₁ hA rfl (evt_or (evt_cmp (ev_name rfl) ev_int op_eq) fun _ => evt_val (ev_def spec_iseof rfl g_iseof (by kernel_rfl) (.cons (ev_name rfl) rfl .nil)) truthy_bool') fun t₂ d₂ K₂ => ?_)
              replace d₂ := d₁.trans d₂
              by_cases hE : y = 13 ∨ y = 0
              · have hv : ((y == 13) || (y == 0)) = true := by first | exact of_decide_eq_true hE | exact of_decide_eq_false hE | exact bne_iff_ne.mp hE | exact eq_of_beq hE | simpa using hE
                rw [hv]
                rw [if_pos hE] at hQ
                have K₃ := K₂.freeze (x := "row") rfl hXr
                refine st_seq (st_append (d := intsD q.row) K₃ hA rfl rfl (ev_name rfl) (sl (by rw [List.length_map]; exact hqr)) fun t₄ d₄ K₄ => ?_)
                refine st_seq ?_
                with_reducible refine st_assign_tuple (sw := some ["row", "side"]) (cs := [.new [.int 0, .int 0, .int 0, .int 0], .val (.int 1)]) K₄ hA ?_ ?_ ?_ ?_ ?_ ?_ ?_ ?_ ?_ ?_ (hs := ?_)
                · rfl
                · exact .new (fun X => evn_list (.cons ev_int rfl (.cons ev_int rfl (.cons ev_int rfl (.cons ev_int rfl .nil)))) (sl (Nat.le_of_ble_eq_true rfl))) rfl (.val (fun X => ev_int) rfl .nil)
                · rfl
                · rfl
                · rfl
                · exact sl (Nat.le_of_ble_eq_true rfl)
                · rfl
                · rfl
                · rfl
                rotate_left 1
                · rfl
                intro r' hnew' t₅ d₅ K₅
                refine st_nil (st_nil (st_nil (st_nil (st_nil (st_nil (hQ .next _ ⟨_, _, _, ⟨r', (hnew' r' (by simp [growsOf])).1, rfl⟩, ?_, (d₂.trans d₄).trans d₅, K₅⟩))))))
                refine ⟨?_, rfl, rfl, rfl, rfl, rfl, trivial⟩
                show some (Bd.grow R _) = some (Bd.grow R _)
                rw [List.map_append]; rfl
              · have hv : ((y == 13) || (y == 0)) = false := by
                  cases h : ((y == 13) || (y == 0)) with
                  | false => rfl
                  | true => exact absurd (by first | exact of_decide_eq_true h | exact of_decide_eq_false h | exact bne_iff_ne.mp h | exact eq_of_beq h | simpa using h) hE
                rw [hv]
                rw [if_neg hE] at hQ
                refine st_nil (st_nil (st_nil (st_nil (st_nil (st_nil (hQ .next _ ⟨_, _, _, ⟨r, hXr, rfl⟩, (looks (by rfl)), d₂, K₂⟩))))))
    · rintro κ Z₂ s₄ ⟨r, hXr, rfl⟩ c₄ F₄
      rw [List.length_map, List.take_length] at F₄
      refine st_nil ?_
      have F₅ := F₄.freeze (x := "rows") rfl hXR
      exact st_ret F₅ hA rfl (c.trans c₄) (fun _ q => q) (ev_name rfl)
end
end Mine

open PySem PySem.W PyProof.Rows PySem.AutoIntOps
set_option Elab.async false
set_option linter.unusedVariables false
set_option linter.unusedSimpArgs false
set_option maxRecDepth 100000
set_option maxHeartbeats 1000000
namespace Mine
/-! # the words of the flags -/
noncomputable def wordAt : Nat → Str
  | 0 => "OPTIMIZED"
  | 1 => "NEWLOCALS"
  | 2 => "VARARGS"
  | _ => "VARKEYWORDS"
noncomputable def wordsTo (f i : Nat) : List Str := ((List.range i).filter fun k => f / 2 ^ k % 2 == 1).map wordAt
noncomputable def left (f i : Nat) : Nat := f / 2 ^ i * 2 ^ i
noncomputable def told (f : Nat) : Str := Txt.join (Str.ofString ", ") (wordsTo f 4)
theorem bits_and : ∀ (f : Fin 16) (i : Fin 4), (Builtin.bitAnd (left f.val i.val : Nat) ((2 ^ i.val : Nat) : Int) != 0) = (f.val / 2 ^ i.val % 2 == 1) := by decide +kernel
theorem bits_xor : ∀ (f : Fin 16) (i : Fin 4), f.val / 2 ^ i.val % 2 = 1 → Builtin.bitXor (left f.val i.val : Nat) ((2 ^ i.val : Nat) : Int) = (left f.val (i.val + 1) : Nat) := by decide +kernel
theorem bits_no : ∀ (f : Fin 16) (i : Fin 4), f.val / 2 ^ i.val % 2 ≠ 1 → left f.val i.val = left f.val (i.val + 1) := by decide +kernel
theorem words_all : ∀ (f : Fin 16) (i : Fin 4), left f.val (i.val + 1) = 0 → wordsTo f.val (i.val + 1) = wordsTo f.val 4 := by decide +kernel
theorem flag_names : ∀ i : Fin 4, Spec.lookup (.int ((2 ^ i.val : Nat) : Int)) flgP = some (.str (wordAt i.val)) := fun i => by
  match i with
  | ⟨0, _⟩ => rfl
  | ⟨1, _⟩ => rfl
  | ⟨2, _⟩ => rfl
  | ⟨3, _⟩ => rfl
theorem hex_fit : ∀ i : Fin 4, (baseText "0x" 16 ((2 ^ i.val : Nat) : Int)).length ≤ 100000 := by decide +kernel
theorem join_ok : ∀ f : Fin 16, JoinOk (Str.ofString ", ") (wordsTo f.val 4) = true := by decide +kernel
theorem left_pos {f i : Nat} (hf : f < 16) (h : left f i ≠ 0) : i < 4 := by
  refine Classical.byContradiction fun hn => h ?_
  have h16 : 2 ^ 4 ≤ 2 ^ i := Nat.pow_le_pow_right (by decide : 2 > 0) (by omega : 4 ≤ i)
  have : f / 2 ^ i = 0 := Nat.div_eq_of_lt (by first | exact Nat.le_trans (by assumption) (by decide) | omega)
  unfold left; rw [this, Nat.zero_mul]
section
variable {w : World} {n : Nat}
theorem spec_flags {f : Nat} (h0 : f ≠ 0) (hf : f < 16) : Spec w (n + 1) 194 [.int (f : Nat)] (.str (told f)) := by
  refine spec_of (names := ["flags"]) rfl rfl rfl rfl rfl rfl rfl rfl rfl rfl rfl (fun v => by show _ = some _; kernel_rfl) (by decide) (by decide +kernel) rfl ?_
  intro X A env s s₀ H hA c F
  refine st_seq (st_assign_new F hA rfl rfl (evn_list .nil (sl (Nat.le_of_ble_eq_true rfl))) fun a s₁ hXa _ c₁ F₁ => ?_)
  replace c := c.trans c₁
  refine st_seq (st_forK (fun i κ => left f i ≠ 0 ∧ κ = ([("names", .grow a ((wordsTo f i).map .str)), ("flags", .own (.int (left f i : Nat)))] : Vs)) (fun κ => κ = ([("names", .grow a ((wordsTo f 4).map .str))] : Vs)) F₁ hA rfl rfl (evit_range (m := 32) ev_int rfl g_range (by decide)) ⟨by unfold left; simpa using h0, rfl⟩ ⟨rfl, by show some (Bd.own (D.int _)) = some (Bd.own (D.int _)); unfold left; simp, trivial⟩ ?_ ?_ ?_)
  · rintro i d κ Z₁ G₁ s₂ Qt hQ hd ⟨hne, rfl⟩ c₂ F₂
    obtain ⟨_, rfl⟩ := upTo_get hd
    have hi := left_pos hf hne
    have fx := bits_and ⟨f, hf⟩ ⟨i, hi⟩
    have fy := bits_xor ⟨f, hf⟩ ⟨i, hi⟩
    have fz := bits_no ⟨f, hf⟩ ⟨i, hi⟩
    have fw := words_all ⟨f, hf⟩ ⟨i, hi⟩
    dsimp only at fx fy fz fw
    have hws : wordsTo f (i + 1) = wordsTo f i ++ (if f / 2 ^ i % 2 = 1 then [wordAt i] else []) := by
      unfold wordsTo
      rw [List.range_succ, List.filter_append, List.map_append]
      congr 1
      by_cases h : f / 2 ^ i % 2 = 1
      · rw [if_pos h, List.filter_cons_of_pos (by first | exact of_decide_eq_true h | exact of_decide_eq_false h | exact bne_iff_ne.mp h | exact eq_of_beq h | simpa using h)]; rfl
      · rw [if_neg h, List.filter_cons_of_neg (by first | exact of_decide_eq_true h | exact of_decide_eq_false h | exact bne_iff_ne.mp h | exact eq_of_beq h | simpa using h)]; rfl
    refine st_seq (st_assign (d := .int ((2 ^ i : Nat) : Int)) F₂ hA rfl rfl (Ev.cast (ev_bin ev_int (ev_name rfl) (op_shl (by first | exact Nat.le_trans (by assumption) (by decide) | omega) (by first | exact Nat.le_trans (by assumption) (by decide) | omega) (by decide))) (by rw [Int.toNat_natCast, Int.one_mul]; simp)) fun s₃ c₃ F₃ => ?_)
    refine st_seq (st_if (v := f / 2 ^ i % 2 == 1) F₃ hA rfl (EvT.cast (evt_val (ev_bin (ev_name rfl) (ev_name rfl) op_and) truthy_int') fx) fun s₄ c₄ F₄ => ?_)
    replace c₄ := (c₂.trans c₃).trans c₄
    by_cases hb : f / 2 ^ i % 2 = 1
    · rw [show (f / 2 ^ i % 2 == 1) = true by first | exact of_decide_eq_true hb | exact of_decide_eq_false hb | exact bne_iff_ne.mp hb | exact eq_of_beq hb | simpa using hb, if_pos rfl]
      refine st_seq (st_append (d := .str (wordAt i)) F₄ hA rfl rfl (ev_flag (ev_name rfl) (ev_call rfl g_hex (.inr (.inl ⟨_, rfl⟩)) (.cons (ev_name rfl) rfl .nil) (op_hex (sl (hex_fit ⟨i, hi⟩)))) rfl (by rw [flag_names ⟨i, hi⟩]; rfl)) (sl (by rw [List.length_map]; unfold wordsTo; rw [List.length_map]; exact Nat.le_trans (List.length_filter_le _ _) (by rw [List.length_range]; omega))) fun s₅ c₅ F₅ => ?_)
      refine st_seq (st_aug F₅ hA rfl rfl rfl (ev_name rfl) op_ixor fun s₆ c₆ F₆ => ?_)
      rw [fy hb] at F₆
      refine st_seq (st_if (v := !((left f (i + 1) : Nat) : Int) != 0) F₆ hA rfl (evt_not (evt_val (ev_name rfl) truthy_int')) fun s₇ c₇ F₇ => ?_)
      replace c₇ := ((c₄.trans c₅).trans c₆).trans c₇
      by_cases hz : left f (i + 1) = 0
      · rw [hz]
        refine st_seq (st_break (hQ .brk _ ⟨_, _, _, rfl, ⟨?_, trivial⟩, c₇, F₇⟩))
        show some (Bd.grow a _) = some (Bd.grow a _)
        rw [← fw hz, hws, if_pos hb, List.map_append]; rfl
      · have : (((left f (i + 1) : Nat) : Int) != 0) = true := by first | exact of_decide_eq_true hz | exact of_decide_eq_false hz | exact bne_iff_ne.mp hz | exact eq_of_beq hz | simpa using hz
        rw [this]
        refine st_nil (st_nil (st_nil (hQ .next _ ⟨_, _, _, ⟨hz, rfl⟩, ⟨?_, rfl, trivial⟩, c₇, F₇⟩)))
        show some (Bd.grow a _) = some (Bd.grow a _)
        rw [hws, if_pos hb, List.map_append]; rfl
    · rw [show (f / 2 ^ i % 2 == 1) = false by first | exact of_decide_eq_true hb | exact of_decide_eq_false hb | exact bne_iff_ne.mp hb | exact eq_of_beq hb | simpa using hb, if_neg (by simp)]
      refine st_nil (st_nil (hQ .next _ ⟨_, _, _, ⟨by rw [← fz hb]; exact hne, rfl⟩, ⟨?_, by rw [← fz hb]; rfl, trivial⟩, c₄, F₄⟩))
      show some (Bd.grow a _) = some (Bd.grow a _)
      rw [hws, if_neg hb, List.append_nil]
  · rintro κ Z₁ s₂ ⟨hne, rfl⟩ c₂ F₂
    exact absurd (left_pos hf hne) (by rw [upTo_length]; decide)
  · rintro κ Z₁ s₂ rfl c₂ F₂
    exact st_ret F₂ hA rfl (c.trans c₂) (fun _ q => q) (ev_join ev_str (ev_name rfl) (join_ok ⟨f, hf⟩))
end
end Mine

open PySem PySem.W PyProof.Rows PySem.AutoIntOps
set_option Elab.async false
set_option linter.unusedVariables false
set_option linter.unusedSimpArgs false
set_option maxRecDepth 100000
namespace Mine
/-! # re.Pattern.search of a set of signs, none of which stands in the text -/
theorem slot_search : Slot "re.Pattern" "search" "re.Pattern.search" :=
  .of (owner := "re.Pattern") (n := "search") (by rw [typeLookup_type, builtinLookup_eq_fast]; kernel_rfl) (by decide +kernel) (by decide +kernel) (by decide +kernel)
    (by first | exact .inl (by decide +kernel) | exact .inr (by decide +kernel)) (by rw [isSubtype_type]; kernel_rfl)
theorem type_search : typeOf (.builtin "re.Pattern.search") = pure (.type "method_descriptor") := by show builtinType _ = _; rw [builtinType_eq_fast]; kernel_rfl
theorem entry_search : entryFor table "re.Pattern.search" = some Builtin.«re.Pattern.search» := entryFor_of_tree (by kernel_rfl)
theorem args_search (a b : Value) : argsOk "re.Pattern.search" ⟨[a, b], []⟩ := by
  unfold argsOk
  rw [PySem.signature?_of (id := "re.Pattern.search") (n := ['h', 'c', 'r', 'a', 'e', 's']) (o := ['n', 'r', 'e', 't', 't', 'a', 'P', '.', 'e', 'r']) (by kernel_rfl) (rows := Manifest.sig_re_Pattern) (by kernel_rfl)]; kernel_rfl
theorem plain_pattern : PlainAttrs "re.Pattern" :=
  ⟨⟨"object.__getattribute__", by rw [typeLookup_type, builtinLookup_eq_fast]; kernel_rfl, by decide +kernel⟩, by rw [typeLookup_type, builtinLookup_eq_fast]; kernel_rfl⟩
open PySem.Sre PySem.Builtin.Re in
/-- the sign is not in the set that the code's head holds -/
noncomputable def Passes (code : Array Nat) (c : Nat) : Prop := ∀ seen, ∃ seen', inSet code c code.size 5 true seen = .ok (false, seen')
open PySem.Sre PySem.Builtin.Re in
theorem admitted_none (m : M) (h : ∀ i, i < m.lim → Passes m.code (m.text.getD i 0)) : ∀ (fuel s : Nat) (seen : PySem.Sre.Seen), ∃ seen', m.admitted fuel s seen = .ok (none, seen')
  | 0, s, seen => ⟨seen, rfl⟩
  | fuel + 1, s, seen => by
    unfold M.admitted
    by_cases hs : s ≥ m.lim
    · exact ⟨seen, by rw [if_pos hs]⟩
    · obtain ⟨seen', e⟩ := h s (by first | exact Nat.le_trans (by assumption) (by decide) | omega) seen
      obtain ⟨seen'', e'⟩ := admitted_none m h fuel (s + 1) seen'
      exact ⟨seen'', by rw [if_neg hs, e]; exact e'⟩
open PySem.Sre PySem.Builtin.Re in
theorem attemptFrom_none (m : M) (hf : m.hasFirstSet = true) (h : ∀ i, i < m.lim → Passes m.code (m.text.getD i 0)) (h1 : m.frames = []) (h2 : m.outcome = none) (s : Nat) (first : Bool) :
    (m.attemptFrom s first).answer = some false ∧ (m.attemptFrom s first).frames = [] ∧ (m.attemptFrom s first).outcome = none := by
  obtain ⟨seen', e⟩ := admitted_none m h (m.lim + 1 - s) s m.seen
  have e' : m.attemptFrom s first = { m with seen := seen' }.say false := by unfold M.attemptFrom; rw [hf, e]; rfl
  rw [e']; exact ⟨rfl, h1, h2⟩
open PySem.Sre PySem.Builtin.Re in
theorem forSearch_none {code text : Array Nat} {groups lim : Nat} (hf : ∀ m : M, m.code = code → m.hasFirstSet = true) (h : ∀ i, i < lim → Passes code (text.getD i 0)) :
    (forSearch code text groups 0 lim false).answer = some false ∧ (forSearch code text groups 0 lim false).frames = [] ∧ (forSearch code text groups 0 lim false).outcome = none := by
  unfold forSearch
  dsimp only
  split
  · exact ⟨rfl, rfl, rfl⟩
  · exact attemptFrom_none _ (hf _ rfl) h rfl rfl 0 true
open PySem.Sre PySem.Builtin.Re in
theorem step_failed (m : M) (h1 : m.answer = some false) (h2 : m.frames = []) (h3 : m.outcome = none) : m.step = { m with outcome := some .failed } := by
  unfold M.step
  rw [h3, h1, h2]; rfl
open PySem.Sre PySem.Builtin.Re in
theorem run_failed (m : M) (h1 : m.answer = some false) (h2 : m.frames = []) (h3 : m.outcome = none) (k : Nat) : M.runFor (k + 1) m = { m with outcome := some .failed } := by
  unfold M.runFor
  rw [step_failed m h1 h2 h3, h3]
  show M.runFor k _ = _
  cases k <;> rfl
section
variable {A : Around} {E : Value → Shared → Prop} {s : Shared} {MM : Model}
open PySem.Sre PySem.Builtin.Re in
theorem rules_run {f : Nat → Bool} {g : Nat → String} {l : List Nat} {Q : PUnit → Shared → Prop} (h : Q ⟨⟩ s) :
    wpAny MM A (forIn l PUnit.unit (fun i r => if f i = true then (do rule (g i); pure (ForInStep.yield PUnit.unit)) else pure (ForInStep.yield PUnit.unit))) Q E s := by
  refine wpAny_forIn_list _ (fun _ _ s' => s' = s) _ (fun x rest b s' e => ?_) (fun b s' e => by rw [e]; exact h) l _ rfl
  split
  · exact wpAny_bind (wpAny_rule (wpAny_pure e))
  · exact wpAny_pure e
open PySem.Sre PySem.Builtin.Re in
theorem runToEnd_failed {m : M} {Q : Option M → Shared → Prop} (h1 : m.answer = some false) (h2 : m.frames = []) (h3 : m.outcome = none) (h : Q none s) : wpAny MM A (reRunToEnd m) Q E s := by
  unfold reRunToEnd
  have e64 : (2 : Nat) ^ 64 = 18446744073709551615 + 1 := by decide
  have e : reDrive (2 ^ 64) m = pure { m with outcome := some .failed } := by
    rw [e64]
    unfold reDrive
    show (if (M.runFor 4 m).outcome.isSome = true then pure (M.runFor 4 m) else _) = _
    rw [run_failed m h1 h2 h3 3]; rfl
  rw [e]
  refine wpAny_bind (wpAny_pure ?_)
  refine wpAny_bind ?_
  refine rules_run ?_
  exact wpAny_pure h
open PySem.Sre PySem.Builtin.Re in
theorem named_one {v : Value} : reNamed "re.Pattern.search" "search" ["string", "pos", "endpos"] 1 [v] [] = pure [some v, none, none] := by
  rfl
end
section
variable {A : Around} {E : Value → Shared → Prop} {s : Shared} {w : World}
open PySem.Sre PySem.Builtin.Re in
theorem search_none {a b : Addr} {x : Str} {t : Tok} {f0 f1 f3 f4 : Value} {k6 : Tok} {k2 : Tok} {n : Nat} {items : Array Value} {code : Array Nat} {Q : Value → Shared → Prop}
    (ho : s.heap.get? a = some ⟨.type "re.Pattern", none, .fields #[f0, f1, .int 0 k2, f3, f4, .ref b, .int 0 k6], #[]⟩)
    (hb : s.heap.get? b = some ⟨.type "tuple", none, .seq items n, #[]⟩) (hcode : (items.map reRawOf).map (·.toNat) = code)
    (hf : ∀ m : M, m.code = code → m.hasFirstSet = true) (hx : ∀ i, i < x.length → Passes code (x.cps.getD i 0)) (h : Q .none s) :
    wpAny (Md w) A (call (.builtin "re.Pattern.search") [.ref a, .str x t]) Q E s := by
  have key : Meets (Builtin.«re.Pattern.search» ⟨[.ref a, .str x t], []⟩) (fun A R s' => s' = s ∧ R (.ok (.ret .none)) s) := by
    refine Meets.of_wp fun prog w A R s' ⟨e, hR⟩ => ?_
    subst e
    unfold Builtin.«re.Pattern.search»
    refine wpAny_bind ?_
    unfold reTarget
    show wpAny _ _ (reNamed "re.Pattern.search" "search" ["string", "pos", "endpos"] 1 [.str x t] [] >>= _) _ _ _
    rw [named_one]
    refine wpAny_bind (wpAny_pure ?_)
    refine wpAny_bind (wpAny_pure ?_)
    refine wpAny_bind (wpAny_pure ?_)
    refine wpAny_bind (wpAny_fieldsOf ho rfl ?_)
    refine wpAny_bind (wpAny_pure ?_)
    refine wpAny_bind (wpAny_pure ?_)
    refine wpAny_bind (wpAny_bind (wpAny_seqItems hb rfl (wpAny_pure ?_)))
    refine wpAny_pure ?_
    unfold reAnswer
    have hlim : ((2 ^ 63 - 1 : Int).toNat) = 9223372036854775807 := by decide
    have q := forSearch_none (text := x.cps) (groups := 0) (lim := min (2 ^ 63 - 1 : Int).toNat x.cps.size) hf (fun i hi => hx i (by
      have : x.length = x.cps.size := rfl
      omega))
    rw [← hcode] at q
    exact wpAny_bind (runToEnd_failed q.1 q.2.1 q.2.2 (wpAny_pure ⟨_, rfl, hR⟩))
  exact call_meets slot_search ⟨_, ho, rfl⟩ entry_search (args_search _ _) key ⟨rfl, h⟩
end
end Mine

open PySem PySem.W PyProof.Rows PySem.AutoIntOps
set_option Elab.async false
set_option linter.unusedVariables false
set_option linter.unusedSimpArgs false
set_option maxRecDepth 100000
set_option maxHeartbeats 1000000
namespace Mine
theorem RpL.one_inv {X : Addr → Prop} {h : Heap} {vs : List Value} {d : D} (r : RpL X h vs [d]) : ∃ v, vs = [v] ∧ RpB X h v d ∧ Own X v := by
  obtain ⟨v, _, rfl, r1, o1, r⟩ := r.cons_inv
  cases r.nil_inv
  exact ⟨v, rfl, r1, o1⟩
/-! # statements whose terms are run here; defs that change what stood -/
noncomputable def Bd.isGrow : Bd → Bool
  | .grow _ _ => true
  | _ => false
section
variable {w : World} {n : Nat} {G : Gd} {X Z Z' : Addr → Prop} {env : Env} {sc : Scope} {ρ ρ' : Vs} {H : Heap} {Y : Addr → Prop} {A : Around} {E : Value → Shared → Prop} {s s₀ : Shared} {Q : Flow → Shared → Prop} {h h' : Heap}
theorem st_if_run {c : Expr} {b1 b2 : List Stmt} {pos : Pos} {v : Bool} (F : Fs w G X Z env sc ρ H Y s.heap) (ht : wpAny (Md w) A (isTrue c env (eval c env)) (fun b s' => b = v ∧ Keeps s s') E s)
    (h : ∀ s', Chg s s' → Fs w G X Z env sc ρ H Y s'.heap → wpAny (Md w) A (execs (if v then b1 else b2) env) Q E s') : wpAny (Md w) A (exec (.If c b1 b2 pos) env) Q E s := by
  refine wpAny_If (wpAny_mono ht (fun b s' q => ?_) fun _ _ x => x)
  obtain ⟨rfl, k⟩ := q
  have := h s' (Chg.of_keeps k) (F.told k)
  cases b <;> exact this
theorem st_assign_raw {x : Str} {px pos : Pos} {e : Expr} {u : Value} (F : Fs w G X Z env sc ρ H Y s.heap) (hx : locOrCell sc x = true) (he : wpAny (Md w) A (eval e env) (fun v s' => v = u ∧ Keeps s s') E s)
    (h : ∀ s', Chg s s' → Fs w G X Z env sc ((x, .raw u) :: ρ) H Y s'.heap → Q .next s') (hs : swapsWith e (some (.Name x px)) pos.line env = pure false := by rfl) : wpAny (Md w) A (exec (.Assign [.Name x px] e pos) env) Q E s := by
  refine wpAny_Assign_Name (wpAny_mono he (fun v s₁ q => ?_) fun _ _ x => x) hs
  obtain ⟨rfl, k⟩ := q
  exact fs_store (b := .raw v) (F.told k) hx ⟨(rfl : v = v), fun _ _ e => by cases e⟩ fun s' c F' _ _ => h s' ((Chg.of_keeps k).trans c) F'
theorem st_assign_run {x : Str} {px pos : Pos} {e : Expr} {d : D} (F : Fs w G X Z env sc ρ H Y s.heap) (hx : locOrCell sc x = true) (he : wpAny (Md w) A (eval e env) (Yld (XZ X Z) true d s) E s)
    (h : ∀ s', Chg s s' → Fs w G X Z env sc ((x, .own d) :: ρ) H Y s'.heap → Q .next s') (hs : swapsWith e (some (.Name x px)) pos.line env = pure false := by rfl) : wpAny (Md w) A (exec (.Assign [.Name x px] e pos) env) Q E s := by
  refine wpAny_Assign_Name (wpAny_mono he (fun v s₁ q => ?_) fun _ _ x => x) hs
  obtain ⟨r, o, k⟩ := q
  exact fs_store (F.told k) hx (fit_own r (o rfl)) fun s' c F' _ _ => h s' ((Chg.of_keeps k).trans c) F'
theorem raw_name {x : Str} {u : Value} {p : Pos} {Q : Value → Shared → Prop} (F : Fs w G X Z env sc ρ H Y s.heap) (hx : ρ.lookup x = some (.raw u)) (q : Q u s) (hd : (x == ("__debug__" : Str)) = false := by decide) (hst : (x == star) = false := by decide) :
    wpAny (Md w) A (eval (.Name x p) env) Q E s := by
  obtain ⟨m, cm, f, g⟩ := F.fm
  obtain ⟨l, v, e1, e2⟩ := g x _ hx
  have hst : x ≠ star := by first | exact of_decide_eq_true hst | exact of_decide_eq_false hst | exact bne_iff_ne.mp hst | exact eq_of_beq hst | simpa using hst
  have l := l hst
  have e1 := e1 hst
  have e2 : v = u := e2
  subst e2
  have nm := f.nameIs (by rw [F.scope]; exact l) (mem_allNames l) e1
  exact wpAny_Name (nm.load (by rw [F.scope]; exact F.fn) q) hd
theorem fs_in {m cm : Str → Option Value} {s' : Shared} {binds : List (Str × Value)} (B : Bs w s.heap) (BH : Bs w H) (hH : Ext H s.heap) (hk : sc.kind = .function) (hbk : ∀ x ∈ binds, locOrCell sc x.1 = true)
    (hlow : ∀ a, XZ X Z a → ∃ o, s.heap.get? a = some o)
    (hρ : ∀ x b, ρ.lookup x = some b → ∃ v, (x ≠ star → (x, v) ∈ binds) ∧ Holds1 X Z s.heap v b)
    (hdist : ∀ x y a ds es, ρ.lookup x = some (.grow a ds) → ρ.lookup y = some (.grow a es) → x = y) (hmine : ∀ a, Z a → Y a ∨ H.get? a = none)
    (hP : ∀ b o, G.P b o → s.heap.get? b = some o ∧ ∀ x ds, ρ.lookup x ≠ some (.grow b ds)) (hW : ∀ a, G.W a → Z a ∧ (∀ x ds, ρ.lookup x ≠ some (.grow a ds)) ∧ H.get? a = none) (hS : ∀ b, G.S b → ¬ Z b ∧ ∃ o, s.heap.get? b = some o)
    (hsc : env.scope = sc) (hg : env.globals = mainGlobals) (hbl : env.builtins = builtinsNs) (fm : Fm env (allNames sc) m cm s'.heap) (hbd : ∀ x v, (x, v) ∈ binds → (if env.kindOf x = some .local then m x else cm x) = some v) (k : Keeps s s') (hnew : ∀ b, Fm.at env (allNames sc) b → s.heap.get? b = none) :
    Fs w G X Z env sc ρ H Y s'.heap := by
  have ke := keeps_ext k
  refine ⟨B.ext ke, BH, hsc, hk, hg, hbl, fun a q => ?_, ⟨m, cm, fm, fun x b e => ?_⟩, hdist, fun b q => ?_, fun b o _ e => ke b o (hH b o e), hmine, fun b o q => ?_, fun a q => ?_, fun b o e => ⟨o, ke _ _ (hH _ _ e)⟩, fun b q => ?_⟩
  · obtain ⟨o, e⟩ := hlow a q; exact ⟨o, ke _ _ e⟩
  · obtain ⟨v, e1, e2⟩ := hρ x b e
    exact ⟨fun hx => hbk _ (e1 hx), v, fun hx => hbd x v (e1 hx), e2.ext ke⟩
  · cases e : H.get? b with
    | none => rfl
    | some o => have := hH _ _ e; rw [hnew b q] at this; cases this
  · obtain ⟨e1, e2⟩ := hP b o q
    refine ⟨ke _ _ e1, fun z => ?_, e2⟩
    rw [hnew b z] at e1; cases e1
  · obtain ⟨q1, q2, q3⟩ := hW a q
    refine ⟨q1, fun z => ?_, q2, q3⟩
    obtain ⟨o, e⟩ := hlow a (.inr q1)
    rw [hnew a z] at e; cases e
  · obtain ⟨z, o, e⟩ := hS b q; exact ⟨z, o, ke _ _ e⟩
/-- a def of the text, entered with any arguments -/
theorem def_inH {f : Addr} {fd : FuncData} {od : Option Addr} {osl : Array (Option Value)} {oc : Value} {body : List Stmt} {args : Args} {binds : List (Str × Value)} {R : Result → Shared → Prop} {cd : Addr} {oc' : Value} {cdd : Option Addr} {cs : Array (Option Value)} {cvs : Array Value} {tq : Tok}
    (hA : Rm (n + 1) A) (B : Bs w s.heap) (BH : Bs w H) (hH : Ext H s.heap) (hl : (KK w.params).lookup f = some ⟨oc, od, .func fd, osl⟩) (hb : fd.body = .stmts body) (hco : fd.scope.isCoroutine = false) (hgen : fd.scope.isGenerator = false) (hk : fd.scope.kind = .function) (hclo : fd.closure = []) (hglo : fd.globals = mainGlobals) (hblt : fd.builtins = builtinsNs)
    (hcode : fd.code = .ref cd) (hcl : (KK w.params).lookup cd = some ⟨oc', cdd, .fields cvs, cs⟩) (hq : cvs[1]? = some (.str fd.qualname tq))
    (hbinds : peek (KK w.params) ⟨PySem.Challenge.pw_ta0079_01, w.params⟩ (bindArgs fd args) = some binds) (hnd : (binds.map (·.1)).Nodup) (hbk : ∀ x ∈ binds, locOrCell fd.scope x.1 = true)
    (hlow : ∀ a, XZ X Z a → ∃ o, s.heap.get? a = some o)
    (hρ : ∀ x b, ρ.lookup x = some b → ∃ v, (x ≠ star → (x, v) ∈ binds) ∧ Holds1 X Z s.heap v b)
    (hdist : ∀ x y a ds es, ρ.lookup x = some (.grow a ds) → ρ.lookup y = some (.grow a es) → x = y) (hmine : ∀ a, Z a → Y a ∨ H.get? a = none)
    (hP : ∀ b o, G.P b o → s.heap.get? b = some o ∧ ∀ x ds, ρ.lookup x ≠ some (.grow b ds)) (hW : ∀ a, G.W a → Z a ∧ (∀ x ds, ρ.lookup x ≠ some (.grow a ds)) ∧ H.get? a = none) (hS : ∀ b, G.S b → ¬ Z b ∧ ∃ o, s.heap.get? b = some o)
    (run : ∀ env s', Chg s s' → Fs w G X Z env fd.scope ρ H Y s'.heap → wpAny (Md w) (A.deeper env) (execs body env) (fun fl s'' => R (.ok (.ret (match fl with | .ret v => v | _ => .none))) s'') NoE s') :
    codeAny (Md w) A (.call (.ref f) args) R s := by
  refine def_entry hA B hl hb hco hgen hk hclo hglo hblt hcode hcl hq hbinds hnd hbk ?_
  intro env s' m cm hsc hg hbl fm hbd k hnew
  exact run env s' (Chg.of_keeps k) (fs_in B BH hH hk hbk hlow hρ hdist hmine hP hW hS hsc hg hbl fm hbd k hnew)
theorem def_in {f : Addr} {fd : FuncData} {od : Option Addr} {osl : Array (Option Value)} {oc : Value} {body : List Stmt} {args : Args} {binds : List (Str × Value)} {R : Result → Shared → Prop} {cd : Addr} {oc' : Value} {cdd : Option Addr} {cs : Array (Option Value)} {cvs : Array Value} {tq : Tok}
    (hA : Rm (n + 1) A) (B : Bs w s.heap) (hl : (KK w.params).lookup f = some ⟨oc, od, .func fd, osl⟩) (hb : fd.body = .stmts body) (hco : fd.scope.isCoroutine = false) (hgen : fd.scope.isGenerator = false) (hk : fd.scope.kind = .function) (hclo : fd.closure = []) (hglo : fd.globals = mainGlobals) (hblt : fd.builtins = builtinsNs)
    (hcode : fd.code = .ref cd) (hcl : (KK w.params).lookup cd = some ⟨oc', cdd, .fields cvs, cs⟩) (hq : cvs[1]? = some (.str fd.qualname tq))
    (hbinds : peek (KK w.params) ⟨PySem.Challenge.pw_ta0079_01, w.params⟩ (bindArgs fd args) = some binds) (hnd : (binds.map (·.1)).Nodup) (hbk : ∀ x ∈ binds, locOrCell fd.scope x.1 = true)
    (hlow : ∀ a, XZ X Z a → ∃ o, s.heap.get? a = some o)
    (hρ : ∀ x b, ρ.lookup x = some b → ∃ v, (x ≠ star → (x, v) ∈ binds) ∧ Holds1 X Z s.heap v b)
    (hdist : ∀ x y a ds es, ρ.lookup x = some (.grow a ds) → ρ.lookup y = some (.grow a es) → x = y) (hmine : ∀ a, Z a → Y a)
    (hP : ∀ b o, G.P b o → s.heap.get? b = some o ∧ ∀ x ds, ρ.lookup x ≠ some (.grow b ds)) (hW : ∀ a, ¬ G.W a) (hS : ∀ b, G.S b → ¬ Z b ∧ ∃ o, s.heap.get? b = some o)
    (run : ∀ env s', Chg s s' → Fs w G X Z env fd.scope ρ s.heap Y s'.heap → wpAny (Md w) (A.deeper env) (execs body env) (fun fl s'' => R (.ok (.ret (match fl with | .ret v => v | _ => .none))) s'') NoE s') :
    codeAny (Md w) A (.call (.ref f) args) R s :=
  def_inH hA B B (fun _ _ e => e) hl hb hco hgen hk hclo hglo hblt hcode hcl hq hbinds hnd hbk hlow hρ hdist (fun a q => .inl (hmine a q)) hP (fun a q => (hW a q).elim) hS run
/-- a name told raw, told anew -/
theorem Fs.retell {x : Str} {u : Value} {b : Bd} (F : Fs w G X Z env sc ρ H Y h) (hx : ρ.lookup x = some (.raw u)) (hb : Holds1 X Z h u b) (hg : b.isGrow = false) : Fs w G X Z env sc ((x, b) :: ρ) H Y h := by
  have look : ∀ y b', ((x, b) :: ρ).lookup y = some b' → (y = x ∧ b' = b) ∨ ρ.lookup y = some b' := fun y b' e => by
    rw [List.lookup_cons] at e
    cases hb : y == x with
    | true => rw [hb] at e; cases e; exact .inl ⟨beq_iff_eq.mp hb, rfl⟩
    | false => rw [hb] at e; exact .inr e
  have gr : ∀ y a ds, ((x, b) :: ρ).lookup y = some (.grow a ds) → ρ.lookup y = some (.grow a ds) := fun y a ds e => by
    rcases look y _ e with ⟨_, e⟩ | e
    · subst e; cases hg
    · exact e
  refine ⟨F.base, F.baseH, F.scope, F.fn, F.glob, F.blt, F.low, ?_, fun y z a ds es e1 e2 => F.dist y z a ds es (gr _ _ _ e1) (gr _ _ _ e2), F.new, F.keep, F.mine, fun b o q => ⟨(F.prot b o q).1, (F.prot b o q).2.1, fun y ds e => (F.prot b o q).2.2 y ds (gr _ _ _ e)⟩, fun a q => ⟨(F.wall a q).1, (F.wall a q).2.1, fun y ds e => (F.wall a q).2.2.1 y ds (gr _ _ _ e), (F.wall a q).2.2.2⟩, F.live, F.safe⟩
  obtain ⟨m, cm, f, g⟩ := F.fm
  refine ⟨m, cm, f, fun y b' e => ?_⟩
  rcases look y _ e with ⟨rfl, rfl⟩ | e
  · obtain ⟨l, v, e1, e2⟩ := g y _ hx
    have : v = u := e2
    subst this
    exact ⟨l, v, e1, hb⟩
  · exact g y b' e
end
end Mine

open PySem PySem.W PyProof.Rows PySem.AutoIntOps
set_option Elab.async false
set_option linter.unusedVariables false
set_option linter.unusedSimpArgs false
set_option maxRecDepth 100000
set_option maxHeartbeats 1000000
namespace Mine
/-! # a Headers thing -/
noncomputable def hdN (P : Params) (name : Str) : Option Value := match (o181 P).data with
  | .dict es _ => nsFind es name
  | _ => none
theorem cls_hd {w : World} {h : Heap} (B : Bs w h) : ClsAt h 182 181 (hdN w.params) := by
  have e := B.inK 181 (o181 w.params) rfl
  have hm : h.nsMap 181 = hdN w.params := by
    funext name; unfold Heap.nsMap hdN; rw [e]; rfl
  exact ⟨⟨_, _, _, _, _, _, _, _, _, _, _, _, B.inK 182 _ rfl⟩, hm ▸ Heap.Ns.of_isNs (by unfold Heap.isNs; rw [e]; kernel_rfl)⟩
/-- what a Headers thing holds: the list at L -/
noncomputable def hdM (L : Addr) : Str → Option Value := fun y => if y = "_headers" then some (.ref L) else none
/-- the two things that a Headers thing is made of -/
structure HObj (t dt L : Addr) (ot od : Obj) : Prop where
  inst : ∀ h : Heap, h.get? t = some ot → h.get? dt = some od → h.InstFk t 182 (hdM L)
section
variable {w : World} {n : Nat} {A : Around} {E : Value → Shared → Prop} {s : Shared} {t dt L : Addr} {ot od : Obj}
theorem attr_hd {expr : Bool} {Q : Value → Shared → Prop} (B : Bs w s.heap) (O : HObj t dt L ot od) (h1 : s.heap.get? t = some ot) (h2 : s.heap.get? dt = some od) (q : Q (.ref L) { s with toks := s.toks + 1 }) :
    wpAny (Md w) A (getAttr (.ref t) "_headers" expr) Q E s := by
  obtain ⟨hh', g, d, tk, os⟩ := s
  have X := cls_hd B
  obtain ⟨nm, qn, bs, sn, sub, col, dd, k0, k1, k2, k3, k5, hC⟩ := X.obj
  exact load_attrFk hC X.ns (by kernel_rfl) (by kernel_rfl) (by rw [typeLookup_type, builtinLookup_eq_fast]; kernel_rfl) (O.inst _ h1 h2) (by unfold hdM; rw [if_pos rfl]) rfl q
theorem meth_hd {name : Str} {f : Addr} {of : Obj} {pl : Sem Bool} {y : Option Value} {Q : Value × List Value → Shared → Prop} (B : Bs w s.heap) (O : HObj t dt L ot od) (h1 : s.heap.get? t = some ot) (h2 : s.heap.get? dt = some od) (hf : hdN w.params name = some (.ref f)) (hof : (KK w.params).lookup f = some of) (hc : of.cls = .type "function") (hn : name ≠ "_headers") (hB : typeLookup (.type "object") name = pure y) (q : Q (.ref f, [.ref t]) s) :
    wpAny (Md w) A (getMethod (.ref t) name pl) Q E s := by
  obtain ⟨hh', g, d, tk, os⟩ := s
  have X := cls_hd B
  obtain ⟨nm, qn, bs, sn, sub, col, dd, k0, k1, k2, k3, k5, hC⟩ := X.obj
  exact method_ofFk hC X.ns (by kernel_rfl) (by kernel_rfl) hf (B.inK _ _ hof) hc hB (O.inst _ h1 h2) (by unfold hdM; rw [if_neg hn]) q
end
end Mine

open PySem PySem.W PyProof.Rows PySem.AutoIntOps
set_option Elab.async false
set_option linter.unusedVariables false
set_option linter.unusedSimpArgs false
set_option maxRecDepth 100000
set_option maxHeartbeats 1000000
namespace Mine
/-! # self._convert_string_type -/
noncomputable abbrev nameCode : Array Nat := #[14, 10, 4, 1, 1, 22, 0, 31, 16, 127, 0, 13, 7, 22, 0, 31, 16, 127, 0, 1]
noncomputable abbrev valueCode : Array Nat := #[14, 14, 4, 1, 1, 9, 4294966783, 0, 0, 2147483648, 0, 0, 0, 0, 0, 13, 11, 9, 4294966783, 0, 0, 2147483648, 0, 0, 0, 0, 0, 1]
theorem passes_name {c : Nat} (h1 : 32 ≤ c) (h2 : c ≠ 127) : Passes nameCode c := fun seen => by
  refine ⟨((seen.add 22).add 16).add 0, ?_⟩
  show (if (decide (0 ≤ c) && decide (c ≤ 31)) = true then _ else (if (c == 127) = true then _ else _)) = _
  rw [if_neg (by simp only [Bool.and_eq_true, decide_eq_true_eq]; omega), if_neg (by first | exact of_decide_eq_true h2 | exact of_decide_eq_false h2 | exact bne_iff_ne.mp h2 | exact eq_of_beq h2 | simpa using h2)]
  rfl
theorem chars_ok : ∀ c : Fin 256, 32 ≤ c.val → c.val ≠ 127 → (valueCode.getD (5 + (1 + c.val / 32)) 0).testBit (c.val % 32) = false := by decide +kernel
theorem passes_value {c : Nat} (h1 : 32 ≤ c) (h2 : c ≠ 127) : Passes valueCode c := fun seen => by
  refine ⟨(seen.add 9).add 0, ?_⟩
  show (if (decide (c < 256) && (valueCode.getD (5 + (1 + c / 32)) 0).testBit (c % 32)) = true then _ else _) = _
  rw [if_neg]
  · rfl
  · intro h
    simp only [Bool.and_eq_true, decide_eq_true_eq] at h
    have := chars_ok ⟨c, h.1⟩ h1 h2
    rw [h.2] at this; cases this
/-- no sign that a header may not have -/
noncomputable def Clean (x : Str) : Prop := ∀ c ∈ x.cps.toList, 32 ≤ c ∧ c ≠ 127
theorem Clean.at {x : Str} (h : Clean x) {i : Nat} (hi : i < x.length) : 32 ≤ x.cps.getD i 0 ∧ x.cps.getD i 0 ≠ 127 := by
  have hi' : i < x.cps.size := hi
  have : x.cps.getD i 0 = x.cps[i] := by simp [Array.getD, hi']
  rw [this]
  exact h _ (by simp)
section
variable {w : World} {n : Nat} {G : Gd} {X Z Z' : Addr → Prop} {env : Env} {sc : Scope} {ρ ρ' : Vs} {H : Heap} {Y : Addr → Prop} {A : Around} {E : Value → Shared → Prop} {s s₀ : Shared} {h h' : Heap}
theorem run_search {b : Bool} {x : Str} {t : Tok} {Q : Value → Shared → Prop} (B : Bs w s.heap) (hx : Clean x) (q : Q .none s) : wpAny (Md w) A (call (.builtin "re.Pattern.search") [.ref (if b then 48 else 53), .str x t]) Q E s := by
  cases b
  · exact search_none (B.inK 53 _ rfl) (B.inK 52 _ rfl) (code := valueCode) (by kernel_rfl) (fun m e => by unfold Sre.M.hasFirstSet; rw [e]; rfl) (fun i hi => passes_value (hx.at hi).1 (hx.at hi).2) q
  · exact search_none (B.inK 48 _ rfl) (B.inK 47 _ rfl) (code := nameCode) (by kernel_rfl) (fun m e => by unfold Sre.M.hasFirstSet; rw [e]; rfl) (fun i hi => passes_name (hx.at hi).1 (hx.at hi).2) q
theorem meth_search {b : Bool} {pl : Sem Bool} {Q : Value × List Value → Shared → Prop} (B : Bs w s.heap) (q : Q (.builtin "re.Pattern.search", [.ref (if b then 48 else 53)]) s) : wpAny (Md w) A (getMethod (.ref (if b then 48 else 53)) "search" pl) Q E s := by
  cases b
  · exact getMethod_builtin ⟨_, B.inK 53 _ rfl, rfl⟩ plain_pattern slot_search type_search (fun a e => by cases e; exact ⟨_, B.inK 53 _ rfl, rfl⟩) q
  · exact getMethod_builtin ⟨_, B.inK 48 _ rfl, rfl⟩ plain_pattern slot_search type_search (fun a e => by cases e; exact ⟨_, B.inK 48 _ rfl, rfl⟩) q
end
end Mine

open PySem PySem.W PyProof.Rows PySem.AutoIntOps
set_option Elab.async false
set_option linter.unusedVariables false
set_option linter.unusedSimpArgs false
set_option maxRecDepth 100000
set_option maxHeartbeats 1000000
namespace Mine
section
variable {w : World} {n : Nat} {G : Gd} {X Z Z' : Addr → Prop} {env : Env} {sc : Scope} {ρ ρ' : Vs} {H : Heap} {Y : Addr → Prop} {A : Around} {E : Value → Shared → Prop} {s s₀ : Shared} {h h' : Heap}
theorem is_types {a b : String} {Q : Value → Shared → Prop} (q : Q (.bool (a == b)) s) : wpAny (Md w) A (compareOp .Is (.type a) (.type b)) Q E s := by
  show wpAny _ _ (isSame (.type a) (.type b) >>= fun r => pure (Value.bool r)) _ _ _
  have e : isSame (.type a) (.type b) = pure (Value.type a == Value.type b) := rfl
  have e2 : (Value.type a == Value.type b) = (a == b) := by
    by_cases h : a = b
    · subst h; simp
    · rw [beq_eq_false_iff_ne.mpr h, beq_eq_false_iff_ne.mpr (fun z => h (by cases z; rfl))]
  rw [e, e2]; exact wpAny_bind (wpAny_pure (wpAny_pure q))
theorem isnot_types {a b : String} {Q : Value → Shared → Prop} (q : Q (.bool (!(a == b))) s) : wpAny (Md w) A (compareOp .IsNot (.type a) (.type b)) Q E s := by
  show wpAny _ _ (isSame (.type a) (.type b) >>= fun r => pure (Value.bool (!r))) _ _ _
  have e : isSame (.type a) (.type b) = pure (Value.type a == Value.type b) := rfl
  have e2 : (Value.type a == Value.type b) = (a == b) := by
    by_cases h : a = b
    · subst h; simp
    · rw [beq_eq_false_iff_ne.mpr h, beq_eq_false_iff_ne.mpr (fun z => h (by cases z; rfl))]
  rw [e, e2]; exact wpAny_bind (wpAny_pure (wpAny_pure q))
/-- type(e) is str -/
theorem evt_isstr {X : Addr → Prop} {ρ : List (Str × Bool × D)} {e : Expr} {x : Str} {p p2 pc pos : Pos} (h1 : Ev w n X env sc ρ false e (.str x)) (hs1 : sc.names.lookup (Str.ofString "type") = some .globalImplicit) (hs2 : sc.names.lookup (Str.ofString "str") = some .globalImplicit)
    (he : starEach [e] env = (false, eval e env) :: starEach [] env := by rfl) : EvT w n X env sc ρ (.Compare (.Call (.Name (Str.ofString "type") p) [e] [] pc) [.Is] [.Name (Str.ofString "str") p2] pos) true := fun A s E hA C =>
  wpAny_isTrue_Compare1 (call_glob hs1 g_type (.inr (.inr ⟨_, rfl⟩)) (.cons h1 he .nil) hA C fun vs s' r k => by
    cases r with
    | cons r1 r =>
    cases r
    cases r1
    exact call_type_of (Tx := "str") rfl (by decide +kernel) (load_glob (C.ext (keeps_ext k)) hs2 g_str (is_types (wpAny_truthy_bool ⟨rfl, k⟩)))) rfl
inductive Pz (X Z : Addr → Prop) (h : Heap) : List (Str × Value) → Vs → Prop
  | nil : Pz X Z h [] []
  | cons {x : Str} {v : Value} {b : Bd} {bs : List (Str × Value)} {ρ : Vs} : Holds1 X Z h v b → Pz X Z h bs ρ → Pz X Z h ((x, v) :: bs) ((x, b) :: ρ)
  | far {v : Value} {b : Bd} {bs : List (Str × Value)} {ρ : Vs} : Holds1 X Z h v b → Pz X Z h bs ρ → Pz X Z h bs ((star, b) :: ρ)
theorem Pz.look {bs : List (Str × Value)} {ρ : Vs} (q : Pz X Z h bs ρ) : ∀ x b, ρ.lookup x = some b → ∃ v, (x ≠ star → (x, v) ∈ bs) ∧ Holds1 X Z h v b := by
  induction q with
  | nil => intro x b e; cases e
  | @cons y v b' bs ρ a q ih =>
    intro x b e
    rw [List.lookup_cons] at e
    cases hb : x == y with
    | true => rw [hb] at e; cases e; exact ⟨v, fun _ => by rw [beq_iff_eq.mp hb]; exact List.mem_cons_self, a⟩
    | false => rw [hb] at e; obtain ⟨v', e1, e2⟩ := ih x b e; exact ⟨v', fun z => List.mem_cons_of_mem _ (e1 z), e2⟩
  | @far v b' bs ρ a q ih =>
    intro x b e
    rw [List.lookup_cons] at e
    cases hb : x == star with
    | true => rw [hb] at e; cases e; exact ⟨v, fun z => absurd (beq_iff_eq.mp hb) z, a⟩
    | false => rw [hb] at e; exact ih x b e
theorem dist_of {ρ : Vs} (h1 : (ρ.filter (fun p => p.2.isGrow)).length ≤ 1) : ∀ x y a ds es, ρ.lookup x = some (.grow a ds) → ρ.lookup y = some (.grow a es) → x = y := by
  intro x y a ds es e1 e2
  have m1 : (x, Bd.grow a ds) ∈ ρ.filter (fun p => p.2.isGrow) := List.mem_filter.mpr ⟨mem_of_lookup e1, rfl⟩
  have m2 : (y, Bd.grow a es) ∈ ρ.filter (fun p => p.2.isGrow) := List.mem_filter.mpr ⟨mem_of_lookup e2, rfl⟩
  generalize ρ.filter (fun p => p.2.isGrow) = l at h1 m1 m2
  cases m1 with
  | head r =>
    cases m2 with
    | head _ => rfl
    | tail _ m => cases m with | head _ => simp at h1 | tail _ m => simp at h1
  | tail z m =>
    cases m with | head _ => simp at h1 | tail _ m => simp at h1
theorem Pz.raw {x : Str} {v : Value} {bs : List (Str × Value)} {ρ : Vs} (q : Pz X Z h bs ρ) : Pz X Z h ((x, v) :: bs) ((x, .raw v) :: ρ) := .cons (b := .raw v) (rfl : v = v) q
theorem Pz.own {x : Str} {v : Value} {d : D} {bs : List (Str × Value)} {ρ : Vs} (r : RpB (XZ X Z) h v d) (o : Own (XZ X Z) v) (q : Pz X Z h bs ρ) : Pz X Z h ((x, v) :: bs) ((x, .own d) :: ρ) := .cons (b := .own d) ⟨r, o⟩ q
/-- a def of the text, entered -/
theorem def_atH {f : Addr} {fd : FuncData} {od : Option Addr} {osl : Array (Option Value)} {oc : Value} {body : List Stmt} {args : Args} {binds : List (Str × Value)} {R : Result → Shared → Prop} {cd : Addr} {oc' : Value} {cdd : Option Addr} {cs : Array (Option Value)} {cvs : Array Value} {tq : Tok} (names : List Str) (ρ : Vs)
    (hA : Rm (n + 1) A) (B : Bs w s.heap) (BH : Bs w H) (hH : Ext H s.heap) (hl : (KK w.params).lookup f = some ⟨oc, od, .func fd, osl⟩) (hb : fd.body = .stmts body) (hco : fd.scope.isCoroutine = false) (hgen : fd.scope.isGenerator = false) (hk : fd.scope.kind = .function) (hclo : fd.closure = []) (hglo : fd.globals = mainGlobals) (hblt : fd.builtins = builtinsNs)
    (hcode : fd.code = .ref cd) (hcl : (KK w.params).lookup cd = some ⟨oc', cdd, .fields cvs, cs⟩) (hq : cvs[1]? = some (.str fd.qualname tq))
    (hbinds : peek (KK w.params) ⟨PySem.Challenge.pw_ta0079_01, w.params⟩ (bindArgs fd args) = some binds) (hn : binds.map (·.1) = names) (hnd : names.Nodup) (hbk : names.all (locOrCell fd.scope) = true)
    (hlow : ∀ a, XZ X Z a → ∃ o, s.heap.get? a = some o) (hρ : Pz X Z s.heap binds ρ)
    (hdist : (ρ.filter (fun p => p.2.isGrow)).length ≤ 1) (hmine : ∀ a, Z a → Y a ∨ H.get? a = none)
    (hP : ∀ b o, G.P b o → s.heap.get? b = some o ∧ ∀ x ds, ρ.lookup x ≠ some (.grow b ds)) (hW : ∀ a, G.W a → Z a ∧ (∀ x ds, ρ.lookup x ≠ some (.grow a ds)) ∧ H.get? a = none) (hS : ∀ b, G.S b → ¬ Z b ∧ ∃ o, s.heap.get? b = some o)
    (run : ∀ env s', Chg s s' → Fs w G X Z env fd.scope ρ H Y s'.heap → wpAny (Md w) (A.deeper env) (execs body env) (fun fl s'' => R (.ok (.ret (match fl with | .ret v => v | _ => .none))) s'') NoE s') :
    codeAny (Md w) A (.call (.ref f) args) R s :=
  def_inH hA B BH hH hl hb hco hgen hk hclo hglo hblt hcode hcl hq hbinds (by rw [hn]; exact hnd) (fun x hx => List.all_eq_true.mp hbk _ (hn ▸ List.mem_map.mpr ⟨x, hx, rfl⟩)) hlow hρ.look (dist_of hdist) hmine hP hW hS run
/-- a def of the text, entered -/
theorem def_at {f : Addr} {fd : FuncData} {od : Option Addr} {osl : Array (Option Value)} {oc : Value} {body : List Stmt} {args : Args} {binds : List (Str × Value)} {R : Result → Shared → Prop} {cd : Addr} {oc' : Value} {cdd : Option Addr} {cs : Array (Option Value)} {cvs : Array Value} {tq : Tok} (names : List Str) (ρ : Vs)
    (hA : Rm (n + 1) A) (B : Bs w s.heap) (hl : (KK w.params).lookup f = some ⟨oc, od, .func fd, osl⟩) (hb : fd.body = .stmts body) (hco : fd.scope.isCoroutine = false) (hgen : fd.scope.isGenerator = false) (hk : fd.scope.kind = .function) (hclo : fd.closure = []) (hglo : fd.globals = mainGlobals) (hblt : fd.builtins = builtinsNs)
    (hcode : fd.code = .ref cd) (hcl : (KK w.params).lookup cd = some ⟨oc', cdd, .fields cvs, cs⟩) (hq : cvs[1]? = some (.str fd.qualname tq))
    (hbinds : peek (KK w.params) ⟨PySem.Challenge.pw_ta0079_01, w.params⟩ (bindArgs fd args) = some binds) (hn : binds.map (·.1) = names) (hnd : names.Nodup) (hbk : names.all (locOrCell fd.scope) = true)
    (hlow : ∀ a, XZ X Z a → ∃ o, s.heap.get? a = some o) (hρ : Pz X Z s.heap binds ρ)
    (hdist : (ρ.filter (fun p => p.2.isGrow)).length ≤ 1) (hmine : ∀ a, Z a → Y a)
    (hP : ∀ b o, G.P b o → s.heap.get? b = some o ∧ ∀ x ds, ρ.lookup x ≠ some (.grow b ds)) (hW : ∀ a, ¬ G.W a) (hS : ∀ b, G.S b → ¬ Z b ∧ ∃ o, s.heap.get? b = some o)
    (run : ∀ env s', Chg s s' → Fs w G X Z env fd.scope ρ s.heap Y s'.heap → wpAny (Md w) (A.deeper env) (execs body env) (fun fl s'' => R (.ok (.ret (match fl with | .ret v => v | _ => .none))) s'') NoE s') :
    codeAny (Md w) A (.call (.ref f) args) R s :=
  def_in hA B hl hb hco hgen hk hclo hglo hblt hcode hcl hq hbinds (by rw [hn]; exact hnd) (fun x hx => List.all_eq_true.mp hbk _ (hn ▸ List.mem_map.mpr ⟨x, hx, rfl⟩)) hlow hρ.look (dist_of hdist) hmine hP hW hS run
theorem spec_conv {b : Bool} {x : Str} {t : Tok} {sv : Value} (hA : Rm (n + 1) A) (B : Bs w s.heap) (hx : Clean x) :
    codeAny (Md w) A (.call (.ref 83) ⟨[sv, .str x t], [("name", .bool b)]⟩) (fun r s' => ∃ v, r = .ok (.ret v) ∧ Yld NoA true (.str x) s v s') s := by
  refine def_at (G := Gd.no) (X := NoA) (Z := NoA) (Y := NoA) ["self", "value", "name"] [("self", .raw sv), ("value", .own (.str x)), ("name", .own (.bool b))] hA B rfl rfl rfl rfl rfl rfl rfl rfl rfl rfl rfl (binds := [("self", sv), ("value", .str x t), ("name", .bool b)]) (by kernel_rfl) rfl (by decide) (by decide +kernel) (fun a q => (q.elim id id).elim)
    (.raw (.own (.str _ _) Own.str (.own (.bool _) Own.bool .nil))) (Nat.le_of_ble_eq_true rfl) (fun _ q => q) (fun _ _ q => q.elim) (fun _ q => q) (fun _ q => q.elim) ?_
  intro env s' c F
  refine st_seq (st_if F hA.deeper rfl (evt_isstr (ev_name rfl) rfl rfl) fun s1 c1 F => ?_)
  refine st_seq (st_assign_raw (u := .ref (if b then 48 else 53)) F rfl ?_ fun s2 c2 F => ?_)
  · have C := F.cx rfl
    refine wpAny_IfExp (wpAny_mono ((show EvT w n _ env _ _ (.Name (Str.ofString "name") _) b from evt_val (ev_name rfl) truthy_bool') _ _ _ hA.deeper C) (fun c s' q => ?_) fun _ _ x => x)
    obtain ⟨rfl, k⟩ := q
    cases c
    · exact load_glob (C.ext (keeps_ext k)) rfl (.inl (by kernel_rfl)) ⟨rfl, k⟩
    · exact load_glob (C.ext (keeps_ext k)) rfl (.inl (by kernel_rfl)) ⟨rfl, k⟩
  refine st_seq (st_if_run (v := false) F ?_ fun s3 c3 F => ?_)
  · refine wpAny_isTrue_value (methodCall_KW (raw_name F rfl ?_)) 
    refine meth_search F.base ?_
    refine callWith_own (.cons (ev_name rfl) rfl .nil) hA.deeper (F.cx rfl) fun vs s' r k => ?_
    obtain ⟨v1, rfl, r1, o1⟩ := r.one_inv
    obtain ⟨tk1, rfl⟩ := r1.str_inv
    exact run_search (F.told k).base hx (PyProof.Rows.truthy_none ⟨rfl, k⟩)
  · rw [if_neg (by simp)]
    refine st_nil ?_
    refine st_seq (wpAny_Return_some (wpAny_mono ((ev_name (b := true) rfl : Ev w n _ env _ _ true (.Name (Str.ofString "value") _) (.str x)) _ s3 NoE hA.deeper (F.cx rfl)) (fun v s' q => ?_) fun _ _ x => x))
    have kk : Keeps s s' := by
      obtain ⟨hh, tt, e⟩ := ((c.trans c1).trans (c2.trans c3)).trans (Chg.of_keeps q.2.2)
      exact ⟨hh, tt, e, by have := (F.told q.2.2).keeps (fun _ z => z); rw [e] at this; exact this⟩
    exact ⟨v, rfl, q.1.weak (fun _ z => z.elim), fun _ a e z => z.elim, kk⟩
end
end Mine

open PySem PySem.W PyProof.Rows PySem.AutoIntOps
set_option Elab.async false
set_option linter.unusedVariables false
set_option linter.unusedSimpArgs false
set_option maxRecDepth 100000
set_option maxHeartbeats 1000000
namespace Mine
section
variable {w : World} {n : Nat} {G : Gd} {X Z Z' : Addr → Prop} {env : Env} {sc : Scope} {ρ ρ' : Vs} {H : Heap} {Y : Addr → Prop} {A : Around} {E : Value → Shared → Prop} {s s₀ : Shared} {h h' : Heap} {t dt L : Addr} {ot od : Obj}
/-- self._convert_string_type(e, name=c) -/
theorem run_conv {e : Expr} {x : Str} {c : Bool} {k : Nat} {p ap kp kq pos : Pos} (F : Fs w G X Z env sc ρ H Y s.heap) (hA : Rm (n + 1) A) (hc : clean ρ = true) (hself : ρ.lookup (Str.ofString "self") = some (.raw (.ref t))) (O : HObj t dt L ot od) (h1 : s.heap.get? t = some ot) (h2 : s.heap.get? dt = some od)
    (he : Ev w (n + 1) (XZ X Z) env sc (seen ρ) true e (.str x)) (hx : Clean x) (hse : starEach [e] env = (false, eval e env) :: starEach [] env := by rfl)
    (hev : ∃ pl, eval (.Call (.Attribute (.Name (Str.ofString "self") p) (Str.ofString "_convert_string_type") ap) [e] [⟨some (Str.ofString "name"), .Constant (.bool c) k kp, kq⟩] pos) env = (do
      let ov ← eval (.Name (Str.ofString "self") p) env
      standAt ap.atName
      let (f, first) ← holding [ov] (getMethod ov (Str.ofString "_convert_string_type") pl)
      callWith pos f first (backTo pos (starEach [e] env)) (backToKw pos (keywordEach [⟨some (Str.ofString "name"), .Constant (.bool c) k kp, kq⟩] env))) := by exact ⟨_, rfl⟩) :
    wpAny (Md w) A (eval (.Call (.Attribute (.Name (Str.ofString "self") p) (Str.ofString "_convert_string_type") ap) [e] [⟨some (Str.ofString "name"), .Constant (.bool c) k kp, kq⟩] pos) env) (Yld (XZ X Z) true (.str x) s) E s := by
  obtain ⟨pl, hev⟩ := hev
  refine methodCall_KW (raw_name F hself ?_) hev
  refine meth_hd (f := 83) F.base O h1 h2 (by kernel_rfl) rfl rfl (by decide) (y := none) (by rw [typeLookup_type, builtinLookup_eq_fast]; kernel_rfl) ?_
  refine callWith_KW (K := KK w.params) F.base.inK (by kernel_rfl) rfl (wpAny_mono (list_run (.cons he hse .nil) hA (F.cx hc)) (fun vs s' q => ?_) fun _ _ x => x) (by rw [hse]; rfl) hse
  obtain ⟨r, k'⟩ := q
  obtain ⟨v1, rfl, r1, o1⟩ := r.one_inv
  obtain ⟨tk1, rfl⟩ := r1.str_inv
  refine kwAll_cons (wpAny_Constant_bool (kwAll_nil ⟨(F.told k').base.inK, ?_⟩))
  refine wpAny_call (codeAny_mono (spec_conv hA (F.told k').base hx) fun r s'' q => ?_)
  obtain ⟨v, rfl, y⟩ := q
  obtain ⟨y1, y2, y3⟩ := y
  cases y1
  exact ⟨.str _ _, fun _ => Own.str, keeps_trans k' y3⟩
end
end Mine

open PySem PySem.W PyProof.Rows PySem.AutoIntOps
set_option Elab.async false
set_option linter.unusedVariables false
set_option linter.unusedSimpArgs false
set_option maxRecDepth 100000
set_option maxHeartbeats 1000000
namespace Mine
/-! # Headers.get_all, Headers.items -/
noncomputable abbrev Hr := Str × Str
noncomputable def hdrD (p : Hr) : D := .tup [.str p.1, .str p.2]
noncomputable def LowOk (x : Str) : Prop := Builtin.Str.tooLong (Txt.lower x).length = false
noncomputable def gotF (rows : List Hr) (x : Str) : List Str := (rows.filter fun p => Txt.lower p.1 == Txt.lower x).map (·.2)
section
variable {w : World} {n : Nat} {G : Gd} {X Z Z' : Addr → Prop} {env : Env} {sc : Scope} {ρ ρ' : Vs} {H : Heap} {Y : Addr → Prop} {A : Around} {E : Value → Shared → Prop} {s s₀ : Shared} {h h' : Heap} {t dt L : Addr} {ot od : Obj}
theorem run_headers {p pos : Pos} {Q : Value → Shared → Prop} (F : Fs w G X Z env sc ρ H Y s.heap) (hself : ρ.lookup (Str.ofString "self") = some (.raw (.ref t))) (O : HObj t dt L ot od) (h1 : s.heap.get? t = some ot) (h2 : s.heap.get? dt = some od) (q : Q (.ref L) { s with toks := s.toks + 1 }) :
    wpAny (Md w) A (eval (.Attribute (.Name (Str.ofString "self") p) (Str.ofString "_headers") pos) env) Q E s :=
  Attribute_Name_ (raw_name F hself (attr_hd F.base O h1 h2 q))
theorem spec_get_all {rows : List Hr} {x : Str} {tk : Tok} (hA : Rm (n + 2) A) (B : Bs w s.heap) (low : ∀ a, X a → ∃ o, s.heap.get? a = some o) (O : HObj t dt L ot od) (h1 : s.heap.get? t = some ot) (h2 : s.heap.get? dt = some od)
    (hL : RpB X s.heap (.ref L) (.lst (rows.map hdrD))) (hlen : rows.length ≤ 100000) (hn : ∀ p ∈ rows, LowOk p.1) (hx : LowOk x) (hc : Clean (Txt.lower x)) :
    codeAny (Md w) A (.call (.ref 121) ⟨[.ref t, .str x tk], []⟩) (fun r s' => ∃ v, r = .ok (.ret v) ∧ Yld X true (.lst ((gotF rows x).map .str)) s v s') s := by
  refine def_at (G := Gd.no) (X := X) (Z := NoA) (Y := NoA) ["self", "name"] [("self", .raw (.ref t)), ("name", .own (.str x))] hA B rfl rfl rfl rfl rfl rfl rfl rfl rfl rfl rfl (binds := [("self", .ref t), ("name", .str x tk)]) (by kernel_rfl) rfl (by decide) (by decide +kernel) (fun a q => low a (q.resolve_right id))
    (.raw (.own (.str _ _) Own.str .nil)) (Nat.le_of_ble_eq_true rfl) (fun _ q => q) (fun _ _ q => q.elim) (fun _ q => q) (fun _ q => q.elim) ?_
  intro env s' c F
  have ke := F.keeps (fun _ z => z)
  refine st_seq (st_assign_run F rfl (run_conv F hA.deeper rfl rfl O (ke _ _ h1) (ke _ _ h2) (ev_lower (ev_name rfl) hx) hc) fun s1 c1 F => ?_)
  have ke := F.keeps (fun _ z => z)
  have C := F.cx rfl
  refine st_seq (wpAny_Return_some (wpAny_mono (run_comp (b := true) (q := false) (l := rows) (g := hdrD) (p := fun p => Txt.lower p.1 == Txt.lower x) (f := fun p => .str p.2) hA.deeper C (compText_of (by kernel_rfl)) ?_ ?_ (sl hlen)) (fun v s2 q => ?_) fun _ _ x => x))
  · refine run_headers F rfl O (ke _ _ h1) (ke _ _ h2) ?_
    have hL1 := (hL.ext ke).weak (X' := XZ X NoA) fun a z => z.resolve_right id
    cases hL1 with
    | @lst a vs _ hl rl =>
    exact iter_list hA.deeper.handled (keeps_tok s1 _) hl rl.length (things_old rl trivial) fun z => nomatch z
  · intro p hp X' env'
    exact ⟨evt_cmp (ev_lower (ev_titem (ev_name rfl) ev_int rfl) (hn p hp)) (ev_name rfl) op_eqs, fun _ => ev_titem (ev_name rfl) ev_int rfl⟩
  · obtain ⟨r, o, k⟩ := q
    refine ⟨v, rfl, ?_, fun _ a e z => o rfl a e (.inl z), ?_⟩
    · have := r.weak (X' := X) fun a z => .inl z
      unfold gotF; rw [List.map_map]; exact this
    · obtain ⟨hh, tt, e⟩ := (c.trans c1).trans (Chg.of_keeps k)
      exact ⟨hh, tt, e, by have := (F.told k).keeps (fun _ z => z); rw [e] at this; exact this⟩
end
end Mine

open PySem PySem.W PyProof.Rows PySem.AutoIntOps
set_option Elab.async false
set_option linter.unusedVariables false
set_option linter.unusedSimpArgs false
set_option maxRecDepth 100000
set_option maxHeartbeats 1000000
namespace Mine
/-! # Headers.items -/
theorem pick_all (items : Array Value) : slicePick items none none none = items := by
  unfold slicePick
  have e : sliceBounds none none none items.size = ((0 : Int), (items.size : Int), (1 : Int)) := by
    simp only [sliceBounds, Option.getD_none, show (1 : Int) > 0 by decide, if_true]
  rw [e]
  show ((sliceRange (0 : Nat) (items.size : Nat) 1).filterMap (items[·]?)).toArray = items
  rw [sliceRange_one, Nat.sub_zero, pick_run]
  rw [List.drop_zero, List.take_of_length_le (by simp)]
/-- what a term that makes a list gives -/
noncomputable def New1 (X : Addr → Prop) (ds : List D) (s : Shared) (v : Value) (s' : Shared) : Prop := ∃ a, v = .ref a ∧ s.heap.get? a = none ∧ (∃ vs : List Value, s'.heap.PlainList a vs.toArray ∧ RpL (fun c => X c ∨ c = a) s'.heap vs ds) ∧ Keeps s s'
section
variable {w : World} {n : Nat} {G : Gd} {X Z Z' : Addr → Prop} {env : Env} {sc : Scope} {ρ ρ' : Vs} {H : Heap} {Y : Addr → Prop} {A : Around} {E : Value → Shared → Prop} {s s₀ : Shared} {h h' : Heap} {t dt L : Addr} {ot od : Obj}
theorem Subscript_all {value : Expr} {p pos : Pos} {ds : List D} (C : ∀ a, X a → ∃ o, s.heap.get? a = some o)
    (h : wpAny (Md w) A (eval value env) (fun v s' => ∃ l, ∃ vs : List Value, v = .ref l ∧ Keeps s s' ∧ s'.heap.PlainList l vs.toArray ∧ RpL X s'.heap vs ds) E s) (hsz : ds.length ≤ sizeLine) :
    wpAny (Md w) A (eval (.Subscript value (.Slice none none none p) pos) env) (New1 X ds s) E s := by
  rw [eval_Subscript]
  refine wpAny_bind (wpAny_mono h (fun o s₁ h₁ => ?_) fun _ _ x => x)
  obtain ⟨l, vs, rfl, k, hl, r⟩ := h₁
  refine wpAny_bind (wpAny_holding (wpAny_Slice ?_))
  rw [evalPart_none]
  refine wpAny_pure (wpAny_pure (wpAny_pure ?_))
  refine wpAny_bind (wpAny_standAt ?_)
  have hT : Shared.TypeIs { s₁ with heap := s₁.heap.push { cls := .type "slice", data := .fields #[.none, .none, .none] } } (.ref l) "list" := (hl.isList.push _).typeIs
  refine wpAny_bind ?_
  rw [getitemInPython_of_ne hT.not_modules]
  refine wpAny_bind (wpAny_specialOf hT list_getitem_lookup ?_)
  refine wpAny_pure (wpAny_bind ?_)
  refine wpAny_operating ?_
  refine wpAny_getItem_list_slice (lo := none) (hi := none) (st := none) (hl.isList.push _) (Heap.IsSliceOf.new ..) .none .none .none (by simp) ?_ (by rw [List.size_toArray, r.length]; exact hsz)
  refine wpAny_bind (wpAny_letTemporaryGo (wpAny_pure ?_))
  rw [pick_all]
  have kk : Keeps s₁ { s₁ with heap := (s₁.heap.push { cls := .type "slice", data := .fields #[.none, .none, .none] }).push { cls := .type "list", data := .seq vs.toArray } } :=
    keeps_heap _ _ fun b o e => Heap.get?_push_of_some _ (Heap.get?_push_of_some _ e)
  have hsz3 : (s₁.heap.push { cls := .type "slice", data := .fields #[.none, .none, .none] }).objs.size = s₁.heap.objs.size + 1 := Heap.size_push ..
  have hnew : s₁.heap.get? (s₁.heap.push { cls := .type "slice", data := .fields #[.none, .none, .none] }).objs.size = none := by rw [hsz3]; exact none_above (fun _ _ e => e) (Nat.le_succ _)
  refine ⟨_, rfl, none_above (keeps_ext k) (by rw [hsz3]; exact Nat.le_succ _), ⟨vs, ⟨0, Heap.get?_push_size _ rfl⟩, ?_⟩, keeps_trans k kk⟩
  exact (r.more (X' := fun c => X c ∨ c = (s₁.heap.push { cls := .type "slice", data := .fields #[.none, .none, .none] }).objs.size) fun c z => z.imp id fun e => by subst e; exact hnew).ext (keeps_ext kk)
theorem spec_items {rows : List Hr} (hA : Rm (n + 1) A) (B : Bs w s.heap) (low : ∀ a, X a → ∃ o, s.heap.get? a = some o) (O : HObj t dt L ot od) (h1 : s.heap.get? t = some ot) (h2 : s.heap.get? dt = some od)
    (hL : RpB X s.heap (.ref L) (.lst (rows.map hdrD))) (hlen : rows.length ≤ 100000) :
    codeAny (Md w) A (.call (.ref 146) ⟨[.ref t], []⟩) (fun r s' => ∃ v, r = .ok (.ret v) ∧ New1 X (rows.map hdrD) s v s') s := by
  refine def_at (G := Gd.no) (X := X) (Z := NoA) (Y := NoA) ["self"] [("self", .raw (.ref t))] hA B rfl rfl rfl rfl rfl rfl rfl rfl rfl rfl rfl (binds := [("self", .ref t)]) (by kernel_rfl) rfl (by decide) (by decide +kernel) (fun a q => low a (q.resolve_right id))
    (.raw .nil) (Nat.le_of_ble_eq_true rfl) (fun _ q => q) (fun _ _ q => q.elim) (fun _ q => q) (fun _ q => q.elim) ?_
  intro env s' c F
  have ke := F.keeps (fun _ z => z)
  refine st_seq (wpAny_Return_some (wpAny_mono (Subscript_all (X := X) (ds := rows.map hdrD) (fun a z => F.low a (.inl z)) ?_ (sl (by rw [List.length_map]; exact hlen))) (fun v s2 q => ?_) fun _ _ x => x))
  · refine run_headers F rfl O (ke _ _ h1) (ke _ _ h2) ?_
    have hL1 := hL.ext ke
    cases hL1 with
    | @lst a vs _ hl rl =>
    exact ⟨L, vs, rfl, keeps_tok s' _, hl, rl⟩
  · obtain ⟨a, rfl, hn, hv, k⟩ := q
    refine ⟨_, rfl, a, rfl, ?_, hv, ?_⟩
    · cases e : s.heap.get? a with
      | none => rfl
      | some o => rw [ke _ _ e] at hn; cases hn
    · obtain ⟨hh, tt, e⟩ := c.trans (Chg.of_keeps k)
      exact ⟨hh, tt, e, by have := (F.told k).keeps (fun _ z => z); rw [e] at this; exact this⟩
end
end Mine

open PySem PySem.W PyProof.Rows PySem.AutoIntOps
set_option Elab.async false
set_option linter.unusedVariables false
set_option linter.unusedSimpArgs false
set_option maxRecDepth 100000
set_option maxHeartbeats 1000000
namespace Mine
/-! # Headers([]) -/
section
variable {w : World} {n : Nat} {G : Gd} {X Z Z' : Addr → Prop} {env : Env} {sc : Scope} {ρ ρ' : Vs} {H : Heap} {Y : Addr → Prop} {A : Around} {E : Value → Shared → Prop} {s s₀ : Shared} {h h' : Heap} {t dt L : Addr} {ot od : Obj}
theorem Rm.under_type {C : Addr} {vs : List Value} (hA : Rm (n + 1) A) : Rm n (A.under (.builtin "type.__call__" ⟨.ref C :: vs, []⟩)) := by
  have e1 : (A.under (.builtin "type.__call__" ⟨.ref C :: vs, []⟩)).depth = A.depth + 1 := rfl
  have e2 : (A.under (.builtin "type.__call__" ⟨.ref C :: vs, []⟩)).units = A.units + 1 := rfl
  refine ⟨hA.handled, ?_, ?_⟩
  · have := hA.depth; omega
  · have := hA.units; omega
theorem call_raw1 {x y : Str} {u f : Value} {p px pos : Pos} {Q : Value → Shared → Prop} (F : Fs w G X Z env sc ρ H Y s.heap) (hA : Rm n A) (hc : clean ρ = true) (hs : sc.names.lookup x = some .globalImplicit) (hg : GlobIs w x f) (hf : KeepF w f) (hy : ρ.lookup y = some (.raw u)) (h : wpAny (Md w) A (call f [u]) Q E s)
    (hd : (x == ("__debug__" : Str)) = false := by decide) (hd2 : (y == ("__debug__" : Str)) = false := by decide) (hst : (y == star) = false := by decide) : wpAny (Md w) A (eval (.Call (.Name x p) [.Name y px] [] pos) env) Q E s := by
  have hk : ∀ h, (KK w.params).In h → ∃ k, (k = Keeper.frame ∨ k = Keeper.machine ∨ k = Keeper.boundFrame) ∧ Looks (Md w) h (keeperOf f) k := by
    intro h X
    rcases hf with ⟨a, _, hk⟩ | ⟨id, rfl⟩ | ⟨t, rfl⟩
    · exact keeps_K hk h X
    · exact ⟨.machine, .inr (.inl rfl), Looks.of_pure rfl⟩
    · exact ⟨.machine, .inr (.inl rfl), Looks.of_pure rfl⟩
  refine wpAny_Call_NameR (load_glob (F.cx hc) hs hg ?_ hd)
  refine callWith_of (P := (KK w.params).In) rfl hk ?_
  refine PySem.Calls.evalArgs_plain (wpAny_items_cons (raw_name F hy (wpAny_items_nil ?_) hd2 hst) rfl)
  exact ⟨F.base.inK, h⟩
theorem hobj_of {I : Addr → Prop} (J : h.InstFk t 182 (fun y => if y = "_headers" then some (.ref L) else none)) (e1 : h.get? t = some ot) (hd : ot.dict = some dt) : ∃ od, h.get? dt = some od ∧ HObj t dt L ot od := by
  obtain ⟨o, e, c, nc, q⟩ := J
  obtain rfl := Option.some.inj (e1.symm.trans e)
  rcases q with ⟨q, _⟩ | ⟨d, q1, q2, q3, q4⟩
  · rw [hd] at q; cases q
  · obtain rfl := Option.some.inj (hd.symm.trans q1)
    obtain ⟨od, e2, _⟩ := id q4
    exact ⟨od, e2, ⟨fun h' a1 a2 => ⟨ot, a1, c, nc, .inr ⟨dt, hd, q2, q3.at fun o z => by rw [e2] at z; cases z; exact a2, q4.at fun o z => by rw [e2] at z; cases z; exact a2⟩⟩⟩⟩
theorem run_init (BH : Bs w H) (Mk : Heap.MadeObjFk H s.heap t dt 182) (hA : Rm (n + 1) A) (hL : H.PlainList L ([] : List Value).toArray) :
    codeAny (Md w) A (.call (.ref 76) ⟨[.ref t, .ref L], []⟩) (fun r s' => r = .ok (.ret .none) ∧ Chg s s' ∧ Ext H s'.heap ∧ ∃ ot od, HObj t dt L ot od ∧ s'.heap.get? t = some ot ∧ s'.heap.get? dt = some od) s := by
  refine codeAny_gen fun RR hRR => ?_
  obtain ⟨o0, hx0, hc0, hnc0, hd0⟩ := id Mk.inst
  have hdd := Mk.dict o0 hx0
  have hnsd : ∃ od0, s.heap.get? dt = some od0 := by
    rcases hd0 with ⟨hn0, _⟩ | ⟨d', hd', _, hns', _⟩
    · rw [hn0] at hdd; cases hdd
    · obtain rfl := Option.some.inj (hd'.symm.trans hdd); obtain ⟨o, _, _, e, _⟩ := hns'; exact ⟨o, e⟩
  obtain ⟨od0, hy0⟩ := hnsd
  refine def_atH (H := H) (G := ⟨fun b o => (b = t ∧ o = o0) ∨ (b = dt ∧ o = od0), fun _ => False, fun _ => False⟩) (X := NoA) (Z := fun a => a = t ∨ a = dt) (Y := NoA) ["self", "headers"] [("self", .raw (.ref t)), ("headers", .raw (.ref L))] hA (BH.ext Mk.keeps) BH Mk.keeps rfl rfl rfl rfl rfl rfl rfl rfl rfl rfl rfl (binds := [("self", .ref t), ("headers", .ref L)]) (by kernel_rfl) rfl (by decide) (by decide +kernel) ?_
    (.raw (.raw .nil)) (Nat.le_of_ble_eq_true rfl) ?_ ?_ (fun _ q => q.elim) (fun _ q => q.elim) ?_
  · intro a q
    rcases q with q | rfl | rfl
    · exact q.elim
    · exact ⟨_, hx0⟩
    · exact ⟨_, hy0⟩
  · intro a q
    rcases q with rfl | rfl
    · exact .inr Mk.newX
    · exact .inr Mk.newD
  · intro b o q
    have ng : ∀ (x : Str) (ds : List D), List.lookup x [(Str.ofString "self", Bd.raw (.ref t)), (Str.ofString "headers", Bd.raw (.ref L))] ≠ some (.grow b ds) := fun x ds z => by
      have := mem_of_lookup z
      simp at this
    rcases q with ⟨rfl, rfl⟩ | ⟨rfl, rfl⟩
    · exact ⟨hx0, ng⟩
    · exact ⟨hy0, ng⟩
  intro env s' c F
  refine st_seq (st_assign_raw (u := .ref L) F rfl ?_ fun s1 c1 F => ?_)
  · refine wpAny_IfExp (wpAny_isTrue_Compare1 (raw_name F rfl (wpAny_Constant_none (isnot_ref_none (wpAny_truthy_bool ?_)))))
    exact raw_name F rfl ⟨rfl, keeps_refl _⟩
  have ke1 := F.keeps (fun _ z => z)
  have hL1 := hL.at fun o e => ke1 _ o e
  refine st_seq (st_if_run (v := false) F (wpAny_isTrue_Compare1 (call_raw1 F hA.deeper rfl rfl g_type (.inr (.inr ⟨_, rfl⟩)) rfl (call_type_of (Tx := "list") hL1.isList.typeIs (by decide +kernel) (load_glob (F.cx rfl) rfl g_list (isnot_types (wpAny_truthy_bool ⟨by decide, keeps_refl _⟩)))))) fun s2 c2 F => ?_)
  refine st_nil ?_
  have px := F.prot t o0 (.inl ⟨rfl, rfl⟩)
  have pd := F.prot dt od0 (.inr ⟨rfl, rfl⟩)
  have I2 : s2.heap.InstFk t 182 (fun _ => none) := by
    obtain ⟨o, e, c, nc, q⟩ := Mk.inst
    obtain rfl := Option.some.inj (hx0.symm.trans e)
    rcases q with ⟨q, _⟩ | ⟨d, q1, q2, q3, q4⟩
    · rw [hdd] at q; cases q
    · obtain rfl := Option.some.inj (hdd.symm.trans q1)
      exact ⟨o0, px.1, c, nc, .inr ⟨dt, hdd, q2, q3.at fun o z => by rw [hy0] at z; cases z; exact pd.1, q4.at fun o z => by rw [hy0] at z; cases z; exact pd.1⟩⟩
  have F' := F.guard (G' := ⟨fun _ _ => False, fun a => a = t ∨ a = dt, fun _ => False⟩) (fun _ _ q => q.elim) (fun a q => by
    rcases q with rfl | rfl
    · exact ⟨.inl rfl, px.2.1, px.2.2, Mk.newX⟩
    · exact ⟨.inr rfl, pd.2.1, pd.2.2, Mk.newD⟩) (fun _ q => q.elim)
  clear F
  refine st_seq (plainObj_wpAny_Assign_Attribute (raw_name F' rfl (raw_name F' rfl ?_)))
  have X2 := cls_hd F'.base
  obtain ⟨nm, qn, bs, sn, sub, col, dd, k0, k1, k2, k3, k5, hC⟩ := X2.obj
  have htC : t ≠ 182 := fun z => by
    have := BH.inK 182 _ rfl
    rw [← z, Mk.newX] at this; cases this
  obtain ⟨hh2, g2, d2, tk2, os2⟩ := s2
  refine store_attrFk (ns := []) PySem.F.store_object hC X2.ns (by kernel_rfl) (by kernel_rfl) (by rw [typeLookup_type, builtinLookup_eq_fast]; kernel_rfl) htC I2 (fun h3 tk3 J hk hsame => ?_)
  obtain ⟨o1, e1, _, _, _, dk1⟩ := hsame o0 px.1
  obtain ⟨od1, e2, O⟩ := hobj_of (I := NoA) J e1 (dk1 dt hdd)
  have F3 : Fs w _ NoA _ env _ _ H NoA h3 := F'.others (W := fun a => a = t ∨ a = dt) (fun _ q => q) (fun _ _ _ q => q) (fun b o hb e => hk b o (fun z => hb (.inl z)) (fun o₀ dx' q1 q2 z => by
      obtain rfl := Option.some.inj (px.1.symm.trans q1)
      obtain rfl := Option.some.inj (hdd.symm.trans q2)
      exact hb (.inr z)) e) (fun b q => by
      rcases q with rfl | rfl
      · exact ⟨_, e1⟩
      · exact ⟨_, e2⟩)
  have F4 := F3.guard (G' := ⟨fun b o => (b = t ∧ o = o1) ∨ (b = dt ∧ o = od1), fun _ => False, fun _ => False⟩) (fun b o q => by
      rcases q with ⟨rfl, rfl⟩ | ⟨rfl, rfl⟩
      · exact ⟨e1, (F3.wall b (.inl rfl)).2.1, (F3.wall b (.inl rfl)).2.2.1⟩
      · exact ⟨e2, (F3.wall b (.inr rfl)).2.1, (F3.wall b (.inr rfl)).2.2.1⟩) (fun _ q => q.elim) (fun _ q => q.elim)
  have ke3 := F4.keeps (fun _ z => z)
  have hLne : L ≠ t ∧ L ≠ dt := by
    obtain ⟨_, e⟩ := hL
    exact ⟨fun z => (by rw [z, Mk.newX] at e; cases e), fun z => (by rw [z, Mk.newD] at e; cases e)⟩
  have F5 := F4.retell (x := Str.ofString "headers") (u := .ref L) (b := .own (.lst [])) rfl ⟨.lst (hL.at fun o e => ke3 _ o e) .nil, fun a z q => by
      cases z
      exact q.elim id fun q => q.elim hLne.1 hLne.2⟩ rfl
  have F5 := F5.lessL (κ := [(Str.ofString "headers", .own (.lst [])), (Str.ofString "self", .raw (.ref t))]) (looks (by rfl))
  refine st_seq (st_if F5 hA.deeper rfl (evt_val (v := true) ev_bool truthy_bool') fun s5 c5 F => ?_)
  refine st_seq (st_for (ds := []) (fun _ _ => True) (fun _ => False) F hA.deeper rfl (by decide +kernel) (evit_old (evo_name rfl) (by intro d h; cases h)) trivial (fun i d _ _ _ _ e => by cases e) (fun ρ6 Z6 s6 _ c6 F6 => ?_) (fun _ _ _ q => q.elim))
  refine st_nil (st_nil (st_nil ?_))
  have k6 := F6.keeps (fun _ z => z)
  exact hRR _ _ ⟨rfl, (c.trans (c1.trans c2)).trans (Chg.trans ⟨h3, tk3, rfl⟩ (c5.trans c6)), k6, o1, od1, O, (F6.prot t o1 (.inl ⟨rfl, rfl⟩)).1, (F6.prot dt od1 (.inr ⟨rfl, rfl⟩)).1⟩
/-- Headers([]) -/
theorem spec_make (hA : Rm (n + 2) A) (B : Bs w s.heap) (hL : s.heap.PlainList L ([] : List Value).toArray) :
    codeAny (Md w) A (.call (.ref 182) ⟨[.ref L], []⟩) (fun r s' => ∃ t dt ot od, r = .ok (.ret (.ref t)) ∧ Keeps s s' ∧ HObj t dt L ot od ∧ s'.heap.get? t = some ot ∧ s'.heap.get? dt = some od ∧ s.heap.get? t = none ∧ s.heap.get? dt = none) s := by
  obtain ⟨hh, g, d, tk, os⟩ := s
  have X := cls_hd B
  obtain ⟨nm, qn, bs, sn, sub, col, dd, k0, k1, k2, k3, k5, hC⟩ := X.obj
  refine codeAny_call_obj_init PySem.F.objNew hC X.ns (fI := 76) (by kernel_rfl) (B.inK 76 _ rfl) rfl fun h' x dx Mk => ?_
  refine wpAny_call (codeAny_mono (run_init (s := ⟨h', g, d, tk, os⟩) B Mk (Rm.under_type hA) hL) fun r s' q => ?_)
  obtain ⟨rfl, c, k, ot, od, O, e1, e2⟩ := q
  obtain ⟨hh', tk', rfl⟩ := c
  exact ⟨rfl, x, dx, ot, od, rfl, ⟨hh', tk', rfl, k⟩, O, e1, e2, Mk.newX, Mk.newD⟩
end
end Mine

open PySem PySem.W PyProof.Rows PySem.AutoIntOps
set_option Elab.async false
set_option linter.unusedVariables false
set_option linter.unusedSimpArgs false
set_option maxRecDepth 100000
set_option maxHeartbeats 1000000
namespace Mine
/-! # Headers.add_header -/
section
variable {w : World} {n : Nat} {G : Gd} {X Z Z' : Addr → Prop} {env : Env} {sc : Scope} {ρ ρ' : Vs} {H : Heap} {Y : Addr → Prop} {A : Around} {E : Value → Shared → Prop} {s s₀ : Shared} {h h' : Heap} {t dt L : Addr} {ot od : Obj}
/-- a loop over nothing -/
theorem st_for_none {target iter : Expr} {body : List Stmt} {pos : Pos} {Q : Flow → Shared → Prop} (F : Fs w G X Z env sc ρ H Y s.heap)
    (hit : wpAny (Md w) A (eval iter env) (fun xv s₁ => wpAny (Md w) A (pyIter xv) (fun it s₂ => Keeps s s₂ ∧ ∃ I, it = .ref I ∧ s.heap.get? I = none ∧ ∀ (Q : Option Value → Shared → Prop) (E : Value → Shared → Prop), (∀ h', Heap.ExtBut I s₂.heap h' → Q none { s₂ with heap := h' }) → wpAny (Md w) A (pyNext (.ref I)) Q E s₂) E s₁) E s)
    (done : ∀ s', Chg s s' → Fs w G X Z env sc ρ H Y s'.heap → Q .next s') (hs : ∀ x, foldedSetIterable iter env x = pure x := by intro _; rfl) : wpAny (Md w) A (exec (.For target iter body [] pos) env) Q E s := by
  refine wpAny_For (wpAny_mono hit (fun xv s₁ h₁ => wpAny_mono h₁ (fun it s₂ h₂ => ?_) fun _ _ x => x) fun _ _ x => x) hs
  obtain ⟨k, I, rfl, hI, hn⟩ := h₂
  refine codeAny_forLoop_any (fun k s' => s' = s₂) ?_ 0 rfl
  rintro k' s' rfl
  refine hn _ _ fun h' hb => ?_
  have hx : Ext s.heap h' := fun b o e => hb b o (fun z => by rw [z, hI] at e; cases e) (keeps_ext k b o e)
  obtain ⟨hh, tt, rfl, _⟩ := id k
  exact st_nil (done _ ⟨h', tt, rfl⟩ (F.ext hx))
noncomputable def fdA : FuncData := match (o179 P0).data with | .func fd => fd | _ => default
theorem bindA (a b c : Value) : bindArgs fdA ⟨[a, b, c], []⟩ = (do let d ← alloc { cls := .type "dict", data := .dict #[] }; pure [("self", a), ("_name", b), ("_value", c), ("_params", .ref d)]) := rfl
theorem params_loop {p ap cp pos pt : Pos} {xk xv : Str} {pk pv : Pos} {k : Nat} {body : List Stmt} {D : Addr} {Q : Flow → Shared → Prop} (F : Fs w G X Z env sc ρ H Y s.heap) (hh : A.handled = none) (hx : ρ.lookup (Str.ofString "_params") = some (.raw (.ref D))) (hD : s.heap.get? D = some { cls := .type "dict", data := .dict #[] }) (hS : (D == sysModules) = false)
    (done : ∀ s', Chg s s' → Fs w G X Z env sc ρ H Y s'.heap → Q .next s') (hline : (ap.endLine == cp.line) = true) :
    wpAny (Md w) A (exec (.For (.Tuple [.Name xk pk, .Name xv pv] k pt) (.Call (.Attribute (.Name (Str.ofString "_params") p) (Str.ofString "items") ap) [] [] cp) body [] pos) env) Q E s := by
  have hm : s.heap.DictAt (PySem.strKind PySem.Challenge.pw_ta0079_01 w) D [] 0 := ⟨_, #[], hD, ⟨rfl, rfl, rfl⟩, rfl, fun e he => by simp at he, .nil, .nil⟩
  refine st_for_none F (wpAny_Call_items hS hm.dictOf rfl hline (fun Q' q => raw_name F hx q) ?_) done
  refine wpAny_pyIter_items (knd := PySem.strKind PySem.Challenge.pw_ta0079_01 w) (d := D) (kvs := []) (ep := 0) ⟨_, Heap.get?_push_size _ rfl, rfl, rfl⟩ (hm.push _) ?_
  refine ⟨keeps_heap _ _ fun b o e => Heap.get?_push_of_some _ (Heap.get?_push_of_some _ e), _, rfl, none_above (fun b o e => Heap.get?_push_of_some _ e) (Nat.le_refl _), fun Q E q => ?_⟩
  exact wpAny_pyNext_items_end (knd := PySem.strKind PySem.Challenge.pw_ta0079_01 w) (kvs := []) hh (i := 0) (d := D) (ep := 0) (Heap.get?_push_size _ rfl) ((hm.push _).push _) rfl q
theorem call_one {id : String} {first : List Value} {e : Expr} {pos : Pos} {Q : Value → Shared → Prop} (h : wpAny (Md w) A (eval e env) (fun v s' => wpAny (Md w) A (call (.builtin id) (first ++ [v])) Q E s') E s) (he : starEach [e] env = (false, eval e env) :: starEach [] env := by rfl) :
    wpAny (Md w) A (callWith pos (.builtin id) first (backTo pos (starEach [e] env)) []) Q E s := by
  refine PySem.Calls.callWith_builtin (by rw [he]; rfl) ?_
  have hrun : wpAny (Md w) A (spliced (backTo pos (starEach [e] env))) (fun vs s' => wpAny (Md w) A (call (.builtin id) (first ++ vs)) Q E s') E s :=
    wpAny_items_cons (wpAny_mono h (fun v s1 q => wpAny_items_nil q) fun _ _ x => x) he
  rw [he] at hrun ⊢
  exact PySem.Calls.evalArgs_plain hrun
end
end Mine

open PySem PySem.W PyProof.Rows PySem.AutoIntOps
set_option Elab.async false
set_option linter.unusedVariables false
set_option linter.unusedSimpArgs false
set_option maxRecDepth 100000
set_option maxHeartbeats 1000000
namespace Mine
section
variable {w : World} {n : Nat} {G : Gd} {X Z Z' : Addr → Prop} {env : Env} {sc : Scope} {ρ ρ' : Vs} {H : Heap} {Y : Addr → Prop} {A : Around} {E : Value → Shared → Prop} {s s₀ : Shared} {h h' : Heap} {t dt L : Addr} {ot od : Obj}
theorem join1 {x vl : Str} : Txt.join x [vl] = vl := rfl
theorem join1_ok {vl : Str} (h : vl.length ≤ 1000) : JoinOk "; " [vl] = true := by
  unfold JoinOk
  show (!(decide (0 + vl.length + 2 > sizeLine))) = true
  have := sl (k := 1002) (by first | exact Nat.le_trans (by assumption) (by decide) | omega)
  rw [decide_eq_false (by first | exact Nat.le_trans (by assumption) (by decide) | omega)]; rfl
theorem spec_add {rows : List Hr} {nm vl : Str} {t1 t2 : Tok} {vs : List Value} (hA : Rm (n + 2) A) (B : Bs w s.heap) (low : ∀ a, X a → ∃ o, s.heap.get? a = some o) (O : HObj t dt L ot od) (h1 : s.heap.get? t = some ot) (h2 : s.heap.get? dt = some od) (htL : t ≠ L) (hdL : dt ≠ L)
    (hL : s.heap.PlainList L vs.toArray) (hr : RpL (XZ X (· = L)) s.heap vs (rows.map hdrD)) (hlen : rows.length ≤ 1000) (hn : Clean nm) (hv : Clean vl) (hvl : vl.length ≤ 1000) :
    codeAny (Md w) A (.call (.ref 179) ⟨[.ref t, .str nm t1, .str vl t2], []⟩) (fun r s' => r = .ok (.ret .none) ∧ Chg s s' ∧ Bs w s'.heap ∧ (∀ b o, b ≠ L → s.heap.get? b = some o → s'.heap.get? b = some o) ∧ ∃ vs' : List Value, s'.heap.PlainList L vs'.toArray ∧ RpL (XZ X (· = L)) s'.heap vs' ((rows ++ [(nm, vl)]).map hdrD)) s := by
  refine codeAny_gen fun RR hRR => ?_
  have k1 : Keeps s { s with heap := s.heap.push { cls := .type "dict", data := .dict #[] } } := keeps_heap _ _ fun b o e => Heap.get?_push_of_some _ e
  have hlL : ∃ o, s.heap.get? L = some o := by obtain ⟨_, e⟩ := hL; exact ⟨_, e⟩
  have hbk : ∀ x ∈ ([("self", .ref t), ("_name", .str nm t1), ("_value", .str vl t2), ("_params", .ref s.heap.objs.size)] : List (Str × Value)), locOrCell (fS (mth 7 16)) x.1 = true := fun x hx => by
    have q : (["self", "_name", "_value", "_params"] : List Str).all (locOrCell (fS (mth 7 16))) = true := by decide +kernel
    exact List.all_eq_true.mp q _ (List.mem_map.mpr ⟨x, hx, rfl⟩)
  refine def_entryB (s₁ := { s with heap := s.heap.push { cls := .type "dict", data := .dict #[] } }) (binds := [("self", .ref t), ("_name", .str nm t1), ("_value", .str vl t2), ("_params", .ref s.heap.objs.size)]) hA B rfl rfl rfl rfl rfl rfl rfl rfl rfl rfl rfl k1 (fun A' Q' E' q => ?_) (show (["self", "_name", "_value", "_params"] : List Str).Nodup by decide +kernel) hbk ?_
  · show wpAny _ _ (bindArgs fdA ⟨[.ref t, .str nm t1, .str vl t2], []⟩) _ _ _
    rw [bindA]
    exact wpAny_bind (wpAny_alloc (wpAny_pure q))
  intro env s' m cm hsc hg hbl fm hbd k hnew
  have F : Fs w ⟨fun b o => b = s.heap.objs.size ∧ o = { cls := .type "dict", data := .dict #[] }, fun _ => False, fun _ => False⟩ X (· = L) env (fS (mth 7 16)) [(star, .grow L (rows.map hdrD)), ("self", .raw (.ref t)), ("_name", .own (.str nm)), ("_value", .own (.str vl)), ("_params", .raw (.ref s.heap.objs.size))] s.heap (· = L) s'.heap := by
    refine fs_in (s := { s with heap := s.heap.push { cls := .type "dict", data := .dict #[] } }) (B.ext (keeps_ext k1)) B (keeps_ext k1) rfl hbk ?_ ?_ (dist_of (Nat.le_of_ble_eq_true rfl)) (fun a q => .inl q) ?_ (fun _ q => q.elim) (fun _ q => q.elim) hsc hg hbl fm hbd k hnew
    · intro a q
      rcases q with q | q
      · obtain ⟨o, e⟩ := low a q; exact ⟨o, keeps_ext k1 _ _ e⟩
      · obtain ⟨o, e⟩ := hlL; exact ⟨o, keeps_ext k1 _ _ (q ▸ e)⟩
    · exact (Pz.far (X := X) (Z := (· = L)) (b := .grow L (rows.map hdrD)) ⟨rfl, rfl, vs, hL.at fun o e => keeps_ext k1 _ o e, hr.ext (keeps_ext k1)⟩ (.raw (.own (.str _ _) Own.str (.own (.str _ _) Own.str (.raw .nil))))).look
    · rintro b o ⟨rfl, rfl⟩
      refine ⟨Heap.get?_push_size _ rfl, fun x ds z => ?_⟩
      have := mem_of_lookup z
      simp at this
      obtain ⟨_, e, _⟩ := this
      obtain ⟨o, e'⟩ := hlL
      rw [← e, get_size] at e'; cases e'
  have hA' : Rm (n + 1) (A.deeper env) := hA.deeper
  have up : ∀ {ρ : Vs} {Z : Addr → Prop} {G : Gd} {h : Heap}, Fs w G X Z env (fS (mth 7 16)) ρ s.heap (· = L) h → h.get? t = some ot ∧ h.get? dt = some od := fun F => ⟨F.keep t ot htL h1, F.keep dt od hdL h2⟩
  refine st_seq (st_assign_new F hA' rfl rfl (evn_list .nil (sl (Nat.le_of_ble_eq_true rfl))) fun a s1 hXa hn1 c1 F => ?_)
  have F := F.lessL (κ := [(Str.ofString "parts", .grow a []), (star, .grow L (rows.map hdrD)), (Str.ofString "self", .raw (.ref t)), (Str.ofString "_name", .own (.str nm)), (Str.ofString "_value", .own (.str vl)), (Str.ofString "_params", .raw (.ref s.heap.objs.size))]) (looks (by rfl))
  refine st_seq (st_if F hA' rfl (evt_cmp (v := true) (ev_name rfl) ev_none op_isn_none) fun s2 c2 F => ?_)
  refine st_seq (st_assign_run F rfl (run_conv F hA' rfl rfl O (up F).1 (up F).2 (ev_name rfl) hv) fun s3 c3 F => ?_)
  refine st_seq (st_append F hA' rfl rfl (ev_name rfl) (sl (Nat.le_of_ble_eq_true rfl)) fun s4 c4 F => ?_)
  refine st_nil ?_
  have F := F.lessL (κ := [(Str.ofString "parts", .grow a [.str vl]), (star, .grow L (rows.map hdrD)), (Str.ofString "self", .raw (.ref t)), (Str.ofString "_name", .own (.str nm)), (Str.ofString "_params", .raw (.ref s.heap.objs.size))]) (looks (by rfl))
  refine st_seq (params_loop F hA'.handled rfl (F.prot _ _ ⟨rfl, rfl⟩).1 ?_ (fun s5 c5 F => ?_) rfl)
  · refine beq_eq_false_iff_ne.mpr fun z => ?_
    have e := Heap.lt_size (B.inK 182 _ rfl)
    rw [show s.heap.objs.size = 1 from z] at e
    exact absurd e (by decide)
  have C := F.cx rfl
  obtain ⟨m', cm', f', g'⟩ := id F.fm
  obtain ⟨_, _, _, _, _, vs5, hl5, hr5⟩ := g' star _ rfl
  refine st_seq (wpAny_Expr (methodCall_KW (run_headers F rfl O (up F).1 (up F).2 ?_)) (by unfold interactive; rw [F.scope]; rfl) rfl)
  obtain ⟨j5, ho5⟩ := id hl5
  refine PySem.Calls.getMethod_list_append ho5 rfl rfl ?_
  refine call_one (wpAny_Tuple (wpAny_items_cons (wpAny_mono (run_conv (F.ext fun _ _ e => e) hA' rfl rfl O (up F).1 (up F).2 (ev_name rfl) hn) (fun v1 s6 q1 => ?_) fun _ _ x => x) rfl))
  have F6 := F.ext (keeps_ext q1.2.2)
  refine wpAny_items_cons (wpAny_mono ((show Ev w (n + 1) _ env _ _ true (.Call (.Attribute (.Constant (.str "; ") 0 _) (Str.ofString "join") _) [.Name (Str.ofString "parts") _] [] _) (.str (Txt.join "; " [vl])) from ev_join (ys := [vl]) ev_str (ev_name rfl) (join1_ok hvl)) _ s6 NoE hA' (F6.cx rfl)) (fun v2 s7 q2 => wpAny_items_nil ?_) fun _ _ x => x) rfl
  rw [join1] at q2
  have F7 := F6.ext (keeps_ext q2.2.2)
  refine ⟨sl (Nat.le_of_ble_eq_true rfl), ?_⟩
  have hl7 := (hl5.at fun o e => keeps_ext q1.2.2 _ o e).at fun o e => keeps_ext q2.2.2 _ o e
  have hl8 := hl7.at (h' := s7.heap.push { cls := .type "tuple", data := .seq [v1, v2].toArray }) fun o e => Heap.get?_push_of_some _ e
  have F8 := F7.ext (h' := s7.heap.push { cls := .type "tuple", data := .seq [v1, v2].toArray }) fun b o e => Heap.get?_push_of_some _ e
  show wpAny _ _ (call (.builtin "list.append") [.ref L, .ref s7.heap.objs.size]) _ _ _
  refine wpAny_list_append_plain hl8 (fun h' hl' hs' => ?_) (by rw [List.size_toArray, hr5.length, List.length_map]; exact sl (by first | exact Nat.le_trans (by assumption) (by decide) | omega))
  have e2 : (vs5 ++ [Value.ref s7.heap.objs.size]).toArray = vs5.toArray.push (Value.ref s7.heap.objs.size) := by simp
  have kAll : Ext s5.heap (s7.heap.push { cls := .type "tuple", data := .seq [v1, v2].toArray }) := fun b o e => Heap.get?_push_of_some _ (keeps_ext q2.2.2 _ _ (keeps_ext q1.2.2 _ _ e))
  have hrow : RpB _ (s7.heap.push { cls := .type "tuple", data := .seq [v1, v2].toArray }) (.ref s7.heap.objs.size) (hdrD (nm, vl)) :=
    .tup ⟨_, Heap.get?_push_size _ rfl, rfl, 0, rfl⟩ (.cons ((q1.1.ext (keeps_ext q2.2.2)).ext fun b o e => Heap.get?_push_of_some _ e) (q1.2.1 rfl) (.cons (q2.1.ext fun b o e => Heap.get?_push_of_some _ e) (q2.2.1 rfl) .nil))
  have F9 := F8.turn (x := star) (a := L) (ds := rows.map hdrD) (es := rows.map hdrD ++ [hdrD (nm, vl)]) rfl hs' (vs' := vs5 ++ [.ref s7.heap.objs.size]) (by rw [e2]; exact hl') ((hr5.ext kAll).append (.one hrow (Own.fresh F7.low (get_size _))))
  refine st_nil (hRR _ _ ⟨rfl, ?_, F9.base, fun b o hb e => F9.keep b o hb e, ?_⟩)
  · have a1 : Chg s s5 := (Chg.of_keeps k1).trans ((Chg.of_keeps k).trans (c1.trans (c2.trans (c3.trans (c4.trans c5)))))
    have a2 : Chg s5 s7 := Chg.trans ⟨s5.heap, _, rfl⟩ ((Chg.of_keeps q1.2.2).trans (Chg.of_keeps q2.2.2))
    exact (a1.trans a2).trans ⟨h', _, rfl⟩
  · obtain ⟨m9, cm9, f9, g9⟩ := F9.fm
    obtain ⟨_, _, _, _, _, vs9, hl9, hr9⟩ := g9 star _ rfl
    refine ⟨vs9, hl9, ?_⟩
    rw [List.map_append]
    exact hr9.weak fun a q => q.imp id fun z => .inl z
end
end Mine

open PySem PySem.W PyProof.Rows PySem.AutoIntOps
set_option Elab.async false
set_option linter.unusedVariables false
set_option linter.unusedSimpArgs false
set_option maxRecDepth 100000
set_option maxHeartbeats 1000000
namespace Mine
/-! # Headers.__delitem__ -/
section
variable {w : World} {n : Nat} {G : Gd} {X Z Z' : Addr → Prop} {env : Env} {sc : Scope} {ρ ρ' : Vs} {H : Heap} {Y : Addr → Prop} {A : Around} {E : Value → Shared → Prop} {s s₀ : Shared} {h h' : Heap} {t dt L : Addr} {ot od : Obj}
/-- l[:] = b -/
theorem setItem_all {l b sl : Addr} {items new : Array Value} {Q : Unit → Shared → Prop} (hl : s.heap.PlainList l items) (hb : s.heap.PlainList b new) (hne : l ≠ b) (hs : s.heap.IsSliceOf sl .none .none .none) (hsz : items.size + new.size ≤ sizeLine)
    (hQ : ∀ h', h'.PlainList l new → Heap.SameBut l s.heap h' → Q () { s with heap := h' }) : wpAny (Md w) A (setItem (.ref l) (.ref sl) (.ref b)) Q E s := by
  obtain ⟨ne, ho⟩ := id hl
  obtain ⟨nb, hob⟩ := id hb
  obtain ⟨os, hos, hcs, hds⟩ := id hs
  have hTs : s.TypeIs (.ref sl) "slice" := ⟨os, hos, hcs⟩
  have hl' := hl.isList
  unfold setItem
  try with_reducible refine wpAny_holding ?_
  first | refine wpAny_bind (wpAny_pure ?_) | skip
  refine wpAny_bind (wpAny_sequenceKey hl'.typeIs (by decide) ?_)
  refine wpAny_bind (wpAny_callSpecial?_slot (name := Str.ofString "__setitem__") hl'.typeIs slot_list_setitem
    (wpAny_call_entry slot_list_setitem hl'.typeIs entry_list_setitem ?_ (args_list_setitem _ _ _)))
  show wpAny _ _ (Builtin.List.listSubscript? (.ref sl) >>= _) _ _ s
  refine wpAny_bind ?_
  unfold Builtin.List.listSubscript?
  refine wpAny_bind (wpAny_specialOf hTs slice_no_index ?_)
  simp only [Option.isNone_none, if_true]
  refine wpAny_pure ?_
  show wpAny _ _ (typeOf (.ref sl) >>= _) _ _ s
  refine wpAny_bind (wpAny_typeOf hTs ?_)
  rw [if_neg (by decide)]
  rw [listSliceParts_eq]
  refine wpAny_bind (wpAny_bind (wpAny_field hos hds (x := .none) rfl (wpAny_bind (wpAny_listPart .none ?_))))
  rw [if_neg (show ¬ ((rawPart none == rawInt 0) = true) from Bool.false_ne_true)]
  refine wpAny_bind (wpAny_field hos hds (x := .none) rfl (wpAny_bind (wpAny_listPart .none ?_)))
  refine wpAny_bind (wpAny_field hos hds (x := .none) rfl (wpAny_bind (wpAny_listPart .none (wpAny_pure ?_))))
  have hsame : Builtin.List.listSameRef (.ref l) (.ref b) = false := beq_eq_false_iff_ne.mpr hne
  dsimp only
  rw [hsame]
  simp only [Bool.false_eq_true, if_false]
  refine wpAny_bind ?_
  unfold Builtin.List.listAllItems
  refine wpAny_bind (wpAny_typeOf hb.isList.typeIs ?_)
  rw [if_pos (by decide)]
  refine wpAny_bind (wpAny_seqItems hob rfl (wpAny_pure ?_))
  refine wpAny_bind (wpAny_listItems ho rfl ?_)
  refine wpAny_bind (wpAny_of_eq (sliceIndices_raw none none none items.size (by simp)) ?_)
  have e : sliceBounds none none none items.size = ((0 : Int), (items.size : Int), (1 : Int)) := by
    simp only [sliceBounds, Option.getD_none, show (1 : Int) > 0 by decide, if_true]
  rw [e]
  dsimp only
  rw [if_pos (by decide)]
  refine wpAny_bind (wpAny_rule ?_)
  have htl : Builtin.List.listTooLong (items.size + new.size) = false := decide_eq_false (by first | exact Nat.le_trans (by assumption) (by decide) | omega)
  rw [htl]
  simp only [Bool.false_eq_true, if_false]
  have hm : (max (0 : Int) (items.size : Int)).toNat = items.size := by omega
  rw [hm]
  have hupd : ∀ xs : Array Value, xs.size = items.size → xs.extract 0 (0 : Int).toNat ++ new ++ xs.extract items.size xs.size = new := fun xs hx => by
    apply Array.ext'
    simp [hx]
  have hfin : (s.heap.update l (Obj.mapSeq fun xs => xs.extract 0 (0 : Int).toNat ++ new ++ xs.extract items.size xs.size)).PlainList l new := by
    have e2 : Obj.mapSeq (fun xs => xs.extract 0 (0 : Int).toNat ++ new ++ xs.extract items.size xs.size) { cls := .type "list", data := .seq items ne } = { cls := .type "list", data := .seq (items.extract 0 (0 : Int).toNat ++ new ++ items.extract items.size items.size) (if (items.extract 0 (0 : Int).toNat ++ new ++ items.extract items.size items.size).size == items.size then ne else ne + 1) } := rfl
    rw [hupd items rfl] at e2
    exact ⟨_, by rw [Heap.get?_update_self _ ho (by rw [e2]; rfl), e2]⟩
  refine wpAny_bind (wpAny_updateSeq ho rfl ?_)
  refine wpAny_bind (wpAny_letGo ?_)
  first
    | exact wpAny_bind (wpAny_pure (wpAny_pure ⟨.none, rfl, wpAny_pure (hQ _ hfin (Heap.SameBut.update ..))⟩))
    | exact wpAny_pure ⟨.none, rfl, wpAny_pure (hQ _ hfin (Heap.SameBut.update ..))⟩
end
end Mine

open PySem PySem.W PyProof.Rows PySem.AutoIntOps
set_option Elab.async false
set_option linter.unusedVariables false
set_option linter.unusedSimpArgs false
set_option maxRecDepth 100000
set_option maxHeartbeats 1000000
namespace Mine
section
variable {w : World} {n : Nat} {G : Gd} {X Z Z' : Addr → Prop} {env : Env} {sc : Scope} {ρ ρ' : Vs} {H : Heap} {Y : Addr → Prop} {A : Around} {E : Value → Shared → Prop} {s s₀ : Shared} {h h' : Heap} {t dt L : Addr} {ot od : Obj}
noncomputable def leftF (rows : List Hr) (x : Str) : List Hr := rows.filter fun p => Txt.lower p.1 != Txt.lower x
theorem spec_del {rows : List Hr} {x : Str} {tk : Tok} {vs : List Value} (hA : Rm (n + 2) A) (B : Bs w s.heap) (low : ∀ a, X a → ∃ o, s.heap.get? a = some o) (O : HObj t dt L ot od) (h1 : s.heap.get? t = some ot) (h2 : s.heap.get? dt = some od) (htL : t ≠ L) (hdL : dt ≠ L)
    (hL : s.heap.PlainList L vs.toArray) (hr : RpL (XZ X (· = L)) s.heap vs (rows.map hdrD)) (hlen : rows.length ≤ 1000) (hn : ∀ p ∈ rows, LowOk p.1) (hx : LowOk x) (hc : Clean (Txt.lower x)) :
    codeAny (Md w) A (.call (.ref 102) ⟨[.ref t, .str x tk], []⟩) (fun r s' => r = .ok (.ret .none) ∧ Chg s s' ∧ Bs w s'.heap ∧ (∀ b o, b ≠ L → s.heap.get? b = some o → s'.heap.get? b = some o) ∧ ∃ vs' : List Value, s'.heap.PlainList L vs'.toArray ∧ RpL (XZ X (· = L)) s'.heap vs' ((leftF rows x).map hdrD)) s := by
  refine codeAny_gen fun RR hRR => ?_
  have hlL : ∃ o, s.heap.get? L = some o := by obtain ⟨_, e⟩ := hL; exact ⟨_, e⟩
  refine def_at (G := Gd.no) (X := X) (Z := (· = L)) (Y := (· = L)) ["self", "name"] [(star, .grow L (rows.map hdrD)), ("self", .raw (.ref t)), ("name", .own (.str x))] hA B rfl rfl rfl rfl rfl rfl rfl rfl rfl rfl rfl (binds := [("self", .ref t), ("name", .str x tk)]) (by kernel_rfl) rfl (by decide) (by decide +kernel) ?_
    (Pz.far (X := X) (Z := (· = L)) (b := .grow L (rows.map hdrD)) ⟨rfl, rfl, vs, hL, hr⟩ (.raw (.own (.str _ _) Own.str .nil))) (Nat.le_of_ble_eq_true rfl) (fun _ q => q) (fun _ _ q => q.elim) (fun _ q => q) (fun _ q => q.elim) ?_
  · intro a q
    rcases q with q | q
    · exact low a q
    · obtain ⟨o, e⟩ := hlL; exact ⟨o, q ▸ e⟩
  intro env s' c F
  have hA' : Rm (n + 1) (A.deeper env) := hA.deeper
  have up : ∀ {ρ : Vs} {Z : Addr → Prop} {G : Gd} {h : Heap}, Fs w G X Z env (fS (mth 7 4)) ρ s.heap (· = L) h → h.get? t = some ot ∧ h.get? dt = some od := fun F => ⟨F.keep t ot htL h1, F.keep dt od hdL h2⟩
  refine st_seq (st_assign_run F rfl (run_conv F hA' rfl rfl O (up F).1 (up F).2 (ev_lower (ev_name rfl) hx) hc) fun s1 c1 F => ?_)
  have C := F.cx rfl
  obtain ⟨m1, cm1, f1, g1⟩ := id F.fm
  obtain ⟨_, _, _, _, _, vs1, hl1, hr1⟩ := g1 star _ rfl
  refine st_seq (wpAny_Assign_Subscript (wpAny_mono (run_comp (b := true) (q := false) (l := rows) (g := hdrD) (p := fun p => Txt.lower p.1 != Txt.lower x) (f := hdrD) hA' C (compText_of (by kernel_rfl)) ?_ ?_ (sl (by first | exact Nat.le_trans (by assumption) (by decide) | omega))) (fun v s2 q => ?_) fun _ _ x => x))
  · refine run_headers F rfl O (up F).1 (up F).2 ?_
    exact iter_list hA'.handled (keeps_tok s1 _) hl1 hr1.length (things_old hr1 trivial) fun z => nomatch z
  · intro p hp X' env'
    exact ⟨evt_cmp (ev_lower (ev_titem (ev_name rfl) ev_int rfl) (hn p hp)) (ev_name rfl) op_nes, fun _ => ev_name rfl⟩
  · obtain ⟨r, o, k⟩ := q
    have o := o rfl
    obtain ⟨b, ws, rfl, hl, r⟩ := r.lst_inv
    have F2 := F.ext (keeps_ext k)
    have hbL : L ≠ b := fun z => o b rfl (.inr z.symm)
    refine run_headers F2 rfl O (up F2).1 (up F2).2 ?_
    refine wpAny_Slice ?_
    rw [evalPart_none]
    refine wpAny_pure (wpAny_pure (wpAny_pure ?_))
    have kp : Ext s2.heap (s2.heap.push { cls := .type "slice", data := .fields #[.none, .none, .none] }) := fun b o e => Heap.get?_push_of_some _ e
    have F3 := F2.ext kp
    have hlen2 : ws.length ≤ rows.length := by
      rw [r.length, List.length_map]; exact List.length_filter_le _ _
    refine setItem_all (items := vs1.toArray) (new := ws.toArray) ((hl1.at fun o e => keeps_ext k _ o e).at fun o e => kp _ o e) (hl.at fun o e => kp _ o e) hbL (Heap.IsSliceOf.new ..) ?_ (fun h' hl' hs' => ?_)
    · rw [List.size_toArray, List.size_toArray, hr1.length, List.length_map]
      exact sl (by first | exact Nat.le_trans (by assumption) (by decide) | omega)
    · have F4 := F3.turn (x := star) (a := L) (ds := rows.map hdrD) (es := (leftF rows x).map hdrD) rfl hs' (vs' := ws) hl' (r.ext kp)
      refine st_nil (hRR _ _ ⟨rfl, ?_, F4.base, fun b o hb e => F4.keep b o hb e, ?_⟩)
      · have a1 : Chg s s2 := c.trans (c1.trans (Chg.of_keeps k))
        exact a1.trans ⟨h', _, rfl⟩
      · obtain ⟨m9, cm9, f9, g9⟩ := F4.fm
        obtain ⟨_, _, _, _, _, vs9, hl9, hr9⟩ := g9 star _ rfl
        exact ⟨vs9, hl9, hr9⟩
end
end Mine

open PySem PySem.W PyProof.Rows PySem.AutoIntOps
set_option Elab.async false
set_option linter.unusedVariables false
set_option linter.unusedSimpArgs false
set_option maxRecDepth 100000
set_option maxHeartbeats 1000000
namespace Mine
/-! # an iterator of a list -/
section
variable {w : World} {n : Nat} {G : Gd} {X Z Z' : Addr → Prop} {env : Env} {sc : Scope} {ρ ρ' : Vs} {H : Heap} {Y : Addr → Prop} {A : Around} {E : Value → Shared → Prop} {s s₀ : Shared} {h h' : Heap} {I L : Addr}
theorem run_next {i : Nat} {items : Array Value} {x : Value} {Q : Value → Shared → Prop} (hit : s.heap.IsListIter I L i) (hl : s.heap.IsList L items) (hx : items[i]? = some x)
    (hQ : ∀ h', h'.IsListIter I L (i + 1) → Heap.SameBut I s.heap h' → Q x { s with heap := h' }) : wpAny (Md w) A (call (.builtin "next") [.ref I]) Q E s := by
  refine PySem.Calls.call_function_entry (by decide +kernel) (by decide +kernel) kdk_entry_next (kdk_args_next _) ?_
  unfold Builtin.«next»
  refine wpAny_bind (m := someArgs "next" 1 2 _) (wpAny_of_eq (a := [Value.ref I]) (by first | rfl | kernel_rfl!) ?_)
  refine wpAny_bind (wpAny_specialOf hit.typeIs slot_listiter_next.lookup ?_)
  show wpAny _ _ (callSpecial? (.ref I) "__next__" >>= _) _ _ _
  obtain ⟨o, ho, hc, hd⟩ := id hit
  obtain ⟨ol, hol, _, nl, hdl⟩ := hl
  refine wpAny_bind (wpAny_callSpecial?_slot (name := Str.ofString "__next__") hit.typeIs slot_listiter_next
    (wpAny_call_entry slot_listiter_next hit.typeIs entry_listiter_next ?_ (args_listiter_next _)))
  show wpAny _ _ (field (.ref I) 0 >>= _) _ _ s
  refine wpAny_bind (wpAny_field ho hd (x := .ref L) rfl ?_)
  show wpAny _ _ (if (Value.ref L == Value.none) = true then _ else _) _ _ s
  rw [if_neg (show ¬ ((Value.ref L == Value.none) = true) from Bool.false_ne_true)]
  show wpAny _ _ (field (.ref I) 1 >>= _) _ _ s
  refine wpAny_bind (wpAny_field ho hd (x := .int i 0) rfl ?_)
  show wpAny _ _ (seqItems? (.ref L) >>= _) _ _ s
  refine wpAny_bind (wpAny_seqItems hol hdl ?_)
  simp only [Int.toNat_natCast, hx]
  refine wpAny_bind (wpAny_setField ho hd (by simp) (wpAny_pure ⟨x, rfl, wpAny_pure ⟨_, rfl, hQ _ ?_ (Heap.SameBut.update ..)⟩⟩))
  exact ⟨_, Heap.get?_update_self _ ho (Obj.isFreed_of_fields (Obj.data_mapFields hd _)), (Obj.cls_mapFields ..).trans hc, by
    rw [Obj.data_mapFields hd]; simp [rawInt]⟩
theorem KK_noiter (w : World) : (KK w.params).all (fun p => match p.2.cls with | .type t => t != "list_iterator" | _ => true) = true := by kernel_rfl
theorem Bs.iter {i : Nat} (B : Bs w h) (hit : h.IsListIter I L i) (k : ∀ b o, b ≠ I → h.get? b = some o → h'.get? b = some o) : Bs w h' := by
  obtain ⟨oa, hoa, hca, hda⟩ := hit
  have ns : ∀ {b : Addr} {m : Str → Option Value}, h.Ns b m → h'.Ns b m := fun {b m} q => by
    obtain ⟨o, es, ep, ho, hd, r⟩ := q
    refine ⟨o, es, ep, k b o (fun z => ?_) ho, hd, r⟩
    subst z
    rw [hoa] at ho; cases ho; rw [hda] at hd; cases hd
  refine ⟨fun b o e => ?_, ?_⟩
  · have hb := B.inK b o e
    refine k b o (fun z => ?_) hb
    subst z
    rw [hoa] at hb; cases hb
    have mem : ∀ {l : Frag} {b : Addr} {o : Obj}, l.lookup b = some o → (b, o) ∈ l := by
      intro l
      induction l with
      | nil => intro b o e; cases e
      | cons p r ih =>
        intro b o e
        rw [List.lookup_cons] at e
        cases hb : b == p.1 with
        | true => rw [hb] at e; cases e; have := beq_iff_eq.mp hb; subst this; exact List.mem_cons_self
        | false => rw [hb] at e; exact List.mem_cons_of_mem _ (ih e)
    have := List.all_eq_true.mp (KK_noiter w) _ (mem e)
    rw [hca] at this
    cases this
  · obtain ⟨mg, mb, T⟩ := B.top
    exact ⟨mg, mb, ns T.g, ns T.b, let ⟨mc, a, b⟩ := T.nolimit; ⟨mc, ns a, b⟩, T.builtins, T.free⟩
/-- one place of the frame's own, no list of a name, is turned -/
theorem Fs.stir {a : Addr} (F : Fs w G X Z env sc ρ H Y h) (hZ : Z a) (hY : Y a ∨ H.get? a = none) (hfm : ¬ Fm.at env (allNames sc) a) (hng : ∀ x ds, ρ.lookup x ≠ some (.grow a ds)) (hP : ∀ o, ¬ G.P a o) (hB : Bs w h') (k : ∀ b o, b ≠ a → h.get? b = some o → h'.get? b = some o) (hl : ∃ o, h'.get? a = some o) :
    Fs w G X Z env sc ρ H Y h' := by
  have kX : ExtX (XZ X Z) h h' := fun b o hb e => k b o (fun q => hb (.inr (q ▸ hZ))) e
  have kf : ∀ b o, Fm.at env (allNames sc) b → h.get? b = some o → h'.get? b = some o := fun b o hb e => k b o (fun q => hfm (q ▸ hb)) e
  have lv : ∀ b o, h.get? b = some o → ∃ o', h'.get? b = some o' := fun b o e => by
    by_cases q : b = a
    · subst q; exact hl
    · exact ⟨o, k b o q e⟩
  obtain ⟨m, cm, f, g⟩ := F.fm
  refine ⟨hB, F.baseH, F.scope, F.fn, F.glob, F.blt, fun c q => ?_, ⟨m, cm, f.ext fun b o hb e => kf b o hb e, fun x b e => ?_⟩, F.dist, F.new, fun b o hb e => k b o (fun q => ?_) (F.keep b o hb e), F.mine,
    fun b o p => let ⟨e1, e2, e3⟩ := F.prot b o p; ⟨k b o (fun z => hP o (z ▸ p)) e1, e2, e3⟩, F.wall, fun b o e => let ⟨o', e'⟩ := F.live b o e; lv b o' e', fun b q => let ⟨z, o, e⟩ := F.safe b q; ⟨z, o, k b o (fun y => z (y ▸ hZ)) e⟩⟩
  · obtain ⟨o, e⟩ := F.low c q; exact lv c o e
  · obtain ⟨l, v, e1, e2⟩ := g x b e
    refine ⟨l, v, e1, ?_⟩
    cases b with
    | own d => exact ⟨e2.1.extX kX e2.2, e2.2⟩
    | par d =>
      refine ⟨?_, e2.2⟩
      have ho : ∀ c, v = .ref c → c ≠ a := fun c z q => e2.2 c z (q ▸ hZ)
      cases e2.1 with
      | none => exact .none
      | bool b => exact .bool b
      | int i t => exact .int i t
      | str x t => exact .str x t
      | tup hl r => exact .tup (hl.at fun o e => k _ o (ho _ rfl) e) (r.extX kX)
      | lst hl r => exact .lst (hl.at fun o e => k _ o (ho _ rfl) e) (r.extX kX)
    | grow c ds =>
      obtain ⟨rfl, hz, vs, l, r⟩ := e2
      exact ⟨rfl, hz, vs, l.at fun o e' => k _ o (fun q => hng x ds (q ▸ e)) e', r.extX kX⟩
    | raw u => exact e2
  · subst q
    rcases hY with q | q
    · exact hb q
    · rw [q] at e; cases e
end
end Mine

open PySem PySem.W PyProof.Rows PySem.AutoIntOps
set_option Elab.async false
set_option linter.unusedVariables false
set_option linter.unusedSimpArgs false
set_option maxRecDepth 100000
set_option maxHeartbeats 1000000
namespace Mine
/-! # _parse_varint -/
open Builtin in
/-- the rest of a number to the base 64: its value so far, the signs left -/
noncomputable def varGo (b v : Int) : List Int → Option (Int × List Int)
  | [] => if bitAnd b 64 ≠ 0 then none else some (v, [])
  | c :: r => if bitAnd b 64 ≠ 0 then (if v.natAbs < 2 ^ 64 then varGo c (bitOr (v * 64) (bitAnd c 63)) r else none) else some (v, c :: r)
noncomputable def varF : List Int → Option (Int × List Int)
  | [] => none
  | b :: r => varGo b (Builtin.bitAnd b 63) r
noncomputable def ItO (o : Obj) (L : Addr) (i : Nat) : Prop := o.cls = .type "list_iterator" ∧ o.data = .fields #[.ref L, .int i 0]
noncomputable abbrev keepG (I : Addr) (o : Obj) : Gd := ⟨fun b o' => b = I ∧ o' = o, fun _ => False, fun _ => False⟩
section
variable {w : World} {n : Nat} {G : Gd} {X Z Z' : Addr → Prop} {env : Env} {sc : Scope} {ρ ρ' : Vs} {H : Heap} {Y : Addr → Prop} {A : Around} {E : Value → Shared → Prop} {s s₀ : Shared} {h h' : Heap} {I L : Addr} {oI : Obj}
theorem st_next {x y f : Str} {px pf py cp pos : Pos} {i : Nat} {items : Array Value} {k : Int} {tk : Tok} {Q : Flow → Shared → Prop} (F : Fs w (keepG I oI) X Z env sc ρ H Y s.heap) (hA : Rm n A) (hc : clean ρ = true) (hs : sc.names.lookup f = some .globalImplicit) (hg : GlobIs w f (.builtin "next")) (hy : ρ.lookup y = some (.raw (.ref I))) (hx : locOrCell sc x = true)
    (hZ : Z I) (hY : Y I ∨ H.get? I = none) (hit0 : ItO oI L i) (hl : s.heap.IsList L items) (hk : items[i]? = some (.int k tk))
    (h : ∀ s' oI', Chg s s' → ItO oI' L (i + 1) → Fs w (keepG I oI') X Z env sc ((x, .own (.int k)) :: ρ) H Y s'.heap → Q .next s')
    (hd : (f == ("__debug__" : Str)) = false := by decide) (hd2 : (y == ("__debug__" : Str)) = false := by decide) (hst : (y == star) = false := by decide) (hsw : swapsWith (.Call (.Name f pf) [.Name y py] [] cp) (some (.Name x px)) pos.line env = pure false := by rfl) :
    wpAny (Md w) A (exec (.Assign [.Name x px] (.Call (.Name f pf) [.Name y py] [] cp) pos) env) Q E s := by
  have hit : s.heap.IsListIter I L i := ⟨oI, (F.prot I oI ⟨rfl, rfl⟩).1, hit0.1, hit0.2⟩
  obtain ⟨p1, p2, p3⟩ := F.prot I oI ⟨rfl, rfl⟩
  refine wpAny_Assign_Name (call_raw1 F hA hc hs hg (.inr (.inl ⟨_, rfl⟩)) hy (run_next hit hl hk fun h1 hit1 hs1 => ?_) hd hd2 hst) hsw
  have F0 := F.guard (G' := Gd.no) (fun _ _ q => q.elim) (fun _ q => q.elim) (fun _ q => q.elim)
  obtain ⟨o1, e1, c1, d1⟩ := id hit1
  have F1 := F0.stir hZ hY p2 p3 (fun _ q => q) (F.base.iter hit fun b o hb e => hs1.extBut b o hb e) (fun b o hb e => hs1.extBut b o hb e) ⟨o1, e1⟩
  have F2 := F1.guard (G' := keepG I o1) (fun b o q => by obtain ⟨rfl, rfl⟩ := q; exact ⟨e1, p2, p3⟩) (fun _ q => q.elim) (fun _ q => q.elim)
  refine fs_store (s := { s with heap := h1 }) F2 hx (fit_own (.int k tk) Own.int) fun s' c F' _ kp => ?_
  exact h s' o1 (Chg.trans ⟨h1, _, rfl⟩ c) ⟨c1, d1⟩ F'
theorem spec_varint {ns : List Int} {vs : List Value} {i : Nat} {v : Int} {rest : List Int} (hA : Rm (n + 2) A) (B : Bs w s.heap) (hI : s.heap.get? I = some oI) (hit : ItO oI L i) (hl : s.heap.PlainList L vs.toArray) (hvs : ∀ (j : Nat) (k : Int), ns[j]? = some k → ∃ tk, vs.toArray[j]? = some (.int k tk)) (hLI : L ≠ I)
    (hv : varF (ns.drop i) = some (v, rest)) :
    codeAny (Md w) A (.call (.ref 201) ⟨[.ref I], []⟩) (fun r s' => ∃ tk, r = .ok (.ret (.int v tk)) ∧ Chg s s' ∧ Bs w s'.heap ∧ (∀ b o, b ≠ I → s.heap.get? b = some o → s'.heap.get? b = some o) ∧ ∃ j oI', s'.heap.get? I = some oI' ∧ ItO oI' L j ∧ ns.drop j = rest) s := by
  refine codeAny_gen fun RR hRR => ?_
  refine def_at (G := keepG I oI) (X := NoA) (Z := (· = I)) (Y := (· = I)) ["iterator"] [("iterator", .raw (.ref I))] hA B rfl rfl rfl rfl rfl rfl rfl rfl rfl rfl rfl (binds := [("iterator", .ref I)]) (by kernel_rfl) rfl (by decide) (by decide +kernel) ?_
    (.raw .nil) (Nat.le_of_ble_eq_true rfl) (fun _ q => q) ?_ (fun _ q => q) (fun _ q => q.elim) ?_
  · intro a q
    rcases q with q | q
    · exact q.elim
    · exact ⟨_, q ▸ hI⟩
  · rintro b o ⟨rfl, rfl⟩
    refine ⟨hI, fun x ds z => ?_⟩
    have := mem_of_lookup z
    simp at this
  intro env s' c F
  have hA' : Rm (n + 1) (A.deeper env) := hA.deeper
  have lst : ∀ {ρ : Vs} {G : Gd} {h : Heap}, Fs w G NoA (· = I) env (fS (stm 11)) ρ s.heap (· = I) h → h.IsList L vs.toArray := fun F => hl.isList.at fun o e => F.keep L o hLI e
  cases hd : ns.drop i with
  | nil => rw [hd] at hv; cases hv
  | cons b r =>
  rw [hd] at hv
  have step : ∀ {j : Nat} {b : Int} {r : List Int}, ns.drop j = b :: r → (∃ tk, vs.toArray[j]? = some (.int b tk)) ∧ ns.drop (j + 1) = r := fun {j b r} e => by
    have e1 : ns[j]? = some b := by rw [← List.head?_drop, e]; rfl
    exact ⟨hvs j b e1, by rw [← List.tail_drop, e]; rfl⟩
  obtain ⟨⟨tk, hk⟩, hd1⟩ := step hd
  refine st_seq (st_next F hA' rfl rfl g_next rfl rfl rfl (.inl rfl) hit (lst F) hk fun s1 o1 c1 it1 F => ?_)
  refine st_seq (st_assign F hA' rfl rfl (ev_bin (ev_name rfl) ev_int op_and) fun s2 c2 F => ?_)
  have F := F.lessL (κ := [(Str.ofString "val", .own (.int (Builtin.bitAnd b 63))), (Str.ofString "b", .own (.int b)), (Str.ofString "iterator", .raw (.ref I))]) (looks (by rfl))
  refine st_seq (wpAny_While (codeAny_whileLoop (fun m s' => ∃ b v' r j o, r.length = m ∧ varGo b v' r = some (v, rest) ∧ ns.drop j = r ∧ ItO o L j ∧ Chg s s' ∧ Fs w (keepG I o) NoA (· = I) env (fS (stm 11)) [(Str.ofString "val", .own (.int v')), (Str.ofString "b", .own (.int b)), (Str.ofString "iterator", .raw (.ref I))] s.heap (· = I) s'.heap) ?_ r.length ⟨b, _, r, i + 1, o1, rfl, hv, hd1, it1, c.trans (c1.trans c2), F⟩))
  intro m s3 q
  refine hide fun R kR => ?_
  obtain ⟨b, v', r, j, o, rfl, hgo, hdj, it, c3, F⟩ := q
  refine kR ?_
  clear kR R
  refine wpAny_mono ((show EvT w (n + 1) _ env _ _ (.BinOp (.Name (Str.ofString "b") _) .BitAnd (.Constant (.int 64) 0 _) _) _ from evt_val (ev_bin (ev_name rfl) ev_int op_and) truthy_int') _ s3 _ hA' (F.cx rfl)) (fun t s4 q => ?_) fun _ _ x => x
  obtain ⟨rfl, k4⟩ := q
  have F := F.ext (keeps_ext k4)
  split
  · rename_i hb
    have hb : Builtin.bitAnd b 64 ≠ 0 := by first | exact of_decide_eq_true hb | exact of_decide_eq_false hb | exact bne_iff_ne.mp hb | exact eq_of_beq hb | simpa using hb
    cases r with
    | nil => unfold varGo at hgo; rw [if_pos hb] at hgo; cases hgo
    | cons x r =>
    unfold varGo at hgo
    rw [if_pos hb] at hgo
    by_cases hv64 : v'.natAbs < 2 ^ 64
    · rw [if_pos hv64] at hgo
      obtain ⟨⟨tk3, hk3⟩, hd3⟩ := step hdj
      refine st_seq (st_aug F hA' rfl rfl rfl ev_int (op_ishl (by decide) (by decide) hv64) fun s5 c5 F => ?_)
      refine st_seq (st_next F hA' rfl rfl g_next rfl rfl rfl (.inl rfl) it (lst F) hk3 fun s6 o6 c6 it6 F => ?_)
      refine st_seq (st_aug F hA' rfl rfl rfl (ev_bin (ev_name rfl) ev_int op_and) op_ior fun s7 c7 F => ?_)
      refine st_nil ⟨r.length, by simp, x, _, r, j + 1, o6, rfl, hgo, hd3, it6, c3.trans ((Chg.of_keeps k4).trans (c5.trans (c6.trans c7))), ?_⟩
      exact F.lessL (looks (by rfl))
    · rw [if_neg hv64] at hgo; cases hgo
  · rename_i hb
    have hb : ¬ Builtin.bitAnd b 64 ≠ 0 := by first | exact of_decide_eq_true hb | exact of_decide_eq_false hb | exact bne_iff_ne.mp hb | exact eq_of_beq hb | simpa using hb
    have hgo' : v' = v ∧ r = rest := by
      cases r with
      | nil => unfold varGo at hgo; rw [if_neg hb] at hgo; cases hgo; exact ⟨rfl, rfl⟩
      | cons x r => unfold varGo at hgo; rw [if_neg hb] at hgo; cases hgo; exact ⟨rfl, rfl⟩
    obtain ⟨rfl, rfl⟩ := hgo'
    refine st_nil ?_
    refine st_seq (wpAny_Return_some (wpAny_mono ((ev_name (b := true) rfl : Ev w (n + 1) _ env _ _ true (.Name (Str.ofString "val") _) (.int v')) _ s4 _ hA' (F.cx rfl)) (fun u s5 q => ?_) fun _ _ x => x))
    obtain ⟨q1, _, q3⟩ := q
    cases q1
    have F := F.ext (keeps_ext q3)
    exact hRR _ _ ⟨_, rfl, c3.trans ((Chg.of_keeps k4).trans (Chg.of_keeps q3)), F.base, fun b o hb e => F.keep b o hb e, j, o, (F.prot I o ⟨rfl, rfl⟩).1, it, hdj⟩
end
end Mine

open PySem PySem.W PyProof.Rows PySem.AutoIntOps
set_option Elab.async false
set_option linter.unusedVariables false
set_option linter.unusedSimpArgs false
set_option maxRecDepth 100000
set_option maxHeartbeats 1000000
namespace Mine
/-! # texts without a sign that a header may not have -/
theorem Clean.app {x y : Str} (a : Clean x) (b : Clean y) : Clean (x ++ y) := fun c h => by
  have h : c ∈ (x.cps ++ y.cps).toList := h
  rw [Array.toList_append, List.mem_append] at h
  exact h.elim (a c) (b c)
theorem join_eq {x : Str} {l : List Str} : Txt.join x l = Str.join x l := StrLaws.glued_eq_join ..
theorem Clean.join' {x : Str} (a : Clean x) : ∀ {l : List Str}, (∀ y ∈ l, Clean y) → Clean (Str.join x l)
  | [], _ => fun c h => by cases h
  | [y], b => b y List.mem_cons_self
  | y :: z :: r, b => ((b y List.mem_cons_self).app a).app (Clean.join' a (l := z :: r) fun u hu => b u (List.mem_cons_of_mem _ hu))
theorem Clean.join {x : Str} (a : Clean x) {l : List Str} (b : ∀ y ∈ l, Clean y) : Clean (Txt.join x l) := by rw [join_eq]; exact a.join' b
theorem Clean.one {c : Nat} (h : 127 < c) : Clean ⟨#[c]⟩ := fun d hd => by
  have hd : d ∈ [c] := hd
  rw [List.mem_singleton] at hd; subst hd
  exact ⟨by omega, by omega⟩
theorem Clean.none : Clean Str.empty := fun c h => by cases h
theorem len_app (x y : Str) : (x ++ y).length = x.length + y.length := by
  show (x.cps ++ y.cps).size = _
  rw [Array.size_append]; rfl
theorem len_join0 : ∀ {l : List Str} {k : Nat}, (∀ y ∈ l, y.length ≤ k) → (Str.join "" l).length ≤ l.length * k
  | [], _, _ => Nat.zero_le _
  | [y], k, b => by
    have := b y List.mem_cons_self
    show y.length ≤ 1 * k
    omega
  | y :: z :: r, k, b => by
    have h := len_join0 (l := z :: r) fun u hu => b u (List.mem_cons_of_mem _ hu)
    have hy := b y List.mem_cons_self
    show (y ++ ("" : Str) ++ Str.join "" (z :: r)).length ≤ _
    rw [len_app, len_app]
    have : ("" : Str).length = 0 := by decide
    rw [List.length_cons, Nat.succ_mul]
    omega
theorem joinOk0 {l : List Str} {k : Nat} (hk : k ≤ 100000) (h : ∀ (a : Nat), l.foldl (· + ·.length + ("" : Str).length) a ≤ a + k) : JoinOk "" l = true := by
  unfold JoinOk
  rw [List.foldl_toArray]
  have := h 0
  show (!(decide (_ > sizeLine))) = true
  have := sl hk
  rw [decide_eq_false (by first | exact Nat.le_trans (by assumption) (by decide) | omega)]; rfl
theorem fold_len0 {l : List Str} {k : Nat} (b : ∀ y ∈ l, y.length ≤ k) (a : Nat) : l.foldl (· + ·.length + ("" : Str).length) a ≤ a + l.length * k := by
  induction l generalizing a with
  | nil => simp
  | cons y r ih =>
    rw [List.foldl_cons]
    have h1 := ih (fun u hu => b u (List.mem_cons_of_mem _ hu)) (a + y.length + ("" : Str).length)
    have hy := b y List.mem_cons_self
    have : ("" : Str).length = 0 := by decide
    rw [List.length_cons, Nat.succ_mul]
    omega
/-! # a recipe as a header -/
noncomputable def signF (t : Int) : Str := ((if t % 3 == 0 then (⟨#[192]⟩ : Str) else Str.empty) ++ (if decide (63 < t) then (⟨#[(192 + t.fdiv 64).toNat]⟩ : Str) else Str.empty)) ++ ⟨#[(128 + t % 64).toNat]⟩
noncomputable def signs (m : List Int) : Str := Txt.join "" ((m.filter (· != 0)).map signF)
noncomputable def maskI (m : List Int) : Int := (((m.zipIdx 0).filter fun p => p.1 != 0).map fun p => (2 : Int) ^ p.2).sum
noncomputable def fewF (f : Nat) (most : Int) : Bool := decide (((wordsTo f 4).length : Int) ≤ most)
noncomputable def layF (rs : List Rw) (m : List Int) (f : Nat) (most : Int) : Str × Str := if fewF f most then ((nameF (totF rs m), told f ++ "=" ++ signs m) : Str × Str) else ("0", told f)
theorem signF_ok {t : Int} (h0 : 0 ≤ t) (h1 : t ≤ 4000) : Clean (signF t) ∧ (signF t).length ≤ 3 := by
  have hf : 0 ≤ t.fdiv 64 := Int.fdiv_nonneg h0 (by decide)
  have hm := Int.emod_nonneg t (show (64 : Int) ≠ 0 by decide)
  unfold signF
  refine ⟨((?_ : Clean _).app ?_).app (Clean.one (by first | exact Nat.le_trans (by assumption) (by decide) | omega)), ?_⟩
  · split
    · exact Clean.one (by decide)
    · exact Clean.none
  · split
    · exact Clean.one (by first | exact Nat.le_trans (by assumption) (by decide) | omega)
    · exact Clean.none
  · rw [len_app, len_app]
    have e1 : ∀ c : Nat, (⟨#[c]⟩ : Str).length = 1 := fun _ => rfl
    have e2 : Str.empty.length = 0 := rfl
    split <;> split <;> simp only [e1, e2] <;> omega
theorem told_ok : ∀ f : Fin 16, (told f.val).cps.toList.all (fun c => decide (32 ≤ c) && decide (c ≠ 127)) = true ∧ (told f.val).length ≤ 100 ∧
    (Builtin.Str.partsBetween (told f.val) (Builtin.Str.occurrences (told f.val) (Str.ofString ", ") 0 (told f.val).length ((told f.val).length + 1)) (Str.ofString ", ").length).length ≤ 10 ∧ Txt.split (told f.val) (Str.ofString ", ") = (if f.val = 0 then [Str.empty] else wordsTo f.val 4) := by decide +kernel
theorem told_clean {f : Nat} (hf : f < 16) : Clean (told f) := fun c h => by
  have := List.all_eq_true.mp (told_ok ⟨f, hf⟩).1 c h
  simpa using this
theorem told_parts {f : Nat} (h0 : f ≠ 0) (hf : f < 16) : Txt.split (told f) (Str.ofString ", ") = wordsTo f 4 := by
  have := (told_ok ⟨f, hf⟩).2.2.2
  rwa [if_neg h0] at this
theorem words_len (f : Nat) : (wordsTo f 4).length ≤ 4 := by
  unfold wordsTo; rw [List.length_map]; exact Nat.le_trans (List.length_filter_le _ _) (by rw [List.length_range]; omega)
theorem signs_len {m : List Int} (hm : ∀ x ∈ m, 0 ≤ x ∧ x ≤ 4000) (hl : m.length ≤ 4) : Clean (signs m) ∧ (signs m).length ≤ 12 := by
  have hb : ∀ y ∈ (m.filter (· != 0)).map signF, Clean y ∧ y.length ≤ 3 := fun y hy => by
    obtain ⟨t, ht, rfl⟩ := List.mem_map.mp hy
    obtain ⟨a, b⟩ := hm t (List.mem_filter.mp ht).1
    exact signF_ok a b
  have hll : ((m.filter (· != 0)).map signF).length ≤ 4 := by rw [List.length_map]; exact Nat.le_trans (List.length_filter_le _ _) hl
  refine ⟨Clean.join (fun c h => by cases h) fun y hy => (hb y hy).1, ?_⟩
  have := len_join0 fun y hy => (hb y hy).2
  unfold signs
  rw [join_eq]
  omega
theorem layF_ok {rs : List Rw} {m : List Int} {f : Nat} {most : Int} (hf : f < 16) (hm : ∀ x ∈ m, 0 ≤ x ∧ x ≤ 4000) (hl : m.length ≤ 4) : Clean (layF rs m f most).1 ∧ Clean (layF rs m f most).2 ∧ (layF rs m f most).2.length ≤ 1000 := by
  have ht := (told_ok ⟨f, hf⟩).2.1
  have hc := told_clean hf
  obtain ⟨s1, s2⟩ := signs_len hm hl
  have lit : ∀ x : Str, x.cps.toList.all (fun c => decide (32 ≤ c) && decide (c ≠ 127)) = true → Clean x := fun x h c hc => by simpa using List.all_eq_true.mp h c hc
  unfold layF
  split
  · refine ⟨?_, (hc.app (lit _ (by decide +kernel))).app s1, ?_⟩
    · show Clean (nameF (totF rs m))
      unfold nameF
      repeat' split
      · exact lit "x" (by decide +kernel)
      · exact lit "X" (by decide +kernel)
      · exact lit "y" (by decide +kernel)
      · exact lit "Y" (by decide +kernel)
      · exact lit "1" (by decide +kernel)
    · show (told f ++ ("=" : Str) ++ signs m).length ≤ _
      rw [len_app, len_app]
      have : ("=" : Str).length = 1 := by decide +kernel
      dsimp only at ht
      omega
  · dsimp only at ht
    exact ⟨lit "0" (by decide +kernel), hc, by show (told f).length ≤ 1000; omega⟩
end Mine

open PySem PySem.W PyProof.Rows PySem.AutoIntOps
set_option Elab.async false
set_option linter.unusedVariables false
set_option linter.unusedSimpArgs false
set_option maxRecDepth 100000
set_option maxHeartbeats 1000000
namespace Mine
/-! # _law_lay -/
noncomputable def growAt : Bd → Option Addr
  | .grow a _ => some a
  | _ => none
theorem dist_two {ρ : Vs} (h : (ρ.filterMap fun p => growAt p.2).Nodup) : ∀ x y a ds es, ρ.lookup x = some (.grow a ds) → ρ.lookup y = some (.grow a es) → x = y := by
  intro x y a ds es
  induction ρ with
  | nil => intro e; cases e
  | cons p r ih =>
    obtain ⟨z, b⟩ := p
    have mem : ∀ {x : Str} {ds : List D}, r.lookup x = some (.grow a ds) → a ∈ r.filterMap fun p => growAt p.2 := fun e => List.mem_filterMap.mpr ⟨_, mem_of_lookup e, rfl⟩
    intro e1 e2
    rw [List.lookup_cons] at e1 e2
    have hr : (r.filterMap fun p => growAt p.2).Nodup := by
      rw [List.filterMap_cons] at h
      split at h
      · exact h
      · exact (List.nodup_cons.mp h).2
    cases h1 : x == z with
    | true =>
      rw [h1] at e1
      cases e1
      cases h2 : y == z with
      | true => exact (beq_iff_eq.mp h1).trans (beq_iff_eq.mp h2).symm
      | false =>
        rw [h2] at e2
        rw [List.filterMap_cons] at h
        exact absurd (mem e2) (List.nodup_cons.mp h).1
    | false =>
      rw [h1] at e1
      cases h2 : y == z with
      | true =>
        rw [h2] at e2
        cases e2
        rw [List.filterMap_cons] at h
        exact absurd (mem e1) (List.nodup_cons.mp h).1
      | false => rw [h2] at e2; exact ih hr e1 e2
section
variable {w : World} {n : Nat} {G : Gd} {X Z Z' : Addr → Prop} {env : Env} {sc : Scope} {ρ ρ' : Vs} {H : Heap} {Y : Addr → Prop} {A : Around} {E : Value → Shared → Prop} {s s₀ : Shared} {h h' : Heap} {t dt L Tw : Addr} {ot od : Obj}
theorem g_flagsF : GlobIs w (Str.ofString "pretty_flags") (.ref 194) := .inl (by kernel_rfl)
theorem g_name : GlobIs w (Str.ofString "_law_name") (.ref 249) := .inl (by kernel_rfl)
theorem g_total : GlobIs w (Str.ofString "_law_total") (.ref 242) := .inl (by kernel_rfl)
theorem spec_lay {rs : List Rw} {m : List Int} {f : Nat} {most : Int} {tk : Tok} {rv mv : Value} {tb tw : List Hr} {lvs tvs : List Value} (hA : Rm (n + 4) A) (B : Bs w s.heap) (low : ∀ a, X a → ∃ o, s.heap.get? a = some o) (O : HObj t dt L ot od) (h1 : s.heap.get? t = some ot) (h2 : s.heap.get? dt = some od)
    (htL : t ≠ L) (hdL : dt ≠ L) (htT : t ≠ Tw) (hdT : dt ≠ Tw) (hTL : L ≠ Tw)
    (hL : s.heap.PlainList L lvs.toArray) (hLr : RpL (XZ X (fun a => a = L ∨ a = Tw)) s.heap lvs (tb.map hdrD)) (hT : s.heap.PlainList Tw tvs.toArray) (hTr : RpL (XZ X (fun a => a = L ∨ a = Tw)) s.heap tvs (tw.map hdrD))
    (hrv : RpB (XZ X (fun a => a = L ∨ a = Tw)) s.heap rv (.lst (rs.map rwD))) (hro : Own (XZ X (fun a => a = L ∨ a = Tw)) rv) (hmv : RpB (XZ X (fun a => a = L ∨ a = Tw)) s.heap mv (.lst (m.map .int))) (hmo : Own (XZ X (fun a => a = L ∨ a = Tw)) mv)
    (hrs : rs.length ≤ 1000) (hml : m.length ≤ 4) (hm : ∀ x ∈ m, 0 ≤ x ∧ x ≤ 4000) (hf0 : f ≠ 0) (hf : f < 16) (hmask : maskI m = (f : Int)) (hlen : tb.length ≤ 1000) (hlen2 : tw.length ≤ 1000) :
    codeAny (Md w) A (.call (.ref 254) ⟨[.ref t, .ref Tw, rv, mv, .int most tk], []⟩) (fun r s' => r = .ok (.ret .none) ∧ Chg s s' ∧ Bs w s'.heap ∧ (∀ b o, b ≠ L → b ≠ Tw → s.heap.get? b = some o → s'.heap.get? b = some o) ∧
      (∃ vs' : List Value, s'.heap.PlainList L vs'.toArray ∧ RpL (XZ X (fun a => a = L ∨ a = Tw)) s'.heap vs' ((tb ++ [layF rs m f most]).map hdrD)) ∧ ∃ vs' : List Value, s'.heap.PlainList Tw vs'.toArray ∧ RpL (XZ X (fun a => a = L ∨ a = Tw)) s'.heap vs' ((tw ++ [layF rs m f most]).map hdrD)) s := by
  refine codeAny_gen fun RR hRR => ?_
  have hlL : ∃ o, s.heap.get? L = some o := by obtain ⟨_, e⟩ := hL; exact ⟨_, e⟩
  have hlT : ∃ o, s.heap.get? Tw = some o := by obtain ⟨_, e⟩ := hT; exact ⟨_, e⟩
  refine def_in (G := Gd.no) (X := X) (Z := fun a => a = L ∨ a = Tw) (Y := fun a => a = L ∨ a = Tw) (ρ := [(star, .grow L (tb.map hdrD)), ("table", .raw (.ref t)), ("twin", .grow Tw (tw.map hdrD)), ("rows", .own (.lst (rs.map rwD))), ("recipe", .own (.lst (m.map .int))), ("most", .own (.int most))]) hA B rfl rfl rfl rfl rfl rfl rfl rfl rfl rfl rfl (binds := [("table", .ref t), ("twin", .ref Tw), ("rows", rv), ("recipe", mv), ("most", .int most tk)]) (by kernel_rfl)
    (show (["table", "twin", "rows", "recipe", "most"] : List Str).Nodup by decide +kernel) ?_ ?_
    (Pz.far (X := X) (Z := fun a => a = L ∨ a = Tw) (b := .grow L (tb.map hdrD)) ⟨rfl, .inl rfl, lvs, hL, hLr⟩ (.raw (.cons (b := .grow Tw (tw.map hdrD)) ⟨rfl, .inr rfl, tvs, hT, hTr⟩ (.own hrv hro (.own hmv hmo (.own (.int _ _) Own.int .nil)))))).look
    (dist_two ?_) (fun _ q => q) (fun _ _ q => q.elim) (fun _ q => q) (fun _ q => q.elim) ?_
  · intro x hx
    have q : (["table", "twin", "rows", "recipe", "most"] : List Str).all (locOrCell (fS (stm 72))) = true := by decide +kernel
    exact List.all_eq_true.mp q _ (List.mem_map.mpr ⟨x, hx, rfl⟩)
  · intro a q
    rcases q with q | rfl | rfl
    · exact low a q
    · exact hlL
    · exact hlT
  · show [L, Tw].Nodup
    simpa using hTL
  intro env s' c F
  have hA' : Rm (n + 3) (A.deeper env) := hA.deeper
  have up : ∀ {ρ : Vs} {Z : Addr → Prop} {G : Gd} {h : Heap}, Fs w G X Z env (fS (stm 72)) ρ s.heap (fun a => a = L ∨ a = Tw) h → h.get? t = some ot ∧ h.get? dt = some od := fun F => ⟨F.keep t ot (fun z => z.elim htL htT) h1, F.keep dt od (fun z => z.elim hdL hdT) h2⟩
  refine st_seq (st_assign F hA' rfl rfl (ev_def (spec_flags hf0 hf) rfl g_flagsF (by kernel_rfl) (.cons (Ev.cast (ev_call rfl g_sum (.inr (.inl ⟨_, rfl⟩)) (.cons (Ev.cast (ev_lc (l := m.zipIdx 0) (g := fun p => .tup [.int (p.2 : Nat), .int p.1]) (p := fun p => p.1 != 0) (f := fun p => .int (2 ^ p.2)) (by kernel_rfl) ((evit_enum (evs_old (evo_name rfl)) rfl g_enumerate).cast (enumD_map _ _ _)) (fun p hp X' env' => ⟨evt_val (ev_name rfl) truthy_int', fun _ => Ev.cast (ev_bin ev_int (ev_name rfl) (op_pow (by first | exact Nat.le_trans (by assumption) (by decide) | omega) ?_ (by decide))) (by rw [Int.toNat_natCast])⟩) (sl (by rw [List.length_zipIdx]; omega))) ?_) rfl .nil) op_sum) (congrArg D.int hmask)) rfl .nil)) fun s1 c1 F => ?_)
  · have := (List.mem_zipIdx hp).2.1
    omega
  · exact congrArg D.lst (List.map_map (f := fun p : Int × Nat => (2 : Int) ^ p.2) (g := D.int)).symm
  have hm60 : ∀ x ∈ m, x.natAbs < 2 ^ 60 := fun x hx => by have := hm x hx; omega
  have hsg : ∀ y ∈ (m.filter (· != 0)).map signF, y.length ≤ 3 := fun y hy => by
    obtain ⟨u, hu, rfl⟩ := List.mem_map.mp hy
    obtain ⟨a, b⟩ := hm u (List.mem_filter.mp hu).1
    exact (signF_ok a b).2
  have hsl : ((m.filter (· != 0)).map signF).length ≤ 4 := by rw [List.length_map]; exact Nat.le_trans (List.length_filter_le _ _) hml
  refine st_seq (st_assign F hA' rfl rfl (ev_join (ys := (m.filter (· != 0)).map signF) ev_str (Ev.cast (ev_lc (l := m) (g := .int) (p := fun x => x != 0) (f := fun x => .str (signF x)) (by kernel_rfl) (evit_flat (ev_name rfl) ?_ ⟨_, _, rfl⟩) (fun x hx X' env' => ⟨evt_val (ev_name rfl) truthy_int', fun _ => ?_⟩) (sl (by first | exact Nat.le_trans (by assumption) (by decide) | omega))) ?_) ?_) fun s2 c2 F => ?_)
  · exact flts_ints m
  · obtain ⟨x0, x1⟩ := hm x hx
    have e1 : ∀ c : Nat, (⟨#[c]⟩ : Str).length = 1 := fun _ => rfl
    have e2 : Str.empty.length = 0 := rfl
    have hf0 : 0 ≤ x.fdiv 64 := Int.fdiv_nonneg x0 (by decide)
    have hf1 : x.fdiv 64 ≤ 4000 := by rw [Int.fdiv_eq_ediv_of_nonneg _ (by decide)]; omega
    have hm0 := Int.emod_nonneg x (show (64 : Int) ≠ 0 by decide)
    have hm1 := Int.emod_lt_of_pos x (show (0 : Int) < 64 by decide)
    refine ev_bin (ev_bin (ev_bin (ev_call rfl g_chr (.inr (.inl ⟨_, rfl⟩)) (.cons ev_int rfl .nil) (op_chr (by decide) (by decide))) (ev_cmp (ev_bin (ev_name rfl) ev_int (op_modp (by decide))) ev_int op_eq) op_mulsb)
      (ev_bin (ev_call rfl g_chr (.inr (.inl ⟨_, rfl⟩)) (.cons (ev_bin ev_int (ev_bin (ev_name rfl) ev_int (op_fdiv (by decide) (by decide))) op_add) rfl .nil) (op_chr (by first | exact Nat.le_trans (by assumption) (by decide) | omega) (by first | exact Nat.le_trans (by assumption) (by decide) | omega))) (ev_cmp (ev_name rfl) ev_int op_gt) op_mulsb) (op_adds (sl ?_)))
      (ev_call rfl g_chr (.inr (.inl ⟨_, rfl⟩)) (.cons (ev_bin ev_int (ev_bin (ev_name rfl) ev_int (op_modp (by decide))) op_add) rfl .nil) (op_chr (by first | exact Nat.le_trans (by assumption) (by decide) | omega) (by first | exact Nat.le_trans (by assumption) (by decide) | omega))) (op_adds (sl ?_))
    · split <;> split <;> simp only [e1, e2] <;> decide
    · rw [len_app]
      split <;> split <;> simp only [e1, e2] <;> decide
  · exact congrArg D.lst (List.map_map (f := signF) (g := D.str)).symm
  · exact joinOk0 (k := 12) (by decide) fun a => Nat.le_trans (fold_len0 hsg a) (by first | exact Nat.le_trans (by assumption) (by decide) | omega)
  have ht := (told_ok ⟨f, hf⟩).2.1
  have hs12 := (signs_len hm hml).2
  refine st_seq (st_assign F hA' rfl rfl (ev_cmp (ev_call rfl g_len (.inr (.inl ⟨_, rfl⟩)) (.cons (Ev.cast (ev_split (ev_name rfl) ev_str rfl (sl (Nat.le_trans ht (by decide))) ?_) (congrArg (fun l => D.lst (l.map D.str)) (told_parts hf0 hf))) rfl .nil) (op_len ?_)) (ev_name rfl) op_le) fun s3 c3 F => ?_)
  · exact sl (Nat.le_trans (told_ok ⟨f, hf⟩).2.2.1 (by decide))
  · rw [List.length_map]; exact sl (Nat.le_trans (words_len f) (by decide))
  rw [List.length_map] at F
  have F := F.lessL (κ := [(Str.ofString "few", .own (.bool (fewF f most))), (Str.ofString "signs", .own (.str (signs m))), (Str.ofString "told", .own (.str (told f))), (star, .grow L (tb.map hdrD)), (Str.ofString "table", .raw (.ref t)), (Str.ofString "twin", .grow Tw (tw.map hdrD)), (Str.ofString "rows", .own (.lst (rs.map rwD))), (Str.ofString "recipe", .own (.lst (m.map .int)))]) (looks (by rfl))
  have key1 : layF rs m f most = (if fewF f most then nameF (totF rs m) else "0", if fewF f most then told f ++ "=" ++ signs m else told f) := by
    unfold layF; split <;> rfl
  have eq1 : ("=" : Str).length = 1 := by decide +kernel
  refine st_seq (st_append (d := hdrD (layF rs m f most)) F hA' rfl rfl (Ev.cast (ev_tuple (ds := [.str (if fewF f most then nameF (totF rs m) else "0"), .str (if fewF f most then told f ++ "=" ++ signs m else told f)]) (.cons (ev_if (evt_val (ev_name rfl) truthy_bool') (fun h => ?_) fun h => ?_) rfl (.cons (ev_if (evt_val (ev_name rfl) truthy_bool') (fun h => ?_) fun h => ?_) rfl .nil)) (sl (Nat.le_of_ble_eq_true rfl))) (by rw [key1]; rfl)) (sl (by rw [List.length_map]; omega)) fun s4 c4 F => ?_)
  · rw [h]
    exact ev_def spec_name rfl g_name (by kernel_rfl) (.cons (ev_def (spec_total hm60 hrs (by first | exact Nat.le_trans (by assumption) (by decide) | omega)) rfl g_total (by kernel_rfl) (.cons (ev_name rfl) rfl (.cons (ev_name rfl) rfl .nil))) rfl .nil)
  · rw [h]; exact ev_str
  · rw [h]
    exact ev_bin (ev_bin (ev_name rfl) ev_str (op_adds (sl (by rw [eq1]; dsimp only at ht; omega)))) (ev_name rfl) (op_adds (sl (by rw [len_app, eq1]; dsimp only at ht; omega)))
  · rw [h]; exact ev_name rfl
  have F := F.lessL (κ := [(Str.ofString "twin", .grow Tw (tw.map hdrD ++ [hdrD (layF rs m f most)])), (star, .grow L (tb.map hdrD)), (Str.ofString "table", .raw (.ref t))]) (looks (by rfl))
  obtain ⟨ok1, ok2, ok3⟩ := layF_ok (rs := rs) (most := most) hf hm hml
  have hint : interactive env = false := by unfold interactive; rw [F.scope]; rfl
  refine st_seq (wpAny_Expr (methodCall_KW (raw_name F rfl ?_)) hint rfl)
  refine meth_hd (f := 179) F.base O (up F).1 (up F).2 (by kernel_rfl) rfl rfl (by decide) (y := none) (by rw [typeLookup_type, builtinLookup_eq_fast]; kernel_rfl) ?_
  have lst : at? (tw.map hdrD ++ [hdrD (layF rs m f most)]) (-1) = some (.tup [.str (layF rs m f most).1, .str (layF rs m f most).2]) := by
    unfold at?
    rw [if_neg (by decide), if_pos (by rw [List.length_append, List.length_singleton]; omega)]
    have e : (-1 + ((tw.map hdrD ++ [hdrD (layF rs m f most)]).length : Int)).toNat = (tw.map hdrD).length := by
      rw [List.length_append, List.length_singleton]; omega
    rw [e, List.getElem?_append_right (Nat.le_refl _), Nat.sub_self]
    rfl
  refine callWith_L (first := [.ref t]) (fun h B => keeps_K (by kernel_rfl) h B) (.cons (ev_titem (k := 0) (ev_item (k := -1) (ev_name rfl) (ev_neg ev_int) lst) ev_int rfl) rfl (.cons (ev_titem (k := 1) (ev_item (k := -1) (ev_name rfl) (ev_neg ev_int) lst) ev_int rfl) rfl .nil)) hA' (F.cx rfl) fun vs s5 r k5 => ?_
  obtain ⟨v1, v2, rfl, ⟨r1, o1⟩, r2, o2⟩ := r.two_inv
  obtain ⟨tk1, rfl⟩ := r1.str_inv
  obtain ⟨tk2, rfl⟩ := r2.str_inv
  have F := F.told k5
  obtain ⟨m5, cm5, f5, g5⟩ := id F.fm
  obtain ⟨_, _, _, _, _, vs5, hl5, hr5⟩ := g5 star _ rfl
  refine wpAny_call (codeAny_mono (spec_add (n := n + 1) (X := XZ X (fun a => a = L ∨ a = Tw)) hA' F.base F.low O (up F).1 (up F).2 htL hdL hl5 (hr5.weak fun a q => q.elim id fun z => .inr (.inl z)) hlen ok1 ok2 ok3) fun r s6 q => ?_)
  obtain ⟨rfl, c6, B6, k6, vs6, hl6, hr6⟩ := q
  have F6 := F.grown (x := star) (a := L) (ds := tb.map hdrD) (es := (tb ++ [layF rs m f most]).map hdrD) rfl (fun b o hb e => k6 b o hb e) B6 hl6 (hr6.weak fun a q => .inl q)
  refine st_nil (hRR _ _ ⟨rfl, ((((c.trans c1).trans (c2.trans c3)).trans c4).trans (Chg.of_keeps k5)).trans c6, F6.base, fun b o hb hb' e => F6.keep b o (fun z => z.elim hb hb') e, ?_⟩)
  obtain ⟨m9, cm9, f9, g9⟩ := F6.fm
  obtain ⟨_, _, _, _, _, vs9, hl9, hr9⟩ := g9 star _ rfl
  obtain ⟨_, _, _, _, _, us9, hm9, hs9⟩ := g9 "twin" _ rfl
  refine ⟨⟨vs9, hl9, hr9⟩, us9, hm9, ?_⟩
  rw [List.map_append]
  exact hs9
end
end Mine

open PySem PySem.W PyProof.Rows PySem.AutoIntOps
set_option Elab.async false
set_option linter.unusedVariables false
set_option linter.unusedSimpArgs false
set_option maxRecDepth 100000
set_option maxHeartbeats 1000000
namespace Mine
open Builtin Builtin.Str in
/-- a text cut at the one place where a sign stands -/
theorem split_one {x : Str} {c : Nat} {a b : List Nat} (hx : x.cps.toList = a ++ c :: b) (ha : c ∉ a) (hb : c ∉ b) (hc : c < 256) : occurrences x ⟨#[c]⟩ 0 x.length (x.length + 1) = [a.length] ∧ Txt.split x ⟨#[c]⟩ = [⟨a.toArray⟩, ⟨b.toArray⟩] := by
  have hlen : x.length = a.length + 1 + b.length := by
    show x.cps.size = _
    rw [← Array.length_toList, hx, List.length_append, List.length_cons]; omega
  have at_ : ∀ k, StrLaws.At x ⟨#[c]⟩ x.length k → k = a.length := fun k h => by
    have h1 := (StrLaws.subAt_one x c k).mp h
    rw [hx] at h1
    rcases Nat.lt_trichotomy k a.length with q | q | q
    · rw [List.getElem?_append_left q] at h1
      exact absurd (List.mem_of_getElem? h1) ha
    · exact q
    · rw [List.getElem?_append_right (Nat.le_of_lt q)] at h1
      obtain ⟨j, hj⟩ : ∃ j, k - a.length = j + 1 := ⟨k - a.length - 1, by omega⟩
      rw [hj, List.getElem?_cons_succ] at h1
      exact absurd (List.mem_of_getElem? h1) hb
  have is : StrLaws.At x ⟨#[c]⟩ x.length a.length := (StrLaws.subAt_one x c _).mpr (by rw [hx, List.getElem?_append_right (Nat.le_refl _), Nat.sub_self]; rfl)
  have occ : occurrences x ⟨#[c]⟩ 0 x.length (x.length + 1) = [a.length] := by
    obtain ⟨f, h1, h2⟩ := StrLaws.occ_tight x ⟨#[c]⟩ (Nat.le_refl 1)
    generalize occurrences x ⟨#[c]⟩ 0 x.length (x.length + 1) = l at h1
    match l, h1 with
    | [], h1 =>
      have e : f = 0 := h1
      exact absurd is (h2 _ (by first | exact Nat.le_trans (by assumption) (by decide) | omega))
    | [d], h1 => rw [at_ d h1.2.1]
    | d :: e :: r, h1 =>
      have e1 := at_ d h1.2.1
      have e2 := at_ e h1.2.2.2.2.1
      have e3 : d + 1 ≤ e := h1.2.2.2.1
      omega
  refine ⟨occ, ?_⟩
  unfold Txt.split
  have k1 : Builtin.Str.strKind (⟨#[c]⟩ : Str) = 1 := by
    unfold Builtin.Str.strKind
    rw [if_pos (by first | exact of_decide_eq_true hc | exact of_decide_eq_false hc | exact bne_iff_ne.mp hc | exact eq_of_beq hc | simpa using hc)]
  have k2 : ¬ Builtin.Str.strKind x < Builtin.Str.strKind (⟨#[c]⟩ : Str) := by
    rw [k1]; unfold Builtin.Str.strKind; split
    · omega
    · split <;> omega
  rw [occ, if_neg (by
    have : ¬ x.length < (⟨#[c]⟩ : Str).length := by show ¬ x.length < 1; omega
    simp [this, k2]), if_neg (by simp)]
  unfold partsBetween
  show [strSub x 0 a.length, strSub x (a.length + 1) x.length] = _
  have sub : ∀ {i j : Nat} {l : List Nat}, (strSub x i j).cps.toList = l → strSub x i j = ⟨l.toArray⟩ := fun {i j l} h => by
    cases hs : strSub x i j with
    | mk cps =>
      rw [hs] at h
      dsimp only at h
      rw [← h]
  rw [sub (l := a) (by rw [StrLaws.strSub_toList, hx]; simp), sub (l := b) (by
    rw [StrLaws.strSub_toList, hx, hlen]
    rw [List.drop_append, List.drop_eq_nil_of_le (by first | exact Nat.le_trans (by assumption) (by decide) | omega), Nat.add_sub_cancel_left]
    simp)]
section
open Builtin
/-! # the numbers of a recipe, told and read -/
noncomputable def encF (t : Int) : List Int := (signF t).cps.toList.map Int.ofNat
noncomputable def codesF (x : Str) : List Int := x.cps.toList.map Int.ofNat
theorem join_cps : ∀ l : List Str, (Str.join "" l).cps.toList = l.flatMap (·.cps.toList)
  | [] => rfl
  | [y] => by simp [Str.join]
  | y :: z :: r => by
    show (y.cps ++ ("" : Str).cps ++ (Str.join "" (z :: r)).cps).toList = _
    rw [Array.toList_append, Array.toList_append, join_cps (z :: r)]
    have : ("" : Str).cps.toList = [] := rfl
    rw [this, List.append_nil]
    simp
theorem codes_signs (m : List Int) : codesF (signs m) = (m.filter (· != 0)).flatMap encF := by
  unfold codesF signs
  rw [join_eq, join_cps, List.flatMap_map, List.map_flatMap]
  rfl
theorem hi_bits : ∀ q : Fin 64, bitAnd (192 + q.val : Nat) 64 ≠ 0 ∧ bitAnd (192 + q.val : Nat) 63 = (q.val : Int) ∧ bitAnd (128 + q.val : Nat) 64 = 0 ∧ bitAnd (128 + q.val : Nat) 63 = (q.val : Int) := by decide +kernel
theorem lo_bits : ∀ q r : Fin 64, bitOr ((q.val : Int) * 64) (r.val : Int) = (q.val : Int) * 64 + (r.val : Int) := by decide +kernel
theorem enc_cps (t : Nat) : encF t = (if t % 3 = 0 then [192] else []) ++ ((if 63 < t then [((192 + t / 64 : Nat) : Int)] else []) ++ [((128 + t % 64 : Nat) : Int)]) := by
  have e1 : ((t : Int) % 3 == 0) = decide (t % 3 = 0) := by
    rw [Bool.eq_iff_iff]; simp; omega
  have e2 : decide ((63 : Int) < t) = decide (63 < t) := by
    rw [Bool.eq_iff_iff]; simp; omega
  have e3 : (192 + (t : Int).fdiv 64).toNat = 192 + t / 64 := by
    rw [Int.fdiv_eq_ediv_of_nonneg _ (by decide)]; omega
  have e4 : (128 + (t : Int) % 64).toNat = 128 + t % 64 := by omega
  unfold encF signF
  rw [e1, e2, e3, e4]
  show ((((if _ then _ else _ : Str).cps ++ (if _ then _ else _ : Str).cps) ++ _).toList).map Int.ofNat = _
  rw [Array.toList_append, Array.toList_append]
  by_cases h1 : t % 3 = 0 <;> by_cases h2 : 63 < t <;> simp [h1, h2, Str.empty]
theorem go_last {v : Int} {q : Nat} (hq : q < 64) (rest : List Int) : varGo ((128 + q : Nat) : Int) v rest = some (v, rest) := by
  have h := (hi_bits ⟨q, hq⟩).2.2.1
  dsimp only at h
  cases rest with
  | nil => unfold varGo; rw [h]; rfl
  | cons c r => unfold varGo; rw [h]; rfl
theorem go_more {v : Int} {q c : Nat} (hq : q < 64) (hv : v.natAbs < 2 ^ 64) (rest : List Int) : varGo ((192 + q : Nat) : Int) v ((c : Int) :: rest) = varGo (c : Int) (bitOr (v * 64) (bitAnd (c : Int) 63)) rest := by
  have h := (hi_bits ⟨q, hq⟩).1
  dsimp only at h
  conv => lhs; unfold varGo
  rw [if_pos h, if_pos hv]
theorem var_enc {t : Nat} (h1 : t ≤ 4000) (rest : List Int) : varF (encF t ++ rest) = some ((t : Int), rest) := by
  have hq : t / 64 < 64 := by omega
  have hr : t % 64 < 64 := Nat.mod_lt _ (by decide)
  have hd := (hi_bits ⟨t / 64, hq⟩).2.1
  have hm := (hi_bits ⟨t % 64, hr⟩).2.2.2
  have hz : bitAnd (192 : Int) 63 = 0 := by decide +kernel
  have b0 := lo_bits ⟨0, by decide⟩ ⟨t / 64, hq⟩
  have b1 := lo_bits ⟨t / 64, hq⟩ ⟨t % 64, hr⟩
  have b2 := lo_bits ⟨0, by decide⟩ ⟨t % 64, hr⟩
  dsimp only at hd hm b0 b1 b2
  have b0 : bitOr (0 : Int) ((t / 64 : Nat) : Int) = ((t / 64 : Nat) : Int) := by first | exact of_decide_eq_true b0 | exact of_decide_eq_false b0 | exact bne_iff_ne.mp b0 | exact eq_of_beq b0 | simpa using b0
  have b2 : bitOr (0 : Int) ((t % 64 : Nat) : Int) = ((t % 64 : Nat) : Int) := by first | exact of_decide_eq_true b2 | exact of_decide_eq_false b2 | exact bne_iff_ne.mp b2 | exact eq_of_beq b2 | simpa using b2
  have z : (0 : Int) * 64 = 0 := rfl
  have e1 : ((t / 64 : Nat) : Int) * 64 + ((t % 64 : Nat) : Int) = t := by omega
  have s1 : (((t / 64 : Nat) : Int)).natAbs < 2 ^ 64 := by omega
  rw [enc_cps]
  by_cases h2 : 63 < t
  · rw [if_pos h2]
    by_cases h3 : t % 3 = 0
    · rw [if_pos h3]
      show varGo ((192 + 0 : Nat) : Int) (bitAnd 192 63) (((192 + t / 64 : Nat) : Int) :: ((128 + t % 64 : Nat) : Int) :: rest) = _
      rw [hz, go_more (by decide) (by decide), hd, z, b0, go_more hq s1, hm, b1, go_last hr, e1]
    · rw [if_neg h3]
      show varGo ((192 + t / 64 : Nat) : Int) (bitAnd ((192 + t / 64 : Nat) : Int) 63) (((128 + t % 64 : Nat) : Int) :: rest) = _
      rw [hd, go_more hq s1, hm, b1, go_last hr, e1]
  · rw [if_neg h2]
    have e2 : t % 64 = t := Nat.mod_eq_of_lt (by first | exact Nat.le_trans (by assumption) (by decide) | omega)
    by_cases h3 : t % 3 = 0
    · rw [if_pos h3]
      show varGo ((192 + 0 : Nat) : Int) (bitAnd 192 63) (((128 + t % 64 : Nat) : Int) :: rest) = _
      rw [hz, go_more (by decide) (by decide), hm, z, b2, go_last hr, e2]
    · rw [if_neg h3]
      show varGo ((128 + t % 64 : Nat) : Int) (bitAnd ((128 + t % 64 : Nat) : Int) 63) rest = _
      rw [hm, go_last hr, e2]
end
end Mine

open PySem PySem.W PyProof.Rows PySem.AutoIntOps
set_option Elab.async false
set_option linter.unusedVariables false
set_option linter.unusedSimpArgs false
set_option maxRecDepth 100000
set_option maxHeartbeats 1000000
namespace Mine
/-! # numbers drawn from one iterator -/
section
variable {w : World} {n : Nat} {G : Gd} {X Z Z' : Addr → Prop} {env : Env} {sc : Scope} {ρ ρ' : Vs} {H : Heap} {Y : Addr → Prop} {A : Around} {E : Value → Shared → Prop} {s s₀ : Shared} {h h' : Heap} {I L : Addr} {oI : Obj}
/-- one thing more that stands as it is -/
noncomputable def Gd.plus (G : Gd) (I : Addr) (o : Obj) : Gd := ⟨fun b o' => G.P b o' ∨ (b = I ∧ o' = o), G.W, G.S⟩
theorem g_varint : GlobIs w (Str.ofString "_parse_varint") (.ref 201) := .inl (by kernel_rfl)
theorem run_iter {l : Addr} {items : Array Value} {Q : Value → Shared → Prop} (hl : s.heap.IsList l items)
    (hQ : Q (.ref s.heap.objs.size) { s with heap := s.heap.push { cls := .type "list_iterator", data := .fields #[.ref l, .int 0 0] } }) : wpAny (Md w) A (call (.builtin "iter") [.ref l]) Q E s := by
  refine PySem.Calls.call_function_entry (by decide +kernel) (by decide +kernel) kdk_entry_iter (kdk_args_iter _) ?_
  unfold Builtin.«iter»
  refine wpAny_bind (m := someArgs "iter" 1 2 _) (wpAny_of_eq (a := [Value.ref l]) (by first | rfl | kernel_rfl!) ?_)
  show wpAny _ _ (pyIter (.ref l) >>= _) _ _ _
  exact wpAny_bind (wpAny_pyIter_list hl (wpAny_pure ⟨_, rfl, hQ⟩))
/-- x = iter(e) -/
theorem st_iter {x : Str} {px pos p cp : Pos} {e : Expr} {ns : List Int} {Q : Flow → Shared → Prop} (F : Fs w G X Z env sc ρ H Y s.heap) (hA : Rm n A) (hc : clean ρ = true) (hx : locOrCell sc x = true) (hs : sc.names.lookup (Str.ofString "iter") = some .globalImplicit) (he : Ev w n (XZ X Z) env sc (seen ρ) false e (.lst (ns.map .int)))
    (h : ∀ I L vs oI s', Chg s s' → Fs w (G.plus I oI) X (fun c => Z c ∨ c = I) env sc ((x, .raw (.ref I)) :: ρ) H Y s'.heap → ItO oI L 0 → s'.heap.PlainList L vs.toArray → RpL (XZ X Z) s'.heap vs (ns.map .int) → L ≠ I → H.get? I = none → (∀ o, ¬ G.P I o) → Q .next s')
    (hse : starEach [e] env = (false, eval e env) :: starEach [] env := by rfl)
    (hsw : swapsWith (.Call (.Name (Str.ofString "iter") p) [e] [] cp) (some (.Name x px)) pos.line env = pure false := by rfl) : wpAny (Md w) A (exec (.Assign [.Name x px] (.Call (.Name (Str.ofString "iter") p) [e] [] cp) pos) env) Q E s := by
  refine wpAny_Assign_Name ((call_glob hs g_iter (.inr (.inl ⟨_, rfl⟩)) (.cons he hse .nil) hA (F.cx hc) fun vs s1 r k1 => ?_)) hsw
  cases r with
  | cons r1 r =>
  cases r
  obtain ⟨L, ws, rfl, hl, rl⟩ := r1.lst_inv
  have F1 := F.ext (keeps_ext k1)
  refine run_iter hl.isList ?_
  have kp : Ext s1.heap (s1.heap.push { cls := .type "list_iterator", data := .fields #[.ref L, .int 0 0] }) := fun b o e => Heap.get?_push_of_some _ e
  have hI : s1.heap.get? s1.heap.objs.size = none := get_size _
  have F2 := F1.widen (Z' := fun c => Z c ∨ c = s1.heap.objs.size) kp (fun a q => .inl q) fun a q => q.imp id fun q => by subst q; exact ⟨hI, _, Heap.get?_push_size _ rfl⟩
  have F3 := F2.guard (G' := G.plus s1.heap.objs.size { cls := .type "list_iterator", data := .fields #[.ref L, .int 0 0] }) (fun b o q => by
    rcases q with q | ⟨rfl, rfl⟩
    · exact F2.prot b o q
    · exact ⟨Heap.get?_push_size _ rfl, F1.notFm hI, F1.noGrow hI⟩) F2.wall F2.safe
  refine fs_store (s := { s1 with heap := _ }) F3 hx (b := .raw (.ref s1.heap.objs.size)) ⟨rfl, fun _ _ e => nomatch e⟩ fun s' c F4 sk kk => ?_
  obtain ⟨j, ho⟩ := hl
  refine h _ L ws _ s' ((Chg.of_keeps k1).trans (Chg.trans ⟨_, _, rfl⟩ c)) F4 ⟨rfl, rfl⟩ ⟨j, sk _ _ (kp _ _ ho) ⟨_, _, rfl⟩⟩ ((rl.ext kp).seq sk) (fun z => ?_) (F1.freshH hI) fun o z => ?_
  · rw [z, hI] at ho; cases ho
  · have := (F1.prot _ o z).1; rw [hI] at this; cases this
noncomputable def DrawK (I L : Addr) (ns : List Int) (ts : List Nat) (i : Nat) (h : Heap) : Prop := ∃ j o, h.get? I = some o ∧ ItO o L j ∧ ns.drop j = (ts.drop i).flatMap fun t : Nat => encF t
/-- told = [(word, _parse_varint(octets)) for word in e] -/
theorem st_draw {e : Expr} {px pos p1 p2 p3 p4 p5 pt pl : Pos} {scope : Scope} {k : Nat} {ws : List Str} {ts : List Nat} {ns : List Int} {vs : List Value} {Q : Flow → Shared → Prop} (F : Fs w (G.plus I oI) X Z env sc ρ H Y s.heap) (hGI : ∀ o, ¬ G.P I o) (hA : Rm (n + 2) A) (hc : clean ρ = true) (hx : sc.names.lookup (Str.ofString "told") = some .cell)
    (hy : ρ.lookup (Str.ofString "octets") = some (.raw (.ref I))) (hyc : sc.names.lookup (Str.ofString "octets") = some .cell) (hZ : Z I) (hY : H.get? I = none) (hit : ItO oI L 0) (hl : s.heap.PlainList L vs.toArray) {X₂ : Addr → Prop} (hvs : RpL X₂ s.heap vs (ns.map .int)) (hLI : L ≠ I)
    (hns : ns = ts.flatMap fun t : Nat => encF t) (hts : ∀ t ∈ ts, t ≤ 4000) (hlen : ws.length = ts.length) (hw : ws.length ≤ 1000)
    (hscp : scope = { kind := .function, names := [((Str.ofString ".0"), .local), ((Str.ofString "word"), .local), ((Str.ofString "_parse_varint"), .globalImplicit), ((Str.ofString "octets"), .free)], isGenerator := false, isCoroutine := false, more := [] })
    (tx : compOk scope sc ([Str.ofString "octets"] ++ (seen ρ).map (·.1)) (.Name (Str.ofString "word") p1) = true) (hcap : capOf scope (seen ρ) = [])
    (he : EvIt w (n + 2) (XZ X Z) env sc (seen ρ) (.Name (Str.ofString "word") p1) e true (ws.map .str))
    (h : ∀ s', Chg s s' → Fs w G X Z env sc ((Str.ofString "told", .own (.lst ((ws.zip ts).map fun p => .tup [.str p.1, .int (p.2 : Nat)]))) :: ρ) H Y s'.heap → Q .next s')
    (hs : ∀ x, foldedSetIterable e env x = pure x := by intro _; rfl) :
    wpAny (Md w) A (exec (.Assign [.Name (Str.ofString "told") px] (.ListComp (.Tuple [.Name (Str.ofString "word") p2, .Call (.Name (Str.ofString "_parse_varint") p3) [.Name (Str.ofString "octets") p4] [] p5] k pt) [⟨.Name (Str.ofString "word") p1, e, [], 0⟩] scope pl) pos) env) Q E s := by
  obtain ⟨pI, pF, pG⟩ := F.prot I oI (.inr ⟨rfl, rfl⟩)
  have hfld : ∀ o, s.heap.get? I = some o → ∃ fs, o.data = .fields fs := fun o e => by rw [pI] at e; cases e; exact ⟨_, hit.2⟩
  have nm0 : NameIs env s.heap (Str.ofString "octets") (.ref I) := by
    obtain ⟨m, cm, f, g⟩ := F.fm
    obtain ⟨l, v, e1, e2⟩ := g _ _ hy
    have e2 : v = .ref I := e2
    subst e2
    have l := l (by decide)
    exact f.nameIs (by rw [F.scope]; exact l) (mem_allNames l) (e1 (by decide))
  have hll : ∀ {i : Nat} {x : Str × Nat}, (ws.zip ts)[i]? = some x → ts.drop i = x.2 :: ts.drop (i + 1) := fun {i x} e => by
    have e2 : ts[i]? = some x.2 := by
      rw [List.getElem?_zip_eq_some] at e; exact e.2
    obtain ⟨hi, e2⟩ := List.getElem?_eq_some_iff.mp e2
    rw [← e2, ← List.drop_eq_getElem_cons hi]
  have hkk : env.kindOf (Str.ofString "told") ≠ some .local := by
    show env.scope.names.lookup _ ≠ _
    rw [F.scope, hx]; decide
  refine wpAny_Assign_Name (wpAny_mono (run_compJ (b := true) (rn := [Str.ofString "octets"]) (Ja := fun b => b = I) (JS := DrawK I L ns ts) (l := ws.zip ts) (g := fun p => .str p.1) (p := fun _ => true) (f := fun p => .tup [.str p.1, .int (p.2 : Nat)]) hA (F.cx hc) (compText_raw tx) (fun y q => by rw [List.mem_singleton.mp q]; exact ⟨_, nm0⟩) ?_ ?_ (fun _ _ _ _ e => nomatch e) ⟨fun b q => .inr (q ▸ hZ), fun b q => q ▸ ⟨oI, pI, _, hit.2⟩, ?_, ?_⟩ ⟨0, oI, pI, hit, hns⟩ (sl (by rw [List.length_zip]; omega)) hs) (fun v s1 q => ?_) fun _ _ x => x) (swaps_cell hkk)
  · have hm : (ws.zip ts).map (fun p => D.str p.1) = ws.map .str := by
      rw [show (fun p : Str × Nat => D.str p.1) = D.str ∘ Prod.fst from rfl, ← List.map_map, List.map_fst_zip (by first | exact Nat.le_trans (by assumption) (by decide) | omega)]
    rw [hm]
    exact he A s E hA (F.cx hc)
  · intro cenv hsc hcl i x hx X' s₃ E' hf hw' C kb ⟨j, o, hI3, it3, hd3⟩
    refine ⟨wpAny_tests_nil ⟨rfl, keeps_refl _⟩, fun _ => ?_⟩
    rw [hcap] at C
    subst hscp
    refine wpAny_Tuple (wpAny_items_cons (wpAny_mono ((ev_name (b := true) rfl : Ev w (n + 2) X' cenv _ _ true (.Name (Str.ofString "word") p2) (.str x.1)) A s₃ E' hA C) (fun v1 s4 q1 => ?_) fun _ _ x => x) rfl)
    obtain ⟨r1, o1, k1⟩ := q1
    have C4 := C.ext (keeps_ext k1)
    have kb4 : KB (fun b => b = I) s.heap s4.heap := fun b o hb e => keeps_ext k1 _ _ (kb b o hb e)
    have nm4 : NameIs cenv s4.heap (Str.ofString "octets") (.ref I) := by
      refine (NameIs.captured (env := env) (by rw [hsc, F.scope]) rfl (hcl _ (by decide) (by decide)) (by decide) (.inl (by rw [F.scope]; exact hyc)) nm0).but fun b o hnf e => kb4 b o (fun z => ?_) e
      subst z
      obtain ⟨fs, q⟩ := hfld o e
      exact hnf fs q
    refine wpAny_items_cons (wpAny_Call_NameR (load_glob C4 rfl g_varint ?_ (by decide))) rfl
    refine callWith_of (P := (KK w.params).In) rfl (fun h X => keeps_K (by kernel_rfl) h X) ?_
    refine PySem.Calls.evalArgs_plain (wpAny_items_cons (wpAny_Name (nm4.load (C4.scope ▸ C4.fn) (wpAny_items_nil ?_)) (by decide)) rfl)
    refine ⟨C4.base.inK, wpAny_call (codeAny_mono (spec_varint (ns := ns) (vs := vs) (i := j) (v := (x.2 : Nat)) (rest := (ts.drop (i + 1)).flatMap fun t : Nat => encF t) hA C4.base (keeps_ext k1 _ _ hI3) it3 (hl.at fun o e => kb4 L o hLI e) ?_ hLI ?_) fun r s5 q5 => ?_)⟩
    · intro jj kk hj
      obtain ⟨v', hv', rb, _⟩ := hvs.get (by rw [List.getElem?_map, hj]; rfl)
      obtain ⟨tk, rfl⟩ := rb.int_inv
      exact ⟨tk, by first | exact of_decide_eq_true hv' | exact of_decide_eq_false hv' | exact bne_iff_ne.mp hv' | exact eq_of_beq hv' | simpa using hv'⟩
    · rw [hd3, hll hx, List.flatMap_cons]
      have : x.2 ∈ ts := by
        have e := hx
        rw [List.getElem?_zip_eq_some] at e
        exact List.mem_of_getElem? e.2
      exact var_enc (hts _ this) _
    · obtain ⟨tk, rfl, ⟨h5, t5, rfl⟩, B5, k5, j', o', hI5, it5, hd5⟩ := q5
      dsimp only at k5 hI5 B5
      have low5 : ∀ a, X' a → ∃ o, h5.get? a = some o := fun a q => by
        by_cases z : a = I
        · subst z; exact ⟨_, hI5⟩
        · obtain ⟨o, e⟩ := C4.low a q; exact ⟨o, k5 a o z e⟩
      refine wpAny_items_nil ⟨sl (Nat.le_of_ble_eq_true rfl), ?_⟩
      have kp : Ext h5 (h5.push { cls := .type "tuple", data := .seq [v1, .int (x.2 : Nat) tk].toArray }) := fun b o e => Heap.get?_push_of_some _ e
      obtain ⟨t1, rfl⟩ := r1.str_inv
      refine ⟨.tup ⟨_, Heap.get?_push_size _ rfl, rfl, 0, rfl⟩ (.cons (.str _ _) Own.str (.cons (.int _ _) Own.int .nil)), Own.fresh low5 (get_size _), ?_, j', o', kp _ _ hI5, it5, hd5⟩
      obtain ⟨h4, t4, rfl, kx⟩ := k1
      exact ⟨_, _, rfl, fun b o hb e => kp _ _ (k5 b o hb (kx b o e)), B5.ext kp⟩
  · rintro i h1 h2 ⟨j, o, e, r⟩ k
    exact ⟨j, o, k I o rfl e, r⟩
  · rintro i h1 ⟨j, o, e, r⟩ b rfl
    exact ⟨o, e⟩
  · obtain ⟨r, o, ⟨h1, t1, rfl, kb⟩, B1, j, o1, e1, _⟩ := q
    rw [List.filter_eq_self.mpr (fun _ _ => rfl)] at r
    have F0 := F.guard (G' := G) (fun b o q => F.prot b o (.inl q)) F.wall F.safe
    have F1 := F0.stir (h' := h1) hZ (.inr hY) pF pG hGI B1 (fun b o hb e => kb b o hb e) ⟨o1, e1⟩
    refine fs_store (s := { s with heap := h1, toks := t1 }) F1 (by unfold locOrCell; rw [hx]; rfl) (fit_own r o) fun s' c F' _ _ => ?_
    exact h s' (Chg.trans ⟨h1, t1, rfl⟩ c) F'
end
end Mine

open PySem PySem.W PyProof.Rows PySem.AutoIntOps
set_option Elab.async false
set_option linter.unusedVariables false
set_option linter.unusedSimpArgs false
set_option maxRecDepth 100000
set_option maxHeartbeats 1000000
namespace Mine
/-! # a recipe of four numbers -/
structure GoodM (m : List Int) : Prop where
  len : m.length = 4
  rng : ∀ x ∈ m, 0 ≤ x ∧ x ≤ 4000
  nz : ∃ x ∈ m, x ≠ 0
/-- the flags of a recipe -/
noncomputable def mkN (m : List Int) : Nat := (((m.zipIdx 0).filter fun p => p.1 != 0).map fun p => 2 ^ p.2).sum
noncomputable def partsN (m : List Int) : List Nat := (m.filter (· != 0)).map Int.toNat
noncomputable def flagsL : List Str := ["OPTIMIZED", "NEWLOCALS", "VARARGS", "VARKEYWORDS"]
theorem maskI_eq (m : List Int) : maskI m = (mkN m : Int) := by
  unfold maskI mkN
  generalize (m.zipIdx 0).filter (fun p => p.1 != 0) = l
  induction l with
  | nil => rfl
  | cons p r ih =>
    rw [List.map_cons, List.map_cons, List.sum_cons, List.sum_cons, ih]
    push_cast
    rfl
theorem flags_parts : Txt.split (Str.ofString "OPTIMIZED NEWLOCALS VARARGS VARKEYWORDS") (Str.ofString " ") = flagsL ∧ (Builtin.Str.partsBetween (Str.ofString "OPTIMIZED NEWLOCALS VARARGS VARKEYWORDS") (Builtin.Str.occurrences (Str.ofString "OPTIMIZED NEWLOCALS VARARGS VARKEYWORDS") (Str.ofString " ") 0 (Str.ofString "OPTIMIZED NEWLOCALS VARARGS VARKEYWORDS").length ((Str.ofString "OPTIMIZED NEWLOCALS VARARGS VARKEYWORDS").length + 1)) (Str.ofString " ").length).length ≤ 10 ∧ (Str.ofString "OPTIMIZED NEWLOCALS VARARGS VARKEYWORDS").length ≤ 100 := by decide +kernel
/-- what a told number of a word adds -/
noncomputable def sumAt (ws : List Str) (ts : List Nat) (fl : Str) : Int := (((ws.zip ts).filter fun p => p.1 == fl).map fun p => (p.2 : Int)).sum
/-- nought, or more -/
theorem or_more {m : List Int} (h : ∀ x ∈ m, 0 ≤ x ∧ x ≤ 4000) : ∃ l : List Nat, m = l.map Int.ofNat := by
  induction m with
  | nil => exact ⟨[], rfl⟩
  | cons x m ih =>
    obtain ⟨l, e⟩ := ih fun y hy => h y (List.mem_cons_of_mem _ hy)
    refine ⟨x.toNat :: l, ?_⟩
    rw [List.map_cons, ← e]
    exact congrArg (· :: m) (Int.toNat_of_nonneg (h x List.mem_cons_self).1).symm
theorem four_nat {l : List Nat} (h : l.length = 4) : ∃ a b c d, l = [a, b, c, d] := by
  rcases l with _ | ⟨a, _ | ⟨b, _ | ⟨c, _ | ⟨d, _ | ⟨e, l⟩⟩⟩⟩⟩
  · cases h
  · cases h
  · cases h
  · cases h
  · exact ⟨_, _, _, _, rfl⟩
  · cases h
noncomputable def MaskP (m : List Int) : Prop := mkN m ≠ 0 ∧ mkN m < 16 ∧ (wordsTo (mkN m) 4).length = (partsN m).length ∧ flagsL.map (sumAt (wordsTo (mkN m) 4) (partsN m)) = m
theorem mask_p {m : List Int} (h : GoodM m) : MaskP m := by
  obtain ⟨l, rfl⟩ := or_more h.rng
  have hl : l.length = 4 := (List.length_map _).symm.trans h.len
  have key : ∀ k m, k ≠ 0 → k < 16 → mkN m = k → (wordsTo k 4).length = (partsN m).length → flagsL.map (sumAt (wordsTo k 4) (partsN m)) = m → MaskP m := by
    intro k m a b e c d
    subst e; exact ⟨a, b, c, d⟩
  obtain ⟨a, b, c, d, rfl⟩ := four_nat hl
  have nz := h.nz
  clear h hl
  cases a <;> cases b <;> cases c <;> cases d
  · exact absurd nz (by simp)
  · exact key 8 _ (by decide) (by decide) rfl rfl rfl
  · exact key 4 _ (by decide) (by decide) rfl rfl rfl
  · exact key 12 _ (by decide) (by decide) rfl rfl rfl
  · exact key 2 _ (by decide) (by decide) rfl rfl rfl
  · exact key 10 _ (by decide) (by decide) rfl rfl rfl
  · exact key 6 _ (by decide) (by decide) rfl rfl rfl
  · exact key 14 _ (by decide) (by decide) rfl rfl rfl
  · exact key 1 _ (by decide) (by decide) rfl rfl rfl
  · exact key 9 _ (by decide) (by decide) rfl rfl rfl
  · exact key 5 _ (by decide) (by decide) rfl rfl rfl
  · exact key 13 _ (by decide) (by decide) rfl rfl rfl
  · exact key 3 _ (by decide) (by decide) rfl rfl rfl
  · exact key 11 _ (by decide) (by decide) rfl rfl rfl
  · exact key 7 _ (by decide) (by decide) rfl rfl rfl
  · exact key 15 _ (by decide) (by decide) rfl rfl rfl
theorem mask_ok {m : List Int} (h : GoodM m) : mkN m ≠ 0 ∧ mkN m < 16 ∧ (wordsTo (mkN m) 4).length = (partsN m).length ∧ flagsL.map (sumAt (wordsTo (mkN m) 4) (partsN m)) = m := mask_p h
end Mine

open PySem PySem.W PyProof.Rows PySem.AutoIntOps
set_option Elab.async false
set_option linter.unusedVariables false
set_option linter.unusedSimpArgs false
set_option maxRecDepth 100000
set_option maxHeartbeats 1000000
namespace Mine
/-! # _law_gathered -/
/-- the header of a recipe -/
noncomputable def ent (rs : List Rw) (m : List Int) : Hr := (nameF (totF rs m), told (mkN m) ++ "=" ++ signs m)
noncomputable def fdD (rs : List Rw) (m : List Int) : D := .tup [.lst (m.map .int), rwD (totF rs m)]
theorem ent_split {rs : List Rw} {m : List Int} (h : GoodM m) : Builtin.Str.occurrences (ent rs m).2 (Str.ofString "=") 0 (ent rs m).2.length ((ent rs m).2.length + 1) = [(told (mkN m)).length] ∧ Txt.split (ent rs m).2 (Str.ofString "=") = [told (mkN m), signs m] ∧ (ent rs m).2.length ≤ 200 := by
  obtain ⟨h0, h16, _⟩ := mask_ok h
  have hno : ∀ f : Fin 16, (told f.val).cps.toList.all (fun c => c != 61) = true := by decide +kernel
  have e61 : (Str.ofString "=") = ⟨#[61]⟩ := by decide +kernel
  have hc : (ent rs m).2.cps.toList = (told (mkN m)).cps.toList ++ 61 :: (signs m).cps.toList := by
    show ((told (mkN m)).cps ++ ("=" : Str).cps ++ (signs m).cps).toList = _
    rw [Array.toList_append, Array.toList_append, e61]
    simp
  have hb : 61 ∉ (signs m).cps.toList := fun q => by
    have q : ((61 : Nat) : Int) ∈ codesF (signs m) := List.mem_map.mpr ⟨61, q, rfl⟩
    rw [codes_signs, List.mem_flatMap] at q
    obtain ⟨t, ht, q⟩ := q
    obtain ⟨t0, _⟩ := h.rng t (List.mem_filter.mp ht).1
    obtain ⟨k, rfl⟩ := Int.eq_ofNat_of_zero_le t0
    rw [enc_cps] at q
    simp only [List.mem_append, List.mem_singleton] at q
    rcases q with q | q | q
    · split at q
      · rw [List.mem_singleton] at q; omega
      · cases q
    · split at q
      · rw [List.mem_singleton] at q; omega
      · cases q
    · omega
  have ha : 61 ∉ (told (mkN m)).cps.toList := fun q => by
    have := List.all_eq_true.mp (hno ⟨mkN m, h16⟩) 61 q
    exact absurd this (by decide)
  obtain ⟨s1, s2⟩ := split_one hc ha hb (by decide)
  rw [e61]
  refine ⟨s1, s2, ?_⟩
  have hl := (told_ok ⟨mkN m, h16⟩).2.1
  have hs := (signs_len h.rng (Nat.le_of_eq h.len)).2
  show (told (mkN m) ++ ("=" : Str) ++ signs m).length ≤ _
  rw [len_app, len_app]
  have : ("=" : Str).length = 1 := by decide +kernel
  dsimp only at hl
  omega
section
variable {w : World} {n : Nat} {G : Gd} {X Z Z' : Addr → Prop} {env : Env} {sc : Scope} {ρ ρ' : Vs} {H : Heap} {Y : Addr → Prop} {A : Around} {E : Value → Shared → Prop} {s s₀ : Shared} {h h' : Heap} {t dt L : Addr} {ot od : Obj}
/-- table.name(e, ..) -/
theorem run_tab {name : Str} {f : Addr} {of : Obj} {es : List Expr} {ds : List D} {p ap pos : Pos} {Q : Value → Shared → Prop} (F : Fs w G X Z env sc ρ H Y s.heap) (hA : Rm n A) (hc : clean ρ = true) (hself : ρ.lookup (Str.ofString "table") = some (.raw (.ref t))) (O : HObj t dt L ot od) (h1 : s.heap.get? t = some ot) (h2 : s.heap.get? dt = some od)
    (hf : hdN w.params name = some (.ref f)) (hof : (KK w.params).lookup f = some of) (hcl : of.cls = .type "function") (hn : name ≠ "_headers") (hB : typeLookup (.type "object") name = pure (none : Option Value)) (hk : keepIn (KK w.params) (.ref f) = true) (ha : EvL w n (XZ X Z) env sc (seen ρ) es ds)
    (h : ∀ vs s', RpL (XZ X Z) s'.heap vs ds → Keeps s s' → codeAny (Md w) A (.call (.ref f) ⟨.ref t :: vs, []⟩) (fun r s'' => ∃ v, r = .ok (.ret v) ∧ Q v s'') s')
    (hev : ∃ pl, eval (.Call (.Attribute (.Name (Str.ofString "table") p) name ap) es [] pos) env = (do
      let ov ← eval (.Name (Str.ofString "table") p) env
      standAt ap.atName
      let (f, first) ← holding [ov] (getMethod ov name pl)
      callWith pos f first (backTo pos (starEach es env)) (backToKw pos (keywordEach [] env))) := by exact ⟨_, rfl⟩) :
    wpAny (Md w) A (eval (.Call (.Attribute (.Name (Str.ofString "table") p) name ap) es [] pos) env) Q E s := by
  obtain ⟨pl, hev⟩ := hev
  refine methodCall_KW (raw_name F hself ?_) hev
  refine meth_hd (f := f) F.base O h1 h2 hf hof hcl hn (y := none) hB ?_
  refine callWith_L (first := [.ref t]) (fun h B => keeps_K hk h B) ha hA (F.cx hc) fun vs s' r k => ?_
  refine wpAny_call (codeAny_mono (h vs s' r k) fun r s'' q => ?_)
  obtain ⟨v, rfl, q⟩ := q
  exact q
/-! ## x, y = a list of two -/
theorem unpack_two {l : Addr} {v1 v2 : Value} {Q : List Value → Shared → Prop} (hh : A.handled = none) (hl : s.heap.IsList l #[v1, v2])
    (hQ : ∀ h', Heap.ExtBut s.heap.objs.size s.heap h' → Q [v1, v2] { s with heap := h' }) : wpAny (Md w) A (unpackItems (.ref l) 2 none) Q E s := by
  have hlt : l ≠ s.heap.objs.size := by obtain ⟨o, ho, _⟩ := hl; exact Nat.ne_of_lt (Heap.lt_size ho)
  unfold unpackItems
  refine wpAny_bind ?_
  unfold notIterableAtAll
  refine wpAny_bind (wpAny_specialOf hl.typeIs slot_list_iter.lookup ?_)
  refine wpAny_pure ?_
  simp only [Bool.false_eq_true, if_false]
  refine wpAny_bind (wpAny_holding (wpAny_pyIter_list hl ?_))
  have hI : (s.heap.push { cls := .type "list_iterator", data := .fields #[.ref l, .int 0 0] }).IsListIter s.heap.objs.size l 0 := ⟨_, Heap.get?_push_size _ rfl, rfl, rfl⟩
  refine wpAny_bind (wpAny_holding ?_)
  show wpAny _ _ (pyNext (.ref _) >>= _) _ _ _
  refine wpAny_bind (wpAny_pyNext_list_item (x := v1) hI (hl.push _) rfl fun h₁ hit₁ hs₁ => ?_)
  have hl₁ := (hl.push _).extBut hs₁.extBut hlt
  refine wpAny_bind (wpAny_holding ?_)
  show wpAny _ _ (pyNext (.ref _) >>= _) _ _ _
  refine wpAny_bind (wpAny_pyNext_list_item (x := v2) hit₁ hl₁ rfl fun h₂ hit₂ hs₂ => ?_)
  have hl₂ := hl₁.extBut hs₂.extBut hlt
  refine wpAny_bind (wpAny_holding ?_)
  show wpAny _ _ (pure []) _ _ _
  refine wpAny_pure (wpAny_pure (wpAny_pure ?_))
  rw [if_neg (by simp)]
  refine wpAny_bind (wpAny_holding (wpAny_pyNext_list_end hh hit₂ hl₂ rfl fun h₃ he₃ => ?_))
  simp only [Option.isSome_none, Bool.false_eq_true, if_false]
  exact wpAny_pure (hQ h₃ fun b o hb e => he₃ b o hb (hs₂.extBut b o hb (hs₁.extBut b o hb (Heap.get?_push_of_some _ e))))
theorem st_unlist {x y : Str} {px py tp pos : Pos} {k : Nat} {e : Expr} {d1 d2 : D} {Q : Flow → Shared → Prop} (F : Fs w G X Z env sc ρ H Y s.heap) (hA : Rm n A) (hc : clean ρ = true) (hx : locOrCell sc x = true) (hy : locOrCell sc y = true) (he : Ev w n (XZ X Z) env sc (seen ρ) false e (.lst [d1, d2]))
    (h : ∀ s', Chg s s' → Fs w G X Z env sc ((y, .own d2) :: (x, .own d1) :: ρ) H Y s'.heap → Q .next s')
    (hs : swapsWithSole [.Tuple [.Name x px, .Name y py] k tp] e pos.line env = pure false := by rfl) (hw : swappedStores [.Tuple [.Name x px, .Name y py] k tp] e env = pure none := by rfl) :
    wpAny (Md w) A (exec (.Assign [.Tuple [.Name x px, .Name y py] k tp] e pos) env) Q E s := by
  refine Assign_Tuple (wpAny_mono (he A s E hA (F.cx hc)) (fun v s1 q => ?_) fun _ _ x => x) hs hw
  obtain ⟨r, _, k1⟩ := q
  obtain ⟨a, vs, rfl, hl, rl⟩ := r.lst_inv
  obtain ⟨v1, v2, rfl, ⟨r1, o1⟩, r2, o2⟩ := rl.two_inv
  rw [assign_Tuple]
  refine wpAny_bind (wpAny_standAt ?_)
  show wpAny _ _ (do assignInOrder [assign (.Name x px) env, assign (.Name y py) env] (← holding [.ref a] (unpackItems (.ref a) 2 none))) _ _ _
  refine wpAny_bind (wpAny_holding (unpack_two hA.handled hl.isList fun h₁ ex => ?_))
  have k2 : Ext s1.heap h₁ := fun b o e => ex b o (fun z => by rw [z, get_size] at e; cases e) e
  have F1 := (F.told k1).ext k2
  unfold assignInOrder
  refine wpAny_bind (wpAny_holding (wpAny_assign_Name (fs_store (s := { s1 with heap := h₁ }) F1 hx (fit_own (r1.ext k2) o1) fun s₂ c₂ F₂ sk₂ _ => ?_)))
  unfold assignInOrder
  refine wpAny_bind (wpAny_holding (wpAny_assign_Name (fs_store F₂ hy (fit_own ((r2.ext k2).seq sk₂) o2) fun s₃ c₃ F₃ sk₃ _ => ?_)))
  unfold assignInOrder
  exact wpAny_pure (h s₃ ((Chg.of_keeps k1).trans (Chg.trans ⟨h₁, _, rfl⟩ (c₂.trans c₃))) F₃)
end
end Mine

open PySem PySem.W PyProof.Rows PySem.AutoIntOps
set_option Elab.async false
set_option linter.unusedVariables false
set_option linter.unusedSimpArgs false
set_option maxRecDepth 100000
set_option maxHeartbeats 1000000
namespace Mine
section
variable {w : World} {n : Nat} {G : Gd} {X Z Z' : Addr → Prop} {env : Env} {sc : Scope} {ρ ρ' : Vs} {H : Heap} {Y : Addr → Prop} {A : Around} {E : Value → Shared → Prop} {s s₀ : Shared} {h h' : Heap} {t dt L : Addr} {ot od : Obj}
theorem spec_gathered {rs : List Rw} {tb : List Hr} {ms : List (List Int)} {name : Str} {tk : Tok} {tv rv : Value} (hA : Rm (n + 5) A) (B : Bs w s.heap) (low : ∀ a, X a → ∃ o, s.heap.get? a = some o) (O : HObj t dt L ot od) (h1 : s.heap.get? t = some ot) (h2 : s.heap.get? dt = some od)
    (hL : RpB X s.heap (.ref L) (.lst (tb.map hdrD))) (hT : RpB X s.heap tv (.lst (tb.map hdrD))) (hrv : RpB X s.heap rv (.lst (rs.map rwD))) (hro : Own X rv)
    (hlen : tb.length ≤ 1000) (hrs : rs.length ≤ 1000) (hn : ∀ p ∈ tb, LowOk p.1) (hok : ∀ p ∈ tb, PyData.strOk p.1 = true ∧ PyData.strOk p.2 = true) (hx : LowOk name) (hcl : Clean (Txt.lower name))
    (hsel : (tb.filter fun p => Txt.lower p.1 == Txt.lower name) = ms.map (ent rs)) (hms : ∀ m ∈ ms, GoodM m) :
    codeAny (Md w) A (.call (.ref 259) ⟨[.ref t, tv, rv, .str name tk], []⟩) (fun r s' => ∃ v, r = .ok (.ret v) ∧ Yld X true (.lst (ms.map (fdD rs))) s v s') s := by
  refine def_at (G := Gd.no) (X := X) (Z := NoA) (Y := NoA) ["table", "twin", "rows", "name"] [("table", .raw (.ref t)), ("twin", .par (.lst (tb.map hdrD))), ("rows", .own (.lst (rs.map rwD))), ("name", .own (.str name))] hA B rfl rfl rfl rfl rfl rfl rfl rfl rfl rfl rfl (binds := [("table", .ref t), ("twin", tv), ("rows", rv), ("name", .str name tk)]) (by kernel_rfl) rfl (by decide) (by decide +kernel) (fun a q => q.elim (low a) fun z => z.elim)
    (.raw (.cons (b := .par (.lst (tb.map hdrD))) ⟨hT.weak fun a q => q.elim id fun z => z.elim, fun _ _ z => z.elim⟩ (.own (hrv.weak fun a q => q.elim id fun z => z.elim) (fun a e q => q.elim (hro a e) fun z => z.elim) (.own (.str _ _) Own.str .nil)))) (Nat.le_of_ble_eq_true rfl) (fun _ q => q) (fun _ _ q => q.elim) (fun _ q => q) (fun _ q => q.elim) ?_
  intro env s' c F
  have hA' : Rm (n + 4) (A.deeper env) := hA.deeper
  refine wpAny_mono (Q := PR X s.heap s (.lst (ms.map (fdD rs)))) ?_ (fun fl s'' q => ?_) fun _ _ x => x
  rotate_left
  · obtain ⟨v, rfl, r, o, ⟨hh, tt, e⟩, k⟩ := q
    exact ⟨v, rfl, r, fun _ => o, hh, tt, e, by rw [e] at k; exact k⟩
  have up : ∀ {ρ : Vs} {Z : Addr → Prop} {G : Gd} {h : Heap}, Fs w G X Z env (fS (stm 73)) ρ s.heap NoA h → h.get? t = some ot ∧ h.get? dt = some od ∧ Ext s.heap h := fun F => ⟨F.keep t ot (fun z => z) h1, F.keep dt od (fun z => z) h2, F.keeps fun _ z => z⟩
  have hll : (tb.filter fun p => Txt.lower p.1 == Txt.lower name).length ≤ 1000 := Nat.le_trans (List.length_filter_le _ _) hlen
  have hgot : gotF tb name = (tb.filter fun p => Txt.lower p.1 == Txt.lower name).map (·.2) := rfl
  refine st_seq (st_assign_tuple (sw := some ["labels", "found"]) (cs := [.val (.lst ((tb.filter fun p => Txt.lower p.1 == Txt.lower name).map fun p => .str p.1)), .new []]) F hA' rfl (.val (fun X' => ev_lc (l := tb) (g := hdrD) (p := fun p => Txt.lower p.1 == Txt.lower name) (f := fun p => .str p.1) (by kernel_rfl) (evit_old (evo_name rfl) ?_) (fun p hp X'' env'' => ⟨?_, fun _ => ?_⟩) (sl (by first | exact Nat.le_trans (by assumption) (by decide) | omega))) rfl (.new (fun X' => evn_list .nil (sl (Nat.le_of_ble_eq_true rfl))) rfl .nil)) (by rfl) rfl rfl (sl (Nat.le_of_ble_eq_true rfl)) (by rfl) rfl (by rfl) (fun Fa hnew s1 c1 F => ?_))
  · intro d hd
    obtain ⟨p, _, rfl⟩ := List.mem_map.mp hd
    exact ⟨_, _, rfl⟩
  · exact evt_cmp (ev_lower (ev_name rfl) (hn p hp)) (ev_lower (ev_name rfl) hx) op_eqs
  · exact ev_name rfl
  have hXF : ¬ X Fa := (hnew Fa (by simp [growsOf])).1
  have F := F.lessL (κ := [(Str.ofString "labels", .own (.lst ((tb.filter fun p => Txt.lower p.1 == Txt.lower name).map fun p => .str p.1))), (Str.ofString "found", .grow Fa []), (Str.ofString "table", .raw (.ref t)), (Str.ofString "twin", .par (.lst (tb.map hdrD))), (Str.ofString "rows", .own (.lst (rs.map rwD))), (Str.ofString "name", .own (.str name))]) (looks (by rfl))
  refine st_seq (st_tuple_run (sw := some ["values", "handed"]) (cs := [.val (.lst ((gotF tb name).map .str)), .new (tb.map hdrD)]) F hA' ?_ (by rfl) rfl rfl (sl (Nat.le_of_ble_eq_true rfl)) (by rfl) rfl (by rfl) (fun Ha hnew2 s2 c2 F => ?_))
  · obtain ⟨u1, u2, u3⟩ := up F
    refine wpAny_items_cons (run_tab F hA' rfl rfl O u1 u2 (f := 121) (by kernel_rfl) rfl rfl (by decide) (by rw [typeLookup_type, builtinLookup_eq_fast]; kernel_rfl) (by kernel_rfl) (.cons (ev_name rfl) rfl .nil) fun vs s3 r k3 => ?_) rfl
    obtain ⟨v1, rfl, r1, o1⟩ := r.one_inv
    obtain ⟨tk1, rfl⟩ := r1.str_inv
    have F3 := F.told k3
    have mor : ∀ {ρ : Vs} {Z : Addr → Prop} {G : Gd} {h : Heap}, Fs w G X Z env (fS (stm 73)) ρ s.heap NoA h → RpB (XZ X Z) h (.ref L) (.lst (tb.map hdrD)) := fun F => (hL.more fun a q => q.imp id fun z => (F.mine a z).elim (fun y => y.elim) id).ext (up F).2.2
    refine codeAny_mono (spec_get_all (n := n + 2) (rows := tb) (L := L) hA' F3.base F3.low O (up F3).1 (up F3).2.1 (mor F3) (by first | exact Nat.le_trans (by assumption) (by decide) | omega) hn hx hcl) fun r s4 q => ?_
    obtain ⟨v, rfl, r4, o4, k4⟩ := q
    refine ⟨v, rfl, ?_⟩
    have F4 := F3.told k4
    refine wpAny_items_cons (run_tab F4 hA' rfl rfl O (up F4).1 (up F4).2.1 (f := 146) (by kernel_rfl) rfl rfl (by decide) (by rw [typeLookup_type, builtinLookup_eq_fast]; kernel_rfl) (by kernel_rfl) .nil fun vs s5 r k5 => ?_) rfl
    cases r
    have F5 := F4.told k5
    refine codeAny_mono (spec_items (n := n + 3) (rows := tb) (L := L) hA' F5.base F5.low O (up F5).1 (up F5).2.1 (mor F5) (by first | exact Nat.le_trans (by assumption) (by decide) | omega)) fun r s6 q => ?_
    obtain ⟨_, rfl, a, rfl, ha, ⟨ws, hl6, hr6⟩, k6⟩ := q
    refine ⟨_, rfl, wpAny_items_nil ?_⟩
    have hs4 : s4.heap.get? a = none := by
      cases e : s4.heap.get? a with
      | none => rfl
      | some o => rw [keeps_ext k5 _ _ e] at ha; cases ha
    have k34 := keeps_trans k3 k4
    have hs0 : ∀ {s' : Shared}, Keeps s' s4 → s'.heap.get? a = none := fun k => by
      rename_i s'
      cases e : s'.heap.get? a with
      | none => rfl
      | some o => rw [keeps_ext k _ _ e] at hs4; cases hs4
    have hfr : ∀ c, c ∈ growsOf [Bd.own (.lst ((gotF tb name).map .str)), .grow a (tb.map hdrD)] ↔ c = a := fun c => by simp [growsOf]
    have k56 := keeps_trans k5 k6
    refine ⟨[.own _, .grow a (tb.map hdrD)], .val ((r4.more fun c q => q.imp id fun z => by rw [(hfr c).mp z]; exact hs4).ext (keeps_ext k56)) ((o4 rfl).more (fun c q => q.imp id fun z => by rw [(hfr c).mp z]; exact hs4) r4) (.new (.inr ((hfr a).mpr rfl)) ⟨ws, hl6, hr6.weak fun c q => q.imp id fun z => (hfr c).mp z⟩ .nil), by simp [growsOf], fun c q => by rw [(hfr c).mp q]; exact hs0 k34, keeps_trans k34 k56⟩
  have F := F.lessL (κ := [(Str.ofString "handed", .grow Ha (tb.map hdrD)), (Str.ofString "values", .own (.lst ((gotF tb name).map .str))), (Str.ofString "labels", .own (.lst ((tb.filter fun p => Txt.lower p.1 == Txt.lower name).map fun p => .str p.1))), (Str.ofString "found", .grow Fa []), (Str.ofString "twin", .par (.lst (tb.map hdrD))), (Str.ofString "rows", .own (.lst (rs.map rwD))), (Str.ofString "name", .own (.str name))]) (looks (by rfl))
  have ok1 : okD 8 (.lst (tb.map hdrD)) = true := by
    show (tb.map hdrD).all (okD 7) = true
    rw [List.all_eq_true]
    intro d hd
    obtain ⟨p, hp, rfl⟩ := List.mem_map.mp hd
    obtain ⟨o1, o2⟩ := hok p hp
    show (okD 6 (.str p.1) && (okD 6 (.str p.2) && true)) = true
    show (PyData.strOk p.1 && (PyData.strOk p.2 && true)) = true
    rw [o1, o2]; rfl
  have ok2 : okD 8 (.lst ((gotF tb name).map .str)) = true := by
    show ((gotF tb name).map D.str).all (okD 7) = true
    rw [List.all_eq_true]
    intro d hd
    obtain ⟨y, hy, rfl⟩ := List.mem_map.mp hd
    obtain ⟨p, hp, rfl⟩ := List.mem_map.mp hy
    exact (hok p (List.mem_filter.mp hp).1).2
  refine st_seq (st_if (v := false) F hA' rfl (EvT.cast (evt_or (v2 := false) (evt_cmp (ev_name rfl) (ev_name rfl) (op_ne_same ok1)) fun _ => evt_cmp (ev_name rfl) (Ev.cast (ev_lc (l := tb) (g := hdrD) (p := fun p => Txt.lower p.1 == Txt.lower name) (f := fun p => .str p.2) (by kernel_rfl) (evit_old (evo_name rfl) ?_) (fun p hp X'' env'' => ⟨?_, fun _ => ?_⟩) (sl (by first | exact Nat.le_trans (by assumption) (by decide) | omega))) ?_) (op_ne_same ok2)) rfl) fun s3 c3 F => ?_)
  · intro d hd
    obtain ⟨p, _, rfl⟩ := List.mem_map.mp hd
    exact ⟨_, _, rfl⟩
  · exact evt_cmp (ev_lower (ev_name rfl) (hn p hp)) (ev_lower (ev_name rfl) hx) op_eqs
  · exact ev_name rfl
  · rw [hgot, List.map_map]; rfl
  refine st_nil ?_
  refine st_seq (st_append F hA' rfl rfl (ev_tuple (.cons ev_str rfl (.cons (ev_name rfl) rfl .nil)) (sl (Nat.le_of_ble_eq_true rfl))) (sl (by rw [List.length_map]; omega)) fun s4 c4 F => ?_)
  refine st_seq (st_forK (ds := (ms.map (ent rs)).map hdrD) (fun i κ => κ = ([(Str.ofString "found", .grow Fa ((ms.take i).map (fdD rs))), (Str.ofString "rows", .own (.lst (rs.map rwD)))] : Vs)) (fun _ => False) F hA' rfl rfl (EvIt.cast (evit_zip (evs_old (evo_name rfl)) (evs_old (evo_name rfl)) rfl g_zip) ?_) rfl (looks (by rfl)) ?_ ?_ (fun _ _ _ q => q.elim))
  · rw [hgot, ← hsel]
    generalize (tb.filter fun p => Txt.lower p.1 == Txt.lower name) = l
    rw [show (l.map fun p : Hr => D.str p.1) = (l.map (·.1)).map D.str from by rw [List.map_map]; rfl, zipD_map]
    induction l with
    | nil => rfl
    | cons p r ih => rw [List.map_cons, List.map_cons, List.map_cons, List.zip_cons_cons, List.map_cons, ih]; rfl
  · rintro i d κ Z₁ G₁ s5 Qt hQ hd rfl c5 F
    obtain ⟨e, he, rfl⟩ := map_at hd
    obtain ⟨m, hm, rfl⟩ := map_at he
    have hg := hms m (List.mem_of_getElem? hm)
    obtain ⟨sp1, sp2, sp3⟩ := ent_split (rs := rs) hg
    obtain ⟨k0, k16, kl, kr⟩ := mask_ok hg
    refine st_seq (st_unlist (d1 := .str (told (mkN m))) (d2 := .str (signs m)) F hA' rfl rfl rfl (Ev.cast (ev_split (ev_name rfl) ev_str rfl (sl (by first | exact Nat.le_trans (by assumption) (by decide) | omega)) (by rw [sp1]; exact sl (show (2 : Nat) ≤ 100000 by decide))) (by rw [sp2]; rfl)) fun s6 c6 F => ?_)
    have hs12 := (signs_len hg.rng (Nat.le_of_eq hg.len)).2
    have ht := (told_ok ⟨mkN m, k16⟩).2.1
    have hp4 : (partsN m).length ≤ 4 := by unfold partsN; rw [List.length_map]; exact Nat.le_trans (List.length_filter_le _ _) (Nat.le_of_eq hg.len)
    have hns : codesF (signs m) = (partsN m).flatMap fun t : Nat => encF t := by
      rw [codes_signs]
      unfold partsN
      rw [List.flatMap_map]
      have key : ∀ l : List Int, (∀ x ∈ l, 0 ≤ x) → l.flatMap encF = l.flatMap fun x => encF ((x.toNat : Nat) : Int) := by
        intro l
        induction l with
        | nil => intro _; rfl
        | cons x r ih =>
          intro h
          rw [List.flatMap_cons, List.flatMap_cons, ih fun y hy => h y (List.mem_cons_of_mem _ hy), Int.toNat_of_nonneg (h x List.mem_cons_self)]
      exact key _ fun x hx => (hg.rng x (List.mem_filter.mp hx).1).1
    refine st_seq (st_iter (ns := codesF (signs m)) F hA' rfl rfl rfl (Ev.cast (ev_lc0 (l := (signs m).cps.toList) (g := fun c => .str ⟨#[c]⟩) (f := fun c => .int (c : Nat)) (by kernel_rfl) (evit_str (ev_name rfl)) (fun c hc X'' env'' => ev_call rfl g_ord (.inr (.inl ⟨_, rfl⟩)) (.cons (ev_name rfl) rfl .nil) op_ord) (sl (by rw [Array.length_toList]; exact Nat.le_trans hs12 (by decide)))) ?_) fun I Ln vs oI s7 c7 F it hl hr hLI hH hGI => ?_)
    · unfold codesF; rw [List.map_map]; rfl
    refine st_seq (st_draw (ws := wordsTo (mkN m) 4) (ts := partsN m) (ns := codesF (signs m)) F hGI hA' rfl rfl rfl rfl (.inr rfl) hH it hl hr hLI hns ?_ kl (Nat.le_trans (words_len _) (by decide)) rfl (by kernel_rfl) rfl (evit_flat (Ev.cast (ev_split (ev_name rfl) ev_str rfl (sl (Nat.le_trans ht (by decide))) (sl (Nat.le_trans (told_ok ⟨mkN m, k16⟩).2.2.1 (by decide)))) (congrArg (fun l => D.lst (l.map D.str)) (told_parts k0 k16))) (flts_strs _) ⟨_, _, rfl⟩) fun s8 c8 F => ?_)
    · intro x hx
      obtain ⟨y, hy, rfl⟩ := List.mem_map.mp hx
      have := (hg.rng y (List.mem_filter.mp hy).1).2
      omega
    refine st_seq (st_assign_comp (l := flagsL) (g := .str) (p := fun _ => true) (f := fun fl => .int (sumAt (wordsTo (mkN m) 4) (partsN m) fl)) F hA' rfl rfl (compText_of (by kernel_rfl)) (evit_flat (Ev.cast (ev_split ev_str ev_str rfl (sl (Nat.le_trans flags_parts.2.2 (by decide))) (sl (Nat.le_trans flags_parts.2.1 (by decide)))) (congrArg (fun l => D.lst (l.map D.str)) flags_parts.1)) (flts_strs _) ⟨_, _, rfl⟩) (fun fl hfl X' env' => ⟨rfl, fun _ => ?_⟩) (sl (by decide)) rfl rfl (fun s9 c9 F => ?_))
    · refine ev_call rfl g_sum (.inr (.inl ⟨_, rfl⟩)) (.cons (Ev.cast (ev_lc (l := (wordsTo (mkN m) 4).zip (partsN m)) (g := fun p => .tup [.str p.1, .int (p.2 : Nat)]) (p := fun p => p.1 == fl) (f := fun p => .int (p.2 : Nat)) (by kernel_rfl) (evit_old (evo_name rfl) ?_) (fun p hp X'' env'' => ⟨evt_cmp (ev_name rfl) (ev_name rfl) op_eqs, fun _ => ev_name rfl⟩) (sl (by rw [List.length_zip]; omega))) ?_) rfl .nil) op_sum
      · intro d hd
        obtain ⟨p, _, rfl⟩ := List.mem_map.mp hd
        exact ⟨_, _, rfl⟩
      · exact congrArg D.lst (List.map_map (f := fun p : Str × Nat => (p.2 : Int)) (g := D.int)).symm
    have hrec : (flagsL.filter fun _ => true).map (fun fl => D.int (sumAt (wordsTo (mkN m) 4) (partsN m) fl)) = m.map .int := by
      rw [List.filter_eq_self.mpr (fun _ _ => rfl), show (fun fl => D.int (sumAt (wordsTo (mkN m) 4) (partsN m) fl)) = D.int ∘ sumAt (wordsTo (mkN m) 4) (partsN m) from rfl, ← List.map_map, kr]
    rw [hrec] at F
    have hi : i < ms.length := (List.getElem?_eq_some_iff.mp hm).1
    have hms1 : ms.length ≤ 1000 := by rw [hsel, List.length_map] at hll; exact hll
    refine st_seq (st_append (d := fdD rs m) F hA' rfl rfl (ev_tuple (.cons (ev_name rfl) rfl (.cons (ev_def (spec_total (fun x hx => by have := hg.rng x hx; omega) hrs (by rw [hg.len]; decide)) rfl g_total (by kernel_rfl) (.cons (ev_name rfl) rfl (.cons (ev_name rfl) rfl .nil))) rfl .nil)) (sl (Nat.le_of_ble_eq_true rfl))) (sl (by rw [List.length_map, List.length_take]; omega)) fun s10 c10 F => ?_)
    have lst : at? ((ms.take i).map (fdD rs) ++ [fdD rs m]) (-1) = some (.tup [.lst (m.map .int), rwD (totF rs m)]) := by
      unfold at?
      rw [if_neg (by decide), if_pos (by rw [List.length_append, List.length_singleton]; omega)]
      have e : (-1 + (((ms.take i).map (fdD rs) ++ [fdD rs m]).length : Int)).toNat = ((ms.take i).map (fdD rs)).length := by
        rw [List.length_append, List.length_singleton]; omega
      rw [e, List.getElem?_append_right (Nat.le_refl _), Nat.sub_self]
      rfl
    refine st_seq (st_if (v := false) F hA' rfl (EvT.cast (evt_cmp (ev_def spec_name rfl g_name (by kernel_rfl) (.cons (ev_titem (k := 1) (d := rwD (totF rs m)) (ev_item (k := -1) (ev_name rfl) (ev_neg ev_int) lst) ev_int rfl) rfl .nil)) (ev_name rfl) op_nes) ?_) fun s11 c11 F => ?_)
    · show (nameF (totF rs m) != nameF (totF rs m)) = false
      simp
    refine st_nil (st_nil (hQ .next _ ⟨_, _, _, rfl, ⟨?_, rfl, trivial⟩, (c5.trans (c6.trans c7)).trans ((c8.trans c9).trans (c10.trans c11)), F⟩))
    show some (Bd.grow Fa _) = some (Bd.grow Fa _)
    rw [take_succ_of hm, List.map_append]; rfl
  · rintro κ Z₁ s5 rfl c5 F
    rw [List.length_map, List.length_map, List.take_length] at F
    have F := F.freeze (x := Str.ofString "found") rfl hXF
    refine st_nil ?_
    exact st_ret F hA' rfl ((c.trans (c1.trans c2)).trans ((c3.trans c4).trans c5)) (fun _ q => q) (ev_name rfl)
end
end Mine

open PySem PySem.W PyProof.Rows PySem.AutoIntOps
set_option Elab.async false
set_option linter.unusedVariables false
set_option linter.unusedSimpArgs false
set_option maxRecDepth 100000
set_option maxHeartbeats 1000000
namespace Mine
section
variable {w : World} {n : Nat} {G : Gd} {X Z Z' : Addr → Prop} {env : Env} {sc : Scope} {ρ ρ' : Vs} {H : Heap} {Y : Addr → Prop} {A : Around} {E : Value → Shared → Prop} {s s₀ : Shared} {h h' : Heap} {t dt L : Addr} {ot od : Obj}
/-- two lists of the frame are turned at once -/
theorem Fs.grown2 {x y : Str} {a b : Addr} {ds es fs gs : List D} {vs us : List Value} (F : Fs w G X Z env sc ρ H Y h) (hx : ρ.lookup x = some (.grow a ds)) (hy : ρ.lookup y = some (.grow b fs)) (hab : a ≠ b) (hs : ∀ c o, c ≠ a → c ≠ b → h.get? c = some o → h'.get? c = some o) (hbK : Bs w h')
    (hl : h'.PlainList a vs.toArray) (hr : RpL (XZ X Z) h' vs es) (hl2 : h'.PlainList b us.toArray) (hr2 : RpL (XZ X Z) h' us gs) : Fs w G X Z env sc ((x, .grow a es) :: (y, .grow b gs) :: ρ) H Y h' := by
  obtain ⟨m, cm, f, g⟩ := F.fm
  obtain ⟨_, va, _, _, hza, ws, ⟨ja, hoa⟩, _⟩ := g x _ hx
  obtain ⟨j', ho'⟩ := id hl
  let oa : Obj := { cls := .type "list", data := .seq ws.toArray ja }
  have hfr : oa.isFreed = false := (Heap.get?_some_iff.mp hoa).2
  have e1 : (h'.update a fun _ => oa).get? a = some oa := Heap.get?_update_self _ ho' hfr
  have e2 : ∀ c, c ≠ a → (h'.update a fun _ => oa).get? c = h'.get? c := fun c hc => Heap.get?_update_other h' _ (Ne.symm hc)
  have B1 : Bs w (h'.update a fun _ => oa) := hbK.list hl.isList (Heap.SameBut.update h' a _)
  have F1 := F.grown (h' := h'.update a fun _ => oa) (x := y) (a := b) (es := gs) (vs' := us) hy (fun c o hc e => by
      by_cases q : c = a
      · subst q; rw [e1, ← hoa, e]
      · rw [e2 c q]; exact hs c o q hc e) B1 (hl2.at fun o e => by rw [e2 b (Ne.symm hab)]; exact e) (hr2.extX fun c o hc e => by rw [e2 c (fun q => hc (.inr (q ▸ hza)))]; exact e)
  have hxy : (x == y) = false := beq_eq_false_iff_ne.mpr fun z => by subst z; rw [hx] at hy; cases hy; exact hab rfl
  exact F1.grown (x := x) (a := a) (ds := ds) (by rw [List.lookup_cons, hxy]; exact hx) (fun c o hc e => by rw [e2 c hc] at e; exact e) hbK hl hr
theorem grow_name {x : Str} {a : Addr} {ds : List D} {p : Pos} {Q : Value → Shared → Prop} (F : Fs w G X Z env sc ρ H Y s.heap) (hx : ρ.lookup x = some (.grow a ds)) (q : Q (.ref a) s) (hd : (x == ("__debug__" : Str)) = false := by decide) (hst : (x == star) = false := by decide) :
    wpAny (Md w) A (eval (.Name x p) env) Q E s := by
  obtain ⟨m, cm, f, g⟩ := F.fm
  obtain ⟨l, v, e1, e2, _⟩ := g x _ hx
  have hst : x ≠ star := by first | exact of_decide_eq_true hst | exact of_decide_eq_false hst | exact bne_iff_ne.mp hst | exact eq_of_beq hst | simpa using hst
  have l := l hst
  have e1 := e1 hst
  subst e2
  have nm := f.nameIs (by rw [F.scope]; exact l) (mem_allNames l) e1
  exact wpAny_Name (nm.load (by rw [F.scope]; exact F.fn) q) hd
theorem st_append_run {x : Str} {p ap cp ep : Pos} {pl : Sem Bool} {e : Expr} {a : Addr} {ds : List D} {d : D} {Q : Flow → Shared → Prop} (F : Fs w G X Z env sc ρ H Y s.heap) (hx : ρ.lookup x = some (.grow a ds)) (he : wpAny (Md w) A (eval e env) (Yld (XZ X Z) true d s) E s) (hsz : ds.length ≤ sizeLine)
    (h : ∀ s', Chg s s' → Fs w G X Z env sc ((x, .grow a (ds ++ [d])) :: ρ) H Y s'.heap → Q .next s') (hse : starEach [e] env = (false, eval e env) :: starEach [] env := by rfl) (hd : (x == ("__debug__" : Str)) = false := by decide)
    (hev : eval (.Call (.Attribute (.Name x p) "append" ap) [e] [] cp) env = (do
      let ov ← eval (.Name x p) env
      standAt ap.atName
      let (f, first) ← holding [ov] (getMethod ov "append" pl)
      callWith cp f first (backTo cp (starEach [e] env)) (backToKw cp (keywordEach [] env))) := by rfl) (hst : (x == star) = false := by decide) :
    wpAny (Md w) A (exec (.Expr (.Call (.Attribute (.Name x p) "append" ap) [e] [] cp) ep) env) Q E s := by
  have hint : interactive env = false := by unfold interactive; rw [F.scope, F.fn]; rfl
  refine wpAny_Expr (methodCall_KW (grow_name F hx ?_ hd hst) hev) hint rfl
  obtain ⟨m, cm, f, g⟩ := F.fm
  obtain ⟨_, v, _, rfl, hz, vs, hl, r⟩ := g x _ hx
  obtain ⟨j, ho⟩ := id hl
  refine PySem.Calls.getMethod_list_append ho rfl rfl ?_
  refine call_one (wpAny_mono he (fun u s₁ q => ?_) fun _ _ x => x) hse
  obtain ⟨r1, o1, k⟩ := q
  have hl₁ := hl.at fun o e => keeps_ext k _ o e
  show wpAny _ A (call (.builtin "list.append") [.ref a, u]) _ _ _
  refine wpAny_list_append_plain hl₁ (fun h' hl' hs' => ?_) (by simpa [r.length] using hsz)
  have F₁ := F.told k
  have e2 : (vs ++ [u]).toArray = vs.toArray.push u := by simp
  exact h _ ((Chg.of_keeps k).trans ⟨h', _, rfl⟩) (F₁.turn hx hs' (vs' := vs ++ [u]) (by rw [e2]; exact hl') ((r.ext (keeps_ext k)).append (.one r1 (o1 rfl))))
theorem ev_upper {X : Addr → Prop} {ρ : List (Str × Bool × D)} {b : Bool} {e1 : Expr} {ap pos : Pos} {x : Str} (h1 : Ev w n X env sc ρ false e1 (.str x)) (hfit : Builtin.Str.tooLong (Txt.upper x).length = false) (hbase : attributeBase e1 (Str.ofString "upper") env (eval e1 env) = eval e1 env := by rfl) (hline : (ap.endLine == pos.line) = true := by rfl) :
    Ev w n X env sc ρ b (.Call (.Attribute e1 (Str.ofString "upper") ap) [] [] pos) (.str (Txt.upper x)) := ev_meth0 h1 hbase hline fun A s E t _ => SB.upper hfit ⟨.str _ _, fun _ => .str, keeps_tok s _⟩
theorem op_intb {X : Addr → Prop} {b c : Bool} : OpN w n X b (fun vs => call (.type "int") vs) [.bool c] (.int (if c then 1 else 0)) := opn1 fun A s E v _ _ _ r => by
  cases r; exact PySem.call_int_bool ⟨.int _ _, fun _ => .int, keeps_tok s _⟩
/-- del table[name] -/
theorem del_table {k : Value} {Q : Unit → Shared → Prop} (B : Bs w s.heap) (O : HObj t dt L ot od) (h1 : s.heap.get? t = some ot) (h2 : s.heap.get? dt = some od) (h : wpAny (Md w) A (call (.ref 102) [.ref t, k]) (fun _ s' => Q () s') E s) : wpAny (Md w) A (delItem (.ref t) k) Q E s := by
  obtain ⟨hh', g, d, tk, os⟩ := s
  have X := cls_hd B
  obtain ⟨nm, qn, bs, sn, sub, col, dd, k0, k1, k2, k3, k5, hC⟩ := id X.obj
  obtain ⟨o, ho, hcl, _⟩ := O.inst _ h1 h2
  have own : hh'.OwnSpecial t 182 102 "object" (Str.ofString "__delitem__") :=
    ⟨o, o102 w.params, _, _, _, _, _, _, _, _, _, _, _, _, _, _, _, _, _, _, none, ho, hcl, hC, X.ns, by kernel_rfl, B.inK _ _ rfl, rfl, by rfl, by rw [typeLookup_type, builtinLookup_eq_fast]; kernel_rfl⟩
  unfold delItem
  refine wpAny_holding (wpAny_bind ?_)
  unfold sequenceKey
  refine wpAny_bind ?_
  unfold typeOf
  refine wpAny_bind (wpAny_loadPart_at ho ?_)
  refine wpAny_pure ?_
  rw [hcl]
  dsimp only
  refine wpAny_bind ?_
  unfold seqItemTypes List.anyM
  refine wpAny_bind (wpAny_isSubtype_exc hC ?_)
  rw [show (Value.ref 182 :: [Value.type "object"]).contains (.type "collections.deque") = false from by decide +kernel]
  dsimp only
  unfold List.anyM
  refine wpAny_pure ?_
  rw [if_pos (by decide)]
  refine wpAny_pure (wpAny_bind (wpAny_callSpecial?_own own (wpAny_mono h (fun v s' q => wpAny_pure q) fun _ _ x => x)))
end
end Mine

open PySem PySem.W PyProof.Rows PySem.AutoIntOps
set_option Elab.async false
set_option linter.unusedVariables false
set_option linter.unusedSimpArgs false
set_option maxRecDepth 100000
set_option maxHeartbeats 1000000
namespace Mine
section
variable {w : World} {n : Nat} {G : Gd} {X Z Z' : Addr → Prop} {env : Env} {sc : Scope} {ρ ρ' : Vs} {H : Heap} {Y : Addr → Prop} {A : Around} {E : Value → Shared → Prop} {s s₀ : Shared} {h h' : Heap} {t dt L Tw : Addr} {ot od : Obj}
theorem g_lay : GlobIs w (Str.ofString "_law_lay") (.ref 254) := .inl (by kernel_rfl)
theorem g_gathered : GlobIs w (Str.ofString "_law_gathered") (.ref 259) := .inl (by kernel_rfl)
theorem g_headers : GlobIs w (Str.ofString "Headers") (.ref 182) := .inl (by kernel_rfl)
/-- what the frame holds of a table and of its twin -/
structure TabF (G : Gd) (ρ : Vs) (t dt L Tw : Addr) (ot od : Obj) (rs : List Rw) (tb : List Hr) : Prop where
  table : ρ.lookup (Str.ofString "table") = some (.raw (.ref t))
  twin : ρ.lookup (Str.ofString "twin") = some (.grow Tw (tb.map hdrD))
  list : ρ.lookup star = some (.grow L (tb.map hdrD))
  rows : ρ.lookup (Str.ofString "rows") = some (.own (.lst (rs.map rwD)))
  obj : HObj t dt L ot od
  inst : G.P t ot
  dict : G.P dt od
theorem TabF.apart {rs : List Rw} {tb : List Hr} (T : TabF G ρ t dt L Tw ot od rs tb) (F : Fs w G X Z env sc ρ H Y h) : t ≠ L ∧ dt ≠ L ∧ t ≠ Tw ∧ dt ≠ Tw ∧ L ≠ Tw :=
  ⟨fun z => (F.prot t ot T.inst).2.2 _ _ (z ▸ T.list), fun z => (F.prot dt od T.dict).2.2 _ _ (z ▸ T.list), fun z => (F.prot t ot T.inst).2.2 _ _ (z ▸ T.twin), fun z => (F.prot dt od T.dict).2.2 _ _ (z ▸ T.twin), fun z => by
    have := F.dist _ _ _ _ _ T.list (z ▸ T.twin)
    exact absurd this (by decide)⟩
theorem grow_at {x : Str} {a : Addr} {ds : List D} (F : Fs w G X Z env sc ρ H Y h) (hx : ρ.lookup x = some (.grow a ds)) : Z a ∧ ∃ vs : List Value, h.PlainList a vs.toArray ∧ RpL (XZ X Z) h vs ds := by
  obtain ⟨m, cm, f, g⟩ := F.fm
  obtain ⟨_, v, _, _, hz, vs, hl, hr⟩ := g x _ hx
  exact ⟨hz, vs, hl, hr⟩
/-- _law_lay(table, twin, rows, e, ek) -/
theorem st_lay {e ek : Expr} {rs : List Rw} {tb : List Hr} {m : List Int} {most : Int} {p1 p2 p3 p4 cp ep : Pos} {Q : Flow → Shared → Prop} (F : Fs w G X Z env sc ρ H Y s.heap) (T : TabF G ρ t dt L Tw ot od rs tb) (hA : Rm (n + 4) A) (hc : clean ρ = true) (hs : sc.names.lookup (Str.ofString "_law_lay") = some .globalImplicit)
    (he : Ev w (n + 4) (XZ X Z) env sc (seen ρ) true e (.lst (m.map .int))) (hk : Ev w (n + 4) (XZ X Z) env sc (seen ρ) true ek (.int most)) (hrn : (seen ρ).lookup (Str.ofString "rows") = some (true, .lst (rs.map rwD)))
    (hrs : rs.length ≤ 1000) (hm : GoodM m) (hlen : tb.length ≤ 1000)
    (h : ∀ s', Chg s s' → Fs w G X Z env sc ((star, .grow L ((tb ++ [layF rs m (mkN m) most]).map hdrD)) :: (Str.ofString "twin", .grow Tw ((tb ++ [layF rs m (mkN m) most]).map hdrD)) :: ρ) H Y s'.heap → Q .next s')
    (hse1 : starEach [e, ek] env = (false, eval e env) :: starEach [ek] env := by rfl) (hse2 : starEach [ek] env = (false, eval ek env) :: starEach [] env := by rfl)
    (hse3 : starEach [.Name (Str.ofString "table") p1, .Name (Str.ofString "twin") p2, .Name (Str.ofString "rows") p3, e, ek] env = (false, eval (.Name (Str.ofString "table") p1) env) :: (false, eval (.Name (Str.ofString "twin") p2) env) :: (false, eval (.Name (Str.ofString "rows") p3) env) :: starEach [e, ek] env := by rfl) :
    wpAny (Md w) A (exec (.Expr (.Call (.Name (Str.ofString "_law_lay") p4) [.Name (Str.ofString "table") p1, .Name (Str.ofString "twin") p2, .Name (Str.ofString "rows") p3, e, ek] [] cp) ep) env) Q E s := by
  have hint : interactive env = false := by unfold interactive; rw [F.scope, F.fn]; rfl
  obtain ⟨a1, a2, a3, a4, a5⟩ := T.apart F
  obtain ⟨k0, k16, _, _⟩ := mask_ok hm
  have hrun : wpAny (Md w) A (spliced (backTo cp (starEach [.Name (Str.ofString "table") p1, .Name (Str.ofString "twin") p2, .Name (Str.ofString "rows") p3, e, ek] env))) (fun vs s1 => ∃ v3 v4 tk, vs = [.ref t, .ref Tw, v3, v4, .int most tk] ∧ RpB (XZ X Z) s1.heap v3 (.lst (rs.map rwD)) ∧ Own (XZ X Z) v3 ∧ RpB (XZ X Z) s1.heap v4 (.lst (m.map .int)) ∧ Own (XZ X Z) v4 ∧ Keeps s s1) E s := by
    refine wpAny_items_cons (raw_name F T.table ?_) rfl
    refine wpAny_items_cons (grow_name F T.twin ?_) rfl
    refine wpAny_mono (list_run (.cons (ev_name hrn) rfl (.cons he hse1 (.cons hk hse2 .nil))) hA (F.cx hc)) (fun vs s1 q => ?_) fun _ _ x => x
    obtain ⟨r, k⟩ := q
    obtain ⟨_, _, rfl, r3, o3, r⟩ := r.cons_inv
    obtain ⟨_, _, rfl, r4, o4, r⟩ := r.cons_inv
    obtain ⟨_, _, rfl, r5, o5, r⟩ := r.cons_inv
    cases r
    cases r5
    exact ⟨_, _, _, rfl, r3, o3, r4, o4, k⟩
  refine wpAny_Expr (wpAny_Call_NameR (load_glob (F.cx hc) hs g_lay ?_ (by decide))) hint rfl
  refine callWith_of (P := (KK w.params).In) (by rw [hse3, hse1, hse2]; rfl) (fun h B => keeps_K (by kernel_rfl) h B) ?_
  have hplain := hrun
  rw [hse3] at hplain ⊢
  refine PySem.Calls.evalArgs_plain (wpAny_mono hplain (fun vs s1 q => ?_) fun _ _ x => x)
  obtain ⟨v3, v4, tk, rfl, r3, o3, r4, o4, k⟩ := q
  have F1 := F.told k
  refine ⟨F1.base.inK, ?_⟩
  obtain ⟨zL, lvs, hl1, hr1⟩ := grow_at F1 T.list
  obtain ⟨zT, tvs, hl2, hr2⟩ := grow_at F1 T.twin
  have wk : ∀ a, XZ (XZ X Z) (fun a => a = L ∨ a = Tw) a → XZ X Z a := fun a q => q.elim id fun z => .inr (z.elim (fun z => z ▸ zL) fun z => z ▸ zT)
  refine wpAny_call (codeAny_mono (spec_lay (n := n) (X := XZ X Z) (rs := rs) (m := m) (f := mkN m) (tb := tb) (tw := tb) hA F1.base F1.low T.obj (F1.prot t ot T.inst).1 (F1.prot dt od T.dict).1 a1 a2 a3 a4 a5 hl1 (hr1.weak wk) hl2 (hr2.weak wk) (r3.weak wk) (fun a e q => o3 a e (wk a q)) (r4.weak wk) (fun a e q => o4 a e (wk a q)) hrs (Nat.le_of_eq hm.len) hm.rng k0 k16 (maskI_eq m) hlen hlen) fun r s2 q => ?_)
  obtain ⟨rfl, c2, B2, k2, ⟨ws, hl3, hr3⟩, us, hl4, hr4⟩ := q
  exact h s2 ((Chg.of_keeps k).trans c2) (F1.grown2 T.list T.twin a5 (fun c o q1 q2 e => k2 c o q1 q2 e) B2 hl3 (hr3.weak fun a q => .inl q) hl4 (hr4.weak fun a q => .inl q))
/-- _law_gathered(table, twin, rows, e) -/
theorem run_gathered {e : Expr} {rs : List Rw} {tb : List Hr} {ms : List (List Int)} {name : Str} {p1 p2 p3 p4 cp : Pos} (F : Fs w G X Z env sc ρ H Y s.heap) (T : TabF G ρ t dt L Tw ot od rs tb) (hA : Rm (n + 5) A) (hc : clean ρ = true) (hs : sc.names.lookup (Str.ofString "_law_gathered") = some .globalImplicit)
    (he : Ev w (n + 5) (XZ X Z) env sc (seen ρ) true e (.str name)) (hrn : (seen ρ).lookup (Str.ofString "rows") = some (true, .lst (rs.map rwD)))
    (hlen : tb.length ≤ 1000) (hrs : rs.length ≤ 1000) (hn : ∀ p ∈ tb, LowOk p.1) (hok : ∀ p ∈ tb, PyData.strOk p.1 = true ∧ PyData.strOk p.2 = true) (hx : LowOk name) (hcl : Clean (Txt.lower name))
    (hsel : (tb.filter fun p => Txt.lower p.1 == Txt.lower name) = ms.map (ent rs)) (hms : ∀ m ∈ ms, GoodM m)
    (hse2 : starEach [e] env = (false, eval e env) :: starEach [] env := by rfl)
    (hse3 : starEach [.Name (Str.ofString "table") p1, .Name (Str.ofString "twin") p2, .Name (Str.ofString "rows") p3, e] env = (false, eval (.Name (Str.ofString "table") p1) env) :: (false, eval (.Name (Str.ofString "twin") p2) env) :: (false, eval (.Name (Str.ofString "rows") p3) env) :: starEach [e] env := by rfl) :
    wpAny (Md w) A (eval (.Call (.Name (Str.ofString "_law_gathered") p4) [.Name (Str.ofString "table") p1, .Name (Str.ofString "twin") p2, .Name (Str.ofString "rows") p3, e] [] cp) env) (Yld (XZ X Z) true (.lst (ms.map (fdD rs))) s) E s := by
  have hrun : wpAny (Md w) A (spliced (backTo cp (starEach [.Name (Str.ofString "table") p1, .Name (Str.ofString "twin") p2, .Name (Str.ofString "rows") p3, e] env))) (fun vs s1 => ∃ v3 tk, vs = [.ref t, .ref Tw, v3, .str name tk] ∧ RpB (XZ X Z) s1.heap v3 (.lst (rs.map rwD)) ∧ Own (XZ X Z) v3 ∧ Keeps s s1) E s := by
    refine wpAny_items_cons (raw_name F T.table ?_) rfl
    refine wpAny_items_cons (grow_name F T.twin ?_) rfl
    refine wpAny_mono (list_run (.cons (ev_name hrn) rfl (.cons he hse2 .nil)) hA (F.cx hc)) (fun vs s1 q => ?_) fun _ _ x => x
    obtain ⟨r, k⟩ := q
    obtain ⟨_, _, rfl, r3, o3, r⟩ := r.cons_inv
    obtain ⟨_, _, rfl, r4, o4, r⟩ := r.cons_inv
    cases r
    cases r4
    exact ⟨_, _, rfl, r3, o3, k⟩
  refine wpAny_Call_NameR (load_glob (F.cx hc) hs g_gathered ?_ (by decide))
  refine callWith_of (P := (KK w.params).In) (by rw [hse3, hse2]; rfl) (fun h B => keeps_K (by kernel_rfl) h B) ?_
  have hplain := hrun
  rw [hse3] at hplain ⊢
  refine PySem.Calls.evalArgs_plain (wpAny_mono hplain (fun vs s1 q => ?_) fun _ _ x => x)
  obtain ⟨v3, tk, rfl, r3, o3, k⟩ := q
  have F1 := F.told k
  refine ⟨F1.base.inK, ?_⟩
  obtain ⟨zL, lvs, hl1, hr1⟩ := grow_at F1 T.list
  obtain ⟨zT, tvs, hl2, hr2⟩ := grow_at F1 T.twin
  refine wpAny_call (codeAny_mono (spec_gathered (n := n) (X := XZ X Z) (rs := rs) (tb := tb) (ms := ms) hA F1.base F1.low T.obj (F1.prot t ot T.inst).1 (F1.prot dt od T.dict).1 (.lst hl1 hr1) (.lst hl2 hr2) r3 o3 hlen hrs hn hok hx hcl hsel hms) fun r s2 q => ?_)
  obtain ⟨v, rfl, y⟩ := q
  exact Yld.trans k y
/-- del table[name] -/
theorem st_del {rs : List Rw} {tb : List Hr} {x : Str} {b : Bool} {p1 p2 p3 pos : Pos} {Q : Flow → Shared → Prop} (F : Fs w G X Z env sc ρ H Y s.heap) (T : TabF G ρ t dt L Tw ot od rs tb) (hA : Rm (n + 2) A) (hc : clean ρ = true) (hnm : (seen ρ).lookup (Str.ofString "name") = some (b, .str x))
    (hlen : tb.length ≤ 1000) (hn : ∀ p ∈ tb, LowOk p.1) (hx : LowOk x) (hcl : Clean (Txt.lower x))
    (h : ∀ s', Chg s s' → Fs w G X Z env sc ((star, .grow L ((leftF tb x).map hdrD)) :: ρ) H Y s'.heap → Q .next s') :
    wpAny (Md w) A (exec (.Delete [.Subscript (.Name (Str.ofString "table") p1) (.Name (Str.ofString "name") p2) p3] pos) env) Q E s := by
  refine wpAny_Delete (wpAny_deleteEach_cons ?_)
  rw [arm_delete_Subscript]
  refine wpAny_bind (raw_name F T.table ?_)
  refine wpAny_bind (wpAny_holding (wpAny_mono ((ev_name (b := false) hnm : Ev w (n + 2) (XZ X Z) env sc (seen ρ) false (.Name (Str.ofString "name") p2) (.str x)) A s E hA (F.cx hc)) (fun v s1 q => ?_) fun _ _ x => x))
  obtain ⟨r, _, k⟩ := q
  obtain ⟨tk, rfl⟩ := r.str_inv
  have F1 := F.told k
  obtain ⟨a1, a2, _, _, _⟩ := T.apart F1
  obtain ⟨zL, lvs, hl1, hr1⟩ := grow_at F1 T.list
  refine wpAny_bind (wpAny_standAt (wpAny_bind (wpAny_holding ?_)))
  refine del_table F1.base T.obj (F1.prot t ot T.inst).1 (F1.prot dt od T.dict).1 ?_
  refine wpAny_call (codeAny_mono (spec_del (n := n) (X := XZ X Z) (rows := tb) hA F1.base F1.low T.obj (F1.prot t ot T.inst).1 (F1.prot dt od T.dict).1 a1 a2 hl1 (hr1.weak fun a q => q.elim id fun z => .inr (z ▸ zL)) hlen hn hx hcl) fun r s2 q => ?_)
  obtain ⟨rfl, c2, B2, k2, ws, hl3, hr3⟩ := q
  refine wpAny_release ?_
  exact wpAny_deleteEach_nil (h s2 ((Chg.of_keeps k).trans c2) (F1.grown T.list (fun b o hb e => k2 b o hb e) B2 hl3 (hr3.weak fun a q => .inl q)))
end
end Mine

open PySem PySem.W PyProof.Rows PySem.AutoIntOps
set_option Elab.async false
set_option linter.unusedVariables false
set_option linter.unusedSimpArgs false
set_option maxRecDepth 100000
set_option maxHeartbeats 1000000
namespace Mine
/-! # the elimination, without a program -/
/-- a header: a recipe's, or one with too many words -/
inductive It where
  | r (m : List Int)
  | o
noncomputable def itH (rs : List Rw) : It → Hr
  | .r m => ent rs m
  | .o => ((Str.ofString "0", told 15) : Str × Str)
noncomputable def It.isO : It → Bool
  | .o => true
  | _ => false
noncomputable def combF (rs : List Rw) (u : Nat) (l h : List Int) : List Int := (l.zip h).map fun p => p.1 * (totF rs h).at u - p.2 * (totF rs l).at u
noncomputable def meetF (rs : List Rw) (u : Nat) (l h : List Int) : Bool := decide ((totF rs l).at u < 0) && decide (0 < (totF rs h).at u)
noncomputable def layI (m : List Int) (most : Int) : It := if fewF (mkN m) most then .r m else .o
noncomputable def innerF (rs : List Rw) (u : Nat) (l : List Int) (hs : List (List Int)) : List It := (hs.filter (meetF rs u l)).map fun h => layI (combF rs u l h) ((u : Int) + 2)
noncomputable def newsF (rs : List Rw) (u : Nat) (sel ls : List (List Int)) : List It := ls.flatMap fun l => innerF rs u l sel
noncomputable def selF (rs : List Rw) (nm : Str) (its : List It) : List (List Int) := its.filterMap fun i => match i with
  | .r m => if Txt.lower (nameF (totF rs m)) == nm then some m else none
  | .o => none
noncomputable def restF (rs : List Rw) (nm : Str) (its : List It) : List It := its.filter fun i => Txt.lower (itH rs i).1 != nm
noncomputable def stepF (rs : List Rw) (u : Nat) (nm : Str) (its : List It) : List It := restF rs nm (its ++ newsF rs u (selF rs nm its) (selF rs nm its))
noncomputable def unitF (n p : Nat) : List Int := (List.range n).map fun k : Nat => if ((k : Int) == (p : Int)) then 1 else 0
noncomputable def its0 (n : Nat) : List It := (List.range n).map fun p => .r (unitF n p)
noncomputable def its1 (rs : List Rw) : List It := stepF rs 0 "x" (its0 rs.length)
noncomputable def its2 (rs : List Rw) : List It := stepF rs 1 "y" (its1 rs)
noncomputable def GoodI (its : List It) : Prop := ∀ m, It.r m ∈ its → GoodM m
structure PhaseOk (rs : List Rw) (u : Nat) (nm : Str) (its : List It) : Prop where
  good : GoodI its
  comb : ∀ l ∈ selF rs nm its, ∀ h ∈ selF rs nm its, meetF rs u l h = true → GoodM (combF rs u l h) ∧ (fewF (mkN (combF rs u l h)) ((u : Int) + 2) = false → mkN (combF rs u l h) = 15)
  size : its.length + (selF rs nm its).length * (selF rs nm its).length ≤ 1000
theorem low_names : Txt.lower (Str.ofString "x") = Str.ofString "x" ∧ Txt.lower (Str.ofString "X") = Str.ofString "x" ∧ Txt.lower (Str.ofString "y") = Str.ofString "y" ∧ Txt.lower (Str.ofString "Y") = Str.ofString "y" ∧ Txt.lower (Str.ofString "1") = Str.ofString "1" ∧ Txt.lower (Str.ofString "0") = Str.ofString "0" := by decide +kernel
theorem nameF_cases (r : Rw) : nameF r = Str.ofString "x" ∨ nameF r = Str.ofString "X" ∨ nameF r = Str.ofString "y" ∨ nameF r = Str.ofString "Y" ∨ nameF r = Str.ofString "1" := by
  unfold nameF
  repeat' split
  all_goals simp
theorem label_cases (rs : List Rw) (i : It) : (itH rs i).1 = Str.ofString "x" ∨ (itH rs i).1 = Str.ofString "X" ∨ (itH rs i).1 = Str.ofString "y" ∨ (itH rs i).1 = Str.ofString "Y" ∨ (itH rs i).1 = Str.ofString "1" ∨ (itH rs i).1 = Str.ofString "0" := by
  cases i with
  | r m =>
    rcases nameF_cases (totF rs m) with h | h | h | h | h
    · exact .inl h
    · exact .inr (.inl h)
    · exact .inr (.inr (.inl h))
    · exact .inr (.inr (.inr (.inl h)))
    · exact .inr (.inr (.inr (.inr (.inl h))))
  | o => exact .inr (.inr (.inr (.inr (.inr rfl))))
theorem low_ok : ∀ x ∈ ([Str.ofString "x", Str.ofString "X", Str.ofString "y", Str.ofString "Y", Str.ofString "1", Str.ofString "0"] : List Str), LowOk x ∧ PyData.strOk x = true := by
  intro x hx
  have key : ∀ x ∈ ([Str.ofString "x", Str.ofString "X", Str.ofString "y", Str.ofString "Y", Str.ofString "1", Str.ofString "0"] : List Str), (Txt.lower x).length ≤ 100 ∧ PyData.strOk x = true := by decide +kernel
  obtain ⟨a, b⟩ := key x hx
  refine ⟨?_, b⟩
  have := sl (k := 100) (by decide)
  show decide (_ > sizeLine) = false
  rw [decide_eq_false (by first | exact Nat.le_trans (by assumption) (by decide) | omega)]
theorem label_ok (rs : List Rw) (i : It) : LowOk (itH rs i).1 ∧ PyData.strOk (itH rs i).1 = true := by
  refine low_ok _ ?_
  rcases label_cases rs i with h | h | h | h | h | h <;> rw [h] <;> simp
theorem clean_strOk {x : Str} (h : ∀ c ∈ x.cps.toList, c < 0x110000) : PyData.strOk x = true := by
  unfold PyData.strOk
  rw [← Array.all_toList, List.all_eq_true]
  intro c hc
  simpa using h c hc
theorem item_ok {rs : List Rw} {its : List It} (hg : GoodI its) : ∀ p ∈ its.map (itH rs), LowOk p.1 ∧ PyData.strOk p.1 = true ∧ PyData.strOk p.2 = true := by
  intro p hp
  obtain ⟨i, hi, rfl⟩ := List.mem_map.mp hp
  obtain ⟨a, b⟩ := label_ok rs i
  refine ⟨a, b, ?_⟩
  have htold : ∀ f : Fin 16, (told f.val).cps.toList.all (fun c => decide (c < 200)) = true := by decide +kernel
  cases i with
  | o =>
    refine clean_strOk fun c hc => ?_
    have := List.all_eq_true.mp (htold ⟨15, by decide⟩) c hc
    have : c < 200 := by first | exact of_decide_eq_true this | exact of_decide_eq_false this | exact bne_iff_ne.mp this | exact eq_of_beq this | simpa using this
    omega
  | r m =>
    have hm := hg m hi
    obtain ⟨k0, k16, _, _⟩ := mask_ok hm
    refine clean_strOk fun c hc => ?_
    have hc : c ∈ ((told (mkN m)).cps ++ ("=" : Str).cps ++ (signs m).cps).toList := hc
    rw [Array.toList_append, Array.toList_append, List.mem_append, List.mem_append] at hc
    rcases hc with (hc | hc) | hc
    · have := List.all_eq_true.mp (htold ⟨mkN m, k16⟩) c hc
      have : c < 200 := by first | exact of_decide_eq_true this | exact of_decide_eq_false this | exact bne_iff_ne.mp this | exact eq_of_beq this | simpa using this
      omega
    · have e : ("=" : Str).cps.toList = [61] := by decide +kernel
      rw [e, List.mem_singleton] at hc
      omega
    · have q : ((c : Nat) : Int) ∈ codesF (signs m) := List.mem_map.mpr ⟨c, hc, rfl⟩
      rw [codes_signs, List.mem_flatMap] at q
      obtain ⟨t, ht, q⟩ := q
      obtain ⟨t0, t1⟩ := hm.rng t (List.mem_filter.mp ht).1
      obtain ⟨k, rfl⟩ := Int.eq_ofNat_of_zero_le t0
      rw [enc_cps] at q
      simp only [List.mem_append, List.mem_singleton] at q
      rcases q with q | q | q
      · split at q
        · rw [List.mem_singleton] at q; omega
        · cases q
      · split at q
        · rw [List.mem_singleton] at q; omega
        · cases q
      · omega
theorem layI_eq {rs : List Rw} {m : List Int} {most : Int} (h : fewF (mkN m) most = false → mkN m = 15) : layF rs m (mkN m) most = itH rs (layI m most) := by
  unfold layF layI
  cases hf : fewF (mkN m) most with
  | true => rfl
  | false => rw [h hf]; rfl
theorem layI_good {m : List Int} {most : Int} (h : GoodM m) : GoodI [layI m most] := by
  intro m' hm
  unfold layI at hm
  split at hm
  · simp at hm; exact hm ▸ h
  · simp at hm
theorem GoodI.app {a b : List It} (ha : GoodI a) (hb : GoodI b) : GoodI (a ++ b) := fun m h => (List.mem_append.mp h).elim (ha m) (hb m)
theorem sel_eq {rs : List Rw} {nm : Str} (hnm : (Str.ofString "0" == nm) = false) : ∀ its : List It, ((its.map (itH rs)).filter fun p => Txt.lower p.1 == nm) = (selF rs nm its).map (ent rs)
  | [] => rfl
  | .r m :: r => by
    rw [List.map_cons, List.filter_cons, sel_eq hnm r]
    show (if (Txt.lower (nameF (totF rs m)) == nm) = true then _ else _) = _
    unfold selF
    rw [List.filterMap_cons]
    by_cases h : (Txt.lower (nameF (totF rs m)) == nm) = true
    · rw [if_pos h]; simp only [h, if_true, List.map_cons]; rfl
    · rw [if_neg h]; simp only [h, Bool.false_eq_true, if_false]
  | .o :: r => by
    rw [List.map_cons, List.filter_cons, sel_eq hnm r]
    show (if (Txt.lower (Str.ofString "0") == nm) = true then _ else _) = _
    rw [low_names.2.2.2.2.2, if_neg (by rw [hnm]; simp)]
    rfl
theorem sel_mem {rs : List Rw} {nm : Str} {its : List It} {m : List Int} (h : m ∈ selF rs nm its) : It.r m ∈ its ∧ Txt.lower (nameF (totF rs m)) = nm := by
  unfold selF at h
  obtain ⟨i, hi, e⟩ := List.mem_filterMap.mp h
  cases i with
  | o => cases e
  | r m' =>
    dsimp only at e
    split at e
    · rename_i q; cases e; exact ⟨hi, by first | exact of_decide_eq_true q | exact of_decide_eq_false q | exact bne_iff_ne.mp q | exact eq_of_beq q | simpa using q⟩
    · cases e
theorem rest_eq {rs : List Rw} {nm : Str} (its : List It) : ((its.map (itH rs)).filter fun p => Txt.lower p.1 != nm) = (restF rs nm its).map (itH rs) := by
  unfold restF
  rw [List.filter_map]; rfl
theorem zero_one (rs : List Rw) (i : It) : (Txt.lower (itH rs i).1 == Str.ofString "0") = i.isO ∧ ((itH rs i).1 == Str.ofString "0") = i.isO := by
  obtain ⟨a, b, c, d, e, f⟩ := low_names
  cases i with
  | o => exact ⟨by show (Txt.lower (Str.ofString "0") == _) = true; rw [f]; simp, by show (Str.ofString "0" == _) = true; simp⟩
  | r m =>
    have q : ∀ x ∈ ([Str.ofString "x", Str.ofString "y", Str.ofString "1", Str.ofString "X", Str.ofString "Y"] : List Str), (x == Str.ofString "0") = false := by decide +kernel
    show (Txt.lower (nameF (totF rs m)) == _) = false ∧ (nameF (totF rs m) == _) = false
    rcases nameF_cases (totF rs m) with h | h | h | h | h <;> rw [h]
    · rw [a]; exact ⟨q _ (by simp), q _ (by simp)⟩
    · rw [b]; exact ⟨q _ (by simp), q _ (by simp)⟩
    · rw [c]; exact ⟨q _ (by simp), q _ (by simp)⟩
    · rw [d]; exact ⟨q _ (by simp), q _ (by simp)⟩
    · rw [e]; exact ⟨q _ (by simp), q _ (by simp)⟩
theorem got_zero (rs : List Rw) (its : List It) : gotF (its.map (itH rs)) (Str.ofString "0") = List.replicate (its.filter It.isO).length (told 15) ∧ ((its.map (itH rs)).filter fun p => p.1 == Str.ofString "0").length = (its.filter It.isO).length := by
  unfold gotF
  rw [low_names.2.2.2.2.2]
  induction its with
  | nil => exact ⟨rfl, rfl⟩
  | cons i r ih =>
    obtain ⟨z1, z2⟩ := zero_one rs i
    rw [List.map_cons, List.filter_cons, List.filter_cons, List.filter_cons, z1, z2]
    cases i with
    | o =>
      simp only [It.isO, if_true, List.map_cons, List.length_cons, List.replicate_succ, ih.1, ih.2]
      exact ⟨rfl, trivial⟩
    | r m =>
      simp only [It.isO, Bool.false_eq_true, if_false]
      exact ih
theorem unit_ok : ∀ p : Fin 4, GoodM (unitF 4 p.val) ∧ fewF (mkN (unitF 4 p.val)) 1 = true := by
  have key : ∀ p : Fin 4, ((unitF 4 p.val).length = 4 ∧ (unitF 4 p.val).all (fun x => decide (0 ≤ x) && decide (x ≤ 4000)) = true ∧ (unitF 4 p.val).any (fun x => x != 0) = true) ∧ fewF (mkN (unitF 4 p.val)) 1 = true := by decide +kernel
  intro p
  obtain ⟨⟨a, b, c⟩, d⟩ := key p
  refine ⟨⟨a, fun x hx => ?_, ?_⟩, d⟩
  · have := List.all_eq_true.mp b x hx
    simpa using this
  · obtain ⟨x, hx, h⟩ := List.any_eq_true.mp c
    exact ⟨x, hx, by first | exact of_decide_eq_true h | exact of_decide_eq_false h | exact bne_iff_ne.mp h | exact eq_of_beq h | simpa using h⟩
theorem its0_good : GoodI (its0 4) := by
  intro m hm
  obtain ⟨p, hp, e⟩ := List.mem_map.mp hm
  cases e
  exact (unit_ok ⟨p, List.mem_range.mp hp⟩).1
end Mine

open PySem PySem.W PyProof.Rows PySem.AutoIntOps
set_option Elab.async false
set_option linter.unusedVariables false
set_option linter.unusedSimpArgs false
set_option maxRecDepth 100000
set_option maxHeartbeats 1000000
namespace Mine
section
variable {w : World} {n : Nat} {G : Gd} {X Z Z' : Addr → Prop} {env : Env} {sc : Scope} {ρ ρ' : Vs} {H : Heap} {Y : Addr → Prop} {A : Around} {E : Value → Shared → Prop} {s s₀ : Shared} {h h' : Heap}
/-- a list of the frame's that no name of the text holds -/
theorem Fs.starred {a : Addr} {vs : List Value} {ds : List D} (F : Fs w G X Z env sc ρ H Y h) (hz : Z a) (hl : h.PlainList a vs.toArray) (hr : RpL (XZ X Z) h vs ds) (hng : ∀ x es, ρ.lookup x ≠ some (.grow a es)) (hP : ∀ o, ¬ G.P a o) (hW : ¬ G.W a) :
    Fs w G X Z env sc ((star, .grow a ds) :: ρ) H Y h := by
  have look : ∀ y b, ((star, Bd.grow a ds) :: ρ).lookup y = some b → (y = star ∧ b = .grow a ds) ∨ ρ.lookup y = some b := fun y b e => by
    rw [List.lookup_cons] at e
    cases hb : y == star with
    | true => rw [hb] at e; cases e; exact .inl ⟨beq_iff_eq.mp hb, rfl⟩
    | false => rw [hb] at e; exact .inr e
  obtain ⟨m, cm, f, g⟩ := F.fm
  refine ⟨F.base, F.baseH, F.scope, F.fn, F.glob, F.blt, F.low, ⟨m, cm, f, fun y b e => ?_⟩, fun y z c fs gs e1 e2 => ?_, F.new, F.keep, F.mine, fun b o p => ?_, fun b p => ?_, F.live, F.safe⟩
  · rcases look y b e with ⟨rfl, rfl⟩ | e
    · exact ⟨fun z => absurd rfl z, .ref a, fun z => absurd rfl z, rfl, hz, vs, hl, hr⟩
    · exact g y b e
  · rcases look y _ e1 with ⟨rfl, q⟩ | e1
    · cases q
      rcases look z _ e2 with ⟨rfl, q⟩ | e2
      · rfl
      · exact absurd e2 (hng _ _)
    · rcases look z _ e2 with ⟨rfl, q⟩ | e2
      · cases q; exact absurd e1 (hng _ _)
      · exact F.dist y z c _ _ e1 e2
  · obtain ⟨e1, e2, e3⟩ := F.prot b o p
    refine ⟨e1, e2, fun x es e => ?_⟩
    rcases look x _ e with ⟨rfl, q⟩ | e
    · cases q; exact hP o p
    · exact e3 x es e
  · obtain ⟨e1, e2, e3, e4⟩ := F.wall b p
    refine ⟨e1, e2, fun x es e => ?_, e4⟩
    rcases look x _ e with ⟨rfl, q⟩ | e
    · cases q; exact hW p
    · exact e3 x es e
noncomputable def gT (t dt : Addr) (ot od : Obj) : Gd := ⟨fun b o => (b = t ∧ o = ot) ∨ (b = dt ∧ o = od), fun _ => False, fun _ => False⟩
/-- table, twin, buckets = (Headers([]), [], []) -/
theorem st_start {k k' : Nat} {p1 p2 p3 p4 p5 p6 p7 p8 tp vp pos : Pos} {Q : Flow → Shared → Prop} (F : Fs w Gd.no X NoA env sc ρ H Y s.heap) (hA : Rm (n + 2) A) (hc : clean ρ = true) (hs : sc.names.lookup (Str.ofString "Headers") = some .globalImplicit)
    (hsw : swOf sc [.Name (Str.ofString "table") p1, .Name (Str.ofString "twin") p2, .Name (Str.ofString "buckets") p3] [.Call (.Name (Str.ofString "Headers") p4) [.List [] p5] [] p6, .List [] p7, .List [] p8] = some [Str.ofString "table", Str.ofString "twin", Str.ofString "buckets"])
    (hx : locOrCell sc (Str.ofString "table") = true) (hx2 : locOrCell sc (Str.ofString "twin") = true) (hx3 : locOrCell sc (Str.ofString "buckets") = true)
    (h : ∀ t dt L Tw Ba ot od s', Chg s s' → Fs w (gT t dt ot od) X (fun c => c = L ∨ c = Tw ∨ c = Ba) env sc ((Str.ofString "table", .raw (.ref t)) :: (Str.ofString "twin", .grow Tw []) :: (Str.ofString "buckets", .grow Ba []) :: (star, .grow L []) :: ρ) H Y s'.heap → HObj t dt L ot od → ¬ X Ba → Q .next s') :
    wpAny (Md w) A (exec (.Assign [.Tuple [.Name (Str.ofString "table") p1, .Name (Str.ofString "twin") p2, .Name (Str.ofString "buckets") p3] k tp] (.Tuple [.Call (.Name (Str.ofString "Headers") p4) [.List [] p5] [] p6, .List [] p7, .List [] p8] k' vp) pos) env) Q E s := by
  refine Assign_Tuple_swapped (names := [Str.ofString "table", Str.ofString "twin", Str.ofString "buckets"]) ?_ rfl (hsw ▸ sw_eq F.scope F.fn fun e => nomatch e)
  refine wpAny_Tuple (wpAny_items_cons (wpAny_Call_NameR (load_glob (F.cx hc) hs g_headers ?_ (by decide))) rfl)
  refine callWith_of (P := (KK w.params).In) rfl (fun h B => keeps_K (by kernel_rfl) h B) ?_
  refine PySem.Calls.evalArgs_plain (wpAny_items_cons (wpAny_mono ((evn_list .nil (sl (Nat.le_of_ble_eq_true rfl)) : EvN w (n + 2) _ env sc (seen ρ) (.List [] p5) []) A s _ hA (F.cx hc)) (fun v s1 q => ?_) fun _ _ x => x) rfl)
  obtain ⟨L, rfl, nL, ⟨lvs, hl1, hr1⟩, k1⟩ := q
  cases hr1
  have F1 := F.told k1
  refine wpAny_items_nil ⟨F1.base.inK, wpAny_call (codeAny_mono (spec_make (n := n) hA F1.base hl1) fun r s2 q => ?_)⟩
  obtain ⟨t, dt, ot, od, rfl, k2, O, h1, h2, nt, ndt⟩ := q
  have F2 := F1.told k2
  refine wpAny_items_cons (wpAny_mono ((evn_list .nil (sl (Nat.le_of_ble_eq_true rfl)) : EvN w (n + 2) _ env sc (seen ρ) (.List [] p7) []) A s2 E hA (F2.cx hc)) (fun v s3 q => ?_) fun _ _ x => x) rfl
  obtain ⟨Tw, rfl, nT, ⟨tvs, hl2, hr2⟩, k3⟩ := q
  cases hr2
  have F3 := F2.told k3
  refine wpAny_items_cons (wpAny_mono ((evn_list .nil (sl (Nat.le_of_ble_eq_true rfl)) : EvN w (n + 2) _ env sc (seen ρ) (.List [] p8) []) A s3 E hA (F3.cx hc)) (fun v s4 q => ?_) fun _ _ x => x) rfl
  obtain ⟨Ba, rfl, nB, ⟨bvs, hl3, hr3⟩, k4⟩ := q
  cases hr3
  refine wpAny_items_nil ⟨sl (Nat.le_of_ble_eq_true rfl), ?_⟩
  refine unpackItems_tuple (items := #[.ref t, .ref Tw, .ref Ba]) hA.handled ⟨_, Heap.get?_push_size _ rfl, rfl, 0, rfl⟩ fun h₁ ex => ?_
  have kp : Ext s4.heap (s4.heap.push { cls := .type "tuple", data := .seq [Value.ref t, .ref Tw, .ref Ba].toArray }) := fun b o e => Heap.get?_push_of_some _ e
  have k5 : Ext s4.heap h₁ := fun b o e => ex b o (fun z => by
      have hlt := Heap.lt_size e
      have hz : b = s4.heap.objs.size + 1 := z.trans (Heap.size_push ..)
      rw [hz] at hlt
      exact Nat.not_succ_le_self _ (Nat.lt_of_succ_lt hlt)) (kp b o e)
  have e1 := keeps_ext k1
  have e2 := keeps_ext k2
  have e3 := keeps_ext k3
  have e4 := keeps_ext k4
  have kAll : Ext s.heap h₁ := fun b o e => k5 b o (e4 b o (e3 b o (e2 b o (e1 b o e))))
  have alL : ∃ o, s1.heap.get? L = some o := by obtain ⟨_, e⟩ := hl1; exact ⟨_, e⟩
  have alT : ∃ o, s3.heap.get? Tw = some o := by obtain ⟨_, e⟩ := hl2; exact ⟨_, e⟩
  have alB : ∃ o, s4.heap.get? Ba = some o := by obtain ⟨_, e⟩ := hl3; exact ⟨_, e⟩
  have none_of : ∀ {g g' : Heap} {a : Addr}, Ext g g' → g'.get? a = none → g.get? a = none := fun {g g' a} k e => by
    cases q : g.get? a with
    | none => rfl
    | some o => rw [k a o q] at e; cases e
  have sT : s.heap.get? Tw = none := none_of (fun b o e => e2 b o (e1 b o e)) nT
  have sB : s.heap.get? Ba = none := none_of (fun b o e => e3 b o (e2 b o (e1 b o e))) nB
  have st' : s.heap.get? t = none := none_of e1 nt
  have sdt : s.heap.get? dt = none := none_of e1 ndt
  have hLT : L ≠ Tw := fun z => by obtain ⟨o, e⟩ := alL; have := e2 _ _ e; rw [z, nT] at this; cases this
  have hLB : L ≠ Ba := fun z => by obtain ⟨o, e⟩ := alL; have := e3 _ _ (e2 _ _ e); rw [z, nB] at this; cases this
  have hTB : Tw ≠ Ba := fun z => by obtain ⟨o, e⟩ := alT; rw [z, nB] at e; cases e
  have htL : t ≠ L := fun z => by obtain ⟨o, e⟩ := alL; rw [← z, nt] at e; cases e
  have hdL : dt ≠ L := fun z => by obtain ⟨o, e⟩ := alL; rw [← z, ndt] at e; cases e
  have htT : t ≠ Tw := fun z => by rw [z, nT] at h1; cases h1
  have hdT : dt ≠ Tw := fun z => by rw [z, nT] at h2; cases h2
  have htB : t ≠ Ba := fun z => by have := e3 _ _ h1; rw [z, nB] at this; cases this
  have hdB : dt ≠ Ba := fun z => by have := e3 _ _ h2; rw [z, nB] at this; cases this
  have F5 := F.widen (Z' := fun c => c = L ∨ c = Tw ∨ c = Ba) kAll (fun a q => q.elim) fun a q => by
    rcases q with rfl | rfl | rfl
    · obtain ⟨o, e⟩ := alL; exact .inr ⟨nL, o, k5 _ _ (e4 _ _ (e3 _ _ (e2 _ _ e)))⟩
    · obtain ⟨o, e⟩ := alT; exact .inr ⟨sT, o, k5 _ _ (e4 _ _ e)⟩
    · obtain ⟨o, e⟩ := alB; exact .inr ⟨sB, o, k5 _ _ e⟩
  have F6 := F5.guard (G' := gT t dt ot od) (fun b o q => by
    rcases q with ⟨rfl, rfl⟩ | ⟨rfl, rfl⟩
    · exact ⟨k5 _ _ (e4 _ _ (e3 _ _ h1)), F.notFm st', F.noGrow st'⟩
    · exact ⟨k5 _ _ (e4 _ _ (e3 _ _ h2)), F.notFm sdt, F.noGrow sdt⟩) (fun _ q => q.elim) (fun _ q => q.elim)
  have F7 := F6.starred (a := L) (vs := []) (ds := []) (.inl rfl) (hl1.at fun o e => k5 _ _ (e4 _ _ (e3 _ _ (e2 _ _ e)))) .nil (F.noGrow nL) (fun o q => q.elim (fun z => htL z.1.symm) fun z => hdL z.1.symm) (fun q => q)
  have ng : ∀ {ρ : Vs} {a b : Addr} {x : Str} {ds : List D}, a ≠ b → (∀ y es, ρ.lookup y ≠ some (.grow b es)) → ∀ y es, ((x, Bd.grow a ds) :: ρ).lookup y ≠ some (.grow b es) := fun {ρ a b x ds} hab hn y es e => by
    rw [List.lookup_cons] at e
    split at e
    · cases e; exact hab rfl
    · exact hn y es e
  show wpAny _ _ (assignInOrder [bindName env (Str.ofString "buckets"), bindName env (Str.ofString "twin"), bindName env (Str.ofString "table")] [.ref Ba, .ref Tw, .ref t]) _ _ _
  unfold assignInOrder
  refine wpAny_bind (wpAny_holding (wpAny_bindName (fs_store (s := { s4 with heap := h₁ }) F7 hx3 (b := .grow Ba []) ⟨⟨rfl, .inr (.inr rfl), [], hl3.at fun o e => k5 _ _ e, .nil⟩, fun b es e => by cases e; exact ⟨fun y es e => absurd e (ng hLB (F.noGrow sB) y es), fun q => q, fun o q => q.elim (fun z => htB z.1.symm) fun z => hdB z.1.symm⟩⟩ fun s6 c6 F8 sk6 _ => ?_)))
  unfold assignInOrder
  obtain ⟨jT, hoT⟩ := hl2
  refine wpAny_bind (wpAny_holding (wpAny_bindName (fs_store F8 hx2 (b := .grow Tw []) ⟨⟨rfl, .inr (.inl rfl), [], ⟨jT, sk6 _ _ (k5 _ _ (e4 _ _ hoT)) ⟨_, _, rfl⟩⟩, .nil⟩, fun b es e => by cases e; exact ⟨fun y es e => absurd e (ng (Ne.symm hTB) (ng hLT (F.noGrow sT)) y es), fun q => q, fun o q => q.elim (fun z => htT z.1.symm) fun z => hdT z.1.symm⟩⟩ fun s7 c7 F9 sk7 _ => ?_)))
  unfold assignInOrder
  refine wpAny_bind (wpAny_holding (wpAny_bindName (fs_store F9 hx (b := .raw (.ref t)) ⟨rfl, fun _ _ e => nomatch e⟩ fun s8 c8 F10 _ _ => ?_)))
  unfold assignInOrder
  refine wpAny_pure (h t dt L Tw Ba ot od s8 ?_ F10 O fun z => ?_)
  · exact (((Chg.of_keeps k1).trans (Chg.of_keeps k2)).trans ((Chg.of_keeps k3).trans (Chg.of_keeps k4))).trans ((Chg.trans ⟨h₁, _, rfl⟩ c6).trans (c7.trans c8))
  · obtain ⟨o, e⟩ := F.low Ba (.inl z); rw [sB] at e; cases e
end
end Mine

open PySem PySem.W PyProof.Rows PySem.AutoIntOps
set_option Elab.async false
set_option linter.unusedVariables false
set_option linter.unusedSimpArgs false
set_option maxRecDepth 100000
set_option maxHeartbeats 1000000
namespace Mine
section
variable {w : World} {n : Nat} {G : Gd} {X Z Z' : Addr → Prop} {env : Env} {sc : Scope} {ρ ρ' : Vs} {H : Heap} {Y : Addr → Prop} {A : Around} {E : Value → Shared → Prop} {s s₀ : Shared} {h h' : Heap} {Q : Flow → Shared → Prop}
/-- x = [.. for ..], x a local name, a list that is to grow -/
theorem st_assign_compN {x : Str} {px pos cpos : Pos} {elt target iter : Expr} {ifs : List Expr} {scope : Scope} {α : Type} {l : List α} {g : α → D} {p : α → Bool} {f : α → D} {ρc : List (Str × Bool × D)} (F : Fs w G X Z env sc ρ H Y s.heap) (hA : Rm n A) (hc : clean ρ = true) (hx : sc.names.lookup x = some .local)
    (tx : CompText scope sc (seen ρ) ρc target) (hit : EvIt w n (XZ X Z) env sc (seen ρ) target iter false (l.map g))
    (hbody : ∀ d ∈ l, ∀ X' env', EvTs w n X' env' (relS scope sc) (bindD target (g d) ++ ρc) ifs (p d) ∧ (p d = true → Ev w n X' env' (relS scope sc) (bindD target (g d) ++ ρc) true elt (f d))) (hsz : l.length ≤ sizeLine)
    (hl : (px.line == (Expr.ListComp elt [⟨target, iter, ifs, 0⟩] scope cpos).pos.line) = true) (hn : (scope.names.any fun (n, k) => n == x && (k == .local || k == .cell)) = false)
    (h : ∀ a s', Chg s s' → Fs w G X (fun c => Z c ∨ c = a) env sc ((x, .grow a ((l.filter p).map f)) :: ρ) H Y s'.heap → Q .next s') (hs : ∀ x, foldedSetIterable iter env x = pure x := by intro _; rfl) :
    wpAny (Md w) A (exec (.Assign [.Name x px] (.ListComp elt [⟨target, iter, ifs, 0⟩] scope cpos) pos) env) Q E s := by
  have hk : env.kindOf x = some .local := by show env.scope.names.lookup x = _; rw [F.scope]; exact hx
  have hlc : locOrCell sc x = true := by unfold locOrCell; rw [hx]; rfl
  have C := F.cx hc
  rw [exec_Assign_Name_used _ _ _ _ (swaps_local (by rw [F.scope]; exact F.fn) hk hl hn)]
  refine wpAny_bind (wpAny_standAt (wpAny_bind ?_))
  show wpAny _ A (do let _ ← comprehension (.ListComp elt [⟨target, iter, ifs, 0⟩] scope cpos) scope env _ (newList []) false (eval iter env) (some (assign (.Name x px) env))) _ _ s
  refine wpAny_bind (wpAny_mono (comp_core (use := some (assign (.Name x px) env)) (Q := fun _ s' => Q .next s') hA C tx (hit A s _ hA C) (fun d hd X' env' _ => hbody d hd X' env') hsz (fun s' Da Ca m k hD hC hn' hl' => ?_) hs) (fun _ s' hq => wpAny_pure (wpAny_pure hq)) fun _ _ e => e)
  obtain ⟨X', ys, hw, ⟨hXC, hXD⟩, hf, hl', hr⟩ := hl'
  show wpAny _ A (assign (.Name x px) env (.ref Da)) _ _ _
  have hne : Da ≠ Ca := by
    rintro rfl
    obtain ⟨o, _, _, ho, hd, _⟩ := hn'
    obtain ⟨j, ho'⟩ := hl'
    rw [ho] at ho'; cases ho'
    cases hd
  obtain ⟨H₁, tk, rfl, kk⟩ := k
  have hold : ∀ a, XZ X Z a → ∃ o, s.heap.get? a = some o := F.low
  have hCfm : ¬ Fm.at env (allNames sc) Ca := F.notFm hC
  obtain ⟨oC, _, _, hoC, _⟩ := id hn'
  have F₁ : Fs w G X (fun a => Z a ∨ (a = Ca ∨ a = Da)) env sc ρ H Y H₁ := F.widen kk (fun a q => .inl q) fun a q => q.imp id fun e => by
    rcases e with e | e
    · subst e; exact ⟨hC, _, hoC⟩
    · subst e; obtain ⟨_, q⟩ := hl'; exact ⟨hD, _, q⟩
  have hsub : ∀ a, XZ X (fun a => Z a ∨ (a = Ca ∨ a = Da)) a → X' a := fun a q => by
    rcases q with q | q | q | q
    · exact hw a (.inl q)
    · exact hw a (.inr q)
    · exact q ▸ hXC
    · exact q ▸ hXD
  refine wpAny_assign_Name (fs_store F₁ hlc (b := .grow Da ((l.filter p).map f)) ⟨⟨rfl, .inr (.inr rfl), ys.toList, by first | exact of_decide_eq_true hl' | exact of_decide_eq_false hl' | exact bne_iff_ne.mp hl' | exact eq_of_beq hl' | simpa using hl', hr.weak hsub⟩, fun b es e => by
    cases e
    exact ⟨fun y es e => absurd e (F.noGrow hD y es), fun z => (by obtain ⟨o, ho⟩ := F.low Da (.inr (F.wall Da z).1); rw [hD] at ho; cases ho), fun o z => by have := (F.prot Da o z).1; rw [hD] at this; cases this⟩⟩ fun s'' c F' sk kp => ?_)
  refine ⟨m, hn'.at' fun o e => kp Ca o hCfm e, fun h'' hs'' => ?_⟩
  obtain ⟨h₃, t₃, rfl⟩ := c
  refine h Da _ ⟨h'', t₃, rfl⟩ ?_
  have hng : ∀ y ds', ((x, Bd.grow Da ((l.filter p).map f)) :: ρ).lookup y ≠ some (.grow Ca ds') := fun y ds' e => by
    rw [List.lookup_cons] at e
    cases hb : y == x with
    | true => rw [hb] at e; cases e; exact hne rfl
    | false => rw [hb] at e; exact F.noGrow hC y ds' e
  have F₂ := F'.guard (G' := ⟨G.P, fun a => G.W a ∨ a = Ca, G.S⟩) (fun b o q => F'.prot b o q) (fun a q => by
    rcases q with q | q
    · exact F'.wall a q
    · subst q; exact ⟨.inr (.inl rfl), hCfm, hng, F.freshH hC⟩) F'.safe
  have hZC : ¬ XZ X Z Ca := fun q => by obtain ⟨o, ho⟩ := F.low Ca q; rw [hC] at ho; cases ho
  exact F₂.others' (Z' := fun c => Z c ∨ c = Da) (W := fun a => a = Ca) (W₁ := G.W) (fun a q => .inr q) (fun a o z q => by have := (F.prot a o q).1; rw [z, hC] at this; cases this) (fun b o hb e => hs''.extBut b o hb e) (fun a q => q.imp id .inr) (fun b q _ => by
      have hb : b ≠ Ca := fun z => q.elim (fun q => hZC (z ▸ .inl q)) fun q => q.elim (fun q => hZC (z ▸ .inr q)) fun q => hne (q.symm.trans z)
      obtain ⟨o, ho⟩ := F₂.low b (q.imp id fun q => q.imp id .inr)
      exact ⟨o, hs''.extBut b o hb ho⟩)
    (fun y a ds' e => by
      obtain ⟨m', cm', f', g'⟩ := F'.fm
      obtain ⟨_, v, _, rfl, hz, _⟩ := g' y _ e
      exact hz.imp id fun z => z.resolve_left fun z => by subst z; exact hng y ds' e) fun a q => ⟨.inl q, .inl (F.wall a q).1⟩
end
end Mine

open PySem PySem.W PyProof.Rows PySem.AutoIntOps
set_option Elab.async false
set_option linter.unusedVariables false
set_option linter.unusedSimpArgs false
set_option maxRecDepth 100000
set_option maxHeartbeats 1000000
namespace Mine
/-! # _law_eliminated -/
noncomputable def hdsD (rs : List Rw) (its : List It) : List D := (its.map (itH rs)).map hdrD
theorem hds_snoc {rs : List Rw} {its : List It} {i : It} : ((its.map (itH rs) ++ [itH rs i]).map hdrD) = hdsD rs (its ++ [i]) := by
  unfold hdsD; rw [List.map_append, List.map_append, List.map_append]; rfl
noncomputable def kE (t L Tw Ba : Addr) (rs : List Rw) (its : List It) (bs : List D) : Vs := [(Str.ofString "twin", .grow Tw (hdsD rs its)), (star, .grow L (hdsD rs its)), (Str.ofString "table", .raw (.ref t)), (Str.ofString "rows", .own (.lst (rs.map rwD))), (Str.ofString "buckets", .grow Ba bs)]
noncomputable def nmU : Nat → Str
  | 0 => Str.ofString "x"
  | _ => Str.ofString "y"
noncomputable def itsU (rs : List Rw) : Nat → List It
  | 0 => its0 4
  | 1 => its1 rs
  | _ => its2 rs
noncomputable def kN (t L Tw Ba : Addr) (rs : List Rw) (its : List It) (bs : List D) (u : Nat) : Vs := (Str.ofString "name", .own (.str (nmU u))) :: (Str.ofString "unknown", .own (.int (u : Nat))) :: kE t L Tw Ba rs its bs
theorem its_succ {rs : List Rw} (h4 : rs.length = 4) {u : Nat} (hu : u < 2) : itsU rs (u + 1) = stepF rs u (nmU u) (itsU rs u) := by
  match u, hu with
  | 0, _ => show its1 rs = _; unfold its1; rw [h4]; rfl
  | 1, _ => rfl
theorem news_len (rs : List Rw) (u : Nat) (sel : List (List Int)) : ∀ ls : List (List Int), (newsF rs u sel ls).length ≤ ls.length * sel.length
  | [] => by simp [newsF]
  | l :: r => by
    have h := news_len rs u sel r
    unfold newsF at h ⊢
    rw [List.flatMap_cons, List.length_append, List.length_cons, Nat.succ_mul]
    have : (innerF rs u l sel).length ≤ sel.length := by unfold innerF; rw [List.length_map]; exact List.length_filter_le _ _
    omega
theorem news_snoc (rs : List Rw) (u : Nat) (sel ls : List (List Int)) (l : List Int) : newsF rs u sel (ls ++ [l]) = newsF rs u sel ls ++ innerF rs u l sel := by
  unfold newsF; rw [List.flatMap_append]; simp
theorem inner_snoc (rs : List Rw) (u : Nat) (l : List Int) (hs : List (List Int)) (h : List Int) : innerF rs u l (hs ++ [h]) = innerF rs u l hs ++ (if meetF rs u l h then [layI (combF rs u l h) ((u : Int) + 2)] else []) := by
  unfold innerF
  rw [List.filter_append, List.map_append]
  congr 1
  rw [List.filter_cons]
  split <;> rfl
theorem good_news {rs : List Rw} {u : Nat} {nm : Str} {its : List It} (P : PhaseOk rs u nm its) {ls hs : List (List Int)} (h1 : ∀ l ∈ ls, l ∈ selF rs nm its) (h2 : ∀ h ∈ hs, h ∈ selF rs nm its) : ∀ l ∈ ls, GoodI (innerF rs u l hs) := by
  intro l hl m hm
  unfold innerF at hm
  obtain ⟨h, hh, e⟩ := List.mem_map.mp hm
  obtain ⟨hh1, hh2⟩ := List.mem_filter.mp hh
  exact layI_good (P.comb l (h1 l hl) h (h2 h hh1) hh2).1 m (by rw [e]; exact List.mem_cons_self)
theorem good_all {rs : List Rw} {u : Nat} {nm : Str} {its : List It} (P : PhaseOk rs u nm its) {ls : List (List Int)} (h1 : ∀ l ∈ ls, l ∈ selF rs nm its) : GoodI (its ++ newsF rs u (selF rs nm its) ls) := by
  refine P.good.app fun m hm => ?_
  unfold newsF at hm
  obtain ⟨l, hl, hm⟩ := List.mem_flatMap.mp hm
  exact good_news P h1 (fun h q => q) l hl m hm
noncomputable def bucketD (rs : List Rw) (u : Nat) : D := .lst ((selF rs (nmU u) (itsU rs u)).map (fdD rs))
noncomputable def elimD (rs : List Rw) : D := .tup [.lst ((selF rs "1" (its2 rs)).map (fdD rs)), .lst [bucketD rs 0, bucketD rs 1]]
theorem at_last {α : Type} (l : List α) (x : α) : at? (l ++ [x]) (-1) = some x := by
  unfold at?
  rw [if_neg (by decide), if_pos (by rw [List.length_append, List.length_singleton]; omega)]
  have e : (-1 + ((l ++ [x]).length : Int)).toNat = l.length := by
    rw [List.length_append, List.length_singleton]; omega
  rw [e, List.getElem?_append_right (Nat.le_refl _), Nat.sub_self]
  rfl
theorem at_row (r : Rw) {u : Nat} (hu : u < 2) : at? [D.int r.a, .int r.b, .int r.c, .bool r.s] (u : Nat) = some (.int (r.at u)) := by
  match u, hu with
  | 0, _ => rfl
  | 1, _ => rfl
theorem nm_up {u : Nat} (hu : u < 2) : Txt.lower (Txt.upper (nmU u)) = nmU u ∧ Txt.lower (nmU u) = nmU u ∧ LowOk (Txt.upper (nmU u)) ∧ LowOk (nmU u) ∧ Clean (nmU u) ∧ (Str.ofString "0" == nmU u) = false ∧ Builtin.Str.tooLong (Txt.upper (nmU u)).length = false := by
  have fit : ∀ x : Str, x.length ≤ 100 → Builtin.Str.tooLong x.length = false := fun x h => by
    have := sl (k := 100) (by decide)
    show decide (_ > sizeLine) = false
    rw [decide_eq_false (by first | exact Nat.le_trans (by assumption) (by decide) | omega)]
  have cl : ∀ x : Str, x.cps.toList.all (fun c => decide (32 ≤ c) && decide (c ≠ 127)) = true → Clean x := fun x h c hc => by simpa using List.all_eq_true.mp h c hc
  match u, hu with
  | 0, _ =>
    have k : Txt.lower (Txt.upper (Str.ofString "x")) = Str.ofString "x" ∧ Txt.lower (Str.ofString "x") = Str.ofString "x" ∧ (Str.ofString "0" == Str.ofString "x") = false ∧ (Txt.upper (Str.ofString "x")).length ≤ 100 ∧ (Str.ofString "x").length ≤ 100 ∧ (Str.ofString "x").cps.toList.all (fun c => decide (32 ≤ c) && decide (c ≠ 127)) = true := by decide +kernel
    obtain ⟨k1, k2, k3, k4, k5, k6⟩ := k
    exact ⟨k1, k2, by unfold LowOk; show Builtin.Str.tooLong (Txt.lower (Txt.upper (Str.ofString "x"))).length = false; rw [k1]; exact fit _ k5, by unfold LowOk; show Builtin.Str.tooLong (Txt.lower (Str.ofString "x")).length = false; rw [k2]; exact fit _ k5, cl _ k6, k3, fit _ k4⟩
  | 1, _ =>
    have k : Txt.lower (Txt.upper (Str.ofString "y")) = Str.ofString "y" ∧ Txt.lower (Str.ofString "y") = Str.ofString "y" ∧ (Str.ofString "0" == Str.ofString "y") = false ∧ (Txt.upper (Str.ofString "y")).length ≤ 100 ∧ (Str.ofString "y").length ≤ 100 ∧ (Str.ofString "y").cps.toList.all (fun c => decide (32 ≤ c) && decide (c ≠ 127)) = true := by decide +kernel
    obtain ⟨k1, k2, k3, k4, k5, k6⟩ := k
    exact ⟨k1, k2, by unfold LowOk; show Builtin.Str.tooLong (Txt.lower (Txt.upper (Str.ofString "y"))).length = false; rw [k1]; exact fit _ k5, by unfold LowOk; show Builtin.Str.tooLong (Txt.lower (Str.ofString "y")).length = false; rw [k2]; exact fit _ k5, cl _ k6, k3, fit _ k4⟩
section
variable {w : World} {n : Nat} {G : Gd} {X Z Z' : Addr → Prop} {env : Env} {sc : Scope} {ρ ρ' : Vs} {H : Heap} {Y : Addr → Prop} {A : Around} {E : Value → Shared → Prop} {s s₀ : Shared} {h h' : Heap} {t dt L Tw Ba : Addr} {ot od : Obj}
theorem spec_eliminated {rs : List Rw} (h4 : rs.length = 4) (P0 : PhaseOk rs 0 (Str.ofString "x") (its0 4)) (P1 : PhaseOk rs 1 (Str.ofString "y") (its1 rs)) (P2 : GoodI (its2 rs)) (hl2 : (its2 rs).length ≤ 1000) : Spec w (n + 7) 264 [.lst (rs.map rwD)] (elimD rs) := by
  refine spec_of (names := ["rows"]) rfl rfl rfl rfl rfl rfl rfl rfl rfl rfl rfl (fun v => by show _ = some _; kernel_rfl) (by decide) (by decide +kernel) rfl ?_
  intro X A env s s₀ H hA c F
  refine st_seq (st_start (n := n + 4) F hA rfl rfl rfl rfl rfl rfl fun t dt L Tw Ba ot od s1 c1 F O hXB => ?_)
  have F := F.lessL (κ := kE t L Tw Ba rs [] []) (looks (by rfl))
  have e4 : ∀ {X' : Addr → Prop} {env' : Env} {sc' : Scope} {ρ' : List (Str × Bool × D)} {pn px pos : Pos} {bb : Bool}, ρ'.lookup (Str.ofString "rows") = some (bb, .lst (rs.map rwD)) → sc'.names.lookup (Str.ofString "len") = some .globalImplicit → Ev w (n + 6) X' env' sc' ρ' false (.Call (.Name (Str.ofString "len") pn) [.Name (Str.ofString "rows") px] [] pos) (.int (4 : Nat)) := by
    intro X' env' sc' ρ' pn px pos bb hr hl
    exact Ev.cast (ev_call hl g_len (.inr (.inl ⟨_, rfl⟩)) (.cons (ev_name (b := false) hr) rfl .nil) (op_len (sl (by rw [List.length_map]; omega)))) (by rw [List.length_map, h4])
  -- the first headers
  refine st_seq (st_forKG (ds := upTo 4) (fun i κ => κ = kE t L Tw Ba rs ((its0 4).take i) []) (fun _ => False) F hA rfl rfl (evit_range (e4 rfl rfl) rfl g_range (by decide)) rfl (looks (by rfl)) ?_ ?_ (fun _ _ _ q => q.elim))
  · rintro i d κ Z₁ G₁ s2 Qt hQ hG hd rfl c2 F
    obtain ⟨hi, rfl⟩ := upTo_get hd
    have ht : (its0 4).take (i + 1) = (its0 4).take i ++ [.r (unitF 4 i)] := take_succ_of (by
      unfold its0
      rw [List.getElem?_map, List.getElem?_range hi]; rfl)
    have hu := unit_ok ⟨i, hi⟩
    have hly : layF rs (unitF 4 i) (mkN (unitF 4 i)) 1 = itH rs (.r (unitF 4 i)) := by
      rw [layI_eq (fun z => by rw [hu.2] at z; cases z)]
      unfold layI
      rw [hu.2]; rfl
    refine st_seq (st_lay (n := n + 2) (tb := ((its0 4).take i).map (itH rs)) (m := unitF 4 i) (most := 1) F ⟨rfl, rfl, rfl, rfl, O, hG _ _ (.inl ⟨rfl, rfl⟩), hG _ _ (.inr ⟨rfl, rfl⟩)⟩ hA rfl rfl (Ev.cast (ev_lc0 (l := List.range 4) (g := fun k => .int (k : Nat)) (f := fun k : Nat => .int (if ((k : Int) == (i : Int)) then 1 else 0)) (by kernel_rfl) (evit_range (e4 rfl rfl) rfl g_range (by decide)) (fun k hk X' env' => ev_call rfl g_int (.inr (.inr ⟨_, rfl⟩)) (.cons (ev_cmp (ev_name rfl) (ev_name rfl) op_eq) rfl .nil) op_intb) (sl (by decide))) ?_) ev_int rfl (by first | exact Nat.le_trans (by assumption) (by decide) | omega) hu.1 (by rw [List.length_map, List.length_take]; omega) fun s3 c3 F => ?_)
    · unfold unitF; rw [List.map_map]; rfl
    refine st_nil (hQ .next _ ⟨_, _, _, rfl, ⟨?_, ?_, rfl, rfl, rfl, trivial⟩, c2.trans c3, F⟩)
    · show some (Bd.grow Tw _) = some (Bd.grow Tw _)
      rw [hly, hds_snoc, ← ht]
    · show some (Bd.grow L _) = some (Bd.grow L _)
      rw [hly, hds_snoc, ← ht]
  · rintro κ Z₁ s2 rfl c2 F
    refine st_nil ?_
    have hall : (its0 4).take (upTo 4).length = its0 4 := by rw [upTo_length]; rfl
    rw [hall] at F
    -- both unknowns
    have exy : enumD 0 (signD (Str.ofString "xy")) = (List.range 2).map fun u => .tup [.int (u : Nat), .str (nmU u)] := by
      show enumD 0 (signD (Str.ofString "xy")) = [.tup [.int ((0 : Nat) : Int), .str (Str.ofString "x")], .tup [.int ((1 : Nat) : Int), .str (Str.ofString "y")]]
      rw [show Str.ofString "xy" = ⟨#[120, 121]⟩ from by decide +kernel, show Str.ofString "x" = ⟨#[120]⟩ from by decide +kernel, show Str.ofString "y" = ⟨#[121]⟩ from by decide +kernel]
      rfl
    refine st_seq (st_forKG (fun u κ => ∃ Tw, κ = kE t L Tw Ba rs (itsU rs u) ((List.range u).map (bucketD rs))) (fun _ => False) F hA rfl rfl ((evit_enum_str ev_str rfl g_enumerate (by decide +kernel)).cast exy) ⟨Tw, rfl⟩ (looks (by rfl)) ?_ ?_ (fun _ _ _ q => q.elim))
    · rintro u d κ Z₂ G₂ s3 Qt hQ hG hd ⟨Tw, rfl⟩ c3 F
      obtain ⟨u', hu', rfl⟩ := map_at hd
      have hu : u < 2 := by have := (List.getElem?_eq_some_iff.mp hu').1; simpa using this
      rw [List.getElem?_range hu] at hu'
      cases hu'
      have P : PhaseOk rs u (nmU u) (itsU rs u) := by
        match u, hu with
        | 0, _ => exact P0
        | 1, _ => exact P1
      obtain ⟨n1, n2, n3, n4, n5, n6, n7⟩ := nm_up hu
      have hGt : G₂.P t ot ∧ G₂.P dt od := ⟨hG _ _ (.inl ⟨rfl, rfl⟩), hG _ _ (.inr ⟨rfl, rfl⟩)⟩
      have hlen : ((itsU rs u).map (itH rs)).length ≤ 1000 := by rw [List.length_map]; have := P.size; omega
      have hit := item_ok (rs := rs) P.good
      have hbl : ((List.range u).map (bucketD rs)).length ≤ 1000 := by rw [List.length_map, List.length_range]; omega
      have hfit : (fun p : Hr => Txt.lower p.1 == Txt.lower (Txt.upper (nmU u))) = fun p : Hr => Txt.lower p.1 == nmU u := by rw [n1]
      refine st_seq (st_append_run (d := bucketD rs u) F rfl (run_gathered (n := n + 1) (tb := (itsU rs u).map (itH rs)) (ms := selF rs (nmU u) (itsU rs u)) (name := Txt.upper (nmU u)) F ⟨rfl, rfl, rfl, rfl, O, hGt.1, hGt.2⟩ hA rfl rfl (ev_upper (ev_name rfl) n7) rfl hlen (by first | exact Nat.le_trans (by assumption) (by decide) | omega) (fun p hp => (hit p hp).1) (fun p hp => (hit p hp).2) n3 (by rw [n1]; exact n5) (by rw [hfit]; exact sel_eq n6 _) (fun m hm => P.good m (sel_mem hm).1)) (sl (Nat.le_trans hbl (by decide))) fun s4 c4 F => ?_)
      have F := F.lessL (κ := kN t L Tw Ba rs (itsU rs u) ((List.range u).map (bucketD rs) ++ [bucketD rs u]) u) (looks (by rfl))
      refine st_seq (st_if (v := false) F hA rfl (evt_cmp (ev_item (k := -1) (d := bucketD rs u) (ev_name rfl) (ev_neg ev_int) (at_last _ _)) ev_none op_is_none) fun s5 c5 F => ?_)
      refine st_nil ?_
      generalize hsel : selF rs (nmU u) (itsU rs u) = sel
      have hbu : bucketD rs u = .lst (sel.map (fdD rs)) := by unfold bucketD; rw [hsel]
      have hgs : ∀ m ∈ sel, GoodM m := fun m hm => P.good m (sel_mem (hsel ▸ hm)).1
      have hszs : (itsU rs u).length + sel.length * sel.length ≤ 1000 := hsel ▸ P.size
      have hss : sel.length ≤ 1000 := by
        by_cases z : sel.length = 0
        · omega
        · have := Nat.le_mul_of_pos_left sel.length (Nat.pos_of_ne_zero z); omega
      rw [hbu] at F
      have fits : ∀ d ∈ sel.map (fdD rs), ∃ d1 d2, d = D.tup [d1, d2] := fun d hd => by
        obtain ⟨m, _, rfl⟩ := List.mem_map.mp hd
        exact ⟨_, _, rfl⟩
      have F := F.lessL (κ := kN t L Tw Ba rs (itsU rs u ++ newsF rs u sel (sel.take 0)) ((List.range u).map (bucketD rs) ++ [.lst (sel.map (fdD rs))]) u) ⟨rfl, rfl, by
        show some (Bd.grow Tw (hdsD rs (itsU rs u))) = some (Bd.grow Tw (hdsD rs (itsU rs u ++ [])))
        rw [List.append_nil], by
        show some (Bd.grow L (hdsD rs (itsU rs u))) = some (Bd.grow L (hdsD rs (itsU rs u ++ [])))
        rw [List.append_nil], rfl, rfl, rfl, trivial⟩
      refine st_seq (st_forKG (ds := sel.map (fdD rs)) (κ₀ := kN t L Tw Ba rs (itsU rs u ++ newsF rs u sel (sel.take 0)) ((List.range u).map (bucketD rs) ++ [.lst (sel.map (fdD rs))]) u) (fun i κ => κ = kN t L Tw Ba rs (itsU rs u ++ newsF rs u sel (sel.take i)) ((List.range u).map (bucketD rs) ++ [.lst (sel.map (fdD rs))]) u) (fun _ => False) F hA rfl rfl (evit_old (evo_item (k := -1) (evo_name rfl) (ev_neg ev_int) (at_last _ _)) fits) rfl (looks (by rfl)) ?_ ?_ (fun _ _ _ q => q.elim))
      · rintro i d κ Z₃ G₃ s6 Qt hQ hG3 hd rfl c6 F
        obtain ⟨lo, hlo, rfl⟩ := map_at hd
        have hi := (List.getElem?_eq_some_iff.mp hlo).1
        have hlom := List.mem_of_getElem? hlo
        generalize hbs : ((List.range u).map (bucketD rs) ++ [D.lst (sel.map (fdD rs))]) = bs at F hQ
        generalize hib : itsU rs u ++ newsF rs u sel (sel.take i) = ib at F
        have hibl : ib.length + sel.length ≤ 1000 := by
          rw [← hib, List.length_append]
          have := news_len rs u sel (sel.take i)
          have h2 : (sel.take i).length * sel.length + sel.length ≤ sel.length * sel.length := by
            rw [← Nat.succ_mul]
            exact Nat.mul_le_mul_right _ (by rw [List.length_take]; omega)
          omega
        have F := F.lessL (κ := (Str.ofString "down", .own (rwD (totF rs lo))) :: (Str.ofString "low", .own (.lst (lo.map .int))) :: kN t L Tw Ba rs (ib ++ innerF rs u lo (sel.take 0)) bs u) ⟨rfl, rfl, rfl, rfl, by
          show some (Bd.grow Tw (hdsD rs ib)) = some (Bd.grow Tw (hdsD rs (ib ++ [])))
          rw [List.append_nil], by
          show some (Bd.grow L (hdsD rs ib)) = some (Bd.grow L (hdsD rs (ib ++ [])))
          rw [List.append_nil], rfl, rfl, rfl, trivial⟩
        refine st_seq (st_forKG (ds := sel.map (fdD rs)) (κ₀ := (Str.ofString "down", .own (rwD (totF rs lo))) :: (Str.ofString "low", .own (.lst (lo.map .int))) :: kN t L Tw Ba rs (ib ++ innerF rs u lo (sel.take 0)) bs u) (fun j κ => κ = (Str.ofString "down", .own (rwD (totF rs lo))) :: (Str.ofString "low", .own (.lst (lo.map .int))) :: kN t L Tw Ba rs (ib ++ innerF rs u lo (sel.take j)) bs u) (fun _ => False) F hA rfl rfl (evit_old (evo_item (k := -1) (evo_name rfl) (ev_neg ev_int) (by rw [← hbs]; exact at_last _ _)) fits) rfl (looks (by rfl)) ?_ ?_ (fun _ _ _ q => q.elim))
        · rintro j d κ Z₄ G₄ s7 Qt hQ hG4 hd rfl c7 F
          obtain ⟨hi', hhi, rfl⟩ := map_at hd
          have hhim := List.mem_of_getElem? hhi
          have hj := (List.getElem?_eq_some_iff.mp hhi).1
          have hGt4 : G₄.P t ot ∧ G₄.P dt od := ⟨hG4 _ _ (hG3 _ _ hGt.1), hG4 _ _ (hG3 _ _ hGt.2)⟩
          have hil : (ib ++ innerF rs u lo (sel.take j)).length ≤ 1000 := by
            rw [List.length_append]
            have : (innerF rs u lo (sel.take j)).length ≤ sel.length := by
              unfold innerF; rw [List.length_map]
              refine Nat.le_trans (List.length_filter_le _ _) ?_
              rw [List.length_take]; omega
            omega
          have hug : -(2 ^ 63) ≤ ((u : Nat) : Int) ∧ ((u : Nat) : Int) < 2 ^ 63 := by omega
          have m60 : ∀ {m : List Int} {x : Int}, GoodM m → x ∈ m → x.natAbs < 2 ^ 60 := fun {m x} hm hx => by have := hm.rng x hx; omega
          refine st_seq (st_if (v := meetF rs u lo hi') F hA rfl (EvT.cast (evt_chain (ev_item (k := (u : Nat)) (ev_name rfl) (ev_name rfl) (at_row _ hu) hug.1 hug.2) ev_int (ev_item (k := (u : Nat)) (ev_name rfl) (ev_name rfl) (at_row _ hu) hug.1 hug.2) op_lt op_lt) rfl) fun s8 c8 F => ?_)
          have tk1 : innerF rs u lo (sel.take (j + 1)) = innerF rs u lo (sel.take j) ++ (if meetF rs u lo hi' then [layI (combF rs u lo hi') ((u : Int) + 2)] else []) := by
            rw [take_succ_of hhi, inner_snoc]
          cases hmt : meetF rs u lo hi' with
          | false =>
            rw [if_neg (by simp)]
            rw [hmt, if_neg (by simp), List.append_nil] at tk1
            refine st_nil (st_nil (hQ .next _ ⟨_, _, _, rfl, ⟨rfl, rfl, rfl, rfl, ?_, ?_, rfl, rfl, rfl, trivial⟩, c7.trans c8, F⟩))
            · rw [tk1]; rfl
            · rw [tk1]; rfl
          | true =>
            rw [if_pos rfl]
            rw [hmt, if_pos rfl] at tk1
            obtain ⟨gm, gf⟩ := P.comb lo (by rw [hsel]; exact hlom) hi' (by rw [hsel]; exact hhim) hmt
            have hlz : (lo.zip hi').length ≤ 4 := by rw [List.length_zip]; have := (hgs lo hlom).len; omega
            refine st_seq (st_lay (n := n + 2) (tb := (ib ++ innerF rs u lo (sel.take j)).map (itH rs)) (m := combF rs u lo hi') (most := (u : Int) + 2) F ⟨rfl, rfl, rfl, rfl, O, hGt4.1, hGt4.2⟩ hA rfl rfl (Ev.cast (ev_lc0 (l := lo.zip hi') (g := fun p => .tup [.int p.1, .int p.2]) (f := fun p => .int (p.1 * (totF rs hi').at u - p.2 * (totF rs lo).at u)) (by kernel_rfl) ((evit_zip (evs_old (evo_name rfl)) (evs_old (evo_name rfl)) rfl g_zip).cast (zipD_map _ _ _ _)) (fun p hp X' env' => ?_) (sl (by first | exact Nat.le_trans (by assumption) (by decide) | omega))) ?_) (ev_bin (ev_name rfl) ev_int op_add) rfl (by first | exact Nat.le_trans (by assumption) (by decide) | omega) gm (by rw [List.length_map]; exact hil) fun s9 c9 F => ?_)
            · obtain ⟨hp1, hp2⟩ := List.of_mem_zip hp
              exact ev_bin (ev_bin (ev_name rfl) (ev_item (k := (u : Nat)) (ev_name rfl) (ev_name rfl) (at_row _ hu) hug.1 hug.2) (op_mul (muls (m60 (hgs lo hlom) hp1)))) (ev_bin (ev_name rfl) (ev_item (k := (u : Nat)) (ev_name rfl) (ev_name rfl) (at_row _ hu) hug.1 hug.2) (op_mul (muls (m60 (hgs hi' hhim) hp2)))) op_sub
            · unfold combF; rw [List.map_map]; rfl
            have e9 : layF rs (combF rs u lo hi') (mkN (combF rs u lo hi')) ((u : Int) + 2) = itH rs (layI (combF rs u lo hi') ((u : Int) + 2)) := layI_eq gf
            rw [e9, hds_snoc, List.append_assoc, ← tk1] at F
            exact st_nil (st_nil (hQ .next _ ⟨_, _, _, rfl, (looks (by rfl)), (c7.trans c8).trans c9, F⟩))
        · rintro κ Z₄ s7 rfl c7 F
          refine st_nil ?_
          refine st_nil (hQ .next _ ⟨_, _, _, rfl, ⟨rfl, rfl, ?_, ?_, rfl, rfl, rfl, trivial⟩, c6.trans c7, F⟩)
          · show some (Bd.grow Tw (hdsD rs (ib ++ innerF rs u lo (sel.take _)))) = some (Bd.grow Tw _)
            rw [List.length_map, List.take_length, take_succ_of hlo, news_snoc, ← List.append_assoc, hib]
          · show some (Bd.grow L (hdsD rs (ib ++ innerF rs u lo (sel.take _)))) = some (Bd.grow L _)
            rw [List.length_map, List.take_length, take_succ_of hlo, news_snoc, ← List.append_assoc, hib]
      · rintro κ Z₃ s6 rfl c6 F
        refine st_nil ?_
        rw [List.length_map, List.take_length] at F
        have hga : GoodI (itsU rs u ++ newsF rs u sel sel) := by have := good_all P (ls := sel) (fun l q => by rw [hsel]; exact q); rwa [hsel] at this
        have hit2 := item_ok (rs := rs) hga
        have hal : ((itsU rs u ++ newsF rs u sel sel).map (itH rs)).length ≤ 1000 := by
          rw [List.length_map, List.length_append]
          have := news_len rs u sel sel
          omega
        have hlow : LowOk (nmU u) := n4
        refine st_seq (st_del (n := n + 4) (rs := rs) (tb := (itsU rs u ++ newsF rs u sel sel).map (itH rs)) (x := nmU u) F ⟨rfl, rfl, rfl, rfl, O, hGt.1, hGt.2⟩ hA rfl rfl hal (fun p hp => (hit2 p hp).1) hlow (by rw [n2]; exact n5) fun s7 c7 F => ?_)
        have hlf : leftF ((itsU rs u ++ newsF rs u sel sel).map (itH rs)) (nmU u) = (itsU rs (u + 1)).map (itH rs) := by
          unfold leftF
          rw [n2, rest_eq, its_succ h4 hu]
          unfold stepF
          rw [hsel]
        refine st_seq (st_assign_compN (l := (itsU rs u ++ newsF rs u sel sel).map (itH rs)) (g := hdrD) (p := fun p => Txt.lower p.1 != nmU u) (f := hdrD) F hA rfl rfl (compText_of (by kernel_rfl)) (evit_old (evo_name rfl) trivial) (fun p hp X' env' => ⟨evt_cmp (ev_lower (ev_titem (ev_name rfl) ev_int rfl) (hit2 p hp).1) (ev_name rfl) op_nes, fun _ => ev_name rfl⟩) (sl (by first | exact Nat.le_trans (by assumption) (by decide) | omega)) rfl rfl (fun Tw' s8 c8 F => ?_))
        have hlf' : ((itsU rs u ++ newsF rs u sel sel).map (itH rs)).filter (fun p => Txt.lower p.1 != nmU u) = (itsU rs (u + 1)).map (itH rs) := by
          rw [rest_eq, its_succ h4 hu]
          unfold stepF
          rw [hsel]
        rw [hlf, hlf'] at F
        have hrg : (List.range (u + 1)).map (bucketD rs) = (List.range u).map (bucketD rs) ++ [.lst (sel.map (fdD rs))] := by
          rw [List.range_succ, List.map_append, ← hbu]; rfl
        refine st_nil (hQ .next _ ⟨_, _, _, ⟨Tw', rfl⟩, ⟨rfl, rfl, rfl, rfl, by rw [hrg]; rfl, trivial⟩, ((c3.trans c4).trans (c5.trans c6)).trans (c7.trans c8), F⟩)
    · rintro κ Z₂ s3 ⟨Tw, rfl⟩ c3 F
      refine st_nil ?_
      have F := F.lessL (κ := kE t L Tw Ba rs (its2 rs) [bucketD rs 0, bucketD rs 1]) (looks (by rfl))
      have hGt : (gT t dt ot od).P t ot ∧ (gT t dt ot od).P dt od := ⟨.inl ⟨rfl, rfl⟩, .inr ⟨rfl, rfl⟩⟩
      have hit := item_ok (rs := rs) P2
      have hlen : ((its2 rs).map (itH rs)).length ≤ 1000 := by rw [List.length_map]; exact hl2
      obtain ⟨gz1, gz2⟩ := got_zero rs (its2 rs)
      refine st_seq (st_assign_comp (l := (its2 rs).map (itH rs)) (g := hdrD) (p := fun p => p.1 == Str.ofString "0") (f := fun p => .str p.1) F hA rfl rfl (compText_of (by kernel_rfl)) (evit_old (evo_name rfl) ?_) (fun p hp X' env' => ⟨evt_cmp (ev_name rfl) ev_str op_eqs, fun _ => ev_name rfl⟩) (sl (by first | exact Nat.le_trans (by assumption) (by decide) | omega)) rfl rfl (fun s4 c4 F => ?_))
      · intro d hd
        obtain ⟨p, _, rfl⟩ := List.mem_map.mp hd
        exact ⟨_, _, rfl⟩
      have hcnt : ((its2 rs).filter It.isO).length ≤ 1000 := Nat.le_trans (List.length_filter_le _ _) hl2
      have l0 : LowOk (Str.ofString "0") := (low_ok _ (by simp)).1
      have cl0 : Clean (Txt.lower (Str.ofString "0")) := by
        rw [low_names.2.2.2.2.2]
        have : (Str.ofString "0").cps.toList.all (fun c => decide (32 ≤ c) && decide (c ≠ 127)) = true := by decide +kernel
        exact fun c hc => by simpa using List.all_eq_true.mp this c hc
      have t15 : Str.ofString "OPTIMIZED, NEWLOCALS, VARARGS, VARKEYWORDS" = told 15 := by decide +kernel
      refine st_seq (st_if_run (v := false) F (wpAny_isTrue_Compare1 (run_tab F hA rfl rfl O (F.prot t ot hGt.1).1 (F.prot dt od hGt.2).1 (f := 121) (by kernel_rfl) rfl rfl (by decide) (by rw [typeLookup_type, builtinLookup_eq_fast]; kernel_rfl) (by kernel_rfl) (.cons ev_str rfl .nil) fun vs s5 r k5 => ?_)) fun s5 c5 F => ?_)
      · obtain ⟨v1, rfl, r1, o1⟩ := r.one_inv
        obtain ⟨tk1, rfl⟩ := r1.str_inv
        have F5 := F.told k5
        obtain ⟨zL, lvs, hl5, hr5⟩ := grow_at F5 (x := star) rfl
        refine codeAny_mono (spec_get_all (n := n + 4) (rows := (its2 rs).map (itH rs)) (L := L) (X := XZ X Z₂) hA F5.base F5.low O (F5.prot t ot hGt.1).1 (F5.prot dt od hGt.2).1 (.lst hl5 hr5) (by first | exact Nat.le_trans (by assumption) (by decide) | omega) (fun p hp => (hit p hp).1) l0 cl0) fun r s6 q => ?_
        obtain ⟨v1, rfl, r6, o6, k6⟩ := q
        refine ⟨v1, rfl, ?_⟩
        have F6 := F5.told k6
        have C6 := F6.cx rfl
        have hol : ((((its2 rs).map (itH rs)).filter fun p : Hr => p.1 == Str.ofString "0").map fun p : Hr => D.str p.1).length = ((its2 rs).filter It.isO).length := by rw [List.length_map]; exact gz2
        have hright : ∀ {p1 p2 p3 p4 p5 p6 : Pos} {k : Nat}, Ev w (n + 6) (XZ X Z₂) env (fS (stm 74)) (seen ((Str.ofString "out", Bd.own (.lst ((((its2 rs).map (itH rs)).filter fun p : Hr => p.1 == Str.ofString "0").map fun p : Hr => D.str p.1))) :: kE t L Tw Ba rs (its2 rs) [bucketD rs 0, bucketD rs 1])) false (.BinOp (.List [.Constant (.str (Str.ofString "OPTIMIZED, NEWLOCALS, VARARGS, VARKEYWORDS")) k p1] p2) .Mult (.Call (.Name (Str.ofString "len") p3) [.Name (Str.ofString "out") p4] [] p5) p6) (.lst (List.replicate ((its2 rs).filter It.isO).length (.str (told 15)))) := fun {p1 p2 p3 p4 p5 p6 k} =>
          Ev.cast (ev_bin (ev_list (.cons ev_str rfl .nil) (sl (Nat.le_of_ble_eq_true rfl))) (ev_call rfl g_len (.inr (.inl ⟨_, rfl⟩)) (.cons (ev_name rfl) rfl .nil) (op_len (sl (Nat.le_trans (Nat.le_of_eq hol) (by first | exact Nat.le_trans (by assumption) (by decide) | omega))))) (op_mull (Int.natCast_nonneg _) (Int.ofNat_le.mpr (Nat.le_trans (Nat.le_of_eq hol) hcnt)))) (by rw [hol, Int.toNat_natCast, t15])
        refine wpAny_mono (hright _ s6 _ hA C6) (fun v2 s7 q => ?_) fun _ _ x => x
        obtain ⟨r7, _, k7⟩ := q
        have hd : D.lst ((gotF ((its2 rs).map (itH rs)) (Str.ofString "0")).map .str) = .lst (List.replicate ((its2 rs).filter It.isO).length (.str (told 15))) := by
          rw [gz1, List.map_replicate]
        rw [hd] at r6
        have okk : okD 8 (D.lst (List.replicate ((its2 rs).filter It.isO).length (.str (told 15)))) = true := by
          show (List.replicate _ (D.str (told 15))).all (okD 7) = true
          rw [List.all_eq_true]
          intro d hd
          rw [(List.mem_replicate.mp hd).2]
          show PyData.strOk (told 15) = true
          decide +kernel
        have F7 := F6.told k7
        refine wpAny_mono ((op_ne_same (n := n + 5) (b := true) okk) _ s7 _ v1 v2 hA F7.base F7.low (r6.ext (keeps_ext k7)) r7) (fun v3 s8 q => ?_) fun _ _ x => x
        obtain ⟨r8, _, k8⟩ := q
        cases r8
        exact wpAny_truthy_bool ⟨rfl, keeps_trans k5 (keeps_trans k6 (keeps_trans k7 k8))⟩
      refine st_nil ?_
      have F := F.lessL (κ := kE t L Tw Ba rs (its2 rs) [bucketD rs 0, bucketD rs 1]) (looks (by rfl))
      have F := F.freeze (x := Str.ofString "buckets") rfl hXB
      have l1 : LowOk (Str.ofString "1") := (low_ok _ (by simp)).1
      have low1 := low_names.2.2.2.2.1
      have cl1 : Clean (Txt.lower (Str.ofString "1")) := by
        rw [low1]
        have : (Str.ofString "1").cps.toList.all (fun c => decide (32 ≤ c) && decide (c ≠ 127)) = true := by decide +kernel
        exact fun c hc => by simpa using List.all_eq_true.mp this c hc
      refine st_seq (wpAny_Return_some (wpAny_Tuple (wpAny_items_cons (wpAny_mono (run_gathered (n := n + 1) (tb := (its2 rs).map (itH rs)) (ms := selF rs (Str.ofString "1") (its2 rs)) (name := Str.ofString "1") F ⟨rfl, rfl, rfl, rfl, O, hGt.1, hGt.2⟩ hA rfl rfl ev_str rfl hlen (by first | exact Nat.le_trans (by assumption) (by decide) | omega) (fun p hp => (hit p hp).1) (fun p hp => (hit p hp).2) l1 cl1 (by rw [low1]; exact sel_eq (by decide +kernel) _) (fun m hm => P2 m (sel_mem hm).1)) (fun v1 s6 q => ?_) fun _ _ x => x) rfl)))
      obtain ⟨r1, o1, k1⟩ := q
      have F6 := F.told k1
      refine wpAny_items_cons (wpAny_mono ((ev_name (b := true) rfl : Ev w (n + 6) _ env _ _ true (.Name (Str.ofString "buckets") _) (.lst [bucketD rs 0, bucketD rs 1])) _ s6 _ hA (F6.cx rfl)) (fun v2 s7 q => wpAny_items_nil ?_) fun _ _ x => x) rfl
      obtain ⟨r2, o2, k2⟩ := q
      have F7 := F6.told k2
      refine ⟨sl (Nat.le_of_ble_eq_true rfl), _, rfl, ?_, Own.fresh (fun a q => F7.low a (.inl q)) (get_size _), ?_, ?_⟩
      · have kp : Ext s7.heap (s7.heap.push { cls := .type "tuple", data := .seq [v1, v2].toArray }) := fun b o e => Heap.get?_push_of_some _ e
        exact .tup ⟨_, Heap.get?_push_size _ rfl, rfl, 0, rfl⟩ (.cons (((r1.ext (keeps_ext k2)).ext kp).weak fun a q => .inl q) (fun a e q => o1 rfl a e (.inl q)) (.cons ((r2.ext kp).weak fun a q => .inl q) (fun a e q => o2 rfl a e (.inl q)) .nil))
      · exact ((c.trans c1).trans (c2.trans c3)).trans (((c4.trans c5).trans ((Chg.of_keeps k1).trans (Chg.of_keeps k2))).trans ⟨_, _, rfl⟩)
      · exact fun b o e => Heap.get?_push_of_some _ (F7.keeps (fun _ z => z) b o e)
end
end Mine

open PySem PySem.W PyProof.Rows PySem.AutoIntOps
set_option Elab.async false
set_option linter.unusedVariables false
set_option linter.unusedSimpArgs false
set_option maxRecDepth 100000
set_option maxHeartbeats 1000000
namespace Mine
/-! # law -/
noncomputable def rwOf (N : Int) : Rw :=
  ⟨if ([20, 29] : List Int).any (· == opt N) then coef N 0 else -coef N 0, if ([20, 29] : List Int).any (· == opt N) then coef N 1 else -coef N 1, if ([20, 29] : List Int).any (· == opt N) then coef N 2 else -coef N 2, decide (opt N < 22)⟩
noncomputable def rwsF (ns : List Int) : List Rw := (nums ns).map rwOf
noncomputable def badP (rs : List Rw) (m : List Int) : Bool := decide (0 < (totF rs m).c) || ((totF rs m).c == 0 && (totF rs m).s)
noncomputable def ps1F (rs : List Rw) : List (Int × Int) := (selF rs (nmU 1) (itsU rs 1)).map fun m => ((totF rs m).b, (totF rs m).c)
noncomputable def ps0F (rs : List Rw) (high below : Int) : List (Int × Int) := (selF rs (nmU 0) (itsU rs 0)).map fun m => ((totF rs m).a, (totF rs m).b * high + (totF rs m).c * below)
noncomputable def worthF (wide high under below : Int) (r : Rw) : Int := r.a * wide + r.b * high * under + r.c * below * under
/-- what is to be shown of the rows, with no program in sight -/
structure Plain (rs : List Rw) : Prop where
  four : rs.length = 4
  ph0 : PhaseOk rs 0 (Str.ofString "x") (its0 4)
  ph1 : PhaseOk rs 1 (Str.ofString "y") (its1 rs)
  good2 : GoodI (its2 rs)
  len2 : (its2 rs).length ≤ 1000
  ok1 : ∀ p ∈ ps1F rs, p.1.natAbs < 2 ^ 30 ∧ p.2.natAbs < 2 ^ 60
  fitH : (placeF (ps1F rs)).natAbs < 2 ^ 55 ∧ (2 * wholeF (ps1F rs)).natAbs < 2 ^ 55
  coefs : ∀ m ∈ selF rs (nmU 0) (itsU rs 0), (totF rs m).b.natAbs < 2 ^ 58 ∧ (totF rs m).c.natAbs < 2 ^ 58
  ok0 : ∀ p ∈ ps0F rs (placeF (ps1F rs)) (2 * wholeF (ps1F rs)), p.1.natAbs < 2 ^ 30 ∧ p.2.natAbs < 2 ^ 60
  rows : ∀ r ∈ rs, r.a.natAbs ≤ 10 ∧ r.b.natAbs ≤ 10 ∧ r.c.natAbs ≤ 10
  fits : (∀ m ∈ selF rs (Str.ofString "1") (its2 rs), badP rs m = false) → ∀ r ∈ rs, (decide (0 < worthF (placeF (ps0F rs (placeF (ps1F rs)) (2 * wholeF (ps1F rs)))) (placeF (ps1F rs)) (2 * wholeF (ps0F rs (placeF (ps1F rs)) (2 * wholeF (ps1F rs)))) (2 * wholeF (ps1F rs)) r) ||
    (worthF (placeF (ps0F rs (placeF (ps1F rs)) (2 * wholeF (ps1F rs)))) (placeF (ps1F rs)) (2 * wholeF (ps0F rs (placeF (ps1F rs)) (2 * wholeF (ps1F rs)))) (2 * wholeF (ps1F rs)) r == 0 && r.s)) = false
section
variable {w : World} {n : Nat} {G : Gd} {X Z Z' : Addr → Prop} {env : Env} {sc : Scope} {ρ ρ' : Vs} {H : Heap} {Y : Addr → Prop} {A : Around} {E : Value → Shared → Prop} {s s₀ : Shared} {h h' : Heap}
/-- x, y = a tuple of two -/
theorem st_untuple {x y : Str} {px py tp pos : Pos} {k : Nat} {e : Expr} {d1 d2 : D} {Q : Flow → Shared → Prop} (F : Fs w G X Z env sc ρ H Y s.heap) (hA : Rm n A) (hc : clean ρ = true) (ht : tgtOk sc (.Tuple [.Name x px, .Name y py] k tp) = true) (he : Ev w n (XZ X Z) env sc (seen ρ) false e (.tup [d1, d2]))
    (h : ∀ s', Chg s s' → Fs w G X Z env sc ((y, .own d2) :: (x, .own d1) :: ρ) H Y s'.heap → Q .next s')
    (hs : swapsWithSole [.Tuple [.Name x px, .Name y py] k tp] e pos.line env = pure false := by rfl) (hw : swappedStores [.Tuple [.Name x px, .Name y py] k tp] e env = pure none := by rfl) :
    wpAny (Md w) A (exec (.Assign [.Tuple [.Name x px, .Name y py] k tp] e pos) env) Q E s := by
  refine Assign_Tuple (wpAny_mono (he A s E hA (F.cx hc)) (fun v s1 q => ?_) fun _ _ x => x) hs hw
  obtain ⟨r, _, k1⟩ := q
  exact fs_target hA.handled (F.told k1) ht ⟨d1, d2, rfl, r⟩ fun s' c F' => h s' ((Chg.of_keeps k1).trans c) F'
theorem g_drawn : GlobIs w (Str.ofString "_law_drawn") (.ref 232) := .inl (by kernel_rfl)
theorem g_read : GlobIs w (Str.ofString "_law_read") (.ref 237) := .inl (by kernel_rfl)
theorem g_eliminated : GlobIs w (Str.ofString "_law_eliminated") (.ref 264) := .inl (by kernel_rfl)
theorem g_chosen : GlobIs w (Str.ofString "_law_chosen") (.ref 269) := .inl (by kernel_rfl)
theorem spec_law {ns : List Int} (hns : ns.length ≤ 1000) (ht : ∀ c ∈ (textD ns).cps.toList, c < 128) (hl : (textD ns).length ≤ 5000) (hread : (readF (textD ns)).map intsD = (nums ns).map drow) (P : Plain (rwsF ns)) : Spec w (n + 9) 274 [.lst (ns.map .int)] (.bool true) := by
  refine spec_of (names := ["script"]) rfl rfl rfl rfl rfl rfl rfl rfl rfl rfl rfl (fun v => by show _ = some _; kernel_rfl) (by decide) (by decide +kernel) rfl ?_
  intro X A env s s₀ H hA c F
  have hn4 : (nums ns).length = 4 := rfl
  refine st_seq (st_untuple F hA rfl rfl (ev_def (spec_drawn (n := n + 6) hns) rfl g_drawn (by kernel_rfl) (.cons (ev_name rfl) rfl .nil)) fun s1 c1 F => ?_)
  refine st_seq (st_assign F hA rfl rfl (Ev.cast (ev_def (spec_read (n := n + 5) ht hl) rfl g_read (by kernel_rfl) (.cons (ev_name rfl) rfl .nil)) (congrArg D.lst hread)) fun s2 c2 F => ?_)
  have okr : okD 8 (rowsD ns) = true := by
    show ((nums ns).map drow).all (okD 7) = true
    rw [List.all_eq_true]
    intro d hd
    obtain ⟨N, _, rfl⟩ := List.mem_map.mp hd
    rfl
  refine st_seq (st_if (v := false) F hA rfl (evt_cmp (d1 := rowsD ns) (d2 := rowsD ns) (ev_name rfl) (ev_name rfl) (op_ne_same okr)) fun s3 c3 F => ?_)
  refine st_nil ?_
  refine st_seq (st_assign_comp (l := nums ns) (g := drow) (p := fun _ => true) (f := fun N => rwD (rwOf N)) F hA rfl rfl (compText_of (by kernel_rfl)) (evit_old (evo_name rfl) trivial) (fun N hN X' env' => ⟨rfl, fun _ => ?_⟩) (sl (by rw [hn4]; decide)) rfl rfl (fun s4 c4 F => ?_))
  · refine Ev.cast (ev_bin (ev_lc0 (l := [coef N 0, coef N 1, coef N 2]) (g := .int) (f := fun x => .int (if ([20, 29] : List Int).any (· == opt N) then x else -x)) (by kernel_rfl) (evit_flat (ds := [coef N 0, coef N 1, coef N 2].map .int) (EvN.ev (evn_cut (ds := [.int (coef N 0), .int (coef N 1), .int (coef N 2), .int (opt N)]) (lo := none) (hi := some 3) (ev_name rfl) trivial ev_int (sl (Nat.le_of_ble_eq_true rfl)))) (flts_ints _)) (fun x hx X'' env'' => ?_) (sl (Nat.le_of_ble_eq_true rfl))) (ev_list (.cons (ev_cmp (ev_item (k := 3) (d := .int (opt N)) (ev_name rfl) ev_int rfl) ev_int op_lt) rfl .nil) (sl (Nat.le_of_ble_eq_true rfl))) (op_addl (sl (Nat.le_of_ble_eq_true rfl)))) ?_
    · refine ev_if (v := ([20, 29] : List Int).any (· == opt N)) (evt_cmp (ev_item (k := 3) (d := .int (opt N)) (ev_name rfl) ev_int rfl) (ev_tuple (ds := ([20, 29] : List Int).map .int) (.cons ev_int rfl (.cons ev_int rfl .nil)) (sl (Nat.le_of_ble_eq_true rfl))) op_in_ints) (fun h => ?_) fun h => ?_
      · rw [h]; exact ev_name rfl
      · rw [h]; exact ev_neg (ev_name rfl)
    · rfl
  have hrw : ((nums ns).filter fun _ => true).map (fun N => rwD (rwOf N)) = (rwsF ns).map rwD := by
    rw [List.filter_eq_self.mpr (fun _ _ => rfl)]
    unfold rwsF; rw [List.map_map]; rfl
  rw [hrw] at F
  generalize rwsF ns = rs at F P
  refine st_seq (st_untuple F hA rfl rfl (ev_def (spec_eliminated (n := n + 1) P.four P.ph0 P.ph1 P.good2 P.len2) rfl g_eliminated (by kernel_rfl) (.cons (ev_name rfl) rfl .nil)) fun s5 c5 F => ?_)
  have F := F.lessL (κ := [(Str.ofString "buckets", .own (.lst [bucketD rs 0, bucketD rs 1])), (Str.ofString "ends", .own (.lst ((selF rs (Str.ofString "1") (its2 rs)).map (fdD rs)))), (Str.ofString "rows", .own (.lst (rs.map rwD)))]) (looks (by rfl))
  refine st_seq (st_if (v := false) F hA rfl (evt_cmp (ev_name rfl) ev_none op_is_none) fun s6 c6 F => ?_)
  refine st_nil ?_
  have fits : ∀ sel : List (List Int), ∀ d ∈ sel.map (fdD rs), ∃ d1 d2, d = D.tup [d1, d2] := fun sel d hd => by
    obtain ⟨m, _, rfl⟩ := List.mem_map.mp hd
    exact ⟨_, _, rfl⟩
  have hE : (selF rs (Str.ofString "1") (its2 rs)).length ≤ 1000 := Nat.le_trans (List.length_filterMap_le _ _) P.len2
  have okE : okD 8 (.lst (((selF rs (Str.ofString "1") (its2 rs)).filter (badP rs)).map fun m => D.lst (m.map .int))) = true := by
    show (List.map _ _).all (okD 7) = true
    rw [List.all_eq_true]
    intro d hd
    obtain ⟨m, _, rfl⟩ := List.mem_map.mp hd
    show (m.map D.int).all (okD 6) = true
    rw [List.all_eq_true]
    intro d hd
    obtain ⟨x, _, rfl⟩ := List.mem_map.mp hd
    rfl
  refine st_seq (st_if F hA rfl (evt_cmp (ev_lc (l := selF rs (Str.ofString "1") (its2 rs)) (g := fdD rs) (p := badP rs) (f := fun m => .lst (m.map .int)) (by kernel_rfl) (evit_old (evo_name rfl) (fits _)) (fun m hm X' env' => ⟨?_, fun _ => ev_name rfl⟩) (sl (by omega))) (ev_list .nil (sl (Nat.le_of_ble_eq_true rfl))) (op_ne_nil okE)) fun s7 c7 F => ?_)
  · exact evt_or (evt_cmp (ev_item (k := 2) (ev_name rfl) ev_int rfl) ev_int op_gt) fun _ => evt_and (evt_cmp (ev_item (k := 2) (ev_name rfl) ev_int rfl) ev_int op_eq) fun _ => evt_val (ev_item (k := 3) (ev_name rfl) ev_int rfl) truthy_bool'
  rw [List.isEmpty_map]
  have cAll := ((c.trans (c1.trans c2)).trans (c3.trans c4)).trans (c5.trans (c6.trans c7))
  by_cases hbad : ¬ ((selF rs (Str.ofString "1") (its2 rs)).filter (badP rs)) = []
  · rw [show (!((selF rs (Str.ofString "1") (its2 rs)).filter (badP rs)).isEmpty) = true by first | exact of_decide_eq_true hbad | exact of_decide_eq_false hbad | exact bne_iff_ne.mp hbad | exact eq_of_beq hbad | simpa using hbad, if_pos rfl]
    exact st_retQ (d := .bool true) F hA rfl cAll (fun _ q => q) ev_bool fun v s' q => q
  have hbad := Classical.not_not.mp hbad
  rw [hbad, if_neg (by simp)]
  refine st_nil ?_
  have hnone : ∀ m ∈ selF rs (Str.ofString "1") (its2 rs), badP rs m = false := fun m hm => by
    cases q : badP rs m with
    | false => rfl
    | true =>
      have : m ∈ (selF rs (Str.ofString "1") (its2 rs)).filter (badP rs) := List.mem_filter.mpr ⟨hm, q⟩
      rw [hbad] at this; cases this
  have fit := P.fits hnone
  have l1 : (selF rs (nmU 1) (itsU rs 1)).length ≤ 1000 := Nat.le_trans (List.length_filterMap_le _ _) (by have := P.ph1.size; exact Nat.le_trans (Nat.le_add_right _ _) this)
  have l0 : (selF rs (nmU 0) (itsU rs 0)).length ≤ 1000 := Nat.le_trans (List.length_filterMap_le _ _) (by show (its0 4).length ≤ 1000; decide)
  have hb0 : bucketD rs 0 = .lst ((selF rs (nmU 0) (itsU rs 0)).map (fdD rs)) := rfl
  have hb1 : bucketD rs 1 = .lst ((selF rs (nmU 1) (itsU rs 1)).map (fdD rs)) := rfl
  rw [hb0, hb1] at F
  have hco := P.coefs
  have ok1 := P.ok1
  have ok0 := P.ok0
  obtain ⟨fh, fb⟩ := P.fitH
  have frs := P.rows
  unfold ps0F at ok0 fit
  unfold ps1F at ok1 ok0 fit fh fb
  generalize selF rs (nmU 0) (itsU rs 0) = S0 at F l0 hco ok0 fit
  generalize selF rs (nmU 1) (itsU rs 1) = S1 at F l1 ok1 ok0 fit fh fb
  refine st_seq (st_untuple (d1 := .int (placeF (S1.map fun m => ((totF rs m).b, (totF rs m).c)))) (d2 := .int (2 * wholeF (S1.map fun m => ((totF rs m).b, (totF rs m).c)))) F hA rfl rfl (ev_def (spec_chosen (n := n + 6) ok1 (by rw [List.length_map]; exact l1)) rfl g_chosen (by kernel_rfl) (.cons (Ev.cast (ev_lc0 (l := S1) (g := fdD rs) (f := fun m => prD ((totF rs m).b, (totF rs m).c)) (by kernel_rfl) (evit_old (evo_item (k := 1) (evo_name rfl) ev_int rfl) (fits _)) (fun m hm X' env' => ev_tuple (.cons (ev_item (k := 1) (ev_name rfl) ev_int rfl) rfl (.cons (ev_item (k := 2) (ev_name rfl) ev_int rfl) rfl .nil)) (sl (Nat.le_of_ble_eq_true rfl))) (sl (by omega))) ?_) rfl .nil)) fun s8 c8 F => ?_)
  · rw [List.map_map]; rfl
  generalize placeF (S1.map fun m => ((totF rs m).b, (totF rs m).c)) = hi at F ok0 fit fh
  generalize 2 * wholeF (S1.map fun m => ((totF rs m).b, (totF rs m).c)) = be at F ok0 fit fb
  refine st_seq (st_untuple (d1 := .int (placeF (S0.map fun m => ((totF rs m).a, (totF rs m).b * hi + (totF rs m).c * be)))) (d2 := .int (2 * wholeF (S0.map fun m => ((totF rs m).a, (totF rs m).b * hi + (totF rs m).c * be)))) F hA rfl rfl (ev_def (spec_chosen (n := n + 6) ok0 (by rw [List.length_map]; exact l0)) rfl g_chosen (by kernel_rfl) (.cons (Ev.cast (ev_lc0 (l := S0) (g := fdD rs) (f := fun m => prD ((totF rs m).a, (totF rs m).b * hi + (totF rs m).c * be)) (by kernel_rfl) (evit_old (evo_item (k := 0) (evo_name rfl) ev_int rfl) (fits _)) (fun m hm X' env' => ev_tuple (.cons (ev_item (k := 0) (ev_name rfl) ev_int rfl) rfl (.cons (ev_bin (ev_bin (ev_item (k := 1) (ev_name rfl) ev_int rfl) (ev_name rfl) (op_mul (mulr (by omega)))) (ev_bin (ev_item (k := 2) (ev_name rfl) ev_int rfl) (ev_name rfl) (op_mul (mulr (by omega)))) op_add) rfl .nil)) (sl (Nat.le_of_ble_eq_true rfl))) (sl (by omega))) ?_) rfl .nil)) fun s9 c9 F => ?_)
  · rw [List.map_map]; rfl
  generalize placeF (S0.map fun m => ((totF rs m).a, (totF rs m).b * hi + (totF rs m).c * be)) = wi at F fit
  generalize 2 * wholeF (S0.map fun m => ((totF rs m).a, (totF rs m).b * hi + (totF rs m).c * be)) = un at F fit
  have h4 := P.four
  refine st_seq (st_assign_comp (l := rs) (g := rwD) (p := fun _ => true) (f := fun r => .int (worthF wi hi un be r)) F hA rfl rfl (compText_of (by kernel_rfl)) (evit_old (evo_name rfl) trivial) (fun r hr X' env' => ⟨rfl, fun _ => ?_⟩) (sl (by omega)) rfl rfl (fun s10 c10 F => ?_))
  · obtain ⟨q1, q2, q3⟩ := frs r hr
    have m10 : ∀ {x y : Int}, x.natAbs ≤ 10 → y.natAbs < 2 ^ 55 → (x * y).natAbs < 2 ^ 60 := fun {x y} a b => by
      rw [Int.natAbs_mul]
      have := Nat.mul_le_mul a (Nat.le_of_lt b)
      omega
    exact ev_bin (ev_bin (ev_bin (ev_item (k := 0) (ev_name rfl) ev_int rfl) (ev_name rfl) (op_mul (muls (by omega)))) (ev_bin (ev_bin (ev_item (k := 1) (ev_name rfl) ev_int rfl) (ev_name rfl) (op_mul (muls (by omega)))) (ev_name rfl) (op_mul (muls (m10 q2 fh)))) op_add) (ev_bin (ev_bin (ev_item (k := 2) (ev_name rfl) ev_int rfl) (ev_name rfl) (op_mul (muls (by omega)))) (ev_name rfl) (op_mul (muls (m10 q3 fb)))) op_add
  have hwo : (rs.filter fun _ => true).map (fun r => D.int (worthF wi hi un be r)) = (rs.map (worthF wi hi un be)).map .int := by
    rw [List.filter_eq_self.mpr (fun _ _ => rfl), List.map_map]; rfl
  rw [hwo] at F
  have hnil : (((rs.map (worthF wi hi un be)).zip rs).filter fun p => decide (0 < p.1) || (p.1 == 0 && p.2.s)) = [] := by
    rw [List.filter_eq_nil_iff]
    intro p hp
    have hz : ∀ l : List Rw, p ∈ (l.map (worthF wi hi un be)).zip l → p.2 ∈ l ∧ p.1 = worthF wi hi un be p.2 := by
      intro l
      induction l with
      | nil => intro h; cases h
      | cons x r ih =>
        intro h
        rw [List.map_cons, List.zip_cons_cons] at h
        rcases List.mem_cons.mp h with h | h
        · subst h; exact ⟨List.mem_cons_self, rfl⟩
        · obtain ⟨a, b⟩ := ih h; exact ⟨List.mem_cons_of_mem _ a, b⟩
    obtain ⟨a, b⟩ := hz rs hp
    rw [b, fit p.2 a]
    simp
  refine st_ret F hA rfl (cAll.trans ((c8.trans c9).trans c10)) (fun _ q => q) (Ev.cast (ev_cmp (ev_lc (l := (rs.map (worthF wi hi un be)).zip rs) (g := fun p => .tup [.int p.1, rwD p.2]) (p := fun p => decide (0 < p.1) || (p.1 == 0 && p.2.s)) (f := fun p => .int p.1) (by kernel_rfl) ((evit_zip (evs_old (evo_name rfl)) (evs_old (evo_name rfl)) rfl g_zip).cast (zipD_map _ _ _ _)) (fun p hp X' env' => ⟨?_, fun _ => ev_name rfl⟩) (sl (by rw [List.length_zip, List.length_map]; omega))) (ev_list .nil (sl (Nat.le_of_ble_eq_true rfl))) (op_eq_nil ?_)) ?_)
  · exact evt_or (evt_cmp (ev_name rfl) ev_int op_gt) fun _ => evt_and (evt_cmp (ev_name rfl) ev_int op_eq) fun _ => evt_val (ev_item (k := 3) (ev_name rfl) ev_int rfl) truthy_bool'
  · rw [hnil]; rfl
  · rw [hnil]; rfl
end
end Mine

set_option Elab.async false
set_option linter.unusedVariables false
set_option linter.unusedSimpArgs false
set_option maxRecDepth 100000
set_option maxHeartbeats 1000000
namespace Mine
/-! # a place between bounds fits them all -/
noncomputable def okv (v : Int) (s : Bool) : Prop := v < 0 ∨ (v = 0 ∧ s = false)
noncomputable def absP (p : Int × Int) : Int := if p.1 < 0 then -p.1 else p.1
theorem fold_mul : ∀ (ps : List (Int × Int)) (x : Int), ps.foldl (fun x p => x * (if p.1 < 0 then -p.1 else p.1)) x = x * wholeF ps
  | [], x => by simp [wholeF]
  | p :: r, x => by
    unfold wholeF
    rw [List.foldl_cons, List.foldl_cons, fold_mul r, fold_mul r (1 * _), Int.one_mul, Int.mul_assoc]
theorem whole_cons (p : Int × Int) (r : List (Int × Int)) : wholeF (p :: r) = absP p * wholeF r := by
  show List.foldl _ _ _ = _
  rw [List.foldl_cons, fold_mul, Int.one_mul]; rfl
theorem whole_pos : ∀ {ps : List (Int × Int)}, (∀ p ∈ ps, p.1 ≠ 0) → 0 < wholeF ps
  | [], _ => by decide
  | p :: r, h => by
    rw [whole_cons]
    refine Int.mul_pos ?_ (whole_pos fun q hq => h q (List.mem_cons_of_mem _ hq))
    have := h p List.mem_cons_self
    unfold absP; split <;> omega
theorem whole_dvd : ∀ {ps : List (Int × Int)} {p : Int × Int}, p ∈ ps → p.1 ∣ wholeF ps
  | q :: r, p, h => by
    rw [whole_cons]
    rcases List.mem_cons.mp h with e | h
    · subst e
      refine Int.dvd_mul_of_dvd_left ?_
      unfold absP
      split
      · exact Int.dvd_neg.mpr (Int.dvd_refl _)
      · exact Int.dvd_refl _
    · exact Int.dvd_mul_of_dvd_right (whole_dvd h)
theorem cut_eq {ps : List (Int × Int)} {p : Int × Int} (h : p ∈ ps) : p.1 * cutF ps p = -p.2 * wholeF ps := by
  unfold cutF
  exact Int.mul_fdiv_cancel' (Int.dvd_mul_of_dvd_right (whole_dvd h))
section
variable {α : Type} {l : List α} {q c : α → Int} {s : α → Bool}
theorem lows_mem {t : Int} : t ∈ lowsF (l.map fun x => (q x, c x)) ↔ ∃ x ∈ l, q x < 0 ∧ t = cutF (l.map fun x => (q x, c x)) (q x, c x) := by
  unfold lowsF
  constructor
  · intro h
    obtain ⟨p, hp, rfl⟩ := List.mem_map.mp h
    obtain ⟨h1, h2⟩ := List.mem_filter.mp hp
    obtain ⟨x, hx, rfl⟩ := List.mem_map.mp h1
    exact ⟨x, hx, by first | exact of_decide_eq_true h2 | exact of_decide_eq_false h2 | exact bne_iff_ne.mp h2 | exact eq_of_beq h2 | simpa using h2, rfl⟩
  · rintro ⟨x, hx, h1, rfl⟩
    exact List.mem_map.mpr ⟨_, List.mem_filter.mpr ⟨List.mem_map.mpr ⟨x, hx, rfl⟩, by first | exact of_decide_eq_true h1 | exact of_decide_eq_false h1 | exact bne_iff_ne.mp h1 | exact eq_of_beq h1 | simpa using h1⟩, rfl⟩
theorem highs_mem {t : Int} : t ∈ highsF (l.map fun x => (q x, c x)) ↔ ∃ x ∈ l, 0 < q x ∧ t = cutF (l.map fun x => (q x, c x)) (q x, c x) := by
  unfold highsF
  constructor
  · intro h
    obtain ⟨p, hp, rfl⟩ := List.mem_map.mp h
    obtain ⟨h1, h2⟩ := List.mem_filter.mp hp
    obtain ⟨x, hx, rfl⟩ := List.mem_map.mp h1
    exact ⟨x, hx, by first | exact of_decide_eq_true h2 | exact of_decide_eq_false h2 | exact bne_iff_ne.mp h2 | exact eq_of_beq h2 | simpa using h2, rfl⟩
  · rintro ⟨x, hx, h1, rfl⟩
    exact List.mem_map.mpr ⟨_, List.mem_filter.mpr ⟨List.mem_map.mpr ⟨x, hx, rfl⟩, by first | exact of_decide_eq_true h1 | exact of_decide_eq_false h1 | exact bne_iff_ne.mp h1 | exact eq_of_beq h1 | simpa using h1⟩, rfl⟩
theorem sign_pair {qx qy cx cy W tx ty : Int} (hW : 0 < W) (hx : qx * tx = -cx * W) (hy : qy * ty = -cy * W) (h1 : qx < 0) (h2 : 0 < qy) {b : Bool} (h : okv (cx * qy - cy * qx) b) : tx < ty ∨ (tx = ty ∧ b = false) := by
  have e : (cx * qy - cy * qx) * W = (-qx * qy) * (tx - ty) := by grind
  have hp : 0 < -qx * qy := Int.mul_pos (by first | exact Nat.le_trans (by assumption) (by decide) | omega) h2
  rcases h with h | ⟨h, hb⟩
  · left
    have h3 : (cx * qy - cy * qx) * W < 0 := Int.mul_neg_of_neg_of_pos h hW
    rw [e] at h3
    by_cases hh : tx < ty
    · exact hh
    · have := Int.mul_nonneg (Int.le_of_lt hp) (show 0 ≤ tx - ty by omega)
      omega
  · right
    rw [h, Int.zero_mul] at e
    rcases Int.mul_eq_zero.mp e.symm with z | z
    · omega
    · exact ⟨by omega, hb⟩
theorem place_ok (hq : ∀ x ∈ l, q x ≠ 0) (hpair : ∀ x ∈ l, ∀ y ∈ l, q x < 0 → 0 < q y → okv (c x * q y - c y * q x) (s x || s y)) : ∀ x ∈ l, okv (q x * placeF (l.map fun x => (q x, c x)) + c x * (2 * wholeF (l.map fun x => (q x, c x)))) (s x) := by
  intro x hx
  have hall : ∀ p ∈ l.map (fun x => (q x, c x)), p.1 ≠ 0 := fun p hp => by
    obtain ⟨y, hy, rfl⟩ := List.mem_map.mp hp
    exact hq y hy
  have hW := whole_pos hall
  have cut : ∀ y ∈ l, q y * cutF (l.map fun x => (q x, c x)) (q y, c y) = -c y * wholeF (l.map fun x => (q x, c x)) := fun y hy => cut_eq (p := (q y, c y)) (List.mem_map.mpr ⟨y, hy, rfl⟩)
  have lm := @lows_mem _ l q c
  have hm := @highs_mem _ l q c
  unfold placeF
  generalize hps : (l.map fun x => (q x, c x)) = ps at *
  generalize hT : cutF ps = T at *
  generalize wholeF ps = W at *
  have hx0 := hq x hx
  have ex := cut x hx
  have key : ∀ P : Int, q x * P + c x * (2 * W) = q x * (P - 2 * T (q x, c x)) := fun P => by grind
  rw [key]
  have ord : ∀ a ∈ l, ∀ b ∈ l, q a < 0 → 0 < q b → T (q a, c a) < T (q b, c b) ∨ (T (q a, c a) = T (q b, c b) ∧ (s a || s b) = false) := fun a ha b hb h1 h2 => sign_pair hW (cut a ha) (cut b hb) h1 h2 (hpair a ha b hb h1 h2)
  by_cases hlo : lowsF ps = []
  · by_cases hhi : highsF ps = []
    · exfalso
      by_cases h0 : q x < 0
      · have := lm.mpr ⟨x, hx, h0, rfl⟩; rw [hlo] at this; cases this
      · have := hm.mpr ⟨x, hx, by omega, rfl⟩; rw [hhi] at this; cases this
    · rw [if_neg (fun z => z.1 hlo), if_neg (fun z => z hlo), if_pos hhi]
      obtain ⟨m1, m2⟩ := minL_spec hhi
      have h0 : 0 < q x := by
        by_cases h0 : q x < 0
        · have := lm.mpr ⟨x, hx, h0, rfl⟩; rw [hlo] at this; cases this
        · omega
      have := m2 _ (hm.mpr ⟨x, hx, h0, rfl⟩)
      exact .inl (Int.mul_neg_of_pos_of_neg h0 (by first | exact Nat.le_trans (by assumption) (by decide) | omega))
  · obtain ⟨M1, M2⟩ := maxL_spec hlo
    by_cases hhi : highsF ps = []
    · rw [if_neg (fun z => z.2 hhi), if_pos hlo]
      have h0 : q x < 0 := by
        by_cases h0 : 0 < q x
        · have := hm.mpr ⟨x, hx, h0, rfl⟩; rw [hhi] at this; cases this
        · omega
      have := M2 _ (lm.mpr ⟨x, hx, h0, rfl⟩)
      exact .inl (Int.mul_neg_of_neg_of_pos h0 (by first | exact Nat.le_trans (by assumption) (by decide) | omega))
    · rw [if_pos ⟨hlo, hhi⟩]
      obtain ⟨m1, m2⟩ := minL_spec hhi
      obtain ⟨a, ha, qa, ea⟩ := lm.mp M1
      obtain ⟨b, hb, qb, eb⟩ := hm.mp m1
      have oab := ord a ha b hb qa qb
      rw [ea, eb]
      by_cases h0 : q x < 0
      · have h1 := M2 _ (lm.mpr ⟨x, hx, h0, rfl⟩)
        rw [ea] at h1
        have o2 := ord x hx b hb h0 qb
        rcases o2 with o2 | ⟨o2, o3⟩
        · exact .inl (Int.mul_neg_of_neg_of_pos h0 (by rcases oab with o | ⟨o, _⟩ <;> omega))
        · have e0 : T (q a, c a) + T (q b, c b) - 2 * T (q x, c x) = 0 := by rcases oab with o | ⟨o, _⟩ <;> omega
          exact .inr ⟨by rw [e0, Int.mul_zero], by revert o3; cases s x <;> simp⟩
      · have h0 : 0 < q x := by omega
        have h1 := m2 _ (hm.mpr ⟨x, hx, h0, rfl⟩)
        rw [eb] at h1
        have o2 := ord a ha x hx qa h0
        rcases o2 with o2 | ⟨o2, o3⟩
        · exact .inl (Int.mul_neg_of_pos_of_neg h0 (by rcases oab with o | ⟨o, _⟩ <;> omega))
        · have e0 : T (q a, c a) + T (q b, c b) - 2 * T (q x, c x) = 0 := by rcases oab with o | ⟨o, _⟩ <;> omega
          exact .inr ⟨by rw [e0, Int.mul_zero], by revert o3; cases s x <;> simp⟩
end
/-! # totals of joined recipes -/
noncomputable def combR (u : Nat) (L H : Rw) : Rw := ⟨L.a * H.at u - H.a * L.at u, L.b * H.at u - H.b * L.at u, L.c * H.at u - H.c * L.at u, L.s || H.s⟩
theorem any_filter {α : Type} (p : α → Bool) : ∀ l : List α, (!(l.filter p).isEmpty) = l.any p
  | [] => rfl
  | x :: r => by
    rw [List.filter_cons, List.any_cons]
    cases h : p x with
    | true => simp
    | false => simpa using any_filter p r
theorem anyS4 (A0 A1 A2 A3 : Rw) (m0 m1 m2 m3 : Int) : anyS [A0, A1, A2, A3] [m0, m1, m2, m3] = ((m0 != 0 && A0.s) || ((m1 != 0 && A1.s) || ((m2 != 0 && A2.s) || (m3 != 0 && A3.s)))) := by
  unfold anyS
  rw [any_filter]
  simp
theorem dot4 (A0 A1 A2 A3 : Rw) (m0 m1 m2 m3 : Int) (k : Nat) : dot [A0, A1, A2, A3] [m0, m1, m2, m3] k = m0 * A0.at k + (m1 * A1.at k + (m2 * A2.at k + m3 * A3.at k)) := by
  simp [dot]
theorem nz_comb {l h U D : Int} (hl : 0 ≤ l) (hh : 0 ≤ h) (hU : 0 < U) (hD : D < 0) : (l * U - h * D != 0) = (l != 0 || h != 0) := by
  have h1 : 0 ≤ l * U := Int.mul_nonneg hl (Int.le_of_lt hU)
  have h2 : 0 ≤ h * (-D) := Int.mul_nonneg hh (by first | exact Nat.le_trans (by assumption) (by decide) | omega)
  have e : l * U - h * D = l * U + h * (-D) := by grind
  by_cases q1 : l = 0
  · by_cases q2 : h = 0
    · subst q1; subst q2; simp
    · have : 0 < h * (-D) := Int.mul_pos (by first | exact Nat.le_trans (by assumption) (by decide) | omega) (by first | exact Nat.le_trans (by assumption) (by decide) | omega)
      have z : l * U - h * D ≠ 0 := by omega
      rw [bne_iff_ne.mpr z, bne_iff_ne.mpr q2, Bool.or_true]
  · have : 0 < l * U := Int.mul_pos (by first | exact Nat.le_trans (by assumption) (by decide) | omega) hU
    have z : l * U - h * D ≠ 0 := by omega
    rw [bne_iff_ne.mpr z, bne_iff_ne.mpr q1, Bool.true_or]
theorem comb_ge {l h U D : Int} (hl : 0 ≤ l) (hh : 0 ≤ h) (hU : 0 < U) (hD : D < 0) : 0 ≤ l * U - h * D := by
  have h1 : 0 ≤ l * U := Int.mul_nonneg hl (Int.le_of_lt hU)
  have h2 : 0 ≤ h * (-D) := Int.mul_nonneg hh (by first | exact Nat.le_trans (by assumption) (by decide) | omega)
  have e : l * U - h * D = l * U + h * (-D) := by grind
  omega
theorem comb_le {l h U D N M : Int} (hl : 0 ≤ l) (hh : 0 ≤ h) (hU : 0 ≤ U) (hD : D ≤ 0) (hlN : l ≤ N) (hhN : h ≤ N) (hUM : U ≤ M) (hDM : -D ≤ M) : l * U - h * D ≤ 2 * (N * M) := by
  have h1 : l * U ≤ N * M := Int.mul_le_mul hlN hUM hU (by first | exact Nat.le_trans (by assumption) (by decide) | omega)
  have h2 : h * (-D) ≤ N * M := Int.mul_le_mul hhN hDM (by first | exact Nat.le_trans (by assumption) (by decide) | omega) (by first | exact Nat.le_trans (by assumption) (by decide) | omega)
  have e : l * U - h * D = l * U + h * (-D) := by grind
  omega
theorem comb4 (rs : List Rw) (u : Nat) (l0 l1 l2 l3 h0 h1 h2 h3 : Int) : combF rs u [l0, l1, l2, l3] [h0, h1, h2, h3] = [l0 * (totF rs [h0, h1, h2, h3]).at u - h0 * (totF rs [l0, l1, l2, l3]).at u, l1 * (totF rs [h0, h1, h2, h3]).at u - h1 * (totF rs [l0, l1, l2, l3]).at u, l2 * (totF rs [h0, h1, h2, h3]).at u - h2 * (totF rs [l0, l1, l2, l3]).at u, l3 * (totF rs [h0, h1, h2, h3]).at u - h3 * (totF rs [l0, l1, l2, l3]).at u] := rfl
theorem four_of {α : Type} {l : List α} (h : l.length = 4) : ∃ a b c d, l = [a, b, c, d] := by
  match l, h with
  | [a, b, c, d], _ => exact ⟨a, b, c, d, rfl⟩
theorem tot_comb {rs : List Rw} {l h : List Int} {u : Nat} (h4 : rs.length = 4) (hl : l.length = 4) (hh : h.length = 4) (nl : ∀ x ∈ l, 0 ≤ x) (nh : ∀ x ∈ h, 0 ≤ x) (hU : 0 < (totF rs h).at u) (hD : (totF rs l).at u < 0) : totF rs (combF rs u l h) = combR u (totF rs l) (totF rs h) := by
  obtain ⟨A0, A1, A2, A3, rfl⟩ := four_of h4
  obtain ⟨l0, l1, l2, l3, rfl⟩ := four_of hl
  obtain ⟨h0, h1, h2, h3, rfl⟩ := four_of hh
  rw [comb4]
  unfold combR
  generalize (totF [A0, A1, A2, A3] [h0, h1, h2, h3]).at u = U at *
  generalize (totF [A0, A1, A2, A3] [l0, l1, l2, l3]).at u = D at *
  have n0 := nz_comb (nl l0 (by simp)) (nh h0 (by simp)) hU hD
  have n1 := nz_comb (nl l1 (by simp)) (nh h1 (by simp)) hU hD
  have n2 := nz_comb (nl l2 (by simp)) (nh h2 (by simp)) hU hD
  have n3 := nz_comb (nl l3 (by simp)) (nh h3 (by simp)) hU hD
  have hs : anyS [A0, A1, A2, A3] [l0 * U - h0 * D, l1 * U - h1 * D, l2 * U - h2 * D, l3 * U - h3 * D] = (anyS [A0, A1, A2, A3] [l0, l1, l2, l3] || anyS [A0, A1, A2, A3] [h0, h1, h2, h3]) := by
    rw [anyS4, anyS4, anyS4, n0, n1, n2, n3]
    simp only [Bool.and_or_distrib_right]
    ac_rfl
  show (⟨dot _ _ 0, dot _ _ 1, dot _ _ 2, _⟩ : Rw) = ⟨dot _ _ 0 * U - dot _ _ 0 * D, dot _ _ 1 * U - dot _ _ 1 * D, dot _ _ 2 * U - dot _ _ 2 * D, _ || _⟩
  have key : ∀ k, dot [A0, A1, A2, A3] [l0 * U - h0 * D, l1 * U - h1 * D, l2 * U - h2 * D, l3 * U - h3 * D] k = dot [A0, A1, A2, A3] [l0, l1, l2, l3] k * U - dot [A0, A1, A2, A3] [h0, h1, h2, h3] k * D := fun k => by
    rw [dot4, dot4, dot4]
    grind
  rw [key, key, key]
  exact congrArg _ hs
theorem tot_unit {rs : List Rw} (h4 : rs.length = 4) {p : Nat} {r : Rw} (hp : rs[p]? = some r) : totF rs (unitF 4 p) = r := by
  obtain ⟨A0, A1, A2, A3, rfl⟩ := four_of h4
  have key : ∀ m0 m1 m2 m3 : Int, totF [A0, A1, A2, A3] [m0, m1, m2, m3] = ⟨m0 * A0.a + (m1 * A1.a + (m2 * A2.a + m3 * A3.a)), m0 * A0.b + (m1 * A1.b + (m2 * A2.b + m3 * A3.b)), m0 * A0.c + (m1 * A1.c + (m2 * A2.c + m3 * A3.c)), ((m0 != 0 && A0.s) || ((m1 != 0 && A1.s) || ((m2 != 0 && A2.s) || (m3 != 0 && A3.s))))⟩ := fun m0 m1 m2 m3 => by
    unfold totF
    rw [anyS4, dot4, dot4, dot4]; rfl
  have u0 : unitF 4 0 = [1, 0, 0, 0] := by decide
  have u1 : unitF 4 1 = [0, 1, 0, 0] := by decide
  have u2 : unitF 4 2 = [0, 0, 1, 0] := by decide
  have u3 : unitF 4 3 = [0, 0, 0, 1] := by decide
  match p, hp with
  | 0, hp => cases hp; rw [u0, key]; simp
  | 1, hp => cases hp; rw [u1, key]; simp
  | 2, hp => cases hp; rw [u2, key]; simp
  | 3, hp => cases hp; rw [u3, key]; simp
/-! # Kohler: a sum of all four says nothing new -/
noncomputable def okc (r : Rw) : Prop := okv r.c r.s
theorem kohler_one {L R H : Rw} (hL : L.b < 0) (hH : 0 < H.b) (z : R.b = 0 → okc R) (p : 0 < R.b → okc (combR 1 L R)) (q : R.b < 0 → okc (combR 1 R H)) :
    L.c * H.b - H.c * L.b < 0 ∨ (L.c * R.b - R.c * L.b ≤ 0 ∧ (L.c * H.b - H.c * L.b = 0 → L.c * R.b - R.c * L.b = 0 → R.s = false)) := by
  have or_false_right : ∀ x y : Bool, (x || y) = false → y = false := by decide
  have or_false_left : ∀ x y : Bool, (x || y) = false → x = false := by decide
  rcases Int.lt_trichotomy R.b 0 with h | h | h
  · have e : -R.b * (L.c * H.b - H.c * L.b) = -L.b * (R.c * H.b - H.c * R.b) - H.b * (L.c * R.b - R.c * L.b) := by grind
    have hq : okv (R.c * H.b - H.c * R.b) (R.s || H.s) := q h
    by_cases hv : 0 < L.c * R.b - R.c * L.b
    · left
      have h1 : 0 < H.b * (L.c * R.b - R.c * L.b) := Int.mul_pos hH hv
      have h2 : 0 ≤ -L.b * -(R.c * H.b - H.c * R.b) := Int.mul_nonneg (by first | exact Nat.le_trans (by assumption) (by decide) | omega) (by rcases hq with hq | hq <;> omega)
      have e2 : -L.b * -(R.c * H.b - H.c * R.b) = -(-L.b * (R.c * H.b - H.c * R.b)) := by grind
      by_cases hh : L.c * H.b - H.c * L.b < 0
      · exact hh
      · have := Int.mul_nonneg (show 0 ≤ -R.b by omega) (show 0 ≤ L.c * H.b - H.c * L.b by omega)
        omega
    · refine .inr ⟨by omega, fun h0 h1 => ?_⟩
      rw [h0, h1] at e
      rcases hq with hq | ⟨hq, hs⟩
      · have := Int.mul_pos_of_neg_of_neg (show L.b < 0 from hL) hq
        have e3 : -L.b * (R.c * H.b - H.c * R.b) = -(L.b * (R.c * H.b - H.c * R.b)) := by grind
        omega
      · exact or_false_left _ _ hs
  · right
    have hz : okv R.c R.s := z h
    rw [h]
    have e : L.c * 0 - R.c * L.b = R.c * -L.b := by grind
    rw [e]
    rcases hz with hz | ⟨hz, hs⟩
    · have := Int.mul_neg_of_neg_of_pos hz (show 0 < -L.b by omega)
      exact ⟨by omega, fun _ h1 => by omega⟩
    · rw [hz, Int.zero_mul]
      exact ⟨by omega, fun _ _ => hs⟩
  · right
    have hp : okv (L.c * R.b - R.c * L.b) (L.s || R.s) := p h
    rcases hp with hp | ⟨hp, hs⟩
    · exact ⟨by omega, fun _ h1 => by omega⟩
    · exact ⟨by omega, fun _ _ => or_false_right _ _ hs⟩
theorem kohler {A B C D : Rw} (hA : A.a < 0) (hB : 0 < B.a) (hC : C.a < 0) (hD : 0 < D.a) (z1 : (combR 0 A D).b = 0 → okc (combR 0 A D)) (z2 : (combR 0 C B).b = 0 → okc (combR 0 C B))
    (p1 : 0 < (combR 0 A D).b → okc (combR 1 (combR 0 A B) (combR 0 A D))) (p2 : 0 < (combR 0 C B).b → okc (combR 1 (combR 0 A B) (combR 0 C B)))
    (q1 : (combR 0 A D).b < 0 → okc (combR 1 (combR 0 A D) (combR 0 C D))) (q2 : (combR 0 C B).b < 0 → okc (combR 1 (combR 0 C B) (combR 0 C D)))
    (hL : (combR 0 A B).b < 0) (hH : 0 < (combR 0 C D).b) : okc (combR 1 (combR 0 A B) (combR 0 C D)) := by
  have k1 := kohler_one hL hH z1 p1 q1
  have k2 := kohler_one hL hH z2 p2 q2
  show okv ((combR 0 A B).c * (combR 0 C D).b - (combR 0 C D).c * (combR 0 A B).b) ((combR 0 A B).s || (combR 0 C D).s)
  by_cases hv : (combR 0 A B).c * (combR 0 C D).b - (combR 0 C D).c * (combR 0 A B).b < 0
  · exact .inl hv
  obtain ⟨a1, a2⟩ := k1.resolve_left hv
  obtain ⟨b1, b2⟩ := k2.resolve_left hv
  have e : (-A.a * B.a) * ((combR 0 A B).c * (combR 0 C D).b - (combR 0 C D).c * (combR 0 A B).b) = (-C.a * B.a) * ((combR 0 A B).c * (combR 0 A D).b - (combR 0 A D).c * (combR 0 A B).b) + (-A.a * D.a) * ((combR 0 A B).c * (combR 0 C B).b - (combR 0 C B).c * (combR 0 A B).b) := by
    show (-A.a * B.a) * ((A.c * B.a - B.c * A.a) * (C.b * D.a - D.b * C.a) - (C.c * D.a - D.c * C.a) * (A.b * B.a - B.b * A.a)) = (-C.a * B.a) * ((A.c * B.a - B.c * A.a) * (A.b * D.a - D.b * A.a) - (A.c * D.a - D.c * A.a) * (A.b * B.a - B.b * A.a)) + (-A.a * D.a) * ((A.c * B.a - B.c * A.a) * (C.b * B.a - B.b * C.a) - (C.c * B.a - B.c * C.a) * (A.b * B.a - B.b * A.a))
    grind
  have w2 : 0 < -A.a * B.a := Int.mul_pos (by first | exact Nat.le_trans (by assumption) (by decide) | omega) hB
  have w3 : 0 < -C.a * B.a := Int.mul_pos (by first | exact Nat.le_trans (by assumption) (by decide) | omega) hB
  have w4 : 0 < -A.a * D.a := Int.mul_pos (by first | exact Nat.le_trans (by assumption) (by decide) | omega) hD
  generalize (combR 0 A B).c * (combR 0 C D).b - (combR 0 C D).c * (combR 0 A B).b = v at *
  generalize (combR 0 A B).c * (combR 0 A D).b - (combR 0 A D).c * (combR 0 A B).b = x at *
  generalize (combR 0 A B).c * (combR 0 C B).b - (combR 0 C B).c * (combR 0 A B).b = y at *
  generalize -A.a * B.a = W2 at *
  generalize -C.a * B.a = W3 at *
  generalize -A.a * D.a = W4 at *
  have g0 : 0 ≤ W2 * v := Int.mul_nonneg (by first | exact Nat.le_trans (by assumption) (by decide) | omega) (by first | exact Nat.le_trans (by assumption) (by decide) | omega)
  have g1 : 0 ≤ W3 * -x := Int.mul_nonneg (by first | exact Nat.le_trans (by assumption) (by decide) | omega) (by first | exact Nat.le_trans (by assumption) (by decide) | omega)
  have g2 : 0 ≤ W4 * -y := Int.mul_nonneg (by first | exact Nat.le_trans (by assumption) (by decide) | omega) (by first | exact Nat.le_trans (by assumption) (by decide) | omega)
  rw [Int.mul_neg] at g1 g2
  have v0 : v = 0 := (Int.mul_eq_zero.mp (show W2 * v = 0 by omega)).resolve_left (by first | exact Nat.le_trans (by assumption) (by decide) | omega)
  have x0 : x = 0 := (Int.mul_eq_zero.mp (show W3 * x = 0 by omega)).resolve_left (by first | exact Nat.le_trans (by assumption) (by decide) | omega)
  have y0 : y = 0 := (Int.mul_eq_zero.mp (show W4 * y = 0 by omega)).resolve_left (by first | exact Nat.le_trans (by assumption) (by decide) | omega)
  have s1 : (A.s || D.s) = false := a2 v0 x0
  have s2 : (C.s || B.s) = false := b2 v0 y0
  refine .inr ⟨v0, ?_⟩
  show ((A.s || B.s) || (C.s || D.s)) = false
  revert s1 s2
  cases A.s <;> cases B.s <;> cases C.s <;> cases D.s <;> simp
/-! # how great they get -/
theorem whole_le {M : Int} (hM : 1 ≤ M) : ∀ {ps : List (Int × Int)}, (∀ p ∈ ps, p.1 ≠ 0 ∧ p.1.natAbs ≤ M.natAbs) → wholeF ps ≤ M ^ ps.length
  | [], _ => by simp [wholeF]
  | p :: r, h => by
    rw [whole_cons, List.length_cons, Int.pow_succ, Int.mul_comm]
    obtain ⟨h0, h1⟩ := h p List.mem_cons_self
    have ih := whole_le hM (ps := r) fun q hq => h q (List.mem_cons_of_mem _ hq)
    have hp := whole_pos (ps := r) fun q hq => (h q (List.mem_cons_of_mem _ hq)).1
    have ha : 0 ≤ absP p ∧ absP p ≤ M := by unfold absP; split <;> omega
    exact Int.mul_le_mul ih ha.2 ha.1 (by first | exact Nat.le_trans (by assumption) (by decide) | omega)
theorem whole_40 {ps : List (Int × Int)} (h : ∀ p ∈ ps, p.1 ≠ 0 ∧ p.1.natAbs ≤ 32) (hl : ps.length ≤ 8) : wholeF ps ≤ 2 ^ 40 := by
  have h1 := whole_le (M := 32) (by decide) (ps := ps) fun p hp => ⟨(h p hp).1, (h p hp).2⟩
  have key : ∀ k : Nat, k ≤ 8 → (32 : Int) ^ k ≤ 2 ^ 40 := by
    intro k hk
    have : ∀ k : Fin 9, (32 : Int) ^ k.val ≤ 2 ^ 40 := by decide
    exact this ⟨k, by omega⟩
  exact Int.le_trans h1 (key _ hl)
theorem cut_le {ps : List (Int × Int)} {p : Int × Int} (hp : p ∈ ps) (h0 : p.1 ≠ 0) (hc : p.2.natAbs ≤ 80) (hW : 0 < wholeF ps) (hW2 : wholeF ps ≤ 2 ^ 40) : (cutF ps p).natAbs ≤ 80 * 2 ^ 40 := by
  have e := congrArg Int.natAbs (cut_eq hp)
  rw [Int.natAbs_mul, Int.natAbs_mul, Int.natAbs_neg] at e
  have h1 : p.2.natAbs * (wholeF ps).natAbs ≤ 80 * 2 ^ 40 := Nat.mul_le_mul hc (by first | exact Nat.le_trans (by assumption) (by decide) | omega)
  have h2 : 1 * (cutF ps p).natAbs ≤ p.1.natAbs * (cutF ps p).natAbs := Nat.mul_le_mul_right _ (by first | exact Nat.le_trans (by assumption) (by decide) | omega)
  omega
theorem place_bound {ps : List (Int × Int)} (h : ∀ p ∈ ps, p.1 ≠ 0 ∧ p.1.natAbs ≤ 32 ∧ p.2.natAbs ≤ 80) (hl : ps.length ≤ 8) : (placeF ps).natAbs < 2 ^ 55 ∧ (2 * wholeF ps).natAbs < 2 ^ 55 ∧ 0 < wholeF ps := by
  have hp := whole_pos fun p hp => (h p hp).1
  have hw := whole_40 (fun p hp => ⟨(h p hp).1, (h p hp).2.1⟩) hl
  refine ⟨?_, by omega, hp⟩
  have lo : lowsF ps ≠ [] → (maxL (lowsF ps)).natAbs ≤ 80 * 2 ^ 40 := fun hne => by
    obtain ⟨m, _⟩ := maxL_spec hne
    obtain ⟨p, hp', e⟩ := List.mem_map.mp m
    rw [← e]
    have hm := (List.mem_filter.mp hp').1
    exact cut_le hm (h p hm).1 (h p hm).2.2 hp hw
  have hi : highsF ps ≠ [] → (minL (highsF ps)).natAbs ≤ 80 * 2 ^ 40 := fun hne => by
    obtain ⟨m, _⟩ := minL_spec hne
    obtain ⟨p, hp', e⟩ := List.mem_map.mp m
    rw [← e]
    have hm := (List.mem_filter.mp hp').1
    exact cut_le hm (h p hm).1 (h p hm).2.2 hp hw
  unfold placeF
  split
  · rename_i q
    have := lo q.1
    have := hi q.2
    omega
  · split
    · rename_i q
      have := lo q
      omega
    · split
      · rename_i q
        have := hi q
        omega
      · decide
end Mine

open PySem PySem.W PyProof.Rows
set_option Elab.async false
set_option linter.unusedVariables false
set_option linter.unusedSimpArgs false
set_option maxRecDepth 100000
set_option maxHeartbeats 1000000
namespace Mine
/-! # which comparisons a recipe takes -/
noncomputable def mkB (bs : List Bool) : Nat := (((bs.zipIdx 0).filter fun p => p.1).map fun p => 2 ^ p.2).sum
noncomputable def pat (m : List Int) : List Bool := m.map (· != 0)
noncomputable def zor (a b : List Bool) : List Bool := (a.zip b).map fun p => p.1 || p.2
theorem mkN_pat (m : List Int) : mkN m = mkB (pat m) := by
  have key : ∀ (m : List Int) (k : Nat), ((m.zipIdx k).filter fun p => p.1 != 0).map (fun p => 2 ^ p.2) = (((pat m).zipIdx k).filter fun p => p.1).map fun p => 2 ^ p.2 := by
    intro m
    induction m with
    | nil => intro k; rfl
    | cons x r ih =>
      intro k
      unfold pat
      rw [List.map_cons, List.zipIdx_cons, List.zipIdx_cons, List.filter_cons, List.filter_cons]
      dsimp only
      cases h : (x != 0) with
      | true => simp only [if_true, List.map_cons, ih]; rfl
      | false => simp only [Bool.false_eq_true, if_false, ih]; rfl
  unfold mkN mkB
  rw [key]
theorem pat_comb {rs : List Rw} {l h : List Int} {u : Nat} (hl : l.length = 4) (hh : h.length = 4) (nl : ∀ x ∈ l, 0 ≤ x) (nh : ∀ x ∈ h, 0 ≤ x) (hU : 0 < (totF rs h).at u) (hD : (totF rs l).at u < 0) : pat (combF rs u l h) = zor (pat l) (pat h) := by
  obtain ⟨l0, l1, l2, l3, rfl⟩ := four_of hl
  obtain ⟨h0, h1, h2, h3, rfl⟩ := four_of hh
  rw [comb4]
  have n0 := nz_comb (nl l0 (by simp)) (nh h0 (by simp)) hU hD
  have n1 := nz_comb (nl l1 (by simp)) (nh h1 (by simp)) hU hD
  have n2 := nz_comb (nl l2 (by simp)) (nh h2 (by simp)) hU hD
  have n3 := nz_comb (nl l3 (by simp)) (nh h3 (by simp)) hU hD
  show [_, _, _, _] = [_, _, _, _]
  dsimp only
  rw [n0, n1, n2, n3]
noncomputable def pu (p : Nat) : List Bool := pat (unitF 4 p)
theorem few_uu : ∀ p q : Fin 4, fewF (mkB (zor (pu p.val) (pu q.val))) 2 = true ∧ fewF (mkB (zor (pu p.val) (pu q.val))) 3 = true := by decide +kernel
theorem few_uc : ∀ p q r : Fin 4, fewF (mkB (zor (pu p.val) (zor (pu q.val) (pu r.val)))) 3 = true ∧ fewF (mkB (zor (zor (pu q.val) (pu r.val)) (pu p.val))) 3 = true := by decide +kernel
theorem few_cc : ∀ p q r : Fin 4, fewF (mkB (zor (zor (pu p.val) (pu q.val)) (zor (pu p.val) (pu r.val)))) 3 = true ∧ fewF (mkB (zor (zor (pu q.val) (pu p.val)) (zor (pu r.val) (pu p.val)))) 3 = true := by decide +kernel
theorem few_15 : ∀ f : Fin 16, fewF f.val 3 = false → f.val = 15 := by decide +kernel
/-! # labels -/
theorem lab_of (r : Rw) : Txt.lower (nameF r) = if r.a ≠ 0 then Str.ofString "x" else if r.b ≠ 0 then Str.ofString "y" else Str.ofString "1" := by
  obtain ⟨a, b, c, d, e, f⟩ := low_names
  unfold nameF
  repeat' split
  all_goals first | exact a | exact b | exact c | exact d | exact e
theorem xy1 : Str.ofString "x" ≠ Str.ofString "y" ∧ Str.ofString "x" ≠ Str.ofString "1" ∧ Str.ofString "y" ≠ Str.ofString "1" := by decide +kernel
theorem lab_x {r : Rw} : Txt.lower (nameF r) = Str.ofString "x" ↔ r.a ≠ 0 := by
  obtain ⟨h1, h2, h3⟩ := xy1
  rw [lab_of]
  split
  · simp_all
  · split
    · exact ⟨fun h => absurd h.symm h1, fun h => absurd h (by assumption)⟩
    · exact ⟨fun h => absurd h.symm h2, fun h => absurd h (by assumption)⟩
theorem lab_y {r : Rw} : Txt.lower (nameF r) = Str.ofString "y" ↔ r.a = 0 ∧ r.b ≠ 0 := by
  obtain ⟨h1, h2, h3⟩ := xy1
  rw [lab_of]
  split
  · rename_i q; exact ⟨fun h => absurd h h1, fun h => absurd h.1 q⟩
  · rename_i q
    have q := Classical.not_not.mp q
    split
    · rename_i p; exact ⟨fun _ => ⟨q, p⟩, fun _ => rfl⟩
    · rename_i p; exact ⟨fun h => absurd h.symm h3, fun h => absurd h.2 p⟩
theorem lab_1 {r : Rw} : Txt.lower (nameF r) = Str.ofString "1" ↔ r.a = 0 ∧ r.b = 0 := by
  obtain ⟨h1, h2, h3⟩ := xy1
  rw [lab_of]
  split
  · rename_i q; exact ⟨fun h => absurd h h2, fun h => absurd h.1 q⟩
  · rename_i q
    have q := Classical.not_not.mp q
    split
    · rename_i p; exact ⟨fun h => absurd h h3, fun h => absurd h.2 p⟩
    · rename_i p; exact ⟨fun _ => ⟨q, Classical.not_not.mp p⟩, fun _ => rfl⟩
theorem sel_iff {rs : List Rw} {nm : Str} {its : List It} {m : List Int} : m ∈ selF rs nm its ↔ It.r m ∈ its ∧ Txt.lower (nameF (totF rs m)) = nm := by
  refine ⟨sel_mem, fun ⟨h1, h2⟩ => ?_⟩
  unfold selF
  refine List.mem_filterMap.mpr ⟨_, h1, ?_⟩
  dsimp only
  rw [if_pos (by rw [h2]; simp)]
/-! # the first phase -/
structure Bnd (rs : List Rw) : Prop where
  four : rs.length = 4
  le : ∀ r ∈ rs, r.a.natAbs ≤ 4 ∧ r.b.natAbs ≤ 4 ∧ r.c.natAbs ≤ 10
section
variable {rs : List Rw}
theorem row_at (B : Bnd rs) {p : Nat} (hp : p < 4) : ∃ r, rs[p]? = some r := ⟨rs[p]'(by rw [B.four]; exact hp), by simp⟩
theorem row_lt (B : Bnd rs) {p : Nat} {r : Rw} (h : rs[p]? = some r) : p < 4 ∧ r ∈ rs := ⟨by rw [← B.four]; exact (List.getElem?_eq_some_iff.mp h).1, List.mem_of_getElem? h⟩
theorem unit_len : ∀ p : Fin 4, (unitF 4 p.val).length = 4 ∧ ∀ x ∈ unitF 4 p.val, 0 ≤ x ∧ x ≤ 1 := by
  have key : ∀ p : Fin 4, (unitF 4 p.val).length = 4 ∧ (unitF 4 p.val).all (fun x => decide (0 ≤ x) && decide (x ≤ 1)) = true := by decide +kernel
  intro p
  obtain ⟨a, b⟩ := key p
  exact ⟨a, fun x hx => by simpa using List.all_eq_true.mp b x hx⟩
theorem sel0_iff (B : Bnd rs) {m : List Int} : m ∈ selF rs (Str.ofString "x") (its0 4) ↔ ∃ p r, rs[p]? = some r ∧ r.a ≠ 0 ∧ m = unitF 4 p := by
  rw [sel_iff]
  constructor
  · rintro ⟨h1, h2⟩
    obtain ⟨p, hp, e⟩ := List.mem_map.mp h1
    cases e
    have hp := List.mem_range.mp hp
    obtain ⟨r, hr⟩ := row_at B hp
    rw [tot_unit B.four hr, lab_x] at h2
    exact ⟨p, r, hr, h2, rfl⟩
  · rintro ⟨p, r, hr, h, rfl⟩
    refine ⟨List.mem_map.mpr ⟨p, List.mem_range.mpr (row_lt B hr).1, rfl⟩, ?_⟩
    rw [tot_unit B.four hr, lab_x]; exact h
/-- the sum of two rows in which x falls away -/
theorem comb_unit (B : Bnd rs) {p q : Nat} {A C : Rw} (hp : rs[p]? = some A) (hq : rs[q]? = some C) (hA : A.a < 0) (hC : 0 < C.a) :
    totF rs (combF rs 0 (unitF 4 p) (unitF 4 q)) = combR 0 A C ∧ pat (combF rs 0 (unitF 4 p) (unitF 4 q)) = zor (pu p) (pu q) ∧ (combF rs 0 (unitF 4 p) (unitF 4 q)).length = 4 ∧ (∀ x ∈ combF rs 0 (unitF 4 p) (unitF 4 q), 0 ≤ x ∧ x ≤ 8) := by
  obtain ⟨p4, mA⟩ := row_lt B hp
  obtain ⟨q4, mC⟩ := row_lt B hq
  have tp := tot_unit B.four hp
  have tq := tot_unit B.four hq
  obtain ⟨lp, bp⟩ := unit_len ⟨p, p4⟩
  obtain ⟨lq, bq⟩ := unit_len ⟨q, q4⟩
  have hU : 0 < (totF rs (unitF 4 q)).at 0 := by rw [tq]; exact hC
  have hD : (totF rs (unitF 4 p)).at 0 < 0 := by rw [tp]; exact hA
  refine ⟨?_, pat_comb lp lq (fun x hx => (bp x hx).1) (fun x hx => (bq x hx).1) hU hD, ?_, ?_⟩
  · rw [tot_comb B.four lp lq (fun x hx => (bp x hx).1) (fun x hx => (bq x hx).1) hU hD, tp, tq]
  · unfold combF; rw [List.length_map, List.length_zip]; dsimp only at lp lq; omega
  · intro x hx
    unfold combF at hx
    obtain ⟨z, hz, rfl⟩ := List.mem_map.mp hx
    obtain ⟨z1, z2⟩ := List.of_mem_zip hz
    obtain ⟨a1, a2⟩ := bp _ z1
    obtain ⟨b1, b2⟩ := bq _ z2
    have rA := (B.le A mA).1
    have rC := (B.le C mC).1
    have hU' : (totF rs (unitF 4 q)).at 0 = C.a := by rw [tq]; rfl
    have hD' : (totF rs (unitF 4 p)).at 0 = A.a := by rw [tp]; rfl
    rw [hU', hD']
    refine ⟨comb_ge a1 b1 hC hA, ?_⟩
    have := comb_le (N := 1) (M := 4) a1 b1 (Int.le_of_lt hC) (Int.le_of_lt hA) a2 b2 (by first | exact Nat.le_trans (by assumption) (by decide) | omega) (by first | exact Nat.le_trans (by assumption) (by decide) | omega)
    omega
end
end Mine

open PySem PySem.W PyProof.Rows
set_option Elab.async false
set_option linter.unusedVariables false
set_option linter.unusedSimpArgs false
set_option maxRecDepth 100000
set_option maxHeartbeats 1000000
namespace Mine
section
variable {rs : List Rw}
theorem abs_mul {x y : Int} {p q : Nat} (hx : x.natAbs ≤ p) (hy : y.natAbs ≤ q) : (x * y).natAbs ≤ p * q := by
  rw [Int.natAbs_mul]; exact Nat.mul_le_mul hx hy
theorem pat_nz {m : List Int} (h : (pat m).any id = true) : ∃ x ∈ m, x ≠ 0 := by
  obtain ⟨b, hb, h⟩ := List.any_eq_true.mp h
  obtain ⟨x, hx, e⟩ := List.mem_map.mp hb
  subst e
  exact ⟨x, hx, by first | exact of_decide_eq_true h | exact of_decide_eq_false h | exact bne_iff_ne.mp h | exact eq_of_beq h | simpa using h⟩
/-- the recipes that are left when x is gone -/
inductive Src (rs : List Rw) : List Int → Prop
  | u {p : Nat} {r : Rw} : rs[p]? = some r → r.a = 0 → Src rs (unitF 4 p)
  | c {p q : Nat} {A C : Rw} : rs[p]? = some A → rs[q]? = some C → A.a < 0 → 0 < C.a → Src rs (combF rs 0 (unitF 4 p) (unitF 4 q))
structure SrcF (rs : List Rw) (m : List Int) : Prop where
  len : m.length = 4
  rng : ∀ x ∈ m, 0 ≤ x ∧ x ≤ 8
  nz : ∃ x ∈ m, x ≠ 0
  a0 : (totF rs m).a = 0
  b32 : (totF rs m).b.natAbs ≤ 32
  c80 : (totF rs m).c.natAbs ≤ 80
theorem Src.facts (B : Bnd rs) {m : List Int} (h : Src rs m) : SrcF rs m := by
  have nzu : ∀ p : Fin 4, (pu p.val).any id = true := by decide +kernel
  have nzc : ∀ p q : Fin 4, (zor (pu p.val) (pu q.val)).any id = true := by decide +kernel
  cases h with
  | @u p r hp h0 =>
    obtain ⟨p4, mr⟩ := row_lt B hp
    obtain ⟨l, b⟩ := unit_len ⟨p, p4⟩
    have t := tot_unit B.four hp
    obtain ⟨_, b1, c1⟩ := B.le r mr
    exact ⟨l, fun x hx => ⟨(b x hx).1, by have := (b x hx).2; omega⟩, pat_nz (nzu ⟨p, p4⟩), by rw [t]; exact h0, by rw [t]; omega, by rw [t]; omega⟩
  | @c p q A C hp hq hA hC =>
    obtain ⟨p4, mA⟩ := row_lt B hp
    obtain ⟨q4, mC⟩ := row_lt B hq
    obtain ⟨t, pt, l, b⟩ := comb_unit B hp hq hA hC
    obtain ⟨a1, b1, c1⟩ := B.le A mA
    obtain ⟨a2, b2, c2⟩ := B.le C mC
    refine ⟨l, b, pat_nz (by rw [pt]; exact nzc ⟨p, p4⟩ ⟨q, q4⟩), ?_, ?_, ?_⟩
    · rw [t]; show A.a * C.a - C.a * A.a = 0; rw [Int.mul_comm, Int.sub_self]
    · rw [t]; show (A.b * C.a - C.b * A.a).natAbs ≤ 32
      have h1 := abs_mul b1 a2
      have h2 := abs_mul b2 a1
      omega
    · rw [t]; show (A.c * C.a - C.c * A.a).natAbs ≤ 80
      have h1 := abs_mul c1 a2
      have h2 := abs_mul c2 a1
      omega
theorem news_iff {u : Nat} {sel ls : List (List Int)} {i : It} : i ∈ newsF rs u sel ls ↔ ∃ l ∈ ls, ∃ h ∈ sel, meetF rs u l h = true ∧ i = layI (combF rs u l h) ((u : Int) + 2) := by
  unfold newsF innerF
  constructor
  · intro hi
    obtain ⟨l, hl, hi⟩ := List.mem_flatMap.mp hi
    obtain ⟨h, hh, e⟩ := List.mem_map.mp hi
    obtain ⟨h1, h2⟩ := List.mem_filter.mp hh
    exact ⟨l, hl, h, h1, h2, e.symm⟩
  · rintro ⟨l, hl, h, hh, hm, rfl⟩
    exact List.mem_flatMap.mpr ⟨l, hl, List.mem_map.mpr ⟨h, List.mem_filter.mpr ⟨hh, hm⟩, rfl⟩⟩
theorem meet_iff {u : Nat} {l h : List Int} : meetF rs u l h = true ↔ (totF rs l).at u < 0 ∧ 0 < (totF rs h).at u := by
  unfold meetF
  rw [Bool.and_eq_true, decide_eq_true_iff, decide_eq_true_iff]
theorem lay_unit (B : Bnd rs) {p q : Nat} {A C : Rw} (hp : rs[p]? = some A) (hq : rs[q]? = some C) (hA : A.a < 0) (hC : 0 < C.a) : layI (combF rs 0 (unitF 4 p) (unitF 4 q)) (((0 : Nat) : Int) + 2) = .r (combF rs 0 (unitF 4 p) (unitF 4 q)) := by
  unfold layI
  obtain ⟨_, pt, _, _⟩ := comb_unit B hp hq hA hC
  rw [mkN_pat, pt]
  have := (few_uu ⟨p, (row_lt B hp).1⟩ ⟨q, (row_lt B hq).1⟩).1
  dsimp only at this
  rw [show (((0 : Nat) : Int) + 2) = 2 from rfl, this]; rfl
theorem its1_src (B : Bnd rs) {i : It} (h : i ∈ its1 rs) : ∃ m, i = .r m ∧ Src rs m := by
  unfold its1 stepF restF at h
  rw [B.four] at h
  obtain ⟨h1, h2⟩ := List.mem_filter.mp h
  rcases List.mem_append.mp h1 with h1 | h1
  · obtain ⟨p, hp, rfl⟩ := List.mem_map.mp h1
    have hp := List.mem_range.mp hp
    obtain ⟨r, hr⟩ := row_at B hp
    refine ⟨_, rfl, .u hr ?_⟩
    have h2 : (Txt.lower (nameF (totF rs (unitF 4 p))) != Str.ofString "x") = true := h2
    rw [tot_unit B.four hr] at h2
    by_cases z : r.a = 0
    · exact z
    · rw [lab_x.mpr z] at h2; simp at h2
  · obtain ⟨l, hl, h, hh, hm, rfl⟩ := news_iff.mp h1
    obtain ⟨p, A, hp, hA, rfl⟩ := (sel0_iff B).mp hl
    obtain ⟨q, C, hq, hC, rfl⟩ := (sel0_iff B).mp hh
    obtain ⟨m1, m2⟩ := meet_iff.mp hm
    rw [tot_unit B.four hp] at m1
    rw [tot_unit B.four hq] at m2
    exact ⟨_, lay_unit B hp hq m1 m2, .c hp hq m1 m2⟩
theorem its1_of (B : Bnd rs) {m : List Int} (h : Src rs m) : It.r m ∈ its1 rs := by
  have f := h.facts B
  unfold its1 stepF restF
  rw [B.four]
  refine List.mem_filter.mpr ⟨?_, ?_⟩
  · cases h with
    | @u p r hp h0 => exact List.mem_append_left _ (List.mem_map.mpr ⟨p, List.mem_range.mpr (row_lt B hp).1, rfl⟩)
    | @c p q A C hp hq hA hC =>
      refine List.mem_append_right _ (news_iff.mpr ⟨unitF 4 p, (sel0_iff B).mpr ⟨p, A, hp, by omega, rfl⟩, unitF 4 q, (sel0_iff B).mpr ⟨q, C, hq, by omega, rfl⟩, meet_iff.mpr ?_, (lay_unit B hp hq hA hC).symm⟩)
      rw [tot_unit B.four hp, tot_unit B.four hq]
      exact ⟨hA, hC⟩
  · show (Txt.lower (nameF (totF rs m)) != Str.ofString "x") = true
    have : Txt.lower (nameF (totF rs m)) ≠ Str.ofString "x" := fun z => lab_x.mp z f.a0
    simpa using this
theorem sel1_iff (B : Bnd rs) {m : List Int} : m ∈ selF rs (Str.ofString "y") (its1 rs) ↔ Src rs m ∧ (totF rs m).b ≠ 0 := by
  rw [sel_iff, lab_y]
  constructor
  · rintro ⟨h1, h2⟩
    obtain ⟨m', e, h⟩ := its1_src B h1
    cases e
    exact ⟨h, h2.2⟩
  · rintro ⟨h1, h2⟩
    exact ⟨its1_of B h1, (h1.facts B).a0, h2⟩
theorem SrcF.good {m : List Int} (f : SrcF rs m) : GoodM m := ⟨f.len, fun x hx => ⟨(f.rng x hx).1, by have := (f.rng x hx).2; omega⟩, f.nz⟩
theorem its1_good (B : Bnd rs) : GoodI (its1 rs) := fun m hm => by
  obtain ⟨m', e, h⟩ := its1_src B hm
  cases e
  exact (h.facts B).good
/-- two of them joined -/
theorem comb_src (B : Bnd rs) {l h : List Int} (hl : SrcF rs l) (hh : SrcF rs h) (hD : (totF rs l).b < 0) (hU : 0 < (totF rs h).b) :
    totF rs (combF rs 1 l h) = combR 1 (totF rs l) (totF rs h) ∧ pat (combF rs 1 l h) = zor (pat l) (pat h) ∧ GoodM (combF rs 1 l h) := by
  have nl : ∀ x ∈ l, 0 ≤ x := fun x hx => (hl.rng x hx).1
  have nh : ∀ x ∈ h, 0 ≤ x := fun x hx => (hh.rng x hx).1
  have hU' : 0 < (totF rs h).at 1 := hU
  have hD' : (totF rs l).at 1 < 0 := hD
  have pt := pat_comb hl.len hh.len nl nh hU' hD'
  refine ⟨tot_comb B.four hl.len hh.len nl nh hU' hD', pt, ?_, ?_, ?_⟩
  · unfold combF; rw [List.length_map, List.length_zip, hl.len, hh.len]; rfl
  · intro x hx
    unfold combF at hx
    obtain ⟨z, hz, rfl⟩ := List.mem_map.mp hx
    obtain ⟨z1, z2⟩ := List.of_mem_zip hz
    have b1 := hl.b32
    have b2 := hh.b32
    refine ⟨comb_ge (nl _ z1) (nh _ z2) hU' hD', ?_⟩
    have := comb_le (N := 8) (M := 32) (nl _ z1) (nh _ z2) (Int.le_of_lt hU') (Int.le_of_lt hD') (hl.rng _ z1).2 (hh.rng _ z2).2 (show (totF rs h).b ≤ 32 by omega) (show -(totF rs l).b ≤ 32 by omega)
    omega
  · refine pat_nz ?_
    rw [pt]
    obtain ⟨x, hx, hx0⟩ := hl.nz
    have hll := hl.len
    have hhl := hh.len
    obtain ⟨l0, l1, l2, l3, rfl⟩ := four_of hll
    obtain ⟨h0, h1, h2, h3, rfl⟩ := four_of hhl
    have : (l0 != 0 || (l1 != 0 || (l2 != 0 || l3 != 0))) = true := by
      simp only [List.mem_cons, List.not_mem_nil, or_false] at hx
      simp only [Bool.or_eq_true, bne_iff_ne]
      rcases hx with rfl | rfl | rfl | rfl
      · exact .inl hx0
      · exact .inr (.inl hx0)
      · exact .inr (.inr (.inl hx0))
      · exact .inr (.inr (.inr hx0))
    show ((l0 != 0 || h0 != 0) || ((l1 != 0 || h1 != 0) || ((l2 != 0 || h2 != 0) || ((l3 != 0 || h3 != 0) || false)))) = true
    revert this
    cases (l0 != 0) <;> cases (l1 != 0) <;> cases (l2 != 0) <;> cases (l3 != 0) <;> simp
end
end Mine

open PySem PySem.W PyProof.Rows
set_option Elab.async false
set_option linter.unusedVariables false
set_option linter.unusedSimpArgs false
set_option maxRecDepth 100000
set_option maxHeartbeats 1000000
namespace Mine
section
variable {rs : List Rw}
/-! # how many there are -/
theorem news_count {u : Nat} {sel : List (List Int)} : ∀ ls : List (List Int), (newsF rs u sel ls).length = (ls.filter fun l => decide ((totF rs l).at u < 0)).length * (sel.filter fun h => decide (0 < (totF rs h).at u)).length
  | [] => by simp [newsF]
  | l :: r => by
    have ih := news_count (u := u) (sel := sel) r
    unfold newsF at ih ⊢
    rw [List.flatMap_cons, List.length_append, ih, List.filter_cons]
    unfold innerF
    rw [List.length_map]
    by_cases h : (totF rs l).at u < 0
    · rw [if_pos (by first | exact of_decide_eq_true h | exact of_decide_eq_false h | exact bne_iff_ne.mp h | exact eq_of_beq h | simpa using h), List.length_cons, Nat.succ_mul, Nat.add_comm]
      congr 2
      refine List.filter_congr fun x _ => ?_
      unfold meetF
      rw [decide_eq_true h, Bool.true_and]
    · rw [if_neg (by first | exact of_decide_eq_true h | exact of_decide_eq_false h | exact bne_iff_ne.mp h | exact eq_of_beq h | simpa using h)]
      have : sel.filter (meetF rs u l) = [] := List.filter_eq_nil_iff.mpr fun x _ => by
        unfold meetF
        rw [decide_eq_false h, Bool.false_and]; simp
      rw [this]; simp
theorem two_kinds {u : Nat} : ∀ ls : List (List Int), (ls.filter fun l => decide ((totF rs l).at u < 0)).length + (ls.filter fun h => decide (0 < (totF rs h).at u)).length ≤ ls.length
  | [] => by simp
  | l :: r => by
    have ih := two_kinds (u := u) r
    rw [List.filter_cons, List.filter_cons, List.length_cons]
    by_cases h : (totF rs l).at u < 0
    · rw [if_pos (by first | exact of_decide_eq_true h | exact of_decide_eq_false h | exact bne_iff_ne.mp h | exact eq_of_beq h | simpa using h), if_neg (by simp; omega), List.length_cons]; omega
    · rw [if_neg (by first | exact of_decide_eq_true h | exact of_decide_eq_false h | exact bne_iff_ne.mp h | exact eq_of_beq h | simpa using h)]
      split
      · rw [List.length_cons]; omega
      · omega
theorem mul_four {a b : Nat} (h : a + b ≤ 4) : a * b ≤ 4 := by
  have : a = 0 ∨ a = 1 ∨ a = 2 ∨ a = 3 ∨ a = 4 := by omega
  rcases this with rfl | rfl | rfl | rfl | rfl <;> omega
theorem sel0_len : (selF rs (Str.ofString "x") (its0 4)).length ≤ 4 := Nat.le_trans (List.length_filterMap_le _ _) (by unfold its0; rw [List.length_map, List.length_range]; exact Nat.le_refl _)
theorem its1_len (B : Bnd rs) : (its1 rs).length ≤ 8 := by
  unfold its1 stepF restF
  rw [B.four]
  refine Nat.le_trans (List.length_filter_le _ _) ?_
  rw [List.length_append, news_count]
  have h1 := two_kinds (rs := rs) (u := 0) (selF rs (Str.ofString "x") (its0 4))
  have h2 := mul_four (Nat.le_trans h1 sel0_len)
  have h3 : (its0 4).length = 4 := by unfold its0; rw [List.length_map, List.length_range]
  omega
theorem sel1_len (B : Bnd rs) : (selF rs (Str.ofString "y") (its1 rs)).length ≤ 8 := Nat.le_trans (List.length_filterMap_le _ _) (its1_len B)
theorem phase0 (B : Bnd rs) : PhaseOk rs 0 (Str.ofString "x") (its0 4) := by
  refine ⟨its0_good, ?_, ?_⟩
  · intro l hl h hh hm
    obtain ⟨p, A, hp, hA, rfl⟩ := (sel0_iff B).mp hl
    obtain ⟨q, C, hq, hC, rfl⟩ := (sel0_iff B).mp hh
    obtain ⟨m1, m2⟩ := meet_iff.mp hm
    rw [tot_unit B.four hp] at m1
    rw [tot_unit B.four hq] at m2
    refine ⟨((Src.c hp hq m1 m2).facts B).good, fun z => ?_⟩
    obtain ⟨_, pt, _, _⟩ := comb_unit B hp hq m1 m2
    rw [mkN_pat, pt] at z
    have := (few_uu ⟨p, (row_lt B hp).1⟩ ⟨q, (row_lt B hq).1⟩).1
    dsimp only at this
    rw [show (((0 : Nat) : Int) + 2) = 2 from rfl, this] at z
    cases z
  · have h := sel0_len (rs := rs)
    have h2 := Nat.mul_le_mul h h
    have h3 : (its0 4).length = 4 := by unfold its0; rw [List.length_map, List.length_range]
    omega
theorem phase1 (B : Bnd rs) : PhaseOk rs 1 (Str.ofString "y") (its1 rs) := by
  refine ⟨its1_good B, ?_, ?_⟩
  · intro l hl h hh hm
    obtain ⟨sl, _⟩ := (sel1_iff B).mp hl
    obtain ⟨sh, _⟩ := (sel1_iff B).mp hh
    obtain ⟨m1, m2⟩ := meet_iff.mp hm
    obtain ⟨_, _, g⟩ := comb_src B (sl.facts B) (sh.facts B) m1 m2
    refine ⟨g, fun z => ?_⟩
    have k := (mask_ok g).2.1
    exact few_15 ⟨_, k⟩ z
  · have h := sel1_len B
    have h2 := Nat.mul_le_mul h h
    have h3 := its1_len B
    omega
theorem its2_good (B : Bnd rs) : GoodI (its2 rs) := fun m hm => by
  unfold its2 stepF restF at hm
  exact good_all (phase1 B) (fun l q => q) m (List.mem_filter.mp hm).1
theorem its2_len (B : Bnd rs) : (its2 rs).length ≤ 1000 := by
  unfold its2 stepF restF
  refine Nat.le_trans (List.length_filter_le _ _) ?_
  rw [List.length_append]
  have h := sel1_len B
  have h2 := Nat.mul_le_mul h h
  have h3 := its1_len B
  have h4 := news_len rs 1 (selF rs (Str.ofString "y") (its1 rs)) (selF rs (Str.ofString "y") (its1 rs))
  omega
/-! # no contradiction: the place -/
theorem end_of {m : List Int} (h : It.r m ∈ its1 rs ++ newsF rs 1 (selF rs (Str.ofString "y") (its1 rs)) (selF rs (Str.ofString "y") (its1 rs))) (ha : (totF rs m).a = 0) (hb : (totF rs m).b = 0) : m ∈ selF rs (Str.ofString "1") (its2 rs) := by
  refine sel_iff.mpr ⟨?_, lab_1.mpr ⟨ha, hb⟩⟩
  unfold its2 stepF restF
  refine List.mem_filter.mpr ⟨h, ?_⟩
  show (Txt.lower (nameF (totF rs m)) != Str.ofString "y") = true
  have : Txt.lower (nameF (totF rs m)) ≠ Str.ofString "y" := fun z => (lab_y.mp z).2 hb
  simpa using this
theorem y_few (B : Bnd rs) (hE : ∀ m ∈ selF rs (Str.ofString "1") (its2 rs), okc (totF rs m)) {l h : List Int} (sl : Src rs l) (sh : Src rs h) (hD : (totF rs l).b < 0) (hU : 0 < (totF rs h).b) (few : fewF (mkB (zor (pat l) (pat h))) 3 = true) : okc (combR 1 (totF rs l) (totF rs h)) := by
  have fl := sl.facts B
  have fh := sh.facts B
  obtain ⟨t, pt, g⟩ := comb_src B fl fh hD hU
  rw [← t]
  refine hE _ (end_of (List.mem_append_right _ (news_iff.mpr ⟨l, (sel1_iff B).mpr ⟨sl, by omega⟩, h, (sel1_iff B).mpr ⟨sh, by omega⟩, meet_iff.mpr ⟨hD, hU⟩, ?_⟩)) ?_ ?_)
  · unfold layI
    rw [mkN_pat, pt, show (((1 : Nat) : Int) + 2) = 3 from rfl, few]; rfl
  · rw [t]; show (totF rs l).a * _ - (totF rs h).a * _ = 0; rw [fl.a0, fh.a0, Int.zero_mul, Int.zero_mul]; rfl
  · rw [t]; show (totF rs l).b * (totF rs h).b - (totF rs h).b * (totF rs l).b = 0; rw [Int.mul_comm, Int.sub_self]
theorem y_zero (hE : ∀ m ∈ selF rs (Str.ofString "1") (its2 rs), okc (totF rs m)) (B : Bnd rs) {m : List Int} (s : Src rs m) (hb : (totF rs m).b = 0) : okc (totF rs m) := hE _ (end_of (List.mem_append_left _ (its1_of B s)) (s.facts B).a0 hb)
theorem y_pair (B : Bnd rs) (hE : ∀ m ∈ selF rs (Str.ofString "1") (its2 rs), okc (totF rs m)) {l h : List Int} (sl : Src rs l) (sh : Src rs h) (hD : (totF rs l).b < 0) (hU : 0 < (totF rs h).b) : okc (combR 1 (totF rs l) (totF rs h)) := by
  have sl' := sl
  have sh' := sh
  cases sl with
  | @u p r hp h0 =>
    cases sh with
    | @u q r' hq h0' => exact y_few B hE sl' sh' hD hU (few_uu ⟨p, (row_lt B hp).1⟩ ⟨q, (row_lt B hq).1⟩).2
    | @c q q' C D hq hq' hC hDD =>
      refine y_few B hE sl' sh' hD hU ?_
      rw [(comb_unit B hq hq' hC hDD).2.1]
      exact (few_uc ⟨p, (row_lt B hp).1⟩ ⟨q, (row_lt B hq).1⟩ ⟨q', (row_lt B hq').1⟩).1
  | @c p q A C hp hq hA hC =>
    have pl := (comb_unit B hp hq hA hC).2.1
    have tl := (comb_unit B hp hq hA hC).1
    have p4 := (row_lt B hp).1
    have q4 := (row_lt B hq).1
    cases sh with
    | @u p' r' hp' h0' =>
      refine y_few B hE sl' sh' hD hU ?_
      rw [pl]
      exact (few_uc ⟨p', (row_lt B hp').1⟩ ⟨p, p4⟩ ⟨q, q4⟩).2
    | @c p' q' A' C' hp' hq' hA' hC' =>
      have ph := (comb_unit B hp' hq' hA' hC').2.1
      have th := (comb_unit B hp' hq' hA' hC').1
      have p4' := (row_lt B hp').1
      have q4' := (row_lt B hq').1
      have sad : Src rs (combF rs 0 (unitF 4 p) (unitF 4 q')) := .c hp hq' hA hC'
      have scb : Src rs (combF rs 0 (unitF 4 p') (unitF 4 q)) := .c hp' hq hA' hC
      have tad := (comb_unit B hp hq' hA hC').1
      have pad := (comb_unit B hp hq' hA hC').2.1
      have tcb := (comb_unit B hp' hq hA' hC).1
      have pcb := (comb_unit B hp' hq hA' hC).2.1
      have hD0 := hD
      have hU0 := hU
      rw [tl] at hD
      rw [th] at hU
      rw [tl, th]
      refine kohler hA hC hA' hC' ?_ ?_ ?_ ?_ ?_ ?_ hD hU
      · intro z; rw [← tad] at z ⊢; exact y_zero hE B sad z
      · intro z; rw [← tcb] at z ⊢; exact y_zero hE B scb z
      · intro z
        rw [← tad] at z
        rw [← tl, ← tad]
        refine y_few B hE sl' sad hD0 z ?_
        rw [pl, pad]; exact (few_cc ⟨p, p4⟩ ⟨q, q4⟩ ⟨q', q4'⟩).1
      · intro z
        rw [← tcb] at z
        rw [← tl, ← tcb]
        refine y_few B hE sl' scb hD0 z ?_
        rw [pl, pcb]; exact (few_cc ⟨q, q4⟩ ⟨p, p4⟩ ⟨p', p4'⟩).2
      · intro z
        rw [← tad] at z
        rw [← th, ← tad]
        refine y_few B hE sad sh' z hU0 ?_
        rw [ph, pad]; exact (few_cc ⟨q', q4'⟩ ⟨p, p4⟩ ⟨p', p4'⟩).2
      · intro z
        rw [← tcb] at z
        rw [← th, ← tcb]
        refine y_few B hE scb sh' z hU0 ?_
        rw [ph, pcb]; exact (few_cc ⟨p', p4'⟩ ⟨q, q4⟩ ⟨q', q4'⟩).1
end
end Mine

open PySem PySem.W PyProof.Rows
set_option Elab.async false
set_option linter.unusedVariables false
set_option linter.unusedSimpArgs false
set_option maxRecDepth 100000
set_option maxHeartbeats 1000000
namespace Mine
theorem okc_of {rs : List Rw} {m : List Int} (h : badP rs m = false) : okc (totF rs m) := by
  unfold badP at h
  rw [Bool.or_eq_false_iff, Bool.and_eq_false_iff] at h
  obtain ⟨h1, h2⟩ := h
  have h1 : ¬ 0 < (totF rs m).c := of_decide_eq_false h1
  by_cases q : (totF rs m).c = 0
  · refine .inr ⟨q, ?_⟩
    rcases h2 with h2 | h2
    · rw [q] at h2; simp at h2
    · exact h2
  · exact .inl (by first | exact Nat.le_trans (by assumption) (by decide) | omega)
theorem okv_not {v : Int} {s : Bool} (h : okv v s) : (decide (0 < v) || (v == 0 && s)) = false := by
  rcases h with h | ⟨h, hs⟩
  · rw [Bool.or_eq_false_iff, Bool.and_eq_false_iff]
    exact ⟨decide_eq_false (by first | exact Nat.le_trans (by assumption) (by decide) | omega), .inl (by simp; omega)⟩
  · rw [h, hs]; rfl
theorem okv_mul {v k : Int} {s : Bool} (h : okv v s) (hk : 0 < k) : okv (v * k) s := by
  rcases h with h | ⟨h, hs⟩
  · exact .inl (Int.mul_neg_of_neg_of_pos h hk)
  · exact .inr ⟨by rw [h, Int.zero_mul], hs⟩
theorem plain_of {rs : List Rw} (B : Bnd rs) : Plain rs := by
  have s1 : ∀ {m : List Int}, m ∈ selF rs (nmU 1) (itsU rs 1) ↔ Src rs m ∧ (totF rs m).b ≠ 0 := sel1_iff B
  have s0 : ∀ {m : List Int}, m ∈ selF rs (nmU 0) (itsU rs 0) ↔ ∃ p r, rs[p]? = some r ∧ r.a ≠ 0 ∧ m = unitF 4 p := sel0_iff B
  have b1 : ∀ p ∈ ps1F rs, p.1 ≠ 0 ∧ p.1.natAbs ≤ 32 ∧ p.2.natAbs ≤ 80 := fun p hp => by
    obtain ⟨m, hm, rfl⟩ := List.mem_map.mp hp
    obtain ⟨sm, h0⟩ := s1.mp hm
    exact ⟨h0, (sm.facts B).b32, (sm.facts B).c80⟩
  have l1 : (ps1F rs).length ≤ 8 := by unfold ps1F; rw [List.length_map]; exact sel1_len B
  obtain ⟨f1, f2, f3⟩ := place_bound b1 l1
  have cf : ∀ m ∈ selF rs (nmU 0) (itsU rs 0), (totF rs m).a ≠ 0 ∧ (totF rs m).a.natAbs ≤ 4 ∧ (totF rs m).b.natAbs ≤ 4 ∧ (totF rs m).c.natAbs ≤ 10 := fun m hm => by
    obtain ⟨p, r, hp, h0, rfl⟩ := s0.mp hm
    rw [tot_unit B.four hp]
    exact ⟨h0, B.le r (row_lt B hp).2⟩
  refine ⟨B.four, phase0 B, phase1 B, its2_good B, its2_len B, fun p hp => ?_, ⟨f1, f2⟩, fun m hm => ?_, fun p hp => ?_, fun r hr => ?_, fun hE r hr => ?_⟩
  · obtain ⟨_, a, b⟩ := b1 p hp; exact ⟨by omega, by omega⟩
  · obtain ⟨_, _, a, b⟩ := cf m hm; exact ⟨by omega, by omega⟩
  · obtain ⟨m, hm, rfl⟩ := List.mem_map.mp hp
    obtain ⟨_, a, b, c⟩ := cf m hm
    refine ⟨by dsimp only; omega, ?_⟩
    have h1 := abs_mul b (Nat.le_of_lt f1)
    have h2 := abs_mul c (Nat.le_of_lt f2)
    dsimp only
    omega
  · obtain ⟨a, b, c⟩ := B.le r hr; exact ⟨by omega, by omega, c⟩
  · have hE' : ∀ m ∈ selF rs (Str.ofString "1") (its2 rs), okc (totF rs m) := fun m hm => okc_of (hE m hm)
    refine okv_not ?_
    have hbel : 0 < 2 * wholeF (ps1F rs) := by omega
    -- y
    have hy1 : ∀ m ∈ selF rs (nmU 1) (itsU rs 1), okv ((totF rs m).b * placeF (ps1F rs) + (totF rs m).c * (2 * wholeF (ps1F rs))) (totF rs m).s := by
      refine place_ok (l := selF rs (nmU 1) (itsU rs 1)) (q := fun m => (totF rs m).b) (c := fun m => (totF rs m).c) (s := fun m => (totF rs m).s) (fun m hm => (s1.mp hm).2) (fun l hl h hh hD hU => ?_)
      exact y_pair B hE' (s1.mp hl).1 (s1.mp hh).1 hD hU
    have hy : ∀ m, Src rs m → okv ((totF rs m).b * placeF (ps1F rs) + (totF rs m).c * (2 * wholeF (ps1F rs))) (totF rs m).s := fun m sm => by
      by_cases hb : (totF rs m).b = 0
      · rw [hb, Int.zero_mul, Int.zero_add]
        exact okv_mul (y_zero hE' B sm hb) hbel
      · exact hy1 m (s1.mpr ⟨sm, hb⟩)
    generalize placeF (ps1F rs) = H at *
    generalize 2 * wholeF (ps1F rs) = L at *
    -- x
    have hx : ∀ m ∈ selF rs (nmU 0) (itsU rs 0), okv ((totF rs m).a * placeF (ps0F rs H L) + ((totF rs m).b * H + (totF rs m).c * L) * (2 * wholeF (ps0F rs H L))) (totF rs m).s := by
      refine place_ok (l := selF rs (nmU 0) (itsU rs 0)) (q := fun m => (totF rs m).a) (c := fun m => (totF rs m).b * H + (totF rs m).c * L) (s := fun m => (totF rs m).s) (fun m hm => (cf m hm).1) (fun l hl h hh hD hU => ?_)
      obtain ⟨p, A, hp, _, rfl⟩ := s0.mp hl
      obtain ⟨q, C, hq, _, rfl⟩ := s0.mp hh
      rw [tot_unit B.four hp] at hD ⊢
      rw [tot_unit B.four hq] at hU ⊢
      have := hy _ (.c hp hq hD hU)
      rw [(comb_unit B hp hq hD hU).1] at this
      have e : (A.b * H + A.c * L) * C.a - (C.b * H + C.c * L) * A.a = (combR 0 A C).b * H + (combR 0 A C).c * L := by
        show _ = (A.b * C.a - C.b * A.a) * H + (A.c * C.a - C.c * A.a) * L
        grind
      rw [e]; exact this
    have hund : 0 < 2 * wholeF (ps0F rs H L) := by
      have := whole_pos (ps := ps0F rs H L) fun p hp => by
        obtain ⟨m, hm, rfl⟩ := List.mem_map.mp hp
        exact (cf m hm).1
      omega
    generalize placeF (ps0F rs H L) = W at *
    generalize 2 * wholeF (ps0F rs H L) = U at *
    obtain ⟨p, hp⟩ := List.getElem?_of_mem hr
    have t := tot_unit B.four hp
    unfold worthF
    have e : r.a * W + r.b * H * U + r.c * L * U = r.a * W + (r.b * H + r.c * L) * U := by grind
    rw [e]
    by_cases h0 : r.a = 0
    · rw [h0, Int.zero_mul, Int.zero_add]
      have := hy _ (.u hp h0)
      rw [t] at this
      exact okv_mul this hund
    · have := hx _ (s0.mpr ⟨p, r, hp, h0, rfl⟩)
      rw [t] at this
      exact this
end Mine

open PySem PySem.W PyProof.Rows
set_option Elab.async false
set_option linter.unusedVariables false
set_option linter.unusedSimpArgs false
set_option maxRecDepth 100000
set_option maxHeartbeats 1000000
namespace Mine
/-! # a text cut into symbols -/
open Builtin.Str in
theorem slice_at (x : Str) {a b : Nat} (hab : a ≤ b) (ha : a ≤ x.length) : (Txt.slice x (some (a : Int)) (some (b : Int))).cps.toList = (x.cps.toList.drop a).take (b - a) := by
  have hlen : x.cps.toList.length = x.length := by rw [Array.length_toList]; rfl
  have e0 : strSliceIndices (some (a : Int)) (some (b : Int)) 1 x.length = strSliceIndices (some (a : Int)) (some ((min b x.length : Nat) : Int)) 1 x.length := by
    have h2 : ¬ ((b : Int) < 0) := by omega
    have h3 : ¬ (((min b x.length : Nat) : Int) < 0) := by omega
    have e : max (0 : Int) (min (b : Int) (x.length : Int)) = max (0 : Int) (min ((min b x.length : Nat) : Int) (x.length : Int)) := by omega
    simp only [strSliceIndices, h2, h3, if_false, show ((1 : Int) > 0) = True from by simp, if_true, e]
  have hab' : a ≤ min b x.length := by omega
  have hb' : min b x.length ≤ x.length := by omega
  have e1 : (x.cps.toList.drop a).take (b - a) = (x.cps.toList.drop a).take (min b x.length - a) := by
    by_cases h : b ≤ x.length
    · rw [Nat.min_eq_left h]
    · rw [Nat.min_eq_right (by first | exact Nat.le_trans (by assumption) (by decide) | omega), List.take_of_length_le (by rw [List.length_drop, hlen]; omega), List.take_of_length_le (by rw [List.length_drop, hlen]; omega)]
  unfold Txt.slice
  rw [e0, e1]
  split
  · rename_i h
    rw [StrLaws.strSliceIndices_plain hab' hb'] at h
    have h : min b x.length - a = x.length := by first | exact of_decide_eq_true h | exact of_decide_eq_false h | exact bne_iff_ne.mp h | exact eq_of_beq h | simpa using h
    by_cases hz : x.length = 0
    · have : x.cps.toList = [] := List.eq_nil_of_length_eq_zero (by rw [hlen]; exact hz)
      rw [this]; simp
    · have ha0 : a = 0 := by omega
      subst ha0
      rw [List.drop_zero, h, List.take_of_length_le (by first | exact Nat.le_trans (by assumption) (by decide) | omega)]
  · rw [List.toList_toArray, StrLaws.sliced_plain x hab' hb']
theorem slc_at (x : Str) {i : Nat} (z : Nat) (hi : i ≤ x.length) : slc x (i : Int) (z : Int) = ⟨((x.cps.toList.drop i).take z).toArray⟩ := by
  have h := slice_at x (a := i) (b := i + z) (by first | exact Nat.le_trans (by assumption) (by decide) | omega) hi
  rw [Nat.add_sub_cancel_left] at h
  unfold slc
  have e : ((i : Int) + (z : Int)) = ((i + z : Nat) : Int) := by omega
  rw [e]
  generalize Txt.slice x (some (i : Int)) (some ((i + z : Nat) : Int)) = y at h
  cases y
  dsimp only at h
  rw [← h]
/-- the signs of the text -/
noncomputable def abc : List Nat := [48, 49, 50, 51, 52, 53, 54, 55, 56, 57, 42, 43, 45, 60, 61, 62, 59, 120, 88, 121, 89]
noncomputable def dgl (c : Nat) : Bool := [48, 49, 50, 51, 52, 53, 54, 55, 56, 57, 120, 88, 121, 89].contains c
noncomputable def adj (c d : Nat) : Bool := (d != 42 || dgl c) && (d != 61 || (c == 60 || c == 62)) && (!(d == 60 || d == 62) || dgl c)
noncomputable def sg1 (c : Nat) : Int := if c = 42 then 16 else if c = 43 then 14 else if c = 45 then 15 else if c = 59 then 13 else if c = 60 then 20 else if c = 62 then 21 else if c = 61 then 22 else 256 + (c : Int)
noncomputable def tokL (l : List Nat) : Option Int := match tokQ ⟨l.toArray⟩ with
  | some (.int i) => some i
  | some _ => some 0
  | none => none
theorem tok_mem {x : Str} : ∀ {l : List (Str × PyData)}, (Spec.lookup (.str x) (l.map fun p => (PyData.str p.1, p.2))).isSome = true → ∃ p ∈ l, p.1 = x
  | [], h => by cases h
  | p :: r, h => by
    rw [List.map_cons] at h
    unfold Spec.lookup at h
    by_cases q : (p.1 == x) = true
    · exact ⟨p, List.mem_cons_self, by first | exact of_decide_eq_true q | exact of_decide_eq_false q | exact bne_iff_ne.mp q | exact eq_of_beq q | simpa using q⟩
    · have e : Spec.same (PyData.str p.1) (.str x) = (p.1 == x) := by simp [Spec.same]
      rw [e, if_neg q] at h
      obtain ⟨p', h1, h2⟩ := tok_mem h
      exact ⟨p', List.mem_cons_of_mem _ h1, h2⟩
theorem tokL_some {l : List Nat} (h : (tokL l).isSome = true) : ∃ p ∈ tokD, p.1.cps.toList = l := by
  have h' : (tokQ ⟨l.toArray⟩).isSome = true := by
    unfold tokL at h
    split at h
    · rename_i q; rw [q]; rfl
    · rename_i q; rw [q]; rfl
    · cases h
  obtain ⟨p, hp, e⟩ := tok_mem h'
  exact ⟨p, hp, by rw [e]⟩
theorem tok_long : tokD.all (fun p => match p.1.cps.toList with
    | [c] => true
    | [c, d] => (d == 61 && (c == 60 || c == 62)) || (!adj c d || !abc.contains c)
    | [c, d, e] => !adj c d || !abc.contains c
    | _ => false) = true := by decide +kernel
theorem tok1 : abc.all (fun c => tokL [c] == if sg1 c < 256 then some (sg1 c) else none) = true := by decide +kernel
theorem tok_le : tokL [60, 61] = some 29 ∧ tokL [62, 61] = some 30 := by decide +kernel
theorem tok2_no {c d : Nat} (hc : c ∈ abc) (ha : adj c d = true) (hn : ¬ (d = 61 ∧ (c = 60 ∨ c = 62))) : tokL [c, d] = none := by
  cases q : tokL [c, d] with
  | none => rfl
  | some i =>
    obtain ⟨p, hp, e⟩ := tokL_some (l := [c, d]) (by rw [q]; rfl)
    have := List.all_eq_true.mp tok_long p hp
    rw [e] at this
    simp only [Bool.or_eq_true, Bool.and_eq_true, beq_iff_eq, ha, Bool.not_true, Bool.false_eq_true, false_or, Bool.not_eq_true', List.contains_eq_mem, decide_eq_false_iff_not] at this
    rcases this with h | h
    · exact absurd h hn
    · exact absurd hc h
theorem tok3_no {c d e : Nat} (hc : c ∈ abc) (ha : adj c d = true) : tokL [c, d, e] = none := by
  cases q : tokL [c, d, e] with
  | none => rfl
  | some i =>
    obtain ⟨p, hp, e'⟩ := tokL_some (l := [c, d, e]) (by rw [q]; rfl)
    have := List.all_eq_true.mp tok_long p hp
    rw [e'] at this
    simp only [Bool.or_eq_true, ha, Bool.not_true, Bool.false_eq_true, false_or, Bool.not_eq_true', List.contains_eq_mem, decide_eq_false_iff_not] at this
    exact absurd hc this
theorem tok1_at {c : Nat} (hc : c ∈ abc) : tokL [c] = if sg1 c < 256 then some (sg1 c) else none := by
  have := List.all_eq_true.mp tok1 c hc
  simpa using this
end Mine

open PySem PySem.W PyProof.Rows
set_option Elab.async false
set_option linter.unusedVariables false
set_option linter.unusedSimpArgs false
set_option maxRecDepth 100000
set_option maxHeartbeats 1000000
namespace Mine
noncomputable def lexL : List Nat → List Int
  | [] => []
  | [c] => [sg1 c]
  | c :: d :: r => if d = 61 ∧ (c = 60 ∨ c = 62) then (if c = 60 then 29 else 30) :: lexL r else sg1 c :: lexL (d :: r)
theorem lexL_two (c d : Nat) (r : List Nat) : lexL (c :: d :: r) = if d = 61 ∧ (c = 60 ∨ c = 62) then (if c = 60 then 29 else 30) :: lexL r else sg1 c :: lexL (d :: r) := by
  conv => lhs; unfold lexL
noncomputable def okL : List Nat → Prop
  | [] => True
  | [c] => c ∈ abc ∧ dgl c = true
  | c :: d :: r => c ∈ abc ∧ adj c d = true ∧ okL (d :: r)
theorem okL_tail {c : Nat} : ∀ {r : List Nat}, okL (c :: r) → okL r
  | [], _ => trivial
  | _ :: _, h => h.2.2
theorem dgl_hi : ∀ c ∈ abc, dgl c = true → 256 ≤ sg1 c ∧ c ≠ 61 := by
  have : abc.all (fun c => !dgl c || (decide (256 ≤ sg1 c) && decide (c ≠ 61))) = true := by decide +kernel
  intro c hc hd
  have := List.all_eq_true.mp this c hc
  simpa [hd] using this
theorem hi_sg1 : ∀ c ∈ abc, 256 ≤ sg1 c → sg1 c = 256 + (c : Int) := by
  have : abc.all (fun c => decide (sg1 c < 256) || decide (sg1 c = 256 + (c : Int))) = true := by decide +kernel
  intro c hc hd
  have := List.all_eq_true.mp this c hc
  simp only [Bool.or_eq_true, decide_eq_true_eq] at this
  omega
theorem tokI_of {l : List Nat} {i : Int} (h : tokL l = some i) : tokI ⟨l.toArray⟩ = i := by
  unfold tokL at h
  unfold tokI
  split at h
  · rename_i q; rw [q]; cases h; rfl
  · rename_i v hv q
    rw [q]
    cases h
    split
    · rename_i e; cases e; exact absurd rfl (hv _)
    · rfl
  · cases h
theorem isSome_tokL (l : List Nat) : (tokQ ⟨l.toArray⟩).isSome = (tokL l).isSome := by
  unfold tokL
  split <;> rename_i q <;> rw [q] <;> rfl
section
variable {x : Str}
theorem sizes_eq {i : Nat} {l : List Nat} (hi : i ≤ x.length) (hd : x.cps.toList.drop i = l) : sizes x (i : Int) = (if (tokL (l.take 3)).isSome then [3] else []) ++ ((if (tokL (l.take 2)).isSome then [2] else []) ++ (if (tokL (l.take 1)).isSome then [1] else [])) := by
  unfold sizes
  have a3 := slc_at x (i := i) 3 hi
  have a2 := slc_at x (i := i) 2 hi
  have a1 := slc_at x (i := i) 1 hi
  rw [hd] at a1 a2 a3
  have e3 : slc x (i : Int) 3 = ⟨(l.take 3).toArray⟩ := a3
  have e2 : slc x (i : Int) 2 = ⟨(l.take 2).toArray⟩ := a2
  have e1 : slc x (i : Int) 1 = ⟨(l.take 1).toArray⟩ := a1
  simp only [List.filter_cons, List.filter_nil, e1, e2, e3, isSome_tokL]
  cases (tokL (l.take 3)).isSome <;> cases (tokL (l.take 2)).isSome <;> cases (tokL (l.take 1)).isSome <;> rfl
theorem sym_one {i : Nat} {c : Nat} {rest : List Nat} (hi : i < x.length) (hd : x.cps.toList.drop i = c :: rest) (hc : c ∈ abc) (h3 : tokL ((c :: rest).take 3) = none) (h2 : tokL ((c :: rest).take 2) = none) : sizeAt x (i : Int) ≤ 1 ∧ symAt x i = sg1 c := by
  have hs := sizes_eq (x := x) (i := i) (Nat.le_of_lt hi) hd
  rw [h3, h2] at hs
  have ht : (c :: rest).take 1 = [c] := rfl
  rw [ht, tok1_at hc] at hs
  have hg : x.cps.getD i 0 = c := by
    have : x.cps.toList[i]? = some c := by rw [← List.head?_drop, hd]; rfl
    rw [Array.getElem?_toList] at this
    rw [Array.getD_eq_getD_getElem?, this]; rfl
  by_cases q : sg1 c < 256
  · rw [if_pos q] at hs
    have hz : sizeAt x (i : Int) = 1 := by unfold sizeAt; rw [hs]; rfl
    refine ⟨by rw [hz]; exact Int.le_refl _, ?_⟩
    unfold symAt
    rw [hz, if_pos (by decide)]
    have a1 := slc_at x (i := i) 1 (Nat.le_of_lt hi)
    rw [hd] at a1
    have e1 : slc x (i : Int) 1 = ⟨[c].toArray⟩ := a1
    rw [e1]
    exact tokI_of (by rw [tok1_at hc, if_pos q])
  · rw [if_neg q] at hs
    have hz : sizeAt x (i : Int) = 0 := by unfold sizeAt; rw [hs]; rfl
    refine ⟨by rw [hz]; decide, ?_⟩
    unfold symAt
    rw [hz, if_neg (by decide), hg]
    exact (hi_sg1 c hc (by first | exact Nat.le_trans (by assumption) (by decide) | omega)).symm
theorem sym_two {i : Nat} {c : Nat} {r : List Nat} (hi : i < x.length) (hd : x.cps.toList.drop i = c :: 61 :: r) (hc : c = 60 ∨ c = 62) (h3 : tokL ((c :: 61 :: r).take 3) = none) : sizeAt x (i : Int) = 2 ∧ symAt x i = (if c = 60 then 29 else 30) := by
  have hs := sizes_eq (x := x) (i := i) (Nat.le_of_lt hi) hd
  have ht : (c :: 61 :: r).take 2 = [c, 61] := rfl
  have h2 : tokL [c, 61] = some (if c = 60 then 29 else 30) := by
    rcases hc with rfl | rfl
    · exact tok_le.1
    · exact tok_le.2
  rw [h3, ht, h2] at hs
  have hz : sizeAt x (i : Int) = 2 := by unfold sizeAt; rw [hs]; rfl
  refine ⟨hz, ?_⟩
  unfold symAt
  rw [hz, if_pos (by decide)]
  have a1 := slc_at x (i := i) 2 (Nat.le_of_lt hi)
  rw [hd] at a1
  have e1 : slc x (i : Int) 2 = ⟨[c, 61].toArray⟩ := a1
  rw [e1]
  exact tokI_of h2
theorem lex_go (n : Nat) (hn : x.length = n) : ∀ (k i : Nat), i + k = n → okL (x.cps.toList.drop i) → ((lexSt x i).2 ≤ (i : Int) → (lexSt x n).1 = (lexSt x i).1 ++ lexL (x.cps.toList.drop i)) ∧ ((lexSt x i).2 = (i : Int) + 1 → (lexSt x n).1 = (lexSt x i).1 ++ lexL (x.cps.toList.drop (i + 1)))
  | 0, i, h, _ => by
    have hi : i = n := by omega
    subst hi
    have hlen : x.cps.toList.length = i := by rw [Array.length_toList]; exact hn
    have h1 : x.cps.toList.drop i = [] := List.drop_eq_nil_of_le (by first | exact Nat.le_trans (by assumption) (by decide) | omega)
    have h2 : x.cps.toList.drop (i + 1) = [] := List.drop_eq_nil_of_le (by first | exact Nat.le_trans (by assumption) (by decide) | omega)
    rw [h1, h2]
    exact ⟨fun _ => by simp [lexL], fun _ => by simp [lexL]⟩
  | k + 1, i, h, ok => by
    have hlen : x.cps.toList.length = n := by rw [Array.length_toList]; exact hn
    have hi : i < x.length := by omega
    obtain ⟨c, rest, hd⟩ : ∃ c rest, x.cps.toList.drop i = c :: rest := by
      cases q : x.cps.toList.drop i with
      | nil => have := congrArg List.length q; rw [List.length_drop, hlen] at this; simp at this; omega
      | cons c r => exact ⟨c, r, rfl⟩
    have hd1 : x.cps.toList.drop (i + 1) = rest := by rw [← List.tail_drop, hd]; rfl
    rw [hd] at ok
    have ih := lex_go n hn k (i + 1) (by first | exact Nat.le_trans (by assumption) (by decide) | omega) (by rw [hd1]; exact okL_tail ok)
    have step : lexSt x (i + 1) = if (lexSt x i).2 ≤ (i : Int) then ((lexSt x i).1 ++ [symAt x i], (i : Int) + (if 1 < sizeAt x i then sizeAt x i else 1)) else lexSt x i := rfl
    have hcast : (((i + 1 : Nat) : Int)) = (i : Int) + 1 := by omega
    rw [hd1] at ih
    constructor
    · intro hle
      rw [if_pos hle] at step
      rw [hd]
      -- one sign alone
      have single : tokL ((c :: rest).take 3) = none → tokL ((c :: rest).take 2) = none → c ∈ abc → (lexSt x n).1 = (lexSt x i).1 ++ sg1 c :: lexL rest := fun h3 h2 hc => by
        obtain ⟨z1, z2⟩ := sym_one hi hd hc h3 h2
        rw [if_neg (by first | exact Nat.le_trans (by assumption) (by decide) | omega), z2] at step
        have := ih.1 (by rw [step]; dsimp only; omega)
        rw [this, step]
        simp
      cases rest with
      | nil =>
        obtain ⟨hc, hg⟩ := ok
        have hno : tokL [c] = none := by rw [tok1_at hc, if_neg (by have := (dgl_hi c hc hg).1; omega)]
        rw [single hno hno hc]; rfl
      | cons d r =>
        obtain ⟨hc, ha, okr⟩ := ok
        have h3 : tokL ((c :: d :: r).take 3) = none := by
          cases r with
          | nil =>
            obtain ⟨hd', hg⟩ := okr
            exact tok2_no hc ha fun z => (dgl_hi d hd' hg).2 z.1
          | cons e r => exact tok3_no hc ha
        by_cases q : d = 61 ∧ (c = 60 ∨ c = 62)
        · obtain ⟨rfl, q⟩ := q
          obtain ⟨z1, z2⟩ := sym_two hi hd q h3
          rw [z1, if_pos (by decide), z2] at step
          have := ih.2 (by rw [step]; dsimp only; omega)
          have hd2 : x.cps.toList.drop (i + 1 + 1) = r := by rw [← List.tail_drop, hd1]; rfl
          rw [hd2] at this
          rw [this, step, lexL_two, if_pos (show 61 = 61 ∧ (c = 60 ∨ c = 62) from ⟨rfl, q⟩)]
          simp
        · rw [single h3 (tok2_no hc ha q) hc]
          rw [lexL_two, if_neg q]
    · intro heq
      rw [if_neg (by first | exact Nat.le_trans (by assumption) (by decide) | omega)] at step
      rw [hd1]
      have := ih.1 (by rw [step]; omega)
      rw [this, step]
theorem syms_eq (ok : okL x.cps.toList) : syms x = lexL x.cps.toList := by
  have := (lex_go (x := x) x.length rfl x.length 0 (by first | exact Nat.le_trans (by assumption) (by decide) | omega) (by rw [List.drop_zero]; exact ok)).1 (Int.le_refl _)
  unfold syms
  rw [this]
  rfl
end
end Mine

open PySem PySem.W PyProof.Rows
set_option Elab.async false
set_option linter.unusedVariables false
set_option linter.unusedSimpArgs false
set_option maxRecDepth 100000
set_option maxHeartbeats 1000000
namespace Mine
/-! # the signs of a comparison -/
noncomputable def chainL : List Nat → Bool
  | [] => true
  | [c] => abc.contains c
  | c :: d :: r => abc.contains c && (adj c d && chainL (d :: r))
theorem okL_of : ∀ {l : List Nat}, chainL l = true → (∀ c, l.getLast? = some c → dgl c = true) → okL l
  | [], _, _ => trivial
  | [c], h, hl => ⟨by simpa [chainL] using h, hl c rfl⟩
  | c :: d :: r, h, hl => by
    unfold chainL at h
    simp only [Bool.and_eq_true] at h
    exact ⟨by simpa using h.1, h.2.1, okL_of h.2.2 fun e he => hl e (by rw [List.getLast?_cons_cons]; exact he)⟩
theorem chain_app : ∀ {a b : List Nat}, chainL a = true → chainL b = true → (∀ c d, a.getLast? = some c → b.head? = some d → adj c d = true) → chainL (a ++ b) = true
  | [], b, _, hb, _ => hb
  | [c], [], ha, _, _ => ha
  | [c], d :: r, ha, hb, h => by
    have := h c d rfl rfl
    show (abc.contains c && (adj c d && chainL (d :: r))) = true
    rw [this, hb]
    simpa [chainL] using ha
  | c :: d :: a, b, ha, hb, h => by
    unfold chainL at ha
    simp only [Bool.and_eq_true] at ha
    show (abc.contains c && (adj c d && chainL ((d :: a) ++ b))) = true
    rw [ha.1, ha.2.1, chain_app ha.2.2 hb fun e f he hf => h e f (by rw [List.getLast?_cons_cons]; exact he) hf]
    rfl
theorem chain_abc : ∀ {l : List Nat}, chainL l = true → ∀ c ∈ l, c ∈ abc
  | [c], h, d, hd => by rw [List.mem_singleton.mp hd]; simpa [chainL] using h
  | c :: d :: r, h, e, he => by
    unfold chainL at h
    simp only [Bool.and_eq_true] at h
    rcases List.mem_cons.mp he with z | he
    · subst z; simpa using h.1
    · exact chain_abc h.2.2 e he
structure Pc (l : List Nat) : Prop where
  chain : chainL l = true
  hd : ∃ h t, l = h :: t ∧ (h = 43 ∨ h = 45 ∨ h = 48)
  last : ∃ c, l.getLast? = some c ∧ dgl c = true
theorem adj_sign {c d : Nat} (h : d = 43 ∨ d = 45 ∨ d = 48 ∨ d = 59) : adj c d = true := by
  unfold adj
  rcases h with rfl | rfl | rfl | rfl <;> simp
theorem Pc.ok {l : List Nat} (h : Pc l) : okL l := okL_of h.chain fun c hc => by
  obtain ⟨d, e, hd⟩ := h.last
  rw [hc] at e; cases e; exact hd
theorem Pc.ne {l : List Nat} (h : Pc l) : l ≠ [] := by
  obtain ⟨x, t, e, _⟩ := h.hd; rw [e]; simp
theorem last_app {a b : List Nat} (hb : b ≠ []) : (a ++ b).getLast? = b.getLast? := by
  rw [List.getLast?_append]
  cases h : b.getLast? with
  | none => rw [List.getLast?_eq_none_iff] at h; exact absurd h hb
  | some c => rfl
/-- pieces side by side, with some signs between -/
theorem Pc.join {a b m : List Nat} (ha : Pc a) (hb : Pc b) (hm : chainL m = true) (h1 : ∀ c d, dgl c = true → m.head? = some d → adj c d = true) : Pc (a ++ (m ++ b)) := by
  obtain ⟨x, t, e, hx⟩ := ha.hd
  obtain ⟨y, u, f, hy⟩ := hb.hd
  obtain ⟨c, hc, gc⟩ := ha.last
  obtain ⟨d, hd, gd⟩ := hb.last
  have hmb : chainL (m ++ b) = true := chain_app hm hb.chain fun p q _ hq => by
    rw [f] at hq; cases hq; exact adj_sign (by rcases hy with h | h | h <;> simp [h])
  refine ⟨chain_app ha.chain hmb fun p q hp hq => ?_, ⟨x, t ++ (m ++ b), by rw [e]; rfl, hx⟩, ⟨d, ?_, gd⟩⟩
  · rw [hc] at hp; cases hp
    cases m with
    | nil =>
      rw [List.nil_append, f] at hq; cases hq
      exact adj_sign (by rcases hy with h | h | h <;> simp [h])
    | cons z r => exact h1 _ _ gc hq
  · rw [last_app (by simp [hb.ne]), last_app hb.ne]; exact hd
noncomputable def digs (n : Nat) : List Nat := if n = 10 then [49, 48] else [48 + n]
noncomputable def itemL (w : Int) (e : List Nat) : List Nat := (if w < 0 then 45 else 43) :: (digs w.natAbs ++ e)
noncomputable def tails : List (List Nat) := [[], [42, 120], [42, 88], [42, 121], [42, 89]]
noncomputable def pcB (l : List Nat) : Bool := chainL l && ((match l with | h :: _ => h == 43 || h == 45 || h == 48 | [] => false) && (match l.getLast? with | some c => dgl c | none => false))
theorem pc_of {l : List Nat} (h : pcB l = true) : Pc l := by
  unfold pcB at h
  simp only [Bool.and_eq_true] at h
  obtain ⟨h1, h2, h3⟩ := h
  refine ⟨h1, ?_, ?_⟩
  · cases l with
    | nil => cases h2
    | cons a t => exact ⟨a, t, rfl, by simpa [or_assoc] using h2⟩
  · cases q : l.getLast? with
    | none => rw [q] at h3; cases h3
    | some c => rw [q] at h3; exact ⟨c, rfl, h3⟩
theorem items_pc : tails.all (fun e => (List.range 11).all fun n => pcB (43 :: (digs n ++ e)) && pcB (45 :: (digs n ++ e))) = true := by decide +kernel
theorem item_pc {w : Int} {e : List Nat} (hw : w.natAbs ≤ 10) (he : e ∈ tails) : Pc (itemL w e) := by
  have := List.all_eq_true.mp (List.all_eq_true.mp items_pc e he) w.natAbs (List.mem_range.mpr (by first | exact Nat.le_trans (by assumption) (by decide) | omega))
  simp only [Bool.and_eq_true] at this
  unfold itemL
  split
  · exact pc_of this.2
  · exact pc_of this.1
theorem zero_pc : Pc [48] := pc_of (by decide +kernel)
/-! ## the text's own signs -/
theorem digs_eq : ∀ n : Fin 11, (Str.ofString (toString ((n.val : Nat) : Int))).cps.toList = digs n.val := by decide +kernel
noncomputable def leL (N : Int) : Nat → List Nat
  | 0 => [42, if bt N 3 = 0 then 120 else 88]
  | 1 => [42, if bt N 4 = 0 then 121 else 89]
  | _ => []
theorem app_cps (x y : Str) : (x ++ y).cps.toList = x.cps.toList ++ y.cps.toList := by
  show (x.cps ++ y.cps).toList = _
  rw [Array.toList_append]
theorem worth_le (N : Int) (k : Nat) : (worth N k).natAbs ≤ 10 ∧ (coef N k).natAbs ≤ 10 ∧ (k < 2 → (coef N k).natAbs ≤ 4) := by
  have hc : (coef N k).natAbs ≤ 10 ∧ (k < 2 → (coef N k).natAbs ≤ 4) := by
    match k with
    | 0 => show (N % 9 - 4).natAbs ≤ 10 ∧ (0 < 2 → (N % 9 - 4).natAbs ≤ 4); omega
    | 1 => show (N / 9 % 9 - 4).natAbs ≤ 10 ∧ (1 < 2 → (N / 9 % 9 - 4).natAbs ≤ 4); omega
    | k + 2 => show (N / 81 % 21 - 10).natAbs ≤ 10 ∧ (k + 2 < 2 → _); omega
  refine ⟨?_, hc⟩
  unfold worth
  split <;> omega
theorem le_tails (N : Int) (k : Nat) : leL N k ∈ tails := by
  unfold tails
  match k with
  | 0 => show [42, if bt N 3 = 0 then 120 else 88] ∈ _; by_cases h : bt N 3 = 0 <;> simp [h]
  | 1 => show [42, if bt N 4 = 0 then 121 else 89] ∈ _; by_cases h : bt N 4 = 0 <;> simp [h]
  | k + 2 => simp [leL]
theorem item_cps (N : Int) (k : Nat) : (itemS N k).cps.toList = itemL (worth N k) (leL N k) := by
  obtain ⟨hw, _, _⟩ := worth_le N k
  have hdig : (Str.ofString (toString (if worth N k < 0 then -worth N k else worth N k))).cps.toList = digs (worth N k).natAbs := by
    have := digs_eq ⟨(worth N k).natAbs, by omega⟩
    dsimp only at this
    rw [← this]
    congr 4
    split <;> omega
  have hle : (letc N k).cps.toList = leL N k := by
    have h42 : (Str.ofString "*").cps.toList = [42] := by decide +kernel
    match k with
    | 0 => show (Str.ofString "*" ++ (⟨#[if bt N 3 = 0 then 120 else 88]⟩ : Str)).cps.toList = _; rw [app_cps, h42]; rfl
    | 1 => show (Str.ofString "*" ++ (⟨#[if bt N 4 = 0 then 121 else 89]⟩ : Str)).cps.toList = _; rw [app_cps, h42]; rfl
    | k + 2 => rfl
  have h45 : (Str.ofString "-").cps.toList = [45] := by decide +kernel
  have h43 : (Str.ofString "+").cps.toList = [43] := by decide +kernel
  unfold itemS itemL
  rw [app_cps, app_cps, hdig, hle]
  split
  · rw [h45]; simp
  · rw [h43]; simp
/-! ## a side of a comparison -/
theorem side_pc (N j : Int) : ∀ k, side N j k = Str.ofString "" ∨ Pc (side N j k).cps.toList
  | 0 => .inl rfl
  | k + 1 => by
    have ih := side_pc N j k
    have hi : Pc (itemS N k).cps.toList := by rw [item_cps]; exact item_pc (worth_le N k).1 (le_tails N k)
    unfold side
    split
    · right
      rw [app_cps]
      rcases ih with h | h
      · rw [h]; exact hi
      · exact h.join (m := []) hi rfl fun c d _ h => by cases h
    · exact ih
theorem orz_pc (N j : Int) : Pc (orz (side N j 3)).cps.toList ∧ (side N j 3 = Str.ofString "" → (orz (side N j 3)).cps.toList = [48]) ∧ (side N j 3 ≠ Str.ofString "" → orz (side N j 3) = side N j 3) := by
  have h48 : (Str.ofString "0").cps.toList = [48] := by decide +kernel
  rcases side_pc N j 3 with h | h
  · have e : orz (side N j 3) = Str.ofString "0" := by rw [h]; rfl
    rw [e, h48]
    exact ⟨zero_pc, fun _ => rfl, fun z => absurd h z⟩
  · have hne : (side N j 3).length ≠ 0 := fun z => h.ne (List.eq_nil_of_length_eq_zero (by rw [Array.length_toList]; exact z))
    have e : orz (side N j 3) = side N j 3 := by unfold orz; rw [if_pos (by first | exact of_decide_eq_true hne | exact of_decide_eq_false hne | exact bne_iff_ne.mp hne | exact eq_of_beq hne | simpa using hne)]
    rw [e]
    exact ⟨h, fun z => absurd (by rw [z]; rfl) hne, fun _ => rfl⟩
noncomputable def opL (N : Int) : List Nat := if N / 1701 % 4 = 0 then [60] else if N / 1701 % 4 = 1 then [60, 61] else if N / 1701 % 4 = 2 then [62] else [62, 61]
theorem ops_cps (N : Int) : (ops N).cps.toList = opL N := by
  have a : (Str.ofString "<").cps.toList = [60] := by decide +kernel
  have b : (Str.ofString "<=").cps.toList = [60, 61] := by decide +kernel
  have c : (Str.ofString ">").cps.toList = [62] := by decide +kernel
  have d : (Str.ofString ">=").cps.toList = [62, 61] := by decide +kernel
  unfold ops opL
  repeat' split
  all_goals assumption
noncomputable def rowL (N : Int) : List Nat := (orz (side N 0 3)).cps.toList ++ (opL N ++ (orz (side N 1 3)).cps.toList)
theorem text_cps (N : Int) : (textS N).cps.toList = rowL N := by
  unfold textS rowL
  rw [app_cps, app_cps, ops_cps, List.append_assoc]
theorem op_adj : ∀ c ∈ abc, dgl c = true → adj c 60 = true ∧ adj c 62 = true ∧ adj c 59 = true := by
  have : abc.all (fun c => !dgl c || (adj c 60 && (adj c 62 && adj c 59))) = true := by decide +kernel
  intro c hc hd
  have := List.all_eq_true.mp this c hc
  simpa [hd] using this
theorem dgl_adj {c d : Nat} (h : dgl c = true) (hd : d = 60 ∨ d = 62 ∨ d = 59) : adj c d = true := by
  have hc : c ∈ abc := by
    have : ([48, 49, 50, 51, 52, 53, 54, 55, 56, 57, 120, 88, 121, 89] : List Nat).all (fun c => abc.contains c) = true := by decide +kernel
    have h' : c ∈ ([48, 49, 50, 51, 52, 53, 54, 55, 56, 57, 120, 88, 121, 89] : List Nat) := by unfold dgl at h; simpa using h
    simpa using List.all_eq_true.mp this c h'
  obtain ⟨a, b, e⟩ := op_adj c hc h
  rcases hd with rfl | rfl | rfl
  · exact a
  · exact b
  · exact e
theorem row_pc (N : Int) : Pc (rowL N) := by
  refine (orz_pc N 0).1.join (orz_pc N 1).1 ?_ fun c d hc hd => ?_
  · unfold opL; repeat' split
    all_goals decide +kernel
  · refine dgl_adj hc ?_
    unfold opL at hd
    repeat' split at hd
    all_goals (cases hd; simp)
end Mine

open PySem PySem.W PyProof.Rows
set_option Elab.async false
set_option linter.unusedVariables false
set_option linter.unusedSimpArgs false
set_option maxRecDepth 100000
set_option maxHeartbeats 1000000
namespace Mine
theorem lex_app : ∀ (a : List Nat) {b : List Nat}, b.head? ≠ some 61 → lexL (a ++ b) = lexL a ++ lexL b
  | [], b, _ => rfl
  | [c], [], _ => rfl
  | [c], d :: r, h => by
    have hd : d ≠ 61 := fun z => h (by rw [z]; rfl)
    show lexL (c :: d :: r) = sg1 c :: lexL (d :: r)
    rw [lexL_two, if_neg fun z => hd z.1]
  | c :: d :: a, b, h => by
    show lexL (c :: d :: (a ++ b)) = lexL (c :: d :: a) ++ lexL b
    rw [lexL_two, lexL_two]
    have h1 := lex_app a h
    have h2 := lex_app (d :: a) h
    split
    · rw [h1]; rfl
    · rw [← List.cons_append, h2]; rfl
/-! # the symbols, read -/
structure St (p : PS) (R : List (List Int)) (s : Int) (v : Nat → Int) (o : Int) : Prop where
  rows : p.rows = R
  side : p.side = s
  row : ∃ a0 a1 a2, p.row = [a0, a1, a2, o] ∧ ((p.place = 0 ∧ a0 + p.sign * s * p.number = v 0 ∧ a1 = v 1 ∧ a2 = v 2) ∨ (p.place = 1 ∧ a0 = v 0 ∧ a1 + p.sign * s * p.number = v 1 ∧ a2 = v 2) ∨ (p.place = 2 ∧ a0 = v 0 ∧ a1 = v 1 ∧ a2 + p.sign * s * p.number = v 2))
theorem flush_eq {p : PS} {R : List (List Int)} {s o : Int} {v : Nat → Int} (h : St p R s v o) (y : Int) : pflush p y = ⟨R, [v 0, v 1, v 2, o], 2, 0, if y = 15 then -1 else 1, s⟩ := by
  obtain ⟨rows, row, place, number, sign, side⟩ := p
  obtain ⟨h1, h2, a0, a1, a2, h3, h4⟩ := h
  dsimp only at h1 h2 h3 h4
  subst h1; subst h2; subst h3
  unfold pflush
  dsimp only
  rcases h4 with ⟨rfl, e0, e1, e2⟩ | ⟨rfl, e0, e1, e2⟩ | ⟨rfl, e0, e1, e2⟩
  · show PS.mk _ [a0 + sign * side * number, a1, a2, o] _ _ _ _ = _
    rw [e0, e1, e2]
  · show PS.mk _ [a0, a1 + sign * side * number, a2, o] _ _ _ _ = _
    rw [e0, e1, e2]
  · show PS.mk _ [a0, a1, a2 + sign * side * number, o] _ _ _ _ = _
    rw [e0, e1, e2]
theorem step_sign {p : PS} {R : List (List Int)} {s o : Int} {v : Nat → Int} (h : St p R s v o) {y : Int} (hy : y = 14 ∨ y = 15) : pstep p y = ⟨R, [v 0, v 1, v 2, o], 2, 0, if y = 15 then -1 else 1, s⟩ := by
  rw [← flush_eq h y]
  unfold pstep
  rcases hy with rfl | rfl <;> rfl
theorem step_digit (p : PS) {d : Nat} (hd : d ≤ 9) : pstep p (304 + (d : Int)) = { p with number := 10 * p.number + d } := by
  unfold pstep
  have h1 : (256 : Int) ≤ 304 + (d : Int) := by omega
  have h2 : isL (304 + (d : Int)) = false := by
    unfold isL
    simp only [Bool.or_eq_false_iff, beq_eq_false_iff_ne]
    omega
  rw [if_pos h1, h2, if_neg (by simp)]
  congr 1
  omega
theorem digs_run (p : PS) {n : Nat} (hn : n ≤ 10) (h0 : p.number = 0) : (lexL (digs n)).foldl pstep p = { p with number := (n : Int) } := by
  have hs : ∀ d : Nat, d ≤ 9 → sg1 (48 + d) = 304 + (d : Int) := by
    intro d hd
    have : ∀ d : Fin 10, sg1 (48 + d.val) = 304 + (d.val : Int) := by decide +kernel
    exact this ⟨d, by omega⟩
  unfold digs
  by_cases q : n = 10
  · subst q
    rw [if_pos rfl]
    have e : lexL [49, 48] = [304 + ((1 : Nat) : Int), 304 + ((0 : Nat) : Int)] := by decide +kernel
    rw [e, List.foldl_cons, List.foldl_cons, List.foldl_nil, step_digit p (by decide), step_digit _ (by decide)]
    dsimp only
    rw [h0]; rfl
  · rw [if_neg q]
    show List.foldl pstep p [sg1 (48 + n)] = _
    rw [hs n (by first | exact Nat.le_trans (by assumption) (by decide) | omega), List.foldl_cons, List.foldl_nil, step_digit p (by first | exact Nat.le_trans (by assumption) (by decide) | omega), h0]
    congr 1
    omega
theorem le_run (p : PS) (N : Int) {k : Nat} (hk : k < 3) (hp : p.place = 2) : (lexL (leL N k)).foldl pstep p = { p with place := (k : Int) } := by
  obtain ⟨rows, row, place, number, sign, side⟩ := p
  have hp : place = 2 := hp
  subst hp
  match k, hk with
  | 0, _ =>
    show (lexL [42, if bt N 3 = 0 then 120 else 88]).foldl pstep _ = _
    split <;> rfl
  | 1, _ =>
    show (lexL [42, if bt N 4 = 0 then 121 else 89]).foldl pstep _ = _
    split <;> rfl
  | 2, _ => rfl
theorem item_run {p : PS} {R : List (List Int)} {s o : Int} {v : Nat → Int} (h : St p R s v o) (N : Int) {k : Nat} (hk : k < 3) : St ((lexL (itemL (worth N k) (leL N k))).foldl pstep p) R s (fun i => if i = k then v i + s * worth N k else v i) o := by
  have hw := (worth_le N k).1
  have e1 : lexL (itemL (worth N k) (leL N k)) = (if worth N k < 0 then 15 else 14) :: (lexL (digs (worth N k).natAbs) ++ lexL (leL N k)) := by
    have hle : (leL N k).head? ≠ some 61 := by
      match k, hk with
      | 0, _ => show ([42, if bt N 3 = 0 then 120 else 88] : List Nat).head? ≠ _; simp
      | 1, _ => show ([42, if bt N 4 = 0 then 121 else 89] : List Nat).head? ≠ _; simp
      | 2, _ => show ([] : List Nat).head? ≠ _; simp
    have hdg : (digs (worth N k).natAbs ++ leL N k).head? ≠ some 61 := by
      unfold digs
      split
      · simp
      · simp; omega
    unfold itemL
    rw [show ∀ (c : Nat) (l : List Nat), c :: l = [c] ++ l from fun _ _ => rfl, lex_app _ hdg, lex_app _ hle]
    split
    · rfl
    · rfl
  have hy : (if worth N k < 0 then (15 : Int) else 14) = 14 ∨ (if worth N k < 0 then (15 : Int) else 14) = 15 := by split <;> simp
  rw [e1, List.foldl_cons, step_sign h hy, List.foldl_append, digs_run _ hw rfl, le_run _ N hk rfl]
  have hsg : (if (if worth N k < 0 then (15 : Int) else 14) = 15 then (-1 : Int) else 1) * s * ((worth N k).natAbs : Int) = s * worth N k := by
    by_cases q : worth N k < 0
    · rw [if_pos q, if_pos rfl, Int.ofNat_natAbs_of_nonpos (by first | exact Nat.le_trans (by assumption) (by decide) | omega)]
      grind
    · rw [if_neg q, if_neg (by decide), Int.natAbs_of_nonneg (by first | exact Nat.le_trans (by assumption) (by decide) | omega)]
      grind
  refine ⟨rfl, rfl, v 0, v 1, v 2, rfl, ?_⟩
  dsimp only
  rw [hsg]
  match k, hk with
  | 0, _ => exact .inl ⟨rfl, rfl, rfl, rfl⟩
  | 1, _ => exact .inr (.inl ⟨rfl, rfl, rfl, rfl⟩)
  | 2, _ => exact .inr (.inr ⟨rfl, rfl, rfl, rfl⟩)
theorem pc_head {l : List Nat} (h : Pc l) : l.head? ≠ some 61 := by
  obtain ⟨x, t, rfl, hx⟩ := h.hd
  intro z; cases z; omega
noncomputable def addS (N j s : Int) (k : Nat) (v : Nat → Int) : Nat → Int := fun i => if i < k ∧ bt N i = j then v i + s * worth N i else v i
theorem side_run {R : List (List Int)} {s o : Int} {v : Nat → Int} {p : PS} (h : St p R s v o) (N j : Int) : ∀ k, k ≤ 3 → St ((lexL (side N j k).cps.toList).foldl pstep p) R s (addS N j s k v) o
  | 0, _ => by
    have e : addS N j s 0 v = v := by funext i; unfold addS; rw [if_neg (by first | exact Nat.le_trans (by assumption) (by decide) | omega)]
    rw [e]; exact h
  | k + 1, hk => by
    have ih := side_run h N j k (by first | exact Nat.le_trans (by assumption) (by decide) | omega)
    unfold side
    by_cases q : bt N k = j
    · rw [if_pos q, app_cps, item_cps, lex_app _ (pc_head (item_pc (worth_le N k).1 (le_tails N k))), List.foldl_append]
      have := item_run ih N (k := k) (by first | exact Nat.le_trans (by assumption) (by decide) | omega)
      have e : (fun i => if i = k then addS N j s k v i + s * worth N k else addS N j s k v i) = addS N j s (k + 1) v := by
        funext i
        unfold addS
        by_cases hi : i = k
        · subst hi
          rw [if_pos rfl, if_neg (by first | exact Nat.le_trans (by assumption) (by decide) | omega), if_pos ⟨by omega, q⟩]
        · rw [if_neg hi]
          by_cases hj : i < k ∧ bt N i = j
          · rw [if_pos hj, if_pos ⟨by omega, hj.2⟩]
          · rw [if_neg hj, if_neg fun z => hj ⟨by omega, z.2⟩]
      rw [e] at this
      exact this
    · rw [if_neg q]
      have e : addS N j s k v = addS N j s (k + 1) v := by
        funext i
        unfold addS
        by_cases hj : i < k ∧ bt N i = j
        · rw [if_pos hj, if_pos ⟨by omega, hj.2⟩]
        · rw [if_neg hj, if_neg fun z => by
            by_cases hi : i = k
            · subst hi; exact q z.2
            · exact hj ⟨by omega, z.2⟩]
      rw [← e]; exact ih
theorem orz_run {R : List (List Int)} {s o : Int} {v : Nat → Int} {p : PS} (h : St p R s v o) (h0 : p.number = 0) (N j : Int) : St ((lexL (orz (side N j 3)).cps.toList).foldl pstep p) R s (addS N j s 3 v) o := by
  have sr := side_run h N j 3 (by decide)
  obtain ⟨_, z1, z2⟩ := orz_pc N j
  by_cases q : side N j 3 = Str.ofString ""
  · rw [z1 q]
    rw [q] at sr
    have sr : St p R s (addS N j s 3 v) o := sr
    show St (pstep p (304 + ((0 : Nat) : Int))) _ _ _ _
    rw [step_digit p (by decide), h0]
    obtain ⟨rows, row, place, number, sign, side⟩ := p
    have h0 : number = 0 := h0
    subst h0
    exact sr
  · rw [z2 q]; exact sr
theorem op_sym (N : Int) : lexL (opL N) = [opt N] ∧ (opt N = 20 ∨ opt N = 29 ∨ opt N = 21 ∨ opt N = 30) ∧ (opL N ≠ []) ∧ (opL N).head? ≠ some 61 := by
  have a : lexL [60] = [20] := by decide +kernel
  have b : lexL [60, 61] = [29] := by decide +kernel
  have c : lexL [62] = [21] := by decide +kernel
  have d : lexL [62, 61] = [30] := by decide +kernel
  unfold opL opt
  repeat' split
  · exact ⟨a, by simp, by simp, by simp⟩
  · exact ⟨b, by simp, by simp, by simp⟩
  · exact ⟨c, by simp, by simp, by simp⟩
  · exact ⟨d, by simp, by simp, by simp⟩
theorem step_op {p : PS} {R : List (List Int)} {s o : Int} {v : Nat → Int} (h : St p R s v o) {y : Int} (hy : y = 20 ∨ y = 29 ∨ y = 21 ∨ y = 30) : pstep p y = ⟨R, [v 0, v 1, v 2, y], 2, 0, 1, -1⟩ := by
  have f := flush_eq h y
  have h15 : (if y = 15 then (-1 : Int) else 1) = 1 := if_neg (by first | exact Nat.le_trans (by assumption) (by decide) | omega)
  rw [h15] at f
  have hop : ([20, 21, 29, 30] : List Int).any (· == y) = true := by rcases hy with rfl | rfl | rfl | rfl <;> rfl
  unfold pstep
  rw [if_neg (by first | exact Nat.le_trans (by assumption) (by decide) | omega), if_pos (by first | exact Nat.le_trans (by assumption) (by decide) | omega), hop, if_pos rfl, f]
  rfl
theorem step_end {p : PS} {R : List (List Int)} {s o : Int} {v : Nat → Int} (h : St p R s v o) {y : Int} (hy : y = 13 ∨ y = 0) : pstep p y = ⟨R ++ [[v 0, v 1, v 2, o]], [0, 0, 0, 0], 2, 0, 1, 1⟩ := by
  have f := flush_eq h y
  have h15 : (if y = 15 then (-1 : Int) else 1) = 1 := if_neg (by first | exact Nat.le_trans (by assumption) (by decide) | omega)
  rw [h15] at f
  have hop : ([20, 21, 29, 30] : List Int).any (· == y) = false := by rcases hy with rfl | rfl <;> rfl
  unfold pstep
  rw [if_neg (by first | exact Nat.le_trans (by assumption) (by decide) | omega), if_pos (by first | exact Nat.le_trans (by assumption) (by decide) | omega), hop, if_neg (by simp), if_pos hy, f, h.rows]
noncomputable def pstart (R : List (List Int)) : PS := ⟨R, [0, 0, 0, 0], 2, 0, 1, 1⟩
noncomputable def drowI (N : Int) : List Int := [coef N 0, coef N 1, coef N 2, opt N]
theorem bt01 (N : Int) (k : Nat) : bt N k = 0 ∨ bt N k = 1 := by unfold bt; omega
theorem row_run (R : List (List Int)) (N : Int) {y : Int} (hy : y = 13 ∨ y = 0) : (lexL (rowL N) ++ [y]).foldl pstep (pstart R) = pstart (R ++ [drowI N]) := by
  obtain ⟨o1, o2, o3, o4⟩ := op_sym N
  have h0 : St (pstart R) R 1 (fun _ => 0) 0 := ⟨rfl, rfl, 0, 0, 0, rfl, .inr (.inr ⟨rfl, rfl, rfl, rfl⟩)⟩
  have s0 := orz_run h0 rfl N 0
  unfold rowL
  have hne : (opL N ++ (orz (side N 1 3)).cps.toList).head? ≠ some 61 := by
    rw [List.head?_append]
    cases q : (opL N).head? with
    | none => rw [List.head?_eq_none_iff] at q; exact absurd q o3
    | some c => rw [q] at o4; exact o4
  rw [lex_app _ hne, lex_app _ (pc_head (orz_pc N 1).1), o1, List.foldl_append, List.foldl_append, List.foldl_append]
  show pstep (List.foldl pstep (pstep (List.foldl pstep (pstart R) (lexL (orz (side N 0 3)).cps.toList)) (opt N)) (lexL (orz (side N 1 3)).cps.toList)) y = _
  rw [step_op s0 o2]
  have h1 : St (⟨R, [addS N 0 1 3 (fun _ => 0) 0, addS N 0 1 3 (fun _ => 0) 1, addS N 0 1 3 (fun _ => 0) 2, opt N], 2, 0, 1, -1⟩ : PS) R (-1) (addS N 0 1 3 fun _ => 0) (opt N) := ⟨rfl, rfl, _, _, _, rfl, .inr (.inr ⟨rfl, rfl, rfl, by show _ + 1 * -1 * 0 = _; omega⟩)⟩
  have s1 := orz_run h1 rfl N 1
  rw [step_end s1 hy]
  have hv : ∀ k, k < 3 → addS N 1 (-1) 3 (addS N 0 1 3 fun _ => 0) k = coef N k := fun k hk => by
    unfold addS
    rcases bt01 N k with q | q
    · rw [if_neg (by first | exact Nat.le_trans (by assumption) (by decide) | omega), if_pos ⟨hk, q⟩]
      unfold worth; rw [if_pos q]; show (0 : Int) + 1 * coef N k = coef N k; omega
    · rw [if_pos ⟨hk, q⟩, if_neg (by first | exact Nat.le_trans (by assumption) (by decide) | omega)]
      unfold worth; rw [if_neg (by first | exact Nat.le_trans (by assumption) (by decide) | omega)]; show (0 : Int) + -1 * -coef N k = coef N k; omega
  rw [hv 0 (by decide), hv 1 (by decide), hv 2 (by decide)]
  rfl
end Mine

open PySem PySem.W PyProof.Rows
set_option Elab.async false
set_option linter.unusedVariables false
set_option linter.unusedSimpArgs false
set_option maxRecDepth 100000
set_option maxHeartbeats 1000000
namespace Mine
/-! # the whole text -/
noncomputable def joinL : List Int → List Nat
  | [] => []
  | [N] => rowL N
  | N :: M :: r => rowL N ++ (59 :: joinL (M :: r))
theorem join_cpsL : ∀ Ns : List Int, (Txt.join (Str.ofString ";") (Ns.map textS)).cps.toList = joinL Ns := by
  intro Ns
  rw [join_eq]
  induction Ns with
  | nil => rfl
  | cons N r ih =>
    cases r with
    | nil => exact text_cps N
    | cons M r =>
      have h59 : (Str.ofString ";").cps.toList = [59] := by decide +kernel
      show (textS N ++ Str.ofString ";" ++ Str.join (Str.ofString ";") ((M :: r).map textS)).cps.toList = _
      rw [app_cps, app_cps, h59, ih, text_cps, List.append_assoc]; rfl
theorem join_pc : ∀ (N : Int) (r : List Int), Pc (joinL (N :: r))
  | N, [] => row_pc N
  | N, M :: r => (row_pc N).join (m := [59]) (join_pc M r) (by decide +kernel) fun c d hc hd => by cases hd; exact dgl_adj hc (by simp)
theorem join_run : ∀ (N : Int) (r : List Int) (R : List (List Int)), (lexL (joinL (N :: r)) ++ [0]).foldl pstep (pstart R) = pstart (R ++ (N :: r).map drowI)
  | N, [], R => row_run R N (.inr rfl)
  | N, M :: r, R => by
    have h1 : lexL (joinL (N :: M :: r)) = lexL (rowL N) ++ (13 :: lexL (joinL (M :: r))) := by
      show lexL (rowL N ++ (59 :: joinL (M :: r))) = _
      rw [lex_app _ (by simp), show (59 :: joinL (M :: r)) = [59] ++ joinL (M :: r) from rfl, lex_app [59] (pc_head (join_pc M r))]
      rfl
    rw [h1, show lexL (rowL N) ++ (13 :: lexL (joinL (M :: r))) ++ [0] = (lexL (rowL N) ++ [13]) ++ (lexL (joinL (M :: r)) ++ [0]) by simp, List.foldl_append, row_run R N (.inl rfl), join_run M r, List.append_assoc]
    rfl
theorem read_text (ns : List Int) : readF (textD ns) = (nums ns).map drowI := by
  have hc : (textD ns).cps.toList = joinL (nums ns) := join_cpsL _
  obtain ⟨N, r, hN⟩ : ∃ N r, nums ns = N :: r := ⟨_, _, rfl⟩
  unfold readF
  rw [syms_eq (by rw [hc, hN]; exact (join_pc N r).ok), hc, hN]
  show (List.foldl pstep (pstart []) _).rows = _
  rw [join_run N r []]
  rfl
theorem row_len (N : Int) : (rowL N).length ≤ 100 := by
  have hi : ∀ k, (itemS N k).cps.toList.length ≤ 5 := fun k => by
    rw [item_cps]
    have h2 : ∀ e ∈ tails, e.length ≤ 2 := by decide +kernel
    have := h2 _ (le_tails N k)
    have hd : (digs (worth N k).natAbs).length ≤ 2 := by unfold digs; split <;> simp
    unfold itemL
    rw [List.length_cons, List.length_append]
    omega
  have hs : ∀ j k, (side N j k).cps.toList.length ≤ 5 * k := fun j k => by
    induction k with
    | zero => exact Nat.le_refl _
    | succ k ih =>
      unfold side
      have := hi k
      split
      · rw [app_cps, List.length_append]; omega
      · omega
  have ho : ∀ j, (orz (side N j 3)).cps.toList.length ≤ 15 := fun j => by
    obtain ⟨_, z1, z2⟩ := orz_pc N j
    by_cases q : side N j 3 = Str.ofString ""
    · rw [z1 q]; decide
    · rw [z2 q]; exact hs j 3
  have hop : (opL N).length ≤ 2 := by unfold opL; repeat' split
                                      all_goals decide
  unfold rowL
  rw [List.length_append, List.length_append]
  have := ho 0
  have := ho 1
  omega
theorem join_len : ∀ Ns : List Int, (joinL Ns).length ≤ 101 * Ns.length
  | [] => Nat.le_refl _
  | [N] => by have := row_len N; show (rowL N).length ≤ _; simp; omega
  | N :: M :: r => by
    have h1 := row_len N
    have h2 := join_len (M :: r)
    show (rowL N ++ (59 :: joinL (M :: r))).length ≤ _
    rw [List.length_append, List.length_cons, List.length_cons]
    omega
theorem bnd_of (ns : List Int) : Bnd (rwsF ns) := by
  refine ⟨rfl, fun r hr => ?_⟩
  obtain ⟨N, _, rfl⟩ := List.mem_map.mp hr
  have h0 := (worth_le N 0).2.2 (by decide)
  have h1 := (worth_le N 1).2.2 (by decide)
  have h2 := (worth_le N 2).2.1
  unfold rwOf
  dsimp only
  split <;> refine ⟨?_, ?_, ?_⟩ <;> omega
theorem plain_law (ns : List Int) (_ : ns.length ≤ 1000) : (∀ c ∈ (textD ns).cps.toList, c < 128) ∧ (textD ns).length ≤ 5000 ∧ (readF (textD ns)).map intsD = (nums ns).map drow ∧ Plain (rwsF ns) := by
  have hc : (textD ns).cps.toList = joinL (nums ns) := join_cpsL _
  obtain ⟨N, r, hN⟩ : ∃ N r, nums ns = N :: r := ⟨_, _, rfl⟩
  refine ⟨fun c h => ?_, ?_, ?_, plain_of (bnd_of ns)⟩
  · rw [hc, hN] at h
    have := chain_abc (join_pc N r).chain c h
    have key : ∀ c ∈ abc, c < 128 := by decide +kernel
    exact key c this
  · have h1 := join_len (nums ns)
    rw [← hc, Array.length_toList] at h1
    have h4 : (nums ns).length = 4 := rfl
    rw [h4] at h1
    show (textD ns).cps.size ≤ 5000
    omega
  · rw [read_text, List.map_map]; rfl
end Mine

open PySem PySem.W PyProof.Rows PySem.AutoIntOps
set_option Elab.async false
set_option linter.unusedVariables false
set_option linter.unusedSimpArgs false
set_option maxRecDepth 100000
set_option maxHeartbeats 1000000
namespace Mine
theorem mg_some_of {K : Frag} {h : Heap} {mg : Str → Option Value} {n : Str} {v : Value} (X : K.In h) (G : h.Ns mainGlobals mg) (e : nsIn K mainGlobals n = some (some v)) : mg n = some v := by
  obtain ⟨o, es, ep, ho, hd, _, hf⟩ := G
  unfold nsIn at e
  split at e
  · rename_i c d es' n' sl q
    have := X _ _ q
    rw [ho] at this
    cases this
    cases hd
    split at e
    · rename_i en he
      rw [← hf]
      unfold nsFind findBy
      cases e
      rw [← Array.find?_toList, he]; rfl
    · rename_i he
      split at e <;> cases e
  · cases e
theorem int_shape {x : WData} (h : WShape.has [] x .int = true) : ∃ i, x = .int i := by
  cases x with
  | int i => exact ⟨i, rfl⟩
  | _ => exact Bool.noConfusion h
theorem list_shape {d : WData} (h : WShape.has [] d (.list .int) = true) : ∃ xs, d = .list xs ∧ WShape.hasItems [] xs .int = true := by
  cases d with
  | list i =>
    have e : WShape.has [] (.list i) (.list .int) = (WShape.hasItems [] i .int || false) := rfl
    exact ⟨i, rfl, by rw [e, Bool.or_false] at h; exact h⟩
  | _ => exact Bool.noConfusion h
theorem ints_shape : ∀ xs : List WData, WShape.hasItems [] xs .int = true → ∃ ns : List Int, xs = ns.map .int
  | [], _ => ⟨[], rfl⟩
  | x :: r, h => by
    have h : (WShape.has [] x .int && WShape.hasItems [] r .int) = true := h
    obtain ⟨h1, h2⟩ := Bool.and_eq_true_iff.mp h
    obtain ⟨ns, rfl⟩ := ints_shape r h2
    obtain ⟨i, rfl⟩ := int_shape h1
    exact ⟨i :: ns, rfl⟩
theorem ints_well {P : Params} {h : Heap} : ∀ {vs : List Value} {ns : List Int}, WellAll P h vs (ns.map .int) → RpL NoA h vs (ns.map .int)
  | _, [], w => by cases w; exact .nil
  | _, n :: r, w => by
    cases w with
    | cons a b =>
      cases a
      exact .cons (.int _ _) Own.int (ints_well b)
theorem args_shape {args : List WData} (h1 : WShape.hasAll [] args [.list .int] = true) : ∃ ns : List Int, args = [.list (ns.map .int)] := by
  match args, h1 with
  | [d], h1 =>
    have h1 : (WShape.has [] d (.list .int) && true) = true := h1
    rw [Bool.and_true] at h1
    obtain ⟨xs, rfl, h2⟩ := list_shape h1
    obtain ⟨ns, rfl⟩ := ints_shape xs h2
    exact ⟨ns, rfl⟩
  | d :: e :: r, h1 =>
    have h1 : (WShape.has [] d (.list .int) && false) = true := h1
    rw [Bool.and_false] at h1
    cases h1
theorem walk_of :
    WalkO q1 loose1 (XL q1 []) (InK KK) PySem.Challenge.rw_ta0079_01.row.toRowW dlaw [] (fun f vs => PySem.call f vs) := by
  intro w s₀ s₁ mg mb G Y a o pm cd doc dV kV ha ho hcd hdf hmg hgens args vals as hpre hlay hrd hwell has
  have B : Bs w s₁.heap := ⟨Y, _, _, topRead_of G.T⟩
  have e274 : mg (Str.ofString "law") = some (.ref 274) := mg_some_of Y G.T.g (by kernel_rfl)
  have hmg : mg (Str.ofString "law") = some (.ref a) := hmg
  rw [e274] at hmg
  cases hmg
  have hpre' : (WShape.hasAll [] args [.list .int] && PySem.Challenge.rw_ta0079_01.pre.holds [] { args := args }) = true := hpre
  obtain ⟨h1, h2⟩ := Bool.and_eq_true_iff.mp hpre'
  obtain ⟨ns, rfl⟩ := args_shape h1
  have hlen : ns.length ≤ 63 := by
    have e : PySem.Challenge.rw_ta0079_01.pre = .and (.not (.lt (.lit (.int 63)) (.len (.arg 0)))) (.lit (.bool true)) := rfl
    rw [e] at h2
    by_cases q : ns.length ≤ 63
    · exact q
    · exfalso
      have hl : (WTm.lt (.lit (.int 63)) (.len (.arg 0))).value [] { args := [.list (ns.map .int)] } = some (.bool true) := by
        have h1 : (WTm.len (.arg 0)).value [] { args := [.list (ns.map .int)] } = some (.int (ns.map WData.int).length) := rfl
        have h2 : (WTm.lit (.int 63)).value [] { args := [.list (ns.map .int)] } = some (.int 63) := rfl
        have h3 : ∀ k : Int, less? (.int 63) (.int k) = some (decide (63 < k)) := fun k => rfl
        unfold WTm.value
        rw [h1, h2, List.length_map]
        dsimp only
        rw [h3, decide_eq_true (by first | exact Nat.le_trans (by assumption) (by decide) | omega)]; rfl
      unfold WTm.holds at h2
      rw [show (WTm.and (.not (.lt (.lit (.int 63)) (.len (.arg 0)))) (.lit (.bool true))).value [] { args := [.list (ns.map .int)] } = some (.bool false) by unfold WTm.value; unfold WTm.value; rw [hl]; rfl] at h2
      cases h2
  cases hwell with
  | cons hw1 hw2 =>
  cases hw2
  cases hw1 with
  | @list a vs _ hget hall =>
  obtain ⟨p1, p2, p3, p4⟩ := plain_law ns (by first | exact Nat.le_trans (by assumption) (by decide) | omega)
  have hA : Rm 9 callerA := ⟨rfl, by decide, by decide⟩
  refine wpAny_call (codeAny_mono (spec_law (n := 0) (by first | exact Nat.le_trans (by assumption) (by decide) | omega) p1 p2 p3 p4 NoA callerA s₁ [.ref a] hA B (fun _ q => q.elim) (.cons (.lst ⟨_, hget⟩ (ints_well hall)) (fun _ _ q => q.elim) .nil)) fun r s' q => ?_)
  obtain ⟨v, rfl, r, _, h', tk, rfl, k⟩ := q
  cases r
  refine ⟨.inl ⟨.bool true, .bool true, [], rfl, fun _ => rfl, .bool true, ?_, fun _ => ⟨List.nodup_nil, fun _ h => nomatch h⟩⟩, ?_, rfl, ?_⟩
  · show (WShape.has [] (.bool true) .bool && (WTm.eq .res (.lit (.bool true))).holds [] { args := [.list (ns.map .int)], res := some (.bool true), after := [.list (ns.map .int)] }) = true
    have a : WShape.has [] (.bool true) .bool = true := rfl
    have b : (WTm.eq .res (.lit (.bool true))).value [] { args := [.list (ns.map .int)], res := some (.bool true), after := [.list (ns.map .int)] } = some (.bool true) := by simp [WTm.value, same]
    unfold WTm.holds
    rw [a, b]; rfl
  · exact .of_keep k
  · rw [hgens]; exact AllBare.empty
end Mine

theorem PySem.Challenge.cw_ta0079_01_holds : PySem.Challenge.rw_ta0079_01.Holds :=
  Mine.head_of Mine.walk_of
