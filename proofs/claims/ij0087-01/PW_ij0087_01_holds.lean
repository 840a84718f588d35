import PyProof.Rows.All
import Wide.All
import OpenK.AllK
import Wide.FinOn
import Lean
import PySem.Challenge.RW_ij0087_01
open PySem PySem.W PyProof.Rows
set_option Elab.async false
set_option compiler.extract_closed false
set_option maxRecDepth 100000
set_option maxHeartbeats 400000000
set_option linter.unusedVariables false
set_option linter.unusedSimpArgs false
set_option rowWalk.seconds 0
namespace Mine
section
variable {tb : String → Option Builtin} {p : Program} {w : World} {n₀ : Nat} {ann : Option Value}
/-- some steps of the top's run, over a tree of objects -/
noncomputable def topPart (tb : String → Option Builtin) (p : Program) (w : World) (n₀ : Nat) (ann : Option Value) : Nat → SharedT → Thread → Option (SharedT × Thread)
  | 0, s, t => some (s, t)
  | n + 1, s, t => match through t with
    | true => none
    | false => match stepOk n₀ ann t with
      | false => none
      | true => match stepT (denote tb) p w s t with
        | some (s', t') => topPart tb p w n₀ ann n s' t'
        | none => none
/-- the top's run to its end -/
noncomputable def topEnds (tb : String → Option Builtin) (p : Program) (w : World) (n₀ : Nat) (ann : Option Value) : Nat → SharedT → Thread → Option SharedT
  | 0, _, _ => none
  | n + 1, s, t => match through t with
    | true => some s
    | false => match stepOk n₀ ann t with
      | false => none
      | true => match stepT (denote tb) p w s t with
        | some (s', t') => topEnds tb p w n₀ ann n s' t'
        | none => none
theorem part_run : ∀ {n N : Nat} {s s' : SharedT} {t t' : Thread} {r : Shared}, topPart tb p w n₀ ann n s t = some (s', t') → topRun tb p w n₀ ann N s'.abs t' = some r → topRun tb p w n₀ ann (n + N) s.abs t = some r
  | 0, N, s, s', t, t', r, h, k => by cases h; rw [Nat.zero_add]; exact k
  | n + 1, N, s, s', t, t', r, h, k => by
    rw [show n + 1 + N = n + N + 1 by omega]
    unfold topPart at h
    unfold topRun
    cases ht : through t with
    | true => rw [ht] at h; cases h
    | false =>
      rw [ht] at h
      cases hk : stepOk n₀ ann t with
      | false => rw [hk] at h; cases h
      | true =>
        rw [hk] at h
        cases hs : stepT (denote tb) p w s t with
        | none => rw [hs] at h; cases h
        | some r => obtain ⟨s₂, t₂⟩ := r; rw [hs] at h; rw [stepT_spec hs]; exact part_run h k
theorem ends_run : ∀ {n : Nat} {s s' : SharedT} {t : Thread}, topEnds tb p w n₀ ann n s t = some s' → topRun tb p w n₀ ann n s.abs t = some s'.abs
  | 0, s, s', t, h => by cases h
  | n + 1, s, s', t, h => by
    unfold topEnds at h
    unfold topRun
    cases ht : through t with
    | true => rw [ht] at h; cases h; rfl
    | false =>
      rw [ht] at h
      cases hk : stepOk n₀ ann t with
      | false => rw [hk] at h; cases h
      | true =>
        rw [hk] at h
        cases hs : stepT (denote tb) p w s t with
        | none => rw [hs] at h; cases h
        | some r => obtain ⟨s₂, t₂⟩ := r; rw [hs] at h; rw [stepT_spec hs]; exact ends_run h
end
/-- a list of objects as a tree -/
noncomputable def putAll : Nat → BT → List Obj → BT
  | _, t, [] => t
  | n, t, o :: l => putAll (n + 1) (t.ins n o) l
theorem ins_ok (o : Obj) : ∀ (t : BT) (n : Nat), (∀ i, i < n → (t.get i).isSome = true) → ((t.ins n o).get n).isSome = true
  | .nil, n, h => by
    cases n with
    | zero => rfl
    | succ n => exact absurd (h 0 (Nat.zero_lt_succ _)) (by show ¬ ((BT.nil.get 0).isSome = true); simp [BT.get])
  | .node v l r, n, h => by
    rw [BT.ins_node]
    by_cases h0 : n = 0
    · rw [if_pos h0, BT.get_node, if_pos h0]; rfl
    · rw [if_neg h0]
      by_cases h1 : n % 2 = 1
      · rw [if_pos h1, BT.get_node, if_neg h0, if_pos h1]
        refine ins_ok o l _ fun i hi => ?_
        have := h (2 * i + 1) (by omega)
        rw [BT.get_node, if_neg (by omega), if_pos (by omega), show (2 * i + 1) / 2 = i by omega] at this
        exact this
      · rw [if_neg h1, BT.get_node, if_neg h0, if_neg h1]
        refine ins_ok o r _ fun i hi => ?_
        have := h (2 * i + 2) (by omega)
        rw [BT.get_node, if_neg (by omega), if_neg (by omega), show (2 * i + 2) / 2 - 1 = i by omega] at this
        exact this
theorem putAll_abs (life : Life) : ∀ (l : List Obj) (n : Nat) (t : BT), (∀ i, i < n → (t.get i).isSome = true) → absHeap (putAll n t l) (n + l.length) life = ⟨(absHeap t n life).objs ++ l.toArray, life⟩
  | [], n, t, _ => by
    show absHeap t (n + 0) life = _
    rw [Nat.add_zero, show ([] : List Obj).toArray = #[] from rfl, Array.append_empty]; rfl
  | o :: l, n, t, h => by
    have k := ins_ok o t n h
    show absHeap (putAll (n + 1) (t.ins n o) l) (n + (l.length + 1)) life = _
    rw [show n + (l.length + 1) = n + 1 + l.length by omega, putAll_abs life l (n + 1) (t.ins n o) (fun i hi => by
      rw [BT.get_ins o t n k]
      by_cases e : i = n
      · rw [if_pos e]; rfl
      · rw [if_neg e]; exact h i (by omega)), absHeap_ins k]
    show Heap.mk _ _ = Heap.mk _ _
    refine congrArg (Heap.mk · life) ?_
    show (absHeap t n life).objs.push o ++ l.toArray = (absHeap t n life).objs ++ (o :: l).toArray
    apply Array.ext'
    simp
noncomputable def toT (s : Shared) : SharedT := ⟨putAll 0 .nil s.heap.objs.toList, s.heap.objs.size, s.heap.life, s.gens, s.drawn, s.toks, s.os⟩
theorem toT_abs (s : Shared) : (toT s).abs = s := by
  obtain ⟨⟨objs, life⟩, gens, drawn, toks, os⟩ := s
  have h := putAll_abs life objs.toList 0 .nil (fun i hi => absurd hi (Nat.not_lt_zero _))
  rw [Nat.zero_add, Array.length_toList] at h
  show Shared.mk (absHeap (putAll 0 .nil objs.toList) objs.size life) gens drawn toks os = _
  rw [h]
  have e : (absHeap .nil 0 life).objs ++ objs.toList.toArray = objs := by
    apply Array.ext'
    simp [absHeap, BT.list]
  rw [e]
section
variable (p : Program) (N n1 : Nat) (r1 r2 : String) (w : World)
/-- the state behind the opening -/
noncomputable def s0 : Shared := (fencedOpening treeTable p w N).getD ⟨{}, #[], {}, 0, default⟩
/-- some steps on -/
noncomputable def go0 (w' : World) (n : Nat) (q : SharedT × Thread) : Option (SharedT × Thread) := topPart treeTable p w' (s0 p N w).heap.objs.size ((s0 p N w).heap.nsMap mainGlobals "__annotations__") n q.1 q.2
noncomputable def st0 : SharedT × Thread := (toT (s0 p N w), topStub p)
noncomputable def st1 : SharedT × Thread := (go0 p N w w n1 (st0 p N w)).getD (st0 p N w)
/-- behind the asking, by the answers -/
noncomputable def st2 (b c : Bool) (n : Nat) : Option (SharedT × Thread) := go0 p N w ((w.withFollow r1 b).withFollow r2 c) n (st1 p N n1 w)
noncomputable def fin0 (n M : Nat) : Option SharedT := topEnds treeTable p w (s0 p N w).heap.objs.size ((s0 p N w).heap.nsMap mainGlobals "__annotations__") M ((st2 p N n1 r1 r2 w false false n).getD (st0 p N w)).1 ((st2 p N n1 r1 r2 w false false n).getD (st0 p N w)).2
end
/-- the top's run, the two answers brought together behind the asking -/
theorem left_merged {p q : Program} {loose : List Str} {Xt : Shared → Bool} {α : Type} {Yf : Shared → α} {Ya : World → α} {N n1 na nb M : Nat} {r1 r2 : String}
    (h : ∀ w, ((fencedOpening treeTable p w N).isSome, (s0 p N w).heap.isNs mainGlobals && (s0 p N w).gens.size == 0, (go0 p N w w n1 (st0 p N w)).isSome,
        st2 p N n1 r1 r2 w true false nb, st2 p N n1 r1 r2 w false true na, st2 p N n1 r1 r2 w true true na, (st2 p N n1 r1 r2 w false false nb).isSome,
        (fin0 p N n1 r1 r2 w nb M).map fun s => (staticsOk (importedModules p.main.body) (s0 p N w).heap s.abs.heap && namesBound p s.abs.heap && gensDone s.abs && laidKept (s0 p N w).heap s.abs.heap, openSeen q loose (importedModules p.main.body) Xt true s.abs, Yf s.abs)) =
      (true, true, true, st2 p N n1 r1 r2 w false false nb, st2 p N n1 r1 r2 w false false nb, st2 p N n1 r1 r2 w false false nb, true, some (true, openGood q loose, Ya w)))
    (la : n1 + na + M ≤ N) (lb : n1 + nb + M ≤ N) : LeftO p q loose Xt Yf Ya N := fun w => by
  have e := h w
  simp only [Prod.mk.injEq] at e
  obtain ⟨e1, e2, e3, e4, e5, e6, e7, e8⟩ := e
  obtain ⟨s₀, hs₀⟩ := Option.isSome_iff_exists.mp e1
  have hS : s0 p N w = s₀ := by unfold s0; rw [hs₀]; rfl
  obtain ⟨q1, hq1⟩ := Option.isSome_iff_exists.mp e3
  have hq1' : st1 p N n1 w = q1 := by unfold st1; rw [hq1]; rfl
  obtain ⟨q2, hq2⟩ := Option.isSome_iff_exists.mp e7
  obtain ⟨f, hf, hl⟩ := Option.map_eq_some_iff.mp e8
  have hf' := hf
  unfold fin0 at hf'
  rw [hq2] at hf'
  have R3 := ends_run hf'
  have key : ∃ n, n1 + n + M ≤ N ∧ topPart treeTable p w (s0 p N w).heap.objs.size ((s0 p N w).heap.nsMap mainGlobals "__annotations__") n q1.1 q1.2 = some q2 := by
    have all : ∀ b c, ∃ n, n1 + n + M ≤ N ∧ st2 p N n1 r1 r2 w b c n = some q2 := fun b c => by
      cases b <;> cases c
      · exact ⟨nb, lb, hq2⟩
      · exact ⟨na, la, e5.trans hq2⟩
      · exact ⟨nb, lb, e4.trans hq2⟩
      · exact ⟨na, la, e6.trans hq2⟩
    obtain ⟨n, hn, hx⟩ := all (w.params.followText r1) (w.params.followText r2)
    refine ⟨n, hn, ?_⟩
    unfold st2 go0 at hx
    rw [hq1', World.withFollow_self w r1, World.withFollow_self w r2] at hx
    exact hx
  obtain ⟨n, hn, hx⟩ := key
  have R2 := part_run (s := q1.1) (t := q1.2) (s' := q2.1) (t' := q2.2) hx R3
  have R1 := part_run (s := (st0 p N w).1) (t := (st0 p N w).2) (s' := q1.1) (t' := q1.2) hq1 R2
  have R0 : topRun treeTable p w s₀.heap.objs.size (s₀.heap.nsMap mainGlobals "__annotations__") (n1 + (n + M)) s₀ (topStub p) = some f.abs := by
    have : (st0 p N w).1.abs = s₀ := by show (toT (s0 p N w)).abs = s₀; rw [toT_abs, hS]
    rw [this, hS] at R1
    exact R1
  have R := topRun_mono (N - (n1 + (n + M))) _ _ _ _ R0
  rw [show n1 + (n + M) + (N - (n1 + (n + M))) = N by omega] at R
  simp only [Prod.mk.injEq] at hl
  obtain ⟨l1, l2, l3⟩ := hl
  rw [hS] at e2 l1
  unfold openEnds
  rw [hs₀]
  show (topFrom treeTable p w N s₀).map _ = _
  have t : topFrom treeTable p w N s₀ = some f.abs := by
    unfold topFrom
    rw [e2, R]
    show (match staticsOk (importedModules p.main.body) s₀.heap f.abs.heap && namesBound p f.abs.heap && gensDone f.abs && laidKept s₀.heap f.abs.heap with | true => _ | false => _) = _
    rw [l1]
  rw [t]
  exact congrArg some (Prod.ext l2 l3)
end Mine
section HdS
section HdS
local macro_rules | `(tactic| o_head $_:term) => `(tactic| skip)
/-- nothing is said here: its proof lays the constant that writes out the part of the state that the walk knows whole -/
theorem Mine.pre (h : OpenRow.Holds (OpenLaw.row PySem.Challenge.rw_ij0087_01)) : OpenRow.Holds (OpenLaw.row PySem.Challenge.rw_ij0087_01) := by
  k_head
  exact h
end HdS
namespace Mine
/-- the top's statements that bind what the law can come to -/
noncomputable def view : Program := { PySem.Challenge.pw_ij0087_01 with main := { PySem.Challenge.pw_ij0087_01.main with body := [0, 2, 3, 5, 6, 8, 9, 11, 13, 15, 16, 17, 18].filterMap fun i => PySem.Challenge.pw_ij0087_01.main.body[i]? } }
noncomputable def seenAt : List Addr := [2, 3, 6, 11, 12, 35, 36, 37, 39, 40, 42, 43, 45, 49, 51, 52, 54, 55, 56, 58, 59, 61, 62, 63, 65, 66, 68, 69, 77, 78, 80, 81, 83, 84, 85, 87, 88, 90, 91, 92, 94, 95, 97, 98, 99, 101, 102, 103, 104, 107, 109, 110, 112, 113, 114, 116, 117, 119, 120, 121, 124, 125, 126, 129, 130, 131, 134, 135]
noncomputable abbrev looseNames : List Str := [Str.ofString "_twin_re_1", Str.ofString "_special_chars_map", Str.ofString "filterfalse"]
theorem seen_eq : ∀ P, seenAt = (pre.heap_1 P).map (·.1) := fun _ => by kernel_rfl
noncomputable abbrev hook : Hook := kmHook pre.heap_1 [2, 3, 6, 11, 12, 35, 36, 37, 39, 40, 42, 43, 45, 49, 51, 52, 54, 55, 56, 58, 59, 61, 62, 63, 65, 66, 68, 69, 77, 78, 80, 81, 83, 84, 85, 87, 88, 90, 91, 92, 94, 95, 97, 98, 99, 101, 102, 103, 104, 107, 109, 110, 112, 113, 114, 116, 117, 119, 120, 121, 124, 125, 126, 129, 130, 131, 134, 135] seen_eq [57]
noncomputable abbrev seenX (s : Shared) : Bool := xlAt view ([] : List (Str × WData)) s && recOk (RowW.records (OpenRow.toRowW (OpenLaw.row PySem.Challenge.rw_ij0087_01))) s
/-- the top's run, once: the rows asked between step 145 and step 1390 tell nothing behind them -/
theorem top_all (w : World) : ((fencedOpening treeTable (OpenLaw.row PySem.Challenge.rw_ij0087_01).prog w 4092).isSome, (s0 (OpenLaw.row PySem.Challenge.rw_ij0087_01).prog 4092 w).heap.isNs mainGlobals && (s0 (OpenLaw.row PySem.Challenge.rw_ij0087_01).prog 4092 w).gens.size == 0,
    (go0 (OpenLaw.row PySem.Challenge.rw_ij0087_01).prog 4092 w w 145 (st0 (OpenLaw.row PySem.Challenge.rw_ij0087_01).prog 4092 w)).isSome,
    st2 (OpenLaw.row PySem.Challenge.rw_ij0087_01).prog 4092 145 "special-get-raises" "comprehension-iter-twice" w true false 1255, st2 (OpenLaw.row PySem.Challenge.rw_ij0087_01).prog 4092 145 "special-get-raises" "comprehension-iter-twice" w false true 1245,
    st2 (OpenLaw.row PySem.Challenge.rw_ij0087_01).prog 4092 145 "special-get-raises" "comprehension-iter-twice" w true true 1245, (st2 (OpenLaw.row PySem.Challenge.rw_ij0087_01).prog 4092 145 "special-get-raises" "comprehension-iter-twice" w false false 1255).isSome,
    (fin0 (OpenLaw.row PySem.Challenge.rw_ij0087_01).prog 4092 145 "special-get-raises" "comprehension-iter-twice" w 1255 2000).map fun s =>
      (staticsOk (importedModules (OpenLaw.row PySem.Challenge.rw_ij0087_01).prog.main.body) (s0 (OpenLaw.row PySem.Challenge.rw_ij0087_01).prog 4092 w).heap s.abs.heap && namesBound (OpenLaw.row PySem.Challenge.rw_ij0087_01).prog s.abs.heap && gensDone s.abs && laidKept (s0 (OpenLaw.row PySem.Challenge.rw_ij0087_01).prog 4092 w).heap s.abs.heap,
        openSeen view looseNames (importedModules (OpenLaw.row PySem.Challenge.rw_ij0087_01).prog.main.body) seenX true s.abs, hook.obs s.abs)) =
    (true, true, true, st2 (OpenLaw.row PySem.Challenge.rw_ij0087_01).prog 4092 145 "special-get-raises" "comprehension-iter-twice" w false false 1255, st2 (OpenLaw.row PySem.Challenge.rw_ij0087_01).prog 4092 145 "special-get-raises" "comprehension-iter-twice" w false false 1255,
      st2 (OpenLaw.row PySem.Challenge.rw_ij0087_01).prog 4092 145 "special-get-raises" "comprehension-iter-twice" w false false 1255, true, some (true, openGood view looseNames, hook.val w)) := by kernel_rfl
/-- the looks at the law, read plainly -/
theorem law_said : OpenLaw.wellSaid PySem.Challenge.rw_ij0087_01 = true := by kernel_rfl
theorem top_ok : LeftO (OpenLaw.row PySem.Challenge.rw_ij0087_01).prog view looseNames seenX hook.obs hook.val 4092 := left_merged top_all (by decide) (by decide)
end Mine
section HdT
local macro_rules | `(tactic| o_law) => `(tactic| refine holds_law Mine.law_said fun _ => ?_)
set_option hygiene false in
local macro_rules | `(tactic| k_head) => `(tactic|
  refine PySem.W.holds_open (q := Mine.view) (loose := Mine.looseNames) (Xt := Mine.seenX) (XP := XL Mine.view ([] : List (Str × WData))) (Yf := Hook.obs Mine.hook) (Ya := Hook.val Mine.hook) (YP := Hook.says Mine.hook) (N := 4092) Mine.top_ok (Hook.of Mine.hook) (Hook.keeps Mine.hook) (fun s e => xl_of s (Bool.and_eq_true_iff.mp e).1) XL.keeps (by rfl) (by rfl) (by rfl) (fun s e => recFacts_of (Bool.and_eq_true_iff.mp e).2) (by rfl) (by first | assumption | decide +kernel) (by decide +kernel) ⟨rfl, rfl, rfl, rfl, rfl, by decide +kernel⟩ ?hw ?hc)
namespace Mine
open_top hd for PySem.Challenge.rw_ij0087_01
end Mine
end HdT
end HdS
namespace Mine
/-- a goal kept behind a variable while a bundle is taken apart -/
noncomputable def Hg (P : Prop) : Prop := P
theorem to_hg {P : Prop} (h : ∀ G : Prop, (P → Hg G) → Hg G) : P := h P id
def patSize (s : Lean.Syntax) : Nat := (s.reprint.getD "").foldl (fun n c => if c == ',' then n + 1 else n) 1
end Mine
namespace Mine
/-- a small tongue for lines of the walk: names, tactics and arguments told by short words -/
def hy (n : Lean.Name) : Lean.MacroM Lean.Ident := return Lean.mkIdent (← Lean.MonadQuotation.addMacroScope n)
def tc (s : String) : Lean.MacroM (Lean.TSyntax `tactic) := do
  match s with
  | "as" => `(tactic| assumption)
  | "ras" => `(tactic| with_reducible assumption)
  | "rfl" => `(tactic| exact rfl)
  | "rfl0" => `(tactic| rfl)
  | "i" => `(tactic| intro _)
  | "rflas" => `(tactic| first | exact rfl | assumption)
  | "om" => `(tactic| omega)
  | "asom" => `(tactic| first | assumption | omega)
  | "dec" => `(tactic| decide)
  | "wrfl" => `(tactic| with_unfolding_all rfl)
  | "iwrfl" => `(tactic| (intro _; with_unfolding_all rfl))
  | "ll" => `(tactic| (simp only [List.length_append, List.length_cons, List.length_nil]; omega))
  | "kis" => `(tactic| k_is)
  | "kasm" => `(tactic| k_asm)
  | "kmem" => `(tactic| k_mem)
  | "boot" => `(tactic| boot_by_name)
  | "top" => `(tactic| first | assumption | exact topRead_of (by assumption))
  | "updf" => `(tactic| walk_at "MY updf")
  | "kF" => `(tactic| with_reducible rename Fr _ _ _ _ => $(← hy `kF))
  | "kN" => `(tactic| with_reducible rename News _ _ _ _ => $(← hy `kN))
  | "cFN" => `(tactic| clear $(← hy `kF) $(← hy `kN))
  | "dso" => `(tactic| try dsimp only)
  | "gt" => `(tactic| exact Nat.ne_of_gt (by omega))
  | "lt" => `(tactic| exact Nat.ne_of_lt (by omega))
  | "heap" => `(tactic| (heap_get; done))
  | "rfld" => `(tactic| (rfl; done))
  | "simpa" => `(tactic| (simp [*]; done))
  | "isInt" => `(tactic| with_reducible show $(Lean.mkIdent `PySem.wpAny) _ _ ($(Lean.mkIdent `PySem.mkInt) _) _ _ _)
  | "isStr" => `(tactic| with_reducible show $(Lean.mkIdent `PySem.wpAny) _ _ ($(Lean.mkIdent `PySem.mkStr) _) _ _ _)
  | "delta" => `(tactic| wp_delta)
  | "klt" => `(tactic| (intro _ _ _ _ _ l1; (try k_lt l1)))
  | _ => Lean.Macro.throwUnsupported
/-- one or the other: words parted by '|' -/
def tcs (s : String) : Lean.MacroM (Lean.TSyntax `tactic) := do
  let ts ← (s.splitOn "|").toArray.mapM fun w => do `(tacticSeq| $(← tc w):tactic)
  `(tactic| first $[| $ts]*)
def ar (s : String) : Lean.MacroM Lean.Term := do
  if s == "_" then `(?_) else if s.startsWith "@" then return (← hy (.mkSimple (s.drop 1).toString)) else `(?$(← hy (.mkSimple s)))
/-- a lemma laid on the goal; mode 1: reducible, 2: k_dflt, 3: k_dflt with a written state -/
def go (pre : List String) (mode : Nat) (n : Lean.Name) (args : List String) (cases : List (String × String)) (post : List String) : Lean.MacroM (Lean.TSyntax `tactic) := do
  let xs ← args.toArray.mapM ar
  let r ← if mode == 3 then `(tactic| refine' $(Lean.mkIdent n) (s := ⟨_, _, _, _, _⟩) $xs*) else `(tactic| refine' $(Lean.mkIdent n) $xs*)
  let r ← if mode == 1 then `(tactic| with_reducible $r:tactic) else pure r
  let cs ← cases.toArray.mapM fun (a, t) => do `(tactic| case $(← hy (.mkSimple a)):ident => $(← tcs t):tactic)
  let p ← pre.toArray.mapM tc
  let q ← post.toArray.mapM tc
  let m : Array (Lean.TSyntax `tactic) := #[r] ++ cs
  let m ← if mode ≥ 2 then pure #[← `(tactic| k_dflt ($m;*))] else pure m
  let all := p ++ m ++ q
  `(tactic| ($all;*))
/-- the same, told by one string: words ahead; name and arguments; cases; words behind -/
def goS (mode : Nat) (s : String) : Lean.MacroM (Lean.TSyntax `tactic) := do
  let ws := fun (x : String) => (x.splitOn " ").filter (· != "")
  match s.splitOn ";" with
  | [p, n, c, q] =>
    let cs := (ws c).filterMap fun x => match x.splitOn "=" with | [a, b] => some (a, b) | _ => none
    match ws n with
    | f :: xs => go (ws p) mode f.toName xs cs (ws q)
    | [] => Lean.Macro.throwUnsupported
  | _ => Lean.Macro.throwUnsupported
def firstOf' (l : List (Lean.MacroM (Lean.TSyntax `tactic))) : Lean.MacroM (Lean.TSyntax `tactic) := do
  let ts ← l.toArray.mapM fun x => do `(tacticSeq| $(← x):tactic)
  `(tactic| first $[| $ts]*)
/-- lines for keys -/
def at' (ks : List String) (s : Lean.TSyntax `str) (x : Lean.MacroM (Lean.TSyntax `tactic)) : Lean.MacroM (Lean.TSyntax `tactic) := if ks.contains s.getString then x else Lean.Macro.throwUnsupported
end Mine
set_option hygiene false in
local macro_rules
  | `(tactic| obtain $pat:rcasesPatMed := $e:term) => do
    if Mine.patSize pat < 3 then Lean.Macro.throwUnsupported
    `(tactic| rcases $e:term with $pat:rcasesPatMed)
  | `(tactic| obtain $pat:rcasesPatMed : $t := $e:term) => do
    if Mine.patSize pat < 3 then Lean.Macro.throwUnsupported
    `(tactic| rcases ($e : $t) with $pat:rcasesPatMed)
  | `(tactic| rcases $e:term with $pat:rcasesPatLo) => do
    if Mine.patSize pat < 3 then Lean.Macro.throwUnsupported
    `(tactic| ((fail_if_success (with_reducible show Mine.Hg _)); refine Mine.to_hg ?_; intro Gq kGq; (rcases $e:term with $pat:rcasesPatLo) <;> (refine kGq ?_; clear kGq Gq)))
  | `(tactic| rintro $p:rintroPat $ps:rintroPat*) => do
    if ps.foldl (fun n p => n + Mine.patSize p - 1) (Mine.patSize p) < 3 then Lean.Macro.throwUnsupported
    if ps.size == 0 then
      match p with
      | `(rintroPat| $pat:rcasesPat) => `(tactic| (intro hGq; rcases hGq with $pat:rcasesPat))
      | _ => Lean.Macro.throwUnsupported
    else `(tactic| (rintro $p <;> rintro $ps*))
namespace Mine
open PySem PySem.W PyProof.Rows PySem.Calls
/-- what comes behind a statement -/
noncomputable def After (M : Model) (A : Around) (rest : List Stmt) (env : Env) (Q : Flow → Shared → Prop) (E : Value → Shared → Prop) (f : Flow) (s : Shared) : Prop :=
  match f with
  | .next => wpAny M A (execs rest env) Q E s
  | f => Q f s
structure Hid (P Q : Flow → Shared → Prop) : Prop where
  go : ∀ f s, P f s → Q f s
section
variable {M : Model} {A : Around} {rest : List Stmt} {env : Env} {Q Q' : Flow → Shared → Prop} {E : Value → Shared → Prop} {s : Shared}
theorem Hid.next (h : Hid (After M A rest env Q E) Q') (x : wpAny M A (execs rest env) Q E s) : Q' .next s := h.go _ _ x
theorem Hid.cont (h : Hid (After M A rest env Q E) Q') (x : Q .cont s) : Q' .cont s := h.go _ _ x
theorem Hid.brk (h : Hid (After M A rest env Q E) Q') (x : Q .brk s) : Q' .brk s := h.go _ _ x
theorem Hid.ret {v : Value} (h : Hid (After M A rest env Q E) Q') (x : Q (.ret v) s) : Q' (.ret v) s := h.go _ _ x
end
/-- one statement, what comes behind it hidden behind a variable; the count of tokens told no longer -/
theorem hide_cons {M : Model} {A : Around} {st : Stmt} {rest : List Stmt} {env : Env} {Q : Flow → Shared → Prop} {E : Value → Shared → Prop} {a : Heap} {b : Array GenState} {d : Drawn} {t : Nat} {o : OsState}
    (h : ∀ (k : Nat) (Q' : Flow → Shared → Prop), Hid (After M A rest env Q E) Q' → wpAny M A (exec st env) Q' E (Shared.mk a b d k o)) : wpAny M A (execs (st :: rest) env) Q E (Shared.mk a b d t o) :=
  wpAny_execs_cons (h t _ ⟨fun f s x => by cases f <;> exact x⟩)
theorem hide_cons0 {M : Model} {A : Around} {st : Stmt} {rest : List Stmt} {env : Env} {Q : Flow → Shared → Prop} {E : Value → Shared → Prop} {s : Shared}
    (h : ∀ (_ : Nat) (Q' : Flow → Shared → Prop), Hid (After M A rest env Q E) Q' → wpAny M A (exec st env) Q' E s) : wpAny M A (execs (st :: rest) env) Q E s :=
  wpAny_execs_cons (h 0 _ ⟨fun f s x => by cases f <;> exact x⟩)
theorem gen_int1 {M : Model} {A : Around} {Q : Unit → Shared → Prop} {E : Value → Shared → Prop} {env : Env} {x : Str} {z : Int} {s s' : Shared}
    (h : ∀ t : Tok, wpAny M A (storeName env x (.int z t)) Q E s) : wpAny M A (storeName env x (.int z s'.toks)) Q E s := h _
theorem gen_int2 {M : Model} {A : Around} {Q : Unit → Shared → Prop} {E : Value → Shared → Prop} {env : Env} {x : Str} {z : Int} {s : Shared} {k : Nat}
    (h : ∀ t : Tok, wpAny M A (storeName env x (.int z t)) Q E s) : wpAny M A (storeName env x (.int z (k + 1))) Q E s := h _
theorem gen_str1 {M : Model} {A : Around} {Q : Unit → Shared → Prop} {E : Value → Shared → Prop} {env : Env} {x : Str} {z : Str} {s s' : Shared}
    (h : ∀ t : Tok, wpAny M A (storeName env x (.str z t)) Q E s) : wpAny M A (storeName env x (.str z s'.toks)) Q E s := h _
theorem gen_str2 {M : Model} {A : Around} {Q : Unit → Shared → Prop} {E : Value → Shared → Prop} {env : Env} {x : Str} {z : Str} {s : Shared} {k : Nat}
    (h : ∀ t : Tok, wpAny M A (storeName env x (.str z t)) Q E s) : wpAny M A (storeName env x (.str z (k + 1))) Q E s := h _
end Mine
local macro_rules | `(tactic| walk_at "execs cons") => do
  let ts ← #[`Mine.hide_cons, `Mine.hide_cons0].mapM fun n => `(tacticSeq| with_reducible refine $(Lean.mkIdent n) ?_; intro _ $(Lean.mkIdent `Qz) $(Lean.mkIdent `kQz); try dsimp only)
  `(tactic| first $[| $ts]*)
local macro_rules | `(tactic| walk) => do
  let ns := #[`Mine.Hid.next, `Mine.Hid.cont, `Mine.Hid.brk, `Mine.Hid.ret].map Lean.mkIdent
  let k := Lean.mkIdent `kQz
  let t1 ← ns.mapM fun n => `(tacticSeq| refine $n $k ?_)
  let t2 ← ns.mapM fun n => `(tacticSeq| refine $n (by with_reducible assumption) ?_)
  let ts := t1 ++ t2
  `(tactic| repeat' (first | walk1 | ((first $[| $ts]*); try clear $k $(Lean.mkIdent `Qz))))
local macro_rules | `(tactic| walk_at "storeName") => do
  let ts ← #[`Mine.gen_int1, `Mine.gen_int2, `Mine.gen_str1, `Mine.gen_str2].mapM fun n => `(tacticSeq| with_reducible refine $(Lean.mkIdent n) ?_)
  `(tactic| ((first $[| $ts]*); intro _; walk_at "storeName"))
local macro_rules | `(tactic| omega) => `(tactic| lia)
local macro_rules | `(tactic| wp_step) => do
  let w := fun (s : String) (x : String) (y : String) => (s.splitOn " ").map fun n => Mine.goS 1 (";PySem.wpAny_" ++ n ++ x ++ ";" ++ y ++ ";")
  Mine.firstOf' (w "pure bind holding standAt point rule letGo fresh' alloc' attempt throw call runValue run" " _" "" ++ w "of_eq typeOf" " a _" "a=ras" ++ w "specialOf_val specialOf isInstance_val isInstance" " a b _" "a=ras b=ras" ++
    w "load' update' loadPart' updatePart'" " ho _" "ho=heap" ++ w "handled_none" " ho _" "ho=as" ++ w "ite_false ite_true" " ho _" "ho=rfld" ++ w "ite_false ite_true" " ho _" "ho=simpa" ++
    [Mine.goS 1 "isInt;PySem.wpAny_mkInt' _;;", Mine.goS 1 "isStr;PySem.wpAny_mkStr' _;;", Mine.tc "delta"])
namespace Mine
open PySem PySem.W PyProof.Rows PySem.Calls

/-- a def without cells, called: the ground of the callee is the caller's whole heap -/
theorem enter {prog : Program} {w : World} {A : Around} {s : Shared} {E : Value → Shared → Prop} {Q : Value → Shared → Prop} {K : Frag} {p : Program} {loose : List Str} {mg mb : Str → Option Value}
    {name qual : Str} {params : Arguments} {body : List Stmt} {scope : Scope} {dV kV doc pm cdv ct oc : Value} {an od : Option Addr} {osl : Array (Option Value)} {f : Addr} {args : List Value} {binds : List (Str × Value)}
    (X : K.In s.heap) (T : TopRead p loose mg mb s.heap)
    (ho : K.lookup f = some ⟨oc, od, .func (fnOf name qual params body scope dV kV doc pm an cdv ct), osl⟩) (hcd : codeIn K cdv qual = true) (hroom : A.depth < recursionLimit)
    (hbind : BindsTo s (fnOf name qual params body scope dV kV doc pm an cdv ct) ⟨args, []⟩ binds)
    (hloc : ∀ x ∈ binds, scope.names.lookup x.1 = some .local) (hcell : ∀ x ∈ scope.names, x.2 ≠ .cell)
    (hco : scope.isCoroutine = false) (hgen : scope.isGenerator = false) (hk : scope.kind = .function)
    {m₀ : Str → Option Value} (hm : (fun x => binds.reverse.lookup x) = m₀)
    (h : ∀ L h₁ tk, L = s.heap.objs.size → Fr s.heap L h₁ m₀ → News s.heap L h₁ [] →
      wpAny (model prog w) (A.deeper (envX qual scope L f cdv [])) (execs body (envX qual scope L f cdv []))
        (fun fl s' => Q (match fl with | .ret v => v | _ => .none) s') (fun _ _ => False) { s with heap := h₁, toks := tk }) :
    wpAny (model prog w) A (call (.ref f) args) Q E s := by
  subst hm
  refine wpAny_call ?_
  refine codeAny_call_def (fd := fnX name qual params body scope [] dV kV doc pm an cdv ct) (body := body) (binds := binds) hroom (X _ _ ho) rfl T.nolimit (codeRec_of X hcd) rfl hbind hcell hloc (fun h₁ hns hk₁ => ?_) hco hgen hk
  exact wpAny_mono (h s.heap.objs.size h₁ _ rfl ⟨hns, hk₁, Nat.le_refl _⟩ News.nil) (fun _ _ x => x) (fun _ _ x => x.elim)

/-- a def with cells, called -/
theorem enterC {prog : Program} {w : World} {A : Around} {s : Shared} {E : Value → Shared → Prop} {Q : Value → Shared → Prop} {K : Frag} {p : Program} {loose : List Str} {mg mb : Str → Option Value}
    {name qual : Str} {params : Arguments} {body : List Stmt} {scope : Scope} {dV kV doc pm cdv ct oc : Value} {an od : Option Addr} {osl : Array (Option Value)} {f : Addr} {args : List Value} {binds : List (Str × Value)}
    (X : K.In s.heap) (T : TopRead p loose mg mb s.heap)
    (ho : K.lookup f = some ⟨oc, od, .func (fnOf name qual params body scope dV kV doc pm an cdv ct), osl⟩) (hcd : codeIn K cdv qual = true) (hroom : A.depth < recursionLimit)
    (hbind : BindsTo s (fnOf name qual params body scope dV kV doc pm an cdv ct) ⟨args, []⟩ binds)
    (hkind : (binds.all fun y => scope.names.lookup y.1 == some .local || scope.names.lookup y.1 == some .cell) = true)
    (hnd : ((cellsFrom 0 scope.names []).map (·.1)).Nodup)
    (hco : scope.isCoroutine = false) (hgen : scope.isGenerator = false) (hk : scope.kind = .function)
    {m₀ c₀ : Str → Option Value} {clf : Addr → List (Str × Addr)} (hm : (bindL (fun x => scope.names.lookup x) binds fun _ => none) = m₀) (hc : (bindC (fun x => scope.names.lookup x) binds fun _ => none) = c₀) (hcl : (fun L => cellsFrom (L + 1) scope.names []) = clf)
    (h : ∀ L h₁ tk cells, L = s.heap.objs.size → Fr s.heap L h₁ m₀ → News s.heap L h₁ cells →
      CellsAre c₀ (clf L) cells →
      wpAny (model prog w) (A.deeper (envX qual scope L f cdv (clf L))) (execs body (envX qual scope L f cdv (clf L)))
        (fun fl s' => Q (match fl with | .ret v => v | _ => .none) s') (fun _ _ => False) { s with heap := h₁, toks := tk }) :
    wpAny (model prog w) A (call (.ref f) args) Q E s := by
  subst hm hc hcl
  refine wpAny_call ?_
  refine codeAny_call_function hroom (X _ _ ho) rfl hco hgen rfl (codeRec_of X hcd) (hbind _ _ _ _ ?_)
  refine wpAny_newFunctionEnv_cells hk (kindsX hkind _) fun env' he s' x => ?_
  subst he
  refine ⟨T.nolimit.keeps x.toInCall.keep, codeAny_func ?_⟩
  obtain ⟨h₁, tk, rfl, _⟩ := x.done
  obtain ⟨cells, NC, Y⟩ := Cl.news (h₀ := s.heap) (Nat.le_refl _) fun n c hm => ⟨x.cell n c (lookup_of_mem_nodup (cellsFrom_names scope.names 0 (s.heap.objs.size + 1) [] [] rfl ▸ hnd) hm), x.above n c hm⟩
  exact wpAny_mono (h s.heap.objs.size h₁ tk cells rfl ⟨x.toInCall.ns, x.toInCall.keep, Nat.le_refl _⟩ NC Y) (fun _ _ x => x) (fun _ _ x => x.elim)
end Mine
namespace Mine
open PySem PySem.W PyProof.Rows PySem.Calls
noncomputable def Stop (P : Prop) : Prop := P
theorem of_stop {P : Prop} (h : Stop P) : P := h
theorem to_stop {P : Prop} (h : P) : Stop P := h
theorem stop_call (a : Addr) {M : Model} {A : Around} {vs : List Value} {Q E : Value → Shared → Prop} {s : Shared} (h : Stop (wpAny M A (call (.ref a) vs) Q E s)) : wpAny M A (call (.ref a) vs) Q E s := h
/-- lines of the walk, told by their keys -/
def stopAt (ks : List String) (s : Lean.TSyntax `str) : Lean.MacroM (Lean.TSyntax `tactic) := at' ks s (go [] 0 `Mine.of_stop ["_"] [] [])
def stopCall (ns : List Nat) (s : Lean.TSyntax `str) : Lean.MacroM (Lean.TSyntax `tactic) := at' ["call ref"] s do
  let ts ← ns.toArray.mapM fun n => `(tacticSeq| with_reducible refine Mine.stop_call $(Lean.quote n) ?_)
  `(tactic| first $[| $ts]*)
theorem stop_subref {M : Model} {A : Around} {x y : Expr} {a : Addr} {v : Value} {Q E : Value → Shared → Prop} {s : Shared} (h : Stop (wpAny M A (subscriptTail x y (.ref a) v) Q E s)) : wpAny M A (subscriptTail x y (.ref a) v) Q E s := h
theorem stop_callS {M : Model} {A : Around} {a : Addr} {x : Str} {t : Tok} {Q E : Value → Shared → Prop} {s : Shared} (h : Stop (wpAny M A (call (.ref a) [.str x t]) Q E s)) : wpAny M A (call (.ref a) [.str x t]) Q E s := h
theorem stop_next {M : Model} {A : Around} {a : Addr} {Q E : Value → Shared → Prop} {s : Shared} (h : Stop (wpAny M A (call (.builtin "next") [.ref a]) Q E s)) : wpAny M A (call (.builtin "next") [.ref a]) Q E s := h
theorem stop_contains {M : Model} {A : Around} {a : Addr} {b : Bool} {Q E : Value → Shared → Prop} {s : Shared} (h : Stop (wpAny M A (getAttr (.ref a) (Str.ofString "__contains__") b) Q E s)) : wpAny M A (getAttr (.ref a) (Str.ofString "__contains__") b) Q E s := h
def refineAt (tab : List (String × Lean.Name)) (s : Lean.TSyntax `str) (mode : Nat := 1) : Lean.MacroM (Lean.TSyntax `tactic) :=
  match tab.lookup s.getString with
  | some n => go [] mode n ["_"] [] []
  | none => Lean.Macro.throwUnsupported
end Mine
local macro_rules | `(tactic| walk_at "binaryOp Pow int int") => Mine.go [] 0 `PyProof.Rows.pow_int_small ["a", "b", "c", "_"] [("a", "om"), ("b", "om"), ("c", "dec")] []
local macro_rules | `(tactic| walk_at $s:str) => Mine.stopAt (["eval ListComp", "exec Assign cons ListComp", "exec For", "exec While", "eval GeneratorExp", "eval Lambda"] ++ ((["Name", "Tuple"].flatMap fun a => ["Name", "Call", "Attribute", "Subscript"].map fun b => s!"exec For {a} {b} cons nil") ++ ["Compare", "BoolOp", "Constant", "Name", "UnaryOp"].map fun b => s!"exec While {b} cons nil")) s
namespace Mine
open PySem PySem.W PyProof.Rows PySem.Calls
noncomputable abbrev SL (l : List Nat) : Str := ⟨l.toArray⟩
theorem SL_app (a b : List Nat) : SL a ++ SL b = SL (a ++ b) := by
  show Str.append (SL a) (SL b) = _
  simp [Str.append, SL]
theorem SL_len (a : List Nat) : (SL a).length = a.length := by simp [Str.length]
theorem SL_inj {a b : List Nat} : (SL a = SL b) ↔ a = b := by simp [SL]

noncomputable def ENDS : List Nat := [93, 47, 42, 91, 33, 45]
noncomputable def sel (mask : Nat) : List Nat := ((List.range 6).filter fun k => decide (mask / 2 ^ k % 2 = 1)).map fun k => ENDS.getD k 0
noncomputable def unsel (ins : List Nat) : List Nat := ENDS.filter fun c => !ins.contains c
noncomputable def itemL (mask : Nat) (b : Bool) : List Nat :=
  if unsel (sel mask) = [] then [63] else if b = true ∨ (sel mask).head? = some 33 then [91, 33] ++ unsel (sel mask) ++ [93] else [91] ++ sel mask ++ [93]

theorem join_fold : ∀ (ys : List (List Nat)) (acc : List Nat), (ys.map SL).foldl (fun (acc : Array Nat) p => acc ++ (SL []).cps ++ p.cps) acc.toArray = (acc ++ ys.flatten).toArray
  | [], acc => by simp
  | y :: r, acc => by
    have h := join_fold r (acc ++ y)
    simp only [List.map_cons, List.foldl_cons, List.flatten_cons]
    simp only [List.append_toArray, List.append_nil] at h ⊢
    rw [h]; simp
theorem join_nil (ys : List (List Nat)) : Txt.join (SL []) (ys.map SL) = SL ys.flatten := by
  cases ys with
  | nil => rfl
  | cons y r =>
    have h := join_fold r y
    unfold Txt.join Builtin.Str.glued
    simp only [List.map_cons, List.drop_succ_cons, List.drop_zero, List.headD_cons, List.flatten_cons]
    exact congrArg Str.mk h

theorem paired_strs {F : Value → Value → Prop} {β : Type} (f : β → Value) (g : β → Str) (hF : ∀ b y, F (f b) y → ∃ u, y = .str (g b) u) : ∀ {l : List β} {ys : List Value}, Paired F (l.map f) ys → StrsAre ys (l.map g)
  | [], _, h => by cases h; exact .nil
  | b :: l, _, h => by
    cases h with
    | cons h1 h2 =>
      obtain ⟨u, rfl⟩ := hF _ _ h1
      exact .cons _ _ (paired_strs f g hF h2)

theorem vals_range {n : Nat} {vs : List Value} (hl : vs.length = n) (hP : ∀ (j : Nat) v, vs[j]? = some v → j < n ∧ ∃ t, v = Value.int (j : Int) t) : ∃ τ : Nat → Tok, vs = (List.range n).map fun (j : Nat) => Value.int (j : Int) (τ j) := by
  refine ⟨fun (j : Nat) => match vs[j]? with | some (.int _ t) => t | _ => 0, List.ext_getElem? fun j => ?_⟩
  by_cases hj : j < n
  · rw [List.getElem?_map, List.getElem?_range hj]
    have e := List.getElem?_eq_getElem (l := vs) (i := j) (by omega)
    obtain ⟨_, t, ht⟩ := hP j _ e
    rw [e, ht]
    simp only [Option.map_some]
    rw [e, ht]
  · rw [List.getElem?_eq_none (by omega), List.getElem?_eq_none (by simp; omega)]

theorem vals_signs {x : List Nat} {vs : List Value} (hl : vs.length = x.length) (hP : ∀ j v, vs[j]? = some v → SignAt (SL x) j v) : ∃ τ : Nat → Tok, vs = (x.zipIdx).map fun p => Value.str (SL [p.1]) (τ p.2) := by
  refine ⟨fun (j : Nat) => match vs[j]? with | some (.str _ t) => t | _ => 0, List.ext_getElem? fun j => ?_⟩
  by_cases hj : j < x.length
  · have e := List.getElem?_eq_getElem (l := vs) (i := j) (by omega)
    obtain ⟨c, u, hc, hv⟩ := hP j _ e
    simp only [List.getElem?_toArray] at hc
    rw [List.getElem?_map, List.getElem?_zipIdx, hc, e, hv]
    simp only [Option.map_some, Nat.zero_add]
    rw [e, hv]
  · rw [List.getElem?_eq_none (by omega), List.getElem?_eq_none (by simp; omega)]
end Mine
namespace Mine
open PySem PySem.W PyProof.Rows PySem.Calls
section
variable {prog : Program} {w : World} {A : Around} {E : Value → Shared → Prop} {s : Shared} {env : Env} {h₀ : Heap} {L : Addr} {m : Str → Option Value} {news : List (Addr × Obj)}

theorem news_keeps {h h' : Heap} (N : News h₀ L h news) (hk : ∀ b o, h.get? b = some o → h'.get? b = some o) : News h₀ L h' news := fun p hp => ⟨hk _ _ (N p hp).1, (N p hp).2⟩

/-- what a comprehension's source hands over; K: what is to be shown of its list -/
inductive CompIn (prog : Program) (w : World) (A : Around) (env : Env) (scope : Scope) (cl : List (Str × Addr)) (x : Str) (ifs : List Expr) (elt : Expr) (p : Value → Bool) (F : Value → Value → Prop) (s : Shared) (K : Nat → (Nat → Value → Prop) → Prop) (it : Value) (s₂ : Shared) : Prop
  | mk (I : Addr) (fp wr : List Addr) (n : Nat) (P : Nat → Value → Prop) (St : Nat → Heap → Prop) (h1 : it = .ref I) (h2 : Walks prog w A I fp wr n P St) (h3 : n ≤ sizeLine) (h4 : St 0 s₂.heap) (h5 : ∀ b ∈ fp, b < s₂.heap.objs.size)
      (h6 : ∃ h' tk', s₂ = { s with heap := h', toks := tk' }) (h7 : ∀ b o, s.heap.get? b = some o → b ∉ wr ∧ s₂.heap.get? b = some o) (h8 : QuietOnC prog w A env scope cl x ifs elt wr P p F s₂) (h9 : K n P) : CompIn prog w A env scope cl x ifs elt p F s K it s₂
/-- a comprehension with one name, over anything that walks -/
theorem comp_any {elt iter : Expr} {x : Str} {px : Pos} {ifs : List Expr} {scope : Scope} {cl : List (Str × Addr)} {pos : Pos} {Q : Value → Shared → Prop} (p : Value → Bool) (F : Value → Value → Prop)
    (Fr0 : Fr h₀ L s.heap m) (N0 : News h₀ L s.heap news)
    (hclos : closureFor scope env = pure cl) (hcell : ∀ y ∈ scope.names, y.2 ≠ .cell) (hkind : scope.kind = .function)
    (hnames : ∀ y ∈ scope.names, y.2 = .local → scope.names.lookup y.1 = some .local) (hx : scope.names.lookup x = some .local)
    (h : wpAny (model prog w) A (eval iter env) (fun xv s₁ => wpAny (model prog w) A (pyIter xv) (CompIn prog w A env scope cl x ifs elt p F s (fun n P =>
      ∀ D k h' tk ys (vs : List Value), vs.length = n → (∀ j v, vs[j]? = some v → P j v) → Paired F (vs.filter p) ys → Fr h₀ L h' m → News h₀ L h' ((D, { cls := .type "list", data := .seq ys.toArray k }) :: news) →
        (∀ b o, s.heap.get? b = some o → h'.get? b = some o) → s.heap.get? D = none → Q (.ref D) { s with heap := h', toks := tk })) E s₁) E s)
    (hs : ∀ x, foldedSetIterable iter env x = pure x) :
    wpAny (model prog w) A (eval (.ListComp elt [⟨.Name x px, iter, ifs, 0⟩] scope pos) env) Q E s := by
  refine wpAny_ListComp_free p F hclos hcell hkind hnames hx (wpAny_mono h (fun xv s₁ h₁ => wpAny_mono h₁ (fun it s₂ h₂ => ?_) fun _ _ e => e) fun _ _ e => e) hs
  obtain ⟨I, fp, wr, n, P, St, rfl, W, hn, hst, hfp, ⟨hp, tk, rfl⟩, hk, hq, hQ⟩ := h₂
  refine ⟨I, fp, wr, n, P, St, rfl, W, hn, hst, hfp, hq, fun D h' tk' ys vs hD hl hpl hlen hP hF hk' => ?_⟩
  obtain ⟨k, e⟩ := hpl
  have keep : ∀ b o, s.heap.get? b = some o → h'.get? b = some o := fun b o eb => hk' b o (hk b o eb).1 (hk b o eb).2
  have hD0 : s.heap.get? D = none := by
    cases e0 : s.heap.get? D with
    | none => rfl
    | some o' => have := (hk _ _ e0).2; rw [hD] at this; cases this
  refine hQ D k h' tk' ys.toList vs hlen hP hF (Fr0.keeps keep) (fun q hq => ?_) keep hD0
  rcases List.mem_cons.mp hq with rfl | hq
  · refine ⟨by simpa using e, fun q => ?_, ?_⟩
    · obtain ⟨oL, _, _, hL, _⟩ := Fr0.ns
      have q' : D = L := q
      have e2 := (hk _ _ hL).2
      rw [← q', hD] at e2
      cases e2
    · cases e0 : h₀.get? D with
      | none => rfl
      | some o' => have := (hk _ _ (Fr0.keep _ _ e0)).2; rw [hD] at this; cases this
  · exact news_keeps N0 keep q hq

/-- the same, stored into a name at once -/
theorem comp_assign {elt iter : Expr} {x y : Str} {px py : Pos} {ifs : List Expr} {scope : Scope} {cl : List (Str × Addr)} {pos spos : Pos} {Q : Flow → Shared → Prop} (p : Value → Bool) (F : Value → Value → Prop)
    (Fr0 : Fr h₀ env.locals s.heap m) (N0 : News h₀ env.locals s.heap news)
    (hsw : swapsWith (.ListComp elt [⟨.Name x px, iter, ifs, 0⟩] scope pos) (some (.Name y py)) spos.line env = pure true)
    (hclos : closureFor scope env = pure cl) (hcell : ∀ y ∈ scope.names, y.2 ≠ .cell) (hkind : scope.kind = .function)
    (hnames : ∀ y ∈ scope.names, y.2 = .local → scope.names.lookup y.1 = some .local) (hx : scope.names.lookup x = some .local)
    (hy : env.kindOf y = some .local) (hp : (env.scope.kind == .class || (env.scope.kind == .module && env.locals != env.globals)) = false)
    (h : wpAny (model prog w) A (eval iter env) (fun xv s₁ => wpAny (model prog w) A (pyIter xv) (CompIn prog w A env scope cl x ifs elt p F s (fun n P =>
      ∀ D k h' tk ys (vs : List Value), vs.length = n → (∀ j v, vs[j]? = some v → P j v) → Paired F (vs.filter p) ys → Fr h₀ env.locals h' (fun z => if z = y then some (.ref D) else m z) → News h₀ env.locals h' ((D, { cls := .type "list", data := .seq ys.toArray k }) :: news) →
        s.heap.get? D = none → Q .next { s with heap := h', toks := tk })) E s₁) E s)
    (hs : ∀ x, foldedSetIterable iter env x = pure x) :
    wpAny (model prog w) A (exec (.Assign [.Name y py] (.ListComp elt [⟨.Name x px, iter, ifs, 0⟩] scope pos) spos) env) Q E s := by
  refine wpAny_Assign_ListComp_free p F hsw hclos hcell hkind hnames hx hy hp (wpAny_mono h (fun xv s₁ h₁ => wpAny_mono h₁ (fun it s₂ h₂ => ?_) fun _ _ e => e) fun _ _ e => e) hs
  obtain ⟨I, fp, wr, n, P, St, rfl, W, hn, hst, hfp, ⟨hp', tk, rfl⟩, hk, hq, hQ⟩ := h₂
  obtain ⟨oL, a1, a2, hL, a3⟩ := id Fr0.ns
  refine ⟨I, fp, wr, n, P, St, m, rfl, W, hn, hst, hfp, (hk _ _ hL).1, ⟨oL, a1, a2, (hk _ _ hL).2, a3⟩, hq, fun D h' tk' ys vs hD hl hpl hlen hP hF hns hk' => ?_⟩
  obtain ⟨k, e⟩ := hpl
  have keep : ∀ b o, b ≠ env.locals → s.heap.get? b = some o → h'.get? b = some o := fun b o hb eb => hk' b o hb (hk b o eb).1 (hk b o eb).2
  have hD0 : s.heap.get? D = none := by
    cases e0 : s.heap.get? D with
    | none => rfl
    | some o' => have := (hk _ _ e0).2; rw [hD] at this; cases this
  have hDL : D ≠ env.locals := fun q => by rw [q, hL] at hD0; cases hD0
  refine hQ D k h' tk' ys.toList vs hlen hP hF ⟨hns, fun b o eb => keep b o (fun q => Nat.lt_irrefl _ (Nat.lt_of_lt_of_le (q ▸ Heap.lt_size eb) Fr0.above)) (Fr0.keep _ _ eb), Fr0.above⟩ (fun q hq => ?_) hD0
  rcases List.mem_cons.mp hq with rfl | hq
  · refine ⟨by simpa using e, hDL, ?_⟩
    cases e0 : h₀.get? D with
    | none => rfl
    | some o' => have := Fr0.keep _ _ e0; rw [hD0] at this; cases this
  · exact ⟨keep _ _ (N0 q hq).2.1 (N0 q hq).1, (N0 q hq).2⟩

theorem walks_cast {I : Addr} {fp wr : List Addr} {n : Nat} {P P' : Nat → Value → Prop} {St : Nat → Heap → Prop} (W : Walks prog w A I fp wr n P St) (h : ∀ i v, P i v → P' i v) : Walks prog w A I fp wr n P' St where
  sub := W.sub
  frame := W.frame
  item := fun i s Q E hi st hQ => W.item i s Q E hi st fun v h' tk hv => hQ v h' tk (h _ _ hv)
  done := W.done
  self := W.self

theorem src_range {r : Addr} {n : Int} {t u v : Tok} {Q : Value → Shared → Prop} (hh : A.handled = none) (hr : IsRange s.heap r 0 n 1 t u v) (hn : 0 ≤ n) (hn' : n < 2 ^ 62)
    (h : ∀ I h' St, I < h'.objs.size → s.heap.get? I = none ∧ s.heap.objs.size ≤ I → (∀ b o, s.heap.get? b = some o → h'.get? b = some o) →
      Walks prog w A I [I] [I] n.toNat (fun i v => i < n.toNat ∧ ∃ t, v = .int (i : Int) t) St → St 0 h' → (∀ i h, St i h → ∃ o, h.get? I = some o) → Q (.ref I) { s with heap := h' }) : wpAny (model prog w) A (pyIter (.ref r)) Q E s := by
  refine wpAny_pyIter_range hr (small_one (by omega) (by omega) (by omega) hn') (h _ _ _ ?_ ?_ ?_ (walks_cast (Walks.bound (Walks.range hh _ 0 1 n.toNat)) fun i v hv => ⟨hv.1, let ⟨t, e⟩ := hv.2; ⟨t, by rw [e]; congr 1; omega⟩⟩) ?_ (fun _ _ x => ⟨_, x⟩))
  · rw [Heap.size_push]; exact Nat.lt_succ_self _
  · exact ⟨Heap.get?_none_of_le (Nat.le_refl _), Nat.le_refl _⟩
  · exact fun b o e => Heap.get?_push_of_some _ e
  · refine (Heap.get?_push_size _ rfl).trans ?_
    rw [rangeSize_one]
    have e : ((n.toNat : Int) - ((0 : Nat) : Int)) = n := by omega
    have e2 : (if (0 : Int) < n then n - 0 else 0) = n := by split <;> omega
    rw [e, e2]
    rfl

theorem src_list {a : Addr} {items : Array Value} {Q : Value → Shared → Prop} (hh : A.handled = none) (hl : s.heap.IsList a items)
    (h : ∀ I h' St, I < h'.objs.size ∧ a < h'.objs.size → s.heap.get? I = none ∧ s.heap.objs.size ≤ I → (∀ b o, s.heap.get? b = some o → h'.get? b = some o) →
      Walks prog w A I [I, a] [I] items.size (fun i v => items[i]? = some v) St → St 0 h' → (∀ i h, St i h → ∃ o, h.get? I = some o) → (∀ i h, St i h → h.IsListIter I a i) → Q (.ref I) { s with heap := h' }) : wpAny (model prog w) A (pyIter (.ref a)) Q E s := by
  obtain ⟨o, ho, r⟩ := id hl
  have hlt := Heap.lt_size ho
  refine wpAny_pyIter_list hl (h _ _ _ ?_ ?_ ?_ (Walks.list hh _ a (Nat.ne_of_lt hlt) items) ?_ (fun _ _ x => let ⟨o, e, _⟩ := x.1; ⟨o, e⟩) (fun _ _ x => x.1))
  · rw [Heap.size_push]; exact ⟨Nat.lt_succ_self _, Nat.lt_succ_of_lt hlt⟩
  · exact ⟨Heap.get?_none_of_le (Nat.le_refl _), Nat.le_refl _⟩
  · exact fun b o e => Heap.get?_push_of_some _ e
  · exact ⟨⟨_, Heap.get?_push_size _ rfl, rfl, rfl⟩, hl.push _⟩

theorem src_str {x : Str} {t : Tok} {Q : Value → Shared → Prop} (hh : A.handled = none)
    (h : ∀ I h' St, I < h'.objs.size → s.heap.get? I = none ∧ s.heap.objs.size ≤ I → (∀ b o, s.heap.get? b = some o → h'.get? b = some o) →
      Walks prog w A I [I] [I] x.cps.size (SignAt x) St → St 0 h' → Q (.ref I) { s with heap := h' }) : wpAny (model prog w) A (pyIter (.str x t)) Q E s := by
  refine wpAny_pyIter_str fun o St W h0 => h _ _ St ?_ ?_ ?_ (W A hh) h0
  · rw [Heap.size_push]; exact Nat.lt_succ_self _
  · exact ⟨Heap.get?_none_of_le (Nat.le_refl _), Nat.le_refl _⟩
  · exact fun b o e => Heap.get?_push_of_some _ e

theorem join_SL {D : Addr} {items : List Value} {k : Nat} {t : Tok} {ys : List (List Nat)} {l : List Nat} {Q : Value → Shared → Prop} (hl : s.heap.get? D = some { cls := .type "list", data := .seq items.toArray k }) (hi : StrsAre items (ys.map SL)) (he : ys.flatten = l) (hw : ys.flatten.length + ys.length ≤ 1000)
    (h : ∀ t' k, Q (.str (SL l) t') { s with toks := k }) : wpAny (model prog w) A (call (.builtin "str.join") [.str (Str.ofString "") t, .ref D]) Q E s := by
  subst he
  refine join_listW ⟨_, hl, rfl, k, rfl⟩ (by simpa using hi) (by decide) ?_ fun t' k' => ?_
  · have e : ((ys.map SL).map (·.length)).sum = ys.flatten.length := by
      rw [List.map_map, List.length_flatten]
      congr 1
    rw [e, List.length_map]; omega
  · rw [show Txt.join (Str.ofString "") (ys.map SL) = SL ys.flatten from (by rw [show Str.ofString "" = SL [] from by decide +kernel]; exact join_nil ys)]
    exact h t' k'

theorem nameC_B {M : Model} {K : Frag} {mg mb : Str → Option Value} {p : Program} {loose : List Str} {x : Str} {pos : Pos} {v : Value} {scope : Scope} {cl : List (Str × Addr)} {C : Addr} {Q : Value → Shared → Prop} (X : K.In s.heap) (T : TopRead p loose mg mb s.heap)
    (e : nsIn K mainGlobals x = some none) (hv : bootBuiltins x = some v) (hn : x ≠ "__name__") (h : Q v s) (hg : env.globals = mainGlobals) (hb : env.builtins = builtinsNs)
    (hk : (compEnvC scope cl C env).scope.kind = .function) (hx : (compEnvC scope cl C env).kindOf x = some .globalImplicit) (hd : (x == ("__debug__" : Str)) = false) :
    wpAny M A (eval (.Name x pos) (compEnvC scope cl C env)) Q E s :=
  Name_function_global hk hx (loadGlobal_builtin (env := compEnvC scope cl C env) (by show s.heap.Ns env.globals mg; rw [hg]; exact T.g) (mg_none_of X T.g e) (by show s.heap.Ns env.builtins mb; rw [hb]; exact T.b) ((T.builtins x hn).trans hv) h) hd
theorem nameC_K {M : Model} {K : Frag} {mg mb : Str → Option Value} {p : Program} {loose : List Str} {x : Str} {pos : Pos} {v : Value} {scope : Scope} {cl : List (Str × Addr)} {C : Addr} {Q : Value → Shared → Prop} (X : K.In s.heap) (T : TopRead p loose mg mb s.heap)
    (e : nsIn K mainGlobals x = some (some v)) (h : Q v s) (hg : env.globals = mainGlobals)
    (hk : (compEnvC scope cl C env).scope.kind = .function) (hx : (compEnvC scope cl C env).kindOf x = some .globalImplicit) (hd : (x == ("__debug__" : Str)) = false) :
    wpAny M A (eval (.Name x pos) (compEnvC scope cl C env)) Q E s :=
  Name_function_global hk hx (loadGlobal_global (env := compEnvC scope cl C env) (by show s.heap.Ns env.globals mg; rw [hg]; exact T.g) (mg_of X T.g e) h) hd
theorem keeps_tok {s : Shared} {t : Nat} : Keeps s { s with toks := t } := ⟨s.heap, t, rfl, fun _ _ e => e⟩
theorem keeps_two {s : Shared} {t u : Nat} : Keeps s { ({ s with toks := t } : Shared) with toks := u } := ⟨s.heap, u, rfl, fun _ _ e => e⟩
theorem keeps_refl {s : Shared} : Keeps s s := ⟨s.heap, s.toks, rfl, fun _ _ e => e⟩
end
section
variable {M : Model} {A : Around} {E : Value → Shared → Prop} {s : Shared} {h₀ : Heap} {L a : Addr} {m mg mb : Str → Option Value} {cn : Str} {cs : Scope} {ccd : Value} {x : Str} {pos : Pos} {v : Value} {Q : Value → Shared → Prop} {K : Frag} {p : Program} {loose : List Str}
  {news : List (Addr × Obj)} {c : Addr} {o : Obj}
theorem nameY_L (F : Fr h₀ L s.heap m) (hv : m x = some v) (h : Q v s) (hk : cs.kind = .function) (hx : (envOfC cn cs L a ccd).kindOf x = some .local) (hd : (x == ("__debug__" : Str)) = false) :
    wpAny M A (eval (.Name x pos) (envOfC cn cs L a ccd)) Q E s := nameX_L F hv h hk hx hd
theorem nameY_C (N : News h₀ L s.heap news) (hc : (envOfC cn cs L a ccd).cells.lookup x = some c) (hm : (c, o) ∈ news) (hd : o.data = .cell (some v)) (h : Q v s) (hk : cs.kind = .function) (hx : (envOfC cn cs L a ccd).kindOf x = some .cell)
    (hb : (x == ("__debug__" : Str)) = false) : wpAny M A (eval (.Name x pos) (envOfC cn cs L a ccd)) Q E s := nameX_C N hc hm hd h hk hx hb
theorem nameY_K (F : Fr h₀ L s.heap m) (X : K.In h₀) (T : TopRead p loose mg mb h₀) (e : nsIn K mainGlobals x = some (some v)) (h : Q v s) (hk : cs.kind = .function) (hx : (envOfC cn cs L a ccd).kindOf x = some .globalImplicit)
    (hd : (x == ("__debug__" : Str)) = false) : wpAny M A (eval (.Name x pos) (envOfC cn cs L a ccd)) Q E s := nameX_K F X T e h hk hx hd
theorem nameY_B (F : Fr h₀ L s.heap m) (X : K.In h₀) (T : TopRead p loose mg mb h₀) (e : nsIn K mainGlobals x = some none) (hv : bootBuiltins x = some v) (hn : x ≠ "__name__") (h : Q v s) (hk : cs.kind = .function)
    (hx : (envOfC cn cs L a ccd).kindOf x = some .globalImplicit) (hd : (x == ("__debug__" : Str)) = false) : wpAny M A (eval (.Name x pos) (envOfC cn cs L a ccd)) Q E s := nameX_B F X T e hv hn h hk hx hd
end
end Mine
local macro_rules | `(tactic| walk_at "eval Name") => do
  let l := fun (h : String) (m : Nat) => [("PySem.W.nameX_L F k _", "F=ras k=rflas"), ("PySem.W.nameX_C N k1 k2 k3 _", "N=ras k1=rfl k2=kmem k3=as"), ("PySem.W.nameX_K F k1 k2 k3 _", "F=ras k1=kasm k2=top k3=kis"), ("PySem.W.nameX_B F k1 k2 k3 k4 k5 _", "F=ras k1=kasm k2=top k3=kis k4=boot k5=dec"),
    ("PyProof.Rows.ldVarK a b _", "a=ras b=as"), ("PyProof.Rows.ldCellK a b _", "a=rfl b=as"), ("PyProof.Rows.ldFreeK a b _", "a=rfl b=as")].map fun (n, c) => Mine.goS m (";" ++ n ++ h ++ ";" ++ (if m == 1 then "h1=rfl h2=rfl h3=dec " else "") ++ c ++ ";")
  let q := fun m => [Mine.goS m ";Mine.nameC_K a b c _ k1 k2 k3 k4;k1=rfl k2=rfl k3=rfl k4=dec a=ras b=as c=kis;", Mine.goS m ";Mine.nameC_B a b c d e _ k1 k2 k3 k4 k5;k1=rfl k2=rfl k3=rfl k4=rfl k5=dec a=ras b=as c=kis d=boot e=dec;"]
  let y := ["L F k _ h1 h2 h3;F=ras k=rflas", "C N k1 k2 k3 _ h1 h2 h3;N=ras k1=rfl k2=kmem k3=as", "K F k1 k2 k3 _ h1 h2 h3;F=ras k1=kasm k2=top k3=kis", "B F k1 k2 k3 k4 k5 _ h1 h2 h3;F=ras k1=kasm k2=top k3=kis k4=boot k5=dec"].map fun s => Mine.goS 1 (";Mine.nameY_" ++ s.replace ";" ";h1=rfl h2=rfl h3=dec " ++ ";")
  `(tactic| k_dflt $(← Mine.firstOf' (y ++ l " h1 h2 h3" 1 ++ q 1 ++ l "" 0 ++ q 0)):tactic)
namespace Mine
open PySem PySem.W PyProof.Rows PySem.Calls
theorem lit0 : Str.ofString "" = SL [] := by decide +kernel
theorem lit1 : Str.ofString "?" = SL [63] := by decide +kernel
theorem lit2 : Str.ofString "[!" = SL [91, 33] := by decide +kernel
theorem lit3 : Str.ofString "[" = SL [91] := by decide +kernel
theorem lit4 : Str.ofString "]" = SL [93] := by decide +kernel
theorem lit5 : Str.ofString "!" = SL [33] := by decide +kernel
theorem lit6 : Str.ofString "]/*[!-" = SL ENDS := by decide +kernel
theorem lit7 : Str.ofString "*" = SL [42] := by decide +kernel
theorem lit8 : Str.ofString "-" = SL [45] := by decide +kernel
theorem lit9 : Str.ofString "\\" = SL [92] := by decide +kernel
theorem lit10 : Str.ofString "\\\\" = SL [92, 92] := by decide +kernel
theorem lit11 : Str.ofString "." = SL [46] := by decide +kernel
theorem lit12 : Str.ofString "(?s:" = SL [40, 63, 115, 58] := by decide +kernel
theorem lit13 : Str.ofString ")\\Z" = SL [41, 92, 90] := by decide +kernel
theorem lit14 : Str.ofString ".*" = SL [46, 42] := by decide +kernel
theorem lit15 : Str.ofString "^" = SL [94] := by decide +kernel
theorem lit16 : Str.ofString "a" = SL [97] := by decide +kernel
theorem lit17 : Str.ofString "-!" = SL [45, 33] := by decide +kernel
theorem lit18 : Str.ofString "/" = SL [47] := by decide +kernel
theorem lit19 : Str.ofString "\\-" = SL [92, 45] := by decide +kernel
section
variable {prog : Program} {w : World} {M : Model} {A : Around} {E : Value → Shared → Prop} {s : Shared} {env : Env}
theorem const_SL {x : Str} {l : List Nat} {k : Nat} {pos : Pos} {Q : Value → Shared → Prop} (he : x = SL l) (h : Q (.str (SL l) s.toks) { s with toks := s.toks + 1 }) : wpAny M A (eval (.Constant (.str x) k pos) env) Q E s := by
  subst he
  exact Calls.Constant_str h
end
section
variable {prog : Program} {w : World} {A : Around} {E : Value → Shared → Prop} {s : Shared} {env : Env} {a b l : List Nat} {t u : Tok} {Q : Value → Shared → Prop}
theorem add_SL (hw : a.length + b.length ≤ 10000) (h : ∀ t' k, Q (.str (SL (a ++ b)) t') { s with toks := k }) : wpAny (model prog w) A (binaryOp .Add (.str (SL a) t) (.str (SL b) u)) Q E s :=
  PyProof.Rows.add_str (fun t' k => by rw [SL_app]; exact h t' k) (by rw [SL_len, SL_len, sizeLine_eq]; omega)
theorem iadd_SL (hw : a.length + b.length ≤ 10000) (h : ∀ t' k, Q (.str (SL (a ++ b)) t') { s with toks := k }) : wpAny (model prog w) A (inplaceOp .Add (.str (SL a) t) (.str (SL b) u)) Q E s :=
  PyProof.Rows.iadd_str (fun t' k => by rw [SL_app]; exact h t' k) (by rw [SL_len, SL_len, sizeLine_eq]; omega)
theorem SL_beq : (SL a == SL b) = decide (a = b) := by
  by_cases h : a = b
  · subst h; simp
  · have : SL a ≠ SL b := fun e => h (SL_inj.mp e)
    simp [h, this]
theorem eq_SL (h : Q (.bool (decide (a = b))) s) : wpAny (model prog w) A (compareOp .Eq (.str (SL a) t) (.str (SL b) u)) Q E s :=
  PyProof.Rows.eq_str (by rw [SL_beq]; exact h)
theorem ne_SL (h : Q (.bool (!decide (a = b))) s) : wpAny (model prog w) A (compareOp .NotEq (.str (SL a) t) (.str (SL b) u)) Q E s :=
  PyProof.Rows.ne_str (by rw [show (SL a != SL b) = !(SL a == SL b) from rfl, SL_beq]; exact h)
theorem item_SL {value slice : Expr} {i : Int} {c : Nat} (h0 : 0 ≤ i) (hi : i < 2 ^ 62) (hc : l[i.toNat]? = some c) (h : Q (.str (SL [c]) s.toks) { s with toks := s.toks + 1 })
    (hs : subscripted slice false (.str (SL l) t) (.int i u) = operate [.str (SL l) t, .int i u] (getItem (.str (SL l) t) (.int i u)) := by with_unfolding_all rfl)
    (ht : ∀ r, letTemporaryGo value (.str (SL l) t) r = pure () := by intro _; with_unfolding_all rfl) :
    wpAny (model prog w) A (subscriptTail value slice (.str (SL l) t) (.int i u)) Q E s := by
  have hlt : i.toNat < l.length := by
    rcases Nat.lt_or_ge i.toNat l.length with h | h
    · exact h
    · rw [List.getElem?_eq_none h] at hc; cases hc
  have e : Txt.item (SL l) i = SL [c] := by
    unfold Txt.item Txt.charAt
    have e1 : seqIndex? i (SL l).length = some i.toNat := by
      unfold seqIndex?
      rw [SL_len]
      simp only []
      split <;> first | (split <;> first | rfl | (exfalso; simp at *; omega)) | (exfalso; simp at *; omega) | rfl
    rw [e1]
    simp [hc]
  refine item_str ?_ (by rw [SL_len]; omega) (by rw [SL_len]; omega) (fun _ => by rw [e]; exact h) hs ht
  unfold fitsSsize
  simp
  omega
theorem in_SL {c : Nat} (h : Q (.bool (decide (c ∈ l))) s) : wpAny (model prog w) A (compareOp .In (.str (SL [c]) u) (.str (SL l) t)) Q E s :=
  PyProof.Rows.in_str (by rw [show SL [c] = ⟨#[c]⟩ from rfl, StrLaws.found_one]; simpa using h)
theorem notin_SL {c : Nat} (h : Q (.bool (!decide (c ∈ l))) s) : wpAny (model prog w) A (compareOp .NotIn (.str (SL [c]) u) (.str (SL l) t)) Q E s :=
  PyProof.Rows.notIn_str (by rw [show SL [c] = ⟨#[c]⟩ from rfl, StrLaws.found_one]; simpa using h)
theorem len_SL (hl : l.length ≤ 10000) (h : Q (.int l.length (s.toks + 1)) { s with toks := s.toks + 1 + 1 }) : wpAny (model prog w) A (call (.builtin "len") [.str (SL l) t]) Q E s :=
  SBL.len (by rw [SL_len]; omega) (by rw [SL_len]; exact h)
end
section
variable {prog : Program} {w : World} {A : Around} {E : Value → Shared → Prop} {s : Shared} {h₀ : Heap} {L : Addr} {m : Str → Option Value} {news : List (Addr × Obj)} {g : Obj → List (Addr × Obj)}
theorem app_N {a : Addr} {its : List Value} {n : Nat} {v : Value} {Q : Value → Shared → Prop} (F : Fr h₀ L s.heap m) (N : News h₀ L s.heap news) (U : UpdF a (W.listOf its.toArray n) news g) (hsz : its.length ≤ 10000)
    (h : ∀ h', Fr h₀ L h' m → News h₀ L h' (g (W.listOf (its ++ [v]).toArray (n + 1))) → Q .none { s with heap := h' }) : wpAny (model prog w) A (call (.builtin "list.append") [.ref a, v]) Q E s := by
  obtain ⟨pre, post, e1, e2, o1, o2⟩ := U.split
  have hm : (a, W.listOf its.toArray n) ∈ news := by rw [e1]; simp
  have hN := N _ hm
  refine append_at (hsz := by rw [List.size_toArray, sizeLine_eq]; omega) hN.1 fun h' hs hD => ?_
  refine h h' ⟨F.ns.sameBut hs (Ne.symm hN.2.1), fun b o e => hs.extBut b o (fun q => by rw [q, hN.2.2] at e; cases e) (F.keep b o e), F.above⟩ fun p hp => ?_
  rw [e2] at hp
  rcases List.mem_append.mp hp with hp | hp
  · have z := N p (by rw [e1]; exact List.mem_append_left _ hp)
    exact ⟨hs.extBut _ _ (o1 p hp) z.1, z.2⟩
  · rcases List.mem_cons.mp hp with rfl | hp
    · refine ⟨hD.trans ?_, hN.2⟩
      simp [W.listOf]
    · have z := N p (by rw [e1]; exact List.mem_append_right _ (.tail _ hp))
      exact ⟨hs.extBut _ _ (o2 p hp) z.1, z.2⟩
end
end Mine
local macro_rules | `(tactic| walk_at $s:str) => Mine.refineAt [("compareOp In str str", `Mine.in_SL), ("compareOp NotIn str str", `Mine.notin_SL), ("compareOp Eq str str", `Mine.eq_SL), ("compareOp NotEq str str", `Mine.ne_SL)] s 0
local macro_rules | `(tactic| walk_at "eval Constant str") => do
  let ts ← (Array.range 20).mapM fun i => `(tacticSeq| with_reducible refine Mine.const_SL $(Lean.mkIdent (.str `Mine s!"lit{i}")) ?_)
  `(tactic| first $[| $ts]*)
local macro_rules | `(tactic| walk_at $s:str) => Mine.at' ["binaryOp Add str str", "inplaceOp Add str str"] s (Mine.go [] 0 (if s.getString == "binaryOp Add str str" then `Mine.add_SL else `Mine.iadd_SL) ["sz", "_"] [("sz", "dec|om|ll")] ["i", "i"])
local macro_rules | `(tactic| walk_at $s:str) => Mine.at' ["subscriptTail", "subscriptTail Name Name str int", "subscriptTail Constant Name str int", "subscriptTail Name Constant str int", "subscriptTail Name BinOp str int", "subscriptTail Name UnaryOp str int", "subscriptTail Constant Name", "subscriptTail Name Name", "subscriptTail Name BinOp", "subscriptTail Name Constant"] s <| (Mine.go [] 1 `Mine.item_SL ["h0", "hi", "hc", "_", "hs", "ht"] [("hc", "as|rfl"), ("h0", "om"), ("hi", "om"), ("hs", "wrfl"), ("ht", "iwrfl")] [])
local macro_rules | `(tactic| walk_at "MY ne") => `(tactic| first | with_reducible assumption | (with_reducible refine Ne.symm ?_; with_reducible assumption) | exact Nat.ne_of_lt (by omega) | exact Nat.ne_of_gt (by omega))
local macro_rules | `(tactic| walk_at "MY head") => `(tactic| (apply UpdF.head; (first | exact List.forall_mem_nil _ | assumption | (simp only [List.forall_mem_cons, List.not_mem_nil, false_implies, implies_true, and_true]; (repeat' apply And.intro) <;> walk_at "MY ne"))))
local macro_rules | `(tactic| walk_at "call builtin:len") => Mine.go [] 1 `Mine.len_SL ["a", "_"] [("a", "asom")] []
local macro_rules | `(tactic| walk_at "call builtin:list.append") => Mine.go ["kF", "kN"] 0 `Mine.app_N ["@kF", "@kN", "U", "z", "_"] [("U", "updf"), ("z", "asom")] ["i", "i", "i"]
local macro_rules | `(tactic| walk_at "MY tail") => `(tactic| (apply UpdF.tail; walk_at "MY ne"))
local macro_rules | `(tactic| walk_at "MY updf") => `(tactic| first | walk_at "MY head" | (walk_at "MY tail"; walk_at "MY updf"))
namespace Mine
open PySem PySem.W PyProof.Rows PySem.Calls
section
variable {prog : Program} {w : World} {A : Around} {s : Shared} {env : Env} {h₀ : Heap}

/-- the end of a turn -/
noncomputable def StepEnd (h₀ : Heap) (L I : Addr) (oI : Obj) (Jn : (Str → Option Value) → List (Addr × Obj) → Prop) (s₂ : Shared) (f : Flow) (s₄ : Shared) : Prop :=
  (f = .next ∨ f = .cont) ∧ ∃ h' tk' m₂ news₂, s₄ = { s₂ with heap := h', toks := tk' } ∧ Fr h₀ L h' m₂ ∧ News h₀ L h' ((I, oI) :: news₂) ∧ Jn m₂ news₂
theorem StepEnd.next {h₀ h' : Heap} {L I : Addr} {oI : Obj} {Jn : (Str → Option Value) → List (Addr × Obj) → Prop} {s₂ : Shared} {tk' : Nat} {m₂ : Str → Option Value} {news₂ : List (Addr × Obj)}
    (F : Fr h₀ L h' m₂) (N : News h₀ L h' ((I, oI) :: news₂)) (j : Jn m₂ news₂) : StepEnd h₀ L I oI Jn s₂ .next { s₂ with heap := h', toks := tk' } := ⟨.inl rfl, h', tk', m₂, news₂, rfl, F, N, j⟩

/-- what a for loop of mine is told where its iterator stands -/
structure ForW (prog : Program) (w : World) (A : Around) (env : Env) (h₀ : Heap) (target : Expr) (body : List Stmt) (Q : Flow → Shared → Prop) (I : Addr) (fp : List Addr) (n : Nat) (P : Nat → Value → Prop) (St : Nat → Heap → Prop)
    (J : Nat → (Str → Option Value) → List (Addr × Obj) → Prop) (m : Str → Option Value) (news : List (Addr × Obj)) (s₂ : Shared) : Prop where
  W : Walks prog w A I fp [I] n P St
  st : St 0 s₂.heap
  fr : Fr h₀ env.locals s₂.heap m
  nw : News h₀ env.locals s₂.heap news
  ini : J 0 m news
  fresh : h₀.get? I = none
  ne : env.locals ≠ I
  off : ∀ i m' news', J i m' news' → ∀ p ∈ news', p.1 ≠ I
  src : ∀ b ∈ fp, b = I ∨ ∃ o, ∀ i m' news' h', J i m' news' → Fr h₀ env.locals h' m' → News h₀ env.locals h' news' → h'.get? b = some o
  go : ∀ i (s' : Shared) v (Q' : Unit → Shared → Prop), St i s'.heap → Q' () s' → wpAny (model prog w) A (letOwnedTupleGo target (.ref I) v) Q' (fun _ _ => False) s'
  has : ∀ i h, St i h → ∃ o, h.get? I = some o
  mem : I ∈ fp
  step : ∀ i v oI m₁ news₁ h₁ tk₁, i < n → P i v → J i m₁ news₁ → Fr h₀ env.locals h₁ m₁ → News h₀ env.locals h₁ ((I, oI) :: news₁) →
    wpAny (model prog w) A (assign target env v) (fun _ s₃ => wpAny (model prog w) A (execs body env) (StepEnd h₀ env.locals I oI (J (i + 1)) s₂) (fun _ _ => False) s₃) (fun _ _ => False) { s₂ with heap := h₁, toks := tk₁ }
  fin : ∀ h' tk' m' news', Fr h₀ env.locals h' m' → News h₀ env.locals h' news' → J n m' news' → Q .next { s₂ with heap := h', toks := tk' }

inductive ForIn (prog : Program) (w : World) (A : Around) (env : Env) (h₀ : Heap) (target : Expr) (body : List Stmt) (Q : Flow → Shared → Prop) (it : Value) (s₂ : Shared) : Prop
  | mk (I : Addr) (fp : List Addr) (n : Nat) (P : Nat → Value → Prop) (St : Nat → Heap → Prop) (J : Nat → (Str → Option Value) → List (Addr × Obj) → Prop) (m : Str → Option Value) (news : List (Addr × Obj)) (h1 : it = .ref I) (X : ForW prog w A env h₀ target body Q I fp n P St J m news s₂) : ForIn prog w A env h₀ target body Q it s₂
theorem for_w {E : Value → Shared → Prop} {Q : Flow → Shared → Prop} {target iter : Expr} {pos : Pos} {body : List Stmt} (h₀ : Heap)
    (h : wpAny (model prog w) A (eval iter env) (fun xv s₁ => wpAny (model prog w) A (pyIter xv) (ForIn prog w A env h₀ target body Q) E s₁) E s)
    (hs : ∀ x, foldedSetIterable iter env x = pure x) :
    wpAny (model prog w) A (exec (.For target iter body [] pos) env) Q E s := by
  refine wpAny_For (wpAny_mono h (fun xv s₁ h₁ => wpAny_mono h₁ (fun it s₂ h₂ => ?_) fun _ _ e => e) fun _ _ e => e) hs
  obtain ⟨I, fp, n, P, St, J, m, news, rfl, X⟩ := h₂
  refine codeAny_forLoop_any
    (fun k s' => ∃ h' tk m' news' i, s' = { s₂ with heap := h', toks := tk } ∧ St i h' ∧ Fr h₀ env.locals h' m' ∧ News h₀ env.locals h' news' ∧ J i m' news' ∧ i ≤ n ∧ k = n + 1 - i) ?_ (n + 1)
    ⟨s₂.heap, s₂.toks, m, news, 0, rfl, X.st, X.fr, X.nw, X.ini, Nat.zero_le _, rfl⟩
  rintro k s' ⟨h', tk, m', news', i, rfl, hst', F', N', hJ, hi, rfl⟩
  have next : ∀ h₁ : Heap, (∀ b o, b ∉ [I] → h'.get? b = some o → h₁.get? b = some o) → Fr h₀ env.locals h₁ m' ∧ News h₀ env.locals h₁ news' := fun h₁ hk₁ =>
    ⟨⟨F'.ns.at' fun o e => hk₁ _ o (by simpa using X.ne) e, fun b o e => hk₁ b o (fun hb => by rw [List.mem_singleton.mp hb, X.fresh] at e; cases e) (F'.keep b o e), F'.above⟩,
      fun p hp => ⟨hk₁ _ _ (by simpa using X.off _ _ _ hJ p hp) (N' p hp).1, (N' p hp).2⟩⟩
  by_cases hlt : i < n
  · refine X.W.item i _ _ _ hlt hst' fun v h₁ tk₁ hP hst₁ hk₁ => ?_
    obtain ⟨F₁, N₁⟩ := next h₁ hk₁
    obtain ⟨oI, hoI⟩ := X.has _ _ hst₁
    have N₂ : News h₀ env.locals h₁ ((I, oI) :: news') := fun p hp => by
      rcases List.mem_cons.mp hp with rfl | hp
      · exact ⟨hoI, X.ne.symm, X.fresh⟩
      · exact N₁ p hp
    refine wpAny_mono (X.go (i + 1) _ v _ hst₁ ?_) (fun _ _ x => x) (fun _ _ x => x.elim)
    refine wpAny_mono (X.step i v oI m' news' h₁ tk₁ hlt hP hJ F₁ N₂) (fun _ s₃ h₃ => wpAny_mono h₃ (fun f s₄ h₄ => ?_) (fun _ _ x => x.elim)) (fun _ _ x => x.elim)
    obtain ⟨hf, h₅, tk₅, m₂, news₂, rfl, F₅, N₅, J₅⟩ := h₄
    have res : ∃ m, m < n + 1 - i ∧ ∃ h'' tk m' news' i, ({ s₂ with heap := h₅, toks := tk₅ } : Shared) = { s₂ with heap := h'', toks := tk } ∧ St i h'' ∧ Fr h₀ env.locals h'' m' ∧ News h₀ env.locals h'' news' ∧ J i m' news' ∧ i ≤ n ∧ m = n + 1 - i := by
      refine ⟨n + 1 - (i + 1), by omega, h₅, tk₅, m₂, news₂, i + 1, rfl, X.W.frame _ _ _ hst₁ fun b hb o e => ?_, F₅, fun p hp => N₅ p (.tail _ hp), J₅, hlt, rfl⟩
      rcases X.src b hb with rfl | ⟨o', ho'⟩
      · rw [hoI] at e; cases e; exact (N₅ _ (.head _)).1
      · have e1 := ho' _ _ _ _ hJ F₁ N₁
        rw [e] at e1; cases e1
        exact ho' _ _ _ _ J₅ F₅ fun p hp => N₅ p (.tail _ hp)
    rcases hf with rfl | rfl
    · exact res
    · exact res
  · have hin : i = n := by omega
    subst hin
    refine X.W.done _ _ _ hst' fun h₁ tk₁ hk₁ => wpAny_execs_nil ?_
    obtain ⟨F₁, N₁⟩ := next h₁ hk₁
    exact X.fin h₁ tk₁ m' news' F₁ N₁ hJ
end
end Mine
namespace Mine
open PySem PySem.W PyProof.Rows PySem.Calls
noncomputable def okAt (T : List Nat) (bd : Bool) (ins : List Nat) (p : Nat) : Bool := bd != decide (T.getD p 0 ∈ ins)
noncomputable def nxt (T : List Nat) (bd : Bool) (ins : List Nat) (pl : List Nat) : List Nat := (pl.filter fun p => decide (p < T.length) && okAt T bd ins p).map (· + 1)
noncomputable def starTurn (T : List Nat) (bd : Bool) (ins : List Nat) (pl mv : List Nat) (p : Nat) : List Nat :=
  if p ∈ pl ∨ (1 ≤ p ∧ (p - 1) ∈ mv ∧ okAt T bd ins (p - 1) = true) then mv ++ [p] else mv
noncomputable def star (T : List Nat) (bd : Bool) (ins : List Nat) (pl : List Nat) : List Nat := (List.range (T.length + 1)).foldl (starTurn T bd ins pl) []
noncomputable def stepOf (T : List Nat) (x : Nat × Bool × List Nat) (pl : List Nat) : List Nat := if x.1 = 0 then nxt T x.2.1 x.2.2 pl else star T x.2.1 x.2.2 pl
noncomputable def plAt (T : List Nat) (xs : List (Nat × Bool × List Nat)) (i : Nat) : List Nat := (xs.take i).foldl (fun pl x => stepOf T x pl) [0]

theorem fold_len (T : List Nat) (bd : Bool) (ins pl : List Nat) (n : Nat) : ((List.range n).foldl (starTurn T bd ins pl) []).length ≤ n := by
  induction n with
  | zero => simp
  | succ n ih =>
    rw [List.range_succ, List.foldl_append]
    simp only [List.foldl_cons, List.foldl_nil]
    unfold starTurn
    split
    · rw [List.length_append, List.length_singleton]
      exact Nat.succ_le_succ ih
    · exact Nat.le_succ_of_le ih
theorem ints_snoc : ∀ {vs : List Value} {ns : List Int} (h : IntsAre vs ns) (n : Int) (t : Tok), IntsAre (vs ++ [.int n t]) (ns ++ [n])
  | _, _, .nil, n, t => .cons n t .nil
  | _, _, .cons a u h, n, t => .cons a u (ints_snoc h n t)
theorem any_nat (pl : List Nat) (k : Nat) : ((pl.map Int.ofNat).any fun x => x == (k : Int)) = decide (k ∈ pl) := by
  induction pl with
  | nil => simp
  | cons a r ih =>
    rw [List.map_cons, List.any_cons, ih, Bool.eq_iff_iff]
    simp only [Bool.or_eq_true, decide_eq_true_eq, List.mem_cons, beq_iff_eq]
    constructor
    · rintro (h | h)
      · left; have : (a : Int) = k := h; omega
      · exact .inr h
    · rintro (h | h)
      · left; subst h; rfl
      · exact .inr h
theorem any_pred (pl : List Nat) (k : Nat) (hk : k > 0) : ((pl.map Int.ofNat).any fun x => x == (k : Int) - 1) = decide (k - 1 ∈ pl) := by
  rw [← any_nat, show ((k : Int) - 1) = ((k - 1 : Nat) : Int) by omega]
theorem fold_succ (T : List Nat) (bd : Bool) (ins pl : List Nat) (n : Nat) : (List.range (n + 1)).foldl (starTurn T bd ins pl) [] = starTurn T bd ins pl ((List.range n).foldl (starTurn T bd ins pl) []) n := by
  rw [List.range_succ, List.foldl_append]; rfl
theorem starTurn_pos {T : List Nat} {bd : Bool} {ins pl mv : List Nat} {n : Nat} (c : n ∈ pl ∨ (1 ≤ n ∧ (n - 1) ∈ mv ∧ okAt T bd ins (n - 1) = true)) : starTurn T bd ins pl mv n = mv ++ [n] := if_pos c
theorem starTurn_neg {T : List Nat} {bd : Bool} {ins pl mv : List Nat} {n : Nat} (c : ¬ (n ∈ pl ∨ (1 ≤ n ∧ (n - 1) ∈ mv ∧ okAt T bd ins (n - 1) = true))) : starTurn T bd ins pl mv n = mv := if_neg c
theorem end_yes {T : List Nat} {bd : Bool} {ins pl : List Nat} {n : Nat} {mv : List Value} {t : Tok} (h : IntsAre mv (((List.range n).foldl (starTurn T bd ins pl) []).map Int.ofNat))
    (c : n ∈ pl ∨ (1 ≤ n ∧ (n - 1) ∈ (List.range n).foldl (starTurn T bd ins pl) [] ∧ okAt T bd ins (n - 1) = true)) : IntsAre (mv ++ [.int (n : Int) t]) (((List.range (n + 1)).foldl (starTurn T bd ins pl) []).map Int.ofNat) := by
  rw [fold_succ, starTurn_pos c, List.map_append]; exact ints_snoc h _ _
theorem end_no {T : List Nat} {bd : Bool} {ins pl : List Nat} {n : Nat} {mv : List Value} (h : IntsAre mv (((List.range n).foldl (starTurn T bd ins pl) []).map Int.ofNat))
    (c : ¬ (n ∈ pl ∨ (1 ≤ n ∧ (n - 1) ∈ (List.range n).foldl (starTurn T bd ins pl) [] ∧ okAt T bd ins (n - 1) = true))) : IntsAre mv (((List.range (n + 1)).foldl (starTurn T bd ins pl) []).map Int.ofNat) := by
  rw [fold_succ, starTurn_neg c]; exact h
/-- the heap bears a list of steps at a -/
noncomputable def StepsAt (h : Heap) (a : Addr) (xs : List (Nat × Bool × List Nat)) : Prop :=
  ∃ vs : List Value, h.IsList a vs.toArray ∧ vs.length = xs.length ∧ ∀ (i : Nat) (x : Nat × Bool × List Nat), xs[i]? = some x → ∃ t u1 u2, vs[i]? = some (Value.ref t) ∧ IsTup h t #[Value.int (x.1 : Int) u1, Value.bool x.2.1, Value.str (SL x.2.2) u2]
theorem StepsAt.keeps {h h' : Heap} {a : Addr} {xs : List (Nat × Bool × List Nat)} (S : StepsAt h a xs) (hk : ∀ b o, h.get? b = some o → h'.get? b = some o) : StepsAt h' a xs := by
  obtain ⟨vs, hl, h1, h2⟩ := S
  exact ⟨vs, stays_list hk hl, h1, fun i x hx => let ⟨t, u1, u2, e, ht⟩ := h2 i x hx; ⟨t, u1, u2, e, ht.keeps hk⟩⟩

theorem plAt_succ {T : List Nat} {xs : List (Nat × Bool × List Nat)} {i : Nat} {x : Nat × Bool × List Nat} (h : xs[i]? = some x) : plAt T xs (i + 1) = stepOf T x (plAt T xs i) := by
  unfold plAt
  rw [List.take_add_one, h, List.foldl_append]
  rfl
theorem stepOf_star {T : List Nat} {mn : Nat} {bd : Bool} {ins pl : List Nat} (h : (mn : Int) ≠ 0) : stepOf T (mn, bd, ins) pl = star T bd ins pl := by
  have : mn ≠ 0 := by omega
  simp [stepOf, this]
theorem stepOf_nxt {T : List Nat} {mn : Nat} {bd : Bool} {ins pl : List Nat} (h : (mn : Int) = 0) : stepOf T (mn, bd, ins) pl = nxt T bd ins pl := by
  have : mn = 0 := by omega
  simp [stepOf, this]
theorem news_sub {h₀ h : Heap} {L : Addr} {news news' : List (Addr × Obj)} (N : News h₀ L h news) (hs : ∀ p ∈ news', p ∈ news) : News h₀ L h news' := fun p hp => N p (hs p hp)
theorem ints_at : ∀ {vs : List Value} {ns : List Int}, IntsAre vs ns → ∀ (j : Nat) (v : Value), vs[j]? = some v → ∃ n t, ns[j]? = some n ∧ v = .int n t
  | _, _, .nil, j, v, h => by simp at h
  | _, _, .cons n t _, 0, v, h => by simp at h; exact ⟨n, t, rfl, h.symm⟩
  | _, _, .cons n t r, j + 1, v, h => by simpa using ints_at r j v (by simpa using h)
/-- the comprehension's list -/
theorem nxt_ints {T : List Nat} {bd : Bool} {ins : List Nat} (q : Value → Bool) (hq : ∀ (n : Nat) t, q (.int (n : Int) t) = (decide (n < T.length) && okAt T bd ins n)) :
    ∀ {pl : List Nat} {vs ys : List Value}, IntsAre vs (pl.map Int.ofNat) → Paired (fun v y => ∃ (n : Nat) (t u : Tok), v = .int (n : Int) t ∧ y = .int ((n : Int) + 1) u) (vs.filter q) ys → IntsAre ys ((nxt T bd ins pl).map Int.ofNat)
  | [], _, ys, h, p => by cases h; cases p; exact .nil
  | a :: pl, _, ys, h, p => by
    cases h with
    | cons n t r =>
      rw [List.filter_cons] at p
      have e : q (.int (Int.ofNat a) t) = (decide (a < T.length) && okAt T bd ins a) := hq a t
      have en : nxt T bd ins (a :: pl) = (if (decide (a < T.length) && okAt T bd ins a) = true then [a + 1] else []) ++ nxt T bd ins pl := by
        unfold nxt
        rw [List.filter_cons]
        split <;> simp
      rw [en]
      by_cases hc : (decide (a < T.length) && okAt T bd ins a) = true
      · rw [if_pos hc]
        rw [if_pos (e.trans hc)] at p
        cases p with
        | cons h1 h2 =>
          obtain ⟨m, t', u, e1, rfl⟩ := h1
          cases e1
          exact .cons ((a : Int) + 1) u (nxt_ints q hq r h2)
      · rw [if_neg hc]
        rw [if_neg (fun x => hc (e.symm.trans x))] at p
        exact nxt_ints q hq r p
theorem nat_of {l : List Nat} {j : Nat} {n : Int} (h : (l.map Int.ofNat)[j]? = some n) : ∃ n' : Nat, n = (n' : Int) := by
  rw [List.getElem?_map] at h
  cases e : l[j]? with
  | none => rw [e] at h; cases h
  | some a => rw [e] at h; cases h; exact ⟨a, rfl⟩
theorem nxt_len (T : List Nat) (bd : Bool) (ins pl : List Nat) : (nxt T bd ins pl).length ≤ pl.length := by
  unfold nxt
  rw [List.length_map]
  exact List.length_filter_le _ _
theorem stepOf_len (T : List Nat) (x : Nat × Bool × List Nat) (pl : List Nat) (h : pl.length ≤ T.length + 1) : (stepOf T x pl).length ≤ T.length + 1 := by
  unfold stepOf
  split
  · exact Nat.le_trans (nxt_len _ _ _ _) h
  · exact fold_len _ _ _ _ _
theorem plAt_len (T : List Nat) (xs : List (Nat × Bool × List Nat)) (i : Nat) : (plAt T xs i).length ≤ T.length + 1 := by
  unfold plAt
  generalize xs.take i = l
  have : ∀ (l : List (Nat × Bool × List Nat)) (pl : List Nat), pl.length ≤ T.length + 1 → (l.foldl (fun pl x => stepOf T x pl) pl).length ≤ T.length + 1 := by
    intro l
    induction l with
    | nil => intro pl h; exact h
    | cons x r ih => intro pl h; exact ih _ (stepOf_len T x pl h)
  exact this l [0] (by simp)
end Mine
namespace Mine
open PySem PySem.W PyProof.Rows PySem.Calls
open PySem.Challenge

/-- between two steps -/
inductive TakJ (T0 : List Nat) (xs : List (Nat × Bool × List Nat)) (L I : Addr) (ot : Obj) (i : Nat) (m : Str → Option Value) (news : List (Addr × Obj)) : Prop
  | mk (D : Addr) (k : Nat) (vs : List Value) (oi ob : Obj) (h1 : news = [(D, W.listOf vs.toArray k), (L + 1 + 1 + 1, oi), (L + 1 + 1, ob), (L + 1, ot)]) (h2 : m (Str.ofString "places") = some (.ref D)) (h3 : IntsAre vs ((plAt T0 xs i).map Int.ofNat))
      (h4 : D ≠ L + 1 + 1 + 1) (h5 : D ≠ L + 1 + 1) (h6 : D ≠ L + 1) (h7 : D ≠ I) (h8 : ∃ v0, oi.data = .cell v0) (h9 : ∃ v0, ob.data = .cell v0) : TakJ T0 xs L I ot i m news
/-- between two places -/
inductive TakM (T0 : List Nat) (bd : Bool) (ins pl : List Nat) (D M0 : Addr) (N : List (Addr × Obj)) (i' : Nat) (m : Str → Option Value) (news : List (Addr × Obj)) : Prop
  | mk (mv : List Value) (k' : Nat) (h1 : news = (M0, W.listOf mv.toArray k') :: N) (h2 : m (Str.ofString "places") = some (.ref D)) (h3 : m (Str.ofString "moved") = some (.ref M0)) (h4 : IntsAre mv (((List.range i').foldl (starTurn T0 bd ins pl) []).map Int.ofNat)) : TakM T0 bd ins pl D M0 N i' m news
theorem takes_c (w : World) (dp un : Nat) (fr : Option (List Env)) (gd : Option (List Code)) (s : Shared) (E : Value → Shared → Prop) (Q : Value → Shared → Prop) (p : Program) (loose : List Str) (mg mb : Str → Option Value)
   (a : Addr) (T0 : List Nat) (tk : Tok) (xs : List (Nat × Bool × List Nat)) (hA : dp < 900) (hu : un < 500) (hr : rw_ij0087_01.row.prog = rw_ij0087_01.row.prog)
   (X : (pre.heap_1 w.params).In s.heap) (T : TopRead p loose mg mb s.heap) (hS : StepsAt s.heap a xs) (hT0 : T0.length ≤ 4)
   (hQ : ∀ h' k', (∀ b o, s.heap.get? b = some o → h'.get? b = some o) → Q (.bool (decide (T0.length ∈ plAt T0 xs xs.length))) { s with heap := h', toks := k' })
   : wpAny (model rw_ij0087_01.row.prog w) { handled := none, depth := dp, frames := fr, guards := gd, units := un } (call (.ref 125) [.ref a, .str (SL T0) tk]) Q E s := by
  revert X; k_fill; intro X
  refine enterC (binds := [((Str.ofString "steps"), .ref a), ((Str.ofString "text"), .str (SL T0) tk)]) (m₀ := fun y => if y = Str.ofString "steps" then some (.ref a) else none) (c₀ := fun y => if y = Str.ofString "text" then some (.str (SL T0) tk) else none)
    (clf := fun L => [(Str.ofString "inside", L + 1 + 1 + 1), (Str.ofString "barred", L + 1 + 1), (Str.ofString "text", L + 1)]) X T (by k_is) (by k_is) (Nat.lt_trans hA (by decide)) (BindsTo.of_eq rfl) (by exact rfl) (by decide +kernel) rfl rfl rfl rfl rfl rfl ?_
  intro L h₁ tk₁ cells hL F N Y
  obtain ⟨oi, ob, ot, rfl, di, db, dt⟩ := CellsAre.three Y
  clear Y
  replace di : oi.data = .cell none := di
  replace db : ob.data = .cell none := db
  replace dt : ot.data = .cell (some (.str (SL T0) tk)) := dt
  walk
  rename_i D0 h2 l1 h3 F2 N2 kk0
  obtain ⟨sv, hsl, hsn, hsx⟩ := hS
  refine to_stop (for_w s.heap ?_ (by intro _; with_unfolding_all rfl))
  walk
  refine src_list rfl (stays_list F2.keep hsl) fun I h4 St hI ⟨hI0, hIs⟩ K4 Wk hSt hhas hit => ?_
  have hIL : L + 1 + 1 + 1 < I := Nat.lt_of_lt_of_le (Heap.lt_size (N2 (L + 1 + 1 + 1, oi) (by k_mem)).1) hIs
  refine ⟨I, _, _, _, St, (TakJ T0 xs L I ot), _, _, rfl,
    { W := Wk, st := hSt, fr := F2.keeps K4, nw := news_keeps N2 K4, ini := ?ini, fresh := ?fresh, ne := ?ne, off := ?off, src := ?src, go := ?go, has := hhas, mem := by simp, step := ?step, fin := ?fin }⟩
  case step =>
    rintro i v oI m₁ news₁ h₁ tk₁ hi hP ⟨D, k, vs, oi, ob, rfl, hm, hvs, hD3, hD2, hD1, hDI, ⟨v0, di⟩, ⟨v1, db⟩⟩ F N
    obtain ⟨x, hx⟩ : ∃ x, xs[i]? = some x := ⟨xs[i]'(by simp at hi; omega), List.getElem?_eq_getElem _⟩
    obtain ⟨t, u1, u2, e1, ht⟩ := hsx i x hx
    have hv : v = .ref t := by
      rw [List.getElem?_toArray, e1] at hP; exact (Option.some.inj hP).symm
    subst hv
    have ht1 := ht.keeps F.keep
    obtain ⟨mn, bd, ins⟩ := x
    dsimp only at ht1
    clear ht F2 N2 hsx hsl hQ hI0 K4 hSt hhas hit Wk hP
    walk
    · rename_i ob2 db2 _ oi2 di2 _ _ _ hmn _ M0 _ l6 h6 F6 N6 _
      refine to_stop (for_w s.heap ?_ (by intro _; with_unfolding_all rfl))
      walk
      rename_i h7 tk7 t7 u7 v7 hR F7 N7 K7
      refine src_range rfl hR (by omega) (by omega) fun I2 h8 St2 hI2 ⟨hI20, hIs2⟩ K8 Wk2 hSt2 hhas2 => ?_
      have hlt : ∀ q ∈ [(M0, W.listOf #[] 0), (I, oI), (D, W.listOf vs.toArray k), (L + 1 + 1 + 1, oi2), (L + 1 + 1, ob2), (L + 1, ot)], q.1 < I2 := fun q hq => Nat.lt_of_lt_of_le (Heap.lt_size (N7 q hq).1) hIs2
      obtain ⟨hd1, hd2, hd3, hd4, hd5, hd6⟩ : M0 < I2 ∧ I < I2 ∧ D < I2 ∧ L + 1 + 1 + 1 < I2 ∧ L + 1 + 1 < I2 ∧ L + 1 < I2 := by simpa using hlt
      refine ⟨I2, _, _, _, St2, (TakM T0 bd ins (plAt T0 xs i) D M0 [(I, oI), (D, W.listOf vs.toArray k), (L + 1 + 1 + 1, oi2), (L + 1 + 1, ob2), (L + 1, ot)]), _, _, rfl,
        { W := Wk2, st := hSt2, fr := F7.keeps K8, nw := news_keeps N7 K8, ini := ⟨[], 0, rfl, hm, rfl, .nil⟩, fresh := ?fresh2, ne := ?ne2, off := ?off2, src := ?src2, go := ?go2, has := hhas2, mem := by simp, step := ?step2, fin := ?fin2 }⟩
      case fresh2 =>
        cases e : s.heap.get? I2 with
        | none => rfl
        | some o => rw [F7.keep _ _ e] at hI20; cases hI20
      case ne2 => exact Nat.ne_of_lt (by show L < I2; omega)
      case off2 =>
        rintro i' m' news' ⟨mv, k', rfl, _⟩ p hp
        simp only [List.mem_cons, List.not_mem_nil, or_false] at hp
        rcases hp with rfl | rfl | rfl | rfl | rfl | rfl <;> exact Nat.ne_of_lt (by omega)
      case src2 => intro b hb; exact .inl (by simpa using hb)
      case go2 => intro i' s' v Q' _ h; exact wpAny_pure h
      case step2 =>
        rintro i' v oI2 m₂ news₂ h₂ tk₂ hi' hP ⟨mv, k', rfl, hmp, hmm, hmv⟩ F N
        obtain ⟨hi'', t8, rfl⟩ := hP
        have hLen : i' < T0.length + 1 := by omega
        have hD1 : h₂.IsList D vs.toArray := ⟨_, (N (D, W.listOf vs.toArray k) (by k_mem)).1, rfl, k, rfl⟩
        have hM1 : h₂.IsList M0 mv.toArray := ⟨_, (N (M0, W.listOf mv.toArray k') (by k_mem)).1, rfl, k', rfl⟩
        clear F7 N7 K7 hR Wk2 hSt2 hhas2 K8 
        have hsz : mv.length ≤ 10000 := by rw [hmv.length, List.length_map]; have := fold_len T0 bd ins (plAt T0 xs i) i'; omega
        rcases Nat.eq_zero_or_pos i' with rfl | hpos
        · cases hmv
          walk
          · rename (List.any (List.map Int.ofNat (plAt T0 xs i)) _ = true) => q1
            (with_reducible rename Fr _ _ _ _ => kF); (with_reducible rename News _ _ _ _ => kN)
            exact StepEnd.next kF kN ⟨_, _, rfl, hmp, hmm, end_yes .nil (.inl (by rw [any_nat] at q1; exact of_decide_eq_true q1))⟩
          · rename (List.any (List.map Int.ofNat (plAt T0 xs i)) _ = false) => q1
            (with_reducible rename Fr _ _ _ _ => kF); (with_reducible rename News _ _ _ _ => kN)
            exact StepEnd.next kF kN ⟨_, _, rfl, hmp, hmm, end_no .nil (fun q => by rw [any_nat] at q1; exact q.elim (of_decide_eq_false q1) (fun q => by omega))⟩
        · have hc : T0[((i' : Int) - 1).toNat]? = some (T0.getD (i' - 1) 0) := by
            have e : ((i' : Int) - 1).toNat = i' - 1 := by omega
            rw [e, List.getD_eq_getElem?_getD, List.getElem?_eq_getElem (by omega)]; rfl
          walk
          · rename (List.any (List.map Int.ofNat (plAt T0 xs i)) _ = true) => q1
            (with_reducible rename Fr _ _ _ _ => kF); (with_reducible rename News _ _ _ _ => kN)
            exact StepEnd.next kF kN ⟨_, _, rfl, hmp, hmm, end_yes hmv (.inl (by rw [any_nat] at q1; exact of_decide_eq_true q1))⟩
          · rename (List.any (List.map Int.ofNat (List.foldl _ _ _)) _ = true) => q2
            rename ((_ != _) = true) => q3
            (with_reducible rename Fr _ _ _ _ => kF); (with_reducible rename News _ _ _ _ => kN)
            exact StepEnd.next kF kN ⟨_, _, rfl, hmp, hmm, end_yes hmv (.inr ⟨hpos, by rw [any_pred _ _ hpos] at q2; exact of_decide_eq_true q2, q3⟩)⟩
          · rename (List.any (List.map Int.ofNat (plAt T0 xs i)) _ = false) => q1
            rename ((_ != _) = false) => q3
            (with_reducible rename Fr _ _ _ _ => kF); (with_reducible rename News _ _ _ _ => kN)
            exact StepEnd.next kF kN ⟨_, _, rfl, hmp, hmm, end_no hmv (fun q => by rw [any_nat] at q1; exact q.elim (of_decide_eq_false q1) (fun q => by rw [show okAt T0 bd ins (i' - 1) = false from q3] at q; exact absurd q.2.2 (by decide)))⟩
          · rename (List.any (List.map Int.ofNat (plAt T0 xs i)) _ = false) => q1
            rename (List.any (List.map Int.ofNat (List.foldl _ _ _)) _ = false) => q2
            (with_reducible rename Fr _ _ _ _ => kF); (with_reducible rename News _ _ _ _ => kN)
            exact StepEnd.next kF kN ⟨_, _, rfl, hmp, hmm, end_no hmv (fun q => by rw [any_nat] at q1; rw [any_pred _ _ hpos] at q2; exact q.elim (of_decide_eq_false q1) (fun q => (of_decide_eq_false q2) q.2.1))⟩
      case fin2 =>
        rintro h' tk' m' news' F N ⟨mv, k', rfl, hmp, hmm, hmv⟩
        walk
        (with_reducible rename Fr _ _ _ _ => kF); (with_reducible rename News _ _ _ _ => kN)
        refine StepEnd.next kF (news_sub kN (by simp)) ⟨M0, k', mv, oi2, ob2, rfl, rfl, ?_, Nat.ne_of_gt (by omega), Nat.ne_of_gt (by omega), Nat.ne_of_gt (by omega), Nat.ne_of_gt (by omega), ⟨_, di2⟩, ⟨_, db2⟩⟩
        have e : ((T0.length : Int) + 1).toNat = T0.length + 1 := by omega
        rw [plAt_succ hx, stepOf_star hmn]
        rw [e] at hmv
        exact hmv
    · rename_i ob2 db2 h6 oi2 F6 N6 di2 _ _ _ hmn _
      refine to_stop (comp_assign (h₀ := s.heap) (cl := _) (fun v => match v with | .int n _ => decide (n < (T0.length : Int)) && okAt T0 bd ins n.toNat | _ => false)
        (fun v y => ∃ (n : Nat) (t u : Tok), v = .int (n : Int) t ∧ y = .int ((n : Int) + 1) u) F6 N6 (by with_unfolding_all rfl) (by with_unfolding_all rfl) (by decide) rfl (by decide) rfl rfl rfl ?_ (by intro _; with_unfolding_all rfl))
      walk
      try (with_reducible rename Fr _ _ _ _ => F6)
      refine src_list rfl (⟨_, (N6 (D, W.listOf vs.toArray k) (by k_mem)).1, rfl, k, rfl⟩) fun I2 h8 St2 hI2 ⟨hI20, hIs2⟩ K8 Wk2 hSt2 hhas2 _ => ?_
      refine ⟨I2, _, _, _, _, St2, rfl, Wk2, ?_, hSt2, ?_, ⟨_, _, rfl⟩, fun b o e => ⟨fun hb => ?_, K8 _ _ e⟩, ⟨fun C j v s₃ m₃ E' hC hP hn hm hk htk => ?_, fun C j v s₃ m₃ E' hC hP hp hn hm hk htk => ?_⟩, fun D2 k2 h' tk' ys vs' hlen hP hF F7 N7 hD2 => ?_⟩
      · rw [List.size_toArray, hvs.length, List.length_map, sizeLine_eq]; exact Nat.le_trans (plAt_len T0 xs i) (by omega)
      · simpa using hI2
      · rw [List.mem_singleton.mp hb, hI20] at e; cases e
      · have K4 : ∀ b o, h6.get? b = some o → s₃.heap.get? b = some o := fun b o e => hk b o (fun hb => by rw [List.mem_singleton.mp hb, hI20] at e; cases e) (K8 _ _ e)
        have hct : s₃.heap.IsCell (L + 1) (some (.str (SL T0) _)) := ⟨ot, K4 _ _ (N6 (L + 1, ot) (by k_mem)).1, dt⟩
        have hci : s₃.heap.IsCell (L + 1 + 1 + 1) (some (.str (SL ins) u2)) := ⟨oi2, K4 _ _ (N6 (L + 1 + 1 + 1, oi2) (by k_mem)).1, di2⟩
        have hcb : s₃.heap.IsCell (L + 1 + 1) (some (.bool bd)) := ⟨ob2, K4 _ _ (N6 (L + 1 + 1, ob2) (by k_mem)).1, db2⟩
        have X3 : (pre.heap_1 w.params).In s₃.heap := X.keeps fun b o e => K4 _ _ (F6.keep b o e)
        have T3 : TopRead p loose mg mb s₃.heap := T.keeps fun b o e => K4 _ _ (F6.keep b o e)
        obtain ⟨n, t9, hn', rfl⟩ := ints_at hvs j v (by simpa using hP)
        obtain ⟨n, rfl⟩ : ∃ n' : Nat, n = (n' : Int) := nat_of hn'
        clear hk htk hC Wk2 hSt2 hI2 hI20 K8 K4 F6 N6
        refine wpAny_tests_one ?_
        by_cases hlt : n < T0.length
        · have hc : T0[((n : Int)).toNat]? = some (T0.getD n 0) := by
            rw [Int.toNat_natCast, List.getD_eq_getElem?_getD, List.getElem?_eq_getElem hlt]; rfl
          walk
          · rename ((_ != _) = true) => q
            rw [show okAt T0 bd ins ((n : Int)).toNat = true from q]
            simp [hlt]
          · exact keeps_two
          · rename ((_ != _) = false) => q
            rw [show okAt T0 bd ins ((n : Int)).toNat = false from q]
            simp
          · exact keeps_two
        · walk
          · simp [hlt]
          · exact keeps_tok
      · obtain ⟨n, t9, hn', rfl⟩ := ints_at hvs j v (by simpa using hP)
        obtain ⟨n, rfl⟩ : ∃ n' : Nat, n = (n' : Int) := nat_of hn'
        clear hk htk hC Wk2 hSt2 hI2 hI20 K8 F6 N6
        refine wpAny_mono (Q := fun y s₄ => ∃ u, y = .int ((n : Int) + 1) u ∧ Keeps s₃ s₄) ?_ (fun y s₄ hy => ?_) (fun _ _ e => e)
        · walk
          all_goals first | exact rfl | exact keeps_two | exact keeps_tok
        · obtain ⟨u, rfl, hk⟩ := hy
          exact ⟨⟨n, t9, u, rfl, rfl⟩, hk⟩
      · have e : vs' = vs := by
          refine List.ext_getElem? fun j => ?_
          by_cases hj : j < vs'.length
          · have e1 := List.getElem?_eq_getElem hj
            have := hP j _ e1
            rw [e1]; simpa using this.symm
          · rw [List.getElem?_eq_none (by omega), List.getElem?_eq_none (by simp at hlen; omega)]
        subst e
        have hDz : ∀ q ∈ [(I, oI), (D, W.listOf vs'.toArray k), (L + 1 + 1 + 1, oi2), (L + 1 + 1, ob2), (L + 1, ot)], q.1 ≠ D2 := fun q hq e => by
          have z := (N6 q hq).1
          rw [e, hD2] at z
          cases z
        simp only [List.forall_mem_cons, List.not_mem_nil, false_implies, implies_true, and_true] at hDz
        obtain ⟨z1, z2, z3, z4, z5⟩ := hDz
        clear N6 F6
        walk
        (with_reducible rename Fr _ _ _ _ => kF); (with_reducible rename News _ _ _ _ => kN)
        refine StepEnd.next kF (news_sub (news' := (I, oI) :: [(D2, W.listOf ys.toArray k2), (L + 1 + 1 + 1, oi2), (L + 1 + 1, ob2), (L + 1, ot)]) kN (by simp)) ⟨D2, k2, ys, oi2, ob2, rfl, rfl, ?_, Ne.symm z3, Ne.symm z4, Ne.symm z5, Ne.symm z1, ⟨_, di2⟩, ⟨_, db2⟩⟩
        rw [plAt_succ hx, stepOf_nxt hmn]
        exact nxt_ints _ (fun n t => by show (decide ((n : Int) < (T0.length : Int)) && _) = _; rw [Int.toNat_natCast]; congr 1; simp) hvs hF
  case ini =>
    have hz : D0 ≠ I := fun e => by
      have z := (N2 (D0, W.listOf #[.int 0 _] 0) (.head _)).1
      rw [show D0 = I from e, hI0] at z
      cases z
    exact ⟨D0, 0, [.int 0 _], oi, ob, rfl, rfl, .cons 0 _ .nil, Nat.ne_of_gt (by omega), Nat.ne_of_gt (by omega), Nat.ne_of_gt (by omega), hz, ⟨_, di⟩, ⟨_, db⟩⟩
  case fresh =>
    cases e : s.heap.get? I with
    | none => rfl
    | some o => rw [F2.keep _ _ e] at hI0; cases hI0
  case ne => exact Nat.ne_of_lt (by show L < I; omega)
  case off =>
    rintro i' m' news' ⟨D, k, vs, oi, ob, rfl, _, _, _, _, _, hDI, _⟩ p hp
    simp only [List.mem_cons, List.not_mem_nil, or_false] at hp
    rcases hp with rfl | rfl | rfl | rfl
    · exact hDI
    all_goals exact Nat.ne_of_lt (by omega)
  case src =>
    intro b hb
    simp only [List.mem_cons, List.not_mem_nil, or_false] at hb
    rcases hb with rfl | rfl
    · exact .inl rfl
    · obtain ⟨o, ho, _⟩ := hsl
      exact .inr ⟨o, fun _ _ _ _ _ F _ => F.keep _ _ ho⟩
  case go =>
    intro i' s' v Q' hs' h
    cases v <;> first | exact wpAny_letOwnedTupleGo_listiter (hit _ _ hs') h | exact wpAny_pure h
  case fin =>
    rintro h' tk' m' news' F N ⟨D, k, vs, oi, ob, rfl, hm, hvs, _⟩
    have hl : h'.IsList D vs.toArray := ⟨_, (N (D, W.listOf vs.toArray k) (by k_mem)).1, rfl, k, rfl⟩
    walk
    have e : sv.toArray.size = xs.length := by rw [List.size_toArray, hsn]
    rw [e, any_nat]
    exact hQ _ _ F.keep
end Mine
namespace Mine
open PySem PySem.W PyProof.Rows PySem.Calls
open PySem.Challenge

theorem bit_eq (mask i : Nat) : (((mask : Int).fdiv ((2 : Int) ^ ((i : Int)).toNat)).fmod 2 == 1) = decide (mask / 2 ^ ((i : Int)).toNat % 2 = 1) := by
  have e : ((2 : Int) ^ ((i : Int)).toNat) = ((2 ^ i : Nat) : Int) := by push_cast; rfl
  rw [e, Int.toNat_natCast, Int.fdiv_eq_ediv_of_nonneg _ (Int.natCast_nonneg _), Int.fmod_eq_emod_of_nonneg _ (by decide)]
  have e2 : ((mask : Int) / ((2 ^ i : Nat) : Int) % 2) = ((mask / 2 ^ i % 2 : Nat) : Int) := by push_cast; rfl
  rw [e2]
  by_cases h : mask / 2 ^ i % 2 = 1
  · simp [h]
  · simp only [h, decide_false, beq_eq_false_iff_ne, ne_eq]; omega
theorem ends_get : ∀ i : Nat, i < 6 → ENDS[((i : Int)).toNat]? = some (ENDS.getD i 0) := by decide +kernel

theorem flat_map (l : List Nat) (f : Nat → Nat) : (l.map fun k => [f k]).flatten = l.map f := by
  induction l with
  | nil => rfl
  | cons a r ih => simp [ih]
theorem sel_small (p : Nat → Bool) : ((List.range 6).filter p).length + ((List.range 6).filter p).length ≤ 1000 := by
  have := List.length_filter_le p (List.range 6)
  simp at this ⊢
  omega
theorem unsel_small (l : List Nat) : (unsel l).length + (unsel l).length ≤ 1000 := by
  have : (unsel l).length ≤ ENDS.length := List.length_filter_le _ ENDS
  have e : ENDS.length = 6 := rfl
  omega
theorem sel_head : ∀ mask : Nat, 1 ≤ mask → mask ≤ 63 → (sel mask)[((0 : Int)).toNat]? = some ((sel mask).headD 0) := by
  have h : ∀ mask : Fin 64, 1 ≤ mask.1 → (sel mask.1)[((0 : Int)).toNat]? = some ((sel mask.1).headD 0) := by decide +kernel
  intro mask h1 h2
  exact h ⟨mask, by omega⟩ h1
theorem sel_len (mask : Nat) : (sel mask).length ≤ 6 := by
  unfold sel
  rw [List.length_map]
  have := List.length_filter_le (fun k => decide (mask / 2 ^ k % 2 = 1)) (List.range 6)
  simpa using this
theorem unsel_len (l : List Nat) : (unsel l).length ≤ 6 := List.length_filter_le _ ENDS
theorem zip_filter (q : Nat → Bool) (g : Nat → Str) : ∀ (l : List Nat) (n : Nat), ((l.zipIdx n).filter fun p => q p.1).map (fun p => g p.1) = (l.filter q).map g
  | [], _ => rfl
  | c :: l, n => by
    have ih := zip_filter q g l (n + 1)
    rw [List.zipIdx_cons, List.filter_cons, List.filter_cons]
    split <;> simp_all
theorem head_of {l : List Nat} {c : Nat} (h : l[((0 : Int)).toNat]? = some (l.headD 0)) (q : [l.headD 0] = [c]) : l.head? = some c := by
  cases l with
  | nil => simp at h
  | cons a r => simpa using q
theorem of_head {l : List Nat} {c : Nat} (q : l.head? = some c) : [l.headD 0] = [c] := by
  cases l with
  | nil => simp at q
  | cons a r => simpa using q
theorem item_fin {s : Shared} {Q : Value → Shared → Prop} {mask : Nat} {b : Bool} {l : List Nat}
   (hQ : ∀ h' t' k', (∀ b o, s.heap.get? b = some o → h'.get? b = some o) → Q (.str (SL (itemL mask b)) t') { s with heap := h', toks := k' }) (e : l = itemL mask b) :
   ∀ h' t' k', (∀ b o, s.heap.get? b = some o → h'.get? b = some o) → Q (.str (SL l) t') { s with heap := h', toks := k' } := by
  subst e; exact hQ
theorem item_c (w : World) (dp un : Nat) (fr : Option (List Env)) (gd : Option (List Code)) (s : Shared) (E : Value → Shared → Prop) (Q : Value → Shared → Prop) (p : Program) (loose : List Str) (mg mb : Str → Option Value)
   (mask : Nat) (tk : Tok) (b : Bool) (hA : dp < 900) (hu : un < 500) (hr : rw_ij0087_01.row.prog = rw_ij0087_01.row.prog)
   (X : (pre.heap_1 w.params).In s.heap) (T : TopRead p loose mg mb s.heap) (hm1 : 1 ≤ mask) (hm2 : mask ≤ 63)
   (hQ : ∀ h' t' k', (∀ b o, s.heap.get? b = some o → h'.get? b = some o) → Q (.str (SL (itemL mask b)) t') { s with heap := h', toks := k' })
   : wpAny (model rw_ij0087_01.row.prog w) { handled := none, depth := dp, frames := fr, guards := gd, units := un } (call (.ref 130) [.int mask tk, .bool b]) Q E s := by
  revert X; k_fill; intro X
  refine enterC (binds := [((Str.ofString "mask"), .int mask tk), ((Str.ofString "barred"), .bool b)]) (m₀ := fun y => if y = Str.ofString "barred" then some (.bool b) else none) (c₀ := fun y => if y = Str.ofString "mask" then some (.int mask tk) else none)
    (clf := fun L => [(Str.ofString "inside", L + 1 + 1), (Str.ofString "mask", L + 1)]) X T (by k_is) (by k_is) (Nat.lt_trans hA (by decide)) (BindsTo.of_eq rfl) (by exact rfl) (by decide +kernel) rfl rfl rfl rfl rfl rfl ?_
  intro L h₁ tk₁ cells hL F N Y
  obtain ⟨o1, o2, rfl, d1, d2⟩ := CellsAre.two Y
  clear Y
  replace d1 : o1.data = .cell none := d1
  replace d2 : o2.data = .cell (some (.int mask tk)) := d2
  walk
  refine to_stop (comp_any (cl := [(Str.ofString "mask", L + 1)]) (fun v => match v with | .int k _ => decide (mask / 2 ^ k.toNat % 2 = 1) | _ => false)
    (fun v y => ∃ (i : Nat) (t u : Tok), v = .int (i : Int) t ∧ y = .str (SL [ENDS.getD i 0]) u) F N (by with_unfolding_all rfl) (by decide) rfl (by decide) rfl ?_ (by intro _; with_unfolding_all rfl))
  walk
  rename_i hF hN _ h2 tk2 t2 u2 v2 hR F2 N2 K2
  refine src_range rfl hR (by decide) (by decide) fun I h3 St hI ⟨hI0, _⟩ K3 W hSt _ => ?_
  refine ⟨I, [I], [I], _, _, St, rfl, W, by decide, hSt, by simpa using hI, ⟨_, _, rfl⟩, fun b o e => ⟨fun hb => ?_, K3 _ _ (K2 _ _ e)⟩, ⟨fun C i v s₃ m₃ E' hC hP hn hm hk htk => ?_, fun C i v s₃ m₃ E' hC hP hp hn hm hk htk => ?_⟩, fun D k h' tk' ys vs hlen hP hF hF' hN' hk' _ => ?_⟩
  · have e' := K2 _ _ e
    rw [List.mem_singleton.mp hb, hI0] at e'; cases e'
  · have K4 : ∀ b o, h2.get? b = some o → s₃.heap.get? b = some o := fun b o e => hk b o (fun hb => by rw [List.mem_singleton.mp hb, hI0] at e; cases e) (K3 _ _ e)
    have hcell : s₃.heap.IsCell (L + 1) (some (.int mask tk)) := ⟨o2, K4 _ _ (N2.get (by simp)), d2⟩
    obtain ⟨hi, t, rfl⟩ := hP
    have hi6 : i < 6 := hi
    have hpw : (2 : Int) ^ ((i : Int)).toNat ≠ 0 := by simpa using Int.pow_ne_zero (by decide)
    clear hk htk hC W hSt hI hI0 K3 K2 hF hN F2 N2 hR K4 d1 d2
    refine wpAny_tests_one ?_
    walk
    · exact bit_eq mask i
    all_goals exact keeps_tok
  · have K4 : ∀ b o, h2.get? b = some o → s₃.heap.get? b = some o := fun b o e => hk b o (fun hb => by rw [List.mem_singleton.mp hb, hI0] at e; cases e) (K3 _ _ e)
    obtain ⟨hi, t, rfl⟩ := hP
    have hi6 : i < 6 := hi
    clear hk htk hC W hSt hI hI0 K3 K2 hF hN F2 N2 hR K4 d1 d2
    refine wpAny_mono (Q := fun y s₄ => ∃ u, y = .str (SL [ENDS.getD i 0]) u ∧ Keeps s₃ s₄) ?_ (fun y s₄ hy => ?_) (fun _ _ e => e)
    · have hc : ENDS[((i : Int)).toNat]? = some (ENDS.getD i 0) := ends_get i hi6
      walk
      all_goals first | exact rfl | exact keeps_tok
    · obtain ⟨u, rfl, hk⟩ := hy
      exact ⟨⟨i, t, u, rfl, rfl⟩, hk⟩
  · obtain ⟨τ, rfl⟩ := vals_range hlen hP
    have hS : StrsAre ys (((List.range 6).filter fun k => decide (mask / 2 ^ k % 2 = 1)).map fun k => SL [ENDS.getD k 0]) := by
      refine paired_strs (fun j : Nat => Value.int (j : Int) (τ j)) (fun k => SL [ENDS.getD k 0]) (fun b y hb => ?_) (by rw [List.filter_map] at hF; exact hF)
      obtain ⟨i, t, u, e, rfl⟩ := hb
      cases e
      exact ⟨u, rfl⟩
    clear hF hP hlen
    clear W hSt hI hI0 K3 K2 hF hN F2 N2 hR
    walk
    refine join_SL (ys := ((List.range 6).filter fun k => decide (mask / 2 ^ k % 2 = 1)).map fun k => [ENDS.getD k 0]) (l := sel mask) (hN'.get (.head _)) (by rw [List.map_map]; exact hS) (flat_map _ _) (by rw [flat_map, List.length_map, List.length_map]; exact sel_small _) fun t3 k3 => ?_
    have N5 : News s.heap L h' [(L + 1 + 1, o1), (L + 1, o2)] := fun p hp => hN' p (.tail _ hp)
    refine storeX_C hF' N5 rfl (.head (by intro p hp; rw [List.mem_singleton.mp hp]; exact Nat.ne_of_lt (Nat.lt_succ_self _))) d1 fun h5 o1' F5 N6 d1' => ?_
    clear N5 hN' hF' d1 hS hk'
    walk
    refine to_stop (comp_any (cl := [(Str.ofString "inside", L + 1 + 1)]) (fun v => match v with | .str x _ => !((sel mask).contains (x.cps.getD 0 0)) | _ => false)
      (fun v y => y = v) F5 N6 (by with_unfolding_all rfl) (by decide) rfl (by decide) rfl ?_ (by intro _; with_unfolding_all rfl))
    walk
    refine src_str rfl fun I h6 St hI ⟨hI0, _⟩ K3 W hSt => ?_
    refine ⟨I, [I], [I], _, _, St, rfl, W, by decide, hSt, by simpa using hI, ⟨_, _, rfl⟩, fun b o e => ⟨fun hb => ?_, K3 _ _ e⟩, ⟨fun C i v s₃ m₃ E' hC hP hn hm hk htk => ?_, fun C i v s₃ m₃ E' hC hP hp hn hm hk htk => ?_⟩, fun D k h' tk' ys vs hlen hP hF hF' hN' hk' _ => ?_⟩
    · rw [List.mem_singleton.mp hb, hI0] at e; cases e
    · have K4 : ∀ b o, h5.get? b = some o → s₃.heap.get? b = some o := fun b o e => hk b o (fun hb => by rw [List.mem_singleton.mp hb, hI0] at e; cases e) (K3 _ _ e)
      have hcell : s₃.heap.IsCell (L + 1 + 1) (some (.str (SL (sel mask)) t3)) := ⟨o1', K4 _ _ (N6.get (by simp)), d1'⟩
      obtain ⟨c, u, hc, rfl⟩ := hP
      clear hk htk hC W hSt hI hI0 K3 F5 N6 K4 
      refine wpAny_tests_one ?_
      walk
      · simp
      all_goals first | exact keeps_refl | exact keeps_tok
    · obtain ⟨c, u, hc, rfl⟩ := hP
      clear hk htk hC W hSt hI hI0 K3 F5 N6
      walk
      all_goals first | exact keeps_refl | exact rfl
    · clear W hSt hI hI0 K3 F5 N6
      have hS : StrsAre ys ((unsel (sel mask)).map fun c => SL [c]) := by
        obtain ⟨τ, rfl⟩ := vals_signs (x := ENDS) hlen hP
        rw [List.filter_map] at hF
        have e := zip_filter (fun c => !((sel mask).contains c)) (fun c => SL [c]) ENDS 0
        show StrsAre ys ((ENDS.filter fun c => !((sel mask).contains c)).map fun c => SL [c])
        rw [← e]
        refine paired_strs (fun p : Nat × Nat => Value.str (SL [p.1]) (τ p.2)) (fun p => SL [p.1]) (fun b y hb => ?_) hF
        exact ⟨_, hb⟩
      clear hF hP hlen
      walk
      refine join_SL (ys := (unsel (sel mask)).map fun c => [c]) (l := unsel (sel mask)) (hN'.get (.head _)) (by rw [List.map_map]; exact hS) (by rw [flat_map, List.map_id']) (by rw [flat_map, List.length_map, List.length_map]; exact unsel_small _) fun t5 k5 => ?_
      have N7 : News s.heap L h' [(L + 1 + 1, o1'), (L + 1, o2)] := fun p hp => hN' p (.tail _ hp)
      have hne : (sel mask)[((0 : Int)).toNat]? = some ((sel mask).headD 0) := sel_head mask hm1 hm2
      have hl1 : (sel mask).length ≤ 6 := sel_len mask
      have hl2 : (unsel (sel mask)).length ≤ 6 := unsel_len _
      clear hN' hS hk'
      walk
      · rename (decide (unsel (sel mask) = []) = true) => q1
        (with_reducible rename Fr _ _ _ _ => kF)
        exact item_fin hQ (by unfold itemL; rw [if_pos (of_decide_eq_true q1)]) _ _ _ kF.keep
      · rename (decide (unsel (sel mask) = []) = false) => q1
        rename (b = true) => q2
        (with_reducible rename Fr _ _ _ _ => kF)
        exact item_fin hQ (by unfold itemL; rw [if_neg (of_decide_eq_false q1), if_pos (Or.inl q2)]) _ _ _ kF.keep
      · rename (decide (unsel (sel mask) = []) = false) => q1
        rename ([(sel mask).headD 0] = [33]) => q3
        (with_reducible rename Fr _ _ _ _ => kF)
        exact item_fin hQ (by unfold itemL; rw [if_neg (of_decide_eq_false q1), if_pos (Or.inr (head_of hne q3))]) _ _ _ kF.keep
      · rename (decide (unsel (sel mask) = []) = false) => q1
        rename (b = false) => q2
        rename (¬ [(sel mask).headD 0] = [33]) => q3
        (with_reducible rename Fr _ _ _ _ => kF)
        exact item_fin hQ (by unfold itemL; rw [if_neg (of_decide_eq_false q1), if_neg (fun q => q.elim (fun e => by rw [q2] at e; cases e) (fun e => q3 (of_head e)))]) _ _ _ kF.keep
end Mine
namespace Mine
open PySem PySem.W PyProof.Rows PySem.Calls
theorem slice_nat {l : List Nat} {i j : Int} (h : 0 ≤ i ∧ i ≤ j ∧ j ≤ l.length) : Txt.slice (SL l) (some i) (some j) = SL ((l.drop i.toNat).take (j - i).toNat) := StrLaws.sliceText_plain (x := SL l) (by simpa using h)
theorem slice_neg {l : List Nat} {i j : Int} (h0 : j < 0) (h1 : -(l.length : Int) ≤ j) : Txt.slice (SL l) (some i) (some j) = Txt.slice (SL l) (some i) (some (j + l.length)) := by
  have := StrLaws.sliceText_neg_hi (SL l) (some i) h0 (by rw [SL_len]; exact h1)
  rw [SL_len] at this
  exact this
theorem slice_clip {l : List Nat} {i j : Int} (h : (l.length : Int) ≤ j) : Txt.slice (SL l) (some i) (some j) = Txt.slice (SL l) (some i) (some (l.length : Int)) := by
  have e : Builtin.Str.strSliceIndices (some i) (some j) 1 (SL l).length = Builtin.Str.strSliceIndices (some i) (some (l.length : Int)) 1 (SL l).length := by
    rw [SL_len]
    unfold Builtin.Str.strSliceIndices
    have a : ¬ j < 0 := by omega
    have b : ¬ ((l.length : Int) < 0) := by omega
    have c : max (0 : Int) (min j (l.length : Int)) = max 0 (min (l.length : Int) (l.length : Int)) := by omega
    have g : (1 : Int) > 0 := by decide
    simp only [a, b, if_false, c, if_pos g]
  show StrLaws.sliceText _ _ _ = StrLaws.sliceText _ _ _
  unfold StrLaws.sliceText
  rw [e]
section
variable {prog : Program} {w : World} {A : Around} {E : Value → Shared → Prop} {s : Shared} {value slice : Expr} {l y : List Nat} {t : Tok} {h₀ : Heap} {L : Addr} {m : Str → Option Value} {news : List (Addr × Obj)} {Q : Value → Shared → Prop}
theorem slice_SL {i j : Int} {ui uj : Tok} (hF : Fr h₀ L s.heap m) (hN : News h₀ L s.heap news) (he : Txt.slice (SL l) (some i) (some j) = SL y) (hl : l.length ≤ 10000)
    (h : ∀ h' t' k, Fr h₀ L h' m → News h₀ L h' news → Q (.str (SL y) t') { s with heap := h', toks := k })
    (hs : subscripted slice false (.str (SL l) t) (.ref s.heap.objs.size) = operate [.ref s.heap.objs.size, .str (SL l) t] (getItem (.str (SL l) t) (.ref s.heap.objs.size)))
    (ht : ∀ r, letTemporaryGo value (.str (SL l) t) r = pure ()) :
    wpAny (model prog w) A (subscriptTail value slice (.str (SL l) t) (.ref s.heap.objs.size)) Q E { s with heap := s.heap.push { cls := .type "slice", data := .fields #[.int i ui, .int j uj, .none] } } :=
  slice_strN_ss hF hN (fun h' t' k F N => by rw [he]; exact h h' t' k F N) hs ht (by rw [SL_len, sizeLine_eq]; omega)
theorem slice_from_SL {i : Int} {ui : Tok} (hF : Fr h₀ L s.heap m) (hN : News h₀ L s.heap news) (he : Txt.slice (SL l) (some i) none = SL y) (hl : l.length ≤ 10000)
    (h : ∀ h' t' k, Fr h₀ L h' m → News h₀ L h' news → Q (.str (SL y) t') { s with heap := h', toks := k })
    (hs : subscripted slice false (.str (SL l) t) (.ref s.heap.objs.size) = operate [.ref s.heap.objs.size, .str (SL l) t] (getItem (.str (SL l) t) (.ref s.heap.objs.size)))
    (ht : ∀ r, letTemporaryGo value (.str (SL l) t) r = pure ()) :
    wpAny (model prog w) A (subscriptTail value slice (.str (SL l) t) (.ref s.heap.objs.size)) Q E { s with heap := s.heap.push { cls := .type "slice", data := .fields #[.int i ui, .none, .none] } } :=
  slice_strN_sn hF hN (fun h' t' k F N => by rw [he]; exact h h' t' k F N) hs ht (by rw [SL_len, sizeLine_eq]; omega)
theorem loadX_L {cn : Str} {cs : Scope} {b : Addr} {ccd : Value} {cl : List (Str × Addr)} {x : Str} {v : Value} {Q : Value → Shared → Prop} (F : Fr h₀ L s.heap m) (hv : m x = some v) (h : Q v s)
    (hk : cs.kind = .function := by rfl) (hx : (envX cn cs L b ccd cl).kindOf x = some .local := by rfl) :
    wpAny (model prog w) A (loadName (envX cn cs L b ccd cl) x) Q E s := wpAny_loadName_local hk hx F.ns hv h
end
end Mine
local macro_rules | `(tactic| walk_at "loadName") => Mine.go [] 2 `Mine.loadX_L ["F", "k", "_"] [("F", "ras"), ("k", "rflas")] []
local macro_rules | `(tactic| walk_at $s:str) => Mine.at' ["subscriptTail Name Slice str ref", "subscriptTail Name Slice"] s <| Mine.firstOf' ([`Mine.slice_SL, `Mine.slice_from_SL].map fun n =>
  Mine.go [] 3 n ["F", "N", "he", "hl", "_", "hs", "ht"] [("F", "ras"), ("N", "ras"), ("he", "as"), ("hl", "asom"), ("hs", "wrfl"), ("ht", "iwrfl")] ["i", "i", "i", "i", "i"])
namespace Mine
open PySem PySem.W PyProof.Rows PySem.Calls
/-- a piece of a set: is it written with a backslash, and its sign -/
noncomputable def ptxt (ps : List (Bool × Nat)) : List Nat := ps.flatMap fun q => if q.1 then [92, q.2] else [q.2]
inductive Ck where
  | dot (many : Bool)
  | set (neg : Bool) (ps : List (Bool × Nat))
noncomputable def Ck.txt : Ck → List Nat
  | .dot m => 46 :: (if m then [42] else [])
  | .set neg ps => 91 :: ((if neg then [94] else []) ++ (ptxt ps ++ [93]))
noncomputable def Ck.val : Ck → Nat × Bool × List Nat
  | .dot m => (if m then 1 else 0, true, [])
  | .set neg ps => (0, neg, ps.map (·.2))
noncomputable def Ck.ok : Ck → Prop
  | .dot _ => True
  | .set neg ps => ps ≠ [] ∧ (∀ q ∈ ps, q.1 = false → q.2 ≠ 92) ∧ (∀ q ∈ ps.tail, q.1 = false → q.2 ≠ 93) ∧ (neg = false → (ptxt ps).head? ≠ some 94)
noncomputable def ctxt (cs : List Ck) : List Nat := (cs.map Ck.txt).flatten
theorem ptxt_cons (q : Bool × Nat) (ps : List (Bool × Nat)) : ptxt (q :: ps) = (if q.1 then [92, q.2] else [q.2]) ++ ptxt ps := rfl
theorem ctxt_cons (c : Ck) (cs : List Ck) : ctxt (c :: cs) = c.txt ++ ctxt cs := rfl
theorem ctxt_head (cs : List Ck) : (ctxt cs).head? ≠ some 42 := by
  cases cs with
  | nil => simp [ctxt]
  | cons c r => cases c <;> simp [ctxt_cons, Ck.txt]
theorem ctxt_take (cs : List Ck) : ¬ ((ctxt cs).take 1 = [42]) := by
  intro q
  refine ctxt_head cs ?_
  cases e : ctxt cs with
  | nil => rw [e] at q; cases q
  | cons x r => rw [e] at q; cases q; rfl
/-- the place behind i chunks -/
noncomputable def cpos (cs : List Ck) (i : Nat) : Nat := (ctxt (cs.take i)).length
theorem ctxt_app (a b : List Ck) : ctxt (a ++ b) = ctxt a ++ ctxt b := by simp [ctxt]
theorem ctxt_drop (cs : List Ck) (i : Nat) : (ctxt cs).drop (cpos cs i) = ctxt (cs.drop i) := by
  have e : ctxt cs = ctxt (cs.take i) ++ ctxt (cs.drop i) := by rw [← ctxt_app, List.take_append_drop]
  unfold cpos
  rw [e, List.drop_append_of_le_length (Nat.le_refl _), List.drop_length, List.nil_append]
theorem cpos_succ {cs : List Ck} {i : Nat} {c : Ck} (h : cs[i]? = some c) : cpos cs (i + 1) = cpos cs i + c.txt.length := by
  unfold cpos
  rw [List.take_add_one, h, ctxt_app, List.length_append]
  simp [ctxt]
theorem cpos_zero (cs : List Ck) : cpos cs 0 = 0 := rfl
theorem cpos_le (cs : List Ck) (i : Nat) : cpos cs i ≤ (ctxt cs).length := by
  have e : ctxt cs = ctxt (cs.take i) ++ ctxt (cs.drop i) := by rw [← ctxt_app, List.take_append_drop]
  rw [e, List.length_append]; exact Nat.le_add_right _ _
theorem cpos_all (cs : List Ck) : cpos cs cs.length = (ctxt cs).length := by unfold cpos; rw [List.take_length]
theorem drop_of {cs : List Ck} {i : Nat} {c : Ck} (h : cs[i]? = some c) : cs.drop i = c :: cs.drop (i + 1) := by
  have hi : i < cs.length := by
    rcases Nat.lt_or_ge i cs.length with q | q
    · exact q
    · rw [List.getElem?_eq_none q] at h; cases h
  rw [List.drop_eq_getElem_cons hi]
  rw [List.getElem?_eq_getElem hi] at h
  rw [Option.some.inj h]
/-- what stands at a place -/
theorem at_of_drop {B l : List Nat} {p : Nat} (h : B.drop p = l) (j : Nat) : B[p + j]? = l[j]? := by
  rw [← h, List.getElem?_drop]
theorem at_of_drop0 {B l : List Nat} {p : Nat} {c : Nat} (h : B.drop p = c :: l) : B[p]? = some c := by
  have := at_of_drop h 0
  simpa using this
theorem drop_more {B a b : List Nat} {p : Nat} (h : B.drop p = a ++ b) : B.drop (p + a.length) = b := by
  rw [← List.drop_drop, h, List.drop_append_of_le_length (Nat.le_refl _), List.drop_length, List.nil_append]
theorem text_slice (B : List Nat) : Txt.slice (SL ([40, 63, 115, 58] ++ B ++ [41, 92, 90])) (some 4) (some (-3)) = SL B := by
  rw [slice_neg (by decide) (by simp; omega), slice_nat (by simp; omega)]
  congr 1
  rw [List.append_assoc]
  have e : ((-3 : Int) + (([40, 63, 115, 58] ++ (B ++ [41, 92, 90]) : List Nat).length : Int) - 4).toNat = B.length := by simp; omega
  rw [e]
  show List.take B.length (B ++ [41, 92, 90]) = B
  exact List.take_left
theorem slice_one {B : List Nat} {p : Nat} (h : p + 1 ≤ B.length) : Txt.slice (SL B) (some ((p : Int) + 1)) (some ((p : Int) + 1 + 1)) = SL ((B.drop (p + 1)).take 1) := by
  rcases Nat.lt_or_ge (p + 1) B.length with q | q
  · rw [slice_nat (by omega)]
    have e1 : ((p : Int) + 1).toNat = p + 1 := by omega
    have e2 : ((p : Int) + 1 + 1 - ((p : Int) + 1)).toNat = 1 := by omega
    rw [e1, e2]
  · have e : p + 1 = B.length := by omega
    rw [slice_clip (by omega), slice_nat (by omega), e, List.drop_length]
    have e1 : ((p : Int) + 1).toNat = B.length := by omega
    rw [e1, List.drop_length]
    simp
noncomputable def tup3 (x : Nat × Bool × List Nat) (u1 u2 : Tok) (k : Nat) : Obj := { cls := .type "tuple", data := .seq #[Value.int (x.1 : Int) u1, Value.bool x.2.1, Value.str (SL x.2.2) u2] k }
/-- what the list of steps holds behind i chunks -/
noncomputable def Held (xs : List (Nat × Bool × List Nat)) (i : Nat) (vs : List Value) (tl : List (Addr × Obj)) : Prop :=
  vs.length = i ∧ ∀ (j : Nat) (x : Nat × Bool × List Nat), j < i → xs[j]? = some x → ∃ t u1 u2 k, vs[j]? = some (Value.ref t) ∧ (t, tup3 x u1 u2 k) ∈ tl
theorem Held.more {xs : List (Nat × Bool × List Nat)} {i : Nat} {vs : List Value} {tl : List (Addr × Obj)} (h : Held xs i vs tl) {x : Nat × Bool × List Nat} (hx : xs[i]? = some x) (t : Addr) (u1 u2 : Tok) (k : Nat) :
    Held xs (i + 1) (vs ++ [Value.ref t]) ((t, tup3 x u1 u2 k) :: tl) := by
  obtain ⟨h1, h2⟩ := h
  refine ⟨by simp [h1], fun j y hj hy => ?_⟩
  rcases Nat.lt_or_ge j i with q | q
  · obtain ⟨t', a, b, c, e, m⟩ := h2 j y q hy
    exact ⟨t', a, b, c, by rw [List.getElem?_append_left (by omega)]; exact e, .tail _ m⟩
  · have e : j = i := by omega
    subst e
    rw [hx] at hy
    cases hy
    exact ⟨t, u1, u2, k, by rw [List.getElem?_append_right (by omega), h1]; simp, .head _⟩
inductive RJ (cs : List Ck) (B : List Nat) (n : Nat) (m : Str → Option Value) (news : List (Addr × Obj)) : Prop
  | mk (i : Nat) (S0 : Addr) (vs : List Value) (k : Nat) (tl : List (Addr × Obj)) (t1 t2 : Tok) (h1 : i ≤ cs.length) (h2 : n = cs.length - i) (h3 : m (Str.ofString "at") = some (.int ((cpos cs i : Nat) : Int) t1)) (h4 : m (Str.ofString "body") = some (.str (SL B) t2))
      (h5 : m (Str.ofString "steps") = some (.ref S0)) (h6 : news = (S0, W.listOf vs.toArray k) :: tl) (h7 : ∀ p ∈ tl, p.1 ≠ S0) (h8 : Held (cs.map Ck.val) i vs tl) : RJ cs B n m news
/-- the loop inside a set -/
inductive RK (B : List Nat) (q0 : Nat) (ps : List (Bool × Nat)) (S0 : Addr) (N : List (Addr × Obj)) (cb : Bool) (n : Nat) (m : Str → Option Value) (news : List (Addr × Obj)) : Prop
  | mk (j : Nat) (t1 t2 t3 : Tok) (z : Int) (nb : Bool) (ins : List Nat) (t0 : Addr) (o0 : Obj) (h1 : j ≤ ps.length) (h2 : n = ps.length - j) (h3 : m (Str.ofString "at") = some (.int z t1)) (h4 : z = ((q0 + (ptxt (ps.take j)).length : Nat) : Int))
      (h5 : m (Str.ofString "body") = some (.str (SL B) t2)) (h6 : m (Str.ofString "steps") = some (.ref S0)) (h7 : m (Str.ofString "inside") = some (.str (SL ins) t3)) (h8 : ins = (ps.take j).map (·.2)) (h9 : m (Str.ofString "barred") = some (.bool nb)) (h10 : nb = cb) (h11 : @LT.lt Nat instLTNat S0 t0)
      (h12 : news = (t0, o0) :: N) : RK B q0 ps S0 N cb n m news
theorem read_turn {cs : List Ck} {B : List Nat} {i : Nat} {c : Ck} {h₀ h' : Heap} {L : Addr} {s : Shared} {m : Str → Option Value} {S0 t t0 : Addr} {vs : List Value} {k k' tk : Nat} {tl : List (Addr × Obj)} {o0 : Obj} {u1 u2 t1 t2 : Tok} {z y : Int} {b : Bool} {ins : List Nat}
    (F : Fr h₀ L h' m) (N : News h₀ L h' ((t, { cls := .type "tuple", data := .seq #[Value.int y u1, Value.bool b, Value.str (SL ins) u2] k }) :: (t0, o0) :: (S0, W.listOf (vs ++ [Value.ref t]).toArray k') :: tl))
    (hc : cs[i]? = some c) (hat : m (Str.ofString "at") = some (.int z t1)) (hz : z = ((cpos cs (i + 1) : Nat) : Int)) (hb : m (Str.ofString "body") = some (.str (SL B) t2)) (hs : m (Str.ofString "steps") = some (.ref S0))
    (hoff : ∀ p ∈ tl, p.1 ≠ S0) (hheld : Held (cs.map Ck.val) i vs tl) (ht : @LT.lt Nat instLTNat S0 t) (hy : y = (c.val.1 : Int)) (hbb : b = c.val.2.1) (hins : ins = c.val.2.2) :
    WhileStep h₀ L s (RJ cs B) (cs.length - i) .next { s with heap := h', toks := tk } := by
  subst hy hbb hins hz
  have hi : i < cs.length := (List.getElem?_eq_some_iff.mp hc).1
  refine WhileStep.intro (news₂ := (S0, W.listOf (vs ++ [Value.ref t]).toArray k') :: (t, tup3 c.val u1 u2 k) :: tl) F ?_ (n' := cs.length - (i + 1)) (by omega) ⟨i + 1, S0, vs ++ [Value.ref t], k', _, _, _, by omega, rfl, hat, hb, hs, rfl, ?_, hheld.more (by rw [List.getElem?_map, hc]; rfl) t u1 u2 k⟩
  · intro p hp
    refine N p ?_
    rcases List.mem_cons.mp hp with rfl | hp
    · simp
    · rcases List.mem_cons.mp hp with rfl | hp
      · exact .head _
      · simp [hp]
  · intro p hp
    rcases List.mem_cons.mp hp with rfl | hp
    · exact Nat.ne_of_gt ht
    · exact hoff p hp
theorem ptxt_app (a b : List (Bool × Nat)) : ptxt (a ++ b) = ptxt a ++ ptxt b := by simp [ptxt]
theorem ptxt_split {ps : List (Bool × Nat)} {j : Nat} {q : Bool × Nat} (h : ps[j]? = some q) : ptxt ps = ptxt (ps.take j) ++ ((if q.1 then [92, q.2] else [q.2]) ++ ptxt (ps.drop (j + 1))) := by
  have hj := (List.getElem?_eq_some_iff.mp h).1
  have e : ps.drop j = q :: ps.drop (j + 1) := by
    rw [List.drop_eq_getElem_cons hj]; rw [List.getElem?_eq_getElem hj] at h; rw [Option.some.inj h]
  rw [← ptxt_cons, ← e, ← ptxt_app, List.take_append_drop]
theorem ptxt_succ {ps : List (Bool × Nat)} {j : Nat} {q : Bool × Nat} (h : ps[j]? = some q) : (ptxt (ps.take (j + 1))).length = (ptxt (ps.take j)).length + (if q.1 then 2 else 1) := by
  rw [List.take_add_one, h, ptxt_app, List.length_append]
  cases q with | mk b c => cases b <;> simp [ptxt]
theorem pmap_succ {ps : List (Bool × Nat)} {j : Nat} {q : Bool × Nat} (h : ps[j]? = some q) : (ps.take (j + 1)).map (·.2) = (ps.take j).map (·.2) ++ [q.2] := by
  rw [List.take_add_one, h, List.map_append]; rfl
theorem ptxt_le (ps : List (Bool × Nat)) : ps.length ≤ (ptxt ps).length := by
  induction ps with
  | nil => exact Nat.zero_le _
  | cons q r ih => rw [ptxt_cons, List.length_append]; cases q.1 <;> simp <;> omega
end Mine
namespace Mine
open PySem PySem.W PyProof.Rows PySem.Calls
open PySem.Challenge

theorem read_c (w : World) (dp un : Nat) (fr : Option (List Env)) (gd : Option (List Code)) (s : Shared) (E : Value → Shared → Prop) (Q : Value → Shared → Prop) (p : Program) (loose : List Str) (mg mb : Str → Option Value)
   (cs : List Ck) (tk : Tok) (hA : dp < 900) (hu : un < 500) (hr : rw_ij0087_01.row.prog = rw_ij0087_01.row.prog)
   (X : (pre.heap_1 w.params).In s.heap) (T : TopRead p loose mg mb s.heap) (hok : ∀ c ∈ cs, c.ok) (hlen : (ctxt cs).length ≤ 1000) (hcs : cs.length ≤ 100)
   (hQ : ∀ h' a k', (∀ b o, s.heap.get? b = some o → h'.get? b = some o) → StepsAt h' a (cs.map Ck.val) → Q (.ref a) { s with heap := h', toks := k' })
   : wpAny (model rw_ij0087_01.row.prog w) { handled := none, depth := dp, frames := fr, guards := gd, units := un } (call (.ref 120) [.str (SL ([40, 63, 115, 58] ++ ctxt cs ++ [41, 92, 90])) tk]) Q E s := by
  revert X; k_fill; intro X
  generalize hB : ctxt cs = B at *
  have hsl := text_slice B
  generalize hT : [40, 63, 115, 58] ++ B ++ [41, 92, 90] = T0 at *
  have hT0 : T0.length ≤ 10000 := by rw [← hT]; simp; omega
  refine enter (binds := [((Str.ofString "text"), .str (SL T0) tk)]) X T (by k_is) (by k_is) (Nat.lt_trans hA (by decide)) (BindsTo.of_eq rfl) (locs rfl) (by decide) rfl rfl rfl rfl ?_
  intro L h₁ tk₁ hL F N
  walk
  · (with_reducible rename Fr _ _ _ _ => F2); (with_reducible rename News _ _ _ _ => N2)
    refine' to_stop (While_inv (RJ cs B) (n₀ := cs.length) F2 ?nw ?ini ?turn)
    case ini => exact ⟨0, _, [], 0, [], _, _, Nat.zero_le _, rfl, rfl, rfl, rfl, rfl, (fun _ h => nomatch h), rfl, fun _ _ h => nomatch h⟩
    case nw => exact news_sub N2 (by simp)
    case turn =>
      rintro n m₁ news₁ h₂ tk₂ F N ⟨i, S0, vs, k, tl, t1, t2, hi, rfl, hat, hbody, hsteps, rfl, hoff, hheld⟩
      clear F2 N2
      rcases Nat.lt_or_ge i cs.length with hlt | hge
      · obtain ⟨c, hc⟩ : ∃ c, cs[i]? = some c := ⟨_, List.getElem?_eq_getElem hlt⟩
        have hd : B.drop (cpos cs i) = c.txt ++ ctxt (cs.drop (i + 1)) := by rw [← hB, ctxt_drop, drop_of hc, ctxt_cons]
        have hp1 := cpos_succ hc
        have hp2 : cpos cs (i + 1) ≤ B.length := by rw [← hB]; exact cpos_le _ _
        have hvl : vs.length ≤ 10000 := by rw [hheld.1]; omega
        cases c with
        | dot mny =>
          have c0 : B[((cpos cs i : Nat) : Int).toNat]? = some 46 := at_of_drop0 hd
          have hx : cpos cs i + 1 ≤ cpos cs (i + 1) := by rw [hp1]; simp [Ck.txt]
          have hpl : ((cpos cs i : Nat) : Int) < (B.length : Int) := by omega
          have hs1 := slice_one (B := B) (p := cpos cs i) (by omega)
          have hBl : B.length ≤ 10000 := by omega
          cases mny with
          | true =>
            have hy : (B.drop (cpos cs i + 1)).take 1 = [42] := by
              have := drop_more (a := [46]) hd
              rw [show cpos cs i + 1 = cpos cs i + [46].length from rfl, this]; rfl
            rw [hy] at hs1
            walk
            (with_reducible rename Fr _ _ _ _ => kF); (with_reducible rename News _ _ _ _ => kN)
            exact read_turn kF kN hc rfl (by rw [hp1]; simp [Ck.txt]; omega) hbody hsteps hoff hheld (by omega) rfl rfl rfl
          | false =>
            have hy : ¬ ((B.drop (cpos cs i + 1)).take 1 = [42]) := by
              have := drop_more (a := [46]) hd
              rw [show cpos cs i + 1 = cpos cs i + [46].length from rfl, this]
              exact ctxt_take _
            generalize (B.drop (cpos cs i + 1)).take 1 = y1 at hs1 hy
            walk
            (with_reducible rename Fr _ _ _ _ => kF); (with_reducible rename News _ _ _ _ => kN)
            exact read_turn kF kN hc rfl (by rw [hp1]; simp [Ck.txt]) hbody hsteps hoff hheld (by omega) rfl rfl rfl
        | set neg ps =>
          have c0 : B[((cpos cs i : Nat) : Int).toNat]? = some 91 := at_of_drop0 hd
          have hBl : B.length ≤ 10000 := by omega
          obtain ⟨ok1, ok2, ok3, ok4⟩ := hok _ (List.mem_of_getElem? hc)
          obtain ⟨q0, hq0⟩ : ∃ q0, q0 = cpos cs i + 1 + (if neg then 1 else 0) := ⟨_, rfl⟩
          have hdq : B.drop q0 = ptxt ps ++ 93 :: ctxt (cs.drop (i + 1)) := by
            cases neg
            · have := drop_more (a := [91]) hd
              rw [hq0]; exact this.trans (by simp)
            · have := drop_more (a := [91, 94]) hd
              rw [hq0]; exact this.trans (by simp)
          have hq1 : cpos cs (i + 1) = q0 + (ptxt ps).length + 1 := by
            rw [hp1, hq0]; cases neg <;> simp [Ck.txt] <;> omega
          have hx : cpos cs i + 2 ≤ cpos cs (i + 1) := by rw [hq1, hq0]; omega
          have hpl : ((cpos cs i : Nat) : Int) < (B.length : Int) := by omega
          have hpos : 0 < (ptxt ps).length := by
            cases ps with
            | nil => exact absurd rfl ok1
            | cons q r => rw [ptxt_cons, List.length_append]; split <;> simp <;> omega
          obtain ⟨cc, hcc⟩ : ∃ cc, cc = Ck.set neg ps := ⟨_, rfl⟩
          rw [← hcc] at hc
          have hv1 : cc.val.1 = 0 := by rw [hcc]; rfl
          have hv2 : cc.val.2.1 = neg := by rw [hcc]; rfl
          have hv3 : cc.val.2.2 = ps.map (·.2) := by rw [hcc]; rfl
          have hd0 := hd
          clear hd hp1 hcc hok hsl hQ
          cases neg
          case' true =>
            have c1 : B[(((cpos cs i : Nat) : Int) + 1).toNat]? = some 94 := by
              have := at_of_drop hd0 1
              rw [show (((cpos cs i : Nat) : Int) + 1).toNat = cpos cs i + 1 by omega, this]; rfl
            walk
          case' false =>
            obtain ⟨x1, hx1, hx2⟩ : ∃ x1, (ptxt ps ++ 93 :: ctxt (cs.drop (i + 1)))[0]? = some x1 ∧ ¬ ([x1] = [94]) := by
              cases e : ptxt ps with
              | nil => rw [e] at hpos; exact absurd hpos (by decide)
              | cons x r => exact ⟨x, rfl, fun q => ok4 rfl (by rw [e]; cases q; rfl)⟩
            have c1 : B[(((cpos cs i : Nat) : Int) + 1).toNat]? = some x1 := by
              have := at_of_drop hdq 0
              rw [show (((cpos cs i : Nat) : Int) + 1).toNat = q0 + 0 by rw [hq0]; simp, this, hx1]
            walk
          all_goals
            (with_reducible rename Fr _ _ _ _ => F2); (with_reducible rename News _ _ _ _ => N2)
            refine' to_stop (While_inv (RK B q0 ps S0 ((S0, W.listOf vs.toArray k) :: tl) cc.val.2.1) (n₀ := ps.length) F2 N2 ?ini ?turn)
            case ini =>
              refine ⟨0, _, _, _, _, _, [], _, _, Nat.zero_le _, rfl, rfl, ?_, hbody, hsteps, rfl, rfl, rfl, ?_, ?_, rfl⟩
              · rw [hq0]; simp [ptxt]
              · rw [hv2]; first | rfl | (exact decide_eq_false hx2)
              · omega
            case turn =>
              rintro n m₁ news₁ h₂ tk₂ F N ⟨j, t1, t2, t3, z, nb, ins, t0, o0, hj, rfl, hat, hz, hbody, hsteps, hins, hie, hbar, hnb, hlt, rfl⟩
              clear F2 N2
              have hil : ins.length = j := by rw [hie]; simp; omega
              have hpsl := ptxt_le ps
              have hil2 : ins.length ≤ 9000 := by omega
              have hsz2 : ins.length + [0].length ≤ 10000 := by simp; omega
              rcases Nat.lt_or_ge j ps.length with hjl | hjg
              · obtain ⟨⟨b, c⟩, hp⟩ : ∃ pc, ps[j]? = some pc := ⟨_, List.getElem?_eq_getElem hjl⟩
                have e1 := ptxt_split hp
                have e2 := ptxt_succ hp
                have e3 := pmap_succ hp
                have hdj : B.drop (q0 + (ptxt (ps.take j)).length) = (if b then [92, c] else [c]) ++ (ptxt (ps.drop (j + 1)) ++ 93 :: ctxt (cs.drop (i + 1))) := by
                  have := drop_more (a := ptxt (ps.take j)) (b := (if b then [92, c] else [c]) ++ (ptxt (ps.drop (j + 1)) ++ 93 :: ctxt (cs.drop (i + 1)))) (by rw [hdq, e1]; simp)
                  exact this
                have hle : (ptxt (ps.take j)).length ≤ (ptxt ps).length := by rw [e1, List.length_append]; omega
                have hz0 : 0 ≤ z := by omega
                have hz1 : z ≤ 20000 := by omega
                have hzn : z.toNat = q0 + (ptxt (ps.take j)).length := by omega
                cases b with
                | true =>
                  have c0 : B[z.toNat]? = some 92 := by rw [hzn]; exact at_of_drop0 hdj
                  have c1 : B[(z + 1).toNat]? = some c := by rw [show (z + 1).toNat = q0 + (ptxt (ps.take j)).length + 1 by omega, at_of_drop hdj 1]; rfl
                  clear hdj hdq e1 hp
                  walk
                  (with_reducible rename Fr _ _ _ _ => kF); (with_reducible rename News _ _ _ _ => kN)
                  exact WhileStep.intro kF kN (n' := ps.length - (j + 1)) (by omega) ⟨j + 1, _, _, _, _, nb, _, t0, o0, by omega, rfl, rfl, by rw [e2]; simp; omega, hbody, hsteps, rfl, by rw [e3, ← hie], hbar, hnb, hlt, rfl⟩
                | false =>
                  have c0 : B[z.toNat]? = some c := by rw [hzn]; exact at_of_drop0 hdj
                  have c1 : B[(z + 0).toNat]? = some c := by rw [Int.add_zero]; exact c0
                  have h92 : ¬ ([c] = [92]) := fun q => ok2 (false, c) (List.mem_of_getElem? hp) rfl (by cases q; rfl)
                  by_cases h93 : c = 93
                  · subst h93
                    have hj0 : j = 0 := by
                      rcases Nat.eq_zero_or_pos j with q | q
                      · exact q
                      · exact absurd rfl (ok3 (false, 93) (List.mem_of_getElem? (i := j - 1) (by rw [List.getElem?_tail, show j - 1 + 1 = j by omega]; exact hp)) rfl)
                    have hi0 : ins = [] := List.length_eq_zero_iff.mp (by rw [hil, hj0])
                    clear hdj hdq e1 hp
                    subst hi0
                    walk
                    (with_reducible rename Fr _ _ _ _ => kF); (with_reducible rename News _ _ _ _ => kN)
                    exact WhileStep.intro kF kN (n' := ps.length - (j + 1)) (by omega) ⟨j + 1, _, _, _, _, nb, _, t0, o0, by omega, rfl, rfl, by rw [e2]; simp; omega, hbody, hsteps, rfl, by rw [e3, ← hie], hbar, hnb, hlt, rfl⟩
                  · have h93' : ¬ ([c] = [93]) := fun q => h93 (by cases q; rfl)
                    clear hdj hdq e1 hp
                    walk
                    (with_reducible rename Fr _ _ _ _ => kF); (with_reducible rename News _ _ _ _ => kN)
                    exact WhileStep.intro kF kN (n' := ps.length - (j + 1)) (by omega) ⟨j + 1, _, _, _, _, nb, _, t0, o0, by omega, rfl, rfl, by rw [e2]; simp; omega, hbody, hsteps, rfl, by rw [e3, ← hie], hbar, hnb, hlt, rfl⟩
              · have hjn : j = ps.length := by omega
                subst hjn
                rw [List.take_length] at hz hie
                have hdj : B.drop (q0 + (ptxt ps).length) = 93 :: ctxt (cs.drop (i + 1)) := drop_more hdq
                have hz0 : 0 ≤ z := by omega
                have hz1 : z ≤ 20000 := by omega
                have hzn : z.toNat = q0 + (ptxt ps).length := by omega
                have c0 : B[z.toNat]? = some 93 := by rw [hzn]; exact at_of_drop0 hdj
                have hne : ¬ (ins = []) := fun q => ok1 (List.length_eq_zero_iff.mp (by rw [← hil, q]; rfl))
                have hs1 := slice_one (B := B) (p := q0 + (ptxt ps).length) (by omega)
                rw [← hz] at hs1
                have hy : ¬ ((B.drop (q0 + (ptxt ps).length + 1)).take 1 = [42]) := by
                  have := drop_more (a := [93]) hdj
                  rw [show q0 + (ptxt ps).length + 1 = q0 + (ptxt ps).length + [93].length from rfl, this]
                  exact ctxt_take _
                generalize (B.drop (q0 + (ptxt ps).length + 1)).take 1 = y1 at hs1 hy
                clear hdj hdq
                walk
                (with_reducible rename Fr _ _ _ _ => kF); (with_reducible rename News _ _ _ _ => kN)
                exact read_turn kF kN hc rfl (by rw [hq1]; omega) hbody hsteps hoff hheld (by omega) (by rw [hv1]; rfl) hnb (by rw [hv3, hie])
      · have e : i = cs.length := by omega
        subst e
        have hpl : ¬ ((cpos cs cs.length : Nat) : Int) < (B.length : Int) := by rw [cpos_all, hB]; omega
        have hBl : B.length ≤ 10000 := by omega
        walk
        (with_reducible rename Fr _ _ _ _ => kF); (with_reducible rename News _ _ _ _ => kN)
        refine hQ _ _ _ kF.keep ⟨vs, ⟨_, (kN (S0, W.listOf vs.toArray k) (by k_mem)).1, rfl, k, rfl⟩, ?_, fun j x hx => ?_⟩
        · rw [hheld.1, List.length_map]
        · obtain ⟨t, u1, u2, k', e1, e2⟩ := hheld.2 j x (by have := (List.getElem?_eq_some_iff.mp hx).1; simpa using this) hx
          exact ⟨t, u1, u2, e1, ⟨_, (kN _ (.tail _ e2)).1, rfl, k', rfl⟩⟩
  all_goals (rename (¬ T0 = _) => hTT; exact absurd hT.symm hTT)
end Mine
namespace Mine
open PySem PySem.W PyProof.Rows PySem.Calls
/-- the code object's part that does not change -/
noncomputable abbrev Hd61 (h : Heap) : Prop := CodeHd h 61 57
/-- a table of nested code objects -/
noncomputable def Tab (op : Obj) : Prop := ∃ ps, op = tabObj ps ∧ TriplesOk ps.toList
theorem Hd61.code {h : Heap} (x : Hd61 h) {op : Obj} (e : h.get? 57 = some op) (t : Tab op) : ∃ ps, op = tabObj ps ∧ h.IsCode 61 57 ps ∧ h.TableAt 61 57 ps := by
  obtain ⟨ps, rfl, ht⟩ := t
  exact ⟨ps, rfl, CodeHd.code x e ht, CodeHd.tab x e⟩
theorem tab_of_code {h : Heap} {ps : Array Value} (x : h.IsCode 61 57 ps) (y : h.TableAt 61 57 ps) : h.get? 57 = some (tabObj ps) ∧ Tab (tabObj ps) := by
  obtain ⟨o, vs, file, tf, flags, tg, inF, text, tt, op, ho, hd, h11, h2, h7, h9, h10, hop, hpd, htr, hne⟩ := x
  exact ⟨y.2, ps, rfl, htr⟩
/-- a base without 57 -/
noncomputable def g57 (h : Heap) : Heap := hideAll h [57]
theorem g57_sub {h : Heap} {b : Addr} {o : Obj} (e : (g57 h).get? b = some o) : h.get? b = some o := of_hideAll _ e
theorem g57_none {h : Heap} : (g57 h).get? 57 = none := hideAll_none _ (.head _)
theorem g57_get {h : Heap} {b : Addr} {o : Obj} (e : h.get? b = some o) (hb : b ≠ 57) : (g57 h).get? b = some o := hideAll_get _ e (by simpa using hb)
theorem g57_fr {h h₁ : Heap} {L : Addr} {m : Str → Option Value} (F : Fr h L h₁ m) : Fr (g57 h) L h₁ m := ⟨F.ns, fun b o e => F.keep b o (g57_sub e), Nat.le_trans (Nat.le_of_eq (hideAll_size _ _)) F.above⟩
theorem g57_news {h h₁ : Heap} {L : Addr} {m : Str → Option Value} {op : Obj} (F : Fr h L h₁ m) (e : h.get? 57 = some op) : News (g57 h) L h₁ [(57, op)] := fun p hp => by
  rcases List.mem_singleton.mp hp with rfl
  exact ⟨F.keep _ _ e, Nat.ne_of_lt (Nat.lt_of_lt_of_le (Heap.lt_size e) F.above), g57_none⟩

section
variable {M : Model} {A : Around} {E : Value → Shared → Prop} {s : Shared} {g : Heap} {L a : Addr} {m mg : Str → Option Value} {cn : Str} {cs : Scope} {cl : List (Str × Addr)} {news : List (Addr × Obj)} {gg : Obj → List (Addr × Obj)} {op : Obj}
/-- a frame and a ledger over a heap that changed at 57 alone -/
theorem tab_step {h' : Heap} {op' : Obj} (F : Fr g L s.heap m) (N : News g L s.heap news) (U : UpdF 57 op news gg) (hx : Heap.ExtBut 57 s.heap h') (e : h'.get? 57 = some op') : Fr g L h' m ∧ News g L h' (gg op') := by
  obtain ⟨own, rest, rfl, hgr, h1, h2⟩ := U.split
  have hm := N (57, op) (List.mem_append_right _ (.head _))
  refine ⟨⟨F.ns.extBut hx hm.2.1.symm, fun b o e => hx b o (fun q => by rw [q, hm.2.2] at e; cases e) (F.keep b o e), F.above⟩, fun q hq => ?_⟩
  rw [hgr] at hq
  rcases List.mem_append.mp hq with hq | hq
  · have n := N q (List.mem_append_left _ hq)
    exact ⟨hx _ _ (h1 q hq) n.1, n.2⟩
  · rcases List.mem_cons.mp hq with rfl | hq
    · exact ⟨e, hm.2⟩
    · have n := N q (List.mem_append_right _ (.tail _ hq))
      exact ⟨hx _ _ (h2 q hq) n.1, n.2⟩
theorem fcode_any {env : Env} {ps : Array Value} {pos : Pos} {firstLine : Nat} {name qualname : Str} {p : Arguments} {scope : Scope} {body : FuncBody} {Q : Value → Shared → Prop} (hc : env.code = .ref 61) (hok : s.heap.IsCode 61 57 ps) (htab : s.heap.TableAt 61 57 ps)
    (hQ : ∀ c h' tk ps', Heap.ExtBut 57 s.heap h' → s.heap.objs.size ≤ h'.objs.size → h'.get? 57 = some (tabObj ps') → Tab (tabObj ps') → Q c { s with heap := h', toks := tk }) :
    wpAny M A (functionCode env pos firstLine name qualname p scope body) Q E s := by
  cases e : codeAmong pos ps.toList with
  | some c => exact wpAny_functionCode_hit hc hok e (hQ c s.heap s.toks ps (Heap.ExtBut.refl _ _) (Nat.le_refl _) (tab_of_code hok htab).1 (tab_of_code hok htab).2)
  | none => exact wpAny_functionCodeX hc hok htab e fun c' h' tk hx hge hlt hi hr ht _ => hQ _ h' tk _ hx (Nat.le_trans hge (Nat.le_of_lt hlt)) (tab_of_code hi ht).1 (tab_of_code hi ht).2
theorem gcode_any {env : Env} {ps : Array Value} {pos : Pos} {qualname : Str} {scope : Scope} {Q : Value → Shared → Prop} (hc : env.code = .ref 61) (hok : s.heap.IsCode 61 57 ps) (htab : s.heap.TableAt 61 57 ps)
    (hQ : ∀ c h' tk ps', Heap.ExtBut 57 s.heap h' → s.heap.objs.size ≤ h'.objs.size → h'.get? 57 = some (tabObj ps') → Tab (tabObj ps') → Q c { s with heap := h', toks := tk }) :
    wpAny M A (genexprCode env pos qualname scope) Q E s := by
  cases e : codeAmong pos ps.toList with
  | some c => exact wpAny_codeAt_hit hc hok e (hQ c s.heap s.toks ps (Heap.ExtBut.refl _ _) (Nat.le_refl _) (tab_of_code hok htab).1 (tab_of_code hok htab).2)
  | none => exact wpAny_genexprCodeX hc hok htab e fun c' h' tk hx hge hlt hi hr ht _ => hQ _ h' tk _ hx (Nat.le_trans hge (Nat.le_of_lt hlt)) (tab_of_code hi ht).1 (tab_of_code hi ht).2
/-- a lambda of _translate -/
theorem lam_any {Q : Value → Shared → Prop} {params : Arguments} {body : Expr} {scope : Scope} {pos : Pos} (F : Fr g L s.heap m) (N : News g L s.heap news) (U : UpdF 57 op news gg) (ht : Tab op) (C : Hd61 g) (G : g.Ns mainGlobals mg) (B : g.BuiltinsAt mg 57)
    (hcl : closureFor scope (envX cn cs L a (.ref 61) cl) = pure []) (hdef : defaultsOf params (envX cn cs L a (.ref 61) cl) = ([], []))
    (h : ∀ f fo fd op' h' tk, Tab op' → fo.cls = .type "function" → fo.data = .func fd → Fr g L h' m → News g L h' ((f, fo) :: gg op') → (∀ q ∈ news, q.1 < f) → Q (.ref f) { s with heap := h', toks := tk }) :
    wpAny M A (eval (.Lambda params body scope pos) (envX cn cs L a (.ref 61) cl)) Q E s := by
  refine kla_eval hdef ?_
  rw [makeFunction_eq]
  simp only [List.zip_nil_right, List.filterMap_nil, List.isEmpty_nil, if_true, pure_bind]
  obtain ⟨own, rest, e1, hgr, h1, h2⟩ := U.split
  have hm := N (57, op) (by rw [e1]; exact List.mem_append_right _ (.head _))
  obtain ⟨ps, _, hic, hit⟩ := Hd61.code (CodeHd.keeps C F.keep) hm.1 ht
  have hgs := G.keeps F.keep
  obtain ⟨bm, ob, b1, b2, b3, b4, b5, b6, b7, b8⟩ := B
  unfold makeTail
  rw [hcl]
  refine wpAny_bind (wpAny_pure ?_)
  simp only [List.isEmpty_nil, if_true]
  refine wpAny_bind (wpAny_pure ?_)
  refine wpAny_bind (fcode_any rfl hic hit fun c h' tk ps' hx hsz e57 t' => ?_)
  obtain ⟨F', N'⟩ := tab_step F N U hx e57
  refine wpAny_bind (wpAny_builtinsFor (G.keeps F'.keep) b1 b2 (F'.keep _ _ b5) b6 b7 b8 ?_)
  refine wpAny_bind (wpAny_nsGet (G.keeps F'.keep) ?_)
  have hLs : L < h'.objs.size := F'.ns.lt
  have key : ∀ fd : FuncData, Q (.ref h'.objs.size) { s with heap := h'.push { cls := .type "function", data := .func fd }, toks := tk } := fun fd => by
    refine h h'.objs.size { cls := .type "function", data := .func fd } fd (tabObj ps') _ _ t' rfl rfl ⟨F'.ns.push _, fun b o e => Heap.get?_push_of_some _ (F'.keep b o e), F'.above⟩ (fun q hq => ?_) (fun q hq => Nat.lt_of_lt_of_le (Heap.lt_size (N q hq).1) hsz)
    rcases List.mem_cons.mp hq with rfl | hq
    · exact ⟨Heap.get?_push_size _ rfl, Nat.ne_of_gt hLs, Heap.get?_none_of_le (Nat.le_trans F'.above (Nat.le_of_lt hLs))⟩
    · exact ⟨Heap.get?_push_of_some _ (N' q hq).1, (N' q hq).2⟩
  exact wpAny_bind (wpAny_pure (wpAny_newObj_type (key _) (by size_fits)))
end
end Mine
namespace Mine
open PySem PySem.W PyProof.Rows PySem.Calls PySem.Builtin PySem.Builtin.ObjectAttr
theorem bm_lookup : typeLookup (.type "list") "append" = pure (some (.builtin "list.append")) := by rw [typeLookup_type, builtinLookup_eq_fast]; kernel_rfl
theorem bm_get : typeLookup (.type "method_descriptor") "__get__" = pure (some (.builtin "method_descriptor.__get__")) := by rw [typeLookup_type, builtinLookup_eq_fast]; kernel_rfl
theorem bm_set : typeLookup (.type "method_descriptor") "__set__" = pure none := by rw [typeLookup_type, builtinLookup_eq_fast]; kernel_rfl
theorem bm_del : typeLookup (.type "method_descriptor") "__delete__" = pure none := by rw [typeLookup_type, builtinLookup_eq_fast]; kernel_rfl
theorem bm_entry : entryFor table "method_descriptor.__get__" = some Builtin.«method_descriptor.__get__» := entryFor_of_tree (by kernel_rfl)
theorem slot_md : Slot "method_descriptor" "__get__" "method_descriptor.__get__" :=
  .of (owner := "method_descriptor") (n := "__get__") (by rw [typeLookup_type, builtinLookup_eq_fast]; kernel_rfl) (by decide +kernel) (by decide +kernel) (by decide +kernel)
    (by first | exact .inl (by decide +kernel) | exact .inr (by decide +kernel)) (by rw [isSubtype_type]; kernel_rfl)
theorem args_md (a b c : Value) : argsOk "method_descriptor.__get__" ⟨[a, b, c], []⟩ := by unfold argsOk; kernel_rfl
theorem sub_list : isSubtype (.type "list") (.type "list") = pure true := by rw [isSubtype_type]; kernel_rfl
theorem toldNo : Manifest.toldItsClass.contains "list.append" = false := by decide +kernel
noncomputable abbrev bmObj (f : Value) (a : Addr) : Obj := { cls := .type "builtin_function_or_method", data := .fields #[f, .ref a] }
theorem md_meets (a : Addr) :
    Meets (Builtin.«method_descriptor.__get__» ⟨[.builtin "list.append", .ref a, .type "list"], []⟩) (fun A R s => s.TypeIs (.ref a) "list" ∧
      R (.ok (.ret (.ref s.heap.objs.size))) { s with heap := s.heap.push (bmObj (.builtin "list.append") a) }) :=
  Meets.of_wp fun prog w A R s hs => by
    obtain ⟨hp, g, d, tk, os⟩ := s
    obtain ⟨hT, hs⟩ := hs
    have e5 := toldNo
    have e6 := sub_list
    unfold Builtin.«method_descriptor.__get__»
    refine wpAny_bind (wpAny_of_eq (a := (Value.builtin "list.append", some (Value.ref a), some (Value.type "list"))) (by rfl) ?_)
    dsimp only
    rw [e5]
    simp only [Bool.false_eq_true, if_false]
    refine wpAny_bind (wpAny_bind (wpAny_of_eq (a := ((Str.ofString "append" : Str), Value.type "list")) (by kernel_rfl) ?_))
    dsimp only
    repeat (any_goals (first | with_reducible assumption | wp_step))
    exact ⟨_, rfl, hs⟩
theorem bm_meets (a : Addr) (xs : Array Value) (k : Nat) (sl : Array (Option Value)) (u : Tok) :
    Meets (Builtin.«object.__getattribute__» ⟨[.ref a, .str (Str.ofString "append") u], []⟩) (fun A R s => s.heap.get? a = some { cls := .type "list", dict := none, data := .seq xs k, slots := sl } ∧
      R (.ok (.ret (.ref s.heap.objs.size))) { s with heap := s.heap.push (bmObj (.builtin "list.append") a) }) :=
  Meets.of_wp fun prog w A R s hs => by
    obtain ⟨hp, g, d, tk, os⟩ := s
    obtain ⟨hx, hs⟩ := hs
    have hT : (⟨hp, g, d, tk, os⟩ : Shared).TypeIs (.ref a) "list" := ⟨_, hx, rfl⟩
    have t1 := type_list_append
    have e1 := bm_lookup
    have e2 := bm_get
    have e3 := bm_set
    have e4 := bm_del
    unfold Builtin.«object.__getattribute__»
    repeat (any_goals (first | with_reducible assumption | wp_step))
    refine codeAny_call_builtin slot_md.plain bm_entry (slot_md.check _ _ _ _ _ _ _ _ (show Shared.TypeIs _ (.builtin "list.append") "method_descriptor" from t1) (args_md _ _ _) ?_)
    exact md_meets a prog w A.in1 (fun r s' => match r with
      | .ok (.ret v) => wpAny (model prog w) A.in1 (ret v) (fun fin s' => ∃ v, fin = Fin.done (Flow.ret v) ∧ R (Except.ok (Flow.ret v)) s') (fun e s' => R (Except.error e) s') s'
      | .ok _ => False
      | .error e => R (.error e) s') _ ⟨hT, wpAny_pure ⟨_, rfl, hs⟩⟩
theorem getAttr_append {prog : Program} {w : World} {A : Around} {E : Value → Shared → Prop} {s : Shared} {a : Addr} {xs : Array Value} {k : Nat} {sl : Array (Option Value)} {Q : Value → Shared → Prop}
    (hx : s.heap.get? a = some { cls := .type "list", dict := none, data := .seq xs k, slots := sl })
    (h : ∀ tk, Q (.ref s.heap.objs.size) { s with heap := s.heap.push (bmObj (.builtin "list.append") a), toks := tk }) :
    wpAny (model prog w) A (getAttr (.ref a) (Str.ofString "append") true) Q E s := by
  obtain ⟨hp, g, d, tk, os⟩ := s
  have hT : ∀ tk', (⟨hp, g, d, tk', os⟩ : Shared).TypeIs (.ref a) "list" := fun _ => ⟨_, hx, rfl⟩
  have f3 := PySem.F.slot_list_getattribute.lookup
  have f4 := PySem.F.slot_list_getattribute.bind (.ref a)
  have f5 := am_list_getattr_none
  unfold getAttr getAttrBy
  repeat (any_goals (first | assumption | exact hT _ | ((with_reducible show wpAny _ _ (call (Value.builtin "list.__getattribute__") _ _) _ _ _); refine call_meets PySem.F.slot_list_getattribute (hT _) am_entry_list_getattribute (PySem.F.args_list_getattribute_2 _ _) (bm_meets a xs k sl _) ⟨hx, ?_⟩) | wp_step))
  exact wpAny_pure (h _)
/-- «x = a.append», on the ledger -/
theorem get_append {prog : Program} {w : World} {A : Around} {E : Value → Shared → Prop} {s : Shared} {h₀ : Heap} {L a : Addr} {m : Str → Option Value} {news : List (Addr × Obj)} {its : Array Value} {n : Nat} {Q : Value → Shared → Prop}
    (F : Fr h₀ L s.heap m) (N : News h₀ L s.heap news) (hm : (a, W.listOf its n) ∈ news)
    (h : ∀ q h' tk, Fr h₀ L h' m → News h₀ L h' ((q, bmObj (.builtin "list.append") a) :: news) → (∀ p ∈ news, p.1 < q) → Q (.ref q) { s with heap := h', toks := tk }) :
    wpAny (model prog w) A (getAttr (.ref a) (Str.ofString "append") true) Q E s :=
  getAttr_append (N _ hm).1 fun tk => h _ _ tk (F.push _) (N.push F _) fun p hp => Heap.lt_size (N p hp).1
end Mine
namespace Mine
open PySem PySem.W PyProof.Rows PySem.Calls PySem.Builtin PySem.Builtin.ObjectAttr
theorem kind_append : builtinKind "list.append" = some .method := by decide +kernel
theorem call_bm {prog : Program} {w : World} {A : Around} {E : Value → Shared → Prop} {s : Shared} {q a : Addr} {xs : Array Value} {k : Nat} {v : Value} {Q : Value → Shared → Prop}
    (hq : s.heap.get? q = some (bmObj (.builtin "list.append") a)) (hx : s.heap.get? a = some { cls := .type "list", data := .seq xs k }) (hsz : xs.size ≤ sizeLine)
    (h : ∀ h', Heap.SameBut a s.heap h' → h'.get? a = some { cls := .type "list", data := .seq (xs.push v) (k + 1) } → Q .none { s with heap := h' }) :
    wpAny (model prog w) A (call (.ref q) [v]) Q E s := by
  refine wpAny_call (codeAny_of_tree ?_)
  show wpAny _ A.in1 (callAny (.ref q) ⟨[v], []⟩) _ _ s
  simp only [callAny]
  refine wpAny_bind (wpAny_load hq ?_)
  simp only [bmObj, show (Value.type "builtin_function_or_method" == Value.type "method" || Value.type "builtin_function_or_method" == Value.type "builtin_function_or_method" || Value.type "builtin_function_or_method" == Value.type "method-wrapper") = true by decide, if_true]
  refine wpAny_bind (m := checkBoundCall "list.append" ⟨[.ref a, v], []⟩) ?_
  have hT : s.TypeIs (.ref a) "list" := ⟨_, hx, rfl⟩

  unfold checkBoundCall
  obtain ⟨hp, g, d, tk, os⟩ := s
  repeat (any_goals (first | with_reducible assumption | wp_step))
  have s1 : isSubtype (.type "list") (.type "module") = pure false := by rw [isSubtype_type]; kernel_rfl
  have s2 : isSubtype (.type "list") (.type "type") = pure false := by rw [isSubtype_type]; kernel_rfl
  refine wpAny_of_eq s1 ?_
  have s3 : Manifest.varargsMethods.contains "list.append" = false := by decide +kernel
  rw [s3]
  rw [if_neg (by decide)]
  refine wpAny_bind (wpAny_mono (Q := fun b s' => b = false ∧ s' = (⟨hp, g, d, tk, os⟩ : Shared)) ?_ (fun b s' hb => ?_) fun _ _ e => e)
  · unfold isType
    repeat (any_goals (first | with_reducible assumption | wp_step))
    exact ⟨rfl, rfl⟩
  · obtain ⟨rfl, rfl⟩ := hb
    simp only [Bool.false_eq_true, if_false]
    refine wpAny_bind (wpAny_mono (Q := fun c s' => c = Value.type "list" ∧ s' = (⟨hp, g, d, tk, os⟩ : Shared)) ?_ (fun c s' hb => ?_) fun _ _ e => e)
    · repeat (any_goals (first | with_reducible assumption | wp_step))
      exact ⟨rfl, rfl⟩
    · obtain ⟨rfl, rfl⟩ := hb
      refine wpAny_of_eq (a := ()) (by kernel_rfl) ?_
      refine wpAny_pure ?_
      refine ⟨by kernel_rfl, codeAny_builtin entry_list_append ?_⟩
      show wpAny _ _ (updateSeq a (·.push v) >>= fun _ => ret .none) _ _ _
      refine wpAny_bind ?_
      refine wpAny_updateSeq hx rfl (wpAny_pure (h _ (Heap.SameBut.update ..) ?_))
      rw [Heap.get?_update_self _ hx (by rw [mapSeq_push]; rfl), mapSeq_push]
theorem callbm_N {prog : Program} {w : World} {A : Around} {E : Value → Shared → Prop} {s : Shared} {h₀ : Heap} {L q a : Addr} {m : Str → Option Value} {news : List (Addr × Obj)} {g : Obj → List (Addr × Obj)} {its : List Value} {n : Nat} {v : Value} {Q : Value → Shared → Prop}
    (F : Fr h₀ L s.heap m) (N : News h₀ L s.heap news) (hq : (q, bmObj (.builtin "list.append") a) ∈ news) (U : UpdF a (W.listOf its.toArray n) news g) (hsz : its.length ≤ 10000)
    (h : ∀ h', Fr h₀ L h' m → News h₀ L h' (g (W.listOf (its ++ [v]).toArray (n + 1))) → Q .none { s with heap := h' }) : wpAny (model prog w) A (call (.ref q) [v]) Q E s := by
  obtain ⟨pre, post, e1, e2, o1, o2⟩ := U.split
  have hm : (a, W.listOf its.toArray n) ∈ news := by rw [e1]; simp
  have hN := N _ hm
  refine call_bm (N _ hq).1 hN.1 (by rw [List.size_toArray, sizeLine_eq]; omega) fun h' hs hD => ?_
  refine h h' ⟨F.ns.sameBut hs (Ne.symm hN.2.1), fun b o e => hs.extBut b o (fun q => by rw [q, hN.2.2] at e; cases e) (F.keep b o e), F.above⟩ fun p hp => ?_
  rw [e2] at hp
  rcases List.mem_append.mp hp with hp | hp
  · have z := N p (by rw [e1]; exact List.mem_append_left _ hp)
    exact ⟨hs.extBut _ _ (o1 p hp) z.1, z.2⟩
  · rcases List.mem_cons.mp hp with rfl | hp
    · refine ⟨hD.trans ?_, hN.2⟩
      simp [W.listOf]
    · have z := N p (by rw [e1]; exact List.mem_append_right _ (.tail _ hp))
      exact ⟨hs.extBut _ _ (o2 p hp) z.1, z.2⟩
theorem is_append {M : Model} {A : Around} {a : Addr} {b : Bool} {Q E : Value → Shared → Prop} {s : Shared} (h : wpAny M A (getAttr (.ref a) (Str.ofString "append") b) Q E s) : wpAny M A (getAttr (.ref a) (Str.ofString "append") b) Q E s := h
theorem is_call1 {M : Model} {A : Around} {a : Addr} {v : Value} {Q E : Value → Shared → Prop} {s : Shared} (h : wpAny M A (call (.ref a) [v]) Q E s) : wpAny M A (call (.ref a) [v]) Q E s := h
end Mine
local macro_rules | `(tactic| walk_at "getAttr ref") => do
  `(tactic| (with_reducible refine Mine.is_append ?_; $(← Mine.go ["kF", "kN"] 2 `Mine.get_append ["@kF", "@kN", "m", "_"] [("m", "kmem")] ["klt"]):tactic))
local macro_rules | `(tactic| walk_at "call ref") => do
  `(tactic| (with_reducible refine Mine.is_call1 ?_; $(← Mine.go ["kF", "kN"] 2 `Mine.callbm_N ["@kF", "@kN", "m", "U", "z", "_"] [("m", "kmem"), ("U", "updf"), ("z", "as|om|ll")] ["i", "i", "i"]):tactic))
namespace Mine
open PySem PySem.W PyProof.Rows PySem.Calls PySem.Builtin PySem.Builtin.ObjectAttr
section
variable {M : Model} {A : Around} {E : Value → Shared → Prop} {s : Shared}
noncomputable def BmAt (f : Value) (a x : Addr) (h : Heap) : Prop := h.get? x = some (bmObj f a)
theorem callWith_bmf {f : Value} {a : Addr} {pos : Pos} {u : Addr} {first : List Value} {args : List (Bool × Sem Value)} {Q : Value → Shared → Prop} (hplain : args.any (·.1) = false)
    (h : wpAny M A (evalArgs (.ref u) true args []) (fun x s₁ => BmAt f a u s₁.heap ∧ wpAny M A (call (.ref u) (first ++ x.pos) x.kw) Q E s₁) E s) : wpAny M A (callWith pos (.ref u) first args []) Q E s := by
  unfold callWith
  refine wpAny_bind (wpAny_holding (wpAny_mono h (fun x s₁ h₁ => wpAny_bind (wpAny_standAt ?_)) fun _ _ x => x))
  obtain ⟨ho, hcall⟩ := h₁
  simp only [hplain, List.any_nil, Bool.or_false]
  refine wpAny_bind (m := keeperOf (.ref u)) ?_
  unfold keeperOf
  refine wpAny_bind (wpAny_load ho ?_)
  simp only [bmObj, show (Value.type "builtin_function_or_method" != Value.type "method") = true by decide, show (Value.type "builtin_function_or_method" == Value.type "builtin_function_or_method" || Value.type "builtin_function_or_method" == Value.type "method-wrapper") = true by decide, if_true]
  refine wpAny_pure ?_
  exact wpAny_bind (wpAny_mono hcall (fun r s₂ hr => wpAny_bind (wpAny_holding (wpAny_point (wpAny_pure hr)))) fun _ _ x => x)
theorem callWith_bm {h₀ : Heap} {L : Addr} {news : List (Addr × Obj)} {f : Value} {a : Addr} {pos : Pos} {u : Addr} {first : List Value} {env : Env} {e : Expr} {rest : List Expr} {Q : Value → Shared → Prop} (_N : News h₀ L s.heap news) (_hm : (u, bmObj f a) ∈ news)
    (h : wpAny M A (spliced (backTo pos (starEach (e :: rest) env))) (fun vs s₁ => BmAt f a u s₁.heap ∧ wpAny M A (call (.ref u) (first ++ vs)) Q E s₁) E s)
    (he : starEach (e :: rest) env = (false, eval e env) :: starEach rest env := by rfl) (hplain : (backTo pos (starEach rest env)).any (·.1) = false := by rfl) :
    wpAny M A (callWith pos (.ref u) first (backTo pos (starEach (e :: rest) env)) []) Q E s := by
  rw [he] at h ⊢
  refine callWith_bmf (f := f) (a := a) (by show (false || (backTo pos (starEach rest env)).any (·.1)) = false; rw [hplain]; rfl) ?_
  exact evalArgs_plain h
theorem bm_at {h₀ h : Heap} {L : Addr} {news : List (Addr × Obj)} {f : Value} {a x : Addr} (N : News h₀ L h news) (hm : (x, bmObj f a) ∈ news) : BmAt f a x h := N.get hm
theorem isnot_sr {x : Str} {t : Tok} {a : Addr} {Q : Value → Shared → Prop} (h : Q (.bool true) s) : wpAny M A (compareOp .IsNot (.str x t) (.ref a)) Q E s := wpAny_isNot_other (by rfl) (by intro x; cases x) h
end
theorem is_cw {M : Model} {A : Around} {p q : Pos} {u : Addr} {f : List Value} {e : Expr} {r : List Expr} {env : Env} {Q E : Value → Shared → Prop} {s : Shared} (h : wpAny M A (callWith p (.ref u) f (backTo q (starEach (e :: r) env)) []) Q E s) : wpAny M A (callWith p (.ref u) f (backTo q (starEach (e :: r) env)) []) Q E s := h
theorem callWith_app {M : Model} {A : Around} {E : Value → Shared → Prop} {s : Shared} {h₀ : Heap} {L : Addr} {news : List (Addr × Obj)} {a : Addr} {pos : Pos} {u : Addr} {first : List Value} {env : Env} {e : Expr} {rest : List Expr} {Q : Value → Shared → Prop} (N : News h₀ L s.heap news) (hm : (u, bmObj (.builtin "list.append") a) ∈ news)
    (h : wpAny M A (spliced (backTo pos (starEach (e :: rest) env))) (fun vs s₁ => BmAt (.builtin "list.append") a u s₁.heap ∧ wpAny M A (call (.ref u) (first ++ vs)) Q E s₁) E s)
    (he : starEach (e :: rest) env = (false, eval e env) :: starEach rest env := by rfl) (hplain : (backTo pos (starEach rest env)).any (·.1) = false := by rfl) :
    wpAny M A (callWith pos (.ref u) first (backTo pos (starEach (e :: rest) env)) []) Q E s := callWith_bm N hm h he hplain
theorem callWith_con {M : Model} {A : Around} {E : Value → Shared → Prop} {s : Shared} {h₀ : Heap} {L : Addr} {news : List (Addr × Obj)} {a : Addr} {pos : Pos} {u : Addr} {first : List Value} {env : Env} {e : Expr} {rest : List Expr} {Q : Value → Shared → Prop} (N : News h₀ L s.heap news) (hm : (u, bmObj (.builtin "set.__contains__") a) ∈ news)
    (h : wpAny M A (spliced (backTo pos (starEach (e :: rest) env))) (fun vs s₁ => BmAt (.builtin "set.__contains__") a u s₁.heap ∧ wpAny M A (call (.ref u) (first ++ vs)) Q E s₁) E s)
    (he : starEach (e :: rest) env = (false, eval e env) :: starEach rest env := by rfl) (hplain : (backTo pos (starEach rest env)).any (·.1) = false := by rfl) :
    wpAny M A (callWith pos (.ref u) first (backTo pos (starEach (e :: rest) env)) []) Q E s := callWith_bm N hm h he hplain
def callBm (n : Lean.Name) (s : Lean.TSyntax `str) : Lean.MacroM (Lean.TSyntax `tactic) := at' ["callWith ref"] s do
  `(tactic| (with_reducible refine Mine.is_cw ?_; $(← go ["kN"] 2 n ["@kN", "m", "_"] [("m", "kmem")] []):tactic))
end Mine
local macro_rules | `(tactic| walk_at $s:str) => Mine.callBm `Mine.callWith_app s
local macro_rules | `(tactic| walk_at "callWith ref") => `(tactic| (k_here; k_dflt ((with_reducible refine' callWith_K (he := ?k3) (hplain := ?k4) ?k1 ?k2 ?_); (case k1 => k_asm); (case k2 => k_is); (case k3 => exact rfl); (case k4 => exact rfl))))
local macro_rules | `(tactic| walk_at "And") => `(tactic| ((with_reducible show Mine.BmAt _ _ _ _ ∧ _); (with_reducible rename News _ _ _ _ => kN); k_dflt (refine ⟨Mine.bm_at kN (by k_mem), ?_⟩); (try dsimp only [List.nil_append, List.cons_append])))
local macro_rules | `(tactic| walk_at $s:str) => Mine.refineAt [("compareOp IsNot", `Mine.isnot_sr), ("compareOp IsNot str ref", `Mine.isnot_sr)] s
namespace Mine
open PySem PySem.W PyProof.Rows PySem.Calls
/-- an item of a pattern: any one sign, or a set -/
inductive It where
  | q
  | set (neg : Bool) (S : List Nat)
noncomputable def It.txt : It → List Nat
  | .q => [63]
  | .set neg S => 91 :: ((if neg then [33] else []) ++ (S ++ [93]))
noncomputable def esc1 (c : Nat) : Bool × Nat := (c == 45, c)
noncomputable def pcs (neg : Bool) : List Nat → List (Bool × Nat)
  | [] => []
  | c :: r => ((c == 45) || (c == 91 && !neg), c) :: r.map esc1
noncomputable def It.ck : It → Ck
  | .q => .dot false
  | .set neg S => .set neg (pcs neg S)
/-- a sublist of the ends: ']' at the head alone, '-' at the end alone -/
noncomputable def It.ok : It → Prop
  | .q => True
  | .set neg S => S ≠ [] ∧ (∀ c ∈ S, c ∈ [93, 47, 42, 91, 33, 45]) ∧ (∀ c ∈ S.tail, c ≠ 93) ∧ (∀ c ∈ S.dropLast, c ≠ 45) ∧ (neg = false → S.head? ≠ some 33) ∧ S.length ≤ 6
theorem pcs_snd (neg : Bool) (S : List Nat) : (pcs neg S).map (·.2) = S := by
  cases S with
  | nil => rfl
  | cons c r => simp [pcs, esc1, Function.comp_def]
theorem ck_ok {i : It} (h : i.ok) : i.ck.ok := by
  cases i with
  | q => trivial
  | set neg S =>
    obtain ⟨h1, h2, h3, h4, h5, h6⟩ := h
    cases S with
    | nil => exact absurd rfl h1
    | cons c r =>
      refine ⟨by simp [pcs], fun q hq he => ?_, fun q hq he => ?_, fun hn => ?_⟩
      · have : q.2 ∈ c :: r := by rw [← pcs_snd neg (c :: r)]; exact List.mem_map_of_mem hq
        have := h2 _ this
        intro e; rw [e] at this; simp at this
      · have : q.2 ∈ r := by
          simp only [pcs, List.tail_cons, List.mem_map] at hq
          obtain ⟨x, hx, rfl⟩ := hq
          exact hx
        exact h3 _ this
      · have hc := h2 c (.head _)
        simp only [pcs, ptxt_cons]
        split
        · simp
        · simp only [List.cons_append, List.nil_append, List.head?_cons]
          intro e; cases e; simp at hc
/-- a pattern's items: none is the star -/
noncomputable def itxt : Option It → List Nat
  | none => [42]
  | some i => i.txt
noncomputable def ptext (xs : List (Option It)) : List Nat := (xs.map itxt).flatten
theorem ptext_app (a b : List (Option It)) : ptext (a ++ b) = ptext a ++ ptext b := by simp [ptext]
noncomputable def tpos (xs : List (Option It)) (k : Nat) : Nat := (ptext (xs.take k)).length
theorem tpos_drop {xs : List (Option It)} {k : Nat} {x : Option It} (h : xs[k]? = some x) : (ptext xs).drop (tpos xs k) = itxt x ++ ptext (xs.drop (k + 1)) := by
  have hk := (List.getElem?_eq_some_iff.mp h).1
  have e0 : xs.drop k = x :: xs.drop (k + 1) := by
    rw [List.drop_eq_getElem_cons hk]; rw [List.getElem?_eq_getElem hk] at h; rw [Option.some.inj h]
  have e : ptext xs = ptext (xs.take k) ++ ptext (xs.drop k) := by rw [← ptext_app, List.take_append_drop]
  unfold tpos
  rw [e, List.drop_append_of_le_length (Nat.le_refl _), List.drop_length, List.nil_append, e0]
  rfl
theorem tpos_succ {xs : List (Option It)} {k : Nat} {x : Option It} (h : xs[k]? = some x) : tpos xs (k + 1) = tpos xs k + (itxt x).length := by
  unfold tpos
  rw [List.take_add_one, h, ptext_app, List.length_append]
  simp [ptext]
theorem tpos_le (xs : List (Option It)) (k : Nat) : tpos xs k ≤ (ptext xs).length := by
  have e : ptext xs = ptext (xs.take k) ++ ptext (xs.drop k) := by rw [← ptext_app, List.take_append_drop]
  rw [e, List.length_append]; exact Nat.le_add_right _ _
theorem tpos_all (xs : List (Option It)) : tpos xs xs.length = (ptext xs).length := by unfold tpos; rw [List.take_length]
/-- what the list of parts holds behind k items -/
noncomputable def OutIs (st : Addr) (x : Option It) (v : Value) : Prop := match x with
  | none => v = .ref st
  | some i => ∃ t, v = .str (SL i.ck.txt) t
inductive Outs (st : Addr) : List (Option It) → List Value → Prop
  | nil : Outs st [] []
  | snoc {xs : List (Option It)} {vs : List Value} {x : Option It} {v : Value} : Outs st xs vs → OutIs st x v → Outs st (xs ++ [x]) (vs ++ [v])
theorem Outs.len {st : Addr} {xs : List (Option It)} {vs : List Value} (h : Outs st xs vs) : vs.length = xs.length := by
  induction h with
  | nil => rfl
  | snoc _ _ ih => simp [ih]
theorem Outs.more {st : Addr} {xs : List (Option It)} {vs : List Value} {k : Nat} {x : Option It} {v : Value} (h : Outs st (xs.take k) vs) (hx : xs[k]? = some x) (hv : OutIs st x v) : Outs st (xs.take (k + 1)) (vs ++ [v]) := by
  rw [List.take_add_one, hx]; exact .snoc h hv
theorem itxt_len {i : It} (h : i.ok) : i.txt.length ≤ 9 := by
  cases i with
  | q => decide
  | set neg S =>
    obtain ⟨_, _, _, _, _, h6⟩ := h
    cases neg <;> simp [It.txt] <;> omega
theorem ptext_len {a b : It} (ha : a.ok) (hb : b.ok) : (ptext [some a, none, some b]).length ≤ 100 := by
  have := itxt_len ha
  have := itxt_len hb
  simp [ptext, itxt]; omega
theorem outs_one {st : Addr} {i : It} {v : Value} (h : Outs st [some i] [v]) : ∃ t, v = .str (SL i.ck.txt) t := by
  generalize hx : [some i] = X at h
  generalize hv : [v] = V at h
  cases h with
  | nil => cases hx
  | snoc h1 h2 =>
    have a := List.append_inj' (s₁ := []) hx rfl
    have b := List.append_inj' (s₁ := []) hv rfl
    cases a.2; cases b.2
    exact h2
end Mine
namespace Mine
open PySem PySem.W PyProof.Rows PySem.Calls
/-- while and for loops whose turns may make generators -/
noncomputable def WStep (h₀ : Heap) (L : Addr) (s : Shared) (J : Nat → (Str → Option Value) → List (Addr × Obj) → Prop) (Q : Flow → Shared → Prop) (n : Nat) (f : Flow) (s₃ : Shared) : Prop :=
  match f with
  | .next | .cont => ∃ h' tk gs m₂ news₂ n', s₃ = { s with heap := h', toks := tk, gens := gs } ∧ (AllBare s.gens → AllBare gs) ∧ Fr h₀ L h' m₂ ∧ News h₀ L h' news₂ ∧ n' < n ∧ J n' m₂ news₂
  | .brk => Q .next s₃
  | .ret v => Q (.ret v) s₃
section
variable {prog : Program} {w : World} {A : Around} {E : Value → Shared → Prop} {Q : Flow → Shared → Prop} {s : Shared} {env : Env} {h₀ : Heap} {L : Addr}
theorem While_g {test : Expr} {body : List Stmt} {pos : Pos} {m : Str → Option Value} {news : List (Addr × Obj)} (J : Nat → (Str → Option Value) → List (Addr × Obj) → Prop) {n₀ : Nat}
    (F : Fr h₀ L s.heap m) (N : News h₀ L s.heap news) (hJ : J n₀ m news)
    (turn : ∀ n m₁ news₁ h₁ tk₁ gs₁, (AllBare s.gens → AllBare gs₁) → Fr h₀ L h₁ m₁ → News h₀ L h₁ news₁ → J n m₁ news₁ →
      wpAny (model prog w) A (isTrue test env (eval test env)) (fun b s₂ =>
        if b = true then wpAny (model prog w) A (execs body env) (WStep h₀ L s J Q n) E s₂ else Q .next s₂) E { s with heap := h₁, toks := tk₁, gens := gs₁ })
    (hE : PassesOwn (model prog w) A env E := by passes_own) :
    wpAny (model prog w) A (exec (.While test body [] pos) env) Q E s := by
  refine wpAny_While (codeAny_whileLoop (fun n s' => ∃ h₁ tk₁ gs₁ m₁ news₁, s' = { s with heap := h₁, toks := tk₁, gens := gs₁ } ∧ (AllBare s.gens → AllBare gs₁) ∧ Fr h₀ L h₁ m₁ ∧ News h₀ L h₁ news₁ ∧ J n m₁ news₁) ?_ n₀ ⟨s.heap, s.toks, s.gens, m, news, rfl, id, F, N, hJ⟩)
  rintro n s' ⟨h₁, tk₁, gs₁, m₁, news₁, rfl, B₁, F₁, N₁, J₁⟩
  refine wpAny_mono (turn n m₁ news₁ h₁ tk₁ gs₁ B₁ F₁ N₁ J₁) (fun b s₂ h₂ => ?_) hE
  cases b with
  | false =>
    simp only [Bool.false_eq_true, if_false] at h₂ ⊢
    exact wpAny_execs_nil h₂
  | true =>
    simp only [if_true] at h₂ ⊢
    refine wpAny_mono h₂ (fun f s₃ h₃ => ?_) hE
    cases f with
    | next =>
      obtain ⟨h', tk, gs, m₂, news₂, n', rfl, B₂, F₂, N₂, hn, J₂⟩ := h₃
      exact ⟨n', hn, h', tk, gs, m₂, news₂, rfl, B₂, F₂, N₂, J₂⟩
    | cont =>
      obtain ⟨h', tk, gs, m₂, news₂, n', rfl, B₂, F₂, N₂, hn, J₂⟩ := h₃
      exact ⟨n', hn, h', tk, gs, m₂, news₂, rfl, B₂, F₂, N₂, J₂⟩
    | brk => exact h₃
    | ret v => exact h₃
/-- While_g, the posts hidden behind variables -/
theorem While_h {test : Expr} {body : List Stmt} {pos : Pos} {m : Str → Option Value} {news : List (Addr × Obj)} (J : Nat → (Str → Option Value) → List (Addr × Obj) → Prop) {n₀ : Nat}
    (F : Fr h₀ L s.heap m) (N : News h₀ L s.heap news) (hJ : J n₀ m news)
    (turn : ∀ n m₁ news₁ h₁ tk₁ gs₁, (AllBare s.gens → AllBare gs₁) → Fr h₀ L h₁ m₁ → News h₀ L h₁ news₁ → J n m₁ news₁ →
      ∀ (Qb : Flow → Shared → Prop) (Qe : Shared → Prop), (∀ f s₃, WStep h₀ L s J Q n f s₃ → Qb f s₃) → (∀ s₃, Q .next s₃ → Qe s₃) →
      wpAny (model prog w) A (isTrue test env (eval test env)) (fun b s₂ =>
        if b = true then wpAny (model prog w) A (execs body env) Qb E s₂ else Qe s₂) E { s with heap := h₁, toks := tk₁, gens := gs₁ })
    (hE : PassesOwn (model prog w) A env E := by passes_own) :
    wpAny (model prog w) A (exec (.While test body [] pos) env) Q E s :=
  While_g J F N hJ (fun n m₁ news₁ h₁ tk₁ gs₁ a b c d => turn n m₁ news₁ h₁ tk₁ gs₁ a b c d _ _ (fun _ _ x => x) (fun _ x => x)) hE
theorem WStep.next {h' : Heap} {J : Nat → (Str → Option Value) → List (Addr × Obj) → Prop} {n n' tk : Nat} {gs : Array GenState} {m₂ : Str → Option Value} {news₂ : List (Addr × Obj)}
    (B : AllBare s.gens → AllBare gs) (F : Fr h₀ L h' m₂) (N : News h₀ L h' news₂) (hn : n' < n) (hJ : J n' m₂ news₂) : WStep h₀ L s J Q n .next { s with heap := h', toks := tk, gens := gs } :=
  ⟨h', tk, gs, m₂, news₂, n', rfl, B, F, N, hn, hJ⟩

/-- the end of a turn -/
noncomputable def SEnd (h₀ : Heap) (L I : Addr) (oI : Obj) (Jn : (Str → Option Value) → List (Addr × Obj) → Prop) (s₂ : Shared) (f : Flow) (s₄ : Shared) : Prop :=
  (f = .next ∨ f = .cont) ∧ ∃ h' tk' gs' m₂ news₂, s₄ = { s₂ with heap := h', toks := tk', gens := gs' } ∧ (AllBare s₂.gens → AllBare gs') ∧ Fr h₀ L h' m₂ ∧ News h₀ L h' ((I, oI) :: news₂) ∧ Jn m₂ news₂
theorem SEnd.next {h₀ h' : Heap} {L I : Addr} {oI : Obj} {Jn : (Str → Option Value) → List (Addr × Obj) → Prop} {s₂ : Shared} {tk' : Nat} {gs' : Array GenState} {m₂ : Str → Option Value} {news₂ : List (Addr × Obj)}
    (B : AllBare s₂.gens → AllBare gs') (F : Fr h₀ L h' m₂) (N : News h₀ L h' ((I, oI) :: news₂)) (j : Jn m₂ news₂) : SEnd h₀ L I oI Jn s₂ .next { s₂ with heap := h', toks := tk', gens := gs' } := ⟨.inl rfl, h', tk', gs', m₂, news₂, rfl, B, F, N, j⟩
structure ForG (prog : Program) (w : World) (A : Around) (env : Env) (h₀ : Heap) (target : Expr) (body : List Stmt) (Q : Flow → Shared → Prop) (I : Addr) (fp : List Addr) (n : Nat) (P : Nat → Value → Prop) (St : Nat → Heap → Prop)
    (J : Nat → (Str → Option Value) → List (Addr × Obj) → Prop) (m : Str → Option Value) (news : List (Addr × Obj)) (s₂ : Shared) : Prop where
  W : Walks prog w A I fp [I] n P St
  st : St 0 s₂.heap
  fr : Fr h₀ env.locals s₂.heap m
  nw : News h₀ env.locals s₂.heap news
  ini : J 0 m news
  fresh : h₀.get? I = none
  ne : env.locals ≠ I
  off : ∀ i m' news', J i m' news' → ∀ p ∈ news', p.1 ≠ I
  src : ∀ b ∈ fp, b = I ∨ ∃ o, ∀ i m' news' h', J i m' news' → Fr h₀ env.locals h' m' → News h₀ env.locals h' news' → h'.get? b = some o
  go : ∀ i (s' : Shared) v (Q' : Unit → Shared → Prop), St i s'.heap → Q' () s' → wpAny (model prog w) A (letOwnedTupleGo target (.ref I) v) Q' (fun _ _ => False) s'
  has : ∀ i h, St i h → ∃ o, h.get? I = some o
  mem : I ∈ fp
  step : ∀ i v oI m₁ news₁ h₁ tk₁ gs₁, (AllBare s₂.gens → AllBare gs₁) → i < n → P i v → J i m₁ news₁ → Fr h₀ env.locals h₁ m₁ → News h₀ env.locals h₁ ((I, oI) :: news₁) →
    wpAny (model prog w) A (assign target env v) (fun _ s₃ => wpAny (model prog w) A (execs body env) (SEnd h₀ env.locals I oI (J (i + 1)) s₂) (fun _ _ => False) s₃) (fun _ _ => False) { s₂ with heap := h₁, toks := tk₁, gens := gs₁ }
  fin : ∀ h' tk' gs' m' news', (AllBare s₂.gens → AllBare gs') → Fr h₀ env.locals h' m' → News h₀ env.locals h' news' → J n m' news' → Q .next { s₂ with heap := h', toks := tk', gens := gs' }
inductive ForInG (prog : Program) (w : World) (A : Around) (env : Env) (h₀ : Heap) (target : Expr) (body : List Stmt) (Q : Flow → Shared → Prop) (it : Value) (s₂ : Shared) : Prop
  | mk (I : Addr) (fp : List Addr) (n : Nat) (P : Nat → Value → Prop) (St : Nat → Heap → Prop) (J : Nat → (Str → Option Value) → List (Addr × Obj) → Prop) (m : Str → Option Value) (news : List (Addr × Obj)) (h1 : it = .ref I) (X : ForG prog w A env h₀ target body Q I fp n P St J m news s₂) : ForInG prog w A env h₀ target body Q it s₂
theorem for_g {target iter : Expr} {pos : Pos} {body : List Stmt} (h₀ : Heap)
    (h : wpAny (model prog w) A (eval iter env) (fun xv s₁ => wpAny (model prog w) A (pyIter xv) (ForInG prog w A env h₀ target body Q) E s₁) E s)
    (hs : ∀ x, foldedSetIterable iter env x = pure x) :
    wpAny (model prog w) A (exec (.For target iter body [] pos) env) Q E s := by
  refine wpAny_For (wpAny_mono h (fun xv s₁ h₁ => wpAny_mono h₁ (fun it s₂ h₂ => ?_) fun _ _ e => e) fun _ _ e => e) hs
  obtain ⟨I, fp, n, P, St, J, m, news, rfl, X⟩ := h₂
  refine codeAny_forLoop_any
    (fun k s' => ∃ h' tk gs m' news' i, s' = { s₂ with heap := h', toks := tk, gens := gs } ∧ (AllBare s₂.gens → AllBare gs) ∧ St i h' ∧ Fr h₀ env.locals h' m' ∧ News h₀ env.locals h' news' ∧ J i m' news' ∧ i ≤ n ∧ k = n + 1 - i) ?_ (n + 1)
    ⟨s₂.heap, s₂.toks, s₂.gens, m, news, 0, rfl, id, X.st, X.fr, X.nw, X.ini, Nat.zero_le _, rfl⟩
  rintro k s' ⟨h', tk, gs, m', news', i, rfl, B', hst', F', N', hJ, hi, rfl⟩
  have next : ∀ h₁ : Heap, (∀ b o, b ∉ [I] → h'.get? b = some o → h₁.get? b = some o) → Fr h₀ env.locals h₁ m' ∧ News h₀ env.locals h₁ news' := fun h₁ hk₁ =>
    ⟨⟨F'.ns.at' fun o e => hk₁ _ o (by simpa using X.ne) e, fun b o e => hk₁ b o (fun hb => by rw [List.mem_singleton.mp hb, X.fresh] at e; cases e) (F'.keep b o e), F'.above⟩,
      fun p hp => ⟨hk₁ _ _ (by simpa using X.off _ _ _ hJ p hp) (N' p hp).1, (N' p hp).2⟩⟩
  by_cases hlt : i < n
  · refine X.W.item i _ _ _ hlt hst' fun v h₁ tk₁ hP hst₁ hk₁ => ?_
    obtain ⟨F₁, N₁⟩ := next h₁ hk₁
    obtain ⟨oI, hoI⟩ := X.has _ _ hst₁
    have N₂ : News h₀ env.locals h₁ ((I, oI) :: news') := fun p hp => by
      rcases List.mem_cons.mp hp with rfl | hp
      · exact ⟨hoI, X.ne.symm, X.fresh⟩
      · exact N₁ p hp
    refine wpAny_mono (X.go (i + 1) _ v _ hst₁ ?_) (fun _ _ x => x) (fun _ _ x => x.elim)
    refine wpAny_mono (X.step i v oI m' news' h₁ tk₁ gs B' hlt hP hJ F₁ N₂) (fun _ s₃ h₃ => wpAny_mono h₃ (fun f s₄ h₄ => ?_) (fun _ _ x => x.elim)) (fun _ _ x => x.elim)
    obtain ⟨hf, h₅, tk₅, gs₅, m₂, news₂, rfl, B₅, F₅, N₅, J₅⟩ := h₄
    have res : ∃ m, m < n + 1 - i ∧ ∃ h'' tk gs m' news' i, ({ s₂ with heap := h₅, toks := tk₅, gens := gs₅ } : Shared) = { s₂ with heap := h'', toks := tk, gens := gs } ∧ (AllBare s₂.gens → AllBare gs) ∧ St i h'' ∧ Fr h₀ env.locals h'' m' ∧ News h₀ env.locals h'' news' ∧ J i m' news' ∧ i ≤ n ∧ m = n + 1 - i := by
      refine ⟨n + 1 - (i + 1), by omega, h₅, tk₅, gs₅, m₂, news₂, i + 1, rfl, B₅, X.W.frame _ _ _ hst₁ fun b hb o e => ?_, F₅, fun p hp => N₅ p (.tail _ hp), J₅, hlt, rfl⟩
      rcases X.src b hb with rfl | ⟨o', ho'⟩
      · rw [hoI] at e; cases e; exact (N₅ _ (.head _)).1
      · have e1 := ho' _ _ _ _ hJ F₁ N₁
        rw [e] at e1; cases e1
        exact ho' _ _ _ _ J₅ F₅ fun p hp => N₅ p (.tail _ hp)
    rcases hf with rfl | rfl
    · exact res
    · exact res
  · have hin : i = n := by omega
    subst hin
    refine X.W.done _ _ _ hst' fun h₁ tk₁ hk₁ => wpAny_execs_nil ?_
    obtain ⟨F₁, N₁⟩ := next h₁ hk₁
    exact X.fin h₁ tk₁ gs m' news' B' F₁ N₁ hJ
end
/-- a wish: pass by as many ifs as the list is long, and stop at the next -/
noncomputable def WantIf (_ : List Unit) : Prop := True
theorem wantIf (l : List Unit) : WantIf l := trivial
theorem WantIf.less {l : List Unit} {u : Unit} (_ : WantIf (u :: l)) : WantIf l := trivial
/-- a wish to stop at the next assignment of a conditional -/
noncomputable def WantAs : Prop := True
theorem wantAs : WantAs := trivial
end Mine
local macro_rules | `(tactic| walk_at "exec Assign cons IfExp") => `(tactic| ((with_reducible rename Mine.WantAs => kws); clear kws; refine Mine.of_stop ?_))
local macro_rules | `(tactic| walk_at "exec If") => `(tactic| first
  | ((with_reducible rename Mine.WantIf [] => kws); clear kws; refine Mine.of_stop ?_)
  | ((with_reducible rename Mine.WantIf (_ :: _) => kws); replace kws := Mine.WantIf.less kws; refine wpAny_If ?_))
namespace Mine
open PySem PySem.W PyProof.Rows PySem.Calls
/-- a statement's end, told by what its frame and its ledger hold -/
noncomputable def Mid (h₀ : Heap) (L : Addr) (s : Shared) (P : (Str → Option Value) → List (Addr × Obj) → Prop) (f : Flow) (s₃ : Shared) : Prop :=
  f = .next ∧ ∃ h' tk gs m news, s₃ = { s with heap := h', toks := tk, gens := gs } ∧ (AllBare s.gens → AllBare gs) ∧ Fr h₀ L h' m ∧ News h₀ L h' news ∧ P m news
theorem Mid.intro {h₀ h' : Heap} {L : Addr} {s : Shared} {P : (Str → Option Value) → List (Addr × Obj) → Prop} {tk : Nat} {gs : Array GenState} {m : Str → Option Value} {news : List (Addr × Obj)}
    (B : AllBare s.gens → AllBare gs) (F : Fr h₀ L h' m) (N : News h₀ L h' news) (h : P m news) : Mid h₀ L s P .next { s with heap := h', toks := tk, gens := gs } := ⟨rfl, h', tk, gs, m, news, rfl, B, F, N, h⟩
theorem mid_cut {M : Model} {A : Around} {E : Value → Shared → Prop} {s₁ : Shared} {env : Env} {st : Stmt} {Q : Flow → Shared → Prop} (h₀ : Heap) (L : Addr) (s : Shared) (P : (Str → Option Value) → List (Addr × Obj) → Prop)
    (h1 : wpAny M A (exec st env) (Mid h₀ L s P) E s₁)
    (h2 : ∀ h' tk gs m news, (AllBare s.gens → AllBare gs) → Fr h₀ L h' m → News h₀ L h' news → P m news → Q .next { s with heap := h', toks := tk, gens := gs }) : wpAny M A (exec st env) Q E s₁ :=
  wpAny_mono h1 (fun f s₃ ⟨hf, h', tk, gs, m, news, hs, B, F, N, hP⟩ => by subst hf hs; exact h2 h' tk gs m news B F N hP) fun _ _ e => e
/-- mid_cut, the end hidden behind a variable -/
theorem mid_h {M : Model} {A : Around} {E : Value → Shared → Prop} {s₁ : Shared} {env : Env} {st : Stmt} {Q : Flow → Shared → Prop} (h₀ : Heap) (L : Addr) (s : Shared) (P : (Str → Option Value) → List (Addr × Obj) → Prop)
    (h1 : ∀ Qm : Flow → Shared → Prop, (∀ f s₃, Mid h₀ L s P f s₃ → Qm f s₃) → wpAny M A (exec st env) Qm E s₁)
    (h2 : ∀ h' tk gs m news, (AllBare s.gens → AllBare gs) → Fr h₀ L h' m → News h₀ L h' news → P m news → Q .next { s with heap := h', toks := tk, gens := gs }) : wpAny M A (exec st env) Q E s₁ :=
  mid_cut h₀ L s P (h1 _ fun _ _ x => x) h2
/-- the names that a turn of _translate keeps -/
structure Nm (T0 : List Nat) (st D q : Addr) (m : Str → Option Value) : Prop where
  n : ∃ t, m (Str.ofString "n") = some (.int (T0.length : Int) t)
  pat : ∃ t, m (Str.ofString "pat") = some (.str (SL T0) t)
  star : m (Str.ofString "STAR") = some (.ref st)
  qm : ∃ t, m (Str.ofString "QUESTION_MARK") = some (.str (SL [46]) t)
  res : m (Str.ofString "res") = some (.ref D)
  add : m (Str.ofString "add") = some (.ref q)

/-- a backslash ahead of each dash -/
noncomputable def escL (l : List Nat) : List Nat := l.flatMap fun c => if c = 45 then [92, 45] else [c]
theorem at_in {T0 U R : List Nat} {p : Nat} (h : T0.drop p = U ++ 93 :: R) {a : Nat} (ha : a < U.length) : T0[p + a]? = some (U[a]'ha) := by
  rw [at_of_drop h, List.getElem?_append_left ha, List.getElem?_eq_getElem]
theorem at_end {T0 U R : List Nat} {p : Nat} (h : T0.drop p = U ++ 93 :: R) : T0[p + U.length]? = some 93 := by
  rw [at_of_drop h, List.getElem?_append_right (Nat.le_refl _)]; simp
theorem end_lt {T0 U R : List Nat} {p : Nat} (h : T0.drop p = U ++ 93 :: R) : p + U.length < T0.length := by
  have := (List.getElem?_eq_some_iff.mp (at_end h)).1; exact this
theorem set_slice {T0 U R : List Nat} {p : Nat} (h : T0.drop p = U ++ 93 :: R) : Txt.slice (SL T0) (some (p : Int)) (some ((p + U.length : Nat) : Int)) = SL U := by
  have := end_lt h
  rw [slice_nat (by omega), Int.toNat_natCast, show (((p + U.length : Nat) : Int) - (p : Int)).toNat = U.length by omega, h, List.take_left']
  rfl
theorem slice_mid {T0 V R : List Nat} {p : Nat} (h : T0.drop p = V ++ R) (hp : p ≤ T0.length) : Txt.slice (SL T0) (some (p : Int)) (some ((p + V.length : Nat) : Int)) = SL V := by
  have h1 : (T0.drop p).length = V.length + R.length := by rw [h, List.length_append]
  rw [List.length_drop] at h1
  rw [slice_nat (by omega), Int.toNat_natCast, show (((p + V.length : Nat) : Int) - (p : Int)).toNat = V.length by omega, h, List.take_left']
  rfl
/-- no closing sign behind the first two places -/
theorem no_close {neg : Bool} {S U : List Nat} (hU : U = (if neg then [33] else []) ++ S) (h3 : ∀ c ∈ S.tail, c ≠ 93) {a : Nat} (ha : a < U.length)
    (hb : (if neg then 1 else 0) + (if S.head? = some 93 then 1 else 0) ≤ a) : U[a]'ha ≠ 93 := by
  intro e
  have e1 : U[a]? = some 93 := by rw [List.getElem?_eq_getElem ha, e]
  have key : ∀ b : Nat, S[b]? = some 93 → (if S.head? = some 93 then 1 else 0) ≤ b → False := by
    intro b hb1 hb2
    cases S with
    | nil => simp at hb1
    | cons x r =>
      cases b with
      | zero => simp at hb1; subst hb1; simp at hb2
      | succ b => exact h3 93 (List.mem_of_getElem? (i := b) (by simpa using hb1)) rfl
  rw [hU] at e1
  cases neg with
  | false => exact key a (by simpa using e1) (by simpa using hb)
  | true =>
    cases a with
    | zero => simp at e1
    | succ a => exact key a (by simpa using e1) (by simp at hb; omega)
theorem ptxt_esc (l : List Nat) : ptxt (l.map esc1) = escL l := by
  induction l with
  | nil => rfl
  | cons a r ih =>
    rw [List.map_cons, ptxt_cons, ih]
    show (if (a == 45) = true then [92, a] else [a]) ++ escL r = (if a = 45 then [92, 45] else [a]) ++ escL r
    by_cases h : a = 45
    · subst h; rfl
    · simp [h]
theorem ptxt_pcs (neg : Bool) (sh : Nat) (sr : List Nat) : ptxt (pcs neg (sh :: sr)) = if sh = 91 ∧ neg = false then 92 :: escL (sh :: sr) else escL (sh :: sr) := by
  show (if ((sh == 45) || (sh == 91 && !neg)) = true then [92, sh] else [sh]) ++ ptxt (sr.map esc1) = _
  rw [ptxt_esc]
  have e : escL (sh :: sr) = (if sh = 45 then [92, 45] else [sh]) ++ escL sr := rfl
  rw [e]
  by_cases h : sh = 45
  · subst h; simp
  · by_cases h2 : sh = 91
    · subst h2; cases neg <;> simp
    · simp [h, h2]
theorem escL_mem {l : List Nat} {c : Nat} (h : c ∈ escL l) : c = 92 ∨ c ∈ l := by
  obtain ⟨a, ha, hc⟩ := List.mem_flatMap.mp h
  by_cases e : a = 45
  · rw [if_pos e] at hc
    simp at hc
    rcases hc with rfl | rfl
    · exact .inl rfl
    · exact .inr (e ▸ ha)
  · rw [if_neg e] at hc
    rw [List.mem_singleton.mp hc]; exact .inr ha
theorem escL_len2 (a : List Nat) : a.length ≤ (escL a).length ∧ (escL a).length ≤ 2 * a.length := by
  induction a with
  | nil => exact ⟨Nat.le_refl _, Nat.le_refl _⟩
  | cons x r ih =>
    show _ ≤ ((if x = 45 then [92, 45] else [x]) ++ escL r).length ∧ ((if x = 45 then [92, 45] else [x]) ++ escL r).length ≤ _
    rw [List.length_append, List.length_cons]
    have : (if x = 45 then [92, 45] else [x] : List Nat).length ≤ 2 := by split <;> simp
    have : 1 ≤ (if x = 45 then [92, 45] else [x] : List Nat).length := by split <;> simp
    omega
/-- the first sign of an escaped set -/
theorem escL_head (sh : Nat) (sr : List Nat) : escL (sh :: sr) = (if sh = 45 then 92 else sh) :: (if sh = 45 then 45 :: escL sr else escL sr) := by
  show (if sh = 45 then [92, 45] else [sh]) ++ escL sr = _
  by_cases h : sh = 45
  · simp [h]
  · simp [h]
theorem slice_from_one (v0 : Nat) (vr : List Nat) : Txt.slice (SL (v0 :: vr)) (some 1) none = SL vr := by
  have e : Builtin.Str.strSliceIndices (some 1) none 1 (SL (v0 :: vr)).length = Builtin.Str.strSliceIndices (some 1) (some ((v0 :: vr).length : Int)) 1 (SL (v0 :: vr)).length := by
    rw [SL_len]
    unfold Builtin.Str.strSliceIndices
    have b : ¬ (((v0 :: vr).length : Int) < 0) := by omega
    have c : max (0 : Int) (min ((v0 :: vr).length : Int) ((v0 :: vr).length : Int)) = ((v0 :: vr).length : Int) := by omega
    simp only [b, if_false, c, show (1 : Int) > 0 by decide, if_true]
  have e2 : Txt.slice (SL (v0 :: vr)) (some 1) none = Txt.slice (SL (v0 :: vr)) (some 1) (some ((v0 :: vr).length : Int)) := by
    show StrLaws.sliceText _ _ _ = StrLaws.sliceText _ _ _
    unfold StrLaws.sliceText
    rw [e]
  rw [e2, slice_nat (by simp; omega)]
  congr 1
  simp
theorem ck_txt_t (sh : Nat) (sr : List Nat) : (It.set true (sh :: sr)).ck.txt = 91 :: 94 :: (escL (sh :: sr) ++ [93]) := by
  show 91 :: ([94] ++ (ptxt (pcs true (sh :: sr)) ++ [93])) = _
  rw [ptxt_pcs, if_neg (by simp)]
  rfl
theorem ck_txt_b (sr : List Nat) : (It.set false (91 :: sr)).ck.txt = 91 :: 92 :: (escL (91 :: sr) ++ [93]) := by
  show 91 :: ([] ++ (ptxt (pcs false (91 :: sr)) ++ [93])) = _
  rw [ptxt_pcs, if_pos ⟨rfl, rfl⟩]
  rfl
theorem ck_txt_f {sh : Nat} (sr : List Nat) (h : sh ≠ 91) : (It.set false (sh :: sr)).ck.txt = 91 :: (escL (sh :: sr) ++ [93]) := by
  show 91 :: ([] ++ (ptxt (pcs false (sh :: sr)) ++ [93])) = _
  rw [ptxt_pcs, if_neg (fun q => h q.1)]
  rfl
theorem any_two {v0 : Nat} (h1 : ¬ ([v0] = [94])) (h2 : ¬ ([v0] = [91])) : ([SL [94], SL [91]].any fun x => x == SL [v0]) = false := by
  have e1 : (SL [94] == SL [v0]) = false := by
    rw [beq_eq_false_iff_ne]; intro e; exact h1 (SL_inj.mp e).symm
  have e2 : (SL [91] == SL [v0]) = false := by
    rw [beq_eq_false_iff_ne]; intro e; exact h2 (SL_inj.mp e).symm
  simp [e1, e2]
theorem dash_last {S : List Nat} (h1 : S ≠ []) (h4 : ∀ c ∈ S.dropLast, c ≠ 45) (h : 45 ∈ S) : S = S.dropLast ++ [45] := by
  have e := List.dropLast_concat_getLast h1
  have e2 : S.getLast h1 = 45 := by
    rw [← e] at h
    rcases List.mem_append.mp h with q | q
    · exact absurd rfl (h4 45 q)
    · exact (List.mem_singleton.mp q).symm
  rw [e2] at e
  exact e.symm
theorem dash_in {neg : Bool} {S U : List Nat} (hU : U = (if neg then [33] else []) ++ S) (h : 45 ∈ U) : 45 ∈ S := by
  rw [hU] at h
  rcases List.mem_append.mp h with q | q
  · cases neg <;> simp at q
  · exact q
theorem no_back {neg : Bool} {S U : List Nat} (hU : U = (if neg then [33] else []) ++ S) (h2 : ∀ c ∈ S, c ∈ [93, 47, 42, 91, 33, 45]) : 92 ∉ U := by
  intro h
  rw [hU] at h
  rcases List.mem_append.mp h with q | q
  · cases neg <;> simp at q
  · have := h2 _ q; simp at this
/-- the text of a set, as _translate writes it -/
noncomputable def wrapL (W : List Nat) : List Nat := if W.head? = some 33 then 94 :: W.tail else if W.head? = some 94 ∨ W.head? = some 91 then 92 :: W else W
end Mine
namespace Mine
open PySem PySem.W PyProof.Rows PySem.Calls
/-- what holds between two turns of _translate -/
inductive TrJ (T0 : List Nat) (xs : List (Option It)) (st : Addr) (n : Nat) (m : Str → Option Value) (news : List (Addr × Obj)) : Prop
  | mk (k : Nat) (z : Int) (t1 t2 t3 t4 : Tok) (D q : Addr) (kk : Nat) (vs : List Value) (op' : Obj) (h1 : k ≤ 3) (h2 : n = 3 - k) (h3 : m (Str.ofString "i") = some (.int z t1)) (h4 : z = ((tpos xs k : Nat) : Int))
      (h5 : m (Str.ofString "n") = some (.int (T0.length : Int) t2)) (h6 : m (Str.ofString "pat") = some (.str (SL T0) t3)) (h7 : m (Str.ofString "STAR") = some (.ref st)) (h8 : m (Str.ofString "QUESTION_MARK") = some (.str (SL [46]) t4))
      (h9 : m (Str.ofString "res") = some (.ref D)) (h10 : m (Str.ofString "add") = some (.ref q))
      (h11 : news = [(q, bmObj (.builtin "list.append") D), (D, W.listOf vs.toArray kk), (57, op')]) (h12 : @LT.lt Nat instLTNat D q) (h13 : @LT.lt Nat instLTNat 57 D) (h14 : Tab op') (h15 : Outs st (xs.take k) vs) : TrJ T0 xs st n m news
/-- between two statements: i and j -/
inductive MIJ (T0 : List Nat) (st D q : Addr) (N : List (Addr × Obj)) (p j : Nat) (m : Str → Option Value) (news : List (Addr × Obj)) : Prop
  | mk (h1 : Nm T0 st D q m) (h2 : ∃ t, m (Str.ofString "i") = some (.int (p : Int) t)) (h3 : ∃ zj t, m (Str.ofString "j") = some (.int zj t) ∧ zj = ((j : Nat) : Int)) (h4 : news = N) : MIJ T0 st D q N p j m news
/-- the loop that looks for the set's end -/
inductive WIJ (T0 : List Nat) (st D q : Addr) (N : List (Addr × Obj)) (p b2 ul : Nat) (n : Nat) (m : Str → Option Value) (news : List (Addr × Obj)) : Prop
  | mk (a : Nat) (h1 : b2 ≤ a) (h2 : a ≤ ul) (h3 : n = ul - a) (h4 : Nm T0 st D q m) (h5 : ∃ t, m (Str.ofString "i") = some (.int (p : Int) t)) (h6 : ∃ zj t, m (Str.ofString "j") = some (.int zj t) ∧ zj = ((p + a : Nat) : Int)) (h7 : news = N) : WIJ T0 st D q N p b2 ul n m news
/-- j and stuff -/
inductive MJS (T0 : List Nat) (st D q : Addr) (N : Obj → List (Addr × Obj)) (j : Nat) (S : List Nat) (m : Str → Option Value) (news : List (Addr × Obj)) : Prop
  | mk (h1 : Nm T0 st D q m) (h2 : ∃ zj t, m (Str.ofString "j") = some (.int zj t) ∧ zj = ((j : Nat) : Int)) (h3 : ∃ t, m (Str.ofString "stuff") = some (.str (SL S) t)) (h4 : ∃ op'', Tab op'' ∧ news = N op'') : MJS T0 st D q N j S m news
/-- i, j, k and chunks -/
inductive MIJK (T0 : List Nat) (st D q ch : Addr) (N : List (Addr × Obj)) (p j k : Nat) (m : Str → Option Value) (news : List (Addr × Obj)) : Prop
  | mk (h1 : Nm T0 st D q m) (h2 : ∃ t, m (Str.ofString "i") = some (.int (p : Int) t)) (h3 : ∃ zj t, m (Str.ofString "j") = some (.int zj t) ∧ zj = ((j : Nat) : Int)) (h4 : ∃ zk t, m (Str.ofString "k") = some (.int zk t) ∧ zk = ((k : Nat) : Int))
      (h5 : m (Str.ofString "chunks") = some (.ref ch)) (h6 : news = N) : MIJK T0 st D q ch N p j k m news
/-- the chunks cut -/
inductive MCH (T0 : List Nat) (st D q ch : Addr) (N : List (Addr × Obj)) (p : Nat) (zj : Int) (U0 : List Nat) (m : Str → Option Value) (news : List (Addr × Obj)) : Prop
  | mk (zi : Int) (vs' : List Value) (kx : Nat) (h1 : Nm T0 st D q m) (h2 : ∃ t, m (Str.ofString "i") = some (.int zi t)) (h3 : ∃ t, m (Str.ofString "j") = some (.int zj t)) (h4 : m (Str.ofString "chunks") = some (.ref ch))
      (h5 : (zi = (p : Int) ∧ vs' = []) ∨ (zi = zj ∧ ∃ t, vs' = [.str (SL U0) t])) (h6 : news = (ch, W.listOf vs'.toArray kx) :: N) : MCH T0 st D q ch N p zj U0 m news
/-- the loop over the dashes: none -/
inductive WC0 (T0 : List Nat) (st D q ch : Addr) (N : List (Addr × Obj)) (p : Nat) (zj zk : Int) (n : Nat) (m : Str → Option Value) (news : List (Addr × Obj)) : Prop
  | mk (h0 : n = 0) (h1 : Nm T0 st D q m) (h2 : ∃ t, m (Str.ofString "i") = some (.int (p : Int) t)) (h3 : ∃ t, m (Str.ofString "j") = some (.int zj t)) (h4 : ∃ t, m (Str.ofString "k") = some (.int zk t)) (h5 : m (Str.ofString "chunks") = some (.ref ch))
      (h6 : news = (ch, W.listOf #[] 0) :: N) : WC0 T0 st D q ch N p zj zk n m news
/-- the loop over the dashes: one -/
inductive WC1 (T0 : List Nat) (st D q ch : Addr) (N : List (Addr × Obj)) (p : Nat) (zj zk zu : Int) (U0 : List Nat) (n : Nat) (m : Str → Option Value) (news : List (Addr × Obj)) : Prop
  | mk (zi zk' : Int) (vs' : List Value) (kx : Nat) (h1 : Nm T0 st D q m) (h2 : ∃ t, m (Str.ofString "i") = some (.int zi t)) (h3 : ∃ t, m (Str.ofString "j") = some (.int zj t)) (h4 : ∃ t, m (Str.ofString "k") = some (.int zk' t)) (h5 : m (Str.ofString "chunks") = some (.ref ch))
      (h6 : (n = 1 ∧ zi = (p : Int) ∧ zk' = zk ∧ vs' = []) ∨ (n = 0 ∧ zi = zj ∧ zk' = zu + 3 ∧ ∃ t, vs' = [.str (SL U0) t]))
      (h7 : news = (ch, W.listOf vs'.toArray kx) :: N) : WC1 T0 st D q ch N p zj zk zu U0 n m news
/-- the chunks joined to one -/
inductive MC1 (T0 : List Nat) (st D q ch : Addr) (N : List (Addr × Obj)) (zj : Int) (U : List Nat) (m : Str → Option Value) (news : List (Addr × Obj)) : Prop
  | mk (tu : Tok) (kx : Nat) (h1 : Nm T0 st D q m) (h2 : ∃ t, m (Str.ofString "j") = some (.int zj t)) (h3 : m (Str.ofString "chunks") = some (.ref ch)) (h4 : news = (ch, W.listOf #[.str (SL U) tu] kx) :: N) : MC1 T0 st D q ch N zj U m news
end Mine
namespace Mine
open PySem PySem.W PyProof.Rows PySem.Calls PySem.Builtin PySem.Builtin.Str PySem.StrLaws
/-- find with both bounds -/
noncomputable def find4 (x y : PySem.Str) (i j : Int) : Int := match occurrences x y (fromIndex x.length i) (min (fromIndex x.length j) x.length) 1 with | k :: _ => (k : Int) | [] => -1
theorem gives_find4 (x y : PySem.Str) (i j : Int) (t u v v2 : Tok) : Gives («str.find» ⟨[.str x t, .str y u, .int i v, .int j v2], []⟩) (.int (find4 x y i j)) := by
  show Gives (match occurrences x y (fromIndex x.length i) (min (fromIndex x.length j) x.length) 1 with | k :: _ => retInt k | [] => (do rule "str.find.not-found"; retInt (-1))) _
  unfold find4
  cases occurrences x y (fromIndex x.length i) (min (fromIndex x.length j) x.length) 1 with
  | nil => exact .rule (.of_eq rfl)
  | cons k _ => exact .of_eq rfl
theorem occ_head_hi (x y : PySem.Str) (lo hi limit : Nat) (hl : 1 ≤ limit) :
    (occurrences x y lo hi limit = [] ∧ ∀ i, lo ≤ i → ¬ At x y hi i) ∨
    ∃ i r, occurrences x y lo hi limit = i :: r ∧ lo ≤ i ∧ At x y hi i ∧ ∀ k, lo ≤ k → k < i → ¬ At x y hi k := by
  rw [occ_eq]
  rcases occ_first x y hi limit hl (List.range' lo (hi + 1 - lo)) lo (fun i hi => by have := List.mem_range'_1.mp hi; omega) with ⟨h0, hn⟩ | ⟨pre, a, post, e, h0, ha, hn⟩
  · refine .inl ⟨by rw [h0], fun i hlo hi => ?_⟩
    exact hn i (by have := hi.1; rw [List.mem_range'_1]; omega) hi
  · have hs := range'_split_from e
    refine .inr ⟨a, ((forIn (List.range' lo (hi + 1 - lo)) ((#[] : Array Nat), lo) (occBody x y hi limit)).run.fst.toList).tail, ?_, hs.1, ha, fun k hk0 hk => hn k (hs.2 k hk0 hk)⟩
    generalize (forIn (List.range' lo (hi + 1 - lo)) ((#[] : Array Nat), lo) (occBody x y hi limit)).run.fst = arr at h0
    have h1 : arr.toList[0]? = some a := by simpa using h0
    cases hL : arr.toList with
    | nil => rw [hL] at h1; cases h1
    | cons b t => rw [hL] at h1; simp at h1; rw [h1]; rfl
theorem fromIndex_nat (n i : Nat) : fromIndex n (i : Int) = i := by unfold fromIndex; split <;> omega
theorem at_sign {l : List Nat} {c hi k : Nat} (hh : hi ≤ l.length) : At (SL l) (SL [c]) hi k ↔ k < hi ∧ l[k]? = some c := by
  have e : (SL [c]).length = 1 := rfl
  have e2 := subAt_one (SL l) c k
  have e3 : (SL l).length = l.length := SL_len l
  constructor
  · intro h
    have h1 := h.1
    exact ⟨by omega, e2.mp ⟨by show k + (SL [c]).length ≤ _; omega, h.2⟩⟩
  · intro h
    exact ⟨by omega, (e2.mpr h.2).2⟩
/-- nothing found -/
theorem find4_none {l : List Nat} {c i j : Nat} (hj : j ≤ l.length) (h : ∀ k, i ≤ k → k < j → l[k]? ≠ some c) : find4 (SL l) (SL [c]) (i : Int) (j : Int) = -1 := by
  unfold find4
  rw [fromIndex_nat, fromIndex_nat, SL_len, Nat.min_eq_left hj]
  rcases occ_head_hi (SL l) (SL [c]) i j 1 (Nat.le_refl 1) with ⟨h0, hn⟩ | ⟨k, r, h0, hlo, hk, hn⟩
  · rw [h0]
  · exfalso
    have hm := (at_sign hj).mp hk
    exact h k hlo hm.1 hm.2
/-- found at a place -/
theorem find4_some {l : List Nat} {c i j p : Nat} (hj : j ≤ l.length) (hp : i ≤ p) (hpj : p < j) (hc : l[p]? = some c) (h : ∀ k, i ≤ k → k < p → l[k]? ≠ some c) : find4 (SL l) (SL [c]) (i : Int) (j : Int) = (p : Int) := by
  unfold find4
  rw [fromIndex_nat, fromIndex_nat, SL_len, Nat.min_eq_left hj]
  rcases occ_head_hi (SL l) (SL [c]) i j 1 (Nat.le_refl 1) with ⟨h0, hn⟩ | ⟨k, r, h0, hlo, hk, hn⟩
  · exact absurd ((at_sign hj).mpr ⟨hpj, hc⟩) (hn p hp)
  · rw [h0]
    have hm := ((at_sign hj).mp hk).2
    have e : k = p := by
      rcases Nat.lt_trichotomy k p with q | q | q
      · exact absurd hm (h k hlo q)
      · exact q
      · exact absurd ((at_sign hj).mpr ⟨hpj, hc⟩) (hn p hp q)
    rw [e]
section
variable {prog : Program} {w : World} {A : Around} {E : Value → Shared → Prop} {s : Shared} {l : List Nat} {t u v v2 : Tok} {Q : Value → Shared → Prop}
theorem find4_SL {y : List Nat} {i j z : Int} (he : find4 (SL l) (SL y) i j = z) (hq : Q (.int z s.toks) { s with toks := s.toks + 1 }) :
    wpAny (model prog w) A (call (.builtin "str.find") [.str (SL l) t, .str (SL y) u, .int i v, .int j v2]) Q E s := by
  subst he
  exact call_gives F.slot_str_find (typeIs_str _ _ _) F.entry_str_find (F.args_str_find_4 _ _ _ _) (gives_find4 _ _ i j t u v v2) hq
theorem rep_none {c : Nat} {z : List Nat} (h : c ∉ l) (hq : Q (.str (SL l) t) s) :
    wpAny (model prog w) A (call (.builtin "str.replace") [.str (SL l) t, .str (SL [c]) u, .str (SL z) v]) Q E s := by
  have e : (occurrences (SL l) (SL [c]) 0 (SL l).length ((SL l).length + 1)).isEmpty = true := by
    rcases occ_head_hi (SL l) (SL [c]) 0 (SL l).length ((SL l).length + 1) (by omega) with ⟨h0, _⟩ | ⟨k, r, h0, hlo, hk, hn⟩
    · rw [h0]; rfl
    · exact absurd (List.mem_of_getElem? ((at_sign (by rw [SL_len]; exact Nat.le_refl _)).mp hk).2) h
  refine call_gives F.slot_str_replace (typeIs_str _ _ _) F.entry_str_replace (F.args_str_replace_3 _ _ _)
    (gives_str_replace (SL l) (SL [c]) (SL z) t u v fun hc => by rw [e] at hc; cases hc) ?_
  rw [e]
  exact hq
end
theorem escL_app (a b : List Nat) : escL (a ++ b) = escL a ++ escL b := by simp [escL]
theorem escL_len (a : List Nat) : (escL a).length ≤ 2 * a.length := by
  induction a with
  | nil => exact Nat.le_refl _
  | cons x r ih =>
    show ((if x = 45 then [92, 45] else [x]) ++ escL r).length ≤ _
    rw [List.length_append, List.length_cons]
    have : (if x = 45 then [92, 45] else [x] : List Nat).length ≤ 2 := by split <;> simp
    omega
theorem escL_free {a : List Nat} (h : 45 ∉ a) : escL a = a := by
  induction a with
  | nil => rfl
  | cons x r ih =>
    have h1 : ¬ x = 45 := fun e => h (e ▸ .head _)
    have h2 := ih fun m => h (.tail _ m)
    show (if x = 45 then [92, 45] else [x]) ++ escL r = x :: r
    rw [if_neg h1, h2]; rfl
theorem escL_join : ∀ parts : List PySem.Str, (∀ p ∈ parts, 45 ∉ p.cps.toList) → escL (Str.join (SL [45]) parts).cps.toList = (Str.join (SL [92, 45]) parts).cps.toList
  | [], _ => rfl
  | [p], h => escL_free (h p (List.mem_singleton.mpr rfl))
  | p :: q :: r, h => by
    have ih := escL_join (q :: r) fun a ha => h a (List.mem_cons_of_mem _ ha)
    show escL (p ++ SL [45] ++ Str.join (SL [45]) (q :: r)).cps.toList = (p ++ SL [92, 45] ++ Str.join (SL [92, 45]) (q :: r)).cps.toList
    simp only [Str.cps_append, Array.toList_append]
    rw [escL_app, escL_app, ih, escL_free (h p (List.mem_cons_self ..))]
    rfl
theorem rep_dash_eq (l : List Nat) : Txt.replace (SL l) (SL [45]) (SL [92, 45]) = SL (escL l) := by
  have e := escL_join (Txt.split (SL l) (SL [45])) (split_free (SL l) 45)
  have e1 : Str.join (SL [45]) (Txt.split (SL l) (SL [45])) = SL l := join_split _ _
  have e2 : Txt.replace (SL l) (SL [45]) (SL [92, 45]) = Str.join (SL [92, 45]) (Txt.split (SL l) (SL [45])) := replace_one _ _ _
  rw [e1] at e
  rw [e2]
  generalize Str.join (SL [92, 45]) (Txt.split (SL l) (SL [45])) = y at e
  cases y with
  | mk a => cases a with | mk b => exact congrArg SL (show b = escL l from e.symm)
section
variable {prog : Program} {w : World} {A : Around} {E : Value → Shared → Prop} {s : Shared} {l : List Nat} {t u v v2 : Tok} {Q : Value → Shared → Prop}
theorem rep_dash (hu : u ≠ 0) (hv : v ≠ 0) (huv : u ≠ v) (hx : l.length ≤ 10000) (hq : ∀ t' k, Q (.str (SL (escL l)) t') { s with toks := k }) :
    wpAny (model prog w) A (call (.builtin "str.replace") [.str (SL l) t, .str (SL [45]) u, .str (SL [92, 45]) v]) Q E s :=
  SC.replaceW hu hv huv (by rw [SL_beq]; decide) (by rw [SL_len]; omega) (by decide) (by rw [rep_dash_eq]; exact hq)
theorem truthy_SL {Q : Bool → Shared → Prop} (hx : l.length ≤ 10000) (h : Q (!decide (l = [])) { s with toks := s.toks + 1 + 1 }) : wpAny (model prog w) A (truthy (.str (SL l) t)) Q E s := by
  refine PySem.P.truthy_str (by rw [SL_len]; omega) ?_
  have e : (((SL l).length : Int) != 0) = !decide (l = []) := by
    rw [SL_len]
    cases l with
    | nil => rfl
    | cons a r =>
      have h2 : ((a :: r).length : Int) ≠ 0 := by rw [List.length_cons]; omega
      rw [bne_iff_ne.mpr h2]; simp
  rw [e]; exact h
end
end Mine
local macro_rules | `(tactic| walk_at "truthy str") => Mine.go [] 1 `Mine.truthy_SL ["hx", "_"] [("hx", "as|om|ll")] []
local macro_rules | `(tactic| walk_at "call builtin:str.find") => Mine.go [] 1 `Mine.find4_SL ["he", "_"] [("he", "as")] []
local macro_rules | `(tactic| walk_at "call builtin:str.replace") => Mine.firstOf' [Mine.go [] 1 `Mine.rep_none ["he", "_"] [("he", "as")] [],
  Mine.go [] 1 `Mine.rep_dash ["hu", "hv", "huv", "hx", "_"] [("hu", "gt"), ("hv", "gt"), ("huv", "lt"), ("hx", "asom")] ["i", "i"]]
namespace Mine
open PySem PySem.W PyProof.Rows PySem.Calls
section
variable {prog : Program} {w : World} {A : Around} {E : Value → Shared → Prop} {s : Shared} {g : Heap} {L a : Addr} {m mg : Str → Option Value} {cn : Str} {cs : Scope} {cl : List (Str × Addr)} {news : List (Addr × Obj)} {gg : Obj → List (Addr × Obj)} {op : Obj} {l l0 : List Nat}
theorem src_range0 {r : Addr} {a : Int} {t u v : Tok} {Q : Value → Shared → Prop} (hh : A.handled = none) (hr : IsRange s.heap r a 0 (-1) t u v) (ha : a = 0)
    (h : ∀ I h' St, I < h'.objs.size → s.heap.get? I = none ∧ s.heap.objs.size ≤ I → (∀ b o, s.heap.get? b = some o → h'.get? b = some o) →
      Walks prog w A I [I] [I] 0 (fun i v => ∃ t, v = .int ((0 : Int) + (i : Nat) * (-1)) t) St → St 0 h' → (∀ i h, St i h → ∃ o, h.get? I = some o) → Q (.ref I) { s with heap := h' }) : wpAny (model prog w) A (pyIter (.ref r)) Q E s := by
  subst ha
  refine wpAny_pyIter_range hr (by decide) (h _ _ _ ?_ ?_ ?_ (Walks.range hh _ 0 (-1) 0) ?_ (fun _ _ x => ⟨_, x⟩))
  · rw [Heap.size_push]; exact Nat.lt_succ_self _
  · exact ⟨Heap.get?_none_of_le (Nat.le_refl _), Nat.le_refl _⟩
  · exact fun b o e => Heap.get?_push_of_some _ e
  · exact Heap.get?_push_size _ rfl
/-- a generator over a list of one text, not begun -/
inductive GenJ (prog : Program) (w : World) (A : Around) (g : Heap) (L : Addr) (m : Str → Option Value) (news : List (Addr × Obj)) (l : List Nat) (a : Addr) (s : Shared) : Prop
  | mk (fp wr : List Addr) (G : Array GenState → Array GenState → Prop) (P : Nat → Value → Prop) (St : Nat → Shared → Prop) (h1 : WalksS prog w A.in4 a fp wr G 1 P St) (h2 : St 0 s) (h3 : ∀ i s', St i s' → s'.TypeIs (.ref a) "generator") (h4 : a ∈ fp) (h5 : ∀ b ∈ fp, b < s.heap.objs.size)
    (h6 : ∀ i v, P i v → ∃ u, v = Value.str (SL l) u) (h7 : ∀ s', Moved wr G s s' → (AllBare s.gens → AllBare s'.gens) ∧ Fr g L s'.heap m ∧ News g L s'.heap news) : GenJ prog w A g L m news l a s
theorem join_gen {sep : Str} {t : Tok} {q : Addr} {Q : Value → Shared → Prop} (X : GenJ prog w A g L m news l q s) (hl : l.length ≤ 10000) (hsep : sep.length ≤ 100)
    (hQ : ∀ h' t' k gs, (AllBare s.gens → AllBare gs) → Fr g L h' m → News g L h' news → Q (.str (SL l) t') { s with heap := h', toks := k, gens := gs }) :
    wpAny (model prog w) A (call (.builtin "str.join") [.str sep t, .ref q]) Q E s := by
  obtain ⟨fp, wr, G, P, St, W, hst, hT, ha, hfp, hP, hmv⟩ := X
  refine SC.joinGen W.in4_2 hT hst hfp ha (fun j v hv => let ⟨u, e⟩ := hP j v hv; ⟨_, u, e⟩) (fun s' lt hm hacc => ?_) (by decide)
  obtain ⟨u, rfl⟩ : ∃ u, lt = [(SL l, u)] := by
    have hsz : lt.length = 1 := by simpa [strValues] using hacc.1
    obtain ⟨⟨x, u⟩, rfl⟩ := List.length_eq_one_iff.mp hsz
    obtain ⟨u', hv⟩ := hP 0 _ (hacc.2 0 (.str x u) rfl)
    cases hv
    exact ⟨u, rfl⟩
  obtain ⟨hb, hF, hN⟩ := hmv s' hm
  refine ⟨?_, fun t' k => ?_⟩
  · unfold JoinOk
    have e : Builtin.Str.tooLong (List.foldl (fun a p => a + p.length + sep.length) 0 [SL l].toArray.toList) = false := by
      unfold Builtin.Str.tooLong
      refine decide_eq_false ?_
      show ¬ 0 + (SL l).length + sep.length > sizeLine
      rw [SL_len, sizeLine_eq]; omega
    simpa using e
  · have e1 := hm.drawn
    have e2 := hm.os
    obtain ⟨h', gs, d, tk, os⟩ := s'
    dsimp only at e1 e2 hb hF hN
    subst e1 e2
    exact hQ h' t' k gs hb hF hN
theorem genexp_one {elt iter : Expr} {x : Str} {px : Pos} {scope : Scope} {pos : Pos} {Q : Value → Shared → Prop} {ch : Addr} {tu : Tok} {kx : Nat}
    (hh : A.handled = none) (hroom : A.depth < recursionLimit) (F : Fr g L s.heap m) (N : News g L s.heap news) (U : UpdF 57 op news gg) (ht : Tab op) (C : Hd61 g) (G : g.Ns mainGlobals mg) (B : g.BuiltinsAt mg 57) (NL : g.NoLimit)
    (hch : (ch, W.listOf #[.str (SL l0) tu] kx) ∈ news)
    (hit : ∀ Q' : Value → Shared → Prop, Q' (.ref ch) s → wpAny (model prog w) A (eval iter (envX cn cs L a (.ref 61) cl)) Q' E s)
    (hco : scope.isCoroutine = false) (hclos : closureFor scope (envX cn cs L a (.ref 61) cl) = pure []) (hcell : ∀ y ∈ scope.names, y.2 ≠ .cell) (h0 : scope.names.lookup (".0" : Str) = some NameKind.local)
    (hx : scope.names.lookup x = some .local) (hkind : scope.kind = .function)
    (helt : ∀ (A' : Around) E' C' code (s₂ : Shared) m₂, A'.handled = none → s₂.heap.Ns C' m₂ → m₂ x = some (.str (SL l0) tu) →
      wpAny (model prog w) A' (eval elt (genEnv scope [] C' code builtinsNs (envX cn cs L a (.ref 61) cl))) (fun y s₃ => (∃ u, y = Value.str (SL l) u) ∧ Keeps s₂ s₃) E' s₂)
    (hs : ∀ x, genFold iter (envX cn cs L a (.ref 61) cl) x = pure x)
    (h : ∀ q op' h' tk gs, Tab op' → (AllBare s.gens → AllBare gs) → Fr g L h' m → News g L h' (gg op') → GenJ prog w A g L m (gg op') l q { s with heap := h', toks := tk, gens := gs } → Q (.ref q) { s with heap := h', toks := tk, gens := gs }) :
    wpAny (model prog w) A (eval (.GeneratorExp elt [⟨.Name x px, iter, [], 0⟩] scope pos) (envX cn cs L a (.ref 61) cl)) Q E s := by
  obtain ⟨own, rest, e1, hgr, h1, h2⟩ := U.split
  have hm := N (57, op) (by rw [e1]; exact List.mem_append_right _ (.head _))
  have hl : s.heap.IsList ch #[.str (SL l0) tu] := ⟨_, (N _ hch).1, rfl, kx, rfl⟩
  have hlt : ch < s.heap.objs.size := Heap.lt_size (N _ hch).1
  have h57 : 57 < s.heap.objs.size := Heap.lt_size hm.1
  have hLlt : L < s.heap.objs.size := F.ns.lt
  have hcs : cStatics < s.heap.objs.size := let ⟨_, hn, _⟩ := NL.keeps F.keep; hn.lt
  have hg57 : g.get? 57 = none := hm.2.2
  obtain ⟨bm, ob, b1, b2, b3, b4, b5, b6, b7, b8⟩ := B
  have up1 : ∀ b o, s.heap.get? b = some o → (s.heap.push { cls := .type "list_iterator", data := .fields #[.ref ch, .int 0 0] }).get? b = some o := fun b o e => Heap.get?_push_of_some _ e
  have F1 := F.keeps up1
  have N1 := news_keeps N up1
  have hch57 : ch ≠ 57 := fun e => by
    obtain ⟨ps, hop, _⟩ := ht
    have z := (N _ hch).1
    rw [show (ch, W.listOf #[.str (SL l0) tu] kx).1 = 57 from e, hm.1, hop] at z
    injection z with z
    injection z with z
    cases z
  refine wpAny_GeneratorExp_walksQ hh hco hclos hcell h0 hx hkind hroom (hit _ (wpAny_pyIter_list hl ⟨NL.keeps F1.keep, ?_⟩)) hs
  obtain ⟨ps, _, hic, hit57⟩ := Hd61.code (CodeHd.keeps C F1.keep) (N1 (57, op) (by rw [e1]; exact List.mem_append_right _ (.head _))).1 ht
  refine gcode_any rfl hic hit57 fun c h3 tk3 ps' hx3 hsz3 e57 t' => ?_
  obtain ⟨F3, N3⟩ := tab_step (s := { s with heap := s.heap.push { cls := .type "list_iterator", data := .fields #[.ref ch, .int 0 0] } }) F1 N1 U hx3 e57
  refine wpAny_builtinsFor (G.keeps F3.keep) b1 b2 (F3.keep _ _ b5) b6 b7 b8 ?_
  have hI : s.heap.objs.size ≠ 57 := Nat.ne_of_gt h57
  have hsz' : s.heap.objs.size + 1 ≤ h3.objs.size := by
    have := hsz3
    rw [show (({ s with heap := s.heap.push { cls := .type "list_iterator", data := .fields #[.ref ch, .int 0 0] } } : Shared).heap.objs.size) = s.heap.objs.size + 1 from Heap.size_push _ _] at this
    exact this
  have hkeyb : ∀ p ∈ gg (tabObj ps'), p.1 < s.heap.objs.size := fun p hp => by
    rw [hgr] at hp
    rcases List.mem_append.mp hp with hp | hp
    · exact Heap.lt_size (N p (by rw [e1]; exact List.mem_append_left _ hp)).1
    · rcases List.mem_cons.mp hp with rfl | hp
      · exact h57
      · exact Heap.lt_size (N p (by rw [e1]; exact List.mem_append_right _ (.tail _ hp))).1
  refine ⟨s.heap.objs.size, [s.heap.objs.size, ch], [s.heap.objs.size], 1, fun i v => (#[Value.str (SL l0) tu] : Array Value)[i]? = some v, _, fun _ => true, fun _ y => ∃ u, y = Value.str (SL l) u, rfl,
    (fun A' hA => Walks.list hA _ _ (Nat.ne_of_lt hlt) #[.str (SL l0) tu]), ⟨⟨_, hx3 _ _ hI (Heap.get?_push_size _ rfl), rfl, rfl⟩, ⟨_, hx3 _ _ hch57 (up1 _ _ (N _ hch).1), rfl, kx, rfl⟩⟩, ?_, NL.keeps F3.keep, ?_, ?_, ?_⟩
  · intro b hb
    simp only [List.mem_cons, List.not_mem_nil, or_false] at hb
    rcases hb with rfl | rfl
    · exact hsz'
    · exact Nat.lt_of_lt_of_le hlt (Nat.le_of_succ_le hsz')
  · intro hmem
    rw [List.mem_singleton] at hmem
    exact absurd (hmem ▸ hcs) (Nat.lt_irrefl _)
  · intro href _
    refine ⟨fun A' E' i v s₂ m₂ hA hP hn hmx _ => ?_, fun A' E' i v s₂ m₂ hA hP _ hn hmx _ => ?_⟩
    · exact wpAny_pure ⟨rfl, keeps_refl⟩
    · have hv : v = .str (SL l0) tu := by
        cases i with
        | zero => simpa using hP.symm
        | succ i => simp at hP
      subst hv
      exact helt A' E' _ c s₂ m₂ hA hn hmx
  · intro q h5 tk gs hgb hag hsz5 hk5 Wk hat
    refine h q (tabObj ps') h5 tk _ t' (fun hb => AllBare.push hb hgb) (F3.keeps hk5) (news_keeps N3 hk5) ⟨_, _, _, _, _, Wk, hat, (fun i s' st => st.1.typeIs), List.mem_cons_self, ?_, fun i v hv => let ⟨_, _, u, e⟩ := hv; ⟨u, e⟩, fun s' hmv => ?_⟩
    · intro b hb
      show b < h5.objs.size
      rw [hsz5]
      rcases List.mem_cons.mp hb with rfl | hb
      · exact Nat.lt_succ_self _
      · rcases List.mem_cons.mp hb with rfl | hb
        · exact Nat.lt_succ_of_lt hag
        · exact Nat.lt_succ_of_lt (Nat.lt_trans (List.mem_range.mp hb) hag)
    · have off : ∀ b, b < s.heap.objs.size → b ∉ h3.objs.size :: [s.heap.objs.size] := fun b hb hmem => by
        rcases List.mem_cons.mp hmem with rfl | hmem
        · exact absurd (Nat.lt_of_lt_of_le hb (Nat.le_of_succ_le hsz')) (Nat.lt_irrefl _)
        · exact absurd (List.mem_singleton.mp hmem ▸ hb) (Nat.lt_irrefl _)
      have F5 := F3.keeps hk5
      have N5 := news_keeps N3 hk5
      refine ⟨fun hb => AllBare.movedS hb hmv, ⟨F5.ns.at' fun o e => hmv.heap _ _ (off _ hLlt) e, fun b o e => hmv.heap _ _ (off b (Heap.lt_size (F.keep _ _ e))) (F5.keep _ _ e), F5.above⟩, fun p hp => ⟨hmv.heap _ _ (off _ (hkeyb p hp)) (N5 p hp).1, (N5 p hp).2⟩⟩
end
end Mine
namespace Mine
open PySem PySem.W PyProof.Rows PySem.Calls
theorem nameG {M : Model} {A : Around} {E : Value → Shared → Prop} {s : Shared} {scope : Scope} {cl : List (Str × Addr)} {C bi : Addr} {code : Value} {env : Env} {m : Str → Option Value} {x : Str} {pos : Pos} {v : Value} {Q : Value → Shared → Prop} (F : s.heap.Ns C m) (hv : m x = some v) (h : Q v s)
    (hk : scope.kind = .function) (hl : scope.names.lookup x = some .local) (hd : (x == ("__debug__" : Str)) = false) :
    wpAny M A (eval (.Name x pos) (genEnv scope cl C code bi env)) Q E s := wpAny_Name (wpAny_loadName_local (env := genEnv scope cl C code bi env) hk hl F hv h) hd
end Mine
local macro_rules | `(tactic| walk_at "eval Name") => do `(tactic| k_dflt $(← Mine.go [] 1 `Mine.nameG ["ns", "hv", "_", "hk", "hl", "hd"] [("ns", "ras"), ("hv", "as"), ("hk", "rfl"), ("hl", "rfl"), ("hd", "dec")] []):tactic)
local macro_rules | `(tactic| walk_at "call builtin:str.join") => `(tactic| ((with_reducible rename Mine.GenJ _ _ _ _ _ _ _ _ _ _ => kG); refine' Mine.join_gen kG ?hl ?hs ?_; (case hl => first | assumption | omega); (case hs => first | decide | (rw [Mine.SL_len]; decide)); clear kG; intro _ _ _ _ _ _ _))
namespace Mine
open PySem PySem.W PyProof.Rows PySem.Calls PySem.Builtin PySem.Builtin.Re
noncomputable def CODE : Array Nat := #[14, 14, 4, 1, 1, 9, 0, 64, 0, 1342177280, 0, 0, 0, 0, 0, 17, 0, 13, 11, 9, 0, 64, 0, 1342177280, 0, 0, 0, 0, 0, 17, 1, 1]
noncomputable def plainSign (c : Nat) : Prop := c = 33 ∨ c = 42 ∨ c = 45 ∨ c = 47 ∨ c = 91 ∨ c = 92 ∨ c = 93
theorem inSet_no {c : Nat} (h : plainSign c) (seen : Sre.Seen) : ∃ seen', Sre.inSet CODE c CODE.size 5 true seen = .ok (false, seen') := by
  rcases h with rfl | rfl | rfl | rfl | rfl | rfl | rfl <;> exact ⟨_, rfl⟩
theorem admitted_no {m : Sre.M} {V : List Nat} (hc : m.code = CODE) (ht : m.text = V.toArray) (hl : m.lim = V.length) (hV : ∀ c ∈ V, plainSign c) : ∀ (fuel s : Nat) (seen : Sre.Seen), ∃ seen', Sre.M.admitted m fuel s seen = .ok (none, seen')
  | 0, _, seen => ⟨seen, rfl⟩
  | fuel + 1, s, seen => by
    unfold Sre.M.admitted
    by_cases hs : s ≥ m.lim
    · rw [if_pos hs]; exact ⟨_, rfl⟩
    · rw [if_neg hs]
      have hlt : s < V.length := by omega
      have hg : m.text.getD s 0 = V[s] := by rw [ht]; simp [Array.getD, hlt]
      obtain ⟨seen', e⟩ := inSet_no (hV _ (List.getElem_mem hlt)) seen
      rw [hc, hg, e]
      exact admitted_no hc ht hl hV fuel (s + 1) seen'
noncomputable def DoneM (m : Sre.M) : Prop := m.answer = some false ∧ m.frames = [] ∧ m.outcome = none
theorem attempt_no {m : Sre.M} {V : List Nat} (hc : m.code = CODE) (ht : m.text = V.toArray) (hl : m.lim = V.length) (hV : ∀ c ∈ V, plainSign c) (hf : m.frames = []) (ho : m.outcome = none) (s : Nat) : DoneM (m.attemptFrom s true) := by
  unfold Sre.M.attemptFrom
  have e : m.hasFirstSet = true := by unfold Sre.M.hasFirstSet; rw [hc]; rfl
  rw [e, if_neg (by decide)]
  obtain ⟨seen', e⟩ := admitted_no hc ht hl hV (m.lim + 1 - s) s m.seen
  rw [e]
  exact ⟨rfl, hf, ho⟩
theorem search_no {V : List Nat} (hV : ∀ c ∈ V, plainSign c) (hn : V ≠ []) : DoneM (Sre.forSearch CODE V.toArray 1 0 V.length false) := by
  have hl : 0 < V.length := List.length_pos_iff.mpr hn
  unfold Sre.forSearch
  have e1 : (Sre.header CODE) = (1, 15) := by decide +kernel
  simp only [e1]
  rw [if_neg (by simp; omega)]
  exact attempt_no (V := V) rfl rfl rfl hV rfl rfl 0
section
variable {M : Model} {A : Around} {E : Value → Shared → Prop} {s : Shared}
theorem rules_all {f : Nat → PUnit → Sem (ForInStep PUnit)} (hf : ∀ i r (Q : ForInStep PUnit → Shared → Prop), Q (.yield PUnit.unit) s → wpAny M A (f i r) Q E s) {Q : PUnit → Shared → Prop} : ∀ (l : List Nat), Q PUnit.unit s → wpAny M A (forIn l PUnit.unit f) Q E s := by
  intro l
  induction l with
  | nil => intro h; exact wpAny_pure h
  | cons a l ih =>
    intro h
    rw [List.forIn_cons]
    exact wpAny_bind (hf _ _ _ (ih h))
theorem run_no {m : Sre.M} {Q : Option Sre.M → Shared → Prop} (h : DoneM m) (hq : Q none s) : wpAny M A (reRunToEnd m) Q E s := by
  obtain ⟨h1, h2, h3⟩ := h
  have hs : (m.runFor reTurnSteps).outcome = some .failed := by
    have e : m.step = { m with outcome := some .failed } := by
      unfold Sre.M.step
      rw [h3, h1, h2]; rfl
    show (Sre.M.runFor 4 m).outcome = _
    unfold Sre.M.runFor
    rw [h3, e]
    simp only [Option.isSome_none, Bool.false_eq_true, if_false]
    unfold Sre.M.runFor
    rfl
  unfold reRunToEnd
  have hd : reDrive (2 ^ 64) m = pure (m.runFor reTurnSteps) := by
    rw [show (2 : Nat) ^ 64 = 18446744073709551615 + 1 from by decide]
    unfold reDrive
    simp only [hs, Option.isSome_some, if_true]
  rw [hd]
  refine wpAny_bind (wpAny_pure ?_)
  refine wpAny_bind (rules_all (fun i r Q h => ?_) _ ?_)
  · split
    · exact wpAny_bind (wpAny_rule (wpAny_pure h))
    · exact wpAny_pure h
  rw [hs]
  exact wpAny_pure hq
end
end Mine
namespace Mine
open PySem PySem.W PyProof.Rows PySem.Calls PySem.Builtin PySem.Builtin.Re
theorem slot_sub : Slot "re.Pattern" "sub" "re.Pattern.sub" :=
  .of (owner := "re.Pattern") (n := "sub") (by rw [typeLookup_type, builtinLookup_eq_fast]; kernel_rfl) (by decide +kernel) (by decide +kernel) (by decide +kernel)
    (by first | exact .inl (by decide +kernel) | exact .inr (by decide +kernel)) (by rw [isSubtype_type]; kernel_rfl)
theorem type_sub : typeOf (.builtin "re.Pattern.sub") = pure (.type "method_descriptor") := by show builtinType _ = _; rw [builtinType_eq_fast]; kernel_rfl
theorem entry_sub : entryFor table "re.Pattern.sub" = some Builtin.«re.Pattern.sub» := entryFor_of_tree (by kernel_rfl)
theorem entry_sub_loop : entryFor table "re.Pattern.sub.loop" = some Builtin.«re.Pattern.sub.loop» := entryFor_of_tree (by kernel_rfl)
theorem args_sub (a b c : Value) : argsOk "re.Pattern.sub" ⟨[a, b, c], []⟩ := by unfold argsOk; kernel_rfl
theorem plain_pat : PlainAttrs "re.Pattern" := ⟨⟨"object.__getattribute__", by rw [typeLookup_type, builtinLookup_eq_fast]; kernel_rfl, by decide +kernel⟩, by rw [typeLookup_type, builtinLookup_eq_fast]; kernel_rfl⟩
theorem fn_call : typeLookup (.type "function") "__call__" = pure (some (.builtin "function.__call__")) := by rw [typeLookup_type, builtinLookup_eq_fast]; kernel_rfl
theorem str_not_ba : isSubtype (.type "str") (.type "bytearray") = pure false := by rw [isSubtype_type]; kernel_rfl
noncomputable def PatAt (h : Heap) : Prop := ∃ fs o35 its n, h.get? 36 = some { cls := .type "re.Pattern", data := .fields fs } ∧ fs.getD 2 .none = .int 1 0 ∧ fs.getD 5 .none = .ref 35 ∧ fs.getD 6 .none = .int 0 0 ∧
  h.get? 35 = some o35 ∧ o35.data = .seq its n ∧ (its.map reRawOf).map (·.toNat) = CODE
theorem PatAt.keeps {h h' : Heap} (x : PatAt h) (hk : ∀ b o, h.get? b = some o → h'.get? b = some o) : PatAt h' := by
  obtain ⟨fs, o35, its, n, a, b, c, d, e, f, g⟩ := x
  exact ⟨fs, o35, its, n, hk _ _ a, b, c, d, hk _ _ e, f, g⟩
section
variable {prog : Program} {w : World} {M : Model} {A : Around} {E : Value → Shared → Prop} {s : Shared} {V : List Nat} {t : Tok}
theorem whole_target {Q : ReTarget → Shared → Prop} (P : PatAt s.heap)
    (h : Q { pattern := .ref 36, string := .str (SL V) t, code := CODE, text := V.toArray, kind := 0, groups := 1, pos := 0, lim := V.toArray.size } s) :
    wpAny M A (reWholeTarget (.ref 36) (.str (SL V) t)) Q E s := by
  obtain ⟨fs, o35, its, n, a, b, c, d, e, f, g⟩ := P
  unfold reWholeTarget
  refine wpAny_bind (wpAny_fieldsOf a rfl ?_)
  refine wpAny_bind (m := reTextOf (.str (SL V) t)) (wpAny_of_eq (a := (V.toArray, 0)) (by rfl) ?_)
  dsimp only
  rw [b, c, d]
  refine wpAny_bind (m := reNoCollectionInside _ _) (wpAny_of_eq (a := ()) (by rfl) ?_)
  refine wpAny_bind (m := reRawItems (.ref 35)) ?_
  unfold reRawItems
  refine wpAny_bind (wpAny_seqItems e f (wpAny_pure (wpAny_pure ?_)))
  dsimp only [Option.getD_some]
  rw [g]
  exact h
theorem target_found {m? : Option Sre.M → Sem Fin} {Q : Fin → Shared → Prop} {EE : Value → Shared → Prop} (hV : ∀ c ∈ V, plainSign c) (hn : V ≠ [])
    (h : wpAny M A (m? none) Q EE s) :
    wpAny M A (reNextFound { pattern := .ref 36, string := .str (SL V) t, code := CODE, text := V.toArray, kind := 0, groups := 1, pos := 0, lim := V.toArray.size } 0 false >>= m?) Q EE s := by
  refine wpAny_bind ?_
  unfold reNextFound
  refine run_no ?_ h
  have := search_no hV hn
  simpa using this
theorem call_sub {f : Addr} {fo : Obj} {Q : Value → Shared → Prop} (P : PatAt s.heap) (hf : s.heap.get? f = some fo) (hfc : fo.cls = .type "function") (hV : ∀ c ∈ V, plainSign c) (hn : V ≠ []) (hl : V.length ≤ 500)
    (hQ : ∀ h' t' k, (∀ b o, s.heap.get? b = some o → h'.get? b = some o) → Q (.str (SL V) t') { s with heap := h', toks := k }) :
    wpAny (model prog w) A (call (.builtin "re.Pattern.sub") [.ref 36, .ref f, .str (SL V) t]) Q E s := by
  have hT36 : s.TypeIs (.ref 36) "re.Pattern" := by obtain ⟨fs, o35, its, n, a, _⟩ := P; exact ⟨_, a, rfl⟩
  have hTf : s.TypeIs (.ref f) "function" := ⟨_, hf, hfc⟩
  refine wpAny_call (codeAny_call_builtin slot_sub.plain entry_sub (slot_sub.check _ _ _ _ _ _ _ _ hT36 (args_sub _ _ _) ?_))
  unfold Builtin.«re.Pattern.sub» reSubstitute
  dsimp only
  refine wpAny_bind (m := reNamed _ _ _ _ _ _) (wpAny_of_eq (a := [some (.ref f), some (.str (SL V) t), none]) (by rfl) ?_)
  dsimp only
  refine wpAny_bind (wpAny_pure ?_)
  refine wpAny_bind (wpAny_specialOf hTf fn_call ?_)
  dsimp only [Option.isSome_some]
  simp only [if_true]
  refine wpAny_bind (wpAny_pure ?_)
  refine wpAny_bind (wpAny_pure ?_)
  dsimp only
  refine wpAny_bind (wpAny_holding (whole_target P ?_))
  simp only [beq_self_eq_true, if_true]
  refine wpAny_bind (m := reNotHeld _ _) ?_
  unfold reNotHeld
  refine wpAny_bind (wpAny_isInstance (typeIs_str _ _ _) str_not_ba ?_)
  simp only [Bool.false_eq_true, if_false]
  refine wpAny_pure ?_
  refine wpAny_bind (wpAny_newObj_type ?_ (by size_fits))
  refine wpAny_pure ⟨plainId_quiet (by decide +kernel) _, codeAny_builtin entry_sub_loop ?_⟩
  have P1 : PatAt (s.heap.push { cls := .type "list", data := .seq ([] : List Value).toArray }) := P.keeps fun b o e => Heap.get?_push_of_some _ e
  generalize hH : s.heap.push { cls := .type "list", data := .seq ([] : List Value).toArray } = H at P1
  unfold Builtin.«re.Pattern.sub.loop»
  dsimp only [rawInt]
  refine wpAny_bind (whole_target P1 ?_)
  rw [if_neg (by decide)]
  refine wpAny_bind ?_
  rw [if_neg (by decide)]
  unfold reNextFound
  refine run_no (by have := search_no hV hn; simpa using this) ?_
  dsimp only
  have hpos : 0 < V.length := List.length_pos_iff.mpr hn
  rw [if_pos (by simpa using hpos)]
  refine wpAny_bind (m := reSlice _ _ _ _) ?_
  unfold reSlice
  rw [if_pos (by rfl)]
  refine wpAny_mkStr ?_ (by show (V.toArray.extract _ _).size ≤ _; rw [Array.size_extract, sizeLine_eq]; simp; omega)
  have eV : (⟨V.toArray.extract (Int.toNat 0) V.toArray.size⟩ : Str) = SL V := by simp
  rw [eV]
  have hL : H.get? s.heap.objs.size = some { cls := .type "list", data := .seq ([] : List Value).toArray } := by rw [← hH]; exact Heap.get?_push_size _ rfl
  refine wpAny_bind (wpAny_updateSeq hL rfl ?_ (by simp) (by simp [sizeLine_eq]))
  refine wpAny_bind (m := reSlice _ _ _ _) ?_
  unfold reSlice
  rw [if_pos (by rfl)]
  refine wpAny_mkStr ?_ (by show (V.toArray.extract _ _).size ≤ _; rw [Array.size_extract, sizeLine_eq]; simp)
  have hU : (H.update s.heap.objs.size (Obj.mapSeq fun x => x.push (Value.str (SL V) s.toks))).get? s.heap.objs.size = some { cls := .type "list", data := .seq [Value.str (SL V) s.toks].toArray 1 } := Heap.get?_update_self _ hL rfl
  have hk : ∀ b o, s.heap.get? b = some o → (H.update s.heap.objs.size (Obj.mapSeq fun x => x.push (Value.str (SL V) s.toks))).get? b = some o := fun b o e => by
    have e1 : H.get? b = some o := by rw [← hH]; exact Heap.get?_push_of_some _ e
    rw [Heap.get?_update_other _ _ (Ne.symm (Nat.ne_of_lt (Heap.lt_size e)))]
    exact e1
  refine wpAny_bind (m := seqItems? _) (wpAny_seqItems hU rfl ?_)
  have e2 : ((some [Value.str (SL V) s.toks].toArray).getD #[]).isEmpty = false := rfl
  rw [e2, if_neg (by decide)]
  have e0 : (⟨V.toArray.extract 0 0⟩ : Str) = Str.ofString "" := by rw [lit0]; simp
  rw [e0]
  refine wpAny_bind (join_SL (ys := [V]) (l := V) hU (.cons _ _ .nil) (by simp) (by simp; omega) fun t' k' => ?_)
  rw [if_neg (by decide)]
  exact wpAny_pure (hQ _ t' k' hk)
theorem getm_sub {pl : Sem Bool} {Q : Value × List Value → Shared → Prop} (P : PatAt s.heap) (h : Q (.builtin "re.Pattern.sub", [.ref 36]) s) : wpAny M A (getMethod (.ref 36) "sub" pl) Q E s := by
  obtain ⟨fs, o35, its, n, a, _⟩ := P
  exact getMethod_builtin ⟨_, a, rfl⟩ plain_pat slot_sub type_sub (fun b e => by cases e; exact ⟨_, a, rfl⟩) h
theorem SL_app0 (y : List Nat) : Str.empty ++ SL y = SL y := by
  rw [show (Str.empty : Str) = SL [] from rfl, SL_app]; rfl
theorem field_SL {l : List Nat} {t : Tok} {Q : Value → Shared → Prop} (hl : l.length ≤ 10000) (h : ∀ t' k, Q (.str (SL l) t') { s with toks := k }) : wpAny (model prog w) A (formatField (.str (SL l) t) Str.empty) Q E s :=
  wpAny_formatField_str (h t s.toks) (h s.toks (s.toks + 1)) (by rw [SL_len, sizeLine_eq]; omega)
theorem patAt_of {P : Params} {h : Heap} (X : (pre.heap_1 P).In h) : PatAt h := ⟨_, _, _, _, X 36 _ rfl, rfl, rfl, rfl, X 35 _ rfl, rfl, by decide +kernel⟩
theorem join_end {M : Model} {A : Around} {E : Value → Shared → Prop} {s : Shared} {env : Env} {l : List Nat} {Q : Value → Shared → Prop} (h : Q (.str (SL l) s.toks) { s with toks := s.toks + 1 }) (hsz : l.length ≤ 100000) : wpAny M A (joinParts (SL l) (evalEach [] env)) Q E s :=
  joinParts_nilE (joinParts_nil h (by rw [SL_len, sizeLine_eq]; omega))
end
end Mine
local macro_rules | `(tactic| walk_at "getMethod ref") => `(tactic| ((with_reducible rename Mine.PatAt _ => kP); (with_reducible rename Fr _ _ _ _ => kF); with_reducible refine Mine.getm_sub (Mine.PatAt.keeps kP (Fr.keep kF)) ?_))
local macro_rules | `(tactic| walk_at "formatField str") => Mine.go [] 1 `Mine.field_SL ["hl", "_"] [("hl", "as|ll")] ["i", "i", "dso"]
local macro_rules | `(tactic| walk_at "And") => do
  let ts ← #[`Mine.SL_app0, `Mine.SL_app].mapM fun n => `(tacticSeq| (with_reducible show _ ∧ _); rw [$(Lean.mkIdent n):ident]; refine ⟨by (rw [Mine.SL_len, sizeLine_eq]; simp only [List.length_append, List.length_cons, List.length_nil]; omega), ?_⟩)
  `(tactic| first $[| $ts]*)
local macro_rules | `(tactic| walk_at "joinParts") => Mine.go [] 1 `Mine.join_end ["_", "hsz"] [("hsz", "ll")] []
namespace Mine
open PySem PySem.W PyProof.Rows PySem.Calls
open PySem.Challenge

theorem trans_c (w : World) (dp un : Nat) (fr : Option (List Env)) (gd : Option (List Code)) (s : Shared) (E : Value → Shared → Prop) (Q : Value → Shared → Prop) (p : Program) (loose : List Str) (mg mb : Str → Option Value)
   (g : Heap) (ia ib : It) (tk tq : Tok) (st : Addr) (op : Obj) (hA : dp < 900) (hu : un < 500) (hr : rw_ij0087_01.row.prog = rw_ij0087_01.row.prog) (ha : ia.ok) (hb : ib.ok)
   (Kg : ∀ b o, g.get? b = some o → s.heap.get? b = some o) (X : (pre.heap_1 w.params).In g) (T : TopRead p loose mg mb g) (B : g.BuiltinsAt mg 57) (C : Hd61 g) (G7 : g.get? 57 = none) (S7 : s.heap.get? 57 = some op) (t7 : Tab op)
   (hQ : ∀ h' D k vs op' tk' gs', (AllBare s.gens → AllBare gs') → (∀ b o, b ≠ 57 → s.heap.get? b = some o → h'.get? b = some o) → h'.get? 57 = some op' → Tab op' → s.heap.get? D = none → h'.get? D = some (W.listOf vs.toArray k) → Outs st [some ia, none, some ib] vs → Q (.ref D) { s with heap := h', toks := tk', gens := gs' })
   : wpAny (model rw_ij0087_01.row.prog w) { handled := none, depth := dp, frames := fr, guards := gd, units := un } (call (.ref 62) [.str (SL (ptext [some ia, none, some ib])) tk, .ref st, .str (SL [46]) tq]) Q E s := by
  revert X; k_fill; intro X
  have Xs := X.keeps Kg
  have Ts := T.keeps Kg
  obtain ⟨xs, hxs⟩ : ∃ xs, xs = [some ia, none, some ib] := ⟨_, rfl⟩
  rw [← hxs] at hQ ⊢
  have hT0 : (ptext xs).length ≤ 100 := by rw [hxs]; exact ptext_len ha hb
  obtain ⟨T0, hT⟩ : ∃ T0, T0 = ptext xs := ⟨_, rfl⟩
  rw [← hT] at hT0 ⊢
  refine enter (binds := [((Str.ofString "pat"), .str (SL T0) tk), ((Str.ofString "STAR"), .ref st), ((Str.ofString "QUESTION_MARK"), .str (SL [46]) tq)]) Xs Ts (by k_is) (by k_is) (Nat.lt_trans hA (by decide)) (BindsTo.of_eq rfl) (locs rfl) (by decide) rfl rfl rfl rfl ?_
  intro L h₁ tk₁ hL F0 _
  have N := g57_news F0 S7
  have F := g57_fr F0
  have K7 : ∀ b o, g.get? b = some o → (g57 s.heap).get? b = some o := fun b o e => g57_get (Kg b o e) (fun q => by rw [q, G7] at e; cases e)
  replace X := X.keeps K7
  replace T := T.keeps K7
  clear F0 Xs Ts
  walk
  (with_reducible rename Fr _ _ _ _ => F2); (with_reducible rename News _ _ _ _ => N2)
  refine' to_stop (While_h (TrJ T0 xs st) (n₀ := 3) F2 ?nw ?ini ?turn)
  case ini => exact ⟨0, _, _, _, _, _, _, _, 0, [], op, Nat.zero_le _, rfl, rfl, rfl, rfl, rfl, rfl, rfl, rfl, rfl, rfl, by omega, by omega, t7, .nil⟩
  case nw => exact news_sub N2 (by simp)
  case turn =>
    rintro n m₁ news₁ h₂ tk₂ gs₂ hb F N ⟨k, z, t1, t2, t3, t4, D, q, kk, vs, op', hk, rfl, hi, hz, hn, hpat, hst, hqm, hres, hadd, rfl, hDq, h57, t7', hO⟩ Qb Qe hQb hQe
    clear F2 N2
    have hxl : xs.length = 3 := by rw [hxs]; rfl
    have hz0 : 0 ≤ z := by omega
    have hple := tpos_le xs k
    rw [← hT] at hple
    have hz1 : z ≤ 20000 := by omega
    have hzn : z.toNat = tpos xs k := by omega
    have hvl : vs.length = k := by rw [hO.len, List.length_take]; omega
    have hvl2 : vs.length ≤ 10000 := by omega
    rcases Nat.lt_or_ge k 3 with hlt | hge
    · obtain ⟨x, hx⟩ : ∃ x, xs[k]? = some x := ⟨_, List.getElem?_eq_getElem (by omega)⟩
      have hd := tpos_drop hx
      have hs := tpos_succ hx
      rw [← hT] at hd
      have hple2 := tpos_le xs (k + 1)
      rw [← hT] at hple2
      cases x with
      | none =>
        have hk1 : k = 1 := by
          rw [hxs] at hx
          rcases k with _ | _ | _ | k
          · cases hx
          · rfl
          · cases hx
          · omega
        have c0 : T0[z.toNat]? = some 42 := by rw [hzn]; exact at_of_drop0 hd
        have hlt : z < (T0.length : Int) := by have : (itxt none).length = 1 := rfl; omega
        obtain ⟨v0, rfl⟩ : ∃ v0, vs = [v0] := List.length_eq_one_iff.mp (by omega)
        obtain ⟨tv, rfl⟩ : ∃ t, v0 = .str (SL ia.ck.txt) t := by
          rw [hk1, hxs] at hO; exact outs_one hO
        walk
        (with_reducible rename Fr _ _ _ _ => kF); (with_reducible rename News _ _ _ _ => kN)
        exact hQb _ _ (WStep.next hb kF kN (n' := 3 - (k + 1)) (by omega) ⟨k + 1, _, _, _, _, _, D, q, _, _, op', by omega, rfl, rfl, by rw [hs]; simp [itxt]; omega, hn, hpat, hst, hqm, hres, hadd, rfl, hDq, h57, t7', hO.more hx rfl⟩)
      | some it =>
        cases it with
        | q => 
          have c0 : T0[z.toNat]? = some 63 := by rw [hzn]; exact at_of_drop0 hd
          have hlt : z < (T0.length : Int) := by have : (itxt (some .q)).length = 1 := rfl; omega
          walk
          (with_reducible rename Fr _ _ _ _ => kF); (with_reducible rename News _ _ _ _ => kN)
          exact hQb _ _ (WStep.next hb kF kN (n' := 3 - (k + 1)) (by omega) ⟨k + 1, _, _, _, _, _, D, q, _, _, op', by omega, rfl, rfl, by rw [hs]; simp [itxt, It.txt]; omega, hn, hpat, hst, hqm, hres, hadd, rfl, hDq, h57, t7', hO.more hx ⟨_, rfl⟩⟩)
        | set neg S =>
          have c0 : T0[z.toNat]? = some 91 := by rw [hzn]; exact at_of_drop0 hd
          obtain ⟨U, hU⟩ : ∃ U, U = (if neg then [33] else []) ++ S := ⟨_, rfl⟩
          have hlen : (itxt (some (It.set neg S))).length = U.length + 2 := by rw [hU]; simp [itxt, It.txt]; omega
          have hdU : T0.drop (tpos xs k + 1) = U ++ 93 :: ptext (xs.drop (k + 1)) := by
            have := drop_more (a := [91]) (b := U ++ 93 :: ptext (xs.drop (k + 1))) (by rw [hd, hU]; simp [itxt, It.txt])
            exact this
          have hok : (It.set neg S).ok := by
            rw [hxs] at hx
            rcases k with _ | _ | _ | k
            · cases hx; exact ha
            · cases hx
            · cases hx; exact hb
            · omega
          obtain ⟨ok1, ok2, ok3, ok4, ok5, ok6⟩ := hok
          obtain ⟨p, hp⟩ : ∃ p, p = tpos xs k + 1 := ⟨_, rfl⟩
          rw [← hp] at hdU
          have hend := end_lt hdU
          have hlt : z < (T0.length : Int) := by omega
          have hzp : z + 1 = (p : Int) := by omega
          obtain ⟨sh, sr, hS⟩ : ∃ sh sr, S = sh :: sr := by cases S with | nil => exact absurd rfl ok1 | cons a b => exact ⟨a, b, rfl⟩
          have hn2 : ∃ t, m₁ (Str.ofString "n") = some (.int (T0.length : Int) t) := ⟨_, hn⟩
          have kws := wantIf [(), (), ()]
          walk
          rw [hzp] at *
          (with_reducible rename Fr _ _ _ _ => F2); (with_reducible rename News _ _ _ _ => N2)
          refine' to_stop (mid_h (g57 s.heap) L s (MIJ T0 st D q [(q, bmObj (.builtin "list.append") D), (D, W.listOf vs.toArray kk), (57, op')] p (p + (if neg then 1 else 0))) ?if1 ?rest1)
          case if1 =>
            intro Qm hQm
            cases neg with
            | true =>
              have c1 : T0[((p : Int)).toNat]? = some 33 := by rw [Int.toNat_natCast]; exact at_of_drop0 (l := S ++ 93 :: ptext (xs.drop (k + 1))) (by rw [hdU, hU]; rfl)
              walk
              (with_reducible rename Fr _ _ _ _ => kF); (with_reducible rename News _ _ _ _ => kN)
              exact hQm _ _ (Mid.intro hb kF kN ⟨⟨⟨_, hn⟩, ⟨_, hpat⟩, hst, ⟨_, hqm⟩, hres, hadd⟩, ⟨_, rfl⟩, ⟨_, _, rfl, by simp⟩, rfl⟩)
            | false =>
              have c1 : T0[((p : Int)).toNat]? = some sh := by rw [Int.toNat_natCast]; exact at_of_drop0 (l := sr ++ 93 :: ptext (xs.drop (k + 1))) (by rw [hdU, hU, hS]; rfl)
              have c2 : ¬ ([sh] = [33]) := fun e => ok5 rfl (by rw [hS]; cases e; rfl)
              walk
              (with_reducible rename Fr _ _ _ _ => kF); (with_reducible rename News _ _ _ _ => kN)
              exact hQm _ _ (Mid.intro hb kF kN ⟨⟨⟨_, hn⟩, ⟨_, hpat⟩, hst, ⟨_, hqm⟩, hres, hadd⟩, ⟨_, rfl⟩, ⟨_, _, rfl, by simp⟩, rfl⟩)
          clear hn hpat hst hqm hres hadd F2 N2 hn2
          rintro h₃ tk₃ gs₃ m₃ news₃ hb F N ⟨⟨⟨t2, hn⟩, ⟨t3, hpat⟩, hst, ⟨t4, hqm⟩, hres, hadd⟩, ⟨t5, hi⟩, ⟨zj, t6, hj, hzj⟩, rfl⟩
          have hSl : S.length = sr.length + 1 := by rw [hS]; rfl
          have hUl : U.length = (if neg then 1 else 0) + S.length := by rw [hU]; cases neg <;> simp <;> omega
          obtain ⟨b1, hb1⟩ : ∃ b1, b1 = (if neg then 1 else 0 : Nat) := ⟨_, rfl⟩
          rw [← hb1] at hzj hUl
          have c1 : T0[zj.toNat]? = some sh := by
            have := at_in hdU (a := b1) (by omega)
            rw [show zj.toNat = p + b1 by omega, this]
            congr 1
            cases neg <;> simp [hb1, hU, hS]
          have hjn : zj < (T0.length : Int) := by omega
          have hj0 : 0 ≤ zj := by omega
          have hj9 : zj ≤ 20000 := by omega
          try dsimp only
          have kws := wantIf []
          walk
          refine' to_stop (mid_h (g57 s.heap) L s (MIJ T0 st D q [(q, bmObj (.builtin "list.append") D), (D, W.listOf vs.toArray kk), (57, op')] p (p + b1 + (if S.head? = some 93 then 1 else 0))) ?if2 ?rest2)
          case if2 =>
            intro Qm hQm
            by_cases h93 : sh = 93
            · subst h93
              walk
              (with_reducible rename Fr _ _ _ _ => kF); (with_reducible rename News _ _ _ _ => kN)
              exact hQm _ _ (Mid.intro hb kF kN ⟨⟨⟨_, hn⟩, ⟨_, hpat⟩, hst, ⟨_, hqm⟩, hres, hadd⟩, ⟨_, hi⟩, ⟨_, _, rfl, by rw [hS, hzj]; simp⟩, rfl⟩)
            · have c2 : ¬ ([sh] = [93]) := fun e => h93 (by cases e; rfl)
              walk
              (with_reducible rename Fr _ _ _ _ => kF); (with_reducible rename News _ _ _ _ => kN)
              exact hQm _ _ (Mid.intro hb kF kN ⟨⟨⟨_, hn⟩, ⟨_, hpat⟩, hst, ⟨_, hqm⟩, hres, hadd⟩, ⟨_, hi⟩, ⟨_, _, hj, by rw [hS, hzj]; simp [h93]⟩, rfl⟩)
          (with_reducible rename Fr _ _ _ _ => kF); (with_reducible rename News _ _ _ _ => kN)
          clear hn hpat hst hqm hres hadd kF kN hi hj hjn hj0 hj9 c1 hzj
          rintro h₃ tk₃ gs₃ m₃ news₃ hb F2 N2 ⟨⟨⟨t2, hn⟩, ⟨t3, hpat⟩, hst, ⟨t4, hqm⟩, hres, hadd⟩, ⟨t5, hi⟩, ⟨zj, t6, hj, hzj⟩, rfl⟩
          obtain ⟨b2, hb2⟩ : ∃ b2, b2 = b1 + (if S.head? = some 93 then 1 else 0 : Nat) := ⟨_, rfl⟩
          rw [Nat.add_assoc, ← hb2] at hzj
          have hb2l : b2 ≤ U.length := by rw [hb2, hUl]; split <;> omega
          try dsimp only
          walk
          (with_reducible rename Fr _ _ _ _ => F2); (with_reducible rename News _ _ _ _ => N2)
          refine' to_stop (While_h (WIJ T0 st D q [(q, bmObj (.builtin "list.append") D), (D, W.listOf vs.toArray kk), (57, op')] p b2 U.length) (n₀ := U.length - b2) F2 N2 ⟨b2, Nat.le_refl _, hb2l, rfl, ⟨⟨_, hn⟩, ⟨_, hpat⟩, hst, ⟨_, hqm⟩, hres, hadd⟩, ⟨_, hi⟩, ⟨_, _, hj, hzj⟩, rfl⟩ ?turn)
          clear hn hpat hst hqm hres hadd F2 N2 hi hj hzj zj
          rintro n m₁ news₁ h₂ tk₂ gs₂ hbn F N ⟨a, ha1, ha2, rfl, ⟨⟨t2, hn⟩, ⟨t3, hpat⟩, hst, ⟨t4, hqm⟩, hres, hadd⟩, ⟨t5, hi⟩, ⟨zj, t6, hj, hzj⟩, rfl⟩ Qj Qje hQj hQje
          have hjn : zj < (T0.length : Int) := by omega
          have hj0 : 0 ≤ zj := by omega
          have hj9 : zj ≤ 20000 := by omega
          have hjz : zj.toNat = p + a := by omega
          rcases Nat.lt_or_ge a U.length with hal | hag
          · have c1 : T0[zj.toNat]? = some (U[a]'hal) := by rw [hjz]; exact at_in hdU hal
            have hne := no_close hU ok3 hal (by rw [← hb1, ← hb2]; exact ha1)
            generalize U[a]'hal = ch at c1 hne
            have c2 : ¬ ([ch] = [93]) := fun e => hne (by cases e; rfl)
            walk
            (with_reducible rename Fr _ _ _ _ => kF); (with_reducible rename News _ _ _ _ => kN)
            exact hQj _ _ (WStep.next hbn kF kN (n' := U.length - (a + 1)) (by omega) ⟨a + 1, by omega, hal, rfl, ⟨⟨_, hn⟩, ⟨_, hpat⟩, hst, ⟨_, hqm⟩, hres, hadd⟩, ⟨_, hi⟩, ⟨_, _, rfl, by omega⟩, rfl⟩)
          · have hae : a = U.length := by omega
            subst hae
            replace hb : AllBare s.gens → AllBare gs₂ := fun h => hbn (hb h)
            have c1 : T0[zj.toNat]? = some 93 := by rw [hjz]; exact at_end hdU
            have hsl := set_slice hdU
            rw [← hzj] at hsl
            have hT9 : T0.length ≤ 10000 := by omega
            have hb92 := no_back hU ok2
            have kws := wantIf [()]
            walk
            refine hQje _ ?_
            walk
            (with_reducible rename Fr _ _ _ _ => F2); (with_reducible rename News _ _ _ _ => N2)
            refine' to_stop (mid_h (g57 s.heap) L s (MJS T0 st D q (fun op'' => [(q, bmObj (.builtin "list.append") D), (D, W.listOf vs.toArray kk), (57, op'')]) (p + U.length) (escL U)) ?if5 ?rest5)
            case if5 =>
              intro Qm hQm
              by_cases h45 : 45 ∈ U
              · have h45S := dash_in hU h45
                have hSd := dash_last ok1 ok4 h45S
                have kws := wantAs
                walk
                rotate_left
                exact absurd h45 (by assumption)
                rename_i tka ch h5 l1 h6 F3 N3 k0
                refine' to_stop (mid_h (g57 s.heap) L s (MIJK T0 st D q ch ((ch, W.listOf #[] 0) :: [(q, bmObj (.builtin "list.append") D), (D, W.listOf vs.toArray kk), (57, op')]) p (p + U.length) (p + 1 + b1)) ?ask ?restk)
                case ask =>
                  intro Qm hQm
                  cases neg with
                  | true =>
                    have c3 : T0[((p : Int)).toNat]? = some 33 := by rw [Int.toNat_natCast]; exact at_of_drop0 (l := S ++ 93 :: ptext (xs.drop (k + 1))) (by rw [hdU, hU]; rfl)
                    walk
                    (with_reducible rename Fr _ _ _ _ => kF); (with_reducible rename News _ _ _ _ => kN)
                    exact hQm _ _ (Mid.intro hb kF kN ⟨⟨⟨_, hn⟩, ⟨_, hpat⟩, hst, ⟨_, hqm⟩, hres, hadd⟩, ⟨_, hi⟩, ⟨_, _, hj, hzj⟩, ⟨_, _, rfl, by rw [hb1]; simp; omega⟩, rfl, rfl⟩)
                  | false =>
                    have c3 : T0[((p : Int)).toNat]? = some sh := by rw [Int.toNat_natCast]; exact at_of_drop0 (l := sr ++ 93 :: ptext (xs.drop (k + 1))) (by rw [hdU, hU, hS]; rfl)
                    have c4 : ¬ ([sh] = [33]) := fun e => ok5 rfl (by rw [hS]; cases e; rfl)
                    walk
                    (with_reducible rename Fr _ _ _ _ => kF); (with_reducible rename News _ _ _ _ => kN)
                    exact hQm _ _ (Mid.intro hb kF kN ⟨⟨⟨_, hn⟩, ⟨_, hpat⟩, hst, ⟨_, hqm⟩, hres, hadd⟩, ⟨_, hi⟩, ⟨_, _, hj, hzj⟩, ⟨_, _, rfl, by rw [hb1]; simp⟩, rfl, rfl⟩)
                clear hn hpat hst hqm hres hadd F3 N3 hi hj hjz hj0 hj9 hjn c1 hsl hzj
                rintro h₃ tk₃ gs₃ m₃ news₃ hb F N ⟨⟨⟨t2, hn⟩, ⟨t3, hpat⟩, hst, ⟨t4, hqm⟩, hres, hadd⟩, ⟨t5, hi⟩, ⟨zj, t6, hj, hzj⟩, ⟨zk, t7, hk7, hzk⟩, hch, rfl⟩
                try dsimp only
                walk
                (with_reducible rename Fr _ _ _ _ => F2); (with_reducible rename News _ _ _ _ => N2)
                obtain ⟨U0, hU0⟩ : ∃ U0, U0 = (if neg then [33] else []) ++ S.dropLast := ⟨_, rfl⟩
                have hUU : U = U0 ++ [45] := by rw [hU, hU0, List.append_assoc, ← hSd]
                have hUUl : U.length = U0.length + 1 := by rw [hUU]; simp
                have hU0l : U0.length = b1 + S.dropLast.length := by rw [hU0, hb1]; cases neg <;> simp <;> omega
                have h45n : 45 ∉ U0 := by
                  rw [hU0]; intro h
                  rcases List.mem_append.mp h with h | h
                  · cases neg <;> simp at h
                  · exact ok4 45 h rfl
                have hdU0 : T0.drop p = U0 ++ (45 :: 93 :: ptext (xs.drop (k + 1))) := by rw [hdU, hUU]; simp
                have hsl0 := slice_mid hdU0 (by omega)
                have hj0 : 0 ≤ zj := by omega
                have hj9 : zj ≤ 20000 := by omega
                have hk0 : 0 ≤ zk := by omega
                have hk9 : zk ≤ 20000 := by omega
                have hTl : T0.length ≤ 10000 := by omega
                refine' to_stop (mid_h (g57 s.heap) L s (MCH T0 st D q ch [(q, bmObj (.builtin "list.append") D), (D, W.listOf vs.toArray kk), (57, op')] p zj U0) ?wl ?restw)
                case wl =>
                  intro Qm hQm
                  by_cases hS1 : S.dropLast = []
                  · have hl1 : U.length = b1 + 1 := by rw [hUUl, hU0l, hS1]; rfl
                    have hf : find4 (SL T0) (SL [45]) zk zj = -1 := by
                      rw [hzk, hzj]
                      exact find4_none (by omega) (fun a h1 h2 => by omega)
                    refine' While_h (WC0 T0 st D q ch [(q, bmObj (.builtin "list.append") D), (D, W.listOf vs.toArray kk), (57, op')] p zj zk) (n₀ := 0) F2 N2 ⟨rfl, ⟨⟨_, hn⟩, ⟨_, hpat⟩, hst, ⟨_, hqm⟩, hres, hadd⟩, ⟨_, hi⟩, ⟨_, hj⟩, ⟨_, hk7⟩, hch, rfl⟩ ?_
                    clear hn hpat hst hqm hres hadd F2 N2 hi hj hk7 hch
                    rintro n m₁ news₁ h₂ tk₂ gs₂ hbn F N ⟨rfl, ⟨⟨t2, hn⟩, ⟨t3, hpat⟩, hst, ⟨t4, hqm⟩, hres, hadd⟩, ⟨t5, hi⟩, ⟨t6, hj⟩, ⟨t7, hk7⟩, hch, rfl⟩ Qb Qe hQb hQe
                    walk
                    (with_reducible rename Fr _ _ _ _ => kF); (with_reducible rename News _ _ _ _ => kN)
                    exact hQb _ _ (hQm _ _ (Mid.intro (fun h => hbn (hb h)) kF kN ⟨(p : Int), [], 0, ⟨⟨_, hn⟩, ⟨_, hpat⟩, hst, ⟨_, hqm⟩, hres, hadd⟩, ⟨_, hi⟩, ⟨_, hj⟩, hch, .inl ⟨rfl, rfl⟩, rfl⟩))
                  · have hl1 : b1 + 1 < U.length := by
                      have : 0 < S.dropLast.length := by cases e : S.dropLast with | nil => exact absurd e hS1 | cons a b => simp
                      omega
                    have hf1 : find4 (SL T0) (SL [45]) zk zj = ((p + U0.length : Nat) : Int) := by
                      rw [hzk, hzj]
                      refine find4_some (by omega) (by omega) (by omega) (at_of_drop0 (l := 93 :: ptext (xs.drop (k + 1))) (drop_more hdU0)) (fun a h1 h2 e => ?_)
                      have e1 := at_of_drop hdU0 (a - p)
                      rw [show p + (a - p) = a by omega, e, List.getElem?_append_left (by omega)] at e1
                      exact h45n (List.mem_of_getElem? e1.symm)
                    have hf2 : find4 (SL T0) (SL [45]) (((p + U0.length : Nat) : Int) + 3) zj = -1 := by
                      rw [hzj, show ((p + U0.length : Nat) : Int) + 3 = ((p + U0.length + 3 : Nat) : Int) by omega]
                      exact find4_none (by omega) (fun a h1 h2 => by omega)
                    have hzq : ((p + U0.length : Nat) : Int) + 1 = zj := by omega
                    generalize ((p + U0.length : Nat) : Int) = zu at hsl0 hf1 hf2 hzq
                    refine' While_h (WC1 T0 st D q ch [(q, bmObj (.builtin "list.append") D), (D, W.listOf vs.toArray kk), (57, op')] p zj zk zu U0) (n₀ := 1) F2 N2 ⟨_, _, [], 0, ⟨⟨_, hn⟩, ⟨_, hpat⟩, hst, ⟨_, hqm⟩, hres, hadd⟩, ⟨_, hi⟩, ⟨_, hj⟩, ⟨_, hk7⟩, hch, .inl ⟨rfl, rfl, rfl, rfl⟩, rfl⟩ ?_
                    clear hn hpat hst hqm hres hadd F2 N2 hi hj hk7 hch
                    rintro n m₁ news₁ h₂ tk₂ gs₂ hbn F N ⟨zi, zk', vs', kx, ⟨⟨t2, hn⟩, ⟨t3, hpat⟩, hst, ⟨t4, hqm⟩, hres, hadd⟩, ⟨t5, hi⟩, ⟨t6, hj⟩, ⟨t7, hk7⟩, hch, ⟨rfl, rfl, rfl, rfl⟩ | ⟨rfl, rfl, rfl, t8, rfl⟩, rfl⟩ Qb Qe hQb hQe
                    · walk
                      (with_reducible rename Fr _ _ _ _ => kF); (with_reducible rename News _ _ _ _ => kN)
                      exact hQb _ _ (WStep.next hbn kF kN (n' := 0) (by omega) ⟨zu + 1, zu + 3, [.str (SL U0) _], kx + 1, ⟨⟨_, hn⟩, ⟨_, hpat⟩, hst, ⟨_, hqm⟩, hres, hadd⟩, ⟨_, rfl⟩, ⟨_, hj⟩, ⟨_, rfl⟩, hch, .inr ⟨rfl, hzq, rfl, _, rfl⟩, rfl⟩)
                    · walk
                      (with_reducible rename Fr _ _ _ _ => kF); (with_reducible rename News _ _ _ _ => kN)
                      exact hQb _ _ (hQm _ _ (Mid.intro (fun h => hbn (hb h)) kF kN ⟨zi, [.str (SL U0) t8], kx, ⟨⟨_, hn⟩, ⟨_, hpat⟩, hst, ⟨_, hqm⟩, hres, hadd⟩, ⟨_, hi⟩, ⟨_, hj⟩, hch, .inr ⟨rfl, t8, rfl⟩, rfl⟩))
                case restw =>
                  clear hn hpat hst hqm hres hadd F2 N2 hi hj hk7 hch
                  rintro h₃ tk₃ gs₃ m₃ news₃ hb F N ⟨zi, vs', kx, ⟨⟨t2, hn⟩, ⟨t3, hpat⟩, hst, ⟨t4, hqm⟩, hres, hadd⟩, ⟨t5, hi⟩, ⟨t6, hj⟩, hch, hor, rfl⟩
                  obtain ⟨V, hV, hVo⟩ : ∃ V, Txt.slice (SL T0) (some zi) (some zj) = SL V ∧ ((V = U ∧ vs' = []) ∨ (V = [] ∧ ∃ t, vs' = [.str (SL U0) t])) := by
                    rcases hor with ⟨rfl, h⟩ | ⟨rfl, h⟩
                    · exact ⟨U, by rw [hzj]; exact set_slice hdU, .inl ⟨rfl, h⟩⟩
                    · exact ⟨[], by rw [hzj]; exact slice_mid (V := []) (R := T0.drop (p + U.length)) rfl (by omega), .inr ⟨rfl, h⟩⟩
                  have hVl : V.length ≤ 10000 := by rcases hVo with ⟨rfl, _⟩ | ⟨rfl, _⟩ <;> first | omega | simp
                  clear hor
                  try dsimp only
                  have kws := wantIf []
                  walk
                  refine' to_stop (mid_h (g57 s.heap) L s (MC1 T0 st D q ch [(q, bmObj (.builtin "list.append") D), (D, W.listOf vs.toArray kk), (57, op')] zj U) ?ifc ?restc)
                  case ifc =>
                    intro Qm hQm
                    rcases hVo with ⟨rfl, rfl⟩ | ⟨rfl, t8, rfl⟩
                    · have hVn : ¬ (V = []) := fun e => by have := congrArg List.length e; rw [hUUl] at this; simp at this
                      walk
                      (with_reducible rename Fr _ _ _ _ => kF); (with_reducible rename News _ _ _ _ => kN)
                      exact hQm _ _ (Mid.intro hb kF kN ⟨_, _, ⟨⟨_, hn⟩, ⟨_, hpat⟩, hst, ⟨_, hqm⟩, hres, hadd⟩, ⟨_, hj⟩, hch, rfl⟩)
                    · walk
                      (with_reducible rename Fr _ _ _ _ => kF); (with_reducible rename News _ _ _ _ => kN)
                      exact hQm _ _ (Mid.intro hb kF kN ⟨_, _, ⟨⟨_, hn⟩, ⟨_, hpat⟩, hst, ⟨_, hqm⟩, hres, hadd⟩, ⟨_, hj⟩, hch, by rw [hUU]⟩)
                  case restc =>
                    clear hn hpat hst hqm hres hadd hi hj hch hVo hV hVl
                    (with_reducible rename Fr _ _ _ _ => kF); (with_reducible rename News _ _ _ _ => kN)
                    clear kF kN
                    rintro h₃ tk₃ gs₃ m₃ news₃ hb F N ⟨tu, kx, ⟨⟨t2, hn⟩, ⟨t3, hpat⟩, hst, ⟨t4, hqm⟩, hres, hadd⟩, ⟨t6, hj⟩, hch, rfl⟩
                    try dsimp only
                    walk
                    refine to_stop (for_g (g57 s.heap) ?_ (by intro _; with_unfolding_all rfl))
                    walk
                    rename_i h7 tk7 t7a u7 v7 hR F7 N7 K7x
                    refine src_range0 rfl hR rfl fun I h8 St hI ⟨hI0, hIs⟩ K8 Wk hSt hhas => ?_
                    refine ⟨I, _, _, _, St, (fun i m news => (Nm T0 st D q m ∧ (∃ t, m (Str.ofString "j") = some (.int zj t)) ∧ m (Str.ofString "chunks") = some (.ref ch)) ∧ news = [(ch, W.listOf #[.str (SL U) tu] kx), (q, bmObj (.builtin "list.append") D), (D, W.listOf vs.toArray kk), (57, op')]), _, _, rfl,
                      { W := Wk, st := hSt, fr := F7.keeps K8, nw := news_keeps N7 K8, ini := ⟨⟨⟨⟨_, hn⟩, ⟨_, hpat⟩, hst, ⟨_, hqm⟩, hres, hadd⟩, ⟨_, hj⟩, hch⟩, rfl⟩, fresh := ?_, ne := ?_, off := ?_, src := ?_, go := ?_, has := hhas, mem := by simp, step := ?_, fin := ?_ }⟩
                    · cases e : (g57 s.heap).get? I with
                      | none => rfl
                      | some o => rw [F7.keep _ _ e] at hI0; cases hI0
                    · exact Nat.ne_of_lt (Nat.lt_of_lt_of_le F7.ns.lt hIs)
                    · rintro i' m' news' ⟨_, rfl⟩ p hp
                      exact Nat.ne_of_lt (Nat.lt_of_lt_of_le (Heap.lt_size (N7 p hp).1) hIs)
                    · intro b hb; exact .inl (by simpa using hb)
                    · intro i' s' v Q' _ h; exact wpAny_pure h
                    · intro i v oI m₁ news₁ h₁ tk₁ gs₁ _ hi; exact absurd hi (Nat.not_lt_zero _)
                    · clear hn hpat hst hqm hres hadd hj hch
                      rintro h' tk' gs' m' news' hbn F N ⟨⟨⟨⟨t2, hn⟩, ⟨t3, hpat⟩, hst, ⟨t4, hqm⟩, hres, hadd⟩, ⟨t6, hj⟩, hch⟩, rfl⟩
                      replace hb : AllBare s.gens → AllBare gs' := fun h => hbn (hb h)
                      clear F7 N7 K7x hR Wk hSt hhas K8 hI0
                      try dsimp only
                      walk
                      (with_reducible rename Fr _ _ _ _ => kF); (with_reducible rename News _ _ _ _ => kN)
                      refine to_stop (genexp_one (ch := ch) (tu := tu) (kx := kx) (l0 := U) (l := escL U) rfl (by rw [depth_deeper]; exact Nat.lt_trans (Nat.succ_lt_succ hA) (by decide)) kF kN (by walk_at "MY updf") t7' (CodeHd.keeps C K7) T.g ⟨B.choose, B.choose_spec.choose, B.choose_spec.choose_spec.1, B.choose_spec.choose_spec.2.1, B.choose_spec.choose_spec.2.2.1, B.choose_spec.choose_spec.2.2.2.1, K7 _ _ B.choose_spec.choose_spec.2.2.2.2.1, B.choose_spec.choose_spec.2.2.2.2.2⟩ T.nolimit
                        (.head _) (fun Q' hq => nameX_L kF hch hq) rfl (by with_unfolding_all rfl) (by decide) rfl rfl rfl ?_ (by intro _; with_unfolding_all rfl) ?_)
                      · intro A' E' C' code s₂ m₂ hA' hns hmx
                        clear kF kN hn hpat hst hqm hres hadd hj hch
                        walk
                        exact ⟨_, _, rfl, fun _ _ e => e⟩
                      · intro a op'' h9 tk9 gs9 t9 hb9 F9 N9 J9
                        have hel : (escL U).length ≤ 10000 := by have := escL_len U; omega
                        clear kF kN
                        walk
                        (with_reducible rename Fr _ _ _ _ => kF); (with_reducible rename News _ _ _ _ => kN); (with_reducible rename (AllBare _ → AllBare _) => hb10)
                        exact hQm _ _ (Mid.intro (fun h => hb10 (hb9 (hb h))) kF (news_sub kN (fun p hp => .tail _ hp)) ⟨⟨⟨_, hn⟩, ⟨_, hpat⟩, hst, ⟨_, hqm⟩, hres, hadd⟩, ⟨_, _, hj, hzj⟩, ⟨_, rfl⟩, op'', t9, rfl⟩)
              · have he45 : escL U = U := escL_free h45
                walk
                (with_reducible rename Fr _ _ _ _ => kF); (with_reducible rename News _ _ _ _ => kN)
                exact hQm _ _ (Mid.intro hb kF kN ⟨⟨⟨_, hn⟩, ⟨_, hpat⟩, hst, ⟨_, hqm⟩, hres, hadd⟩, ⟨_, _, hj, hzj⟩, ⟨_, by rw [he45]; rfl⟩, ⟨_, t7', rfl⟩⟩)
            case rest5 =>
              clear hn hpat hst hqm hres hadd F2 N2 hi hj hjz hj0 hj9 hjn c1 hsl hzj
              rintro h₃ tk₃ gs₃ m₃ news₃ hb F N ⟨⟨⟨t2, hn⟩, ⟨t3, hpat⟩, hst, ⟨t4, hqm⟩, hres, hadd⟩, ⟨zj, t6, hj, hzj⟩, ⟨ts, hstuff⟩, op'', t7'', rfl⟩
              obtain ⟨V, hV⟩ : ∃ V, V = escL U := ⟨_, rfl⟩
              rw [← hV] at hstuff
              try dsimp only
              have P36 := patAt_of X
              walk
              (with_reducible rename Fr _ _ _ _ => kF); (with_reducible rename News _ _ _ _ => kN)
              refine to_stop (lam_any kF kN (by walk_at "MY updf") t7'' (CodeHd.keeps C K7) T.g ⟨B.choose, B.choose_spec.choose, B.choose_spec.choose_spec.1, B.choose_spec.choose_spec.2.1, B.choose_spec.choose_spec.2.2.1, B.choose_spec.choose_spec.2.2.2.1, K7 _ _ B.choose_spec.choose_spec.2.2.2.2.1, B.choose_spec.choose_spec.2.2.2.2.2⟩ (by with_unfolding_all rfl) (by with_unfolding_all rfl) fun f fo fd op3 h9 tk9 t93 hfo hfd F9 N9 hlt9 => ?_)
              clear kF kN
              walk
              have hVp : ∀ c ∈ V, plainSign c := fun c hc => by
                rw [hV] at hc
                rcases escL_mem hc with rfl | hc
                · simp [plainSign]
                · rw [hU] at hc
                  rcases List.mem_append.mp hc with hc | hc
                  · cases neg <;> simp at hc; simp [plainSign, hc]
                  · have := ok2 c hc; simp [plainSign] at this ⊢; omega
              have hVl := escL_len2 U
              rw [← hV] at hVl
              have hVn : ¬ (V = []) := fun e => by rw [e] at hVl; simp at hVl; rw [hVl, hS] at hU; cases neg <;> simp at hU
              refine call_sub ((patAt_of X).keeps F9.keep) (N9 (f, fo) (.head _)).1 hfo hVp hVn (by omega) fun h10 t10 k10 hk10 => ?_
              have F10 := F9.keeps hk10
              have N10 : News (g57 s.heap) L h10 [(q, bmObj (.builtin "list.append") D), (D, W.listOf vs.toArray kk), (57, op3)] := news_sub (news_keeps N9 hk10) (fun p hp => .tail _ hp)
              clear F9 N9 hk10
              obtain ⟨v0, vr, hv⟩ : ∃ v0 vr, V = v0 :: vr := by cases V with | nil => exact absurd rfl hVn | cons a b => exact ⟨a, b, rfl⟩
              have hv0 : V[((0 : Int)).toNat]? = some v0 := by rw [hv]; rfl
              have hV33 : ¬ (V = [33]) := fun e => by
                rw [hV, hU] at e
                cases neg with
                | true =>
                  rw [hS] at e
                  have e2 : escL (sh :: sr) = [] := by simpa [escL_app, escL] using e
                  rw [escL_head] at e2; cases e2
                | false =>
                  rw [hS] at e
                  simp only [Bool.false_eq_true, if_false, List.nil_append, escL_head] at e
                  have := (List.cons.inj e).1
                  by_cases q : sh = 45
                  · rw [if_pos q] at this; cases this
                  · rw [if_neg q] at this; exact ok5 rfl (by rw [hS, this]; rfl)
              have hVl2 : V.length ≤ 9000 := by omega
              have hVl3 : V.length ≤ 10000 := by omega
              have hs1 : Txt.slice (SL V) (some 1) none = SL vr := by
                rw [hv]; exact slice_from_one v0 vr
              have hvr : vr.length + 1 = V.length := by rw [hv]; rfl
              cases neg with
              | true =>
                have hvv : V = 33 :: escL S := by rw [hV, hU]; simp [escL_app, escL]
                have hv33 : v0 = 33 := by rw [hv] at hvv; exact (List.cons.inj hvv).1
                have hck : (It.set true S).ck.txt = 91 :: 94 :: (vr ++ [93]) := by
                  rw [hS, ck_txt_t, ← hS]
                  rw [hv] at hvv
                  rw [(List.cons.inj hvv).2]
                subst hv33
                walk
                (with_reducible rename Fr _ _ _ _ => kF); (with_reducible rename News _ _ _ _ => kN)
                exact hQb _ _ (WStep.next hb kF kN (n' := 3 - (k + 1)) (by omega) ⟨k + 1, _, _, _, _, _, D, q, _, _, op3, by omega, rfl, rfl, by rw [hs, hlen]; omega, hn, hpat, hst, hqm, hres, hadd, rfl, hDq, h57, t93, hO.more hx ⟨_, by rw [hck]⟩⟩)
              | false =>
                have hvv : V = escL (sh :: sr) := by rw [hV, hU, hS]; rfl
                have hv0' : v0 = if sh = 45 then 92 else sh := by rw [hv, escL_head] at hvv; exact (List.cons.inj hvv).1
                have n33 : ¬ ([v0] = [33]) := fun e => by
                  have e1 : v0 = 33 := by cases e; rfl
                  rw [hv0'] at e1
                  by_cases q : sh = 45
                  · rw [if_pos q] at e1; cases e1
                  · rw [if_neg q] at e1; exact ok5 rfl (by rw [hS, e1]; rfl)
                have n94 : ¬ ([v0] = [94]) := fun e => by
                  have e1 : v0 = 94 := by cases e; rfl
                  rw [hv0'] at e1
                  by_cases q : sh = 45
                  · rw [if_pos q] at e1; cases e1
                  · rw [if_neg q] at e1
                    have := ok2 sh (by rw [hS]; exact .head _)
                    rw [e1] at this; simp at this
                by_cases h91 : v0 = 91
                · have hsh : sh = 91 := by
                    rw [h91] at hv0'
                    by_cases q : sh = 45
                    · rw [if_pos q] at hv0'; cases hv0'
                    · rw [if_neg q] at hv0'; exact hv0'.symm
                  have hck : (It.set false S).ck.txt = 91 :: 92 :: (V ++ [93]) := by rw [hS, hvv, hsh]; exact ck_txt_b sr
                  subst h91
                  walk
                  (with_reducible rename Fr _ _ _ _ => kF); (with_reducible rename News _ _ _ _ => kN)
                  exact hQb _ _ (WStep.next hb kF (news_sub kN (fun p hp => .tail _ hp)) (n' := 3 - (k + 1)) (by omega) ⟨k + 1, _, _, _, _, _, D, q, _, _, op3, by omega, rfl, rfl, by rw [hs, hlen]; omega, hn, hpat, hst, hqm, hres, hadd, rfl, hDq, h57, t93, hO.more hx ⟨_, by rw [hck]⟩⟩)
                · have n91 : ¬ ([v0] = [91]) := fun e => h91 (by cases e; rfl)
                  have hsh : sh ≠ 91 := fun e => h91 (by rw [hv0', e]; rfl)
                  have hck : (It.set false S).ck.txt = 91 :: (V ++ [93]) := by rw [hS, hvv]; exact ck_txt_f sr hsh
                  have hany := any_two n94 n91
                  walk
                  · (with_reducible rename Fr _ _ _ _ => kF); (with_reducible rename News _ _ _ _ => kN)
                    exact hQb _ _ (WStep.next hb kF (news_sub kN (fun p hp => .tail _ hp)) (n' := 3 - (k + 1)) (by omega) ⟨k + 1, _, _, _, _, _, D, q, _, _, op3, by omega, rfl, rfl, by rw [hs, hlen]; omega, hn, hpat, hst, hqm, hres, hadd, rfl, hDq, h57, t93, hO.more hx ⟨_, by rw [hck]⟩⟩)

    · have hk3 : k = 3 := by omega
      subst hk3
      have hp3 : tpos xs 3 = (ptext xs).length := by rw [← hxl, tpos_all]
      have hlt : ¬ (z < (T0.length : Int)) := by rw [hz, hp3, hT]; omega
      walk
      refine hQe _ ?_
      walk
      (with_reducible rename Fr _ _ _ _ => kF); (with_reducible rename News _ _ _ _ => kN)
      exact hQ _ D _ vs op' _ _ hb (fun b o hb e => kF.keep b o (g57_get e hb)) (kN (57, op') (by k_mem)).1 t7' (by
        have z := (kN (D, W.listOf vs.toArray kk) (by k_mem)).2.2
        cases e : s.heap.get? D with
        | none => rfl
        | some o => rw [g57_get e (Nat.ne_of_gt h57)] at z; cases z) (kN (D, W.listOf vs.toArray kk) (by k_mem)).1 (by rw [← hxl, List.take_length] at hO; exact hO)
end Mine
namespace Mine
open PySem PySem.W PyProof.Rows PySem.Calls
open PySem.Challenge

section
variable {prog : Program} {w : World} {A : Around} {E : Value → Shared → Prop} {s : Shared}
theorem join_L {D : Addr} {items : List Value} {k : Nat} {t : Tok} {ys : List (List Nat)} {l : List Nat} {Q : Value → Shared → Prop} (hl : s.heap.get? D = some (W.listOf items.toArray k)) (hi : StrsAre items (ys.map SL)) (he : ys.flatten = l) (hw : ys.flatten.length + ys.length ≤ 1000)
    (h : ∀ t' k, Q (.str (SL l) t') { s with toks := k }) : wpAny (model prog w) A (call (.builtin "str.join") [.str (SL []) t, .ref D]) Q E s := by
  rw [← lit0]
  exact join_SL hl hi he hw h
theorem item_at {h₀ : Heap} {L : Addr} {m : Str → Option Value} {value slice : Expr} {l : Addr} {vs : List Value} {k : Int} {u : Tok} {v : Value} {Q : Value → Shared → Prop} (F : Fr h₀ L s.heap m) (hl : h₀.IsList l vs.toArray) (h0 : 0 ≤ k) (hhi : k < 2 ^ 63) (hx : vs[k.toNat]? = some v) (h : Q v s)
    (hs : subscripted slice false (.ref l) (.int k u) = operate [.ref l, .int k u] (getItem (.ref l) (.int k u))) :
    wpAny (model prog w) A (subscriptTail value slice (.ref l) (.int k u)) Q E s :=
  tail_any (stays_list F.keep hl).typeIs slot_list_getitem.lookup (wpAny_getItem_list (stays_list F.keep hl) h0 hhi (by simpa using hx) h) hs
end
end Mine
local macro_rules | `(tactic| walk_at "subscriptTail Name Name ref int") => Mine.go ["kF"] 2 `Mine.item_at ["@kF", "hl", "h0", "hi", "hx", "_", "hs"] [("hl", "ras"), ("hx", "rfl"), ("h0", "dec"), ("hi", "dec"), ("hs", "wrfl")] []
local macro_rules | `(tactic| walk_at $s:str) => Mine.stopAt ["call builtin:str.join"] s
namespace Mine
open PySem PySem.W PyProof.Rows PySem.Calls
open PySem.Challenge
/-- the loops of _join_translated_parts -/
inductive JJ1 (a : List Nat) (D st : Addr) (n : Nat) (m : Str → Option Value) (news : List (Addr × Obj)) : Prop
  | mk (R q : Addr) (i : Int) (kk : Nat) (vs : List Value) (h1 : @LT.lt Nat instLTNat R q) (h2 : (n = 1 ∧ i = 0 ∧ vs = []) ∨ (n = 0 ∧ i = 1 ∧ ∃ t, vs = [.str (SL a) t])) (h3 : ∃ t, m (Str.ofString "i") = some (.int i t)) (h4 : ∃ t, m (Str.ofString "n") = some (.int 3 t)) (h5 : m (Str.ofString "inp") = some (.ref D))
      (h6 : m (Str.ofString "STAR") = some (.ref st)) (h7 : m (Str.ofString "res") = some (.ref R)) (h8 : m (Str.ofString "add") = some (.ref q)) (h9 : news = [(q, bmObj (.builtin "list.append") R), (R, W.listOf vs.toArray kk)]) : JJ1 a D st n m news
inductive JJ2 (a b : List Nat) (D st R q : Addr) (vs : List Value) (n : Nat) (m : Str → Option Value) (news : List (Addr × Obj)) : Prop
  | mk (i : Int) (kk : Nat) (us : List Value) (h2 : (n = 1 ∧ i = 1 ∧ us = vs) ∨ (n = 0 ∧ i = 3 ∧ ∃ t t' t'', us = [.str (SL a) t, .str (SL [46, 42]) t', .str (SL b) t''])) (h3 : ∃ t, m (Str.ofString "i") = some (.int i t)) (h4 : ∃ t, m (Str.ofString "n") = some (.int 3 t)) (h5 : m (Str.ofString "inp") = some (.ref D))
      (h6 : m (Str.ofString "STAR") = some (.ref st)) (h7 : m (Str.ofString "res") = some (.ref R)) (h8 : m (Str.ofString "add") = some (.ref q)) (h9 : news = [(q, bmObj (.builtin "list.append") R), (R, W.listOf us.toArray kk)]) : JJ2 a b D st R q vs n m news
inductive JJ3 (b : List Nat) (D st R q : Addr) (N : List (Addr × Obj)) (n : Nat) (m : Str → Option Value) (news : List (Addr × Obj)) : Prop
  | mk (i : Int) (fx : Addr) (k2 : Nat) (ws : List Value) (h1 : @LT.lt Nat instLTNat R fx) (h1' : @LT.lt Nat instLTNat q fx) (h2 : (n = 1 ∧ i = 2 ∧ ws = []) ∨ (n = 0 ∧ i = 3 ∧ ∃ t, ws = [.str (SL b) t])) (h3 : ∃ t, m (Str.ofString "i") = some (.int i t)) (h4 : ∃ t, m (Str.ofString "n") = some (.int 3 t)) (h5 : m (Str.ofString "inp") = some (.ref D))
      (h6 : m (Str.ofString "STAR") = some (.ref st)) (h7 : m (Str.ofString "res") = some (.ref R)) (h8 : m (Str.ofString "add") = some (.ref q)) (h9 : m (Str.ofString "fixed") = some (.ref fx)) (h10 : news = (fx, W.listOf ws.toArray k2) :: N) : JJ3 b D st R q N n m news
theorem join_c (w : World) (dp un : Nat) (fr : Option (List Env)) (gd : Option (List Code)) (s : Shared) (E : Value → Shared → Prop) (Q : Value → Shared → Prop) (p : Program) (loose : List Str) (mg mb : Str → Option Value)
   (D st : Addr) (a b : List Nat) (t1 t2 : Tok) (k : Nat) (hA : dp < 900) (hu : un < 500) (hr : rw_ij0087_01.row.prog = rw_ij0087_01.row.prog)
   (X : (pre.heap_1 w.params).In s.heap) (T : TopRead p loose mg mb s.heap) (hD : s.heap.get? D = some (W.listOf #[.str (SL a) t1, .ref st, .str (SL b) t2] k)) (ha : a.length ≤ 100) (hb : b.length ≤ 100)
   (hQ : ∀ h' t' k', (∀ b o, s.heap.get? b = some o → h'.get? b = some o) → Q (.str (SL ([40, 63, 115, 58] ++ (a ++ [46, 42] ++ b) ++ [41, 92, 90])) t') { s with heap := h', toks := k' })
   : wpAny (model rw_ij0087_01.row.prog w) { handled := none, depth := dp, frames := fr, guards := gd, units := un } (call (.ref 69) [.ref D, .ref st]) Q E s := by
  revert X; k_fill; intro X
  have hl : s.heap.IsList D #[.str (SL a) t1, .ref st, .str (SL b) t2] := ⟨_, hD, rfl, k, rfl⟩
  refine enter (binds := [((Str.ofString "inp"), .ref D), ((Str.ofString "STAR"), .ref st)]) X T (by k_is) (by k_is) (Nat.lt_trans hA (by decide)) (BindsTo.of_eq rfl) (locs rfl) (by decide) rfl rfl rfl rfl ?_
  intro L h₁ tk₁ hL F N
  walk
  (with_reducible rename Fr _ _ _ _ => F2); (with_reducible rename News _ _ _ _ => N2)
  refine' to_stop (While_inv (JJ1 a D st) (n₀ := 1) F2 (news_sub N2 (fun p hp => .tail _ hp)) ⟨_, _, 0, 0, [], by omega, .inl ⟨rfl, rfl, rfl⟩, ⟨_, rfl⟩, ⟨_, rfl⟩, rfl, rfl, rfl, rfl, rfl⟩ ?_)
  clear F2 N2
  rintro n m₁ news₁ h₂ tk₂ F N ⟨R, q, i, kk, vs, hRq, ⟨rfl, rfl, hvs⟩ | ⟨rfl, rfl, t3, hvs⟩, ⟨t5, hi⟩, ⟨t6, hn⟩, hinp, hst, hres, hadd, rfl⟩
  · have hvl : vs.length ≤ 10000 := by rw [hvs]; decide
    walk
    (with_reducible rename Fr _ _ _ _ => kF); (with_reducible rename News _ _ _ _ => kN)
    exact WhileStep.intro kF kN (n' := 0) (by omega) ⟨R, q, 1, _, _, hRq, .inr ⟨rfl, rfl, _, by rw [hvs]; rfl⟩, ⟨_, rfl⟩, ⟨_, hn⟩, hinp, hst, hres, hadd, rfl⟩
  · walk
    (with_reducible rename Fr _ _ _ _ => F2); (with_reducible rename News _ _ _ _ => N2)
    refine' to_stop (While_inv (JJ2 a b D st R q vs) (n₀ := 1) F2 N2 ⟨1, kk, vs, .inl ⟨rfl, rfl, rfl⟩, ⟨_, hi⟩, ⟨_, hn⟩, hinp, hst, hres, hadd, rfl⟩ ?_)
    clear F2 N2 hi hn hinp hst hres hadd
    rintro n m₁ news₁ h₂ tk₂ F N ⟨i, kk, us, ⟨rfl, rfl, hus⟩ | ⟨rfl, rfl, t3, t4, t5, hus⟩, ⟨t5, hi⟩, ⟨t6, hn⟩, hinp, hst, hres, hadd, rfl⟩
    · have hvl : us.length ≤ 10000 := by rw [hus, hvs]; simp
      walk
      (with_reducible rename Fr _ _ _ _ => F2); (with_reducible rename News _ _ _ _ => N2)
      refine' to_stop (While_inv (JJ3 b D st R q [(q, bmObj (.builtin "list.append") R), (R, W.listOf us.toArray kk)]) (n₀ := 1) F2 N2 ⟨2, _, 0, [], by omega, by omega, .inl ⟨rfl, rfl, rfl⟩, ⟨_, rfl⟩, ⟨_, hn⟩, hinp, hst, hres, hadd, rfl, rfl⟩ ?_)
      clear F2 N2 hi hn hinp hst hres hadd
      rintro n m₁ news₁ h₂ tk₂ F N ⟨i, fx, k2, ws, hR2, hq2, ⟨rfl, rfl, hws⟩ | ⟨rfl, rfl, t7, hws⟩, ⟨t5, hi⟩, ⟨t6, hn⟩, hinp, hst, hres, hadd, hfx, rfl⟩
      · have hwl : ws.length ≤ 10000 := by rw [hws]; simp
        walk
        (with_reducible rename Fr _ _ _ _ => kF); (with_reducible rename News _ _ _ _ => kN)
        exact WhileStep.intro kF kN (n' := 0) (by omega) ⟨3, fx, _, _, hR2, hq2, .inr ⟨rfl, rfl, _, by rw [hws]; rfl⟩, ⟨_, rfl⟩, ⟨_, hn⟩, hinp, hst, hres, hadd, hfx, rfl⟩
      · walk
        (with_reducible rename Fr _ _ _ _ => kF); (with_reducible rename News _ _ _ _ => kN)
        refine to_stop (join_L (ys := [b]) (l := b) (kN (fx, W.listOf ws.toArray k2) (by k_mem)).1 (by rw [hws]; exact .cons _ _ .nil) (by simp) (by simp; omega) fun t' k' => ?_)
        have hus2 : us.length + 2 ≤ 10000 := by rw [hus, hvs]; simp
        have hus3 : (us ++ [Value.str (SL [46, 42]) (k' + 1)]).length ≤ 10000 := by rw [List.length_append]; simp; omega
        have kN2 : News s.heap L _ [(q, bmObj (.builtin "list.append") R), (R, W.listOf us.toArray kk)] := news_sub kN (fun p hp => .tail _ hp)
        clear kN
        walk
        (with_reducible rename Fr _ _ _ _ => kF); (with_reducible rename News _ _ _ _ => kN)
        exact WhileStep.intro kF kN (n' := 0) (by omega) ⟨3, _, _, .inr ⟨rfl, rfl, t3, _, _, by rw [hus, hvs]; rfl⟩, ⟨_, hi⟩, ⟨_, hn⟩, hinp, hst, hres, hadd, rfl⟩
    · walk
      (with_reducible rename Fr _ _ _ _ => kF); (with_reducible rename News _ _ _ _ => kN)
      refine to_stop (join_L (ys := [a, [46, 42], b]) (l := a ++ [46, 42] ++ b) (kN (R, W.listOf us.toArray kk) (by k_mem)).1 (by rw [hus]; exact .cons _ _ (.cons _ _ (.cons _ _ .nil))) (by simp) (by simp; omega) fun t' k' => ?_)
      generalize hab : a ++ [46, 42] ++ b = ab at *
      have habl : ab.length ≤ 1000 := by rw [← hab]; simp; omega
      walk
      (with_reducible rename Fr _ _ _ _ => kF)
      exact hQ _ _ _ kF.keep
end Mine
namespace Mine
open PySem PySem.W PyProof.Rows PySem.Calls PySem.Builtin
theorem o_can : ((Manifest.find? "object").bind fun x => List.findSome? (fun t => (Manifest.find? t).bind fun b => if b.noNew = true then some true else if (b.attrs.any fun x => x.fst == "__new__") = true then some false else none) x.mro).getD false = false := by kernel_rfl
theorem o_vec : checkTypeCall "object" ⟨[], []⟩ = pure () := by kernel_rfl
theorem o_mro : mroOf (.type "object") = pure [.type "object"] := by rw [mroOf_type]; kernel_rfl
theorem o_made : Bind.madeBy (.type "object") = pure (some "object.__new__") := by kernel_rfl
theorem o_newOk : checkBuiltinCall "object.__new__" ⟨[.type "object"], []⟩ = pure () := by kernel_rfl
theorem o_entry : entryFor table "object.__new__" = some Builtin.«object.__new__» := entryFor_of_tree (by kernel_rfl)
theorem o_here : Bind.madeHere "object.__new__" (.type "object") = pure () := by kernel_rfl
theorem o_sub : isSubtype (.type "object") (.type "object") = pure true := by rw [isSubtype_type]; kernel_rfl
theorem o_no : ((Manifest.find? "object").elim false (fun x => x.mro.any fun t => (Manifest.find? t).elim false (·.noNew))) = false := by kernel_rfl
theorem o_hd : typeHasDict (.type "object") = false := by kernel_rfl
theorem o_dies : diesByItsTypesDel "object" = false := by kernel_rfl
section
variable {prog : Program} {w : World} {A : Around} {E : Value → Shared → Prop} {s : Shared}
theorem call_object {Q : Value → Shared → Prop} (h : Q (.ref s.heap.objs.size) { s with heap := s.heap.push { cls := .type "object", data := .plain } }) : wpAny (model prog w) A (call (.type "object") []) Q E s := by
  refine wpAny_call (codeAny_of_tree ?_)
  show wpAny _ _ (again (.builtin "type.__call__" ⟨[.type "object"], []⟩)) _ _ _
  refine wpAny_pure ⟨Code.quiet_builtin _ (by decide +kernel), codeAny_builtin entry_typeCall ?_⟩
  obtain ⟨hp, g, d, tk, os⟩ := s
  have hnt : (Value.type "object" == Value.type "type") = false := by decide +kernel
  have hcan := o_can
  have hchk := o_vec
  have hmro := o_mro
  have hmade := o_made
  unfold Builtin.«type.__call__»
  wp_walk
  refine codeAny_call_builtin_code (Code.quiet_builtin _ (by decide +kernel)) (wpAny_of_eq o_newOk ?_)
  refine codeAny_builtin o_entry ?_
  have hno := o_no
  have hhere := o_here
  unfold Builtin.«object.__new__»
  refine wpAny_bind (m := isType (.type "object")) (wpAny_of_eq (a := true) (by rfl) ?_)
  rw [if_neg (by decide)]
  have hhd := o_hd
  have hdies := o_dies
  dsimp only
  simp only [hno, Bool.false_eq_true, if_false]
  refine wpAny_bind (wpAny_of_eq o_here ?_)
  simp only [List.isEmpty_nil, Bool.not_true, Bool.or_false, Bool.false_eq_true, if_false, hhd, hdies]
  refine wpAny_bind (wpAny_pure ?_)
  refine wpAny_bind (wpAny_newObj_type ?_ (by size_fits))
  refine wpAny_pure ?_
  have hT : Shared.TypeIs ⟨hp.push { cls := .type "object", data := .plain }, g, d, tk, os⟩ (.ref hp.objs.size) "object" := ⟨_, Heap.get?_push_size _ rfl, rfl⟩
  show wpAny _ _ _ _ _ _
  refine wpAny_bind (wpAny_isInstance hT o_sub ?_)
  rw [if_neg (by decide)]
  refine wpAny_bind (wpAny_holding (wpAny_callSpecial?_slot hT PySem.F.slot_object_init (wpAny_call (codeAny_call_builtin PySem.F.slot_object_init.plain PySem.F.entry_object_init
    (PySem.F.slot_object_init.check _ _ _ _ _ _ _ _ hT (PySem.F.args_object_init_1 _) ?_)))))
  unfold Builtin.«object.__init__»
  simp only [List.isEmpty_nil, Bool.not_true, Bool.or_false, Bool.false_eq_true, if_false]
  refine wpAny_pure ?_
  show wpAny _ _ _ _ _ _
  rw [if_neg (by decide)]
  exact wpAny_pure h
/-- object() on the ledger -/
theorem object_N {h₀ : Heap} {L : Addr} {m : Str → Option Value} {news : List (Addr × Obj)} {Q : Value → Shared → Prop} (F : Fr h₀ L s.heap m) (N : News h₀ L s.heap news)
    (h : ∀ q h', Fr h₀ L h' m → News h₀ L h' ((q, { cls := .type "object", data := .plain }) :: news) → (∀ p ∈ news, p.1 < q) → Q (.ref q) { s with heap := h' }) : wpAny (model prog w) A (call (.type "object") []) Q E s :=
  call_object (h _ _ (F.push _) (N.push F _) fun p hp => Heap.lt_size (N p hp).1)
end
end Mine
namespace Mine
open PySem PySem.W PyProof.Rows PySem.Calls
open PySem.Challenge
local macro_rules | `(tactic| walk_at $s:str) => Mine.stopCall [62, 69] s
local macro_rules | `(tactic| walk_at "call type:object") => Mine.go ["kF", "kN"] 0 `Mine.object_N ["@kF", "@kN", "_"] [] ["cFN", "i", "i", "i", "i", "i"]
theorem outs_three {st : Addr} {ia ib : It} {vs : List Value} (h : Outs st [some ia, none, some ib] vs) : ∃ t1 t2, vs = [.str (SL ia.ck.txt) t1, .ref st, .str (SL ib.ck.txt) t2] := by
  generalize hx : [some ia, none, some ib] = X at h
  cases h with
  | nil => cases hx
  | @snoc xs2 vs2 x2 v2 h1 h2 =>
    have a := List.append_inj' (s₁ := [some ia, none]) hx rfl
    obtain ⟨rfl, a2⟩ := a
    cases a2
    generalize hy : [some ia, (none : Option It)] = Y at h1
    cases h1 with
    | nil => cases hy
    | @snoc xs3 vs3 x3 v3 h3 h4 =>
      have a := List.append_inj' (s₁ := [some ia]) hy rfl
      obtain ⟨rfl, a2⟩ := a
      cases a2
      generalize hz : [some ia] = Z at h3
      cases h3 with
      | nil => cases hz
      | @snoc xs4 vs4 x4 v4 h5 h6 =>
        have a := List.append_inj' (s₁ := []) hz rfl
        obtain ⟨rfl, a2⟩ := a
        cases a2
        have e : vs4 = [] := by have := h5.len; simpa using this
        subst e
        obtain ⟨t1, rfl⟩ := h6
        obtain ⟨t2, rfl⟩ := h2
        have h4' : v3 = .ref st := h4
        subst h4'
        exact ⟨t1, t2, rfl⟩
theorem ck_len {i : It} (h : i.ok) : i.ck.txt.length ≤ 100 := by
  cases i with
  | q => decide
  | set neg S =>
    obtain ⟨_, _, _, _, _, h6⟩ := h
    have e : ∀ l : List (Bool × Nat), (ptxt l).length ≤ 2 * l.length := by
      intro l
      induction l with
      | nil => exact Nat.le_refl _
      | cons q r ih => rw [ptxt_cons, List.length_append, List.length_cons]; cases q.1 <;> simp <;> omega
    have e1 := e (pcs neg S)
    have e2 : (pcs neg S).length = S.length := by rw [← List.length_map (f := (·.2)), pcs_snd]
    show (91 :: ((if neg then [94] else []) ++ (ptxt (pcs neg S) ++ [93]))).length ≤ 100
    cases neg <;> simp <;> omega
theorem translate_c (w : World) (dp un : Nat) (fr : Option (List Env)) (gd : Option (List Code)) (s : Shared) (E : Value → Shared → Prop) (Q : Value → Shared → Prop) (p : Program) (loose : List Str) (mg mb : Str → Option Value)
   (g : Heap) (ia ib : It) (tk : Tok) (op : Obj) (hA : dp < 890) (hu : un < 490) (hr : rw_ij0087_01.row.prog = rw_ij0087_01.row.prog) (ha : ia.ok) (hb : ib.ok)
   (Kg : ∀ b o, g.get? b = some o → s.heap.get? b = some o) (X : (pre.heap_1 w.params).In g) (T : TopRead p loose mg mb g) (B : g.BuiltinsAt mg 57) (C : Hd61 g) (G7 : g.get? 57 = none) (S7 : s.heap.get? 57 = some op) (t7 : Tab op)
   (hQ : ∀ h' t' op' tk' gs', (AllBare s.gens → AllBare gs') → (∀ b o, b ≠ 57 → s.heap.get? b = some o → h'.get? b = some o) → h'.get? 57 = some op' → Tab op' →
     Q (.str (SL ([40, 63, 115, 58] ++ ctxt [ia.ck, .dot true, ib.ck] ++ [41, 92, 90])) t') { s with heap := h', toks := tk', gens := gs' })
   : wpAny (model rw_ij0087_01.row.prog w) { handled := none, depth := dp, frames := fr, guards := gd, units := un } (call (.ref 43) [.str (SL (ptext [some ia, none, some ib])) tk]) Q E s := by
  revert X; k_fill; intro X
  have Xs := X.keeps Kg
  have Ts := T.keeps Kg
  obtain ⟨T0, hT0⟩ : ∃ T0, T0 = ptext [some ia, none, some ib] := ⟨_, rfl⟩
  rw [← hT0]
  refine enter (binds := [((Str.ofString "pat"), .str (SL T0) tk)]) Xs Ts (by k_is) (by k_is) (Nat.lt_trans hA (by decide)) (BindsTo.of_eq rfl) (locs rfl) (by decide) rfl rfl rfl rfl ?_
  intro L h₁ tk₁ hL F0 _
  have N := g57_news F0 S7
  have F := g57_fr F0
  have K7 : ∀ b o, g.get? b = some o → (g57 s.heap).get? b = some o := fun b o e => g57_get (Kg b o e) (fun q => by rw [q, G7] at e; cases e)
  have X7 := X.keeps K7
  have T7 := T.keeps K7
  clear F0 Xs Ts
  walk
  rename_i st h2 lst h3 F2 N2 _
  have hst57 : @LT.lt Nat instLTNat 57 st := lst (57, op) (by simp)
  have hL57 : L ≠ 57 := (N2 (57, op) (by k_mem)).2.1.symm
  refine to_stop ?_
  rw [hT0]
  refine trans_c w (dp + 1) (un + 3) _ gd _ _ _ p loose mg mb g ia ib tk _ st op (by omega) (by omega) rfl ha hb (fun b o e => F2.keep _ _ (K7 _ _ e)) X T B C G7 (N2 (57, op) (by k_mem)).1 t7 fun h' D k vs op' tk' gs' hb' hk' h57 t57 hDn hD hO => ?_
  obtain ⟨t1, t2, rfl⟩ := outs_three hO
  obtain ⟨oL, _, _, hoL, _⟩ := id F2.ns
  have hDL : D ≠ L := fun e => by rw [e, hoL] at hDn; cases hDn
  have F3 : Fr (g57 s.heap) L h' _ := ⟨F2.ns.at' fun o e => hk' _ o hL57 e, fun b o e => hk' b o (fun q => by rw [q, g57_none] at e; cases e) (F2.keep b o e), F2.above⟩
  have N3 : News (g57 s.heap) L h' [(D, W.listOf #[.str (SL ia.ck.txt) t1, .ref st, .str (SL ib.ck.txt) t2] k), (57, op')] := fun q hq => by
    simp only [List.mem_cons, List.not_mem_nil, or_false] at hq
    rcases hq with rfl | rfl
    · refine ⟨hD, hDL, ?_⟩
      cases e : (g57 s.heap).get? D with
      | none => rfl
      | some o => rw [F2.keep _ _ e] at hDn; cases hDn
    · exact ⟨h57, hL57.symm, g57_none⟩
  clear F2 N2 lst hk' h57 hD hO hDn hoL
  walk
  (with_reducible rename Fr _ _ _ _ => F4); (with_reducible rename News _ _ _ _ => N4)
  refine to_stop (join_c w (dp + 1) (un + 3) _ gd _ _ _ p loose mg mb D st ia.ck.txt ib.ck.txt t1 t2 k (by omega) (by omega) rfl (X7.keeps F4.keep) (T7.keeps F4.keep) (N4 (D, _) (.head _)).1 (ck_len ha) (ck_len hb) fun h9 t9 k9 hk9 => ?_)
  have e : ia.ck.txt ++ [46, 42] ++ ib.ck.txt = ctxt [ia.ck, .dot true, ib.ck] := by simp [ctxt, Ck.txt]
  rw [e]
  exact Mine.Hid.ret kQz <| hQ _ _ op' _ _ (fun h => hb' h) (fun b o hb e => hk9 _ _ (F4.keep b o (g57_get e hb))) (hk9 _ _ (N4 (57, op') (by k_mem)).1) t57
end Mine
namespace Mine
open PySem PySem.W PyProof.Rows PySem.Calls PySem.Builtin
/-- a set of texts, by what is in it -/
noncomputable def TxtSet (prog : Program) (w : World) (h : Heap) (a : Addr) (l : List Str) : Prop := ∃ n, h.SetOf (strKind prog w) a (fun k => decide (k ∈ l)) n ∧ n ≤ l.length
theorem TxtSet.keep {prog : Program} {w : World} {h h' : Heap} {a : Addr} {l : List Str} (x : TxtSet prog w h a l) (hk : ∀ o, h.get? a = some o → h'.get? a = some o) : TxtSet prog w h' a l := by
  obtain ⟨n, ⟨o, es, ep, t, ho, r⟩, hn⟩ := x
  exact ⟨n, ⟨o, es, ep, t, hk _ ho, r⟩, hn⟩
section
variable {prog : Program} {w : World} {A : Around} {E : Value → Shared → Prop} {s : Shared} {R : Result → Shared → Prop}
/-- filling it from an iterator of texts -/
theorem set_fill {I : Addr} {fp wr : List Addr} {G : Array GenState → Array GenState → Prop} {l : List Str} {P : Nat → Value → Prop} {St : Nat → Shared → Prop} (W : WalksS prog w A.in1 I fp wr G l.length P St) (S : Addr) (hSf : S ∉ fp)
    (hval : ∀ i v, P i v → ∃ x t, l[i]? = some x ∧ v = .str x t) (hb : l.length + 1 < scanBound) :
    ∀ (k i : Nat) (s : Shared), l.length - i = k → i ≤ l.length → St i s → TxtSet prog w s.heap S (l.take i) →
      (∀ s', Moved (S :: wr) G s s' → TxtSet prog w s'.heap S l → R (.ok (.ret .none)) s') →
      codeAny (model prog w) A (.builtin "set.update.loop" ⟨[.ref S, .ref I], []⟩) R s := by
  have hSw : S ∉ wr := fun h => hSf (W.sub _ h)
  have up : ∀ b ∈ wr, b ∈ S :: wr := fun b hb => List.mem_cons_of_mem _ hb
  intro k
  induction k with
  | zero =>
    intro i s hk hi hst hS hR
    have e : i = l.length := by omega
    subst e
    rw [List.take_length] at hS
    refine codeAny_builtin F.entry_set_update_loop ?_
    rw [Around.under_plainId F.plain_set_update_loop _]
    show wpAny _ A.in1 (pyNext (.ref I) >>= _) _ _ s
    refine wpAny_bind (W.done s _ _ hst fun s' hm => ?_)
    exact wpAny_pure (hR s' (hm.mono up) (hS.keep fun o e => hm.heap S _ hSw e))
  | succ k ih =>
    intro i s hk hi hst hS hR
    have hlt : i < l.length := by omega
    refine codeAny_builtin F.entry_set_update_loop ?_
    rw [Around.under_plainId F.plain_set_update_loop _]
    show wpAny _ A.in1 (pyNext (.ref I) >>= _) _ _ s
    refine wpAny_bind (W.item i s _ _ hlt hst fun v s' hP hst' hm => ?_)
    obtain ⟨x, t, hx, rfl⟩ := hval i v hP
    obtain ⟨n, hS', hn⟩ := hS.keep (h' := s'.heap) fun o e => hm.heap S _ hSw e
    rw [List.length_take] at hn
    show wpAny _ A.in1 (holding [Value.str x t] (setAdd S (.str x t)) >>= _) _ _ s'
    refine wpAny_bind (wpAny_holding ?_)
    unfold setAdd
    refine wpAny_holding (wpAny_bind ((strKind prog w).pyHash (k := x) (strKind_is _ _ _ _) ?_))
    refine wpAny_setAddHashed_of (knd := strKind prog w) (s := { s' with toks := s'.toks + 1 }) (strKind_is _ _ _ _) rfl hS' (by omega) fun h' hsb hS2 => ?_
    have hS3 : TxtSet prog w h' S (l.take (i + 1)) := by
      refine ⟨_, SetOf_congr hS2 (fun k' => ?_) rfl, ?_⟩
      · rw [List.take_add_one, hx, Bool.eq_iff_iff]
        simp only [Option.toList_some, Bool.or_eq_true, decide_eq_true_eq, List.mem_append, List.mem_singleton]
      · rw [List.length_take]; split <;> omega
    refine wpAny_pure ⟨plainId_quiet F.plain_set_update_loop _, ih (i + 1) _ (by omega) hlt (W.frame _ s' _ _ hst' (Nat.le_succ _) fun b hb o e => ?_) hS3 fun s'' hm'' hS'' => ?_⟩
    · rw [hsb.2 b (fun h : b = S => hSf (by rw [← h]; exact hb))]; exact e
    · refine hR s'' (Moved.trans W.gtrans ((hm.mono up).then_heap (Nat.le_succ _) fun b o hb e => ?_) hm'') hS''
      rw [hsb.2 b (fun h : b = S => hb (by rw [h]; exact List.mem_cons_self))]; exact e
theorem strs_at : ∀ {vs : List Value} {ys : List Str}, StrsAre vs ys → ∀ (i : Nat) (v : Value), vs[i]? = some v → ∃ x t, ys[i]? = some x ∧ v = .str x t
  | _, _, .nil, i, v, h => by simp at h
  | _, _, .cons a u h, 0, v, hv => by simp at hv; exact ⟨a, u, rfl, hv.symm⟩
  | _, _, .cons a u h, i + 1, v, hv => by simpa using strs_at h i v (by simpa using hv)
theorem strs_len : ∀ {vs : List Value} {ys : List Str}, StrsAre vs ys → vs.length = ys.length
  | _, _, .nil => rfl
  | _, _, .cons a u h => by simp [strs_len h]
set_option maxHeartbeats 3200000 in
theorem set_of_list {l : Addr} {vs : List Value} {ys : List Str} {Q : Value → Shared → Prop} (hh : A.handled = none) (hl : s.heap.IsList l vs.toArray) (hi : StrsAre vs ys) (hb : ys.length + 1 < scanBound)
    (h : ∀ (h' : Heap) (tk : Nat), TxtSet prog w h' s.heap.objs.size ys → (∀ b o, s.heap.get? b = some o → h'.get? b = some o) → Q (.ref s.heap.objs.size) { s with heap := h', toks := tk }) :
    wpAny (model prog w) A (call (.type "set") [.ref l]) Q E s := by
  obtain ⟨c, tl, hmro⟩ := F.called_set.mro
  have hmade := F.called_set.made
  have hsub := F.called_set.sub
  have h1 := F.called_set.notType
  have h2 := F.called_set.canCreate
  have hct := F.typeCall_set_1 (.ref l)
  have hlS : l < s.heap.objs.size := by obtain ⟨o, ho, _⟩ := hl; exact Heap.lt_size ho
  refine wpAny_call (codeAny_of_tree ?_)
  show wpAny _ _ (callAny (.type "set") _) _ _ _
  refine wpAny_pure ⟨Code.quiet_builtin _ (by decide +kernel), codeAny_builtin F.entry_type_call ?_⟩
  rw [Around.under_plain (weight_type_call_type "set" [.ref l] []) rfl]
  repeat (any_goals (first | with_reducible assumption | wp_step))
  refine codeAny_mono (code_set_new_1 (.ref l) (E := E) (Q₁ := fun obj s₁ => ∃ led : Bool, obj = .ref s.heap.objs.size ∧ s₁ = { s with heap := s.heap.push { cls := .type "set", dict := none, data := .set #[] 0 (.fresh 0 0 led) } }) fun led => ⟨led, rfl, rfl⟩) fun r s₁ hr => ?_
  rcases r with e | fl
  · exact hr
  cases fl with
  | next => exact hr.elim
  | brk => exact hr.elim
  | cont => exact hr.elim
  | ret obj =>
    obtain ⟨led, rfl, rfl⟩ := hr
    generalize hH : s.heap.push { cls := .type "set", dict := none, data := .set #[] 0 (.fresh 0 0 led) } = H
    have hS : H.get? s.heap.objs.size = some { cls := .type "set", dict := none, data := .set #[] 0 (.fresh 0 0 led) } := by rw [← hH]; exact Heap.get?_push_size _ rfl
    have up : ∀ b o, s.heap.get? b = some o → H.get? b = some o := fun b o e => by rw [← hH]; exact Heap.get?_push_of_some _ e
    have hsz : H.objs.size = s.heap.objs.size + 1 := by rw [← hH]; exact Heap.size_push _ _
    have hT : Shared.TypeIs { s with heap := H } (.ref s.heap.objs.size) "set" := ⟨_, hS, rfl⟩
    have hli := F.called_set.init.lookup
    have hbi := F.called_set.init.bind (.ref s.heap.objs.size)
    repeat (any_goals (first | with_reducible assumption | wp_step))
    refine codeAny_mono (codeAny_call_builtin (R := wants (fun r s₂ => r = .none ∧ ∃ h' tk, s₂ = { s with heap := h', toks := tk } ∧ TxtSet prog w h' s.heap.objs.size ys ∧ (∀ b o, s.heap.get? b = some o → h'.get? b = some o)) E) F.called_set.init.plain F.entry_set_init (check_set_init_1 hT ?_)) fun r₂ s₂ hr₂ => ?_
    · obtain ⟨⟨ocls, odict, odata, oslots⟩, hol, hcl, nl, hdl⟩ := hl
      simp only at hcl hdl
      subst hcl; subst hdl
      have hol' := up _ _ hol
      have hsls := F.sub_list_set
      have hslf := F.sub_list_frozenset
      have hne : (Value.type "list" == Value.type "dict") = false := by decide
      have hl1 : H.IsList l vs.toArray := ⟨_, hol', rfl, nl, rfl⟩
      unfold Builtin.«set.__init__» noKeywords Builtin.Frozenset.updateFrom
      generalize hPI : pyIter = PI
      wp_walk
      subst hPI
      refine wpAny_pyIter_list hl1 ?_
      refine wpAny_bind (wpAny_runValue ?_)
      have hh3 : A.in1.in1.in1.handled = none := by simp [hh]
      have hneI : l ≠ H.objs.size := by rw [hsz]; exact Nat.ne_of_lt (Nat.lt_succ_of_lt hlS)
      have hSf : s.heap.objs.size ∉ [H.objs.size, l] := by
        rw [hsz]; simp only [List.mem_cons, List.not_mem_nil, or_false, not_or]
        exact ⟨Nat.ne_of_lt (Nat.lt_succ_self _), Nat.ne_of_gt hlS⟩
      have hn : vs.toArray.size = ys.length := by rw [List.size_toArray, strs_len hi]
      have W := (Walks.list (prog := prog) (w := w) hh3 _ l hneI vs.toArray).toS
      rw [hn] at W
      refine set_fill (l := ys) W s.heap.objs.size hSf (fun i v hv => strs_at hi i v (by simpa using hv)) hb (ys.length - 0) 0 _ (by omega) (Nat.zero_le _) ⟨⟨_, Heap.get?_push_size _ rfl, rfl, rfl⟩, hl1.push _⟩ ?_ ?_
      · exact ⟨0, SetOf_congr ((setObjOf_fresh (knd := strKind prog w) led).setOf (Heap.get?_push_of_some _ hS) (by unfold scanBound; omega)) (fun _ => by simp) rfl, Nat.zero_le _⟩
      · intro s' hm hS'
        obtain ⟨h', g', d', tk', os'⟩ := s'
        have eg : g' = s.gens := hm.gens
        have ed : d' = s.drawn := hm.drawn
        have eo : os' = s.os := hm.os
        subst eg; subst ed; subst eo
        show wpAny _ _ _ _ _ _
        refine wpAny_pure ?_
        show wpAny _ _ (ret Value.none) _ _ _
        refine wpAny_pure ⟨rfl, h', tk', rfl, hS', fun b o e => ?_⟩
        have hlt := Heap.lt_size e
        refine hm.heap b o ?_ (Heap.get?_push_of_some _ (up _ _ e))
        simp only [List.mem_cons, List.not_mem_nil, or_false, not_or]
        exact ⟨Nat.ne_of_lt hlt, by show b ≠ H.objs.size; rw [hsz]; exact Nat.ne_of_lt (Nat.lt_succ_of_lt hlt)⟩
    · rcases r₂ with e | fl₂
      · exact hr₂
      cases fl₂ with
      | next => exact hr₂.elim
      | brk => exact hr₂.elim
      | cont => exact hr₂.elim
      | ret r =>
        obtain ⟨rfl, h', tk, rfl, hS', hk'⟩ := hr₂
        repeat (any_goals (first | with_reducible assumption | wp_step))
        exact h _ _ hS' hk'
end
end Mine
namespace Mine
open PySem PySem.W PyProof.Rows PySem.Calls PySem.Builtin PySem.Builtin.ObjectAttr
theorem sc_lookup : typeLookup (.type "set") "__contains__" = pure (some (.builtin "set.__contains__")) := by rw [typeLookup_type, builtinLookup_eq_fast]; kernel_rfl
theorem sc_mdtype : isSubtype (.type "set") (.type "set") = pure true := by rw [isSubtype_type]; kernel_rfl
theorem sc_md_meets (a : Addr) :
    Meets (Builtin.«method_descriptor.__get__» ⟨[.builtin "set.__contains__", .ref a, .type "set"], []⟩) (fun A R s => s.TypeIs (.ref a) "set" ∧
      R (.ok (.ret (.ref s.heap.objs.size))) { s with heap := s.heap.push (bmObj (.builtin "set.__contains__") a) }) :=
  Meets.of_wp fun prog w A R s hs => by
    obtain ⟨hp, g, d, tk, os⟩ := s
    obtain ⟨hT, hs⟩ := hs
    have e5 : Manifest.toldItsClass.contains "set.__contains__" = false := by decide +kernel
    have e6 := sc_mdtype
    unfold Builtin.«method_descriptor.__get__»
    refine wpAny_bind (wpAny_of_eq (a := (Value.builtin "set.__contains__", some (Value.ref a), some (Value.type "set"))) (by rfl) ?_)
    dsimp only
    rw [e5]
    simp only [Bool.false_eq_true, if_false]
    refine wpAny_bind (wpAny_bind (wpAny_of_eq (a := ((Str.ofString "__contains__" : Str), Value.type "set")) (by kernel_rfl) ?_))
    dsimp only
    repeat (any_goals (first | with_reducible assumption | wp_step))
    exact ⟨_, rfl, hs⟩
theorem sc_getattr : Slot "set" "__getattribute__" "set.__getattribute__" := PySem.F.slot_set_getattribute
theorem sc_entry_getattr : entryFor table "set.__getattribute__" = some Builtin.«object.__getattribute__» := entryFor_alias (id' := "object.__getattribute__") (by rw [fastTable_eq_tree]; kernel_rfl) (by first | rfl | decide +kernel) (by decide +kernel) (by rw [fastTable_eq_tree]; kernel_rfl)
theorem sc_noget : typeLookup (.type "set") "__getattr__" = pure none := PySem.F.plainAttrs_set.noGetattr
theorem sc_meets (a : Addr) (es : Array (Int × Value)) (ep : Nat) (tb : SetTable) (u : Tok) :
    Meets (Builtin.«object.__getattribute__» ⟨[.ref a, .str (Str.ofString "__contains__") u], []⟩) (fun A R s => s.heap.get? a = some { cls := .type "set", data := .set es ep tb } ∧
      R (.ok (.ret (.ref s.heap.objs.size))) { s with heap := s.heap.push (bmObj (.builtin "set.__contains__") a) }) :=
  Meets.of_wp fun prog w A R s hs => by
    obtain ⟨hp, g, d, tk, os⟩ := s
    obtain ⟨hx, hs⟩ := hs
    have hT : (⟨hp, g, d, tk, os⟩ : Shared).TypeIs (.ref a) "set" := ⟨_, hx, rfl⟩
    have t1 := PySem.F.type_set_contains
    have e1 := sc_lookup
    have e2 := bm_get
    have e3 := bm_set
    have e4 := bm_del
    unfold Builtin.«object.__getattribute__»
    repeat (any_goals (first | with_reducible assumption | wp_step))
    refine codeAny_call_builtin slot_md.plain bm_entry (slot_md.check _ _ _ _ _ _ _ _ (show Shared.TypeIs _ (.builtin "set.__contains__") "method_descriptor" from t1) (args_md _ _ _) ?_)
    exact sc_md_meets a prog w A.in1 (fun r s' => match r with
      | .ok (.ret v) => wpAny (model prog w) A.in1 (ret v) (fun fin s' => ∃ v, fin = Fin.done (Flow.ret v) ∧ R (Except.ok (Flow.ret v)) s') (fun e s' => R (Except.error e) s') s'
      | .ok _ => False
      | .error e => R (.error e) s') _ ⟨hT, wpAny_pure ⟨_, rfl, hs⟩⟩
theorem getAttr_contains {prog : Program} {w : World} {A : Around} {E : Value → Shared → Prop} {s : Shared} {a : Addr} {es : Array (Int × Value)} {ep : Nat} {tb : SetTable} {Q : Value → Shared → Prop}
    (hx : s.heap.get? a = some { cls := .type "set", data := .set es ep tb })
    (h : ∀ tk, Q (.ref s.heap.objs.size) { s with heap := s.heap.push (bmObj (.builtin "set.__contains__") a), toks := tk }) :
    wpAny (model prog w) A (getAttr (.ref a) (Str.ofString "__contains__") true) Q E s := by
  obtain ⟨hp, g, d, tk, os⟩ := s
  have hT : ∀ tk', (⟨hp, g, d, tk', os⟩ : Shared).TypeIs (.ref a) "set" := fun _ => ⟨_, hx, rfl⟩
  have f3 := sc_getattr.lookup
  have f4 := sc_getattr.bind (.ref a)
  have f5 := sc_noget
  unfold getAttr getAttrBy
  repeat (any_goals (first | assumption | exact hT _ | ((with_reducible show wpAny _ _ (call (Value.builtin "set.__getattribute__") _ _) _ _ _); refine call_meets sc_getattr (hT _) sc_entry_getattr (PySem.F.args_set_getattribute_2 _ _) (sc_meets a es ep tb _) ⟨hx, ?_⟩) | wp_step))
  exact wpAny_pure (h _)
theorem set_obj {prog : Program} {w : World} {h : Heap} {a : Addr} {S : Str → Bool} {n : Nat} (x : h.SetOf (strKind prog w) a S n) : ∃ es ep tb, h.get? a = some { cls := .type "set", data := .set es ep tb } := by
  obtain ⟨⟨c, dd, dt, sl⟩, es, ep, tb, ho, ⟨h1, h2, h3⟩, hd, _⟩ := x
  dsimp only at h1 h2 h3 hd
  subst h1 h2 h3 hd
  exact ⟨es, ep, tb, ho⟩
theorem kind_contains : builtinKind "set.__contains__" = some .method := by decide +kernel
theorem call_contains {prog : Program} {w : World} {A : Around} {E : Value → Shared → Prop} {s : Shared} {q a : Addr} {l : List Str} {x : Str} {t : Tok} {Q : Value → Shared → Prop}
    (hq : s.heap.get? q = some (bmObj (.builtin "set.__contains__") a)) (hS : TxtSet prog w s.heap a l)
    (h : Q (.bool (decide (x ∈ l))) { s with toks := s.toks + 1 }) :
    wpAny (model prog w) A (call (.ref q) [.str x t]) Q E s := by
  obtain ⟨n, hS, hn⟩ := hS
  obtain ⟨es, ep, tb, hx⟩ := set_obj hS
  refine wpAny_call (codeAny_of_tree ?_)
  show wpAny _ A.in1 (callAny (.ref q) ⟨[.str x t], []⟩) _ _ s
  simp only [callAny]
  refine wpAny_bind (wpAny_load hq ?_)
  simp only [bmObj, show (Value.type "builtin_function_or_method" == Value.type "method" || Value.type "builtin_function_or_method" == Value.type "builtin_function_or_method" || Value.type "builtin_function_or_method" == Value.type "method-wrapper") = true by decide, if_true]
  refine wpAny_bind (m := checkBoundCall "set.__contains__" ⟨[.ref a, .str x t], []⟩) ?_
  have hT : s.TypeIs (.ref a) "set" := hS.typeIs
  unfold checkBoundCall
  obtain ⟨hp, g, d, tk, os⟩ := s
  repeat (any_goals (first | with_reducible assumption | wp_step))
  have s1 : isSubtype (.type "set") (.type "module") = pure false := by rw [isSubtype_type]; kernel_rfl
  have s2 : isSubtype (.type "set") (.type "type") = pure false := by rw [isSubtype_type]; kernel_rfl
  refine wpAny_of_eq s1 ?_
  have s3 : Manifest.varargsMethods.contains "set.__contains__" = false := by decide +kernel
  rw [s3]
  rw [if_neg (by decide)]
  refine wpAny_bind (wpAny_mono (Q := fun b s' => b = false ∧ s' = (⟨hp, g, d, tk, os⟩ : Shared)) ?_ (fun b s' hb => ?_) fun _ _ e => e)
  · unfold isType
    repeat (any_goals (first | with_reducible assumption | wp_step))
    exact ⟨rfl, rfl⟩
  obtain ⟨rfl, rfl⟩ := hb
  simp only [Bool.false_eq_true, if_false]
  refine wpAny_bind (wpAny_mono (Q := fun c s' => c = Value.type "set" ∧ s' = (⟨hp, g, d, tk, os⟩ : Shared)) ?_ (fun c s' hb => ?_) fun _ _ e => e)
  · repeat (any_goals (first | with_reducible assumption | wp_step))
    exact ⟨rfl, rfl⟩
  obtain ⟨rfl, rfl⟩ := hb
  refine wpAny_of_eq (a := ()) (by kernel_rfl) ?_
  refine wpAny_pure ?_
  refine ⟨by kernel_rfl, codeAny_builtin entry_set_contains ?_⟩
  unfold Builtin.«frozenset.__contains__» Builtin.Frozenset.oneOther
  simp only [List.isEmpty_nil, bind_assoc]
  unfold Builtin.Frozenset.addrOf Builtin.Frozenset.withSetAsKey setContains
  refine wpAny_bind (wpAny_pure ?_)
  try dsimp only
  refine wpAny_bind (wpAny_pure ?_)
  try dsimp only
  refine wpAny_bind (wpAny_tryCatch ?_)
  refine wpAny_holding ?_
  refine wpAny_bind ((strKind prog w).pyHash (k := x) (strKind_is _ _ _ _) ?_)
  refine wpAny_bind (wpAny_setFind_of (knd := strKind prog w) (strKind_is _ _ _ _) rfl hS fun r hr => ?_)
  refine wpAny_pure ?_
  rw [hr]
  exact wpAny_pure h
end Mine
local macro_rules | `(tactic| walk_at $s:str) => Mine.stopAt ["call type:set"] s
local macro_rules | `(tactic| walk_at "getAttr ref") => `(tactic| with_reducible refine Mine.stop_contains ?_)
namespace Mine
open PySem PySem.W PyProof.Rows PySem.Calls
open PySem.Challenge
section
variable {prog : Program} {w : World} {A : Around} {E : Value → Shared → Prop} {s : Shared} {h₀ : Heap} {L : Addr} {m : Str → Option Value} {news : List (Addr × Obj)}
/-- a set of texts, as an object -/
noncomputable def TxtO (prog : Program) (w : World) (o : Obj) (l : List Str) : Prop := ∃ n, o.SetObjOf (strKind prog w) (fun k => decide (k ∈ l)) n ∧ n ≤ l.length
theorem TxtO.at {h : Heap} {a : Addr} {o : Obj} {l : List Str} (x : TxtO prog w o l) (ho : h.get? a = some o) (hb : l.length ≤ 1000) : TxtSet prog w h a l := by
  obtain ⟨n, hs, hn⟩ := x
  exact ⟨n, hs.setOf ho (by unfold scanBound; omega), hn⟩
theorem set_N {l : Addr} {vs : List Value} {ys : List Str} {Q : Value → Shared → Prop} (F : Fr h₀ L s.heap m) (N : News h₀ L s.heap news) (hh : A.handled = none) (hl : s.heap.IsList l vs.toArray) (hi : StrsAre vs ys) (hb : ys.length ≤ 1000)
    (h : ∀ q o h' tk, Fr h₀ L h' m → News h₀ L h' ((q, o) :: news) → TxtO prog w o ys → (∀ b o, s.heap.get? b = some o → h'.get? b = some o) → (∀ p ∈ news, p.1 < q) → Q (.ref q) { s with heap := h', toks := tk }) :
    wpAny (model prog w) A (call (.type "set") [.ref l]) Q E s := by
  refine set_of_list hh hl hi (by unfold scanBound; omega) fun h' tk hS hk => ?_
  obtain ⟨n, hS, hn⟩ := hS
  obtain ⟨o, ho, hso⟩ := hS.objOf
  refine h _ o h' tk (F.keeps hk) (fun p hp => ?_) ⟨n, hso, hn⟩ hk (fun p hp => Heap.lt_size (N p hp).1)
  rcases List.mem_cons.mp hp with rfl | hp
  · exact ⟨ho, Nat.ne_of_gt F.ns.lt, Heap.get?_none_of_le (Nat.le_trans F.above (Nat.le_of_lt F.ns.lt))⟩
  · exact news_keeps N hk p hp
theorem contains_N {a : Addr} {o : Obj} {l : List Str} {Q : Value → Shared → Prop} (F : Fr h₀ L s.heap m) (N : News h₀ L s.heap news) (hm : (a, o) ∈ news) (ht : TxtO prog w o l) (hb : l.length ≤ 1000)
    (h : ∀ q h' tk, Fr h₀ L h' m → News h₀ L h' ((q, bmObj (.builtin "set.__contains__") a) :: news) → (∀ p ∈ news, p.1 < q) → Q (.ref q) { s with heap := h', toks := tk }) :
    wpAny (model prog w) A (getAttr (.ref a) (Str.ofString "__contains__") true) Q E s := by
  obtain ⟨n, hS, hn⟩ := ht.at (N _ hm).1 hb
  obtain ⟨es, ep, tb, hx⟩ := set_obj hS
  exact getAttr_contains hx fun tk => h _ _ tk (F.push _) (N.push F _) fun p hp => Heap.lt_size (N p hp).1
/-- a list's iterator, as an object -/
noncomputable abbrev itObj (a : Addr) (i : Nat) : Obj := { cls := .type "list_iterator", data := .fields #[.ref a, rawInt (i : Int)] }
theorem iter_N {a : Addr} {items : Array Value} {Q : Value → Shared → Prop} (F : Fr h₀ L s.heap m) (N : News h₀ L s.heap news) (hl : s.heap.IsList a items)
    (h : ∀ I h', Fr h₀ L h' m → News h₀ L h' ((I, itObj a 0) :: news) → (∀ p ∈ news, p.1 < I) → Q (.ref I) { s with heap := h' }) :
    wpAny (model prog w) A (call (.builtin "iter") [.ref a]) Q E s := by
  refine call_function_entry (by decide +kernel) (by decide +kernel) kdk_entry_iter (kdk_args_iter _) ?_
  unfold Builtin.«iter»
  refine wpAny_bind (m := someArgs "iter" 1 2 _) (wpAny_of_eq (a := [Value.ref a]) (by rfl) ?_)
  show wpAny _ _ (pyIter (.ref a) >>= _) _ _ _
  refine wpAny_bind (wpAny_pyIter_list hl ?_)
  exact wpAny_pure ⟨_, rfl, h _ _ (F.push _) (News.push F N _ rfl) fun q hq => Heap.lt_size (N q hq).1⟩
/-- a def without cells, at the code -/
theorem enterK {R : Result → Shared → Prop} {K : Frag} {p : Program} {loose : List Str} {mg mb : Str → Option Value}
    {name qual : Str} {params : Arguments} {body : List Stmt} {scope : Scope} {dV kV doc pm cdv ct oc : Value} {an od : Option Addr} {osl : Array (Option Value)} {f : Addr} {args : List Value} {binds : List (Str × Value)}
    (X : K.In s.heap) (T : TopRead p loose mg mb s.heap)
    (ho : K.lookup f = some ⟨oc, od, .func (fnOf name qual params body scope dV kV doc pm an cdv ct), osl⟩) (hcd : codeIn K cdv qual = true) (hroom : A.depth < recursionLimit)
    (hbind : BindsTo s (fnOf name qual params body scope dV kV doc pm an cdv ct) ⟨args, []⟩ binds)
    (hloc : ∀ x ∈ binds, scope.names.lookup x.1 = some .local) (hcell : ∀ x ∈ scope.names, x.2 ≠ .cell)
    (hco : scope.isCoroutine = false) (hgen : scope.isGenerator = false) (hk : scope.kind = .function)
    (h : ∀ L h₁ tk, L = s.heap.objs.size → Fr s.heap L h₁ (fun x => binds.reverse.lookup x) → (∀ b o, s.heap.get? b = some o → h₁.get? b = some o) →
      wpAny (model prog w) (A.deeper (envX qual scope L f cdv [])) (execs body (envX qual scope L f cdv []))
        (fun fl s' => R (.ok (.ret (match fl with | .ret v => v | _ => .none))) s') (fun e s' => wpAny (model prog w) (A.deeper (envX qual scope L f cdv [])) (leaving (envX qual scope L f cdv []) e) (fun _ s'' => R (.error e) s'') (fun e' s'' => R (.error e') s'') s') { s with heap := h₁, toks := tk }) :
    codeAny (model prog w) A (.call (.ref f) ⟨args, []⟩) R s :=
  codeAny_call_def (fd := fnX name qual params body scope [] dV kV doc pm an cdv ct) (body := body) (binds := binds) hroom (X _ _ ho) rfl T.nolimit (codeRec_of X hcd) rfl hbind hcell hloc
    (fun h₁ hns hk₁ => h s.heap.objs.size h₁ _ rfl ⟨hns, hk₁, Nat.le_refl _⟩ hk₁) hco hgen hk
end
end Mine
namespace Mine
open PySem PySem.W PyProof.Rows PySem.Calls
open PySem.Challenge
/-- a filterfalse of a set's __contains__ over a list, i items on -/
structure FF (prog : Program) (w : World) (h : Heap) (x dx I q S : Addr) (oS : Obj) (a : Addr) (i : Nat) (yb : List Str) : Prop where
  inst : h.get? x = some { cls := .ref 102, dict := some dx, data := .plain, slots := #[some (.ref q), some (.ref I)] }
  dict : h.get? dx = some (dictOf [] 0)
  it : h.get? I = some (itObj a i)
  bm : h.get? q = some (bmObj (.builtin "set.__contains__") S)
  set : h.get? S = some oS
  txt : TxtO prog w oS yb
  nd : x ≠ I ∧ dx ≠ I ∧ q ≠ I ∧ S ≠ I
theorem diff_c (w : World) (dp un : Nat) (fr : Option (List Env)) (gd : Option (List Code)) (s : Shared) (E : Value → Shared → Prop) (Q : Value → Shared → Prop) (p : Program) (loose : List Str) (mg mb : Str → Option Value)
   (a b : Addr) (va vb : List Value) (ya yb : List Str) (hA : dp < 890) (hu : un < 490) (hr : rw_ij0087_01.row.prog = rw_ij0087_01.row.prog)
   (X : (pre.heap_1 w.params).In s.heap) (T : TopRead p loose mg mb s.heap) (ha : s.heap.IsList a va.toArray) (hb : s.heap.IsList b vb.toArray) (hya : StrsAre va ya) (hyb : StrsAre vb yb) (hla : ya.length ≤ 1000) (hlb : yb.length ≤ 1000)
   (hQ : ∀ h' tk' x dx I q S oS, (∀ b o, s.heap.get? b = some o → h'.get? b = some o) → (∀ c ∈ [x, dx, I, q, S], s.heap.get? c = none) → FF rw_ij0087_01.row.prog w h' x dx I q S oS a 0 yb → Q (.ref x) { s with heap := h', toks := tk' })
   : wpAny (model rw_ij0087_01.row.prog w) { handled := none, depth := dp, frames := fr, guards := gd, units := un } (call (.ref 113) [.ref a, .ref b]) Q E s := by
  revert X; k_fill; intro X
  refine enter (binds := [((Str.ofString "minuend"), .ref a), ((Str.ofString "subtrahend"), .ref b)]) X T (by k_is) (by k_is) (Nat.lt_trans hA (by decide)) (BindsTo.of_eq rfl) (locs rfl) (by decide) rfl rfl rfl rfl ?_
  intro L h₁ tk₁ hL F N
  walk
  (with_reducible rename Fr _ _ _ _ => kF); (with_reducible rename News _ _ _ _ => kN)
  refine to_stop (set_N kF kN rfl (stays_list kF.keep hb) hyb hlb fun S oS h2 tk2 F2 N2 hTS hk2 hlt2 => ?_)
  clear kF kN
  walk
  (with_reducible rename Fr _ _ _ _ => kF); (with_reducible rename News _ _ _ _ => kN)
  refine to_stop (contains_N kF kN (by simp) hTS hlb fun q h3 tk3 F3 N3 hlt3 => ?_)
  clear kF kN
  walk
  refine call_cls (C := 102) (fI := 84) F3 X N3 (by k_is) (by k_is) (by k_is) fun x dx h4 F4 N4 hd4 hx4 => ?_
  refine enterK (binds := [((Str.ofString "self"), .ref x), ((Str.ofString "function"), .ref q), ((Str.ofString "iterable"), .ref a)]) (X.keeps F4.keep) (T.keeps F4.keep) (by k_is) (by k_is) ?room (BindsTo.of_eq rfl) (locs rfl) (by decide) rfl rfl rfl ?_
  case room => simp only [depth_under_make, depth_deeper]; have : recursionLimit = 1000 := rfl; omega
  intro L5 h5 tk5 hL5 F5 hk5
  have hL5' : L5 = h4.objs.size := hL5
  have F6 := (show Fr s.heap L5 h5 _ from ⟨F5.ns, fun b o e => hk5 _ _ (F4.keep b o e), Nat.le_trans F4.above (Nat.le_of_lt (by rw [hL5']; exact F4.ns.lt))⟩)
  have N6 : News s.heap L5 h5 [(x, instObj 102 dx), (dx, dictOf [] 0), (q, bmObj (.builtin "set.__contains__") S), (S, oS)] := fun p hp => ⟨hk5 _ _ (N4 p hp).1, by rw [hL5']; exact Nat.ne_of_lt (Heap.lt_size (N4 p hp).1), (N4 p hp).2.2⟩
  have hSq : @LT.lt Nat instLTNat S q := hlt3 (S, oS) (by simp)
  have hqd : @LT.lt Nat instLTNat q dx := hd4 (q, bmObj (.builtin "set.__contains__") S) (.head _)
  have hdx : @LT.lt Nat instLTNat dx x := hx4
  have hal : s.heap.IsList a va.toArray := ha
  clear F3 F4 F5 N3 N4 hk5 hk2 hL5 hL5' hlt2 hlt3 hd4 hx4 ha
  walk
  (with_reducible rename Fr _ _ _ _ => kF); (with_reducible rename News _ _ _ _ => kN)
  refine iter_N kF kN (stays_list kF.keep hal) fun I h6 F7 N7 hI6 => ?_
  have hxI : @LT.lt Nat instLTNat x I := hI6 (x, _) (.head _)
  clear kF kN hI6
  walk
  (with_reducible rename Fr _ _ _ _ => kF); (with_reducible rename News _ _ _ _ => kN)
  refine ⟨rfl, Mine.Hid.ret (by with_reducible assumption) <| hQ _ _ x dx I q S oS kF.keep ?_ ⟨(kN (x, _) (by k_mem)).1, (kN (dx, _) (by k_mem)).1, (kN (I, _) (by k_mem)).1, (kN (q, _) (by k_mem)).1, (kN (S, _) (by k_mem)).1, hTS, Nat.ne_of_lt hxI, Nat.ne_of_lt (Nat.lt_trans hdx hxI), Nat.ne_of_lt (Nat.lt_trans hqd (Nat.lt_trans hdx hxI)), Nat.ne_of_lt (Nat.lt_trans hSq (Nat.lt_trans hqd (Nat.lt_trans hdx hxI)))⟩⟩
  intro c hc
  simp only [List.mem_cons, List.not_mem_nil, or_false] at hc
  rcases hc with rfl | rfl | rfl | rfl | rfl
  · exact (kN (c, _) (.tail _ (.head _))).2.2
  · exact (kN (c, _) (.tail _ (.tail _ (.head _)))).2.2
  · exact (kN (c, _) (.head _)).2.2
  · exact (kN (c, _) (.tail _ (.tail _ (.tail _ (.head _))))).2.2
  · exact (kN (c, _) (.tail _ (.tail _ (.tail _ (.tail _ (.head _)))))).2.2
end Mine
namespace Mine
open PySem PySem.W PyProof.Rows PySem.Calls
section
variable {prog : Program} {w : World} {A : Around} {E : Value → Shared → Prop} {s : Shared} {h₀ : Heap} {L : Addr} {m : Str → Option Value} {rest : List (Addr × Obj)}
theorem itObj_step {h : Heap} {I a : Addr} {i : Nat} (ho : h.get? I = some (itObj a i)) :
    (h.update I (Obj.mapFields (·.setIfInBounds 1 (rawInt ((i : Int) + 1))))).get? I = some (itObj a (i + 1)) := by
  refine (Heap.get?_update_self _ ho rfl).trans ?_
  simp [Obj.mapFields, rawInt]
theorem itObj_iter {h : Heap} {I a : Addr} {i : Nat} (ho : h.get? I = some (itObj a i)) : h.IsListIter I a i := ⟨_, ho, rfl, rfl⟩
/-- next of a list's iterator, an item there -/
theorem next_item {I a : Addr} {i : Nat} {items : Array Value} {x : Value} {Q : Value → Shared → Prop} (F : Fr h₀ L s.heap m) (N : News h₀ L s.heap ((I, itObj a i) :: rest)) (hI : ∀ p ∈ rest, p.1 ≠ I)
    (hl : s.heap.IsList a items) (hx : items[i]? = some x)
    (h : ∀ h', Fr h₀ L h' m → News h₀ L h' ((I, itObj a (i + 1)) :: rest) → Q x { s with heap := h' }) :
    wpAny (model prog w) A (call (.builtin "next") [.ref I]) Q E s := by
  have hI0 := N (I, itObj a i) (.head _)
  have ho := hI0.1
  have hit := itObj_iter ho
  obtain ⟨ol, hol, _, nl, hdl⟩ := hl
  refine call_function_entry (by decide +kernel) (by decide +kernel) kdk_entry_next (kdk_args_next _) ?_
  unfold Builtin.«next»
  refine wpAny_bind (m := someArgs "next" 1 2 _) (wpAny_of_eq (a := [Value.ref I]) (by first | rfl | kernel_rfl!) ?_)
  dsimp only
  refine wpAny_bind (wpAny_specialOf (name := Str.ofString "__next__") hit.typeIs slot_listiter_next.lookup ?_)
  refine wpAny_ite_split (fun hab => absurd hab (by decide)) (fun _ => ?_)
  refine wpAny_bind (wpAny_callSpecial?_slot (name := Str.ofString "__next__") hit.typeIs slot_listiter_next
    (wpAny_call_entry slot_listiter_next hit.typeIs entry_listiter_next ?_ (args_listiter_next _)))
  show wpAny _ _ (field (.ref I) 0 >>= _) _ _ s
  refine wpAny_bind (wpAny_field ho rfl (x := .ref a) rfl ?_)
  show wpAny _ _ (if (Value.ref a == Value.none) = true then _ else _) _ _ s
  rw [if_neg (show ¬ ((Value.ref a == Value.none) = true) from Bool.false_ne_true)]
  show wpAny _ _ (field (.ref I) 1 >>= _) _ _ s
  refine wpAny_bind (wpAny_field ho rfl (x := .int i 0) rfl ?_)
  show wpAny _ _ (seqItems? (.ref a) >>= _) _ _ s
  refine wpAny_bind (wpAny_seqItems hol hdl ?_)
  simp only [Int.toNat_natCast, hx]
  refine wpAny_bind (wpAny_setField ho rfl (by simp) (wpAny_pure ⟨x, rfl, wpAny_pure ⟨_, rfl, h _ (F.change (Heap.SameBut.update ..) hI0.2.1 hI0.2.2) fun p hp => ?_⟩⟩))
  rcases List.mem_cons.mp hp with rfl | hp
  · exact ⟨itObj_step ho, hI0.2⟩
  · have := N p (.tail _ hp)
    exact ⟨(Heap.get?_update_other _ _ (hI p hp).symm).trans this.1, this.2⟩
/-- next of a list's iterator, at its end -/
theorem next_end {I a : Addr} {i : Nat} {items : Array Value} {Q : Value → Shared → Prop} (F : Fr h₀ L s.heap m) (N : News h₀ L s.heap ((I, itObj a i) :: rest)) (hI : ∀ p ∈ rest, p.1 ≠ I) (hh : A.handled = none)
    (hl : s.heap.IsList a items) (hx : items[i]? = none)
    (h : ∀ h₁ h' e, Fr h₀ L h₁ m → News h₀ L h₁ rest → Heap.MadeExcOf h₁ h' e (.type "StopIteration") [] → E (.ref e) { s with heap := h' }) :
    wpAny (model prog w) A (call (.builtin "next") [.ref I]) Q E s := by
  have hI0 := N (I, itObj a i) (.head _)
  have ho := hI0.1
  have hit := itObj_iter ho
  obtain ⟨ol, hol, _, nl, hdl⟩ := hl
  refine call_function_entry (by decide +kernel) (by decide +kernel) kdk_entry_next (kdk_args_next _) ?_
  unfold Builtin.«next»
  refine wpAny_bind (m := someArgs "next" 1 2 _) (wpAny_of_eq (a := [Value.ref I]) (by first | rfl | kernel_rfl!) ?_)
  dsimp only
  refine wpAny_bind (wpAny_specialOf (name := Str.ofString "__next__") hit.typeIs slot_listiter_next.lookup ?_)
  refine wpAny_ite_split (fun hab => absurd hab (by decide)) (fun _ => ?_)
  refine wpAny_bind (wpAny_callSpecial?_slot (name := Str.ofString "__next__") hit.typeIs slot_listiter_next
    (wpAny_call_entry slot_listiter_next hit.typeIs entry_listiter_next ?_ (args_listiter_next _)))
  show wpAny _ _ (field (.ref I) 0 >>= _) _ _ s
  refine wpAny_bind (wpAny_field ho rfl (x := .ref a) rfl ?_)
  show wpAny _ _ (if (Value.ref a == Value.none) = true then _ else _) _ _ s
  rw [if_neg (show ¬ ((Value.ref a == Value.none) = true) from Bool.false_ne_true)]
  show wpAny _ _ (field (.ref I) 1 >>= _) _ _ s
  refine wpAny_bind (wpAny_field ho rfl (x := .int i 0) rfl ?_)
  show wpAny _ _ (seqItems? (.ref a) >>= _) _ _ s
  refine wpAny_bind (wpAny_seqItems hol hdl ?_)
  simp only [Int.toNat_natCast, hx]
  refine wpAny_bind (wpAny_rule (wpAny_bind (wpAny_setField ho rfl (by simp) ?_)))
  generalize hH : s.heap.update I (Obj.mapFields (·.setIfInBounds 0 Value.none)) = H
  have F1 : Fr h₀ L H m := hH ▸ F.change (Heap.SameBut.update ..) hI0.2.1 hI0.2.2
  have N1 : News h₀ L H rest := fun p hp => by
    have := N p (.tail _ hp)
    rw [← hH]
    exact ⟨(Heap.get?_update_other _ _ (hI p hp).symm).trans this.1, this.2⟩
  show wpAny _ _ (newExc (.type "StopIteration") [] >>= _) _ _ _
  refine wpAny_bind ?_
  simp only [newExc, newTuple]
  refine wpAny_bind (wpAny_newObj_type ?_ (by size_fits))
  refine wpAny_bind (m := firstArgMember _ _) (wpAny_of_eq (a := Value.none) (by first | rfl | (simp only [firstArgMember]; rfl)) ?_)
  refine wpAny_newObj_type ?_ (by size_fits)
  refine wpAny_raiseNew_none (show A.in1.handled = none from hh) ?_
  refine h H _ _ F1 N1 ⟨fun b o hb => Heap.get?_push_of_some _ (Heap.get?_push_of_some _ hb), Heap.get?_none_of_le (by simp), H.objs.size, ?_, Heap.get?_none_of_le (Nat.le_refl _), ?_⟩
  · exact Heap.get?_push_size _ rfl
  · exact Heap.get?_push_of_some _ (Heap.get?_push_size _ rfl)
end
end Mine
local macro_rules | `(tactic| walk_at $s:str) => Mine.callBm `Mine.callWith_con s
local macro_rules | `(tactic| walk_at $s:str) => Mine.refineAt [("call builtin:next", `Mine.stop_next), ("call ref", `Mine.stop_callS)] s
namespace Mine
open PySem PySem.W PyProof.Rows PySem.Calls
open PySem.Challenge
/-- the five objects of a filterfalse as a ledger -/
noncomputable abbrev ffNews (x dx I q S : Addr) (oS : Obj) (a : Addr) (i : Nat) : List (Addr × Obj) :=
  [(I, itObj a i), (x, { cls := .ref 102, dict := some dx, data := .plain, slots := #[some (.ref q), some (.ref I)] }), (dx, dictOf [] 0), (q, bmObj (.builtin "set.__contains__") S), (S, oS)]
theorem filter_skip {ya yb : List Str} {i j : Nat} {y : Str} (e : (ya.take j).filter (fun k => decide (k ∉ yb)) = (ya.take i).filter (fun k => decide (k ∉ yb))) (hy : ya[j]? = some y) (h : y ∈ yb) :
    (ya.take (j + 1)).filter (fun k => decide (k ∉ yb)) = (ya.take i).filter (fun k => decide (k ∉ yb)) := by
  rw [List.take_add_one, hy, List.filter_append, e]; simp [h]
theorem filter_take {ya yb : List Str} {i j : Nat} {y : Str} (e : (ya.take j).filter (fun k => decide (k ∉ yb)) = (ya.take i).filter (fun k => decide (k ∉ yb))) (hy : ya[j]? = some y) (h : y ∉ yb) :
    (ya.take (j + 1)).filter (fun k => decide (k ∉ yb)) = (ya.take i).filter (fun k => decide (k ∉ yb)) ++ [y] := by
  rw [List.take_add_one, hy, List.filter_append, e]; simp [h]
theorem next_c (w : World) (dp un : Nat) (outer : List Env) (gd : Option (List Code)) (s : Shared) (E : Value → Shared → Prop) (Q : Value → Shared → Prop) (p : Program) (loose : List Str) (mg mb : Str → Option Value)
   (base g : Heap) (x dx I q S : Addr) (oS : Obj) (a : Addr) (va : List Value) (ya yb : List Str) (i : Nat) (hgs : g.objs.size ≤ s.heap.objs.size) (hA : dp < 890) (hu : un < 490) (hr : rw_ij0087_01.row.prog = rw_ij0087_01.row.prog)
   (X : (pre.heap_1 w.params).In g) (T : TopRead p loose mg mb g) (K : Below { handled := none, depth := dp, frames := some outer, guards := gd, units := un } base outer g)
   (hg : g.StaysIn s.heap) (hf : ∀ c ∈ [x, dx, I, q, S], g.get? c = none) (hff : FF rw_ij0087_01.row.prog w s.heap x dx I q S oS a i yb)
   (ha : g.IsList a va.toArray) (hya : StrsAre va ya) (hlb : yb.length ≤ 1000) (hi : i ≤ ya.length)
   (hQ : ∀ j y t h' tk', i ≤ j → va[j]? = some (.str y t) → ya[j]? = some y → (ya.take (j + 1)).filter (fun k => decide (k ∉ yb)) = (ya.take i).filter (fun k => decide (k ∉ yb)) ++ [y] → g.StaysIn h' → FF rw_ij0087_01.row.prog w h' x dx I q S oS a (j + 1) yb → ∀ gs, (AllBare s.gens → AllBare gs) → Q (.str y t) { s with heap := h', toks := tk', gens := gs })
   (hE : ∀ h' tk' e, ya.filter (fun k => decide (k ∉ yb)) = (ya.take i).filter (fun k => decide (k ∉ yb)) → base.StaysIn h' → g.UpToSlots h' → (∃ ob, h'.get? e = some ob ∧ ob.cls = .type "StopIteration") → ∀ gs, (AllBare s.gens → AllBare gs) → E (.ref e) { s with heap := h', toks := tk', gens := gs })
   : wpAny (model rw_ij0087_01.row.prog w) { handled := none, depth := dp, frames := some outer, guards := gd, units := un } (call (.ref 98) [.ref x]) Q E s := by
  have Xs := X.keeps hg
  have Ts := T.keeps hg
  obtain ⟨f1, f2, f3, f4, f5, hTS, nI⟩ := hff
  revert X Xs; k_fill; intro X Xs
  refine wpAny_call ?_
  refine enterK (binds := [((Str.ofString "self"), .ref x)]) Xs Ts (by k_is) (by k_is) (Nat.lt_trans hA (by decide)) (BindsTo.of_eq rfl) (locs rfl) (by decide) rfl rfl rfl ?_
  intro L h₁ tk₁ hL F' hk'
  have F : Fr g L h₁ _ := ⟨F'.ns, fun b o e => hk' _ _ (hg b o e), by rw [hL]; exact hgs⟩
  have hfl : ∀ {c : Addr} {o : Obj}, s.heap.get? c = some o → c ≠ L := fun e => by rw [hL]; exact Nat.ne_of_lt (Heap.lt_size e)
  have N : News g L h₁ (ffNews x dx I q S oS a i) := by
    intro p hp
    simp only [List.mem_cons, List.not_mem_nil, or_false] at hp
    rcases hp with rfl | rfl | rfl | rfl | rfl
    · exact ⟨hk' _ _ f3, hfl f3, hf _ (by k_mem)⟩
    · exact ⟨hk' _ _ f1, hfl f1, hf _ (by k_mem)⟩
    · exact ⟨hk' _ _ f2, hfl f2, hf _ (by k_mem)⟩
    · exact ⟨hk' _ _ f4, hfl f4, hf _ (by k_mem)⟩
    · exact ⟨hk' _ _ f5, hfl f5, hf _ (by k_mem)⟩
  clear F' hk' hL f1 f2 f3 f4 f5 hfl
  walk
  (with_reducible rename Fr _ _ _ _ => kF); (with_reducible rename News _ _ _ _ => kN)
  refine to_stop (While_g (fun n m news => ∃ j, i ≤ j ∧ j ≤ ya.length ∧ n = ya.length - j ∧ m (Str.ofString "self") = some (.ref x) ∧ m (Str.ofString "func") = some (.ref q) ∧ news = ffNews x dx I q S oS a j ∧
    (ya.take j).filter (fun k => decide (k ∉ yb)) = (ya.take i).filter (fun k => decide (k ∉ yb))) (n₀ := ya.length - i) kF kN ⟨i, Nat.le_refl _, hi, rfl, rfl, rfl, rfl, rfl⟩ ?_)
  clear kF kN
  rintro n m₁ news₁ h₂ tk₂ gs₂ hb F N ⟨j, hij, hj, rfl, hself, hfunc, rfl, hfe⟩
  walk
  (with_reducible rename Fr _ _ _ _ => kF); (with_reducible rename News _ _ _ _ => kN)
  have hnI : ∀ p ∈ (ffNews x dx I q S oS a j).tail, p.1 ≠ I := by
    intro p hp
    simp only [List.tail_cons, List.mem_cons, List.not_mem_nil, or_false] at hp
    obtain ⟨n1, n2, n3, n4⟩ := nI
    rcases hp with rfl | rfl | rfl | rfl <;> assumption
  have hal := stays_list kF.keep ha
  have hvl := strs_len hya
  rcases Nat.lt_or_ge j ya.length with hlt | hge
  · obtain ⟨v, hv⟩ : ∃ v, va[j]? = some v := ⟨_, List.getElem?_eq_getElem (by omega)⟩
    obtain ⟨y, t, hy, rfl⟩ := strs_at hya j v hv
    refine to_stop (next_item kF kN hnI hal (by simpa using hv) fun h3 F3 N3 => ?_)
    clear kF kN hal
    walk
    (with_reducible rename Fr _ _ _ _ => kF); (with_reducible rename News _ _ _ _ => kN)
    refine to_stop (call_contains (kN (q, _) (by k_mem)).1 (hTS.at (kN (S, _) (by k_mem)).1 hlb) ?_)
    by_cases hin : y ∈ yb
    · rw [decide_eq_true hin]
      walk
      exact WStep.next hb kF kN (n' := ya.length - (j + 1)) (by omega) ⟨j + 1, by omega, hlt, rfl, hself, hfunc, rfl, filter_skip hfe hy hin⟩
    · rw [decide_eq_false hin]
      walk
      show Qz (.ret _) _
      refine Mine.Hid.ret kQz <| hQ j y t _ _ hij hv hy (filter_take hfe hy hin) kF.keep ⟨(kN (x, _) (by k_mem)).1, (kN (dx, _) (by k_mem)).1, (kN (I, _) (by k_mem)).1, (kN (q, _) (by k_mem)).1, (kN (S, _) (by k_mem)).1, hTS, nI⟩ _ hb
  · refine to_stop (next_end kF kN hnI rfl hal (by simp; omega) fun h3 h4 e F3 N3 hx => ?_)
    clear kF kN hal
    have hje : j = ya.length := by omega
    subst hje
    rw [List.take_length] at hfe
    refine leave_raiseK K hx F3 N3 (fun h5 t R U => ?_) rfl
    obtain ⟨⟨B, hB, hl, hfl, _⟩, _⟩ := R
    exact hE h5 _ e hfe (flyingW_base hB hfl).1 U (flyingW_base hB hfl).there _ hb
end Mine
namespace Mine
open PySem PySem.W PyProof.Rows PySem.Calls
open PySem.Challenge
theorem iter_c (w : World) (dp un : Nat) (fr : Option (List Env)) (gd : Option (List Code)) (s : Shared) (E : Value → Shared → Prop) (Q : Value → Shared → Prop) (p : Program) (loose : List Str) (mg mb : Str → Option Value)
   (x : Addr) (hA : dp < 890) (hu : un < 490) (hr : rw_ij0087_01.row.prog = rw_ij0087_01.row.prog)
   (X : (pre.heap_1 w.params).In s.heap) (T : TopRead p loose mg mb s.heap)
   (hQ : ∀ h' tk', (∀ b o, s.heap.get? b = some o → h'.get? b = some o) → Q (.ref x) { s with heap := h', toks := tk' })
   : wpAny (model rw_ij0087_01.row.prog w) { handled := none, depth := dp, frames := fr, guards := gd, units := un } (call (.ref 91) [.ref x]) Q E s := by
  revert X; k_fill; intro X
  refine enter (binds := [((Str.ofString "self"), .ref x)]) X T (by k_is) (by k_is) (Nat.lt_trans hA (by decide)) (BindsTo.of_eq rfl) (locs rfl) (by decide) rfl rfl rfl rfl ?_
  intro L h₁ tk₁ hL F N
  walk
  (with_reducible rename Fr _ _ _ _ => kF)
  exact hQ _ _ kF.keep
theorem strs_push {vs : List Value} {ys : List Str} {y : Str} {t : Tok} (h : StrsAre vs ys) : StrsAre (vs ++ [.str y t]) (ys ++ [y]) := by
  induction h with
  | nil => exact .cons _ _ .nil
  | cons a u _ ih => exact .cons a u ih
theorem ff_inst {prog : Program} {w : World} {h : Heap} {x dx I q S a : Addr} {oS : Obj} {i : Nat} {yb : List Str} (f : FF prog w h x dx I q S oS a i yb) :
    PySem.W.InstAt h x { cls := .ref 102, dict := some dx, data := .plain, slots := #[some (.ref q), some (.ref I)] } 102 (some (dictOf [] 0)) := ⟨f.inst, rfl, rfl, f.dict⟩
theorem ff_keep {prog : Program} {w : World} {h h' : Heap} {x dx I q S a : Addr} {oS : Obj} {i : Nat} {yb : List Str} (f : FF prog w h x dx I q S oS a i yb) (k : ∀ c ∈ [x, dx, I, q, S], ∀ o, h.get? c = some o → h'.get? c = some o) :
    FF prog w h' x dx I q S oS a i yb := ⟨k _ (by simp) _ f.inst, k _ (by simp) _ f.dict, k _ (by simp) _ f.it, k _ (by simp) _ f.bm, k _ (by simp) _ f.set, f.txt, f.nd⟩
/-- the heaps that next_c is told -/
theorem ff_below {A : Around} {h : Heap} {env : Env} {L x dx I q S : Addr} {oL : Obj} (hA : A.frames = some [env]) (hk : env.scope.kind ≠ .module) (hfe : env.frame = some L) (hL : h.get? L = some oL) (hol : ∀ vs, oL.data ≠ .fields vs) (hLf : L ∉ [x, dx, I, q, S]) :
    Below A (hideAll h [x, dx, I, q, S, L]) [env] (hideAll h [x, dx, I, q, S]) :=
  ⟨hA, fun b o e => hideAll_get _ (of_hideAll _ e) (fun hb => by
      rw [hideAll_none _ (show b ∈ [x, dx, I, q, S, L] by simp only [List.mem_cons, List.not_mem_nil, or_false] at hb ⊢; rcases hb with h | h | h | h | h <;> simp [h])] at e; cases e),
    hk, ⟨L, oL, hfe, hideAll_none _ (by simp), hideAll_get _ hL hLf, hol⟩, trivial⟩
theorem ff_hs (w : World) : findIn (pre.heap_1 w.params) (.ref 102) "__next__" = some (some (.ref 98)) := by k_is
theorem ff_fn (w : World) : isFn (pre.heap_1 w.params) (.ref 98) = true := by k_is
theorem ff_hi (w : World) : findIn (pre.heap_1 w.params) (.ref 102) "__iter__" = some (some (.ref 91)) := by k_is
theorem ff_fni (w : World) : isFn (pre.heap_1 w.params) (.ref 91) = true := by k_is
theorem ff_len (w : World) : findIn (pre.heap_1 w.params) (.ref 102) "__len__" = some none := by k_is
theorem ff_hint (w : World) : findIn (pre.heap_1 w.params) (.ref 102) "__length_hint__" = some none := by k_is
/-- the walk of list.extend.loop over a filterfalse -/
theorem ff_loop (w : World) (dp un : Nat) (env : Env) (gd : Option (List Code)) (p : Program) (loose : List Str) (mg mb : Str → Option Value) (hA : dp < 880) (hu : un < 480)
   (x dx I q S D L : Addr) (oS oL : Obj) (a : Addr) (va : List Value) (ya yb : List Str) (g : Heap) (X : (pre.heap_1 w.params).In g) (T : TopRead p loose mg mb g)
   (hk : env.scope.kind ≠ .module) (hfe : env.frame = some L) (hol : ∀ vs, oL.data ≠ .fields vs)
   (hf : ∀ c ∈ [x, dx, I, q, S], g.get? c = none) (hgD : g.get? D = none) (hgL : g.get? L = none) (hDf : D ∉ [x, dx, I, q, S]) (hDL : D ≠ L) (hLf : L ∉ [x, dx, I, q, S])
   (hya : StrsAre va ya) (hlb : yb.length ≤ 1000) (hla : ya.length ≤ 1000) (haf : a ∉ [x, dx, I, q, S]) (haD : a ≠ D) (R : Result → Shared → Prop) :
   ∀ (k i : Nat) (s : Shared) (acc : Array Value) (c : Nat), ya.length - i = k → i ≤ ya.length → g.StaysIn s.heap → s.heap.IsList a va.toArray → s.heap.get? L = some oL → FF rw_ij0087_01.row.prog w s.heap x dx I q S oS a i yb →
    s.heap.get? D = some { cls := .type "list", dict := none, data := .seq acc c, slots := #[] } → StrsAre acc.toList ((ya.take i).filter (fun k => decide (k ∉ yb))) →
    (∀ s' acc' c' sl, (∀ b o, b ∉ [x, dx, I, q, S, L] → b ≠ D → s.heap.get? b = some o → s'.heap.get? b = some o) → s'.heap.get? L = some { oL with slots := sl } → s'.heap.get? D = some { cls := .type "list", dict := none, data := .seq acc' c', slots := #[] } →
      StrsAre acc'.toList (ya.filter (fun k => decide (k ∉ yb))) → (AllBare s.gens → AllBare s'.gens) → s'.drawn = s.drawn → s'.os = s.os → R (.ok (.ret .none)) s') →
    codeAny (model rw_ij0087_01.row.prog w) { handled := none, depth := dp, frames := some [env], guards := gd, units := un } (.builtin "list.extend.loop" ⟨[.ref D, .ref x, .none], []⟩) R s := by
  intro k
  induction k using Nat.strongRecOn with
  | ind k ih =>
    intro i s acc c hk' hi hg hal hL hff hD hacc hR
    have hL6 : ∀ b, b ∉ [x, dx, I, q, S, L] → b ∉ [x, dx, I, q, S] := fun b h hb => h (by simp only [List.mem_cons, List.not_mem_nil, or_false] at hb ⊢; rcases hb with h | h | h | h | h <;> simp [h])
    have hgg : g.StaysIn (hideAll s.heap [x, dx, I, q, S]) := fun b o e => hideAll_get _ (hg b o e) fun hb => by rw [hf b hb] at e; cases e
    refine codeAny_builtin F.entry_extend_loop ?_
    rw [Around.under_plainId F.plain_extend_loop _]
    show wpAny _ _ (pyNext (.ref x) >>= _) _ _ s
    refine wpAny_bind ?_
    unfold pyNext
    have I0 := ff_inst hff
    have Xs := X.keeps hg
    have Xg := X.keeps hgg
    refine wpAny_bind (wpAny_attempt (special_fn (name := "__next__") (args := []) Xs I0 (ff_hs w) (beq_iff_eq.mp (ff_fn w)) ?_))
    refine next_c w dp (un + 1) [env] gd s _ _ p loose mg mb (hideAll s.heap [x, dx, I, q, S, L]) (hideAll s.heap [x, dx, I, q, S]) x dx I q S oS a va ya yb i (Nat.le_of_eq (hideAll_size _ _)) (by omega) (by omega) rfl Xg (T.keeps hgg)
      (ff_below rfl hk hfe hL hol hLf) (fun b o e => of_hideAll _ e) (fun c hc => hideAll_none _ hc) hff ?_ hya hlb hi ?_ ?_
    · obtain ⟨o, ho, r⟩ := hal
      exact ⟨o, hideAll_get _ ho haf, r⟩
    · intro j y t h' tk' hij hvj hyj hfe' hst hff' gs hgs
      have hD' := hst D _ (hideAll_get _ hD hDf)
      refine wpAny_pure ?_
      show wpAny _ _ (updateSeq D (·.push (Value.str y t)) >>= _) _ _ _
      refine wpAny_bind ?_
      have hjl : j < ya.length := (List.getElem?_eq_some_iff.mp hyj).1
      have hsz : acc.size ≤ ya.length := by
        have := strs_len hacc
        rw [Array.length_toList] at this
        rw [this]
        exact Nat.le_trans (List.length_filter_le _ _) (by rw [List.length_take]; omega)
      have keep : ∀ b o, b ∉ [x, dx, I, q, S] → b ≠ D → s.heap.get? b = some o → (h'.update D (Obj.mapSeq (·.push (Value.str y t)))).get? b = some o := fun b o hb hbD e =>
        (Heap.get?_update_other _ _ (Ne.symm hbD)).trans (hst b o (hideAll_get _ e hb))
      refine wpAny_updateSeq hD' rfl (wpAny_pure ⟨plainId_quiet F.plain_extend_loop _, ih (ya.length - (j + 1)) (by omega) (j + 1) _ (acc.push (.str y t)) _ rfl hjl ?_ ?_ ?_ ?_ (Heap.get?_update_self _ hD' rfl) ?_ fun s'' acc' c' sl k1 k2 k3 k4 k5 k6 k7 => ?_⟩)
        (by have : (1000 : Nat) ≤ sizeLine := by decide +kernel
            omega) (by
            have : (1000 : Nat) ≤ sizeLine := by decide +kernel
            show (acc.push _).size ≤ _; rw [Array.size_push]; omega)
      · exact fun b o e => keep b o (fun hb => by rw [hf b hb] at e; cases e) (fun hb => by rw [hb, hgD] at e; cases e) (hg b o e)
      · obtain ⟨o, ho, r⟩ := hal
        exact ⟨o, keep a o haf haD ho, r⟩
      · exact keep L oL hLf hDL.symm hL
      · exact ff_keep hff' fun c hc o e => (Heap.get?_update_other _ _ (fun h : D = c => hDf (by rw [h]; exact hc))).trans e
      · rw [Array.toList_push, hfe']; exact strs_push hacc
      · exact hR s'' acc' c' sl (fun b o hb hbD e => k1 b o hb hbD (keep b o (hL6 b hb) hbD e)) k2 k3 k4 (fun h => k5 (hgs h)) k6 k7
    · intro h' tk' e hfe' hst hup hob gs hgs
      obtain ⟨ob, he, hc⟩ := hob
      refine wpAny_bind (wpAny_isInstance (T := "StopIteration") (b := true) ⟨ob, he, hc⟩ isSubtype_stop ?_)
      refine wpAny_pure ?_
      show wpAny _ _ (ret Value.none) _ _ _
      obtain ⟨sl, hsl⟩ := hup L oL (hideAll_get _ hL hLf) hol
      refine wpAny_pure (hR _ acc c sl (fun b o hb hbD e => hst b o (hideAll_get _ e hb)) hsl (hst D _ (hideAll_get _ hD fun hb => ?_)) (by rw [hfe']; exact hacc) hgs rfl rfl)
      simp only [List.mem_cons, List.not_mem_nil, or_false] at hb hDf
      rcases hb with h | h | h | h | h | h
      · exact hDf (.inl h)
      · exact hDf (.inr (.inl h))
      · exact hDf (.inr (.inr (.inl h)))
      · exact hDf (.inr (.inr (.inr (.inl h))))
      · exact hDf (.inr (.inr (.inr (.inr h))))
      · exact hDL h
end Mine
namespace Mine
open PySem PySem.W PyProof.Rows PySem.Calls
open PySem.Challenge
section
variable {M : Model} {A : Around} {E : Value → Shared → Prop} {s : Shared} {K : Frag} {x C f : Addr} {ox : Obj} {od : Option Obj}
theorem own_iter {Q : Value → Shared → Prop} (X : K.In s.heap) (I : PySem.W.InstAt s.heap x ox C od) (hs : findIn K (.ref C) "__iter__" = some (some (.ref f))) (hf : isFn K (.ref f) = true)
    (h : wpAny M A (call (.ref f) [.ref x]) (OwitIt M A Q E) E s) : wpAny M A (pyIter (.ref x)) Q E s := by
  have fin : wpAny M A (call (.ref f) [.ref x] >>= fun v => pure (some v)) (fun r s' => ∃ v, r = some v ∧ OwitIt M A Q E v s') E s :=
    wpAny_bind (wpAny_mono h (fun v s' h' => wpAny_pure ⟨v, rfl, h'⟩) fun _ _ z => z)
  have one : ∀ refuse : Sem Value, wpAny M A (callSpecialIfBoundUnlessNone? (.ref x) "__iter__" refuse) (fun r s' => ∃ v, r = some v ∧ OwitIt M A Q E v s') E s := by
    intro refuse
    simp only [callSpecialIfBoundUnlessNone?, bindSpecialIfBound?]
    refine wpAny_holding (wpAny_bind (wpAny_bind (wpAny_bind (I.type.here ((looks_findIn X hs).here ?_)))))
    refine wpAny_bind (wpAny_askSetting (wpAny_ite ?_))
    have fin2 : wpAny M A (if (Value.ref f == Value.none) = true then (refuse >>= fun v => pure (some v)) else (call (.ref f) [.ref x] >>= fun v => pure (some v))) (fun r s' => ∃ v, r = some v ∧ OwitIt M A Q E v s') E s := by
      rw [if_neg (show ¬ ((Value.ref f == Value.none) = true) from Bool.false_ne_true)]
      exact fin
    split
    · exact wpAny_bind ((bind_fn X _ (beq_iff_eq.mp hf)).here (wpAny_pure (by exact fin2)))
    · exact wpAny_tryCatch (wpAny_bind ((bind_fn X _ (beq_iff_eq.mp hf)).here (wpAny_pure (by exact fin2))))
  unfold pyIter
  refine wpAny_bind (wpAny_bind (I.type.here ((looks_findIn X hs).here ?_)))
  show wpAny M A (callSpecialIfBoundUnlessNone? (.ref x) "__iter__" _ >>= _) Q E s
  refine wpAny_bind (wpAny_mono (one _) (fun r s' hr => ?_) fun _ _ z => z)
  obtain ⟨v, rfl, hv⟩ := hr
  refine wpAny_bind (wpAny_mono hv (fun r s₂ hr => ?_) fun _ _ z => z)
  cases r with
  | none => exact hr.elim
  | some g => exact wpAny_pure hr
theorem own_it {Q : Value → Shared → Prop} {g : Value} (X : K.In s.heap) (I : PySem.W.InstAt s.heap x ox C od) (hs : findIn K (.ref C) "__next__" = some (some g)) (h : Q (.ref x) s) : OwitIt M A Q E (.ref x) s := by
  unfold OwitIt
  exact wpAny_bind (I.type.here ((looks_findIn X hs).here h))
end
/-- list() of a filterfalse over a list of texts -/
theorem list_ff (w : World) (dp un : Nat) (env : Env) (gd : Option (List Code)) (s : Shared) (E : Value → Shared → Prop) (Q : Value → Shared → Prop) (p : Program) (loose : List Str) (mg mb : Str → Option Value) (hA : dp < 880) (hu : un < 470)
   (x dx I q S L : Addr) (oS oL : Obj) (a : Addr) (va : List Value) (ya yb : List Str) (g : Heap) (X : (pre.heap_1 w.params).In g) (T : TopRead p loose mg mb g)
   (hk : env.scope.kind ≠ .module) (hfe : env.frame = some L) (hL : s.heap.get? L = some oL) (hol : ∀ vs, oL.data ≠ .fields vs)
   (hg : g.StaysIn s.heap) (hf : ∀ c ∈ [x, dx, I, q, S], g.get? c = none) (hgL : g.get? L = none) (hLf : L ∉ [x, dx, I, q, S])
   (hff : FF rw_ij0087_01.row.prog w s.heap x dx I q S oS a 0 yb) (hal : s.heap.IsList a va.toArray)
   (hya : StrsAre va ya) (hlb : yb.length ≤ 1000) (hla : ya.length ≤ 1000) (haf : a ∉ [x, dx, I, q, S])
   (hQ : ∀ s' acc' c' sl, (∀ b o, b ∉ [x, dx, I, q, S, L] → s.heap.get? b = some o → s'.heap.get? b = some o) → s'.heap.get? L = some { oL with slots := sl } → s'.heap.get? s.heap.objs.size = some { cls := .type "list", dict := none, data := .seq acc' c', slots := #[] } →
      StrsAre acc'.toList (ya.filter (fun k => decide (k ∉ yb))) → (AllBare s.gens → AllBare s'.gens) → s'.drawn = s.drawn → s'.os = s.os → Q (.ref s.heap.objs.size) s') :
   wpAny (model rw_ij0087_01.row.prog w) { handled := none, depth := dp, frames := some [env], guards := gd, units := un } (call (.type "list") [.ref x]) Q E s := by
  have hlt : ∀ c ∈ [x, dx, I, q, S], c < s.heap.objs.size := by
    intro c hc
    simp only [List.mem_cons, List.not_mem_nil, or_false] at hc
    rcases hc with rfl | rfl | rfl | rfl | rfl
    · exact Heap.lt_size hff.inst
    · exact Heap.lt_size hff.dict
    · exact Heap.lt_size hff.it
    · exact Heap.lt_size hff.bm
    · exact Heap.lt_size hff.set
  have hLD : L < s.heap.objs.size := Heap.lt_size hL
  have haD : a < s.heap.objs.size := by obtain ⟨o, ho, _⟩ := hal; exact Heap.lt_size ho
  refine callType_codes (Q₁ := fun obj s₁ => obj = .ref s.heap.objs.size ∧ s₁ = { s with heap := s.heap.push { cls := .type "list", data := .seq #[] } }) F.called_list (F.typeCall_list_1 _) F.entry_list_init
    (code_list_new _ ⟨rfl, rfl⟩) fun obj s₁ h₁ => ?_
  obtain ⟨rfl, rfl⟩ := h₁
  generalize hH : s.heap.push { cls := .type "list", data := .seq #[] } = H
  have hS : H.get? s.heap.objs.size = some { cls := .type "list", data := .seq #[] } := by rw [← hH]; exact Heap.get?_push_size _ rfl
  have up : ∀ b o, s.heap.get? b = some o → H.get? b = some o := fun b o e => by rw [← hH]; exact Heap.get?_push_of_some _ e
  generalize hD : s.heap.objs.size = D at *
  refine ⟨⟨_, hS, rfl⟩, F.args_list_init_2 _ _, ?_⟩
  have hDx : ∀ c ∈ [x, dx, I, q, S], c ≠ D := fun c hc => Nat.ne_of_lt (hlt c hc)
  show wpAny _ _ (do let old ← Builtin.List.listItems (.ref D); Builtin.List.listUpdate (.ref D) (fun _ => #[]); letGo old.toList.reverse; Builtin.List.listExtendWith (.ref D) (.ref x) .none) _ _ _
  refine wpAny_bind ?_
  unfold Builtin.List.listItems
  refine wpAny_bind (wpAny_seqItems hS rfl (wpAny_pure ?_))
  show wpAny _ _ (updateSeq D (fun _ => #[]) >>= fun _ => letGo (#[] : Array Value).toList.reverse >>= fun _ => Builtin.List.listExtendWith (.ref D) (.ref x) .none) _ _ _
  refine wpAny_bind (wpAny_updateSeq hS rfl ?_)
  have hS₂ := Heap.get?_update_self (Obj.mapSeq (fun _ => (#[] : Array Value))) hS rfl
  have up2 : ∀ b o, s.heap.get? b = some o → (H.update D (Obj.mapSeq (fun _ => (#[] : Array Value)))).get? b = some o :=
    fun b o e => (Heap.get?_update_other _ _ (fun hb : D = b => by rw [← hb, ← hD] at e; exact Nat.lt_irrefl _ (Heap.lt_size e))).trans (up b o e)
  refine wpAny_bind (wpAny_letGo ?_)
  generalize H.update D (Obj.mapSeq (fun _ => (#[] : Array Value))) = H2 at hS₂ up2
  have X2 : (pre.heap_1 w.params).In H2 := X.keeps fun b o e => up2 b o (hg b o e)
  have T2 : TopRead p loose mg mb H2 := T.keeps fun b o e => up2 b o (hg b o e)
  have ff2 := ff_keep hff fun c hc o e => up2 c o e
  unfold Builtin.List.listExtendWith
  refine wpAny_bind ((ff_inst ff2).type.here ?_)
  have h1 : Builtin.List.listSameRef (.ref D) (.ref x) = false := by
    have : D ≠ x := (hDx x (by simp)).symm
    simp [Builtin.List.listSameRef, this]
  have h2 : (Value.ref 102 == Value.type "list") = false := by decide
  have h3 : (Value.ref 102 == Value.type "tuple") = false := by decide
  simp only [h1, h2, h3, Bool.or_false, Bool.false_eq_true, if_false]
  refine wpAny_bind (own_iter X2 (ff_inst ff2) (ff_hi w) (ff_fni w) ?_)
  refine iter_c w dp (un + 2) (some [env]) gd _ _ _ p loose mg mb x (by omega) (by omega) rfl X2 T2 fun h3 tk3 hk3 => ?_
  have X3 := X2.keeps hk3
  have ff3 := ff_keep ff2 fun c _ o e => hk3 c o e
  refine own_it X3 (ff_inst ff3) (ff_hs w) ?_
  refine wpAny_bind (wpAny_holding ?_)
  unfold Builtin.List.listLengthHint
  refine wpAny_bind (wpAny_bind ((ff_inst ff3).type.here ((looks_findIn X3 (ff_len w)).here ?_)))
  show wpAny _ _ (specialOf (Value.ref x) (Str.ofString "__length_hint__") >>= _) _ _ _
  refine wpAny_bind (wpAny_bind ((ff_inst ff3).type.here ((looks_findIn X3 (ff_hint w)).here ?_)))
  refine wpAny_pure ?_
  show wpAny _ _ (rule "list.extend.makes-room" >>= fun _ => Builtin.List.listTouch (.ref D) >>= fun _ =>
    again (.builtin "list.extend.loop" ⟨[.ref D, .ref x, .none], []⟩)) _ _ _
  refine wpAny_bind (wpAny_rule ?_)
  refine wpAny_bind ?_
  show wpAny _ _ (updateSeq D (·.push .none) >>= fun _ => updateSeq D (·.pop)) _ _ _
  have hS3 := hk3 _ _ hS₂
  refine wpAny_bind (wpAny_updateSeq hS3 rfl ?_)
  have hS4 := Heap.get?_update_self (Obj.mapSeq (·.push Value.none)) hS3 rfl
  refine wpAny_updateSeq (hz := by seq_fits) hS4 rfl ?_
  have hS5 := Heap.get?_update_self (Obj.mapSeq (·.pop)) hS4 rfl
  have up5 : ∀ b o, s.heap.get? b = some o → ((h3.update D (Obj.mapSeq (·.push Value.none))).update D (Obj.mapSeq (·.pop))).get? b = some o := fun b o e => by
    have hb : D ≠ b := fun hb => by rw [← hb, ← hD] at e; exact Nat.lt_irrefl _ (Heap.lt_size e)
    exact (Heap.get?_update_other _ _ hb).trans ((Heap.get?_update_other _ _ hb).trans (hk3 b o (up2 b o e)))
  refine wpAny_pure ⟨plainId_quiet F.plain_extend_loop _, ?_⟩
  refine ff_loop w dp (un + 1) env gd p loose mg mb hA (by omega) x dx I q S D L oS oL a va ya yb g X T hk hfe hol hf ?_ hgL (fun hm => hDx D hm rfl) (Nat.ne_of_gt hLD) hLf hya hlb hla haf (Nat.ne_of_lt haD) _ (ya.length - 0) 0 _ _ _ rfl (Nat.zero_le _)
    (fun b o e => up5 b o (hg b o e)) ?_ (up5 _ _ hL) (ff_keep hff fun c _ o e => up5 c o e) hS5 .nil ?_
  · cases e : g.get? D with
    | none => rfl
    | some o => have := Heap.lt_size (hg D o e); rw [hD] at this; exact absurd this (Nat.lt_irrefl _)
  · obtain ⟨o, ho, r⟩ := hal
    exact ⟨o, up5 _ _ ho, r⟩
  · intro s' acc' c' sl k1 k2 k3 k4 k5 k6 k7
    exact ⟨rfl, hQ s' acc' c' sl (fun b o hb e => k1 b o hb (fun hb' => by rw [hb', ← hD] at e; exact Nat.lt_irrefl _ (Heap.lt_size e)) (up5 b o e)) k2 k3 k4 k5 k6 k7⟩
end Mine
namespace Mine
open PySem PySem.W PyProof.Rows PySem.Calls
section
variable {prog : Program} {w : World} {A : Around} {E : Value → Shared → Prop} {R : Result → Shared → Prop} {s : Shared} {cenv : Env} {h₀ : Heap}
noncomputable abbrev testsOf (ifs : List Expr) (env : Env) : Sem Bool := forIn ifs true fun c r => if r = true then do let ok ← isTrue c env (eval c env); pure (ForInStep.yield ok) else pure (ForInStep.yield r)
noncomputable def turn20 (e t0 i0 i1 : Expr) (f0 : List Expr) (it acc : Value) (env : Env) : Sem Fin := do
  standAt i0.pos
  match ← pyNext it with
  | none => pure (.done .next)
  | some v =>
    letOwnedTupleGo t0 it v
    assign t0 env v
    let mut ok := true
    for c in f0 do
      if ok then ok ← isTrue c env (eval c env)
    if ok then
      let x ← eval i1 env
      standAt i1.pos
      let x ← foldedSetIterable i1 env x
      let _ ← runOwn (.compStart e 1 (← holding [x] (pyIter x)) acc env) env
    again (.compLoop e 0 it acc env)
noncomputable def turnA (e t i elt : Expr) (f : List Expr) (d : Nat) (it acc : Value) (env : Env) : Sem Fin := do
  standAt i.pos
  match ← pyNext it with
  | none => pure (.done .next)
  | some v =>
    letOwnedTupleGo t it v
    assign t env v
    let mut ok := true
    for c in f do
      if ok then ok ← isTrue c env (eval c env)
    if ok then
      (do let _ ← call (.builtin "list.append") [acc, ← eval elt env])
    again (.compLoop e d it acc env)
theorem compTurn_1 (elt target iter : Expr) (ifs : List Expr) (scope : Scope) (pos : Pos) (it acc : Value) (env : Env) :
    compTurn (.ListComp elt [⟨target, iter, ifs, 0⟩] scope pos) 0 it acc env = turnA (.ListComp elt [⟨target, iter, ifs, 0⟩] scope pos) target iter elt ifs 0 it acc env := by rfl
theorem compTurn_20 (elt t0 i0 t1 i1 : Expr) (f0 f1 : List Expr) (scope : Scope) (pos : Pos) (it acc : Value) (env : Env) :
    compTurn (.ListComp elt [⟨t0, i0, f0, 0⟩, ⟨t1, i1, f1, 0⟩] scope pos) 0 it acc env = turn20 (.ListComp elt [⟨t0, i0, f0, 0⟩, ⟨t1, i1, f1, 0⟩] scope pos) t0 i0 i1 f0 it acc env := by rfl
theorem compTurn_21 (elt t0 i0 t1 i1 : Expr) (f0 f1 : List Expr) (scope : Scope) (pos : Pos) (it acc : Value) (env : Env) :
    compTurn (.ListComp elt [⟨t0, i0, f0, 0⟩, ⟨t1, i1, f1, 0⟩] scope pos) 1 it acc env = turnA (.ListComp elt [⟨t0, i0, f0, 0⟩, ⟨t1, i1, f1, 0⟩] scope pos) t1 i1 elt f1 1 it acc env := by rfl
/-- what a turn comes to, told by its emit -/
noncomputable def TurnBy (prog : Program) (w : World) (A : Around) (e : Expr) (d : Nat) (it acc : Value) (env : Env) (target : Expr) (ifs : List Expr) (emitP : (Shared → Prop) → Shared → Prop) : Prop :=
  ∀ (Q : Fin → Shared → Prop) (E : Value → Shared → Prop) (s : Shared), wpAny (model prog w) A (pyNext it) (fun r s₁ => match r with
      | none => Q (.done .next) s₁
      | some v => wpAny (model prog w) A (letOwnedTupleGo target it v) (fun _ s₁ => wpAny (model prog w) A (assign target env v) (fun _ s₂ =>
          wpAny (model prog w) A (testsOf ifs env) (fun ok s₃ =>
            if ok = true then emitP (Q (.again (.compLoop e d it acc env))) s₃
            else Q (.again (.compLoop e d it acc env)) s₃) (fun _ _ => False) s₂) (fun _ _ => False) s₁) (fun _ _ => False) s₁) (fun _ _ => False) s →
    wpAny (model prog w) A (compTurn e d it acc env) Q E s
/-- the emit that appends -/
noncomputable def EmitA (prog : Program) (w : World) (A : Around) (elt : Expr) (acc : Value) (env : Env) (K : Shared → Prop) (s : Shared) : Prop :=
  wpAny (model prog w) A (eval elt env) (fun x s₁ => wpAny (model prog w) A (call (.builtin "list.append") [acc, x]) (fun _ s₂ => K s₂) (fun _ _ => False) s₁) (fun _ _ => False) s
/-- the emit that goes down a clause -/
noncomputable def EmitN (prog : Program) (w : World) (A : Around) (e i1 : Expr) (acc : Value) (env : Env) (K : Shared → Prop) (s : Shared) : Prop :=
  wpAny (model prog w) A (eval i1 env) (fun x s₁ => wpAny (model prog w) A (foldedSetIterable i1 env x) (fun x s₁ => wpAny (model prog w) A (pyIter x) (fun it s₂ =>
    wpAny (model prog w) A (runOwn (.compStart e 1 it acc env) env) (fun _ s₃ => K s₃) (fun _ _ => False) s₂) (fun _ _ => False) s₁) (fun _ _ => False) s₁) (fun _ _ => False) s
theorem turnBy_A {e t i elt : Expr} {f : List Expr} {d : Nat} {it acc : Value} {env : Env} (h : compTurn e d it acc env = turnA e t i elt f d it acc env) : TurnBy prog w A e d it acc env t f (EmitA prog w A elt acc env) := by
  intro Q E s h₀
  rw [h]
  unfold turnA
  refine wpAny_bind (wpAny_standAt (wpAny_bind (wpAny_mono h₀ (fun r s₁ h₁ => ?_) fun _ _ h' => h'.elim)))
  cases r with
  | none => exact wpAny_pure h₁
  | some v =>
    refine wpAny_bind (wpAny_mono h₁ (fun _ s₁ h₁ => ?_) fun _ _ h' => h'.elim)
    refine wpAny_bind (wpAny_mono h₁ (fun _ s₂ h₂ => wpAny_bind (wpAny_mono h₂ (fun ok s₃ h₃ => ?_) fun _ _ h' => h'.elim)) fun _ _ h' => h'.elim)
    cases ok with
    | false => exact wpAny_pure h₃
    | true => exact wpAny_bind (wpAny_bind (wpAny_mono h₃ (fun x s₄ h₄ => wpAny_bind (wpAny_mono h₄ (fun _ s₅ h₅ => wpAny_pure (wpAny_pure h₅)) fun _ _ h' => h'.elim)) fun _ _ h' => h'.elim))
theorem turnBy_N {e t i i1 : Expr} {f : List Expr} {it acc : Value} {env : Env} (h : compTurn e 0 it acc env = turn20 e t i i1 f it acc env) : TurnBy prog w A e 0 it acc env t f (EmitN prog w A e i1 acc env) := by
  intro Q E s h₀
  rw [h]
  unfold turn20
  refine wpAny_bind (wpAny_standAt (wpAny_bind (wpAny_mono h₀ (fun r s₁ h₁ => ?_) fun _ _ h' => h'.elim)))
  cases r with
  | none => exact wpAny_pure h₁
  | some v =>
    refine wpAny_bind (wpAny_mono h₁ (fun _ s₁ h₁ => ?_) fun _ _ h' => h'.elim)
    refine wpAny_bind (wpAny_mono h₁ (fun _ s₂ h₂ => wpAny_bind (wpAny_mono h₂ (fun ok s₃ h₃ => ?_) fun _ _ h' => h'.elim)) fun _ _ h' => h'.elim)
    cases ok with
    | false => exact wpAny_pure h₃
    | true =>
      refine wpAny_bind (wpAny_mono h₃ (fun x s₄ h₄ => wpAny_bind (wpAny_standAt (wpAny_bind (wpAny_mono h₄ (fun x s₅ h₅ => ?_) fun _ _ h' => h'.elim)))) fun _ _ h' => h'.elim)
      refine wpAny_bind (wpAny_holding (wpAny_mono h₅ (fun it2 s₆ h₆ => wpAny_bind (wpAny_mono h₆ (fun _ s₇ h₇ => wpAny_pure h₇) fun _ _ h' => h'.elim)) fun _ _ h' => h'.elim))

theorem codeAny_compLoop_own {elt target : Expr} {gens : List Comprehension} {ifs : List Expr} {scope : Scope} {pos : Pos} {d : Nat} {it acc : Value} {env : Env} {emitP : (Shared → Prop) → Shared → Prop}
    (ht : TurnBy prog w A (.ListComp elt gens scope pos) d it acc env target ifs emitP) (hmono : ∀ K K' s, (∀ s, K s → K' s) → emitP K s → emitP K' s) (I : Nat → Shared → Prop)
    (turn : ∀ n s, I n s → wpAny (model prog w) A (pyNext it) (fun r s₁ => match r with
      | none => R (.ok .next) s₁
      | some v => wpAny (model prog w) A (letOwnedTupleGo target it v) (fun _ s₁ => wpAny (model prog w) A (assign target env v) (fun _ s₂ =>
          wpAny (model prog w) A (testsOf ifs env) (fun ok s₃ =>
            if ok = true then emitP (fun s₅ => ∃ m, m < n ∧ I m s₅) s₃
            else ∃ m, m < n ∧ I m s₃) (fun _ _ => False) s₂) (fun _ _ => False) s₁) (fun _ _ => False) s₁) (fun _ _ => False) s)
    (n : Nat) (h : I n s) : codeAny (model prog w) A (.compLoop (.ListComp elt gens scope pos) d it acc env) R s := by
  refine codeAny_loop rfl I (fun n s hI => ?_) n h
  show wpAny _ A ((compTurn (.ListComp elt gens scope pos) d it acc env).onRaise (fun x => do noteFrame x env; theTreesLotGoes x)) _ _ s
  refine wpAny_noted (ht _ _ _ (wpAny_mono (turn n s hI) (fun r s₁ h₁ => ?_) fun _ _ h' => h'))
  cases r with
  | none => exact h₁
  | some v =>
    refine wpAny_mono h₁ (fun _ s₁ h₁ => wpAny_mono h₁ (fun _ s₂ h₂ => wpAny_mono h₂ (fun ok s₃ h₃ => ?_) fun _ _ h' => h') fun _ _ h' => h') fun _ _ h' => h'
    cases ok with
    | false => exact ⟨rfl, h₃⟩
    | true => exact hmono _ _ _ (fun s h => ⟨rfl, h⟩) h₃
theorem EmitA.mono {elt : Expr} {acc : Value} {env : Env} : ∀ K K' s, (∀ s, K s → K' s) → EmitA prog w A elt acc env K s → EmitA prog w A elt acc env K' s := fun _ _ _ hk h =>
  wpAny_mono h (fun _ _ h => wpAny_mono h (fun _ _ h => hk _ h) fun _ _ h' => h') fun _ _ h' => h'
theorem EmitN.mono {e i1 : Expr} {acc : Value} {env : Env} : ∀ K K' s, (∀ s, K s → K' s) → EmitN prog w A e i1 acc env K s → EmitN prog w A e i1 acc env K' s := fun _ _ _ hk h =>
  wpAny_mono h (fun _ _ h => wpAny_mono h (fun _ _ h => wpAny_mono h (fun _ _ h => wpAny_mono h (fun _ _ h => hk _ h) fun _ _ h' => h') fun _ _ h' => h') fun _ _ h' => h') fun _ _ h' => h'

/-- the end of a turn -/
noncomputable def CEnd (h₀ : Heap) (L I : Addr) (oI : Obj) (Jn : (Str → Option Value) → List (Addr × Obj) → Prop) (s₂ : Shared) (s₄ : Shared) : Prop :=
  ∃ h' tk' m₂ news₂, s₄ = { s₂ with heap := h', toks := tk' } ∧ Fr h₀ L h' m₂ ∧ News h₀ L h' ((I, oI) :: news₂) ∧ Jn m₂ news₂
theorem CEnd.mk {h₀ h' : Heap} {L I : Addr} {oI : Obj} {Jn : (Str → Option Value) → List (Addr × Obj) → Prop} {s₂ : Shared} {tk' : Nat} {m₂ : Str → Option Value} {news₂ : List (Addr × Obj)}
    (F : Fr h₀ L h' m₂) (N : News h₀ L h' ((I, oI) :: news₂)) (j : Jn m₂ news₂) : CEnd h₀ L I oI Jn s₂ { s₂ with heap := h', toks := tk' } := ⟨h', tk', m₂, news₂, rfl, F, N, j⟩
/-- a comprehension's loop, by an invariant -/
theorem compLoop_g {elt target : Expr} {gens : List Comprehension} {ifs : List Expr} {scope : Scope} {pos : Pos} {d : Nat} {acc : Value} {emitP : (Shared → Prop) → Shared → Prop} {I : Addr} {fp : List Addr} {n : Nat} {P : Nat → Value → Prop} {St : Nat → Heap → Prop}
    {m : Str → Option Value} {news : List (Addr × Obj)} (J : Nat → (Str → Option Value) → List (Addr × Obj) → Prop)
    (ht : TurnBy prog w A (.ListComp elt gens scope pos) d (.ref I) acc cenv target ifs emitP) (hmono : ∀ K K' s, (∀ s, K s → K' s) → emitP K s → emitP K' s)
    (W : Walks prog w A I fp [I] n P St) (st : St 0 s.heap) (fr : Fr h₀ cenv.locals s.heap m) (nw : News h₀ cenv.locals s.heap news) (ini : J 0 m news) (fresh : h₀.get? I = none) (ne : cenv.locals ≠ I)
    (off : ∀ i m' news', J i m' news' → ∀ p ∈ news', p.1 ≠ I)
    (src : ∀ b ∈ fp, b = I ∨ ∃ o, ∀ i m' news' h', J i m' news' → Fr h₀ cenv.locals h' m' → News h₀ cenv.locals h' news' → h'.get? b = some o)
    (go : ∀ i (s' : Shared) v (Q' : Unit → Shared → Prop), St i s'.heap → Q' () s' → wpAny (model prog w) A (letOwnedTupleGo target (.ref I) v) Q' (fun _ _ => False) s')
    (has : ∀ i h, St i h → ∃ o, h.get? I = some o)
    (step : ∀ i v oI m₁ news₁ h₁ tk₁, i < n → P i v → J i m₁ news₁ → Fr h₀ cenv.locals h₁ m₁ → News h₀ cenv.locals h₁ ((I, oI) :: news₁) →
      wpAny (model prog w) A (assign target cenv v) (fun _ s₂ => wpAny (model prog w) A (testsOf ifs cenv) (fun ok s₃ =>
            if ok = true then emitP (CEnd h₀ cenv.locals I oI (J (i + 1)) s) s₃
            else CEnd h₀ cenv.locals I oI (J (i + 1)) s s₃) (fun _ _ => False) s₂) (fun _ _ => False) { s with heap := h₁, toks := tk₁ })
    (fin : ∀ h' tk' m' news', Fr h₀ cenv.locals h' m' → News h₀ cenv.locals h' news' → J n m' news' → R (.ok .next) { s with heap := h', toks := tk' }) :
    codeAny (model prog w) A (.compLoop (.ListComp elt gens scope pos) d (.ref I) acc cenv) R s := by
  refine codeAny_compLoop_own ht hmono
    (fun k s' => ∃ h' tk m' news' i, s' = { s with heap := h', toks := tk } ∧ St i h' ∧ Fr h₀ cenv.locals h' m' ∧ News h₀ cenv.locals h' news' ∧ J i m' news' ∧ i ≤ n ∧ k = n + 1 - i) ?_ (n + 1)
    ⟨s.heap, s.toks, m, news, 0, rfl, st, fr, nw, ini, Nat.zero_le _, rfl⟩
  rintro k s' ⟨h', tk, m', news', i, rfl, hst', F', N', hJ, hi, rfl⟩
  have next : ∀ h₁ : Heap, (∀ b o, b ∉ [I] → h'.get? b = some o → h₁.get? b = some o) → Fr h₀ cenv.locals h₁ m' ∧ News h₀ cenv.locals h₁ news' := fun h₁ hk₁ =>
    ⟨⟨F'.ns.at' fun o e => hk₁ _ o (by simpa using ne) e, fun b o e => hk₁ b o (fun hb => by rw [List.mem_singleton.mp hb, fresh] at e; cases e) (F'.keep b o e), F'.above⟩,
      fun p hp => ⟨hk₁ _ _ (by simpa using off _ _ _ hJ p hp) (N' p hp).1, (N' p hp).2⟩⟩
  by_cases hlt : i < n
  · refine W.item i _ _ _ hlt hst' fun v h₁ tk₁ hP hst₁ hk₁ => ?_
    obtain ⟨F₁, N₁⟩ := next h₁ hk₁
    obtain ⟨oI, hoI⟩ := has _ _ hst₁
    have N₂ : News h₀ cenv.locals h₁ ((I, oI) :: news') := fun p hp => by
      rcases List.mem_cons.mp hp with rfl | hp
      · exact ⟨hoI, ne.symm, fresh⟩
      · exact N₁ p hp
    have cont : ∀ s₄, CEnd h₀ cenv.locals I oI (J (i + 1)) s s₄ → ∃ k, k < n + 1 - i ∧ ∃ h'' tk m' news' i, s₄ = { s with heap := h'', toks := tk } ∧ St i h'' ∧ Fr h₀ cenv.locals h'' m' ∧ News h₀ cenv.locals h'' news' ∧ J i m' news' ∧ i ≤ n ∧ k = n + 1 - i := by
      rintro s₄ ⟨h₅, tk₅, m₂, news₂, rfl, F₅, N₅, J₅⟩
      refine ⟨n + 1 - (i + 1), by omega, h₅, tk₅, m₂, news₂, i + 1, rfl, W.frame _ _ _ hst₁ fun b hb o e => ?_, F₅, fun p hp => N₅ p (.tail _ hp), J₅, hlt, rfl⟩
      rcases src b hb with rfl | ⟨o', ho'⟩
      · rw [hoI] at e; cases e; exact (N₅ _ (.head _)).1
      · have e1 := ho' _ _ _ _ hJ F₁ N₁
        rw [e] at e1; cases e1
        exact ho' _ _ _ _ J₅ F₅ fun p hp => N₅ p (.tail _ hp)
    refine go (i + 1) _ v _ hst₁ ?_
    refine wpAny_mono (step i v oI m' news' h₁ tk₁ hlt hP hJ F₁ N₂) (fun _ s₃ h₃ => wpAny_mono h₃ (fun ok s₄ h₄ => ?_) (fun _ _ x => x)) (fun _ _ x => x)
    cases ok with
    | true =>
      simp only [if_true] at h₄ ⊢
      exact hmono _ _ _ (fun s₅ h₅ => cont s₅ h₅) h₄
    | false =>
      simp only [Bool.false_eq_true, if_false] at h₄ ⊢
      exact cont s₄ h₄
  · have hin : i = n := by omega
    subst hin
    refine W.done _ _ _ hst' fun h₁ tk₁ hk₁ => ?_
    obtain ⟨F₁, N₁⟩ := next h₁ hk₁
    exact fin h₁ tk₁ m' news' F₁ N₁ hJ
end
end Mine
namespace Mine
open PySem PySem.W PyProof.Rows PySem.Calls
section
variable {prog : Program} {w : World} {A : Around} {E : Value → Shared → Prop} {s : Shared} {env : Env} {h₀ : Heap} {L : Addr}
/-- the end of a comprehension's loop, told to the statement around it -/
noncomputable def CRes (s₂ : Shared) (I C : Addr) (K : Heap → Nat → List (Addr × Obj) → Prop) (r : Result) (s' : Shared) : Prop :=
  r = .ok .next ∧ ∃ h' tk m' news', s' = { s₂ with heap := h', toks := tk } ∧ Fr (s₂.heap.hide I) C h' m' ∧ News (s₂.heap.hide I) C h' news' ∧ (∀ p ∈ news', p.1 ≠ I) ∧ K h' tk news'
/-- a comprehension begun -/
noncomputable def CBegin (prog : Program) (w : World) (A : Around) (elt : Expr) (gens : List Comprehension) (scope : Scope) (pos : Pos) (cl : List (Str × Addr)) (env : Env) (s₂ : Shared) (I : Addr) (K : Addr → Heap → Nat → List (Addr × Obj) → Prop) : Prop :=
  ∀ D C h₃ tk₃, s₂.heap.objs.size ≤ D → @LT.lt Nat instLTNat D C → Fr (s₂.heap.hide I) C h₃ (fun _ => none) → News (s₂.heap.hide I) C h₃ [(D, W.listOf #[] 0)] → (∀ b o, s₂.heap.get? b = some o → h₃.get? b = some o) →
    codeAny (model prog w) A (.compLoop (.ListComp elt gens scope pos) 0 (.ref I) (.ref D) (compEnvC scope cl C env)) (CRes s₂ I C (K D)) { s₂ with heap := h₃, toks := tk₃ }
theorem begin_block {elt t0 i0 : Expr} {f0 : List Expr} {gs : List Comprehension} {scope : Scope} {cl : List (Str × Addr)} {pos : Pos} {s₂ : Shared} {I : Addr} {K : Addr → Heap → Nat → List (Addr × Obj) → Prop} {RR : Value → Addr → Result → Shared → Prop}
    (hcell : ∀ y ∈ scope.names, y.2 ≠ .cell) (hkind : scope.kind = .function) (hI : I < s₂.heap.objs.size) (self : ∀ h' tk (Q : Value → Shared → Prop) (E : Value → Shared → Prop), (∀ b o, s₂.heap.get? b = some o → h'.get? b = some o) → Q (.ref I) { s₂ with heap := h', toks := tk } → wpAny (model prog w) A (pyIter (.ref I)) Q E { s₂ with heap := h', toks := tk })
    (h : CBegin prog w A elt (⟨t0, i0, f0, 0⟩ :: gs) scope pos cl env s₂ I K)
    (hRR : ∀ D C r s', s₂.heap.get? D = none → s₂.heap.get? C = none → D ≠ C → CRes s₂ I C (K D) r s' → RR (.ref D) C r s') :
    wpAny (model prog w) A (newList []) (fun acc s₃ => wpAny (model prog w) A (newFunctionEnv scope env.globals cl [] env.qual none .none (some env)) (fun cenv s₄ =>
      codeAny (model prog w) A (.compStart (.ListComp elt (⟨t0, i0, f0, 0⟩ :: gs) scope pos) 0 (.ref I) acc { cenv with scope := relabel scope env }) (RR acc cenv.locals) s₄) E s₃) E s₂ := by
  refine wpAny_newObj_type (wpAny_newFunctionEnv hcell (by intro y hy; simp at hy) (fun h₁ hns₁ hsb₁ => ?_) hkind)
  dsimp only at hns₁ hsb₁ ⊢
  generalize hH2 : s₂.heap.push { cls := .type "list", dict := none, data := .seq ([] : List Value).toArray } = H2 at hns₁ hsb₁ ⊢
  have hC : H2.objs.size = s₂.heap.objs.size + 1 := by rw [← hH2, Heap.size_push]
  have hDC : s₂.heap.objs.size ≠ H2.objs.size := by rw [hC]; exact Nat.ne_of_lt (Nat.lt_succ_self _)
  have below : ∀ b, b < s₂.heap.objs.size → b ≠ H2.objs.size ∧ b ≠ s₂.heap.objs.size := fun b hb => ⟨by rw [hC]; exact Nat.ne_of_lt (Nat.lt_succ_of_lt hb), Nat.ne_of_lt hb⟩
  have old : ∀ b o, s₂.heap.get? b = some o → h₁.get? b = some o := fun b o e => hsb₁.extBut b o (below b (Heap.lt_size e)).1 (Heap.get?_push_of_some _ (hH2 ▸ Heap.get?_push_of_some _ e))
  have hacc : h₁.get? s₂.heap.objs.size = some { cls := .type "list", dict := none, data := .seq ([] : List Value).toArray } := hsb₁.extBut _ _ hDC (Heap.get?_push_of_some _ (hH2 ▸ Heap.get?_push_size _ rfl))
  have fresh : ∀ a, s₂.heap.objs.size ≤ a → s₂.heap.get? a = none := fun a ha => by
    cases e : s₂.heap.get? a with
    | none => rfl
    | some o' => exact absurd (Heap.lt_size e) (Nat.not_lt.mpr ha)
  have freshD : (s₂.heap.hide I).get? s₂.heap.objs.size = none := by
    cases e : (s₂.heap.hide I).get? s₂.heap.objs.size with
    | none => rfl
    | some o => have := Heap.of_hide e; rw [fresh _ (Nat.le_refl _)] at this; cases this
  have loop : ∀ tk, codeAny (model prog w) A (.compLoop (.ListComp elt (⟨t0, i0, f0, 0⟩ :: gs) scope pos) 0 (.ref I) (.ref s₂.heap.objs.size) (compEnvC scope cl H2.objs.size env))
        (RR (.ref s₂.heap.objs.size) H2.objs.size) { s₂ with heap := h₁, toks := tk } := fun tk => by
    refine codeAny_mono (h s₂.heap.objs.size H2.objs.size h₁ tk (Nat.le_refl _) (by rw [hC]; exact Nat.lt_succ_self _) ⟨hns₁, fun b o e => old b o (Heap.of_hide e), by rw [Heap.hide_size, hC]; exact Nat.le_succ _⟩ (fun p hp => ?_) old) fun r s' hr => ?_
    · rw [List.mem_singleton.mp hp]
      exact ⟨hacc, hDC, freshD⟩
    · exact hRR _ _ r s' (fresh _ (Nat.le_refl _)) (fresh _ (by rw [hC]; exact Nat.le_succ _)) hDC hr
  exact codeAny_compStart_list (loop _) (self _ _ _ _ old (loop _))

inductive CompGIn (prog : Program) (w : World) (A : Around) (env : Env) (h₀ : Heap) (L : Addr) (elt t0 i0 : Expr) (f0 : List Expr) (gs : List Comprehension) (scope : Scope) (pos : Pos) (cl : List (Str × Addr)) (Q : Value → Shared → Prop) (it : Value) (s₂ : Shared) : Prop
  | mk (I : Addr) (m : Str → Option Value) (news : List (Addr × Obj)) (h1 : it = .ref I) (h2 : I < s₂.heap.objs.size) (h3 : h₀.get? I = none) (h4 : L ≠ I) (h5 : (∀ p ∈ news, p.1 ≠ I)) (h6 : Fr h₀ L s₂.heap m) (h7 : News h₀ L s₂.heap news) (h8 : (∀ h' tk (Q : Value → Shared → Prop) (E : Value → Shared → Prop), (∀ b o, s₂.heap.get? b = some o → h'.get? b = some o) → Q (.ref I) { s₂ with heap := h', toks := tk } → wpAny (model prog w) A (pyIter (.ref I)) Q E { s₂ with heap := h', toks := tk })) (h9 : CBegin prog w A elt (⟨t0, i0, f0, 0⟩ :: gs) scope pos cl env s₂ I (fun D _ tk news' => ∀ h'', Fr h₀ L h'' m → News h₀ L h'' (news' ++ news) → (∀ b o, b ≠ I → s₂.heap.get? b = some o → h''.get? b = some o) → Q (.ref D) { s₂ with heap := h'', toks := tk })) : CompGIn prog w A env h₀ L elt t0 i0 f0 gs scope pos cl Q it s₂
theorem comp_g {elt t0 i0 : Expr} {f0 : List Expr} {gs : List Comprehension} {scope : Scope} {cl : List (Str × Addr)} {pos : Pos} {Q : Value → Shared → Prop}
    (hclos : closureFor scope env = pure cl) (hcell : ∀ y ∈ scope.names, y.2 ≠ .cell) (hkind : scope.kind = .function)
    (hnames : ∀ y ∈ scope.names, y.2 = .local → scope.names.lookup y.1 = some .local)
    (h : wpAny (model prog w) A (eval i0 env) (fun xv s₁ => wpAny (model prog w) A (pyIter xv) (CompGIn prog w A env h₀ L elt t0 i0 f0 gs scope pos cl Q) E s₁) E s)
    (hs : ∀ x, foldedSetIterable i0 env x = pure x) :
    wpAny (model prog w) A (eval (.ListComp elt (⟨t0, i0, f0, 0⟩ :: gs) scope pos) env) Q E s := by
  rw [eval_ListComp]
  refine wpAny_comprehension_free (use := none) rfl hs hclos hkind hnames (wpAny_mono h (fun xv s₁ h₁ => wpAny_mono h₁ (fun it s₂ h₂ => ?_) fun _ _ e => e) fun _ _ e => e)
  obtain ⟨I, m, news, rfl, hI, hI0, hLI, hnI, F0, N0, self, hb⟩ := h₂
  refine begin_block (RR := fun acc C => compPost (model prog w) A E none Q acc C) hcell hkind hI self hb fun D C r s' hD hC hDC hr => ?_
  obtain ⟨rfl, h', tk, m', news', rfl, F', N', off, kK⟩ := hr
  refine ⟨m', F'.ns, fun h'' hs'' => ?_⟩
  have keep : ∀ b o, b ≠ I → s₂.heap.get? b = some o → h''.get? b = some o := fun b o hbI e =>
    hs''.extBut b o (by rintro rfl; rw [hC] at e; cases e) (F'.keep b o ((Heap.hide_ne _ hbI).trans e))
  have hD0 : ∀ a, a ≠ I → (s₂.heap.hide I).get? a = none → s₂.heap.get? a = none := fun a haI e => by rw [Heap.hide_ne _ haI] at e; exact e
  refine kK h'' ⟨F0.ns.at' fun o e => keep _ o hLI e, fun b o e => keep b o (fun q => by rw [q, hI0] at e; cases e) (F0.keep b o e), F0.above⟩ (fun q hq => ?_) keep
  rcases List.mem_append.mp hq with hq | hq
  · have n1 := N' q hq
    have q0 := hD0 q.1 (off q hq) n1.2.2
    refine ⟨hs''.extBut _ _ n1.2.1 n1.1, fun e => ?_, ?_⟩
    · obtain ⟨oL, _, _, hL, _⟩ := F0.ns
      rw [e, hL] at q0; cases q0
    · cases e0 : h₀.get? q.1 with
      | none => rfl
      | some o' => rw [F0.keep _ _ e0] at q0; cases q0
  · exact ⟨keep _ _ (hnI q hq) (N0 q hq).1, (N0 q hq).2⟩

inductive CompGAIn (prog : Program) (w : World) (A : Around) (env : Env) (h₀ : Heap) (y : Str) (elt t0 i0 : Expr) (f0 : List Expr) (gs : List Comprehension) (scope : Scope) (pos : Pos) (cl : List (Str × Addr)) (Q : Flow → Shared → Prop) (it : Value) (s₂ : Shared) : Prop
  | mk (I : Addr) (m : Str → Option Value) (news : List (Addr × Obj)) (h1 : it = .ref I) (h2 : I < s₂.heap.objs.size) (h3 : h₀.get? I = none) (h4 : env.locals ≠ I) (h5 : (∀ p ∈ news, p.1 ≠ I)) (h6 : Fr h₀ env.locals s₂.heap m) (h7 : News h₀ env.locals s₂.heap news) (h8 : (∀ h' tk (Q : Value → Shared → Prop) (E : Value → Shared → Prop), (∀ b o, s₂.heap.get? b = some o → h'.get? b = some o) → Q (.ref I) { s₂ with heap := h', toks := tk } → wpAny (model prog w) A (pyIter (.ref I)) Q E { s₂ with heap := h', toks := tk })) (h9 : CBegin prog w A elt (⟨t0, i0, f0, 0⟩ :: gs) scope pos cl env s₂ I (fun D _ _ news' => ∀ h'' tk, Fr h₀ env.locals h'' (fun z => if z = y then some (.ref D) else m z) → News h₀ env.locals h'' (news' ++ news) → Q .next { s₂ with heap := h'', toks := tk })) : CompGAIn prog w A env h₀ y elt t0 i0 f0 gs scope pos cl Q it s₂
/-- the same, stored into a local name at once -/
theorem comp_gA {elt t0 i0 : Expr} {f0 : List Expr} {gs : List Comprehension} {scope : Scope} {cl : List (Str × Addr)} {pos spos py : Pos} {y : Str} {Q : Flow → Shared → Prop}
    (hsw : swapsWith (.ListComp elt (⟨t0, i0, f0, 0⟩ :: gs) scope pos) (some (.Name y py)) spos.line env = pure true)
    (hclos : closureFor scope env = pure cl) (hcell : ∀ y ∈ scope.names, y.2 ≠ .cell) (hkind : scope.kind = .function)
    (hnames : ∀ y ∈ scope.names, y.2 = .local → scope.names.lookup y.1 = some .local)
    (hy : env.kindOf y = some .local) (hp : (env.scope.kind == .class || (env.scope.kind == .module && env.locals != env.globals)) = false)
    (h : wpAny (model prog w) A (eval i0 env) (fun xv s₁ => wpAny (model prog w) A (pyIter xv) (CompGAIn prog w A env h₀ y elt t0 i0 f0 gs scope pos cl Q) E s₁) E s)
    (hs : ∀ x, foldedSetIterable i0 env x = pure x) :
    wpAny (model prog w) A (exec (.Assign [.Name y py] (.ListComp elt (⟨t0, i0, f0, 0⟩ :: gs) scope pos) spos) env) Q E s := by
  rw [exec_Assign_Name_used _ _ _ _ hsw]
  refine wpAny_bind (wpAny_standAt (wpAny_bind ?_))
  show wpAny _ A (do let _ ← comprehension (.ListComp elt (⟨t0, i0, f0, 0⟩ :: gs) scope pos) scope env _ (newList []) false (eval i0 env) (some (assign (.Name y py) env))) _ _ s
  refine wpAny_bind (wpAny_mono (wpAny_comprehension_free (use := some (assign (.Name y py) env)) (Q := fun _ s' => Q .next s') rfl hs hclos hkind hnames
    (wpAny_mono h (fun xv s₁ h₁ => wpAny_mono h₁ (fun it s₂ h₂ => ?_) fun _ _ e => e) fun _ _ e => e)) (fun _ s' hq => wpAny_pure (wpAny_pure hq)) fun _ _ e => e)
  obtain ⟨I, m, news, rfl, hI, hI0, hLI, hnI, F0, N0, self, hb⟩ := h₂
  refine begin_block (RR := fun acc C => compPost (model prog w) A E (some (assign (.Name y py) env)) (fun _ s' => Q .next s') acc C) hcell hkind hI self hb fun D C r s' hD hC hDC hr => ?_
  obtain ⟨rfl, h', tk, m', news', rfl, F', N', off, kK⟩ := hr
  obtain ⟨oL, a1, a2, hL, a3⟩ := id F0.ns
  have hLC : env.locals ≠ C := by rintro rfl; rw [hC] at hL; cases hL
  have hD0 : ∀ a, a ≠ I → (s₂.heap.hide I).get? a = none → s₂.heap.get? a = none := fun a haI e => by rw [Heap.hide_ne _ haI] at e; exact e
  have hns' : h'.Ns env.locals m := ⟨oL, a1, a2, F'.keep _ _ ((Heap.hide_ne _ hLI).trans hL), a3⟩
  show wpAny _ A (assign (.Name y py) env (.ref D)) _ _ _
  refine wpAny_assign_Name (wpAny_storeName_local hy hns' (fun h₂ hn₂ hs₂ => ?_) hp)
  refine ⟨m', F'.ns.sameBut hs₂ (Ne.symm hLC), fun h₃ hs₃ => ?_⟩
  have keep : ∀ b o, b ≠ env.locals → b ≠ I → s₂.heap.get? b = some o → h₃.get? b = some o := fun b o hbL hbI e =>
    hs₃.extBut b o (by rintro rfl; rw [hC] at e; cases e) (hs₂.extBut b o hbL (F'.keep b o ((Heap.hide_ne _ hbI).trans e)))
  refine kK h₃ _ ⟨hn₂.sameBut hs₃ hLC, fun b o eb => keep b o (fun q => Nat.lt_irrefl _ (Nat.lt_of_lt_of_le (q ▸ Heap.lt_size eb) F0.above)) (fun q => by rw [q, hI0] at eb; cases eb) (F0.keep _ _ eb), F0.above⟩ (fun q hq => ?_)
  rcases List.mem_append.mp hq with hq | hq
  · have n1 := N' q hq
    have q0 := hD0 q.1 (off q hq) n1.2.2
    have hqL : q.1 ≠ env.locals := fun e => by rw [e, hL] at q0; cases q0
    refine ⟨hs₃.extBut _ _ n1.2.1 (hs₂.extBut _ _ hqL n1.1), hqL, ?_⟩
    cases e0 : h₀.get? q.1 with
    | none => rfl
    | some o' => rw [F0.keep _ _ e0] at q0; cases q0
  · exact ⟨keep _ _ (N0 q hq).2.1 (hnI q hq) (N0 q hq).1, (N0 q hq).2⟩
end
end Mine
namespace Mine
open PySem PySem.W PyProof.Rows PySem.Calls
section
variable {prog : Program} {w : World} {A : Around} {E : Value → Shared → Prop} {s : Shared} {env : Env} {h₀ : Heap} {L : Addr}
theorem list_ext_at {vs ws : List Value} (hl : vs.length = ws.length) (h : ∀ (j : Nat) (v : Value), vs[j]? = some v → ws[j]? = some v) : vs = ws := by
  apply List.ext_getElem?
  intro j
  cases e : vs[j]? with
  | some v => exact (h j v e).symm
  | none => rw [List.getElem?_eq_none_iff] at e; exact (List.getElem?_eq_none_iff.mpr (by omega)).symm
inductive CompIn1 (prog : Program) (w : World) (A : Around) (env : Env) (h₀ : Heap) (L : Addr) (scope : Scope) (cl : List (Str × Addr)) (x : Str) (ifs : List Expr) (elt : Expr) (p : Value → Bool) (F : Value → Value → Prop) (Q : Value → Shared → Prop) (it : Value) (s₂ : Shared) : Prop
  | mk (I : Addr) (fp : List Addr) (n : Nat) (P : Nat → Value → Prop) (St : Nat → Heap → Prop) (m : Str → Option Value) (news : List (Addr × Obj)) (h1 : it = .ref I) (h2 : Walks prog w A I fp [I] n P St) (h3 : n ≤ sizeLine) (h4 : St 0 s₂.heap) (h5 : (∀ b ∈ fp, b < s₂.heap.objs.size)) (h6 : I ∈ fp) (h7 : h₀.get? I = none) (h8 : L ≠ I) (h9 : (∀ p ∈ news, p.1 ≠ I)) (h10 : Fr h₀ L s₂.heap m) (h11 : News h₀ L s₂.heap news) (h12 : (∀ C (i : Nat) (v : Value) s₃ m₃ E', s₂.heap.objs.size ≤ C → P i v → s₃.heap.Ns C m₃ → m₃ x = some v → (∀ b o, b ≠ I → s₂.heap.get? b = some o → s₃.heap.get? b = some o) → wpAny (model prog w) A (testsOf ifs (compEnvC scope cl C env)) (fun ok s₄ => ok = p v ∧ Keeps s₃ s₄) E' s₃)) (h13 : (∀ C (i : Nat) (v : Value) s₃ m₃ E', s₂.heap.objs.size ≤ C → P i v → p v = true → s₃.heap.Ns C m₃ → m₃ x = some v → (∀ b o, b ≠ I → s₂.heap.get? b = some o → s₃.heap.get? b = some o) → wpAny (model prog w) A (eval elt (compEnvC scope cl C env)) (fun y s₄ => F v y ∧ Keeps s₃ s₄) E' s₃)) (h14 : (∀ D k h' tk ys (vs : List Value), vs.length = n → (∀ (j : Nat) (v : Value), vs[j]? = some v → P j v) → Paired F (vs.filter p) ys → (∀ p ∈ news, @LT.lt Nat instLTNat p.1 D) → Fr h₀ L h' m → News h₀ L h' ((D, W.listOf ys.toArray k) :: news) → (∀ b o, b ≠ I → s₂.heap.get? b = some o → h'.get? b = some o) → Q (.ref D) { s₂ with heap := h', toks := tk })) : CompIn1 prog w A env h₀ L scope cl x ifs elt p F Q it s₂
/-- a comprehension with one name, walked -/
theorem comp_one {elt iter : Expr} {x : Str} {px : Pos} {ifs : List Expr} {scope : Scope} {cl : List (Str × Addr)} {pos : Pos} {Q : Value → Shared → Prop} (p : Value → Bool) (F : Value → Value → Prop)
    (hclos : closureFor scope env = pure cl) (hcell : ∀ y ∈ scope.names, y.2 ≠ .cell) (hkind : scope.kind = .function)
    (hnames : ∀ y ∈ scope.names, y.2 = .local → scope.names.lookup y.1 = some .local) (hx : scope.names.lookup x = some .local)
    (h : wpAny (model prog w) A (eval iter env) (fun xv s₁ => wpAny (model prog w) A (pyIter xv) (CompIn1 prog w A env h₀ L scope cl x ifs elt p F Q) E s₁) E s)
    (hs : ∀ x, foldedSetIterable iter env x = pure x) :
    wpAny (model prog w) A (eval (.ListComp elt [⟨.Name x px, iter, ifs, 0⟩] scope pos) env) Q E s := by
  refine comp_g (h₀ := h₀) (L := L) hclos hcell hkind hnames (wpAny_mono h (fun xv s₁ h₁ => wpAny_mono h₁ (fun it s₂ h₂ => ?_) fun _ _ e => e) fun _ _ e => e) hs
  obtain ⟨I, fp, n, P, St, m, news, rfl, Wk, hsz, hst, hfp, hIf, hI0, hLI, hnI, F0, N0, htests, helt, hQ⟩ := h₂
  refine ⟨I, m, news, rfl, hfp I hIf, hI0, hLI, hnI, F0, N0, fun h' tk Q E hk hq => Wk.self 0 _ _ _ (Wk.frame _ _ _ hst fun b _ o e => hk b o e) hq, ?_⟩
  intro D C h₃ tk₃ hDs hDC F3 N3 hk3
  have hDl : ∀ b ∈ fp, b < D := fun b hb => Nat.lt_of_lt_of_le (hfp b hb) hDs
  have hst₃ : St 0 h₃ := Wk.frame _ _ _ hst fun b _ o e => hk3 b o e
  have up : ∀ s₄ : Shared, (∀ b o, b ≠ C → b ∉ [I] → b ≠ D → h₃.get? b = some o → s₄.heap.get? b = some o) → ∀ b o, b ≠ I → s₂.heap.get? b = some o → s₄.heap.get? b = some o := fun s₄ hk b o hb e =>
    hk b o (Nat.ne_of_lt (Nat.lt_trans (Nat.lt_of_lt_of_le (Heap.lt_size e) hDs) hDC)) (by simpa using hb) (Nat.ne_of_lt (Nat.lt_of_lt_of_le (Heap.lt_size e) hDs)) (hk3 b o e)
  refine codeAny_compLoop_walk (hsz := hsz) (cenv := compEnvC scope cl C env) Wk p F (lookup_relabel_local hx) (by simp [compEnvC, relabel, hkind]) (Nat.ne_of_lt hDC) (fun hm => Nat.lt_irrefl _ (hDl D hm)) (fun hm => Nat.lt_irrefl _ (Nat.lt_trans (hDl C hm) hDC)) hst₃
    ⟨_, (N3 _ (.head _)).1⟩ F3.ns
    (fun i v s₄ m₄ hP hn hm hk htk => htests C i v s₄ m₄ _ (Nat.le_of_lt (Nat.lt_of_le_of_lt hDs hDC)) hP hn hm (up s₄ hk)) (fun i v s₄ m₄ hP hp hn hm hk htk => helt C i v s₄ m₄ _ (Nat.le_of_lt (Nat.lt_of_le_of_lt hDs hDC)) hP hp hn hm (up s₄ hk)) fun h' tk m' ys vs hn hl hpl hlen hP hF hk => ?_
  obtain ⟨k, e⟩ := hpl
  have hI3 : ∀ b o, (s₂.heap.hide I).get? b = some o → b ≠ I := fun b o e q => by rw [q, Heap.hide_self] at e; cases e
  refine ⟨rfl, h', tk, m', [(D, W.listOf ys.toList.toArray k)], rfl, ⟨hn, fun b o e => up ⟨h', s₂.gens, s₂.drawn, tk, s₂.os⟩ hk b o (hI3 b o e) (Heap.of_hide e), F3.above⟩, fun q hq => ?_, fun q hq => ?_, fun h'' F4 N4 hk4 => hQ D k h'' tk ys.toList vs hlen hP hF (fun q hq => Nat.lt_of_lt_of_le (Heap.lt_size (N0 q hq).1) hDs) F4 N4 hk4⟩
  · rw [List.mem_singleton.mp hq]
    exact ⟨by simpa [W.listOf] using e, (N3 _ (.head _)).2⟩
  · rw [List.mem_singleton.mp hq]
    exact Nat.ne_of_gt (hDl I hIf)
inductive CompListIn (prog : Program) (w : World) (A : Around) (env : Env) (h₀ : Heap) (L : Addr) (scope : Scope) (cl : List (Str × Addr)) (x : Str) (ifs : List Expr) (elt : Expr) (p : Value → Bool) (F : Value → Value → Prop) (Q : Value → Shared → Prop) (xv : Value) (s₁ : Shared) : Prop
  | mk (a : Addr) (items : Array Value) (m : Str → Option Value) (news : List (Addr × Obj)) (h1 : xv = .ref a) (h2 : s₁.heap.IsList a items) (h3 : items.size ≤ sizeLine) (h4 : Fr h₀ L s₁.heap m) (h5 : News h₀ L s₁.heap news) (h6 : (∀ C (i : Nat) (v : Value) s₃ m₃ E', s₁.heap.objs.size ≤ C → items[i]? = some v → s₃.heap.Ns C m₃ → m₃ x = some v → (∀ b o, s₁.heap.get? b = some o → s₃.heap.get? b = some o) → wpAny (model prog w) A (testsOf ifs (compEnvC scope cl C env)) (fun ok s₄ => ok = p v ∧ Keeps s₃ s₄) E' s₃)) (h7 : (∀ C (i : Nat) (v : Value) s₃ m₃ E', s₁.heap.objs.size ≤ C → items[i]? = some v → p v = true → s₃.heap.Ns C m₃ → m₃ x = some v → (∀ b o, s₁.heap.get? b = some o → s₃.heap.get? b = some o) → wpAny (model prog w) A (eval elt (compEnvC scope cl C env)) (fun y s₄ => F v y ∧ Keeps s₃ s₄) E' s₃)) (h8 : (∀ D k h' tk ys, Paired F (items.toList.filter p) ys → (∀ p ∈ news, @LT.lt Nat instLTNat p.1 D) → Fr h₀ L h' m → News h₀ L h' ((D, W.listOf ys.toArray k) :: news) → (∀ b o, s₁.heap.get? b = some o → h'.get? b = some o) → Q (.ref D) { s₁ with heap := h', toks := tk })) : CompListIn prog w A env h₀ L scope cl x ifs elt p F Q xv s₁
/-- a comprehension with one name over a list -/
theorem comp_list {elt iter : Expr} {x : Str} {px : Pos} {ifs : List Expr} {scope : Scope} {cl : List (Str × Addr)} {pos : Pos} {Q : Value → Shared → Prop} (p : Value → Bool) (F : Value → Value → Prop) (hh : A.handled = none)
    (hclos : closureFor scope env = pure cl) (hcell : ∀ y ∈ scope.names, y.2 ≠ .cell) (hkind : scope.kind = .function)
    (hnames : ∀ y ∈ scope.names, y.2 = .local → scope.names.lookup y.1 = some .local) (hx : scope.names.lookup x = some .local)
    (h : wpAny (model prog w) A (eval iter env) (fun xv s₁ => Stop (CompListIn prog w A env h₀ L scope cl x ifs elt p F Q xv s₁)) E s)
    (hs : ∀ x, foldedSetIterable iter env x = pure x) :
    wpAny (model prog w) A (eval (.ListComp elt [⟨.Name x px, iter, ifs, 0⟩] scope pos) env) Q E s := by
  refine comp_one (h₀ := h₀) (L := L) p F hclos hcell hkind hnames hx (wpAny_mono h (fun xv s₁ h₁ => ?_) fun _ _ e => e) hs
  obtain ⟨a, items, m, news, rfl, hl, hsz, F0, N0, htests, helt, hQ⟩ := of_stop h₁
  refine src_list hh hl fun I h8 St ⟨hI, haI⟩ ⟨hI0, hIs⟩ K8 Wk hSt hhas _ => ?_
  have hne : ∀ b o, s₁.heap.get? b = some o → b ≠ I := fun b o e q => by rw [q, hI0] at e; cases e
  refine ⟨I, _, _, _, St, m, news, rfl, Wk, hsz, hSt, ?_, by simp, ?_, ?_, fun q hq => hne _ _ (N0 q hq).1, F0.keeps K8, news_keeps N0 K8, fun C i v s₃ m₃ E' hC hP hn hm hk => htests C i v s₃ m₃ E' (Nat.le_trans (Nat.le_of_lt (Nat.lt_of_le_of_lt hIs hI)) hC) hP hn hm fun b o e => hk b o (hne b o e) (K8 b o e),
    fun C i v s₃ m₃ E' hC hP hp hn hm hk => helt C i v s₃ m₃ E' (Nat.le_trans (Nat.le_of_lt (Nat.lt_of_le_of_lt hIs hI)) hC) hP hp hn hm fun b o e => hk b o (hne b o e) (K8 b o e), fun D k h' tk ys vs hlen hP hF hlt F' N' hk => ?_⟩
  · intro b hb
    simp only [List.mem_cons, List.not_mem_nil, or_false] at hb
    rcases hb with rfl | rfl
    · exact hI
    · exact haI
  · cases e0 : h₀.get? I with
    | none => rfl
    | some o' => rw [F0.keep _ _ e0] at hI0; cases hI0
  · obtain ⟨oL, _, _, hL, _⟩ := F0.ns
    exact hne _ _ hL
  · have hv : vs = items.toList := list_ext_at (by simpa using hlen) fun j v e => by simpa using hP j v e
    rw [hv] at hF
    exact hQ D k h' tk ys hF hlt F' N' fun b o e => hk b o (hne b o e) (K8 b o e)
inductive CompRangeIn (prog : Program) (w : World) (A : Around) (env : Env) (h₀ : Heap) (L : Addr) (scope : Scope) (cl : List (Str × Addr)) (x : Str) (ifs : List Expr) (elt : Expr) (n : Nat) (p : Nat → Bool) (F : Nat → Value → Prop) (Q : Value → Shared → Prop) (xv : Value) (s₁ : Shared) : Prop
  | mk (r : Addr) (t u v : Tok) (m : Str → Option Value) (news : List (Addr × Obj)) (h1 : xv = .ref r) (h2 : IsRange s₁.heap r 0 (n : Int) 1 t u v) (h3 : Fr h₀ L s₁.heap m) (h4 : News h₀ L s₁.heap news) (h5 : (∀ C (i : Nat) (t : Tok) s₃ m₃ E', s₁.heap.objs.size ≤ C → i < n → s₃.heap.Ns C m₃ → m₃ x = some (.int (i : Int) t) → (∀ b o, s₁.heap.get? b = some o → s₃.heap.get? b = some o) → wpAny (model prog w) A (testsOf ifs (compEnvC scope cl C env)) (fun ok s₄ => ok = p i ∧ Keeps s₃ s₄) E' s₃)) (h6 : (∀ C (i : Nat) (t : Tok) s₃ m₃ E', s₁.heap.objs.size ≤ C → i < n → p i = true → s₃.heap.Ns C m₃ → m₃ x = some (.int (i : Int) t) → (∀ b o, s₁.heap.get? b = some o → s₃.heap.get? b = some o) → wpAny (model prog w) A (eval elt (compEnvC scope cl C env)) (fun y s₄ => F i y ∧ Keeps s₃ s₄) E' s₃)) (h7 : (∀ D k h' tk ys, Paired F ((List.range n).filter p) ys → (∀ p ∈ news, @LT.lt Nat instLTNat p.1 D) → Fr h₀ L h' m → News h₀ L h' ((D, W.listOf ys.toArray k) :: news) → (∀ b o, s₁.heap.get? b = some o → h'.get? b = some o) → Q (.ref D) { s₁ with heap := h', toks := tk })) : CompRangeIn prog w A env h₀ L scope cl x ifs elt n p F Q xv s₁
/-- a comprehension with one name over a range -/
theorem comp_range {elt iter : Expr} {x : Str} {px : Pos} {ifs : List Expr} {scope : Scope} {cl : List (Str × Addr)} {pos : Pos} {Q : Value → Shared → Prop} (n : Nat) (p : Nat → Bool) (F : Nat → Value → Prop) (hh : A.handled = none) (hn9 : n ≤ 1000)
    (hclos : closureFor scope env = pure cl) (hcell : ∀ y ∈ scope.names, y.2 ≠ .cell) (hkind : scope.kind = .function)
    (hnames : ∀ y ∈ scope.names, y.2 = .local → scope.names.lookup y.1 = some .local) (hx : scope.names.lookup x = some .local)
    (h : wpAny (model prog w) A (eval iter env) (fun xv s₁ => Stop (CompRangeIn prog w A env h₀ L scope cl x ifs elt n p F Q xv s₁)) E s)
    (hs : ∀ x, foldedSetIterable iter env x = pure x) :
    wpAny (model prog w) A (eval (.ListComp elt [⟨.Name x px, iter, ifs, 0⟩] scope pos) env) Q E s := by
  refine comp_one (h₀ := h₀) (L := L) (fun v => match v with | .int z _ => p z.toNat | _ => false) (fun v y => ∃ (i : Nat) (t : Tok), v = .int (i : Int) t ∧ F i y) hclos hcell hkind hnames hx (wpAny_mono h (fun xv s₁ h₁ => ?_) fun _ _ e => e) hs
  obtain ⟨r, t, u, v, m, news, rfl, hr, F0, N0, htests, helt, hQ⟩ := of_stop h₁
  refine src_range hh hr (Int.natCast_nonneg _) (by omega) fun I h8 St hI ⟨hI0, hIs⟩ K8 Wk hSt hhas => ?_
  have hne : ∀ b o, s₁.heap.get? b = some o → b ≠ I := fun b o e q => by rw [q, hI0] at e; cases e
  refine ⟨I, _, _, _, St, m, news, rfl, Wk, ?_, hSt, by simpa using hI, by simp, ?_, ?_, fun q hq => hne _ _ (N0 q hq).1, F0.keeps K8, news_keeps N0 K8, fun C i v s₃ m₃ E' hC hP hn hm hk => ?_, fun C i v s₃ m₃ E' hC hP hp hn hm hk => ?_, fun D k h' tk ys vs hlen hP hF hlt F' N' hk => ?_⟩
  · have : (1000 : Nat) ≤ sizeLine := by decide +kernel
    omega
  · cases e0 : h₀.get? I with
    | none => rfl
    | some o' => rw [F0.keep _ _ e0] at hI0; cases hI0
  · obtain ⟨oL, _, _, hL, _⟩ := F0.ns
    exact hne _ _ hL
  · obtain ⟨hi, t, rfl⟩ := hP
    exact htests C i t s₃ m₃ E' (Nat.le_trans (Nat.le_of_lt (Nat.lt_of_le_of_lt hIs hI)) hC) (by omega) hn hm fun b o e => hk b o (hne b o e) (K8 b o e)
  · obtain ⟨hi, t, rfl⟩ := hP
    exact wpAny_mono (helt C i t s₃ m₃ E' (Nat.le_trans (Nat.le_of_lt (Nat.lt_of_le_of_lt hIs hI)) hC) (by omega) (by simpa using hp) hn hm fun b o e => hk b o (hne b o e) (K8 b o e)) (fun y s₄ hy => ⟨⟨i, t, rfl, hy.1⟩, hy.2⟩) fun _ _ e => e
  · obtain ⟨τ, rfl⟩ := vals_range hlen hP
    have hF' : Paired F ((List.range n).filter p) ys := by
      rw [Int.toNat_natCast, List.filter_map] at hF
      have go : ∀ (l : List Nat) (ys : List Value), Paired (fun v y => ∃ (i : Nat) (t : Tok), v = .int (i : Int) t ∧ F i y) (l.map fun j : Nat => Value.int (j : Int) (τ j)) ys → Paired F l ys := by
        intro l
        induction l with
        | nil => intro ys h; cases h; exact .nil
        | cons a r ih =>
          intro ys h
          cases h with
          | cons h t =>
            obtain ⟨i, t', e, hf⟩ := h
            have : a = i := by injection e with e1 e2; omega
            subst this
            exact .cons hf (ih _ t)
      exact go _ _ hF
    exact hQ D k h' tk ys hF' hlt F' N' fun b o e => hk b o (hne b o e) (K8 b o e)
end
end Mine
namespace Mine
/-- the law's def, read off the head's statement -/
noncomputable def getDef {q : Program} {loose : List Str} {XP : (Str → Option Value) → Heap → Prop} {YP : World → Heap → Prop} {r : RowW} {d : DefRec} {kwd : List (Str × Expr)} {run : Value → List Value → Sem Value} {R : Prop} (_ : WalkO q loose XP YP r d kwd run → R) : DefRec := d
noncomputable def lawDef : DefRec := getDef hd
/-- the i-th of a list of statements -/
noncomputable def nth : List Stmt → Nat → Stmt
  | [], _ => .Pass ⟨0, 0, 0, 0⟩
  | x :: _, 0 => x
  | _ :: r, n + 1 => nth r n
noncomputable def lawSt (i : Nat) : Stmt := nth lawDef.body i
noncomputable def forBody : Stmt → List Stmt
  | .For _ _ b _ _ => b
  | _ => []
noncomputable def turnSt (i : Nat) : Stmt := nth (forBody (lawSt 6)) i
noncomputable def keptSt (i : Nat) : Stmt := nth (forBody (lawSt 8)) i
theorem top_bmain {p : Program} {loose : List Str} {mean : ExcName → Option Value} {mg mb : Str → Option Value} {g : Heap} {P : Addr} (T : Top p loose mean mg mb g) (h : g.get? P = none) : g.BuiltinsAt mg P := by
  obtain ⟨bm, ob, b1, b2, b3, b4, b5, b6⟩ := T.bmain
  have hbP : bm ≠ P := fun q => by rw [q, h] at b3; cases b3
  have hbG : bm ≠ mainGlobals := fun q => by
    obtain ⟨o, es, ep, e, hd, _⟩ := T.g
    rw [q, e] at b3; cases b3; rw [hd] at b6; cases b6
  exact ⟨bm, ob, b1, b2, hbG, hbP, b3, b4, b5, b6⟩
noncomputable abbrev lawEnv (L fa : Addr) (cd : Value) : Env := envOfC lawDef.name lawDef.scope L fa cd
/-- the ground on which the law is walked -/
structure LW (w : World) (p : Program) (loose : List Str) (mg mb : Str → Option Value) (g : Heap) (L : Addr) : Prop where
  X : (pre.heap_1 w.params).In g
  T : TopRead p loose mg mb g
  B : g.BuiltinsAt mg 57
  C : CodeHd g 61 57
  g57 : g.get? 57 = none
  l57 : @LT.lt Nat instLTNat 57 L
end Mine
namespace Mine
open PySem PySem.W PyProof.Rows PySem.Calls
theorem news_cut {h₀ h : Heap} {L : Addr} {news news' : List (Addr × Obj)} (N : News h₀ L h news) (hs : List.Sublist news' news) : News h₀ L h news' := fun p hp => N p (hs.mem hp)
/-- what the law's statements write: its locals, its cells, the table of code objects -/
noncomputable def Bad (L z : Addr) : Prop := z = 57 ∨ z = L ∨ z = L + 1 + 1 + 1 ∨ z = L + 1 + 1 + 1 + 1 ∨ z = L + 1 + 1 + 1 + 1 + 1 ∨ z = L + 1 + 1 + 1 + 1 + 1 + 1 ∨ z = L + 1 + 1 + 1 + 1 + 1 + 1 + 1 ∨ z = L + 1 + 1 + 1 + 1 + 1 + 1 + 1 + 1
structure NotBad (L z : Addr) : Prop where
  n57 : z ≠ 57
  n0 : z ≠ L
  n3 : z ≠ L + 1 + 1 + 1
  n4 : z ≠ L + 1 + 1 + 1 + 1
  n5 : z ≠ L + 1 + 1 + 1 + 1 + 1
  n6 : z ≠ L + 1 + 1 + 1 + 1 + 1 + 1
  n7 : z ≠ L + 1 + 1 + 1 + 1 + 1 + 1 + 1
  n8 : z ≠ L + 1 + 1 + 1 + 1 + 1 + 1 + 1 + 1
theorem notBad {L z : Addr} (h : ¬ Bad L z) : NotBad L z := by
  simp only [Bad, not_or] at h
  exact ⟨h.1, h.2.1, h.2.2.1, h.2.2.2.1, h.2.2.2.2.1, h.2.2.2.2.2.1, h.2.2.2.2.2.2.1, h.2.2.2.2.2.2.2⟩
theorem NotBad.not {L z : Addr} (h : NotBad L z) : ¬ Bad L z := by
  rintro (e | e | e | e | e | e | e | e)
  · exact h.n57 e
  · exact h.n0 e
  · exact h.n3 e
  · exact h.n4 e
  · exact h.n5 e
  · exact h.n6 e
  · exact h.n7 e
  · exact h.n8 e
/-- all else is kept -/
noncomputable def Kept (L : Addr) (h h' : Heap) : Prop := ∀ z o, ¬ Bad L z → h.get? z = some o → h'.get? z = some o
theorem Kept.of {L : Addr} {h h' : Heap} (hk : ∀ b o, h.get? b = some o → h'.get? b = some o) : Kept L h h' := fun _ _ _ e => hk _ _ e
theorem Kept.trans {L : Addr} {h h' h'' : Heap} (a : Kept L h h') (b : Kept L h' h'') : Kept L h h'' := fun z o n e => b z o n (a z o n e)
/-- the law's state between two statements -/
structure LSt (g : Heap) (L : Addr) (h : Heap) (m : Str → Option Value) (v3 v4 v5 v6 v7 v8 : Option Value) : Prop where
  F : Fr g L h m
  c3 : h.IsCell (L + 1 + 1 + 1) v3
  c4 : h.IsCell (L + 1 + 1 + 1 + 1) v4
  c5 : h.IsCell (L + 1 + 1 + 1 + 1 + 1) v5
  c6 : h.IsCell (L + 1 + 1 + 1 + 1 + 1 + 1) v6
  c7 : h.IsCell (L + 1 + 1 + 1 + 1 + 1 + 1 + 1) v7
  c8 : h.IsCell (L + 1 + 1 + 1 + 1 + 1 + 1 + 1 + 1) v8
  t : ∃ op, h.get? 57 = some op ∧ Tab op
  z : ∃ z o, ¬ Bad L z ∧ g.get? z = none ∧ h.get? z = some o
section
variable {w : World} {p : Program} {loose : List Str} {mg mb : Str → Option Value} {g : Heap} {L : Addr} {h h' : Heap} {m : Str → Option Value} {v3 v4 v5 v6 v7 v8 : Option Value}
theorem get_none_of {g : Heap} {L b : Addr} (h : g.objs.size ≤ L) (hb : @LE.le Nat instLENat L b) : g.get? b = none := Heap.get?_none_of_le (Nat.le_trans h hb)
inductive LNews (g : Heap) (L : Addr) (h : Heap) (v3 v4 v5 v6 v7 v8 : Option Value) (z : Addr) (oz : Obj) : Prop
  | mk (o3 o4 o5 o6 o7 o8 op : Obj) (d3 : o3.data = .cell v3) (d4 : o4.data = .cell v4) (d5 : o5.data = .cell v5) (d6 : o6.data = .cell v6) (d7 : o7.data = .cell v7) (d8 : o8.data = .cell v8) (tt : Tab op)
      (N : News g L h [(z, oz), (L + 1 + 1 + 1 + 1 + 1 + 1 + 1 + 1, o8), (L + 1 + 1 + 1 + 1 + 1 + 1 + 1, o7), (L + 1 + 1 + 1 + 1 + 1 + 1, o6), (L + 1 + 1 + 1 + 1 + 1, o5), (L + 1 + 1 + 1 + 1, o4), (L + 1 + 1 + 1, o3), (57, op)]) : LNews g L h v3 v4 v5 v6 v7 v8 z oz
/-- the ledger of a state -/
theorem LSt.news (S : LSt g L h m v3 v4 v5 v6 v7 v8) (G : LW w p loose mg mb g L) {z : Addr} {oz : Obj} (hz : NotBad L z) (gz : g.get? z = none) (ez : h.get? z = some oz) :
    LNews g L h v3 v4 v5 v6 v7 v8 z oz := by
  obtain ⟨F, ⟨o3, e3, d3⟩, ⟨o4, e4, d4⟩, ⟨o5, e5, d5⟩, ⟨o6, e6, d6⟩, ⟨o7, e7, d7⟩, ⟨o8, e8, d8⟩, ⟨op, et, tt⟩, _⟩ := S
  refine ⟨o3, o4, o5, o6, o7, o8, op, d3, d4, d5, d6, d7, d8, tt, ?_⟩
  have up : ∀ b : Addr, @LT.lt Nat instLTNat L b → b ≠ L ∧ g.get? b = none := fun b hb => ⟨Nat.ne_of_gt hb, get_none_of F.above (Nat.le_of_lt hb)⟩
  intro q hq
  simp only [List.mem_cons, List.not_mem_nil, or_false] at hq
  rcases hq with rfl | rfl | rfl | rfl | rfl | rfl | rfl | rfl
  · exact ⟨ez, hz.n0, gz⟩
  · exact ⟨e8, up _ (show @LT.lt Nat instLTNat L (L + 8) from Nat.lt_add_of_pos_right (by decide))⟩
  · exact ⟨e7, up _ (show @LT.lt Nat instLTNat L (L + 7) from Nat.lt_add_of_pos_right (by decide))⟩
  · exact ⟨e6, up _ (show @LT.lt Nat instLTNat L (L + 6) from Nat.lt_add_of_pos_right (by decide))⟩
  · exact ⟨e5, up _ (show @LT.lt Nat instLTNat L (L + 5) from Nat.lt_add_of_pos_right (by decide))⟩
  · exact ⟨e4, up _ (show @LT.lt Nat instLTNat L (L + 4) from Nat.lt_add_of_pos_right (by decide))⟩
  · exact ⟨e3, up _ (show @LT.lt Nat instLTNat L (L + 3) from Nat.lt_add_of_pos_right (by decide))⟩
  · exact ⟨et, Nat.ne_of_lt G.l57, G.g57⟩
/-- a state read off its ledger -/
theorem LSt.of {news : List (Addr × Obj)} {o3 o4 o5 o6 o7 o8 op oz : Obj} {z : Addr} (F : Fr g L h m) (N : News g L h news)
    (hs : List.Sublist [(z, oz), (L + 1 + 1 + 1 + 1 + 1 + 1 + 1 + 1, o8), (L + 1 + 1 + 1 + 1 + 1 + 1 + 1, o7), (L + 1 + 1 + 1 + 1 + 1 + 1, o6), (L + 1 + 1 + 1 + 1 + 1, o5), (L + 1 + 1 + 1 + 1, o4), (L + 1 + 1 + 1, o3), (57, op)] news)
    (hz : NotBad L z) (gz : g.get? z = none) (d3 : o3.data = .cell v3) (d4 : o4.data = .cell v4) (d5 : o5.data = .cell v5) (d6 : o6.data = .cell v6) (d7 : o7.data = .cell v7) (d8 : o8.data = .cell v8) (tt : Tab op) :
    LSt g L h m v3 v4 v5 v6 v7 v8 ∧ h.get? z = some oz := by
  have N' : News g L h _ := fun p hp => N p (hs.mem hp)
  exact ⟨⟨F, ⟨o3, (N' (L + 1 + 1 + 1, o3) (by k_mem)).1, d3⟩, ⟨o4, (N' (L + 1 + 1 + 1 + 1, o4) (by k_mem)).1, d4⟩, ⟨o5, (N' (L + 1 + 1 + 1 + 1 + 1, o5) (by k_mem)).1, d5⟩, ⟨o6, (N' (L + 1 + 1 + 1 + 1 + 1 + 1, o6) (by k_mem)).1, d6⟩, ⟨o7, (N' (L + 1 + 1 + 1 + 1 + 1 + 1 + 1, o7) (by k_mem)).1, d7⟩,
    ⟨o8, (N' (L + 1 + 1 + 1 + 1 + 1 + 1 + 1 + 1, o8) (by k_mem)).1, d8⟩, ⟨op, (N' (57, op) (by k_mem)).1, tt⟩, ⟨z, oz, hz.not, gz, (N' _ (.head _)).1⟩⟩, (N' _ (.head _)).1⟩
theorem LSt.keeps (S : LSt g L h m v3 v4 v5 v6 v7 v8) (hk : ∀ b o, h.get? b = some o → h'.get? b = some o) : LSt g L h' m v3 v4 v5 v6 v7 v8 :=
  ⟨S.F.keeps hk, S.c3.keeps hk, S.c4.keeps hk, S.c5.keeps hk, S.c6.keeps hk, S.c7.keeps hk, S.c8.keeps hk, let ⟨op, e, t⟩ := S.t; ⟨op, hk _ _ e, t⟩, let ⟨z, o, l, n, e⟩ := S.z; ⟨z, o, l, n, hk _ _ e⟩⟩
theorem cell_but {a : Addr} {v : Option Value} (c : h.IsCell a v) (ha : a ≠ 57) (hk : ∀ b o, b ≠ 57 → h.get? b = some o → h'.get? b = some o) : h'.IsCell a v := let ⟨o, e, d⟩ := c; ⟨o, hk _ _ ha e, d⟩
theorem LSt.keeps57 (S : LSt g L h m v3 v4 v5 v6 v7 v8) (G : LW w p loose mg mb g L)
    {op : Obj} (hk : ∀ b o, b ≠ 57 → h.get? b = some o → h'.get? b = some o) (e : h'.get? 57 = some op) (t : Tab op) : LSt g L h' m v3 v4 v5 v6 v7 v8 := by
  have l57 := G.l57
  have ne : ∀ k : Nat, (L + k : Nat) ≠ (57 : Nat) := fun k => Nat.ne_of_gt (Nat.lt_of_lt_of_le l57 (Nat.le_add_right _ _))
  refine ⟨⟨S.F.ns.at' fun o e => hk _ o (ne 0) e, fun b o e => hk b o (fun q => by rw [q, G.g57] at e; cases e) (S.F.keep b o e), S.F.above⟩,
    cell_but S.c3 (ne 3) hk, cell_but S.c4 (ne 4) hk, cell_but S.c5 (ne 5) hk, cell_but S.c6 (ne 6) hk, cell_but S.c7 (ne 7) hk, cell_but S.c8 (ne 8) hk, ⟨op, e, t⟩, ?_⟩
  obtain ⟨z, o, l, n, e⟩ := S.z
  exact ⟨z, o, l, n, hk z o (notBad l).n57 e⟩
theorem Ns_data {h : Heap} {a : Addr} {m : Str → Option Value} {o : Obj} {items : Array Value} {n : Nat} (H : h.Ns a m) (e : h.get? a = some o) (d : o.data = .seq items n) : False := by
  obtain ⟨o', es, ep, e', d', _⟩ := H
  rw [e] at e'; cases e'; rw [d] at d'; cases d'
theorem cell_data {h : Heap} {a : Addr} {v : Option Value} {o : Obj} {items : Array Value} {n : Nat} (H : h.IsCell a v) (e : h.get? a = some o) (d : o.data = .seq items n) : False := by
  obtain ⟨o', e', d'⟩ := H
  rw [e] at e'; cases e'; rw [d] at d'; cases d'
/-- lists and tuples stand apart from what the law writes -/
theorem LSt.seq (S : LSt g L h m v3 v4 v5 v6 v7 v8) {a : Addr} {o : Obj} {items : Array Value} {n : Nat} (e : h.get? a = some o) (d : o.data = .seq items n) : ¬ Bad L a := by
  rintro (rfl | rfl | rfl | rfl | rfl | rfl | rfl | rfl)
  · obtain ⟨op, e', ⟨ps, rfl, _⟩⟩ := S.t
    rw [e] at e'; cases e'; cases d
  · exact Ns_data S.F.ns e d
  · exact cell_data S.c3 e d
  · exact cell_data S.c4 e d
  · exact cell_data S.c5 e d
  · exact cell_data S.c6 e d
  · exact cell_data S.c7 e d
  · exact cell_data S.c8 e d
theorem LSt.list (S : LSt g L h m v3 v4 v5 v6 v7 v8) (K : Kept L h h') {a : Addr} {items : Array Value} (hl : h.IsList a items) : h'.IsList a items := by
  obtain ⟨o, e, c, n, d⟩ := hl
  exact ⟨o, K _ _ (S.seq e d) e, c, n, d⟩
theorem LSt.tup (S : LSt g L h m v3 v4 v5 v6 v7 v8) (K : Kept L h h') {a : Addr} {items : Array Value} (hl : IsTup h a items) : IsTup h' a items := by
  obtain ⟨o, e, c, n, d⟩ := hl
  exact ⟨o, K _ _ (S.seq e d) e, c, n, d⟩
theorem LSt.steps (S : LSt g L h m v3 v4 v5 v6 v7 v8) (K : Kept L h h') {a : Addr} {xs : List (Nat × Bool × List Nat)} (H : StepsAt h a xs) : StepsAt h' a xs := by
  obtain ⟨vs, hl, h1, h2⟩ := H
  exact ⟨vs, S.list K hl, h1, fun i x hx => let ⟨t, u1, u2, e, ht⟩ := h2 i x hx; ⟨t, u1, u2, e, S.tup K ht⟩⟩
theorem LSt.sameC (S : LSt g L h m v3 v4 v5 v6 v7 v8) {k : Nat} (hk : 1 ≤ k) (hs : Heap.SameBut (L + k) h h') : Fr g L h' m ∧ (∃ op, h'.get? 57 = some op ∧ Tab op) ∨ 57 = L + k := by
  by_cases q : (57 : Nat) = L + k
  · exact .inr q
  · refine .inl ⟨⟨S.F.ns.sameBut hs (Nat.ne_of_lt (Nat.lt_add_of_pos_right hk)), fun b o e => hs.extBut b o (fun q => ?_) (S.F.keep b o e), S.F.above⟩, ?_⟩
    · rw [q, get_none_of S.F.above (Nat.le_add_right _ _)] at e; cases e
    · obtain ⟨op, e, t⟩ := S.t
      exact ⟨op, hs.extBut _ _ q e, t⟩
theorem cell_other {a b : Addr} {v : Option Value} (c : h.IsCell a v) (hs : Heap.SameBut b h h') (ha : a ≠ b) : h'.IsCell a v := let ⟨o, e, d⟩ := c; ⟨o, hs.extBut _ _ ha e, d⟩
theorem addr_ne {L i j : Nat} (h : i ≠ j) : L + i ≠ L + j := fun e => h (Nat.add_left_cancel e)
theorem LSt.set6 (S : LSt g L h m v3 v4 v5 v6 v7 v8) (G : LW w p loose mg mb g L) {v : Option Value} (hs : Heap.SameBut (L + 1 + 1 + 1 + 1 + 1 + 1) h h') (hc : h'.IsCell (L + 1 + 1 + 1 + 1 + 1 + 1) v) : LSt g L h' m v3 v4 v5 v v7 v8 ∧ Kept L h h' := by
  have K : Kept L h h' := fun z o n e => hs.extBut z o (notBad n).n6 e
  have q57 : (57 : Nat) ≠ L + 6 := Nat.ne_of_lt (Nat.lt_of_lt_of_le G.l57 (Nat.le_add_right _ _))
  obtain ⟨F, t⟩ := (S.sameC (k := 6) (by decide) hs).resolve_right q57
  obtain ⟨z, o, n, gz, e⟩ := S.z
  exact ⟨⟨F, cell_other S.c3 hs (addr_ne (i := 3) (j := 6) (by decide)), cell_other S.c4 hs (addr_ne (i := 4) (j := 6) (by decide)), cell_other S.c5 hs (addr_ne (i := 5) (j := 6) (by decide)), hc, cell_other S.c7 hs (addr_ne (i := 7) (j := 6) (by decide)), cell_other S.c8 hs (addr_ne (i := 8) (j := 6) (by decide)), t, ⟨z, o, n, gz, K _ _ n e⟩⟩, K⟩
theorem LSt.set7 (S : LSt g L h m v3 v4 v5 v6 v7 v8) (G : LW w p loose mg mb g L) {v : Option Value} (hs : Heap.SameBut (L + 1 + 1 + 1 + 1 + 1 + 1 + 1) h h') (hc : h'.IsCell (L + 1 + 1 + 1 + 1 + 1 + 1 + 1) v) : LSt g L h' m v3 v4 v5 v6 v v8 ∧ Kept L h h' := by
  have K : Kept L h h' := fun z o n e => hs.extBut z o (notBad n).n7 e
  have q57 : (57 : Nat) ≠ L + 7 := Nat.ne_of_lt (Nat.lt_of_lt_of_le G.l57 (Nat.le_add_right _ _))
  obtain ⟨F, t⟩ := (S.sameC (k := 7) (by decide) hs).resolve_right q57
  obtain ⟨z, o, n, gz, e⟩ := S.z
  exact ⟨⟨F, cell_other S.c3 hs (addr_ne (i := 3) (j := 7) (by decide)), cell_other S.c4 hs (addr_ne (i := 4) (j := 7) (by decide)), cell_other S.c5 hs (addr_ne (i := 5) (j := 7) (by decide)), cell_other S.c6 hs (addr_ne (i := 6) (j := 7) (by decide)), hc, cell_other S.c8 hs (addr_ne (i := 8) (j := 7) (by decide)), t, ⟨z, o, n, gz, K _ _ n e⟩⟩, K⟩
theorem LSt.set8 (S : LSt g L h m v3 v4 v5 v6 v7 v8) (G : LW w p loose mg mb g L) {v : Option Value} (hs : Heap.SameBut (L + 1 + 1 + 1 + 1 + 1 + 1 + 1 + 1) h h') (hc : h'.IsCell (L + 1 + 1 + 1 + 1 + 1 + 1 + 1 + 1) v) : LSt g L h' m v3 v4 v5 v6 v7 v ∧ Kept L h h' := by
  have K : Kept L h h' := fun z o n e => hs.extBut z o (notBad n).n8 e
  have q57 : (57 : Nat) ≠ L + 8 := Nat.ne_of_lt (Nat.lt_of_lt_of_le G.l57 (Nat.le_add_right _ _))
  obtain ⟨F, t⟩ := (S.sameC (k := 8) (by decide) hs).resolve_right q57
  obtain ⟨z, o, n, gz, e⟩ := S.z
  exact ⟨⟨F, cell_other S.c3 hs (addr_ne (i := 3) (j := 8) (by decide)), cell_other S.c4 hs (addr_ne (i := 4) (j := 8) (by decide)), cell_other S.c5 hs (addr_ne (i := 5) (j := 8) (by decide)), cell_other S.c6 hs (addr_ne (i := 6) (j := 8) (by decide)), cell_other S.c7 hs (addr_ne (i := 7) (j := 8) (by decide)), hc, t, ⟨z, o, n, gz, K _ _ n e⟩⟩, K⟩
theorem LSt.set4 (S : LSt g L h m v3 v4 v5 v6 v7 v8) (G : LW w p loose mg mb g L) {v : Option Value} (hs : Heap.SameBut (L + 1 + 1 + 1 + 1) h h') (hc : h'.IsCell (L + 1 + 1 + 1 + 1) v) : LSt g L h' m v3 v v5 v6 v7 v8 ∧ Kept L h h' := by
  have K : Kept L h h' := fun z o n e => hs.extBut z o (notBad n).n4 e
  have q57 : (57 : Nat) ≠ L + 4 := Nat.ne_of_lt (Nat.lt_of_lt_of_le G.l57 (Nat.le_add_right _ _))
  obtain ⟨F, t⟩ := (S.sameC (k := 4) (by decide) hs).resolve_right q57
  obtain ⟨z, o, n, gz, e⟩ := S.z
  exact ⟨⟨F, cell_other S.c3 hs (addr_ne (i := 3) (j := 4) (by decide)), hc, cell_other S.c5 hs (addr_ne (i := 5) (j := 4) (by decide)), cell_other S.c6 hs (addr_ne (i := 6) (j := 4) (by decide)), cell_other S.c7 hs (addr_ne (i := 7) (j := 4) (by decide)), cell_other S.c8 hs (addr_ne (i := 8) (j := 4) (by decide)), t, ⟨z, o, n, gz, K _ _ n e⟩⟩, K⟩
theorem LSt.set5 (S : LSt g L h m v3 v4 v5 v6 v7 v8) (G : LW w p loose mg mb g L) {v : Option Value} (hs : Heap.SameBut (L + 1 + 1 + 1 + 1 + 1) h h') (hc : h'.IsCell (L + 1 + 1 + 1 + 1 + 1) v) : LSt g L h' m v3 v4 v v6 v7 v8 ∧ Kept L h h' := by
  have K : Kept L h h' := fun z o n e => hs.extBut z o (notBad n).n5 e
  have q57 : (57 : Nat) ≠ L + 5 := Nat.ne_of_lt (Nat.lt_of_lt_of_le G.l57 (Nat.le_add_right _ _))
  obtain ⟨F, t⟩ := (S.sameC (k := 5) (by decide) hs).resolve_right q57
  obtain ⟨z, o, n, gz, e⟩ := S.z
  exact ⟨⟨F, cell_other S.c3 hs (addr_ne (i := 3) (j := 5) (by decide)), cell_other S.c4 hs (addr_ne (i := 4) (j := 5) (by decide)), hc, cell_other S.c6 hs (addr_ne (i := 6) (j := 5) (by decide)), cell_other S.c7 hs (addr_ne (i := 7) (j := 5) (by decide)), cell_other S.c8 hs (addr_ne (i := 8) (j := 5) (by decide)), t, ⟨z, o, n, gz, K _ _ n e⟩⟩, K⟩
theorem LSt.setm (S : LSt g L h m v3 v4 v5 v6 v7 v8) (G : LW w p loose mg mb g L) {m' : Str → Option Value} (hs : Heap.SameBut L h h') (hn : h'.Ns L m') : LSt g L h' m' v3 v4 v5 v6 v7 v8 ∧ Kept L h h' := by
  have K : Kept L h h' := fun z o n e => hs.extBut z o (notBad n).n0 e
  have nL : ∀ k : Nat, 1 ≤ k → (L + k : Nat) ≠ L := fun k hk => Nat.ne_of_gt (Nat.lt_add_of_pos_right hk)
  obtain ⟨op, e, t⟩ := S.t
  obtain ⟨z, o, n, gz, ez⟩ := S.z
  exact ⟨⟨S.F.set hn hs, cell_other S.c3 hs (nL 3 (by decide)), cell_other S.c4 hs (nL 4 (by decide)), cell_other S.c5 hs (nL 5 (by decide)), cell_other S.c6 hs (nL 6 (by decide)), cell_other S.c7 hs (nL 7 (by decide)), cell_other S.c8 hs (nL 8 (by decide)),
    ⟨op, hs.extBut _ _ (Nat.ne_of_lt G.l57) e, t⟩, ⟨z, o, n, gz, K _ _ n ez⟩⟩, K⟩
theorem LSt.setK (S : LSt g L h m v3 v4 v5 v6 v7 v8) (G : LW w p loose mg mb g L) {m' : Str → Option Value} (hs : ∀ b o, b ≠ L → h.get? b = some o → h'.get? b = some o) (hn : h'.Ns L m') : LSt g L h' m' v3 v4 v5 v6 v7 v8 ∧ Kept L h h' := by
  have K : Kept L h h' := fun z o n e => hs z o (notBad n).n0 e
  have nL : ∀ k : Nat, 1 ≤ k → (L + k : Nat) ≠ L := fun k hk => Nat.ne_of_gt (Nat.lt_add_of_pos_right hk)
  have cell : ∀ (k : Nat) (v : Option Value), 1 ≤ k → h.IsCell (L + k) v → h'.IsCell (L + k) v := fun k v hk1 c => let ⟨o, e, d⟩ := c; ⟨o, hs _ _ (nL k hk1) e, d⟩
  obtain ⟨op, e, t⟩ := S.t
  obtain ⟨z, o, n, gz, ez⟩ := S.z
  exact ⟨⟨⟨hn, fun b o e => hs b o (Nat.ne_of_lt (Nat.lt_of_lt_of_le (Heap.lt_size e) S.F.above)) (S.F.keep b o e), S.F.above⟩, cell 3 _ (by decide) S.c3, cell 4 _ (by decide) S.c4, cell 5 _ (by decide) S.c5, cell 6 _ (by decide) S.c6, cell 7 _ (by decide) S.c7, cell 8 _ (by decide) S.c8,
    ⟨op, hs _ _ (Nat.ne_of_lt G.l57) e, t⟩, ⟨z, o, n, gz, K _ _ n ez⟩⟩, K⟩
/-- where a statement of the law ends -/
inductive LRes (g : Heap) (L : Addr) (s : Shared) (m : Str → Option Value) (v3 v4 v5 v6 v7 v8 : Option Value) (s' : Shared) : Prop
  | mk (h' : Heap) (tk : Nat) (gs : Array GenState) (h1 : s' = { s with heap := h', toks := tk, gens := gs }) (h2 : AllBare s.gens → AllBare gs) (h3 : LSt g L h' m v3 v4 v5 v6 v7 v8) : LRes g L s m v3 v4 v5 v6 v7 v8 s'
theorem LRes.keep {s s' : Shared} (R : LRes g L s m v3 v4 v5 v6 v7 v8 s') : ∀ b o, g.get? b = some o → s'.heap.get? b = some o := by
  obtain ⟨h', tk, gs, rfl, _, S⟩ := R
  exact S.F.keep
end
theorem fdiv_nat (n k : Nat) : (n : Int).fdiv (k : Int) = ((n / k : Nat) : Int) := by
  rw [Int.fdiv_eq_ediv_of_nonneg _ (Int.natCast_nonneg _)]; exact (Int.natCast_ediv n k).symm
theorem fmod_nat (n k : Nat) : (n : Int).fmod (k : Int) = ((n % k : Nat) : Int) := by
  rw [Int.fmod_eq_emod_of_nonneg _ (Int.natCast_nonneg _)]; exact (Int.natCast_emod n k).symm
end Mine
local macro_rules | `(tactic| walk_at "MY sub") => `(tactic| repeat (first | exact List.Sublist.slnil | exact List.Sublist.refl _ | apply List.Sublist.cons_cons | apply List.Sublist.cons))
local macro_rules | `(tactic| walk_at "storeName") => Mine.go ["kF", "kN"] 0 `PySem.W.storeX_C ["@kF", "@kN", "c", "U", "d", "_", "a", "b"] [("a", "rfl0"), ("b", "rfl0"), ("c", "rfl0"), ("U", "updf"), ("d", "as")] ["cFN", "i", "i", "i", "i", "i", "dso"]
namespace Mine
open PySem PySem.W PyProof.Rows PySem.Calls
end Mine
section LawNS
namespace Mine
open PySem PySem.W PyProof.Rows PySem.Calls
noncomputable def midL (j : Nat) : List Nat := [[], [97], [45, 33], [47]].getD j []
/-- the k-th name for a turn -/
noncomputable def nameL (tn k : Nat) : List Nat := ([ENDS.getD k 0] ++ midL ((k + tn / 6) % 4)) ++ [ENDS.getD ((k + tn) % 6) 0]
theorem filter_true {α : Type} (l : List α) : l.filter (fun _ => true) = l := by simp
theorem item_atN {prog : Program} {w : World} {A : Around} {E : Value → Shared → Prop} {s : Shared} {h₀ : Heap} {L : Addr} {news : List (Addr × Obj)} {value slice : Expr} {l : Addr} {vs : List Value} {n : Nat} {k : Int} {u : Tok} {v : Value} {Q : Value → Shared → Prop}
    (N : News h₀ L s.heap news) (hm : (l, W.listOf vs.toArray n) ∈ news) (h0 : 0 ≤ k) (hhi : k < 2 ^ 63) (hx : vs[k.toNat]? = some v) (h : Q v s)
    (hs : subscripted slice false (.ref l) (.int k u) = operate [.ref l, .int k u] (getItem (.ref l) (.int k u))) :
    wpAny (model prog w) A (subscriptTail value slice (.ref l) (.int k u)) Q E s :=
  have hl : s.heap.IsList l vs.toArray := ⟨_, (N _ hm).1, rfl, _, rfl⟩
  tail_any hl.typeIs slot_list_getitem.lookup (wpAny_getItem_list hl h0 hhi (by simpa using hx) h) hs
theorem mid_at {a b c d : Tok} {i tn : Nat} : ∃ t : Tok, [Value.str (SL []) a, .str (SL [97]) b, .str (SL [45, 33]) c, .str (SL [47]) d][(((i : Int) + (tn : Int).fdiv 6).fmod 4).toNat]? = some (.str (SL (midL ((i + tn / 6) % 4))) t) := by
  have e : (((i : Int) + (tn : Int).fdiv 6).fmod 4).toNat = (i + tn / 6) % 4 := by
    rw [Int.fdiv_eq_ediv_of_nonneg _ (by decide), Int.fmod_eq_emod_of_nonneg _ (by decide)]; omega
  rw [e]
  have h4 : (i + tn / 6) % 4 < 4 := Nat.mod_lt _ (by decide)
  generalize (i + tn / 6) % 4 = j at h4
  rcases j with _ | _ | _ | _ | j
  · exact ⟨a, rfl⟩
  · exact ⟨b, rfl⟩
  · exact ⟨c, rfl⟩
  · exact ⟨d, rfl⟩
  · omega
end Mine
local macro_rules | `(tactic| walk_at $s:str) => Mine.stopAt ["subscriptTail List", "subscriptTail List BinOp ref int"] s
namespace Mine
open PySem PySem.W PyProof.Rows PySem.Calls
theorem names_el (w : World) (s₃ : Shared) (Q : Value → Shared → Prop) (E : Value → Shared → Prop) (p : Program) (loose : List Str) (mg mb : Str → Option Value) (g : Heap) (fa : Addr) (cd : Value) (L C : Addr) (tn i : Nat) (te tt t : Tok) (m₃ : Str → Option Value)
   (htn : tn ≤ 124) (hi : i < 6) (X : (pre.heap_1 w.params).In s₃.heap) (T : TopRead p loose mg mb s₃.heap) (hn : s₃.heap.Ns C m₃) (hm : m₃ (Str.ofString "k") = some (.int (i : Int) t)) (hk : s₃.heap.IsCell (L + 1) (some (.str (SL ENDS) te))) (hk2 : s₃.heap.IsCell (L + 1 + 1) (some (.int (tn : Int) tt)))
   (hQ : ∀ u s₄, Keeps s₃ s₄ → Q (.str (SL (nameL tn i)) u) s₄)
   (elt : Expr) (sc : Scope) (he : ∃ y gn p1 p2, lawSt 3 = .Assign y (.ListComp elt gn sc p1) p2) :
   wpAny (model PySem.Challenge.rw_ij0087_01.row.prog w) (callerA.deeper (lawEnv L fa cd)) (eval elt (compEnvC sc [(Str.ofString "turn", L + 1 + 1), (Str.ofString "ends", L + 1)] C (lawEnv L fa cd))) Q E s₃ := by
  obtain ⟨y, gn, p1, p2, he⟩ := he
  unfold lawSt lawDef getDef at he
  dsimp only [nth, forBody] at he
  cases he
  revert X; k_fill; intro X
  have he1 : ENDS[((i : Int)).toNat]? = some (ENDS.getD i 0) := by
    have : ∀ i : Nat, i < 6 → ENDS[((i : Int)).toNat]? = some (ENDS.getD i 0) := by decide +kernel
    exact this i hi
  walk
  refine wpAny_newObj_type ?_
  have K4 : ∀ b o, s₃.heap.get? b = some o → (s₃.heap.push { cls := .type "list", dict := none, data := .seq ([Value.str (SL []) (s₃.toks + 1), Value.str (SL [97]) (s₃.toks + 1 + 1), Value.str (SL [45, 33]) (s₃.toks + 1 + 1 + 1), Value.str (SL [47]) (s₃.toks + 1 + 1 + 1 + 1)] : List Value).toArray }).get? b = some o := fun b o e => Heap.get?_push_of_some _ e
  have hl4 : (s₃.heap.push { cls := .type "list", dict := none, data := .seq ([Value.str (SL []) (s₃.toks + 1), Value.str (SL [97]) (s₃.toks + 1 + 1), Value.str (SL [45, 33]) (s₃.toks + 1 + 1 + 1), Value.str (SL [47]) (s₃.toks + 1 + 1 + 1 + 1)] : List Value).toArray }).get? s₃.heap.objs.size = some _ := Heap.get?_push_size _ rfl
  dsimp only at K4 hl4 ⊢
  generalize hH : s₃.heap.push { cls := .type "list", dict := none, data := .seq ([Value.str (SL []) (s₃.toks + 1), Value.str (SL [97]) (s₃.toks + 1 + 1), Value.str (SL [45, 33]) (s₃.toks + 1 + 1 + 1), Value.str (SL [47]) (s₃.toks + 1 + 1 + 1 + 1)] : List Value).toArray } = h4 at K4 hl4 ⊢
  have X4 := X.keeps K4
  have T4 := T.keeps K4
  have hn4 : h4.Ns C m₃ := hn.at' fun o e => K4 _ _ e
  have hk4 := hk.keeps K4
  have hk24 := hk2.keeps K4
  clear hH hk hk2 hn X T
  walk
  obtain ⟨t4, ht4⟩ := mid_at (a := s₃.toks + 1) (b := s₃.toks + 1 + 1) (c := s₃.toks + 1 + 1 + 1) (d := s₃.toks + 1 + 1 + 1 + 1) (i := i) (tn := tn)
  have hlist : h4.IsList s₃.heap.objs.size [Value.str (SL []) (s₃.toks + 1), Value.str (SL [97]) (s₃.toks + 1 + 1), Value.str (SL [45, 33]) (s₃.toks + 1 + 1 + 1), Value.str (SL [47]) (s₃.toks + 1 + 1 + 1 + 1)].toArray := ⟨_, hl4, rfl, _, rfl⟩
  have hf0 := Int.fmod_nonneg_of_pos ((i : Int) + (tn : Int).fdiv 6) (b := 4) (by decide)
  have hf1 := Int.fmod_lt_of_pos ((i : Int) + (tn : Int).fdiv 6) (b := 4) (by decide)
  refine to_stop (tail_any hlist.typeIs slot_list_getitem.lookup (wpAny_getItem_list hlist hf0 (by omega) (by simpa using ht4) ?_) (by with_unfolding_all rfl))
  have hm4 : (midL ((i + tn / 6) % 4)).length ≤ 2 := by
    have h4 : (i + tn / 6) % 4 < 4 := Nat.mod_lt _ (by decide)
    generalize (i + tn / 6) % 4 = j at h4
    have : ∀ j : Nat, j < 4 → (midL j).length ≤ 2 := by decide
    exact this j h4
  have hf6 := Int.fmod_nonneg_of_pos ((i : Int) + (tn : Int)) (b := 6) (by decide)
  have hf7 := Int.fmod_lt_of_pos ((i : Int) + (tn : Int)) (b := 6) (by decide)
  have he2 : ENDS[(((i : Int) + (tn : Int)).fmod 6).toNat]? = some (ENDS.getD ((i + tn) % 6) 0) := by
    have e : (((i : Int) + (tn : Int)).fmod 6).toNat = (i + tn) % 6 := by
      rw [Int.fmod_eq_emod_of_nonneg _ (by decide)]; omega
    rw [e]
    have : ∀ j : Nat, j < 6 → ENDS[j]? = some (ENDS.getD j 0) := by decide +kernel
    exact this _ (Nat.mod_lt _ (by decide))
  clear hf0 hf1 ht4 hlist hl4
  walk
  exact hQ _ _ ⟨h4, _, rfl, K4⟩
theorem names_st (w : World) (s : Shared) (Q : Flow → Shared → Prop) (E : Value → Shared → Prop) (p : Program) (loose : List Str) (mg mb : Str → Option Value) (g : Heap) (fa : Addr) (cd : Value) (L : Addr) (tn : Nat) (te tt : Tok) (m : Str → Option Value) (ob : Obj) (NB : Addr)
   (o1 o2 o3 o4 o5 o6 o7 o8 op : Obj) (GW : LW w p loose mg mb g L) (htn : tn ≤ 124) (F : Fr g L s.heap m)
   (N : News g L s.heap [(NB, ob), (L + 1 + 1 + 1 + 1 + 1 + 1 + 1 + 1, o8), (L + 1 + 1 + 1 + 1 + 1 + 1 + 1, o7), (L + 1 + 1 + 1 + 1 + 1 + 1, o6), (L + 1 + 1 + 1 + 1 + 1, o5), (L + 1 + 1 + 1 + 1, o4), (L + 1 + 1 + 1, o3), (L + 1 + 1, o2), (L + 1, o1), (57, op)])
   (d1 : o1.data = .cell (some (.str (SL ENDS) te))) (d2 : o2.data = .cell (some (.int (tn : Int) tt))) (d3 : o3.data = .cell none)
   (hNB : @LT.lt Nat instLTNat (L + 8) NB)
   (hQ : ∀ h' tk D k ys o3', o3'.data = .cell (some (.ref D)) → StrsAre ys ((List.range 6).map fun k => SL (nameL tn k)) → Fr g L h' m →
      News g L h' [(D, W.listOf ys.toArray k), (NB, ob), (L + 1 + 1 + 1 + 1 + 1 + 1 + 1 + 1, o8), (L + 1 + 1 + 1 + 1 + 1 + 1 + 1, o7), (L + 1 + 1 + 1 + 1 + 1 + 1, o6), (L + 1 + 1 + 1 + 1 + 1, o5), (L + 1 + 1 + 1 + 1, o4), (L + 1 + 1 + 1, o3'), (L + 1 + 1, o2), (L + 1, o1), (57, op)] → @LT.lt Nat instLTNat NB D → Q .next { s with heap := h', toks := tk }) :
   wpAny (model PySem.Challenge.rw_ij0087_01.row.prog w) (callerA.deeper (lawEnv L fa cd)) (exec (lawSt 3) (lawEnv L fa cd)) Q E s := by
  obtain ⟨X, T, B, C, g57, l57⟩ := GW
  have el := names_el w
  unfold lawSt lawDef getDef at *
  dsimp only [nth, forBody] at *
  revert X; k_fill; intro X
  refine wpAny_Assign_Name ?_ (by with_unfolding_all rfl)
  refine comp_range (h₀ := g) (L := L) (cl := [(Str.ofString "turn", L + 1 + 1), (Str.ofString "ends", L + 1)]) 6 (fun _ => true) (fun k y => ∃ u, y = .str (SL (nameL tn k)) u) rfl (by decide) (by with_unfolding_all rfl) (by decide) rfl (by decide) rfl ?_ (by intro _; with_unfolding_all rfl)
  walk
  rename_i h8 tk8 t8 u8 v8 hR F8 N8 K8
  refine to_stop ⟨_, _, _, _, _, _, rfl, hR, F8, N8, fun C i t s₃ m₃ E' hC hi hn hm hk => wpAny_tests_nil ⟨rfl, keeps_refl⟩, fun C i t s₃ m₃ E' hC hi _ hn hm hk => ?_, fun D k h' tk ys hF hlt F9 N9 hk => ?_⟩
  · refine el s₃ _ _ p loose mg mb g fa cd L C tn i te tt t m₃ htn hi ((X.keeps F8.keep).keeps hk) ((T.keeps F8.keep).keeps hk) hn hm ⟨o1, hk _ _ (N8 (L + 1, o1) (by k_mem)).1, d1⟩ ⟨o2, hk _ _ (N8 (L + 1 + 1, o2) (by k_mem)).1, d2⟩ (fun u s₄ hk4 => ⟨⟨u, rfl⟩, hk4⟩) _ _ ⟨_, _, _, _, rfl⟩
  · have hS : StrsAre ys ((List.range 6).map fun k => SL (nameL tn k)) := by
      rw [filter_true] at hF
      have go : ∀ (l : List Nat) (ys : List Value), Paired (fun (k : Nat) y => ∃ u, y = Value.str (SL (nameL tn k)) u) l ys → StrsAre ys (l.map fun k => SL (nameL tn k)) := by
        intro l
        induction l with
        | nil => intro ys h; cases h; exact .nil
        | cons a r ih =>
          intro ys h
          cases h with
          | cons h t => obtain ⟨u, rfl⟩ := h; exact .cons _ _ (ih _ t)
      exact go _ _ hF
    clear hF hk K8 N8 F8 hR
    k_lt hlt
    walk
    rename_i h9 o9 F9 N9 d9
    exact hQ _ _ _ _ _ _ d9 hS F9 N9 hlt.1
end Mine
end LawNS
namespace Mine
open PySem PySem.W PyProof.Rows PySem.Calls
theorem ints_at2 : ∀ {vs : List Value} {zs : List Int}, IntsAre vs zs → ∀ (i : Nat) (v : Value), vs[i]? = some v → ∃ z t, zs[i]? = some z ∧ v = .int z t
  | _, _, .nil, i, v, h => by simp at h
  | _, _, .cons a u h, 0, v, hv => by simp at hv; exact ⟨a, u, rfl, hv.symm⟩
  | _, _, .cons a u h, i + 1, v, hv => by simpa using ints_at2 h i v (by simpa using hv)
theorem ints_len2 : ∀ {vs : List Value} {zs : List Int}, IntsAre vs zs → vs.length = zs.length
  | _, _, .nil => rfl
  | _, _, .cons _ _ h => by simp [ints_len2 h]
theorem paired_ints {f : Int → Int} {vs ys : List Value} {zs : List Int} (h : IntsAre vs zs) (p : Paired (fun v y => ∃ (z : Int) (t u : Tok), v = .int z t ∧ y = .int (f z) u) vs ys) : IntsAre ys (zs.map f) := by
  induction p generalizing zs with
  | nil => cases h; exact .nil
  | cons hp _ ih =>
    obtain ⟨z', t', u, e, rfl⟩ := hp
    cases h with
    | cons z t h => cases e; exact .cons _ _ (ih h)
theorem two_ints {zs : List Int} {ws : List Value} (h : IntsAre ws (List.take 2 (List.map (fun x => Int.fmod x 1000000) (List.take 2 zs) ++ [1000, 70]))) :
    ∃ (n1 n2 : Nat) (t1 t2 : Tok), ws = [.int (n1 : Int) t1, .int (n2 : Int) t2] ∧ n1 < 1000000 ∧ n2 < 1000000 := by
  have hm : ∀ z : Int, ∃ n : Nat, z.fmod 1000000 = (n : Int) ∧ n < 1000000 := fun z => by
    have h1 := Int.fmod_nonneg_of_pos z (b := 1000000) (by decide)
    have h2 := Int.fmod_lt_of_pos z (b := 1000000) (by decide)
    exact ⟨(z.fmod 1000000).toNat, by omega, by omega⟩
  have two : ∀ {a b : Int}, IntsAre ws [a, b] → (∃ n : Nat, a = (n : Int) ∧ n < 1000000) → (∃ n : Nat, b = (n : Int) ∧ n < 1000000) → ∃ (n1 n2 : Nat) (t1 t2 : Tok), ws = [.int (n1 : Int) t1, .int (n2 : Int) t2] ∧ n1 < 1000000 ∧ n2 < 1000000 := by
    rintro a b h ⟨n1, rfl, l1⟩ ⟨n2, rfl, l2⟩
    cases h with
    | cons _ t1 h => cases h with
      | cons _ t2 h => cases h; exact ⟨n1, n2, t1, t2, rfl, l1, l2⟩
  match zs, h with
  | [], h => exact two h ⟨1000, rfl, by decide⟩ ⟨70, rfl, by decide⟩
  | [a], h => exact two h (hm a) ⟨1000, rfl, by decide⟩
  | a :: b :: r, h => exact two h (hm a) (hm b)
theorem head_st (w : World) (s : Shared) (Q : Flow → Shared → Prop) (E : Value → Shared → Prop) (p : Program) (loose : List Str) (mg mb : Str → Option Value) (g : Heap) (fa : Addr) (cd : Value) (L a : Addr) (vl : List Value) (zs : List Int) (rest : List Stmt)
   (o1 o2 o3 o4 o5 o6 o7 o8 op : Obj) (m : Str → Option Value) (GW : LW w p loose mg mb g L) (hl : g.IsList a vl.toArray) (hi : IntsAre vl zs) (hn : zs.length ≤ 63)
   (hm : m (Str.ofString "script") = some (.ref a)) (F : Fr g L s.heap m)
   (N : News g L s.heap [(L + 1 + 1 + 1 + 1 + 1 + 1 + 1 + 1, o8), (L + 1 + 1 + 1 + 1 + 1 + 1 + 1, o7), (L + 1 + 1 + 1 + 1 + 1 + 1, o6), (L + 1 + 1 + 1 + 1 + 1, o5), (L + 1 + 1 + 1 + 1, o4), (L + 1 + 1 + 1, o3), (L + 1 + 1, o2), (L + 1, o1), (57, op)])
   (d1 : o1.data = .cell none) (d2 : o2.data = .cell none)
   (hQ : ∀ h' tk (n1 n2 : Nat) t1 t2 NB (o1' o2' : Obj) te tt m', n1 < 1000000 → n2 < 1000000 → o1'.data = .cell (some (.str (SL ENDS) te)) → o2'.data = .cell (some (.int ((n1 / 15876 + n2 / 15876 : Nat) : Int) tt)) → m' (Str.ofString "numbers") = some (.ref NB) → Fr g L h' m' →
     News g L h' [(NB, W.listOf #[Value.int (n1 : Int) t1, Value.int (n2 : Int) t2] 0), (L + 1 + 1 + 1 + 1 + 1 + 1 + 1 + 1, o8), (L + 1 + 1 + 1 + 1 + 1 + 1 + 1, o7), (L + 1 + 1 + 1 + 1 + 1 + 1, o6), (L + 1 + 1 + 1 + 1 + 1, o5), (L + 1 + 1 + 1 + 1, o4), (L + 1 + 1 + 1, o3), (L + 1 + 1, o2'), (L + 1, o1'), (57, op)] → @LT.lt Nat instLTNat (L + 8) NB → wpAny (model PySem.Challenge.rw_ij0087_01.row.prog w) (callerA.deeper (lawEnv L fa cd)) (execs rest (lawEnv L fa cd)) Q E { s with heap := h', toks := tk }) :
   wpAny (model PySem.Challenge.rw_ij0087_01.row.prog w) (callerA.deeper (lawEnv L fa cd)) (execs (lawSt 0 :: lawSt 1 :: lawSt 2 :: rest) (lawEnv L fa cd)) Q E s := by
  obtain ⟨X, T, B, C, g57, l57⟩ := GW
  unfold lawSt lawDef getDef at *
  dsimp only [nth, forBody] at *
  revert X; k_fill; intro X
  walk
  (with_reducible rename Fr _ _ _ _ => F1); (with_reducible rename News _ _ _ _ => N1)
  rename o1.data = _ => d1x
  clear d1x
  rename_i h2 o1' d1' _
  refine to_stop (comp_list (h₀ := g) (L := L) (cl := []) (fun _ => true) (fun v y => ∃ (z : Int) (t u : Tok), v = .int z t ∧ y = .int (z.fmod 1000000) u) rfl (by with_unfolding_all rfl) (by decide) rfl (by decide) rfl ?_ (by intro _; with_unfolding_all rfl))
  walk
  (with_reducible rename Fr _ _ _ _ => F2); (with_reducible rename News _ _ _ _ => N2)
  rename IntsAre _ (List.take 2 zs) => hI2
  have hln := ints_len2 hI2
  refine to_stop ⟨_, _, m, _, rfl, ⟨_, (N2 _ (.head _)).1, rfl, _, rfl⟩, ?_, F2, N2, fun C i v s₃ m₃ E' hC hP hn hm hk => ?_, fun C i v s₃ m₃ E' hC hP hp hn hm hk => ?_, fun D k h' tk ys hF hlt F3 N3 hk => ?_⟩
  · have : (1000 : Nat) ≤ sizeLine := by decide +kernel
    rw [List.size_toArray, hln, List.length_take]; omega
  · exact wpAny_tests_nil ⟨rfl, keeps_refl⟩
  · obtain ⟨z, t, hz, rfl⟩ := ints_at2 hI2 i v (by simpa using hP)
    refine wpAny_mono (Q := fun y s₄ => ∃ u, y = .int (z.fmod 1000000) u ∧ Keeps s₃ s₄) ?_ (fun y s₄ hy => ?_) (fun _ _ e => e)
    · walk
      all_goals first | exact rfl | exact keeps_tok | exact keeps_two
    · obtain ⟨u, rfl, hk⟩ := hy
      exact ⟨⟨z, t, u, rfl, rfl⟩, hk⟩
  · have hJ : IntsAre ys ((List.take 2 zs).map (·.fmod 1000000)) := paired_ints hI2 (by rw [List.filter_eq_self.mpr (fun _ _ => rfl)] at hF; exact hF)
    have hJl := ints_len2 hJ
    k_lt hlt
    clear hF hk hI2 hln
    walk
    (with_reducible rename Fr _ _ _ _ => F4); (with_reducible rename News _ _ _ _ => N4)
    rename IntsAre _ (List.take 2 (_ ++ _)) => hI4
    obtain ⟨n1, n2, t1, t2, rfl, hn1, hn2⟩ := two_ints hI4
    replace N4 := news_cut (news' := [(_, W.listOf #[Value.int (n1 : Int) t1, Value.int (n2 : Int) t2] 0), (L + 1 + 1 + 1 + 1 + 1 + 1 + 1 + 1, o8), (L + 1 + 1 + 1 + 1 + 1 + 1 + 1, o7), (L + 1 + 1 + 1 + 1 + 1 + 1, o6), (L + 1 + 1 + 1 + 1 + 1, o5), (L + 1 + 1 + 1 + 1, o4), (L + 1 + 1 + 1, o3), (L + 1 + 1, o2), (L + 1, o1'), (57, op)]) N4 (by walk_at "MY sub")
    refine to_stop (comp_list (h₀ := g) (L := L) (cl := []) (fun _ => true) (fun v y => ∃ (z : Int) (t u : Tok), v = .int z t ∧ y = .int (z.fdiv 15876) u) rfl (by with_unfolding_all rfl) (by decide) rfl (by decide) rfl ?_ (by intro _; with_unfolding_all rfl))

    walk

    refine to_stop ⟨_, _, _, _, rfl, ⟨_, (N4 _ (.head _)).1, rfl, _, rfl⟩, ?_, F4, N4, fun C i v s₃ m₃ E' hC hP hn hm hk => ?_, fun C i v s₃ m₃ E' hC hP hp hn hm hk => ?_, fun D k h' tk ys hF hlt F5 N5 hk => ?_⟩
    · exact (by decide +kernel : (2 : Nat) ≤ sizeLine)
    · exact wpAny_tests_nil ⟨rfl, keeps_refl⟩
    · obtain ⟨z, t, rfl⟩ : ∃ (z : Int) (t : Tok), v = .int z t := by
        rcases i with _ | _ | i
        · simp at hP; exact ⟨_, _, hP.symm⟩
        · simp at hP; exact ⟨_, _, hP.symm⟩
        · simp at hP
      refine wpAny_mono (Q := fun y s₄ => ∃ u, y = .int (z.fdiv 15876) u ∧ Keeps s₃ s₄) ?_ (fun y s₄ hy => ?_) (fun _ _ e => e)
      · walk
        all_goals first | exact rfl | exact keeps_tok | exact keeps_two
      · obtain ⟨u, rfl, hk⟩ := hy
        exact ⟨⟨z, t, u, rfl, rfl⟩, hk⟩
    · obtain ⟨u1, u2, rfl⟩ : ∃ u1 u2, ys = [.int ((n1 : Int).fdiv 15876) u1, .int ((n2 : Int).fdiv 15876) u2] := by
        rw [List.filter_eq_self.mpr (fun _ _ => rfl)] at hF
        cases hF with
        | cons h hF => cases hF with
          | cons h' hF =>
            cases hF
            obtain ⟨_, _, u1, e, rfl⟩ := h
            obtain ⟨_, _, u2, e', rfl⟩ := h'
            cases e; cases e'
            exact ⟨u1, u2, rfl⟩
      k_lt hlt
      clear hF hk F4 N4 hI4
      walk
      (with_reducible rename Fr _ _ _ _ => F6); (with_reducible rename News _ _ _ _ => N6)
      have htI : ((n1 : Int).fdiv 15876 + ((n2 : Int).fdiv 15876 + 0)) = ((n1 / 15876 + n2 / 15876 : Nat) : Int) := by
        rw [Int.fdiv_eq_ediv_of_nonneg _ (by decide), Int.fdiv_eq_ediv_of_nonneg _ (by decide)]; omega
      (with_reducible rename _ = Data.cell (some (Value.int _ _)) => d2')
      rw [htI] at d2'
      exact hQ _ _ n1 n2 t1 t2 _ _ _ _ _ _ hn1 hn2 d1' d2' (if_pos rfl) F6 (news_cut N6 (by walk_at "MY sub")) (by omega)
end Mine
section LawUS
namespace Mine
open PySem PySem.W PyProof.Rows PySem.Calls
theorem pair_in {prog : Program} {w : World} {A : Around} {E : Value → Shared → Prop} {s : Shared} {env : Env} {x y : Str} {px py tp : Pos} {kk : Nat} {T : Addr} {a b : Value} {Q : Unit → Shared → Prop} (hh : A.handled = none) (ht : IsTup s.heap T #[a, b])
    (h : ∀ h', (∀ c o, s.heap.get? c = some o → h'.get? c = some o) → wpAny (model prog w) A (storeName env x a) (fun _ s₂ => wpAny (model prog w) A (storeName env y b) (fun _ s₃ => Q () s₃) E s₂) E { s with heap := h' }) :
    wpAny (model prog w) A (assign (.Tuple [.Name x px, .Name y py] kk tp) env (.ref T)) Q E s := by
  refine assign_Tuple_tuple hh ht rfl rfl fun h' he => ?_
  show wpAny _ _ (assignInOrder [assign (.Name x px) env, assign (.Name y py) env] [a, b]) _ _ _
  refine assignInOrder_cons (wpAny_assign_Name (wpAny_mono (h h' fun c o e => he c o (Nat.ne_of_lt (Heap.lt_size e)) e) (fun _ s₂ h₂ => ?_) fun _ _ e => e))
  exact assignInOrder_cons (wpAny_assign_Name (wpAny_mono h₂ (fun _ s₃ h₃ => assignInOrder_nil h₃) fun _ _ e => e))
end Mine
local macro_rules | `(tactic| walk_at $s:str) => Mine.stopAt ["call builtin:divmod", "newTuple", "storeName"] s
namespace Mine
open PySem PySem.W PyProof.Rows PySem.Calls
theorem turn_a (w : World) (s : Shared) (Q : Flow → Shared → Prop) (E : Value → Shared → Prop) (p : Program) (loose : List Str) (mg mb : Str → Option Value) (g : Heap) (fa : Addr) (cd : Value) (L : Addr) (m : Str → Option Value) (v3 v4 v5 v6 v7 v8 : Option Value) (n : Nat) (t : Tok) (rest : List Stmt)
   (GW : LW w p loose mg mb g L) (S : LSt g L s.heap m v3 v4 v5 v6 v7 v8) (hm : m (Str.ofString "number") = some (.int (n : Int) t)) (hn : n < 1000000)
   (hQ : ∀ h' tk m' t0 t1 t2, m' (Str.ofString "number") = some (.int ((n / 3969 : Nat) : Int) t0) → (∀ y, y ≠ Str.ofString "number" → m' y = m y) → LSt g L h' m' v3 (some (.int ((n % 63 + 1 : Nat) : Int) t1)) (some (.int ((n / 63 % 63 + 1 : Nat) : Int) t2)) v6 v7 v8 → Kept L s.heap h' → wpAny (model PySem.Challenge.rw_ij0087_01.row.prog w) (callerA.deeper (lawEnv L fa cd)) (execs rest (lawEnv L fa cd)) Q E { s with heap := h', toks := tk }) :
   wpAny (model PySem.Challenge.rw_ij0087_01.row.prog w) (callerA.deeper (lawEnv L fa cd)) (execs (turnSt 0 :: turnSt 1 :: turnSt 2 :: rest) (lawEnv L fa cd)) Q E s := by
  have f1 : (n : Int).fmod 63 = ((n % 63 : Nat) : Int) := fmod_nat n 63
  have f2 : (n : Int).fdiv 63 = ((n / 63 : Nat) : Int) := fdiv_nat n 63
  have f3 : ((n / 63 : Nat) : Int).fmod 63 = ((n / 63 % 63 : Nat) : Int) := fmod_nat _ 63
  have f4 : ((n / 63 : Nat) : Int).fdiv 63 = ((n / 3969 : Nat) : Int) := by rw [← Nat.div_div_eq_div_mul n 63 63]; exact fdiv_nat _ 63
  have GW0 := GW
  obtain ⟨X, T, B, C, g57, l57⟩ := GW
  obtain ⟨z, oz, bz, gz, ez⟩ := S.z
  have hz0 := notBad bz
  obtain ⟨o3, o4, o5, o6, o7, o8, op, d3, d4, d5, d6, d7, d8, tt, N⟩ := S.news GW0 hz0 gz ez
  have F := S.F
  unfold turnSt lawSt lawDef getDef at *
  dsimp only [nth, forBody] at *
  revert X; k_fill; intro X
  walk
  rename_i k0'
  refine to_stop (divmod_int (by decide) ?_ (.inl (PyProof.noPylong_small (by omega))))
  rw [f1, f2]
  have k1 : ∀ b o, s.heap.get? b = some o → (s.heap.push { cls := .type "tuple", data := .seq #[.int ((n / 63 : Nat) : Int) (k0' + 1), .int ((n % 63 : Nat) : Int) (k0' + 1 + 1)] }).get? b = some o := fun b o e => Heap.get?_push_of_some _ e
  have gT : (s.heap.push { cls := .type "tuple", data := .seq #[.int ((n / 63 : Nat) : Int) (k0' + 1), .int ((n % 63 : Nat) : Int) (k0' + 1 + 1)] }).get? s.heap.objs.size = some _ := Heap.get?_push_size _ rfl
  dsimp only at k1 gT ⊢
  generalize s.heap.push { cls := .type "tuple", data := .seq #[.int ((n / 63 : Nat) : Int) (k0' + 1), .int ((n % 63 : Nat) : Int) (k0' + 1 + 1)] } = h1 at k1 gT ⊢
  refine pair_in rfl ⟨_, gT, rfl, _, rfl⟩ fun h2 k2 => ?_
  have S2 := (S.keeps k1).keeps k2
  refine wpAny_storeName_local rfl S2.F.ns fun h3 hn3 hs3 => ?_
  obtain ⟨S3, K3⟩ := S2.setm GW0 hs3 hn3
  refine wpAny_storeName_cell rfl rfl rfl S3.c4 fun h4 hc4 hs4 => ?_
  obtain ⟨S4, K4⟩ := S3.set4 GW0 hs4 hc4
  have K04 : Kept L s.heap h4 := (((Kept.of k1).trans (.of k2)).trans K3).trans K4
  have hm4 : (fun x => if x = Str.ofString "number" then some (Value.int ((n / 63 : Nat) : Int) (k0' + 1)) else m x) (Str.ofString "number") = some (.int ((n / 63 : Nat) : Int) (k0' + 1)) := if_pos rfl
  generalize hM : (fun x => if x = Str.ofString "number" then some (Value.int ((n / 63 : Nat) : Int) (k0' + 1)) else m x) = M4 at S4 hm4
  clear F N d3 d4 d5 d6 d7 d8 tt
  obtain ⟨o3, o4, o5, o6, o7, o8, op, d3, d4, d5, d6, d7, d8, tt, N⟩ := S4.news GW0 hz0 gz (K04 _ _ bz ez)
  have F := S4.F
  dsimp only
  walk
  rename_i k1'
  refine to_stop (divmod_int (by decide) ?_ (.inl (PyProof.noPylong_small (by omega))))
  rw [f3, f4]
  have k5 : ∀ b o, h4.get? b = some o → (h4.push { cls := .type "tuple", data := .seq #[.int ((n / 3969 : Nat) : Int) (k1' + 1), .int ((n / 63 % 63 : Nat) : Int) (k1' + 1 + 1)] }).get? b = some o := fun b o e => Heap.get?_push_of_some _ e
  have gT5 : (h4.push { cls := .type "tuple", data := .seq #[.int ((n / 3969 : Nat) : Int) (k1' + 1), .int ((n / 63 % 63 : Nat) : Int) (k1' + 1 + 1)] }).get? h4.objs.size = some _ := Heap.get?_push_size _ rfl
  dsimp only at k5 gT5 ⊢
  generalize h4.push { cls := .type "tuple", data := .seq #[.int ((n / 3969 : Nat) : Int) (k1' + 1), .int ((n / 63 % 63 : Nat) : Int) (k1' + 1 + 1)] } = h5 at k5 gT5 ⊢
  refine pair_in rfl ⟨_, gT5, rfl, _, rfl⟩ fun h6 k6 => ?_
  have S6 := (S4.keeps k5).keeps k6
  refine wpAny_storeName_local rfl S6.F.ns fun h7 hn7 hs7 => ?_
  obtain ⟨S7, K7⟩ := S6.setm GW0 hs7 hn7
  refine wpAny_storeName_cell rfl rfl rfl S7.c5 fun h8 hc8 hs8 => ?_
  obtain ⟨S8, K8⟩ := S7.set5 GW0 hs8 hc8
  have K08 : Kept L s.heap h8 := K04.trans ((((Kept.of k5).trans (.of k6)).trans K7).trans K8)
  have hm8 : (fun x => if x = Str.ofString "number" then some (Value.int ((n / 3969 : Nat) : Int) (k1' + 1)) else M4 x) (Str.ofString "number") = some (.int ((n / 3969 : Nat) : Int) (k1' + 1)) := if_pos rfl
  have hm8' : ∀ y, y ≠ Str.ofString "number" → (fun x => if x = Str.ofString "number" then some (Value.int ((n / 3969 : Nat) : Int) (k1' + 1)) else M4 x) y = m y := fun y hy => (if_neg hy).trans (by rw [← hM]; exact if_neg hy)
  generalize (fun x => if x = Str.ofString "number" then some (Value.int ((n / 3969 : Nat) : Int) (k1' + 1)) else M4 x) = M8 at S8 hm8 hm8'
  clear F N d3 d4 d5 d6 d7 d8 tt
  obtain ⟨o3, o4, o5, o6, o7, o8, op, d3, d4, d5, d6, d7, d8, tt, N⟩ := S8.news GW0 hz0 gz (K08 _ _ bz ez)
  have F := S8.F
  dsimp only
  walk
  rename_i k2'
  rw [show ((n % 63 : Nat) : Int) + 1 = ((n % 63 + 1 : Nat) : Int) by omega, show ((n / 63 % 63 : Nat) : Int) + 1 = ((n / 63 % 63 + 1 : Nat) : Int) by omega]
  refine to_stop (wpAny_newTuple ?_)
  have k9 : ∀ b o, h8.get? b = some o → (h8.push { cls := .type "tuple", data := .seq [Value.int ((n % 63 + 1 : Nat) : Int) (k2' + 1), Value.int ((n / 63 % 63 + 1 : Nat) : Int) (k2' + 1 + 1 + 1)].toArray }).get? b = some o := fun b o e => Heap.get?_push_of_some _ e
  have gT9 : (h8.push { cls := .type "tuple", data := .seq [Value.int ((n % 63 + 1 : Nat) : Int) (k2' + 1), Value.int ((n / 63 % 63 + 1 : Nat) : Int) (k2' + 1 + 1 + 1)].toArray }).get? h8.objs.size = some _ := Heap.get?_push_size _ rfl
  dsimp only at k9 gT9 ⊢
  generalize h8.push { cls := .type "tuple", data := .seq [Value.int ((n % 63 + 1 : Nat) : Int) (k2' + 1), Value.int ((n / 63 % 63 + 1 : Nat) : Int) (k2' + 1 + 1 + 1)].toArray } = h9 at k9 gT9 ⊢
  refine pair_in rfl ⟨_, gT9, rfl, _, rfl⟩ fun h10 k10 => ?_
  have S10 := (S8.keeps k9).keeps k10
  refine wpAny_storeName_cell rfl rfl rfl S10.c4 fun h11 hc11 hs11 => ?_
  obtain ⟨S11, K11⟩ := S10.set4 GW0 hs11 hc11
  refine wpAny_storeName_cell rfl rfl rfl S11.c5 fun h12 hc12 hs12 => ?_
  obtain ⟨S12, K12⟩ := S11.set5 GW0 hs12 hc12
  exact Mine.Hid.next kQz <| hQ _ _ M8 _ _ _ hm8 hm8' S12 (K08.trans ((((Kept.of k9).trans (.of k10)).trans K11).trans K12))
end Mine
end LawUS
section LawVS
namespace Mine
open PySem PySem.W PyProof.Rows PySem.Calls
theorem nat_beq (a b : Nat) : (((a : Nat) : Int) == ((b : Nat) : Int)) = (a == b) := by
  rw [Bool.eq_iff_iff]; simp only [beq_iff_eq]; omega
/-- the item that a mask is written as -/
noncomputable def itOf (mask : Nat) (b : Bool) : It := if unsel (sel mask) = [] then .q else if b = true ∨ (sel mask).head? = some 33 then .set true (unsel (sel mask)) else .set false (sel mask)
theorem itOf_txt (mask : Nat) (b : Bool) : itemL mask b = (itOf mask b).txt := by
  unfold itemL itOf
  split
  · rfl
  · split <;> simp [It.txt]
noncomputable def okB (S : List Nat) (neg : Bool) : Bool := decide (S ≠ [] ∧ (∀ c ∈ S, c ∈ [93, 47, 42, 91, 33, 45]) ∧ (∀ c ∈ S.tail, c ≠ 93) ∧ (∀ c ∈ S.dropLast, c ≠ 45) ∧ (neg = false → S.head? ≠ some 33) ∧ S.length ≤ 6)
theorem okB_ok {S : List Nat} {neg : Bool} (h : okB S neg = true) : (It.set neg S).ok := by
  unfold okB at h
  exact (of_decide_eq_true h : _ ∧ _)
theorem itOf_ok {mask : Nat} (h1 : 1 ≤ mask) (h2 : mask ≤ 63) (b : Bool) : (itOf mask b).ok := by
  have key : ∀ m : Nat, m < 64 → 1 ≤ m → (okB (sel m) false = true ∨ (sel m).head? = some 33) ∧ (unsel (sel m) = [] ∨ okB (unsel (sel m)) true = true) := by decide +kernel
  obtain ⟨k1, k2⟩ := key mask (by omega) h1
  unfold itOf
  split
  · trivial
  · rename_i hne
    split
    · exact okB_ok (k2.resolve_left hne)
    · rename_i hb
      exact okB_ok (k1.resolve_right fun e => hb (.inr e))
theorem pat_txt (a b : Nat) (c d : Bool) : itemL a c ++ [42] ++ itemL b d = ptext [some (itOf a c), none, some (itOf b d)] := by
  rw [itOf_txt, itOf_txt]; simp [ptext, itxt]
/-- the steps that a part is read as -/
noncomputable def stepsOf (a b : Nat) (c d : Bool) : List (Nat × Bool × List Nat) := [(itOf a c).ck, .dot true, (itOf b d).ck].map Ck.val
end Mine
local macro_rules | `(tactic| walk_at $s:str) => Mine.stopCall [130, 43, 120] s
namespace Mine
open PySem PySem.W PyProof.Rows PySem.Calls
theorem turn_b (w : World) (s : Shared) (Q : Flow → Shared → Prop) (E : Value → Shared → Prop) (p : Program) (loose : List Str) (mg mb : Str → Option Value) (g : Heap) (fa : Addr) (cd : Value) (L : Addr) (m : Str → Option Value) (v3 v6 v7 v8 : Option Value) (n f l : Nat) (t t1 t2 : Tok)
   (GW : LW w p loose mg mb g L) (S : LSt g L s.heap m v3 (some (.int (f : Int) t1)) (some (.int (l : Int) t2)) v6 v7 v8) (hm : m (Str.ofString "number") = some (.int (n : Int) t)) (hn : n < 1000000)
   (hf1 : 1 ≤ f) (hf2 : f ≤ 63) (hl1 : 1 ≤ l) (hl2 : l ≤ 63)
   (hQ : ∀ h' tk gs a, (AllBare s.gens → AllBare gs) → StepsAt h' a (stepsOf f l (n % 2 == 1) (n / 2 % 2 == 1)) → LSt g L h' m v3 (some (.int (f : Int) t1)) (some (.int (l : Int) t2)) (some (.ref a)) v7 v8 → Kept L s.heap h' → Q .next { s with heap := h', toks := tk, gens := gs }) :
   wpAny (model PySem.Challenge.rw_ij0087_01.row.prog w) (callerA.deeper (lawEnv L fa cd)) (exec (turnSt 3) (lawEnv L fa cd)) Q E s := by
  obtain ⟨z, oz, bz, gz, ez⟩ := S.z
  have hz := notBad bz
  obtain ⟨o3, o4, o5, o6, o7, o8, op, d3, d4, d5, d6, d7, d8, tt, N⟩ := S.news GW hz gz ez
  have F := S.F
  have hz0 := hz
  obtain ⟨n57, n0, n3, n4, n5, n6, n7, n8⟩ := hz
  have GW0 := GW
  obtain ⟨X, T, B, C, g57, l57⟩ := GW
  unfold turnSt lawSt lawDef getDef at *
  dsimp only [nth, forBody] at *
  revert X; k_fill; intro X
  have hb1 : ((n : Int).fmod 2 == 1) = (n % 2 == 1) := by rw [show (n : Int).fmod 2 = ((n % 2 : Nat) : Int) from fmod_nat n 2]; exact nat_beq _ 1
  have hb2 : (((n : Int).fdiv 2).fmod 2 == 1) = (n / 2 % 2 == 1) := by rw [show (n : Int).fdiv 2 = ((n / 2 : Nat) : Int) from fdiv_nat n 2, show ((n / 2 : Nat) : Int).fmod 2 = ((n / 2 % 2 : Nat) : Int) from fmod_nat _ 2]; exact nat_beq _ 1
  generalize hc1 : (n % 2 == 1) = c1 at *
  generalize hc2 : (n / 2 % 2 == 1) = c2 at *
  have hz1 : (itemL f c1).length ≤ 9 := by rw [itOf_txt]; exact itxt_len (itOf_ok hf1 hf2 c1)
  have hz2 : (itemL l c2).length ≤ 9 := by rw [itOf_txt]; exact itxt_len (itOf_ok hl1 hl2 c2)
  walk
  rw [hb1]
  refine to_stop (item_c w _ _ _ _ _ _ _ p loose mg mb f t1 c1 (by decide) (by decide) rfl (X.keeps F.keep) (T.keeps F.keep) hf1 hf2 fun h2 t3 k3 hk2 => ?_)
  have S2 := S.keeps hk2
  have ez2 := hk2 _ _ ez
  have K2 : Kept L s.heap h2 := .of hk2
  clear F N d3 d4 d5 d6 d7 d8 tt
  obtain ⟨o3, o4, o5, o6, o7, o8, op, d3, d4, d5, d6, d7, d8, tt, N⟩ := S2.news GW0 hz0 gz ez2
  have F := S2.F
  walk
  rw [hb2]
  refine to_stop (item_c w _ _ _ _ _ _ _ p loose mg mb l t2 c2 (by decide) (by decide) rfl (X.keeps F.keep) (T.keeps F.keep) hl1 hl2 fun h4 t5 k5 hk4 => ?_)
  have S4 := S2.keeps hk4
  have ez4 := hk4 _ _ ez2
  have K4 := K2.trans (.of hk4)
  clear F N d3 d4 d5 d6 d7 d8 tt
  obtain ⟨o3, o4, o5, o6, o7, o8, op, d3, d4, d5, d6, d7, d8, tt, N⟩ := S4.news GW0 hz0 gz ez4
  have F := S4.F
  walk
  rw [pat_txt]
  refine to_stop (translate_c w _ _ _ _ _ _ _ p loose mg mb g (itOf f c1) (itOf l c2) _ op (by decide) (by decide) rfl (itOf_ok hf1 hf2 c1) (itOf_ok hl1 hl2 c2) F.keep X T B C g57 (N (57, op) (by k_mem)).1 tt fun h6 t7 op' k7 gs' hb' hk6 e57 t57 => ?_)
  have S6 := S4.keeps57 GW0 hk6 e57 t57
  have ez6 := hk6 _ _ n57 ez4
  have K6 : Kept L s.heap h6 := K4.trans fun z o n e => hk6 z o (notBad n).n57 e
  clear F N d3 d4 d5 d6 d7 d8 tt
  obtain ⟨o3, o4, o5, o6, o7, o8, op, d3, d4, d5, d6, d7, d8, tt, N⟩ := S6.news GW0 hz0 gz ez6
  have F := S6.F
  walk
  refine to_stop (read_c w _ _ _ _ _ _ _ p loose mg mb [(itOf f c1).ck, .dot true, (itOf l c2).ck] t7 (by decide) (by decide) rfl (X.keeps F.keep) (T.keeps F.keep) ?_ ?_ (Nat.le_of_ble_eq_true rfl) fun h8 a k8 hk8 hS => ?_)
  · intro c hc
    simp only [List.mem_cons, List.not_mem_nil, or_false] at hc
    rcases hc with rfl | rfl | rfl
    · exact ck_ok (itOf_ok hf1 hf2 c1)
    · trivial
    · exact ck_ok (itOf_ok hl1 hl2 c2)
  · have e1 := ck_len (itOf_ok hf1 hf2 c1)
    have e2 := ck_len (itOf_ok hl1 hl2 c2)
    simp [ctxt, Ck.txt] at e1 e2 ⊢
    omega
  have S8 := S6.keeps hk8
  refine wpAny_storeName_cell rfl rfl rfl S8.c6 fun h9 hc9 hs9 => ?_
  obtain ⟨S9, K9⟩ := S8.set6 GW0 hs9 hc9
  exact hQ _ _ _ a hb' (S8.steps K9 hS) S9 ((K6.trans (.of hk8)).trans K9)
end Mine
end LawVS
section LawXS
namespace Mine
open PySem PySem.W PyProof.Rows PySem.Calls
/-- is a name taken by the steps -/
noncomputable def takesB (xs : List (Nat × Bool × List Nat)) (x : List Nat) : Bool := decide (x.length ∈ plAt x xs xs.length)
end Mine
local macro_rules | `(tactic| walk_at $s:str) => Mine.stopCall [125, 113] s
local macro_rules | `(tactic| walk_at $s:str) => Mine.stopAt ["call type:list"] s
namespace Mine
open PySem PySem.W PyProof.Rows PySem.Calls
noncomputable def compIfs : Expr → List Expr
  | .ListComp _ [c] _ _ => c.ifs
  | _ => []
noncomputable def compElt : Expr → Expr
  | .ListComp e _ _ _ => e
  | e => e
noncomputable def compScope : Expr → Scope
  | .ListComp _ _ s _ => s
  | _ => lawDef.scope
noncomputable def firstArg : Expr → Expr
  | .Call _ (a :: _) _ _ => a
  | e => e
noncomputable def secondArg : Expr → Expr
  | .Call _ (_ :: b :: _) _ _ => b
  | e => e
noncomputable def valueOf : Stmt → Expr
  | .Assign _ v _ => v
  | _ => .Name "" ⟨0, 0, 0, 0⟩
noncomputable def leftComp : Expr := secondArg (firstArg (valueOf (turnSt 4)))
theorem left_test (w : World) (s₃ : Shared) (Q : Bool → Shared → Prop) (E : Value → Shared → Prop) (p : Program) (loose : List Str) (mg mb : Str → Option Value) (fa : Addr) (cd : Value) (L C a : Addr) (xs : List (Nat × Bool × List Nat)) (x : List Nat) (t : Tok) (m₃ : Str → Option Value)
   (X : (pre.heap_1 w.params).In s₃.heap) (T : TopRead p loose mg mb s₃.heap) (hn : s₃.heap.Ns C m₃) (hm : m₃ (Str.ofString "name") = some (.str (SL x) t)) (hk : s₃.heap.IsCell (L + 1 + 1 + 1 + 1 + 1 + 1) (some (.ref a))) (hS : StepsAt s₃.heap a xs) (hx : x.length ≤ 4)
   (hQ : ∀ s₄, Keeps s₃ s₄ → Q (takesB xs x) s₄) :
   wpAny (model PySem.Challenge.rw_ij0087_01.row.prog w) (callerA.deeper (lawEnv L fa cd)) (testsOf (compIfs leftComp) (compEnvC (compScope leftComp) [(Str.ofString "cut", L + 1 + 1 + 1 + 1 + 1 + 1)] C (lawEnv L fa cd))) Q E s₃ := by
  unfold leftComp turnSt lawSt lawDef getDef
  dsimp only [nth, forBody, valueOf, firstArg, secondArg, compIfs, compScope]
  revert X; k_fill; intro X
  refine wpAny_tests_one ?_
  walk
  refine to_stop (takes_c w _ _ _ _ _ _ _ p loose mg mb a x t xs (by decide) (by decide) rfl X T hS hx fun h' k' hk' => ?_)
  walk
  exact hQ _ ⟨h', _, rfl, hk'⟩
theorem strs_filter (q : Value → Bool) (f : List Nat → Bool) (hq : ∀ x t, q (.str (SL x) t) = f x) : ∀ {vs : List Value} {ys : List (List Nat)}, StrsAre vs (ys.map SL) → StrsAre (vs.filter q) ((ys.filter f).map SL)
  | [], [], _ => .nil
  | v :: vs, y :: ys, h => by
    cases h with
    | cons _ t h =>
      rw [List.filter_cons, List.filter_cons, hq]
      split
      · exact .cons _ _ (strs_filter q f hq h)
      · exact strs_filter q f hq h
  | [], _ :: _, h => by cases h
  | _ :: _, [], h => by cases h
theorem paired_id : ∀ {vs ys : List Value}, Paired (fun v y => y = v) vs ys → ys = vs
  | _, _, .nil => rfl
  | _, _, .cons h t => by rw [h, paired_id t]
theorem LSt.afterL {g : Heap} {L : Addr} {h h' : Heap} {m : Str → Option Value} {v3 v4 v5 v6 v7 v8 : Option Value} {w : World} {p : Program} {loose : List Str} {mg mb : Str → Option Value} (S : LSt g L h m v3 v4 v5 v6 v7 v8) (G : LW w p loose mg mb g L) {oL : Obj} {sl : Array (Option Value)}
    (hL : h.get? L = some oL) (hL' : h'.get? L = some { oL with slots := sl }) (hk : ∀ b o, b ≠ L → h.get? b = some o → h'.get? b = some o) : LSt g L h' m v3 v4 v5 v6 v7 v8 := by
  obtain ⟨o', es, ep, e, d, r⟩ := S.F.ns
  rw [hL] at e; cases e
  have nL : ∀ k : Nat, 1 ≤ k → (L + k : Nat) ≠ L := fun k hk => Nat.ne_of_gt (Nat.lt_add_of_pos_right hk)
  have cell : ∀ (k : Nat) (v : Option Value), 1 ≤ k → h.IsCell (L + k) v → h'.IsCell (L + k) v := fun k v hk1 c => let ⟨o, e, d⟩ := c; ⟨o, hk _ _ (nL k hk1) e, d⟩
  obtain ⟨op, et, tt⟩ := S.t
  obtain ⟨z, o, n, gz, ez⟩ := S.z
  exact ⟨⟨⟨_, es, ep, hL', d, r⟩, fun b o e => hk b o (Nat.ne_of_lt (Nat.lt_of_lt_of_le (Heap.lt_size e) S.F.above)) (S.F.keep b o e), S.F.above⟩, cell 3 _ (by decide) S.c3, cell 4 _ (by decide) S.c4, cell 5 _ (by decide) S.c5, cell 6 _ (by decide) S.c6, cell 7 _ (by decide) S.c7, cell 8 _ (by decide) S.c8,
    ⟨op, hk _ _ (Nat.ne_of_lt G.l57) et, tt⟩, ⟨z, o, n, gz, hk _ _ (notBad n).n0 ez⟩⟩
theorem turn_c (w : World) (s : Shared) (Q : Flow → Shared → Prop) (E : Value → Shared → Prop) (p : Program) (loose : List Str) (mg mb : Str → Option Value) (g : Heap) (fa : Addr) (cd : Value) (L : Addr) (m : Str → Option Value) (v3 v4 v5 v7 v8 : Option Value) (a LA : Addr) (xs : List (Nat × Bool × List Nat)) (va : List Value) (ya : List (List Nat))
   (GW : LW w p loose mg mb g L) (S : LSt g L s.heap m v3 v4 v5 (some (.ref a)) v7 v8) (hm : m (Str.ofString "left") = some (.ref LA)) (hS : StepsAt s.heap a xs) (hl : s.heap.IsList LA va.toArray) (hy : StrsAre va (ya.map SL)) (hly : ∀ x ∈ ya, x.length ≤ 4) (hn : ya.length ≤ 100)
   (hQ : ∀ h' tk gs LA' va', (AllBare s.gens → AllBare gs) → h'.IsList LA' va'.toArray → StrsAre va' ((ya.filter fun x => !takesB xs x).map SL) → LSt g L h' (fun y => if y = Str.ofString "left" then some (.ref LA') else m y) v3 v4 v5 (some (.ref a)) v7 v8 → Kept L s.heap h' → Q .next { s with heap := h', toks := tk, gens := gs }) :
   wpAny (model PySem.Challenge.rw_ij0087_01.row.prog w) (callerA.deeper (lawEnv L fa cd)) (exec (turnSt 4) (lawEnv L fa cd)) Q E s := by
  obtain ⟨z, oz, bz, gz, ez⟩ := S.z
  have hz := notBad bz
  obtain ⟨o3, o4, o5, o6, o7, o8, op, d3, d4, d5, d6, d7, d8, tt, N⟩ := S.news GW hz gz ez
  have F := S.F
  have hz0 := hz
  obtain ⟨n57, n0, n3, n4, n5, n6, n7, n8⟩ := hz
  have GW0 := GW
  obtain ⟨X, T, B, C, g57, l57⟩ := GW
  have el := left_test w
  unfold leftComp turnSt lawSt lawDef getDef at *
  dsimp only [nth, forBody, valueOf, firstArg, secondArg, compIfs, compScope] at *
  revert X; k_fill; intro X
  walk
  have h1000 : (1000 : Nat) ≤ sizeLine := by decide +kernel
  have hva : va.length = ya.length := by rw [hy.len_eq, List.length_map]
  refine to_stop (comp_list (h₀ := g) (L := L) (cl := [(Str.ofString "cut", L + 1 + 1 + 1 + 1 + 1 + 1)]) (fun v => match v with | .str x _ => takesB xs x.cps.toList | _ => false) (fun v y => y = v) rfl (by with_unfolding_all rfl) (by decide) rfl (by decide) rfl ?_ (by intro _; with_unfolding_all rfl))
  walk
  refine to_stop ⟨LA, va.toArray, m, [], rfl, hl, by simp; omega, F, News.nil, fun C i v s₃ m₃ E' hC hP hn hm hk => ?_, fun C i v s₃ m₃ E' hC hP hp hn hm hk => ?_, fun D k h2 tk2 ys hF _ F2 N2 hk2 => ?_⟩
  · obtain ⟨x, t, rfl, hx⟩ := hy.item i v (by simpa using hP)
    rw [List.getElem?_map] at hx
    obtain ⟨x', hx', rfl⟩ := Option.map_eq_some_iff.mp hx
    exact el s₃ _ _ p loose mg mb fa cd L C a xs x' t m₃ ((X.keeps F.keep).keeps hk) ((T.keeps F.keep).keeps hk) hn hm (S.c6.keeps hk) (hS.keeps hk) (hly x' (List.mem_of_getElem? hx')) fun s₄ hk4 => ⟨rfl, hk4⟩
  · exact ldVarK hn hm ⟨rfl, keeps_refl⟩
  · have e1 := paired_id hF
    subst e1
    have hyb := strs_filter (fun v => match v with | .str x _ => takesB xs x.cps.toList | _ => false) (takesB xs) (fun x t => rfl) hy
    have hD := (N2 _ (.head _)).1
    have S2 := S.keeps hk2
    clear F N d3 d4 d5 d6 d7 d8 tt F2 N2 hF
    obtain ⟨o3, o4, o5, o6, o7, o8, op, d3, d4, d5, d6, d7, d8, tt, N⟩ := S2.news GW0 hz0 gz (hk2 _ _ ez)
    have F := S2.F
    walk
    have hlD : h2.IsList D (va.filter fun v => match v with | .str x _ => takesB xs x.cps.toList | _ => false).toArray := ⟨_, hD, rfl, _, rfl⟩
    have hl2 := S.list (.of hk2) hl
    refine to_stop (diff_c w _ _ _ _ _ _ _ p loose mg mb LA D va _ (ya.map SL) ((ya.filter (takesB xs)).map SL) (by decide) (by decide) rfl (X.keeps F.keep) (T.keeps F.keep) hl2 hlD hy hyb (by rw [List.length_map]; omega) (by rw [List.length_map]; have := List.length_filter_le (takesB xs) ya; omega) fun h3 tk3 x dx I q SS oS hk3 hfr hff => ?_)
    have S3 := S2.keeps hk3
    clear F N d3 d4 d5 d6 d7 d8 tt
    obtain ⟨o3, o4, o5, o6, o7, o8, op, d3, d4, d5, d6, d7, d8, tt, N⟩ := S3.news GW0 hz0 gz (hk3 _ _ (hk2 _ _ ez))
    have F := S3.F
    walk
    obtain ⟨oL, es, ep, eL2, dL, _⟩ := id S2.F.ns
    have eL := hk3 _ _ eL2
    have nf : ∀ (b : Addr) (o : Obj), h2.get? b = some o → b ∉ [x, dx, I, q, SS] := fun b o e hb => by rw [hfr b hb] at e; cases e
    obtain ⟨oLA, eLA, _⟩ := id hl2
    refine to_stop (list_ff w _ _ (lawEnv L fa cd) _ _ _ _ p loose mg mb (by decide) (by decide) x dx I q SS L oS oL LA va (ya.map SL) ((ya.filter (takesB xs)).map SL) g X T (by show ¬ (lawDef.scope.kind = ScopeKind.module); decide) rfl eL (fun vs e => by rw [dL] at e; cases e) F.keep
      (fun c hc => ?_) (get_none_of F.above (Nat.le_refl _)) (nf _ _ eL2) hff (S2.list (.of hk3) hl2) hy (by rw [List.length_map]; have := List.length_filter_le (takesB xs) ya; omega) (by rw [List.length_map]; omega) (nf _ _ eLA) fun s' acc' c' sl kk kL kD kS kb kdr kos => ?_)
    · cases e : g.get? c with
      | none => rfl
      | some o => have := S2.F.keep _ _ e; rw [hfr c hc] at this; cases this
    · obtain ⟨hp, gs, dr, tk, os⟩ := s'
      dsimp only at *
      subst kdr kos
      have keep : ∀ (b : Addr) (o : Obj), b ≠ L → h2.get? b = some o → hp.get? b = some o := fun b o hb e => kk b o (fun hm => by
        rcases List.mem_cons.mp hm with q | hm
        · exact nf b o e (by rw [q]; simp)
        · simp only [List.mem_cons, List.not_mem_nil, or_false] at hm
          rcases hm with q | q | q | q | q
          · exact nf b o e (by rw [q]; simp)
          · exact nf b o e (by rw [q]; simp)
          · exact nf b o e (by rw [q]; simp)
          · exact nf b o e (by rw [q]; simp)
          · exact hb q) (hk3 _ _ e)
      have S4 := S2.afterL GW0 eL2 kL keep
      refine wpAny_storeName_local rfl S4.F.ns (fun h5 hn5 hs5 => ?_)
      obtain ⟨S5, K5⟩ := S4.setm GW0 hs5 hn5
      refine hQ _ _ _ h3.objs.size acc'.toList kb ?_ ?_ S5 (((Kept.of hk2).trans fun z o n e => keep z o (notBad n).n0 e).trans K5)
      · refine S4.list K5 ⟨_, kD, rfl, _, by rw [Array.toArray_toList]⟩
      · have e1 := kS
        rw [List.filter_map] at e1
        have e2 : (ya.filter fun x => !takesB xs x) = ya.filter ((fun k => decide (k ∉ (ya.filter (takesB xs)).map SL)) ∘ SL) := by
          refine List.filter_congr fun x hx => ?_
          simp only [Function.comp]
          rw [Bool.eq_iff_iff]
          simp only [Bool.not_eq_true', decide_eq_true_eq, List.mem_map, List.mem_filter, not_exists, not_and]
          constructor
          · rintro h y ⟨hy, ht⟩ e
            rw [SL_inj] at e; subst e; rw [h] at ht; cases ht
          · intro h
            cases e : takesB xs x with
            | false => rfl
            | true => exact absurd rfl (h x ⟨hx, e⟩)
        rw [e2]; exact e1
end Mine
end LawXS
namespace Mine
open PySem PySem.W PyProof.Rows PySem.Calls
section
variable {prog : Program} {w : World} {A : Around} {E : Value → Shared → Prop} {R : Result → Shared → Prop} {s : Shared} {env cenv : Env}
/-- a comprehension's loop, by an invariant over the whole state -/
theorem compLoop_h {elt target : Expr} {gens : List Comprehension} {ifs : List Expr} {scope : Scope} {pos : Pos} {d : Nat} {acc : Value} {emitP : (Shared → Prop) → Shared → Prop} {I : Addr} {fp : List Addr} {n : Nat} {P : Nat → Value → Prop} {St : Nat → Heap → Prop}
    (J : Nat → Shared → Prop)
    (ht : TurnBy prog w A (.ListComp elt gens scope pos) d (.ref I) acc cenv target ifs emitP) (hmono : ∀ K K' s, (∀ s, K s → K' s) → emitP K s → emitP K' s)
    (W : Walks prog w A I fp [I] n P St) (st : St 0 s.heap) (ini : J 0 s)
    (stable : ∀ i (s₁ : Shared) h' tk, J i s₁ → (∀ b o, b ≠ I → s₁.heap.get? b = some o → h'.get? b = some o) → J i { s₁ with heap := h', toks := tk })
    (go : ∀ i (s' : Shared) v (Q' : Unit → Shared → Prop), St i s'.heap → Q' () s' → wpAny (model prog w) A (letOwnedTupleGo target (.ref I) v) Q' (fun _ _ => False) s')
    (step : ∀ i v (s₁ : Shared), i < n → P i v → J i s₁ → St (i + 1) s₁.heap →
      wpAny (model prog w) A (assign target cenv v) (fun _ s₂ => wpAny (model prog w) A (testsOf ifs cenv) (fun ok s₃ =>
            if ok = true then emitP (fun s₅ => J (i + 1) s₅ ∧ St (i + 1) s₅.heap) s₃
            else J (i + 1) s₃ ∧ St (i + 1) s₃.heap) (fun _ _ => False) s₂) (fun _ _ => False) s₁)
    (fin : ∀ s', J n s' → R (.ok .next) s') :
    codeAny (model prog w) A (.compLoop (.ListComp elt gens scope pos) d (.ref I) acc cenv) R s := by
  refine codeAny_compLoop_own ht hmono (fun k s' => ∃ i, J i s' ∧ St i s'.heap ∧ i ≤ n ∧ k = n + 1 - i) ?_ (n + 1) ⟨0, ini, st, Nat.zero_le _, rfl⟩
  rintro k s' ⟨i, hJ, hst, hi, rfl⟩
  by_cases hlt : i < n
  · refine W.item i _ _ _ hlt hst fun v h₁ tk₁ hP hst₁ hk₁ => ?_
    refine go (i + 1) _ v _ hst₁ ?_
    have hJ₁ := stable i s' h₁ tk₁ hJ fun b o hb e => hk₁ b o (by simpa using hb) e
    have cont : ∀ s₄, (J (i + 1) s₄ ∧ St (i + 1) s₄.heap) → ∃ m, m < n + 1 - i ∧ ∃ i, J i s₄ ∧ St i s₄.heap ∧ i ≤ n ∧ m = n + 1 - i := fun s₄ h => ⟨n + 1 - (i + 1), by omega, i + 1, h.1, h.2, hlt, rfl⟩
    refine wpAny_mono (step i v _ hlt hP hJ₁ hst₁) (fun _ s₃ h₃ => wpAny_mono h₃ (fun ok s₄ h₄ => ?_) (fun _ _ x => x)) (fun _ _ x => x)
    cases ok with
    | true =>
      simp only [if_true] at h₄ ⊢
      exact hmono _ _ _ (fun s₅ h₅ => cont s₅ h₅) h₄
    | false =>
      simp only [Bool.false_eq_true, if_false] at h₄ ⊢
      exact cont s₄ h₄
  · have hin : i = n := by omega
    subst hin
    refine W.done _ _ _ hst fun h₁ tk₁ hk₁ => ?_
    exact fin _ (stable i s' h₁ tk₁ hJ fun b o hb e => hk₁ b o (by simpa using hb) e)
/-- the second clause begun -/
theorem codeAny_compStart_1 {elt t0 i0 f0 t1 i1 f1 scope pos it acc env}
    (h0 : codeAny (model prog w) A (.compLoop (.ListComp elt [⟨t0, i0, f0, 0⟩, ⟨t1, i1, f1, 0⟩] scope pos) 1 it acc env) R s)
    (h : wpAny (model prog w) A (pyIter it) (fun it' s' => codeAny (model prog w) A (.compLoop (.ListComp elt [⟨t0, i0, f0, 0⟩, ⟨t1, i1, f1, 0⟩] scope pos) 1 it' acc env) R s')
      (notedBy (model prog w) A env fun x s' => R (.error x) s') s) :
    codeAny (model prog w) A (.compStart (.ListComp elt [⟨t0, i0, f0, 0⟩, ⟨t1, i1, f1, 0⟩] scope pos) 1 it acc env) R s := by
  refine codeAny_of_tree ?_
  show wpAny _ _ ((compStart (.ListComp elt [⟨t0, i0, f0, 0⟩, ⟨t1, i1, f1, 0⟩] scope pos) 1 it acc env).onRaise (fun x => do noteFrame x env; standAt theWindowsPlace)) _ _ s
  refine wpAny_notedAt ?_
  unfold compStart
  show wpAny _ _ (ask >>= _) _ _ s
  refine wpAny_bind (wpAny_askSetting (wpAny_ite ?_))
  split
  · first
      | exact wpAny_bind (wpAny_pure (wpAny_pure (And.intro rfl h0)))
      | exact wpAny_pure (And.intro rfl h0)
  · first
      | exact wpAny_bind (wpAny_rule (wpAny_bind (wpAny_standAt (wpAny_bind (wpAny_mono h (fun it' s' h' => wpAny_pure (And.intro rfl h')) fun _ _ x => x)))))
      | (refine wpAny_bind (wpAny_rule ?_); show wpAny _ _ (standAt i1.pos >>= _) _ _ s; exact wpAny_bind (wpAny_standAt (wpAny_bind (wpAny_mono h (fun it' s' h' => wpAny_pure (And.intro rfl h')) fun _ _ x => x))))
inductive CompHIn (prog : Program) (w : World) (A : Around) (env : Env) (elt t0 i0 : Expr) (f0 : List Expr) (gs : List Comprehension) (scope : Scope) (pos : Pos) (cl : List (Str × Addr)) (Q : Value → Shared → Prop) (it : Value) (s₂ : Shared) : Prop
  | mk (I : Addr) (h1 : it = .ref I) (h2 : (∀ h' tk (Q : Value → Shared → Prop) (E : Value → Shared → Prop), (∀ b o, s₂.heap.get? b = some o → h'.get? b = some o) → Q (.ref I) { s₂ with heap := h', toks := tk } → wpAny (model prog w) A (pyIter (.ref I)) Q E { s₂ with heap := h', toks := tk })) (h3 : ∀ D C h₃ tk₃, s₂.heap.objs.size ≤ D → @LT.lt Nat instLTNat D C → (∀ b o, s₂.heap.get? b = some o → h₃.get? b = some o) → h₃.Ns C (fun _ => none) → h₃.get? D = some (W.listOf #[] 0) → codeAny (model prog w) A (.compLoop (.ListComp elt (⟨t0, i0, f0, 0⟩ :: gs) scope pos) 0 (.ref I) (.ref D) (compEnvC scope cl C env)) (fun r s' => r = .ok .next ∧ (∃ m', s'.heap.Ns C m') ∧ ∀ h'', Heap.SameBut C s'.heap h'' → Q (.ref D) { s' with heap := h'' }) { s₂ with heap := h₃, toks := tk₃ }) : CompHIn prog w A env elt t0 i0 f0 gs scope pos cl Q it s₂
/-- a comprehension begun and ended, its loop told over the whole state -/
theorem comp_h {elt t0 i0 : Expr} {f0 : List Expr} {gs : List Comprehension} {scope : Scope} {cl : List (Str × Addr)} {pos : Pos} {Q : Value → Shared → Prop}
    (hclos : closureFor scope env = pure cl) (hcell : ∀ y ∈ scope.names, y.2 ≠ .cell) (hkind : scope.kind = .function)
    (hnames : ∀ y ∈ scope.names, y.2 = .local → scope.names.lookup y.1 = some .local)
    (h : wpAny (model prog w) A (eval i0 env) (fun xv s₁ => wpAny (model prog w) A (pyIter xv) (CompHIn prog w A env elt t0 i0 f0 gs scope pos cl Q) E s₁) E s)
    (hs : ∀ x, foldedSetIterable i0 env x = pure x) :
    wpAny (model prog w) A (eval (.ListComp elt (⟨t0, i0, f0, 0⟩ :: gs) scope pos) env) Q E s := by
  rw [eval_ListComp]
  refine wpAny_comprehension_free (use := none) rfl hs hclos hkind hnames (wpAny_mono h (fun xv s₁ h₁ => wpAny_mono h₁ (fun it s₂ h₂ => ?_) fun _ _ e => e) fun _ _ e => e)
  obtain ⟨I, rfl, self, hb⟩ := h₂
  refine wpAny_newObj_type (wpAny_newFunctionEnv hcell (by intro y hy; simp at hy) (fun h₁ hns₁ hsb₁ => ?_) hkind)
  dsimp only at hns₁ hsb₁ ⊢
  generalize hH2 : s₂.heap.push { cls := .type "list", dict := none, data := .seq ([] : List Value).toArray } = H2 at hns₁ hsb₁ ⊢
  have hC : H2.objs.size = s₂.heap.objs.size + 1 := by rw [← hH2, Heap.size_push]
  have hDC : s₂.heap.objs.size ≠ H2.objs.size := by rw [hC]; exact Nat.ne_of_lt (Nat.lt_succ_self _)
  have below : ∀ b, b < s₂.heap.objs.size → b ≠ H2.objs.size ∧ b ≠ s₂.heap.objs.size := fun b hb => ⟨by rw [hC]; exact Nat.ne_of_lt (Nat.lt_succ_of_lt hb), Nat.ne_of_lt hb⟩
  have old : ∀ b o, s₂.heap.get? b = some o → h₁.get? b = some o := fun b o e => hsb₁.extBut b o (below b (Heap.lt_size e)).1 (Heap.get?_push_of_some _ (hH2 ▸ Heap.get?_push_of_some _ e))
  have hacc : h₁.get? s₂.heap.objs.size = some { cls := .type "list", dict := none, data := .seq ([] : List Value).toArray } := hsb₁.extBut _ _ hDC (Heap.get?_push_of_some _ (hH2 ▸ Heap.get?_push_size _ rfl))
  have loop : ∀ tk, codeAny (model prog w) A (.compLoop (.ListComp elt (⟨t0, i0, f0, 0⟩ :: gs) scope pos) 0 (.ref I) (.ref s₂.heap.objs.size) (compEnvC scope cl H2.objs.size env))
        (compPost (model prog w) A E none Q (.ref s₂.heap.objs.size) H2.objs.size) { s₂ with heap := h₁, toks := tk } := fun tk => by
    refine codeAny_mono (hb s₂.heap.objs.size H2.objs.size h₁ tk (Nat.le_refl _) (by rw [hC]; exact Nat.lt_succ_self _) old hns₁ hacc) fun r s' hr => ?_
    obtain ⟨rfl, ⟨m', hm'⟩, hq⟩ := hr
    exact ⟨m', hm', fun h'' hs'' => hq h'' hs''⟩
  exact codeAny_compStart_list (loop _) (self _ _ _ _ old (loop _))
inductive CompHAIn (prog : Program) (w : World) (A : Around) (env : Env) (elt t0 i0 : Expr) (f0 : List Expr) (gs : List Comprehension) (scope : Scope) (pos : Pos) (cl : List (Str × Addr)) (y : Str) (Q : Flow → Shared → Prop) (it : Value) (s₂ : Shared) : Prop
  | mk (I : Addr) (h1 : it = .ref I) (h2 : (∀ h' tk (Q : Value → Shared → Prop) (E : Value → Shared → Prop), (∀ b o, s₂.heap.get? b = some o → h'.get? b = some o) → Q (.ref I) { s₂ with heap := h', toks := tk } → wpAny (model prog w) A (pyIter (.ref I)) Q E { s₂ with heap := h', toks := tk })) (h3 : ∀ D C h₃ tk₃, s₂.heap.objs.size ≤ D → @LT.lt Nat instLTNat D C → (∀ b o, s₂.heap.get? b = some o → h₃.get? b = some o) → h₃.Ns C (fun _ => none) → h₃.get? D = some (W.listOf #[] 0) → codeAny (model prog w) A (.compLoop (.ListComp elt (⟨t0, i0, f0, 0⟩ :: gs) scope pos) 0 (.ref I) (.ref D) (compEnvC scope cl C env)) (fun r s' => r = .ok .next ∧ env.locals ≠ C ∧ ∃ m' m, s'.heap.Ns C m' ∧ s'.heap.Ns env.locals m ∧ ∀ h'' tk, h''.Ns env.locals (fun x => if x = y then some (.ref D) else m x) → (∀ b o, b ≠ env.locals → b ≠ C → s'.heap.get? b = some o → h''.get? b = some o) → Q .next { s' with heap := h'', toks := tk }) { s₂ with heap := h₃, toks := tk₃ }) : CompHAIn prog w A env elt t0 i0 f0 gs scope pos cl y Q it s₂
/-- the same, stored into a local name at once -/
theorem comp_hA {elt t0 i0 : Expr} {f0 : List Expr} {gs : List Comprehension} {scope : Scope} {cl : List (Str × Addr)} {pos spos py : Pos} {y : Str} {Q : Flow → Shared → Prop}
    (hsw : swapsWith (.ListComp elt (⟨t0, i0, f0, 0⟩ :: gs) scope pos) (some (.Name y py)) spos.line env = pure true)
    (hclos : closureFor scope env = pure cl) (hcell : ∀ y ∈ scope.names, y.2 ≠ .cell) (hkind : scope.kind = .function)
    (hnames : ∀ y ∈ scope.names, y.2 = .local → scope.names.lookup y.1 = some .local)
    (hy : env.kindOf y = some .local) (hp : (env.scope.kind == .class || (env.scope.kind == .module && env.locals != env.globals)) = false)
    (h : wpAny (model prog w) A (eval i0 env) (fun xv s₁ => wpAny (model prog w) A (pyIter xv) (CompHAIn prog w A env elt t0 i0 f0 gs scope pos cl y Q) E s₁) E s)
    (hs : ∀ x, foldedSetIterable i0 env x = pure x) :
    wpAny (model prog w) A (exec (.Assign [.Name y py] (.ListComp elt (⟨t0, i0, f0, 0⟩ :: gs) scope pos) spos) env) Q E s := by
  rw [exec_Assign_Name_used _ _ _ _ hsw]
  refine wpAny_bind (wpAny_standAt (wpAny_bind ?_))
  show wpAny _ A (do let _ ← comprehension (.ListComp elt (⟨t0, i0, f0, 0⟩ :: gs) scope pos) scope env _ (newList []) false (eval i0 env) (some (assign (.Name y py) env))) _ _ s
  refine wpAny_bind (wpAny_mono (wpAny_comprehension_free (use := some (assign (.Name y py) env)) (Q := fun _ s' => Q .next s') rfl hs hclos hkind hnames
    (wpAny_mono h (fun xv s₁ h₁ => wpAny_mono h₁ (fun it s₂ h₂ => ?_) fun _ _ e => e) fun _ _ e => e)) (fun _ s' hq => wpAny_pure (wpAny_pure hq)) fun _ _ e => e)
  obtain ⟨I, rfl, self, hb⟩ := h₂
  refine wpAny_newObj_type (wpAny_newFunctionEnv hcell (by intro y hy; simp at hy) (fun h₁ hns₁ hsb₁ => ?_) hkind)
  dsimp only at hns₁ hsb₁ ⊢
  generalize hH2 : s₂.heap.push { cls := .type "list", dict := none, data := .seq ([] : List Value).toArray } = H2 at hns₁ hsb₁ ⊢
  have hC : H2.objs.size = s₂.heap.objs.size + 1 := by rw [← hH2, Heap.size_push]
  have hDC : s₂.heap.objs.size ≠ H2.objs.size := by rw [hC]; exact Nat.ne_of_lt (Nat.lt_succ_self _)
  have below : ∀ b, b < s₂.heap.objs.size → b ≠ H2.objs.size ∧ b ≠ s₂.heap.objs.size := fun b hb => ⟨by rw [hC]; exact Nat.ne_of_lt (Nat.lt_succ_of_lt hb), Nat.ne_of_lt hb⟩
  have old : ∀ b o, s₂.heap.get? b = some o → h₁.get? b = some o := fun b o e => hsb₁.extBut b o (below b (Heap.lt_size e)).1 (Heap.get?_push_of_some _ (hH2 ▸ Heap.get?_push_of_some _ e))
  have hacc : h₁.get? s₂.heap.objs.size = some { cls := .type "list", dict := none, data := .seq ([] : List Value).toArray } := hsb₁.extBut _ _ hDC (Heap.get?_push_of_some _ (hH2 ▸ Heap.get?_push_size _ rfl))
  have loop : ∀ tk, codeAny (model prog w) A (.compLoop (.ListComp elt (⟨t0, i0, f0, 0⟩ :: gs) scope pos) 0 (.ref I) (.ref s₂.heap.objs.size) (compEnvC scope cl H2.objs.size env))
        (compPost (model prog w) A E (some (assign (.Name y py) env)) (fun _ s' => Q .next s') (.ref s₂.heap.objs.size) H2.objs.size) { s₂ with heap := h₁, toks := tk } := fun tk => by
    refine codeAny_mono (hb s₂.heap.objs.size H2.objs.size h₁ tk (Nat.le_refl _) (by rw [hC]; exact Nat.lt_succ_self _) old hns₁ hacc) fun r s' hr => ?_
    obtain ⟨rfl, hLC, m', m, hm', hm, hq⟩ := hr
    show wpAny _ A (assign (.Name y py) env (.ref s₂.heap.objs.size)) _ _ _
    refine wpAny_assign_Name (wpAny_storeName_local hy hm (fun h₂ hn₂ hs₂ => ?_) hp)
    exact ⟨m', hm'.sameBut hs₂ (Ne.symm hLC), fun h₃ hs₃ => hq h₃ _ (hn₂.sameBut hs₃ hLC) fun b o hb1 hb2 e => hs₃.extBut b o hb2 (hs₂.extBut b o hb1 e)⟩
  exact codeAny_compStart_list (loop _) (self _ _ _ _ old (loop _))
end
end Mine
namespace Mine
open PySem PySem.W PyProof.Rows PySem.Calls
/-- a list's items are pairs of numbers -/
inductive PairsAre (N : Addr → Prop) (h : Heap) : List Value → List (Nat × Nat) → Prop
  | nil : PairsAre N h [] []
  | cons {t u1 u2 vs ps} {x : Nat × Nat} : N t → IsTup h t #[.int (x.1 : Int) u1, .int (x.2 : Int) u2] → PairsAre N h vs ps → PairsAre N h (.ref t :: vs) (x :: ps)
theorem PairsAre.map {N N' : Addr → Prop} {h h' : Heap} (f : ∀ t items, N t → IsTup h t items → N' t ∧ IsTup h' t items) : ∀ {vs : List Value} {ps : List (Nat × Nat)}, PairsAre N h vs ps → PairsAre N' h' vs ps
  | _, _, .nil => .nil
  | _, _, .cons n t r => .cons (f _ _ n t).1 (f _ _ n t).2 (r.map f)
theorem PairsAre.keeps {N : Addr → Prop} {h h' : Heap} {vs : List Value} {ps : List (Nat × Nat)} (P : PairsAre N h vs ps) (hk : ∀ b o, h.get? b = some o → h'.get? b = some o) : PairsAre N h' vs ps := P.map fun _ _ n t => ⟨n, t.keeps hk⟩
theorem PairsAre.app {N : Addr → Prop} {h : Heap} : ∀ {vs ws : List Value} {ps qs : List (Nat × Nat)}, PairsAre N h vs ps → PairsAre N h ws qs → PairsAre N h (vs ++ ws) (ps ++ qs)
  | _, _, _, _, .nil, r => r
  | _, _, _, _, .cons n t l, r => .cons n t (l.app r)
theorem PairsAre.len {N : Addr → Prop} {h : Heap} : ∀ {vs : List Value} {ps : List (Nat × Nat)}, PairsAre N h vs ps → vs.length = ps.length
  | _, _, .nil => rfl
  | _, _, .cons _ _ r => congrArg (· + 1) r.len
theorem PairsAre.at {N : Addr → Prop} {h : Heap} : ∀ {vs : List Value} {ps : List (Nat × Nat)}, PairsAre N h vs ps → ∀ {i : Nat} {v : Value}, vs[i]? = some v → ∃ t u1 u2 x, v = .ref t ∧ ps[i]? = some x ∧ N t ∧ IsTup h t #[.int (x.1 : Int) u1, .int (x.2 : Int) u2]
  | _, _, .nil, _, _, e => by simp at e
  | _, _, .cons (t := t) (u1 := u1) (u2 := u2) (x := x) n ht r, 0, v, e => by simp at e; exact ⟨t, u1, u2, x, e.symm, rfl, n, ht⟩
  | _, _, .cons _ _ r, i + 1, v, e => by simpa using r.at (i := i) (by simpa using e)
noncomputable def PairsAt (h : Heap) (a : Addr) (ps : List (Nat × Nat)) : Prop := ∃ vs : List Value, h.IsList a vs.toArray ∧ PairsAre (fun _ => True) h vs ps
/-- a comprehension of pairs under way -/
inductive CJ (sb : Shared) (I C D : Addr) (ps : List (Nat × Nat)) (s₁ : Shared) : Prop
  | mk (h : Heap) (tk : Nat) (h1 : s₁ = { sb with heap := h, toks := tk }) (h2 : ∀ b o, sb.heap.get? b = some o → h.get? b = some o) (h3 : ∃ m, h.Ns C m) (ys : List Value) (k : Nat) (h4 : h.get? D = some (W.listOf ys.toArray k)) (h5 : ys.length ≤ 1000) (h6 : PairsAre (fun t => t ≠ I ∧ t ≠ C ∧ t ≠ D) h ys ps) : CJ sb I C D ps s₁
section
variable {prog : Program} {w : World} {A : Around} {E : Value → Shared → Prop} {s : Shared} {env : Env}
inductive CompPIn (prog : Program) (w : World) (A : Around) (env : Env) (scope : Scope) (cl : List (Str × Addr)) (x y z : Str) (ifs : List Expr) (f : List (Nat × Nat) → List (Nat × Nat)) (emitP : Addr → Addr → Addr → (Shared → Prop) → Shared → Prop) (Q : Flow → Shared → Prop) (xv : Value) (sb : Shared) : Prop
  | mk (a : Addr) (ps : List (Nat × Nat)) (m0 : Str → Option Value) (h1 : xv = .ref a) (h2 : PairsAt sb.heap a ps) (h3 : ps.length ≤ 100) (h4 : sb.heap.Ns env.locals m0) (h5 : (∀ I C D (i : Nat) (q : Nat × Nat) (u1 u2 : Tok) m s₁, sb.heap.objs.size ≤ I → @LT.lt Nat instLTNat I D → @LT.lt Nat instLTNat D C → ps[i]? = some q → CJ sb I C D (f (ps.take i)) s₁ → s₁.heap.Ns C m → m x = some (.int (q.1 : Int) u1) → m y = some (.int (q.2 : Int) u2) → wpAny (model prog w) A (testsOf ifs (compEnvC scope cl C env)) (fun ok s₃ => if ok = true then emitP I C D (fun s₅ => CJ sb I C D (f (ps.take (i + 1))) s₅ ∧ ∀ o, s₁.heap.get? I = some o → s₅.heap.get? I = some o) s₃ else CJ sb I C D (f (ps.take (i + 1))) s₃ ∧ ∀ o, s₁.heap.get? I = some o → s₃.heap.get? I = some o) (fun _ _ => False) s₁)) (h6 : (∀ D h' tk, h'.Ns env.locals (fun x => if x = z then some (.ref D) else m0 x) → (∀ b o, b ≠ env.locals → sb.heap.get? b = some o → h'.get? b = some o) → PairsAt h' D (f ps) → Q .next { sb with heap := h', toks := tk })) : CompPIn prog w A env scope cl x y z ifs f emitP Q xv sb
theorem comp_pairs {elt iter : Expr} {x y z : Str} {px py pz tp spos : Pos} {kk : Nat} {ifs : List Expr} {gs : List Comprehension} {scope : Scope} {cl : List (Str × Addr)} {pos : Pos} {Q : Flow → Shared → Prop} (f : List (Nat × Nat) → List (Nat × Nat)) (emitP : Addr → Addr → Addr → (Shared → Prop) → Shared → Prop)
    (hh : A.handled = none) (hf : f [] = [])
    (hsw : swapsWith (.ListComp elt (⟨.Tuple [.Name x px, .Name y py] kk tp, iter, ifs, 0⟩ :: gs) scope pos) (some (.Name z pz)) spos.line env = pure true) (hz : env.kindOf z = some .local) (hp : (env.scope.kind == .class || (env.scope.kind == .module && env.locals != env.globals)) = false)
    (hclos : closureFor scope env = pure cl) (hcell : ∀ y ∈ scope.names, y.2 ≠ .cell) (hkind : scope.kind = .function)
    (hnames : ∀ y ∈ scope.names, y.2 = .local → scope.names.lookup y.1 = some .local) (hx : scope.names.lookup x = some .local) (hy : scope.names.lookup y = some .local) (hxy : ¬ x = y)
    (ht : ∀ I C D, TurnBy prog w A (.ListComp elt (⟨.Tuple [.Name x px, .Name y py] kk tp, iter, ifs, 0⟩ :: gs) scope pos) 0 (.ref I) (.ref D) (compEnvC scope cl C env) (.Tuple [.Name x px, .Name y py] kk tp) ifs (emitP I C D))
    (hmono : ∀ I C D K K' s, (∀ s, K s → K' s) → emitP I C D K s → emitP I C D K' s)
    (h : wpAny (model prog w) A (eval iter env) (fun xv sb => Stop (CompPIn prog w A env scope cl x y z ifs f emitP Q xv sb)) E s)
    (hs : ∀ x, foldedSetIterable iter env x = pure x) :
    wpAny (model prog w) A (exec (.Assign [.Name z pz] (.ListComp elt (⟨.Tuple [.Name x px, .Name y py] kk tp, iter, ifs, 0⟩ :: gs) scope pos) spos) env) Q E s := by
  refine comp_hA hsw hclos hcell hkind hnames hz hp (wpAny_mono h (fun xv sb h₁ => ?_) fun _ _ e => e) hs
  obtain ⟨a, ps, m0, rfl, ⟨vs, hl, hP⟩, hn, hm0, hstep, hQ⟩ := of_stop h₁
  refine src_list hh hl fun I h8 St ⟨hI, haI⟩ ⟨hI0, hIs⟩ K8 Wk hSt hhas hit => ?_
  have hne : ∀ b o, sb.heap.get? b = some o → b ≠ I := fun b o e q => by rw [q, hI0] at e; cases e
  refine ⟨I, rfl, fun h' tk Q E hk hq => Wk.self 0 _ _ _ (Wk.frame _ _ _ hSt fun b _ o e => hk b o e) hq, fun D C h₃ tk₃ hD hDC hk₃ hns hget => ?_⟩
  have hID : @LT.lt Nat instLTNat I D := Nat.lt_of_lt_of_le hI hD
  have haD : @LT.lt Nat instLTNat a D := Nat.lt_of_lt_of_le haI hD
  have hIC : I ≠ C := Nat.ne_of_lt (Nat.lt_trans hID hDC)
  have hIaC : a ≠ C := Nat.ne_of_lt (Nat.lt_trans haD hDC)
  have hsz : sb.heap.objs.size ≤ I := hIs
  obtain ⟨oa, hoa, _⟩ := id hl
  have haI' : a ≠ I := hne _ _ hoa
  refine compLoop_h (fun i s₁ => CJ sb I C D (f (ps.take i)) s₁) (ht I C D) (hmono I C D) Wk (Wk.frame _ _ _ hSt fun b _ o e => hk₃ b o e) ?_ ?_ (fun i s' v Q' hs' h => by cases v <;> first | exact wpAny_letOwnedTupleGo_listiter (hit _ _ hs') h | exact wpAny_pure h) ?_ ?_
  · refine ⟨h₃, tk₃, rfl, fun b o e => hk₃ b o (K8 b o e), ⟨_, hns⟩, [], 0, hget, by simp, ?_⟩
    rw [List.take_zero, hf]; exact .nil
  · rintro i s₁ h' tk ⟨h₁, tk₁, rfl, k1, ⟨m, k2⟩, ys, k, k4, k5, k6⟩ hk
    refine ⟨h', tk, rfl, fun b o e => hk b o (hne b o e) (k1 b o e), ⟨m, k2.at' fun o e => hk _ o hIC.symm e⟩, ys, k, hk _ _ (Nat.ne_of_gt hID) k4, k5, k6.map fun t items n t' => ⟨n, ?_⟩⟩
    obtain ⟨o, e, r⟩ := t'
    exact ⟨o, hk _ _ n.1 e, r⟩
  · rintro i v s₁ hi hPi ⟨h₁, tk₁, rfl, k1, ⟨m, k2⟩, ys, k, k4, k5, k6⟩ hst
    obtain ⟨t, u1, u2, q, rfl, hq, _, ht'⟩ := hP.at (i := i) (v := v) (by simpa using hPi)
    have htup : IsTup h₁ t _ := ht'.keeps k1
    have hk : (compEnvC scope cl C env).kindOf x = some .local := lookup_relabel_local hx
    have hk' : (compEnvC scope cl C env).kindOf y = some .local := lookup_relabel_local hy
    refine kcp_assign hh (show h₁.IsTuple t _ from htup) hk hk' (by simp [compEnvC, relabel, hkind]) (show h₁.Ns (compEnvC scope cl C env).locals m from k2) fun h2 tk2 hn2 hkeep2 => ?_
    have hLC : (compEnvC scope cl C env).locals = C := rfl
    have k1' : ∀ b o, sb.heap.get? b = some o → h2.get? b = some o := fun b o e => hkeep2 b o (by rw [hLC]; exact Nat.ne_of_lt (Nat.lt_of_lt_of_le (Heap.lt_size e) (Nat.le_of_lt (Nat.lt_of_le_of_lt hsz (Nat.lt_trans hID hDC))))) (k1 b o e)
    have cj : CJ sb I C D (f (ps.take i)) { sb with heap := h2, toks := tk2 } := by
      refine ⟨h2, tk2, rfl, k1', ⟨_, hn2⟩, ys, k, hkeep2 _ _ (Nat.ne_of_lt hDC) k4, k5, k6.map fun t items n t' => ⟨n, ?_⟩⟩
      obtain ⟨o, e, r⟩ := t'
      exact ⟨o, hkeep2 _ _ n.2.1 e, r⟩
    have stn : ∀ s₅ : Shared, (∀ o, h2.get? I = some o → s₅.heap.get? I = some o) → CJ sb I C D (f (ps.take (i + 1))) s₅ → St (i + 1) s₅.heap := by
      rintro s₅ hI5 ⟨h5, tk5, rfl, k5, _⟩
      refine Wk.frame _ _ _ hst fun b hb o e => ?_
      simp only [List.mem_cons, List.not_mem_nil, or_false] at hb
      rcases hb with rfl | rfl
      · exact hI5 o (hkeep2 _ _ hIC e)
      · have e2 := k1 _ _ hoa
        rw [e] at e2; cases e2
        exact k5 _ _ hoa
    refine wpAny_mono (hstep I C D i q u1 u2 _ _ hsz hID hDC hq cj hn2 (by rw [if_neg hxy, if_pos rfl]) (if_pos rfl)) (fun ok s₃ h₃ => ?_) fun _ _ e => e
    cases ok with
    | true =>
      simp only [if_true] at h₃ ⊢
      exact hmono _ _ _ _ _ _ (fun s₅ h₅ => ⟨h₅.1, stn s₅ h₅.2 h₅.1⟩) h₃
    | false =>
      simp only [Bool.false_eq_true, if_false] at h₃ ⊢
      exact ⟨h₃.1, stn s₃ h₃.2 h₃.1⟩
  · have hvl : vs.toArray.size = ps.length := by rw [List.size_toArray, hP.len]
    rintro s' ⟨h₁, tk₁, rfl, k1, ⟨m, k2⟩, ys, k, k4, k5, k6⟩
    rw [hvl, List.take_length] at k6
    have big : ∀ b o, sb.heap.get? b = some o → b ≠ C ∧ b ≠ D := fun b o e => by
      have l1 : @LT.lt Nat instLTNat b I := Nat.lt_of_lt_of_le (Heap.lt_size e) hsz
      exact ⟨Nat.ne_of_lt (Nat.lt_trans l1 (Nat.lt_trans hID hDC)), Nat.ne_of_lt (Nat.lt_trans l1 hID)⟩
    obtain ⟨oL, _, _, eL, _⟩ := id hm0
    have k0 := hm0.at' fun o e => k1 _ o e
    refine ⟨rfl, (big _ _ eL).1, m, m0, k2, k0, fun h'' tk hn'' hk'' => hQ D h'' tk hn'' (fun b o hb e => hk'' b o hb (big b o e).1 (k1 b o e)) ⟨ys, ⟨_, hk'' _ _ (Ne.symm (big _ _ eL).2) (Nat.ne_of_lt hDC) k4, rfl, k, rfl⟩, k6.map fun t items n t' => ⟨trivial, ?_⟩⟩⟩
    obtain ⟨o, e, c, k, d⟩ := t'
    exact ⟨o, hk'' _ o (fun q => Ns_data k0 (q ▸ e) d) n.2.1 e, c, k, d⟩
end
end Mine
namespace Mine
open PySem PySem.W PyProof.Rows PySem.Calls
theorem CJ.more {sb : Shared} {I C D : Addr} {ps : List (Nat × Nat)} {h h' : Heap} {tk' : Nat} {ys : List Value} {k' : Nat} {ps' : List (Nat × Nat)} {m : Str → Option Value} (ws : List Value)
    (k1 : ∀ b o, sb.heap.get? b = some o → h.get? b = some o) (hn : h.Ns C m) (hD : @LT.lt Nat instLTNat D C) (hsD : @LE.le Nat instLENat sb.heap.objs.size D) (hl : ys.length + ws.length ≤ 1000) (P : PairsAre (fun t => t ≠ I ∧ t ≠ C ∧ t ≠ D) h ys ps) (P' : PairsAre (fun t => t ≠ I ∧ t ≠ C ∧ t ≠ D) h ws ps')
    (hs : Heap.SameBut D h h') (e : h'.get? D = some (W.listOf (ys ++ ws).toArray k')) : CJ sb I C D (ps ++ ps') { sb with heap := h', toks := tk' } := by
  refine ⟨h', tk', rfl, fun b o e => hs.extBut b o (Nat.ne_of_lt (Nat.lt_of_lt_of_le (Heap.lt_size e) hsD)) (k1 b o e), ⟨m, hn.at' fun o e => hs.extBut _ o (Nat.ne_of_gt hD) e⟩, ys ++ ws, k', e, by rw [List.length_append]; exact hl, (P.app P').map fun t items n t' => ⟨n, ?_⟩⟩
  obtain ⟨o, e, r⟩ := t'
  exact ⟨o, hs.extBut _ o n.2.2 e, r⟩
noncomputable def partsComp : Expr := valueOf (turnSt 6)
noncomputable def posB (q : Nat × Nat) : Bool := decide (0 < q.1) && decide (0 < q.2)
theorem parts_step (w : World) (sb s₁ : Shared) (L fa : Addr) (cd : Value) (ps : List (Nat × Nat)) (I C D : Addr) (i : Nat) (q : Nat × Nat) (u1 u2 : Tok) (m : Str → Option Value) (hsI : @LE.le Nat instLENat sb.heap.objs.size I) (hID : @LT.lt Nat instLTNat I D) (hDC : @LT.lt Nat instLTNat D C) (hq : ps[i]? = some q) (hps : ps.length ≤ 100)
   (cj : CJ sb I C D ((ps.take i).filter posB) s₁) (hn : s₁.heap.Ns C m) (ha : m (Str.ofString "a") = some (.int (q.1 : Int) u1)) (hb : m (Str.ofString "b") = some (.int (q.2 : Int) u2)) :
   wpAny (model PySem.Challenge.rw_ij0087_01.row.prog w) (callerA.deeper (lawEnv L fa cd)) (testsOf (compIfs partsComp) (compEnvC (compScope partsComp) [] C (lawEnv L fa cd)))
     (fun ok s₃ => if ok = true then EmitA PySem.Challenge.rw_ij0087_01.row.prog w (callerA.deeper (lawEnv L fa cd)) (compElt partsComp) (.ref D) (compEnvC (compScope partsComp) [] C (lawEnv L fa cd)) (fun s₅ => CJ sb I C D ((ps.take (i + 1)).filter posB) s₅ ∧ ∀ o, s₁.heap.get? I = some o → s₅.heap.get? I = some o) s₃
            else CJ sb I C D ((ps.take (i + 1)).filter posB) s₃ ∧ ∀ o, s₁.heap.get? I = some o → s₃.heap.get? I = some o) (fun _ _ => False) s₁ := by
  unfold partsComp turnSt lawSt lawDef getDef
  dsimp only [nth, forBody, valueOf, compIfs, compScope, compElt]
  refine wpAny_tests_one ?_
  have et : ps.take (i + 1) = ps.take i ++ [q] := by rw [List.take_add_one, hq]; rfl
  have same : posB q = false → CJ sb I C D ((ps.take (i + 1)).filter posB) s₁ := fun hb => by
    rw [et, List.filter_append]; simpa [hb] using cj
  have toks : ∀ (t : Nat) (P : List (Nat × Nat)), CJ sb I C D P s₁ → CJ sb I C D P { s₁ with toks := t } := by
    rintro t P ⟨h, tk, rfl, r1, r2, ys, k, r3, r4, r5⟩
    exact ⟨h, t, rfl, r1, r2, ys, k, r3, r4, r5⟩
  walk
  · rename_i g1 g2
    have hpos : posB q = true := by simp only [posB, Bool.and_eq_true, decide_eq_true_eq]; omega
    unfold EmitA
    obtain ⟨h, tk, rfl, k1, _, ys, k, k4, k5, k6⟩ := cj
    clear same toks
    dsimp only at hn ⊢
    walk
    refine wpAny_newTuple ?_
    dsimp only at hn ⊢
    refine append_at (hsz := by have : (1000 : Nat) ≤ sizeLine := by decide +kernel
                                rw [List.size_toArray]; omega) (Heap.get?_push_of_some _ k4) fun h' hs hg => ?_
    have hlt := Heap.lt_size k4
    have hC := hn.lt
    rw [et, List.filter_append]
    refine ⟨?_, fun o e => hs.extBut _ o (Nat.ne_of_lt hID) (Heap.get?_push_of_some _ e)⟩
    refine CJ.more (k' := k + 1) (ys := ys) (h := h.push _) [Value.ref h.objs.size] (fun b o e => Heap.get?_push_of_some _ (k1 b o e)) (hn.at' fun o e => Heap.get?_push_of_some _ e) hDC (Nat.le_trans hsI (Nat.le_of_lt hID)) ?_ (k6.keeps fun b o e => Heap.get?_push_of_some _ e) ?_ hs (hg.trans (by simp [W.listOf]))
    · have e1 := k6.len
      have e2 := List.length_filter_le posB (ps.take i)
      have e3 : (ps.take i).length ≤ ps.length := by rw [List.length_take]; omega
      simp only [List.length_cons, List.length_nil]
      omega
    · simp only [List.filter_cons, hpos, if_true, List.filter_nil]
      exact .cons ⟨Nat.ne_of_gt (Nat.lt_trans hID hlt), Nat.ne_of_gt hC, Nat.ne_of_gt hlt⟩ ⟨_, Heap.get?_push_size _ rfl, rfl, _, rfl⟩ .nil
  · rename_i g1 g2
    exact toks _ _ (same (by simp only [posB, Bool.and_eq_false_iff, decide_eq_false_iff_not]; right; omega))
  · rename_i g1
    exact toks _ _ (same (by simp only [posB, Bool.and_eq_false_iff, decide_eq_false_iff_not]; left; omega))
/-- what the turn makes of the parts -/
theorem turn_e (w : World) (s : Shared) (Q : Flow → Shared → Prop) (E : Value → Shared → Prop) (p : Program) (loose : List Str) (mg mb : Str → Option Value) (g : Heap) (fa : Addr) (cd : Value) (L : Addr) (m : Str → Option Value) (v3 v4 v5 v6 v7 v8 : Option Value) (HA : Addr) (ps : List (Nat × Nat))
   (GW : LW w p loose mg mb g L) (S : LSt g L s.heap m v3 v4 v5 v6 v7 v8) (hm : m (Str.ofString "halves") = some (.ref HA)) (hP : PairsAt s.heap HA ps) (hn : ps.length ≤ 100)
   (hQ : ∀ h' tk PA, PairsAt h' PA (ps.filter posB) → LSt g L h' (fun y => if y = Str.ofString "parts" then some (.ref PA) else m y) v3 v4 v5 v6 v7 v8 → Kept L s.heap h' → Q .next { s with heap := h', toks := tk }) :
   wpAny (model PySem.Challenge.rw_ij0087_01.row.prog w) (callerA.deeper (lawEnv L fa cd)) (exec (turnSt 6) (lawEnv L fa cd)) Q E s := by
  have F := S.F
  have GW0 := GW
  obtain ⟨X, T, B, C, g57, l57⟩ := GW
  have el := parts_step w
  unfold partsComp turnSt lawSt lawDef getDef at *
  dsimp only [nth, forBody, valueOf, compIfs, compScope, compElt] at *
  revert X; k_fill; intro X
  refine comp_pairs (cl := []) (List.filter posB) (fun I C D => EmitA _ _ _ _ (.ref D) (compEnvC _ [] C _)) rfl rfl (by with_unfolding_all rfl) rfl rfl (by with_unfolding_all rfl) (by decide) rfl (by decide) rfl rfl (by decide) (fun I C D => turnBy_A (compTurn_1 _ _ _ _ _ _ _ _ _)) (fun I C D => EmitA.mono) ?_ (by intro _; with_unfolding_all rfl)
  walk
  refine to_stop ⟨HA, ps, m, rfl, hP, hn, F.ns, fun I C D i q u1 u2 m s₁ hsI hID hDC hq cj hn' ha hb => el _ s₁ L fa cd ps I C D i q u1 u2 m hsI hID hDC hq hn cj hn' ha hb, fun D h' tk hn' hk hP' => ?_⟩
  obtain ⟨S5, K5⟩ := S.setK GW0 hk hn'
  exact hQ _ _ D hP' S5 K5
end Mine
namespace Mine
open PySem PySem.W PyProof.Rows PySem.Calls
theorem codeAny_compStart_1s {prog : Program} {w : World} {A : Around} {R : Result → Shared → Prop} {s : Shared} {elt t0 i0 f0 t1 i1 f1 scope pos it acc env} (self : ∀ (Q : Value → Shared → Prop) (E : Value → Shared → Prop), Q it s → wpAny (model prog w) A (pyIter it) Q E s)
    (h0 : codeAny (model prog w) A (.compLoop (.ListComp elt [⟨t0, i0, f0, 0⟩, ⟨t1, i1, f1, 0⟩] scope pos) 1 it acc env) R s) :
    codeAny (model prog w) A (.compStart (.ListComp elt [⟨t0, i0, f0, 0⟩, ⟨t1, i1, f1, 0⟩] scope pos) 1 it acc env) R s := codeAny_compStart_1 h0 (self _ _ h0)
noncomputable def halvesComp : Expr := valueOf (turnSt 5)
noncomputable def halfL (f l : Nat) (q : Nat × Nat) : List (Nat × Nat) := [(q.1 - (q.1 &&& f), q.2), (q.1 &&& f, q.2 - (q.2 &&& l))]
noncomputable def iter1 : Expr → Expr
  | .ListComp _ [_, c] _ _ => c.iter
  | e => e
inductive HalfJ (sb : Shared) (h4 : Heap) (C D I2 : Addr) (ys ws : List Value) (j : Nat) (s₂ : Shared) : Prop
  | mk (h5 : Heap) (tk5 : Nat) (k5 : Nat) (h1 : s₂ = { sb with heap := h5, toks := tk5 }) (h2 : ∃ m, h5.Ns C m) (h3 : h5.get? D = some (W.listOf (ys ++ ws.take j).toArray k5)) (h6 : ∀ b o, b ≠ C → b ≠ D → b ≠ I2 → h4.get? b = some o → h5.get? b = some o) : HalfJ sb h4 C D I2 ys ws j s₂
theorem halves_step (w : World) (sb s₁ : Shared) (L fa : Addr) (cd : Value) (ps : List (Nat × Nat)) (f l : Nat) (t1 t2 : Tok) (I C D : Addr) (i : Nat) (q : Nat × Nat) (u1 u2 : Tok) (m : Str → Option Value) (hsI : @LE.le Nat instLENat sb.heap.objs.size I) (hID : @LT.lt Nat instLTNat I D) (hDC : @LT.lt Nat instLTNat D C) (hq : ps[i]? = some q) (hps : ps.length ≤ 100)
   (c4 : sb.heap.IsCell (L + 1 + 1 + 1 + 1) (some (.int (f : Int) t1))) (c5 : sb.heap.IsCell (L + 1 + 1 + 1 + 1 + 1) (some (.int (l : Int) t2))) (hf : f ≤ 63) (hl : l ≤ 63) (hq1 : q.1 ≤ 63) (hq2 : q.2 ≤ 63)
   (cj : CJ sb I C D ((ps.take i).flatMap (halfL f l)) s₁) (hn : s₁.heap.Ns C m) (ha : m (Str.ofString "a") = some (.int (q.1 : Int) u1)) (hb : m (Str.ofString "b") = some (.int (q.2 : Int) u2)) :
   EmitN PySem.Challenge.rw_ij0087_01.row.prog w (callerA.deeper (lawEnv L fa cd)) halvesComp (iter1 halvesComp) (.ref D) (compEnvC (compScope halvesComp) [(Str.ofString "last", L + 1 + 1 + 1 + 1 + 1), (Str.ofString "first", L + 1 + 1 + 1 + 1)] C (lawEnv L fa cd)) (fun s₅ => CJ sb I C D ((ps.take (i + 1)).flatMap (halfL f l)) s₅ ∧ ∀ o, s₁.heap.get? I = some o → s₅.heap.get? I = some o) s₁ := by
  unfold halvesComp turnSt lawSt lawDef getDef
  dsimp only [nth, forBody, valueOf, compIfs, compScope, compElt, iter1]
  unfold EmitN
  obtain ⟨h, tk, rfl, k1, _, ys, k, k4, k5, k6⟩ := cj
  dsimp only at hn ⊢
  have c4' := c4.keeps k1
  have c5' := c5.keeps k1
  walk
  have b1 : Builtin.bitAnd (q.1 : Int) (f : Int) = ((q.1 &&& f : Nat) : Int) := rfl
  have b2 : Builtin.bitAnd (q.2 : Int) (l : Int) = ((q.2 &&& l : Nat) : Int) := rfl
  have s1 : (q.1 : Int) - ((q.1 &&& f : Nat) : Int) = ((q.1 - (q.1 &&& f) : Nat) : Int) := by have := @Nat.and_le_left q.1 f; omega
  have s2 : (q.2 : Int) - ((q.2 &&& l : Nat) : Int) = ((q.2 - (q.2 &&& l) : Nat) : Int) := by have := @Nat.and_le_left q.2 l; omega
  rw [b1, s1]
  refine wpAny_newTuple ?_
  have hs1 := Heap.size_push (h := h) (o := { cls := .type "tuple", data := .seq [Value.int ((q.1 - (q.1 &&& f) : Nat) : Int) (tk + 1), Value.int (q.2 : Int) u2].toArray })
  have g1 : (h.push { cls := .type "tuple", data := .seq [Value.int ((q.1 - (q.1 &&& f) : Nat) : Int) (tk + 1), Value.int (q.2 : Int) u2].toArray }).get? h.objs.size = some _ := Heap.get?_push_size _ rfl
  have K1 : ∀ b o, h.get? b = some o → (h.push { cls := .type "tuple", data := .seq [Value.int ((q.1 - (q.1 &&& f) : Nat) : Int) (tk + 1), Value.int (q.2 : Int) u2].toArray }).get? b = some o := fun b o e => Heap.get?_push_of_some _ e
  dsimp only at hs1 g1 K1 ⊢
  generalize h.push { cls := .type "tuple", data := .seq [Value.int ((q.1 - (q.1 &&& f) : Nat) : Int) (tk + 1), Value.int (q.2 : Int) u2].toArray } = h1 at hs1 g1 K1 ⊢
  have hn1 : h1.Ns C m := hn.at' fun o e => K1 _ _ e
  have hCh := hn.lt
  have c41 := c4'.keeps K1
  have c51 := c5'.keeps K1
  clear c4' c5' hn
  walk
  rw [b1, b2, s2]
  refine wpAny_newTuple ?_
  have hs2 := Heap.size_push (h := h1) (o := { cls := .type "tuple", data := .seq [Value.int ((q.1 &&& f : Nat) : Int) (tk + 1 + 1), Value.int ((q.2 - (q.2 &&& l) : Nat) : Int) (tk + 1 + 1 + 1 + 1)].toArray })
  have g2 : (h1.push { cls := .type "tuple", data := .seq [Value.int ((q.1 &&& f : Nat) : Int) (tk + 1 + 1), Value.int ((q.2 - (q.2 &&& l) : Nat) : Int) (tk + 1 + 1 + 1 + 1)].toArray }).get? h1.objs.size = some _ := Heap.get?_push_size _ rfl
  have K2 : ∀ b o, h1.get? b = some o → (h1.push { cls := .type "tuple", data := .seq [Value.int ((q.1 &&& f : Nat) : Int) (tk + 1 + 1), Value.int ((q.2 - (q.2 &&& l) : Nat) : Int) (tk + 1 + 1 + 1 + 1)].toArray }).get? b = some o := fun b o e => Heap.get?_push_of_some _ e
  dsimp only at hs2 g2 K2 ⊢
  generalize h1.push { cls := .type "tuple", data := .seq [Value.int ((q.1 &&& f : Nat) : Int) (tk + 1 + 1), Value.int ((q.2 - (q.2 &&& l) : Nat) : Int) (tk + 1 + 1 + 1 + 1)].toArray } = h2 at hs2 g2 K2 ⊢
  have hn2 : h2.Ns C m := hn1.at' fun o e => K2 _ _ e
  clear c41 c51 hn1
  walk
  refine wpAny_newObj_type ?_
  have hs3 := Heap.size_push (h := h2) (o := { cls := .type "list", dict := none, data := .seq [Value.ref h.objs.size, Value.ref h1.objs.size].toArray })
  have g3 : (h2.push { cls := .type "list", dict := none, data := .seq [Value.ref h.objs.size, Value.ref h1.objs.size].toArray }).get? h2.objs.size = some _ := Heap.get?_push_size _ rfl
  have K3 : ∀ b o, h2.get? b = some o → (h2.push { cls := .type "list", dict := none, data := .seq [Value.ref h.objs.size, Value.ref h1.objs.size].toArray }).get? b = some o := fun b o e => Heap.get?_push_of_some _ e
  dsimp only at hs3 g3 K3 ⊢
  generalize h2.push { cls := .type "list", dict := none, data := .seq [Value.ref h.objs.size, Value.ref h1.objs.size].toArray } = h3 at hs3 g3 K3 ⊢
  have hlist : h3.IsList h2.objs.size [Value.ref h.objs.size, Value.ref h1.objs.size].toArray := ⟨_, g3, rfl, _, rfl⟩
  refine wpAny_of_eq (by with_unfolding_all rfl) ?_
  refine src_list rfl hlist fun I2 h4 St2 ⟨hI2, hLT⟩ ⟨hI20, hI2s⟩ K4 W2 hSt2 hhas2 hit2 => ?_
  refine wpAny_runOwn ?_
  show codeAny _ (callerA.deeper (lawEnv L fa cd)) _ _ _
  dsimp only at K4 hI20 hI2s ⊢
  have hDh := Heap.lt_size k4
  have hCD : D ≠ C := Nat.ne_of_lt hDC
  have hIh : @LT.lt Nat instLTNat I h.objs.size := Nat.lt_trans hID hDh
  have l1 : @LT.lt Nat instLTNat h.objs.size I2 := Nat.lt_of_lt_of_le (by rw [hs3, hs2, hs1]; exact Nat.lt_succ_of_lt (Nat.lt_succ_of_lt (Nat.lt_succ_self _))) hI2s
  have l2 : @LT.lt Nat instLTNat h1.objs.size I2 := Nat.lt_of_lt_of_le (by rw [hs3, hs2]; exact Nat.lt_succ_of_lt (Nat.lt_succ_self _)) hI2s
  have l3 : @LT.lt Nat instLTNat h2.objs.size I2 := Nat.lt_of_lt_of_le (by rw [hs3]; exact Nat.lt_succ_self _) hI2s
  have m1 : @LT.lt Nat instLTNat h.objs.size h1.objs.size := by rw [hs1]; exact Nat.lt_succ_self _
  have m2 : @LT.lt Nat instLTNat h.objs.size h2.objs.size := Nat.lt_trans m1 (by rw [hs2]; exact Nat.lt_succ_self _)
  have up : ∀ b o, h.get? b = some o → h4.get? b = some o := fun b o e => K4 _ _ (K3 _ _ (K2 _ _ (K1 _ _ e)))
  have e1 := K4 _ _ (K3 _ _ (K2 _ _ g1))
  have e2 := K4 _ _ (K3 _ _ g2)
  have nI2C : I2 ≠ C := Nat.ne_of_gt (Nat.lt_trans hCh l1)
  have nI2D : I2 ≠ D := Nat.ne_of_gt (Nat.lt_trans hDh l1)
  have nI2I : I2 ≠ I := Nat.ne_of_gt (Nat.lt_trans hIh l1)
  have h1000 : (1000 : Nat) ≤ sizeLine := by decide +kernel
  have hys : ys.length ≤ 200 := by
    have q1 := k6.len
    have q2 : ∀ r : List (Nat × Nat), (r.flatMap (halfL f l)).length = 2 * r.length := by
      intro r
      induction r with
      | nil => rfl
      | cons a r ih => rw [List.flatMap_cons, List.length_append, ih]; simp only [halfL, List.length_cons, List.length_nil]; omega
    rw [q2] at q1
    have q3 : (ps.take i).length ≤ ps.length := by rw [List.length_take]; omega
    omega
  have et : ps.take (i + 1) = ps.take i ++ [q] := by rw [List.take_add_one, hq]; rfl
  refine codeAny_compStart_1s (fun Q E hq => W2.self 0 _ Q E hSt2 hq) (codeAny_mono (R := fun r s' => r = .ok .next ∧ CJ sb I C D ((ps.take (i + 1)).flatMap (halfL f l)) s' ∧ ∀ o, h.get? I = some o → s'.heap.get? I = some o) (compLoop_h
    (HalfJ sb h4 C D I2 ys [Value.ref h.objs.size, Value.ref h1.objs.size])
    (turnBy_A (compTurn_21 _ _ _ _ _ _ _ _ _ _ _ _)) EmitA.mono W2 hSt2 ⟨h4, _, k, rfl, ⟨m, hn2.at' fun o e => K4 _ _ (K3 _ _ e)⟩, by rw [List.take_zero, List.append_nil]; exact up _ _ k4, fun b o _ _ _ e => e⟩
    (by
      rintro j s₁ h' tk' ⟨h5, tk5, k5, rfl, ⟨m5, p1⟩, p2, p3⟩ hk
      exact ⟨h', tk', k5, rfl, ⟨m5, p1.at' fun o e => hk _ o nI2C.symm e⟩, hk _ _ nI2D.symm p2, fun b o n1 n2 n3 e => hk b o n3 (p3 b o n1 n2 n3 e)⟩)
    (fun i s' v Q' _ h => wpAny_pure h)
    (by
      rintro j v s₁ hj hv ⟨h5, tk5, k5, rfl, ⟨m5, p1⟩, p2, p3⟩ hst
      refine wpAny_assign_Name (wpAny_storeName_local rfl p1 (fun h6 hn6 hs6 => ?_))
      refine wpAny_tests_nil ?_
      simp only [if_true]
      refine ldVarK hn6 (if_pos rfl) ?_
      have p2' := hs6.extBut _ _ hCD p2
      have hj2 : j < 2 := by simpa using hj
      have hv' : [Value.ref h.objs.size, Value.ref h1.objs.size][j]? = some v := by simpa using hv
      refine append_at (hsz := by rw [List.size_toArray, List.length_append, List.length_take]; simp only [List.length_cons, List.length_nil]; omega) p2' fun h7 hs7 hg7 => ?_
      refine ⟨⟨h7, _, k5 + 1, rfl, ⟨_, hn6.at' fun o e => hs7.extBut _ o hCD.symm e⟩, hg7.trans ?_, fun b o n1 n2 n3 e => hs7.extBut b o n2 (hs6.extBut b o n1 (p3 b o n1 n2 n3 e))⟩, ?_⟩
      · rw [List.push_toArray, List.append_assoc, List.take_add_one, hv']
        rfl
      · refine W2.frame _ _ _ hst fun b hb o e => ?_
        simp only [List.mem_cons, List.not_mem_nil, or_false] at hb
        have nb : b ≠ C ∧ b ≠ D := by
          rcases hb with rfl | rfl
          · exact ⟨nI2C, nI2D⟩
          · exact ⟨Nat.ne_of_gt (Nat.lt_trans hCh m2), Nat.ne_of_gt (Nat.lt_trans hDh m2)⟩
        exact hs7.extBut b o nb.2 (hs6.extBut b o nb.1 e))
    (by
      rintro s' ⟨h5, tk5, k5, rfl, ⟨m5, p1⟩, p2, p3⟩
      refine ⟨rfl, ?_, fun o e => p3 I o (Nat.ne_of_lt (Nat.lt_trans hID hDC)) (Nat.ne_of_lt hID) nI2I.symm (up _ _ e)⟩
      rw [et, List.flatMap_append]
      refine ⟨h5, tk5, rfl, fun b o e => ?_, ⟨m5, p1⟩, _, k5, p2, ?_, ?_⟩
      · have hb : @LT.lt Nat instLTNat b I := Nat.lt_of_lt_of_le (Heap.lt_size e) hsI
        exact p3 b o (Nat.ne_of_lt (Nat.lt_trans hb (Nat.lt_trans hID hDC))) (Nat.ne_of_lt (Nat.lt_trans hb hID)) (Nat.ne_of_lt (Nat.lt_trans (Nat.lt_trans hb hIh) l1)) (up _ _ (k1 b o e))
      · rw [List.length_append, List.length_take]; simp only [List.length_cons, List.length_nil]; omega
      · refine PairsAre.app (k6.map fun t items n t' => ⟨n, ?_⟩) ?_
        · obtain ⟨o, e, r⟩ := t'
          exact ⟨o, p3 t o n.2.1 n.2.2 (Nat.ne_of_lt (Nat.lt_trans (Heap.lt_size e) l1)) (up _ _ e), r⟩
        · have nn : ∀ b : Addr, @LE.le Nat instLENat h.objs.size b → b ≠ I ∧ b ≠ C ∧ b ≠ D := fun b hb => ⟨Nat.ne_of_gt (Nat.lt_of_lt_of_le hIh hb), Nat.ne_of_gt (Nat.lt_of_lt_of_le hCh hb), Nat.ne_of_gt (Nat.lt_of_lt_of_le hDh hb)⟩
          have n1 := nn h.objs.size (Nat.le_refl _)
          have n2 := nn h1.objs.size (Nat.le_of_lt m1)
          simp only [List.flatMap_cons, List.flatMap_nil, List.append_nil, halfL]
          exact .cons n1 ⟨_, p3 _ _ n1.2.1 n1.2.2 (Nat.ne_of_lt l1) e1, rfl, _, rfl⟩ (.cons n2 ⟨_, p3 _ _ n2.2.1 n2.2.2 (Nat.ne_of_lt l2) e2, rfl, _, rfl⟩ .nil))) fun r s' hr => ?_)
  obtain ⟨rfl, hr⟩ := hr
  exact hr
/-- what the turn makes of the halves -/
theorem turn_d (w : World) (s : Shared) (Q : Flow → Shared → Prop) (E : Value → Shared → Prop) (p : Program) (loose : List Str) (mg mb : Str → Option Value) (g : Heap) (fa : Addr) (cd : Value) (L : Addr) (m : Str → Option Value) (v3 v6 v7 v8 : Option Value) (PA : Addr) (ps : List (Nat × Nat)) (f l : Nat) (t1 t2 : Tok)
   (GW : LW w p loose mg mb g L) (S : LSt g L s.heap m v3 (some (.int (f : Int) t1)) (some (.int (l : Int) t2)) v6 v7 v8) (hm : m (Str.ofString "parts") = some (.ref PA)) (hP : PairsAt s.heap PA ps) (hn : ps.length ≤ 50) (hf : f ≤ 63) (hl : l ≤ 63) (hps : ∀ q ∈ ps, q.1 ≤ 63 ∧ q.2 ≤ 63)
   (hQ : ∀ h' tk HA, PairsAt h' HA (ps.flatMap (halfL f l)) → LSt g L h' (fun y => if y = Str.ofString "halves" then some (.ref HA) else m y) v3 (some (.int (f : Int) t1)) (some (.int (l : Int) t2)) v6 v7 v8 → Kept L s.heap h' → Q .next { s with heap := h', toks := tk }) :
   wpAny (model PySem.Challenge.rw_ij0087_01.row.prog w) (callerA.deeper (lawEnv L fa cd)) (exec (turnSt 5) (lawEnv L fa cd)) Q E s := by
  have F := S.F
  have GW0 := GW
  obtain ⟨X, T, B, C, g57, l57⟩ := GW
  have el := halves_step w
  unfold halvesComp turnSt lawSt lawDef getDef at *
  dsimp only [nth, forBody, valueOf, compIfs, compScope, compElt, iter1] at *
  revert X; k_fill; intro X
  refine comp_pairs (cl := [(Str.ofString "last", L + 1 + 1 + 1 + 1 + 1), (Str.ofString "first", L + 1 + 1 + 1 + 1)]) (fun ps => ps.flatMap (halfL f l)) (fun I C D => EmitN _ _ _ _ _ (.ref D) (compEnvC _ [(Str.ofString "last", L + 1 + 1 + 1 + 1 + 1), (Str.ofString "first", L + 1 + 1 + 1 + 1)] C _)) rfl rfl (by with_unfolding_all rfl) rfl rfl (by with_unfolding_all rfl) (by decide) rfl (by decide) rfl rfl (by decide) (fun I C D => turnBy_N (compTurn_20 _ _ _ _ _ _ _ _ _ _ _ _)) (fun I C D => EmitN.mono) ?_ (by intro _; with_unfolding_all rfl)
  walk
  refine to_stop ⟨PA, ps, m, rfl, hP, by omega, F.ns, fun I C D i q u1 u2 m s₁ hsI hID hDC hq cj hn' ha hb => ?_, fun D h' tk hn' hk hP' => ?_⟩
  · have hq' := hps q (List.mem_of_getElem? hq)
    refine wpAny_tests_nil ?_
    rw [if_pos rfl]
    exact el _ s₁ L fa cd ps f l t1 t2 I C D i q u1 u2 m hsI hID hDC hq (by omega) S.c4 S.c5 hf hl hq'.1 hq'.2 cj hn' ha hb
  · obtain ⟨S5, K5⟩ := S.setK GW0 hk hn'
    exact hQ _ _ D hP' S5 K5
end Mine
namespace Mine
open PySem PySem.W PyProof.Rows PySem.Calls
section
variable {prog : Program} {w : World} {A : Around} {s : Shared} {env : Env}
inductive ForHIn (prog : Program) (w : World) (A : Around) (env : Env) (target : Expr) (body : List Stmt) (Q : Flow → Shared → Prop) (it : Value) (s₂ : Shared) : Prop
  | mk (I : Addr) (fp : List Addr) (n : Nat) (P : Nat → Value → Prop) (St : Nat → Heap → Prop) (J : Nat → Shared → Prop) (h1 : it = .ref I) (h2 : Walks prog w A I fp [I] n P St) (h3 : St 0 s₂.heap) (h4 : J 0 s₂) (h5 : (∀ i (s' : Shared) v (Q' : Unit → Shared → Prop), St i s'.heap → Q' () s' → wpAny (model prog w) A (letOwnedTupleGo target (.ref I) v) Q' (fun _ _ => False) s')) (h6 : (∀ i (s₁ : Shared) h' tk, J i s₁ → St i s₁.heap → (∀ b o, b ≠ I → s₁.heap.get? b = some o → h'.get? b = some o) → J i { s₁ with heap := h', toks := tk })) (h7 : (∀ i v (s₁ : Shared), i < n → P i v → J i s₁ → St (i + 1) s₁.heap → wpAny (model prog w) A (assign target env v) (fun _ s₃ => wpAny (model prog w) A (execs body env) (fun f s₄ => f = .next ∧ J (i + 1) s₄ ∧ St (i + 1) s₄.heap) (fun _ _ => False) s₃) (fun _ _ => False) s₁)) (h8 : (∀ s', J n s' → Q .next s')) : ForHIn prog w A env target body Q it s₂
/-- a for loop, by an invariant over the whole state -/
theorem for_h {E : Value → Shared → Prop} {Q : Flow → Shared → Prop} {target iter : Expr} {pos : Pos} {body : List Stmt}
    (h : wpAny (model prog w) A (eval iter env) (fun xv s₁ => wpAny (model prog w) A (pyIter xv) (ForHIn prog w A env target body Q) E s₁) E s)
    (hs : ∀ x, foldedSetIterable iter env x = pure x) :
    wpAny (model prog w) A (exec (.For target iter body [] pos) env) Q E s := by
  refine wpAny_For (wpAny_mono h (fun xv s₁ h₁ => wpAny_mono h₁ (fun it s₂ h₂ => ?_) fun _ _ e => e) fun _ _ e => e) hs
  obtain ⟨I, fp, n, P, St, J, rfl, W, hst, hJ, go, stable, step, fin⟩ := h₂
  refine codeAny_forLoop_any (fun k s' => ∃ i, J i s' ∧ St i s'.heap ∧ i ≤ n ∧ k = n + 1 - i) ?_ (n + 1) ⟨0, hJ, hst, Nat.zero_le _, rfl⟩
  rintro k s' ⟨i, hJ', hst', hi, rfl⟩
  by_cases hlt : i < n
  · refine W.item i _ _ _ hlt hst' fun v h₁ tk₁ hP hst₁ hk₁ => ?_
    have hJ₁ := stable i s' h₁ tk₁ hJ' hst' fun b o hb e => hk₁ b o (by simpa using hb) e
    refine wpAny_mono (go (i + 1) _ v _ hst₁ ?_) (fun _ _ x => x) (fun _ _ x => x.elim)
    refine wpAny_mono (step i v _ hlt hP hJ₁ hst₁) (fun _ s₃ h₃ => wpAny_mono h₃ (fun f s₄ h₄ => ?_) (fun _ _ x => x.elim)) (fun _ _ x => x.elim)
    obtain ⟨rfl, j4, st4⟩ := h₄
    exact ⟨n + 1 - (i + 1), by omega, i + 1, j4, st4, hlt, rfl⟩
  · have hin : i = n := by omega
    subst hin
    refine W.done _ _ _ hst' fun h₁ tk₁ hk₁ => wpAny_execs_nil ?_
    exact fin _ (stable i s' h₁ tk₁ hJ' hst' fun b o hb e => hk₁ b o (by simpa using hb) e)
end
noncomputable def firstOf (n : Nat) : Nat := n % 63 + 1
noncomputable def lastOf (n : Nat) : Nat := n / 63 % 63 + 1
noncomputable def cutOf (n : Nat) : List (Nat × Bool × List Nat) := stepsOf (firstOf n) (lastOf n) (n / 3969 % 2 == 1) (n / 3969 / 2 % 2 == 1)
noncomputable def leftOf (n : Nat) (y : List (List Nat)) : List (List Nat) := y.filter fun x => !takesB (cutOf n) x
noncomputable def partsOf (n : Nat) (ps : List (Nat × Nat)) : List (Nat × Nat) := (ps.flatMap (halfL (firstOf n) (lastOf n))).filter posB
noncomputable def NamesAt (h : Heap) (a : Addr) (y : List (List Nat)) : Prop := ∃ va : List Value, h.IsList a va.toArray ∧ StrsAre va (y.map SL)
/-- the state between two turns -/
inductive TS (g : Heap) (L : Addr) (v3 v7 v8 : Option Value) (y : List (List Nat)) (ps : List (Nat × Nat)) (m : Str → Option Value) (h : Heap) : Prop
  | mk (v4 v5 v6 : Option Value) (LA PA : Addr) (h1 : LSt g L h m v3 v4 v5 v6 v7 v8) (h2 : m (Str.ofString "left") = some (.ref LA)) (h3 : m (Str.ofString "parts") = some (.ref PA)) (h4 : NamesAt h LA y) (h5 : PairsAt h PA ps) : TS g L v3 v7 v8 y ps m h
theorem LSt.names {g : Heap} {L : Addr} {h h' : Heap} {m : Str → Option Value} {v3 v4 v5 v6 v7 v8 : Option Value} (S : LSt g L h m v3 v4 v5 v6 v7 v8) (K : Kept L h h') {a : Addr} {y : List (List Nat)} (H : NamesAt h a y) : NamesAt h' a y := by
  obtain ⟨va, hl, hs⟩ := H
  exact ⟨va, S.list K hl, hs⟩
theorem LSt.pairs {g : Heap} {L : Addr} {h h' : Heap} {m : Str → Option Value} {v3 v4 v5 v6 v7 v8 : Option Value} (S : LSt g L h m v3 v4 v5 v6 v7 v8) (K : Kept L h h') {a : Addr} {ps : List (Nat × Nat)} (H : PairsAt h a ps) : PairsAt h' a ps := by
  obtain ⟨vs, hl, hp⟩ := H
  exact ⟨vs, S.list K hl, hp.map fun t items n t' => ⟨n, S.tup K t'⟩⟩
theorem turn_all (w : World) (s : Shared) (Q : Flow → Shared → Prop) (E : Value → Shared → Prop) (p : Program) (loose : List Str) (mg mb : Str → Option Value) (g : Heap) (fa : Addr) (cd : Value) (L : Addr) (m : Str → Option Value) (v3 v7 v8 : Option Value) (n : Nat) (t : Tok) (y : List (List Nat)) (ps : List (Nat × Nat))
   (GW : LW w p loose mg mb g L) (S : TS g L v3 v7 v8 y ps m s.heap) (hm : m (Str.ofString "number") = some (.int (n : Int) t)) (hn : n < 1000000)
   (hy : ∀ x ∈ y, x.length ≤ 4) (hyl : y.length ≤ 100) (hpl : ps.length ≤ 50) (hps : ∀ q ∈ ps, q.1 ≤ 63 ∧ q.2 ≤ 63)
   (hQ : ∀ h' tk gs m', (AllBare s.gens → AllBare gs) → TS g L v3 v7 v8 (leftOf n y) (partsOf n ps) m' h' → Kept L s.heap h' → Q .next { s with heap := h', toks := tk, gens := gs }) :
   wpAny (model PySem.Challenge.rw_ij0087_01.row.prog w) (callerA.deeper (lawEnv L fa cd)) (execs (forBody (lawSt 6)) (lawEnv L fa cd)) Q E s := by
  have e : forBody (lawSt 6) = turnSt 0 :: turnSt 1 :: turnSt 2 :: [turnSt 3, turnSt 4, turnSt 5, turnSt 6] := rfl
  rw [e]
  obtain ⟨v4, v5, v6, LA, PA, S0, hl, hp, ⟨va, hla, hya⟩, hpa⟩ := S
  have f1 : 1 ≤ firstOf n ∧ firstOf n ≤ 63 := by unfold firstOf; omega
  have f2 : 1 ≤ lastOf n ∧ lastOf n ≤ 63 := by unfold lastOf; omega
  refine turn_a w s _ _ p loose mg mb g fa cd L m v3 v4 v5 v6 v7 v8 n t _ GW S0 hm hn fun h1 tk1 m1 t0 t1 t2 hm1 hm1' S1 K1 => ?_
  have S1' : LSt g L h1 m1 v3 (some (.int (firstOf n : Int) t1)) (some (.int (lastOf n : Int) t2)) v6 v7 v8 := S1
  refine wpAny_execs_cons (turn_b w _ _ _ p loose mg mb g fa cd L m1 v3 v6 v7 v8 (n / 3969) (firstOf n) (lastOf n) t0 t1 t2 GW S1' hm1 (by omega) f1.1 f1.2 f2.1 f2.2 fun h2 tk2 gs2 a hb2 hS2 S2 K2 => ?_)
  have ml1 : m1 (Str.ofString "left") = some (.ref LA) := (hm1' _ (by decide)).trans hl
  have mp1 : m1 (Str.ofString "parts") = some (.ref PA) := (hm1' _ (by decide)).trans hp
  have K02 : Kept L s.heap h2 := K1.trans K2
  refine wpAny_execs_cons (turn_c w _ _ _ p loose mg mb g fa cd L m1 v3 _ _ v7 v8 a LA (cutOf n) va y GW S2 ml1 hS2 (S0.list K02 hla) hya hy hyl fun h3 tk3 gs3 LA' va' hb3 hla' hya' S3 K3 => ?_)
  refine wpAny_execs_cons (turn_d w _ _ _ p loose mg mb g fa cd L _ v3 _ v7 v8 PA ps (firstOf n) (lastOf n) t1 t2 GW S3 ((if_neg (by decide)).trans mp1) (S2.pairs K3 (S0.pairs K02 hpa)) hpl f1.2 f2.2 hps fun h4 tk4 HA hP4 S4 K4 => ?_)
  have hlen : ∀ r : List (Nat × Nat), (r.flatMap (halfL (firstOf n) (lastOf n))).length = 2 * r.length := by
    intro r
    induction r with
    | nil => rfl
    | cons a r ih => rw [List.flatMap_cons, List.length_append, ih]; simp only [halfL, List.length_cons, List.length_nil]; omega
  refine wpAny_execs_cons (turn_e w _ _ _ p loose mg mb g fa cd L _ v3 _ _ _ v7 v8 HA (ps.flatMap (halfL (firstOf n) (lastOf n))) GW S4 (if_pos rfl) hP4 (by rw [hlen]; omega) fun h5 tk5 PA' hP5 S5 K5 => ?_)
  refine wpAny_execs_nil (hQ _ _ _ _ (fun x => hb3 (hb2 x)) ⟨_, _, _, LA', PA', S5, ?_, if_pos rfl, ?_, hP5⟩ (((K02.trans K3).trans K4).trans K5))
  · exact (if_neg (by decide)).trans ((if_neg (by decide)).trans (if_pos rfl))
  · exact S4.names K5 (S3.names K4 ⟨va', hla', hya'⟩)
end Mine
namespace Mine
open PySem PySem.W PyProof.Rows PySem.Calls
theorem off_iter {h : Heap} {I b : Addr} {o : Obj} {items : Array Value} {n : Nat} (hf : ∃ o vs, h.get? I = some o ∧ o.data = .fields vs) (e : h.get? b = some o) (d : o.data = .seq items n) : b ≠ I := by
  rintro rfl
  obtain ⟨o', vs, e', d'⟩ := hf
  rw [e] at e'; cases e'; rw [d] at d'; cases d'
section
variable {w : World} {p : Program} {loose : List Str} {mg mb : Str → Option Value} {g : Heap} {L I : Addr} {h h' : Heap} {m : Str → Option Value} {v3 v4 v5 v6 v7 v8 : Option Value}
theorem LSt.iter (S : LSt g L h m v3 v4 v5 v6 v7 v8) (hI : NotBad L I) (gI : g.get? I = none) (hf : ∃ o vs, h.get? I = some o ∧ o.data = .fields vs) (hz : ∃ z o items n, h.get? z = some o ∧ o.data = .seq items n ∧ g.get? z = none)
    (hk : ∀ b o, b ≠ I → h.get? b = some o → h'.get? b = some o) : LSt g L h' m v3 v4 v5 v6 v7 v8 := by
  have cell : ∀ {a : Addr} {v : Option Value}, h.IsCell a v → I ≠ a → h'.IsCell a v := fun c n => let ⟨o, e, d⟩ := c; ⟨o, hk _ _ (Ne.symm n) e, d⟩
  obtain ⟨op, e, t⟩ := S.t
  obtain ⟨z, o, items, n, ez, dz, gz⟩ := hz
  exact ⟨⟨S.F.ns.at' fun o e => hk _ o (Ne.symm hI.n0) e, fun b o e => hk b o (fun q => by rw [q, gI] at e; cases e) (S.F.keep b o e), S.F.above⟩, cell S.c3 hI.n3, cell S.c4 hI.n4, cell S.c5 hI.n5, cell S.c6 hI.n6, cell S.c7 hI.n7, cell S.c8 hI.n8,
    ⟨op, hk _ _ (Ne.symm hI.n57) e, t⟩, ⟨z, o, S.seq ez dz, gz, hk _ _ (off_iter hf ez dz) ez⟩⟩
theorem list_iter (hf : ∃ o vs, h.get? I = some o ∧ o.data = .fields vs) (hk : ∀ b o, b ≠ I → h.get? b = some o → h'.get? b = some o) {a : Addr} {items : Array Value} (hl : h.IsList a items) : h'.IsList a items := by
  obtain ⟨o, e, c, n, d⟩ := hl
  exact ⟨o, hk _ _ (off_iter hf e d) e, c, n, d⟩
theorem tup_iter (hf : ∃ o vs, h.get? I = some o ∧ o.data = .fields vs) (hk : ∀ b o, b ≠ I → h.get? b = some o → h'.get? b = some o) {a : Addr} {items : Array Value} (hl : IsTup h a items) : IsTup h' a items := by
  obtain ⟨o, e, c, n, d⟩ := hl
  exact ⟨o, hk _ _ (off_iter hf e d) e, c, n, d⟩
theorem pairs_iter (hf : ∃ o vs, h.get? I = some o ∧ o.data = .fields vs) (hk : ∀ b o, b ≠ I → h.get? b = some o → h'.get? b = some o) {a : Addr} {ps : List (Nat × Nat)} (H : PairsAt h a ps) : PairsAt h' a ps := by
  obtain ⟨vs, hl, hp⟩ := H
  exact ⟨vs, list_iter hf hk hl, hp.map fun t items n t' => ⟨n, tup_iter hf hk t'⟩⟩
theorem names_iter (hf : ∃ o vs, h.get? I = some o ∧ o.data = .fields vs) (hk : ∀ b o, b ≠ I → h.get? b = some o → h'.get? b = some o) {a : Addr} {y : List (List Nat)} (H : NamesAt h a y) : NamesAt h' a y := by
  obtain ⟨va, hl, hs⟩ := H
  exact ⟨va, list_iter hf hk hl, hs⟩
theorem TS.iter {y : List (List Nat)} {ps : List (Nat × Nat)} (H : TS g L v3 v7 v8 y ps m h) (hI : NotBad L I) (gI : g.get? I = none) (hf : ∃ o vs, h.get? I = some o ∧ o.data = .fields vs) (hz : ∃ z o items n, h.get? z = some o ∧ o.data = .seq items n ∧ g.get? z = none)
    (hk : ∀ b o, b ≠ I → h.get? b = some o → h'.get? b = some o) : TS g L v3 v7 v8 y ps m h' := by
  obtain ⟨v4, v5, v6, LA, PA, S, hl, hp, hn, hps⟩ := H
  exact ⟨v4, v5, v6, LA, PA, S.iter hI gI hf hz hk, hl, hp, names_iter hf hk hn, pairs_iter hf hk hps⟩
theorem TS.set (G : LW w p loose mg mb g L) {y : List (List Nat)} {ps : List (Nat × Nat)} {m' : Str → Option Value} (H : TS g L v3 v7 v8 y ps m h) (hs : Heap.SameBut L h h') (hn : h'.Ns L m') (h1 : m' (Str.ofString "left") = m (Str.ofString "left")) (h2 : m' (Str.ofString "parts") = m (Str.ofString "parts")) : TS g L v3 v7 v8 y ps m' h' ∧ Kept L h h' := by
  obtain ⟨v4, v5, v6, LA, PA, S, hl, hp, hy, hps⟩ := H
  obtain ⟨S', K⟩ := S.setm G hs hn
  exact ⟨⟨v4, v5, v6, LA, PA, S', h1.trans hl, h2.trans hp, S.names K hy, S.pairs K hps⟩, K⟩
/-- an address younger than the cells -/
theorem young (G : LW w p loose mg mb g L) (hI : @LT.lt Nat instLTNat (L + 8) I) : NotBad L I := by
  have n : ∀ k : Nat, k ≤ 8 → I ≠ (L + k : Nat) := fun k hk => Nat.ne_of_gt (Nat.lt_of_le_of_lt (Nat.add_le_add_left hk L) hI)
  exact ⟨Nat.ne_of_gt (Nat.lt_trans (Nat.lt_of_lt_of_le G.l57 (Nat.le_add_right _ _)) hI), n 0 (by decide), n 3 (by decide), n 4 (by decide), n 5 (by decide), n 6 (by decide), n 7 (by decide), n 8 (by decide)⟩
end
theorem parts_len (n : Nat) (ps : List (Nat × Nat)) : (partsOf n ps).length ≤ 2 * ps.length := by
  have hlen : ∀ r : List (Nat × Nat), (r.flatMap (halfL (firstOf n) (lastOf n))).length = 2 * r.length := by
    intro r
    induction r with
    | nil => rfl
    | cons a r ih => rw [List.flatMap_cons, List.length_append, ih]; simp only [halfL, List.length_cons, List.length_nil]; omega
  rw [← hlen]
  exact List.length_filter_le _ _
theorem parts_small {n : Nat} {ps : List (Nat × Nat)} (h : ∀ q ∈ ps, q.1 ≤ 63 ∧ q.2 ≤ 63) : ∀ q ∈ partsOf n ps, q.1 ≤ 63 ∧ q.2 ≤ 63 := by
  intro q hq
  obtain ⟨hq, _⟩ := List.mem_filter.mp hq
  obtain ⟨r, hr, hq⟩ := List.mem_flatMap.mp hq
  have := h r hr
  simp only [halfL, List.mem_cons, List.not_mem_nil, or_false] at hq
  rcases hq with rfl | rfl
  · exact ⟨Nat.le_trans (Nat.sub_le _ _) this.1, this.2⟩
  · exact ⟨Nat.le_trans Nat.and_le_left this.1, Nat.le_trans (Nat.sub_le _ _) this.2⟩
noncomputable def yAt (n1 n2 : Nat) (y : List (List Nat)) : Nat → List (List Nat)
  | 0 => y
  | 1 => leftOf n1 y
  | _ => leftOf n2 (leftOf n1 y)
noncomputable def pAt (n1 n2 : Nat) : Nat → List (Nat × Nat)
  | 0 => [(63, 63)]
  | 1 => partsOf n1 [(63, 63)]
  | _ => partsOf n2 (partsOf n1 [(63, 63)])
inductive LoopJ (g : Heap) (L : Addr) (v3 v7 v8 : Option Value) (s : Shared) (ya : Nat → List (List Nat)) (pa : Nat → List (Nat × Nat)) (i : Nat) (s₁ : Shared) : Prop
  | mk (h : Heap) (tk : Nat) (gs : Array GenState) (m : Str → Option Value) (h1 : s₁ = { s with heap := h, toks := tk, gens := gs }) (h2 : AllBare s.gens → AllBare gs) (h3 : TS g L v3 v7 v8 (ya i) (pa i) m h) (h4 : Kept L s.heap h) : LoopJ g L v3 v7 v8 s ya pa i s₁
theorem loop_st (w : World) (s : Shared) (Q : Flow → Shared → Prop) (E : Value → Shared → Prop) (p : Program) (loose : List Str) (mg mb : Str → Option Value) (g : Heap) (fa : Addr) (cd : Value) (L : Addr) (m : Str → Option Value) (v3 v7 v8 : Option Value) (n1 n2 : Nat) (t1 t2 : Tok) (y : List (List Nat)) (NB : Addr)
   (GW : LW w p loose mg mb g L) (S : TS g L v3 v7 v8 y [(63, 63)] m s.heap) (hm : m (Str.ofString "numbers") = some (.ref NB)) (hN : s.heap.IsList NB #[.int (n1 : Int) t1, .int (n2 : Int) t2]) (gN : g.get? NB = none) (h1 : n1 < 1000000) (h2 : n2 < 1000000)
   (hy : ∀ x ∈ y, x.length ≤ 4) (hyl : y.length ≤ 100)
   (hQ : ∀ h' tk gs m', (AllBare s.gens → AllBare gs) → TS g L v3 v7 v8 (leftOf n2 (leftOf n1 y)) (partsOf n2 (partsOf n1 [(63, 63)])) m' h' → Kept L s.heap h' → Q .next { s with heap := h', toks := tk, gens := gs }) :
   wpAny (model PySem.Challenge.rw_ij0087_01.row.prog w) (callerA.deeper (lawEnv L fa cd)) (exec (lawSt 6) (lawEnv L fa cd)) Q E s := by
  have tn := turn_all w
  have F : Fr g L s.heap m := by obtain ⟨_, _, _, _, _, S', _⟩ := S; exact S'.F
  unfold lawSt lawDef getDef at *
  dsimp only [nth, forBody] at *
  refine for_h ?_ (by intro _; with_unfolding_all rfl)
  walk
  refine src_list rfl hN fun I h4 St ⟨hI, hNI⟩ ⟨hI0, hIs⟩ K4 Wk hSt hhas hit => ?_
  obtain ⟨_, _, _, _, _, S', _⟩ := id S
  obtain ⟨o8, e8, _⟩ := S'.c8
  have yI : @LT.lt Nat instLTNat (L + 8) I := Nat.lt_of_lt_of_le (Heap.lt_size e8) hIs
  have nbI := young GW yI
  have gI : g.get? I = none := get_none_of F.above (Nat.le_of_lt (Nat.lt_of_le_of_lt (Nat.le_add_right L 8) yI))
  obtain ⟨oN, eN, cN, kN, dN⟩ := id hN
  have bN : ¬ Bad L NB := S'.seq eN dN
  have fld : ∀ i h, St i h → ∃ o vs, h.get? I = some o ∧ o.data = .fields vs := fun i h hs => by
    obtain ⟨o, e, c, d⟩ := hit i h hs
    exact ⟨o, _, e, d⟩
  refine ⟨I, _, _, _, St, LoopJ g L v3 v7 v8 s (yAt n1 n2 y) (pAt n1 n2), rfl, Wk, hSt, ?_, fun i s' v Q' hs' h => by cases v <;> first | exact wpAny_letOwnedTupleGo_listiter (hit _ _ hs') h | exact wpAny_pure h, ?_, ?_, ?_⟩
  · obtain ⟨v4, v5, v6, LA, PA, S', hl, hp, hn, hps⟩ := id S
    exact ⟨h4, _, _, m, rfl, id, ⟨v4, v5, v6, LA, PA, S'.keeps K4, hl, hp, S'.names (.of K4) hn, S'.pairs (.of K4) hps⟩, .of K4⟩
  · rintro i s₁ h' tk ⟨h5, tk5, gs5, m5, rfl, hb5, T5, K5⟩ hst hk
    have hf := fld _ _ hst
    refine ⟨h', tk, gs5, m5, rfl, hb5, T5.iter nbI gI hf ⟨NB, oN, _, _, K5 _ _ bN eN, dN, gN⟩ hk, fun z o n e => ?_⟩
    by_cases q : z = I
    · subst q
      rw [hI0] at e; cases e
    · exact hk z o q (K5 z o n e)
  · rintro i v s₁ hi hv ⟨h5, tk5, gs5, m5, rfl, hb5, T5, K5⟩ hst
    obtain ⟨n, t, rfl, hn, hyn, hpn⟩ : ∃ n t, v = .int ((n : Nat) : Int) t ∧ n < 1000000 ∧ yAt n1 n2 y (i + 1) = leftOf n (yAt n1 n2 y i) ∧ pAt n1 n2 (i + 1) = partsOf n (pAt n1 n2 i) := by
      have hi2 : i < 2 := hi
      rcases i with _ | _ | i
      · simp at hv; exact ⟨n1, t1, hv.symm, h1, rfl, rfl⟩
      · simp at hv; exact ⟨n2, t2, hv.symm, h2, rfl, rfl⟩
      · omega
    obtain ⟨b1, b2, b3, b4⟩ : (∀ x ∈ yAt n1 n2 y i, x.length ≤ 4) ∧ (yAt n1 n2 y i).length ≤ 100 ∧ (pAt n1 n2 i).length ≤ 50 ∧ ∀ q ∈ pAt n1 n2 i, q.1 ≤ 63 ∧ q.2 ≤ 63 := by
      have hi2 : i < 2 := hi
      have s0 : ∀ q ∈ [((63 : Nat), (63 : Nat))], q.1 ≤ 63 ∧ q.2 ≤ 63 := by decide
      rcases i with _ | _ | i
      · exact ⟨hy, hyl, (by decide : (1 : Nat) ≤ 50), s0⟩
      · refine ⟨fun x hx => hy x (List.mem_filter.mp hx).1, Nat.le_trans (List.length_filter_le _ _) hyl, Nat.le_trans (parts_len _ _) (by decide), parts_small s0⟩
      · omega
    obtain ⟨_, _, _, _, _, S5, _⟩ := id T5
    refine wpAny_assign_Name (wpAny_storeName_local rfl S5.F.ns (fun h6 hn6 hs6 => ?_))
    obtain ⟨T6, K6⟩ := T5.set GW hs6 hn6 (if_neg (by decide)) (if_neg (by decide))
    refine tn _ _ _ p loose mg mb g fa cd L _ v3 v7 v8 n t _ _ GW T6 (if_pos rfl) hn b1 b2 b3 b4 fun h7 tk7 gs7 m7 hb7 T7 K7 => ?_
    rw [← hyn, ← hpn] at T7
    have K67 := K6.trans K7
    refine ⟨rfl, ⟨h7, tk7, gs7, m7, rfl, fun x => hb7 (hb5 x), T7, K5.trans K67⟩, ?_⟩
    refine Wk.frame _ _ _ hst fun b hb o e => ?_
    simp only [List.mem_cons, List.not_mem_nil, or_false] at hb
    rcases hb with rfl | rfl
    · exact K67 _ _ nbI.not e
    · exact K67 _ _ bN e
  · rintro s' ⟨h5, tk5, gs5, m5, rfl, hb5, T5, K5⟩
    exact hQ _ _ _ _ hb5 T5 K5
end Mine
section LawMS
namespace Mine
open PySem PySem.W PyProof.Rows PySem.Calls
section
variable {prog : Program} {w : World} {A : Around} {E : Value → Shared → Prop} {s : Shared} {h₀ : Heap} {L : Addr} {m : Str → Option Value}
theorem seq_list_iadd : seqSlot? (.type "list") (dunderI "add") = pure (some (.builtin "list.__iadd__")) := PyProof.Rows.seqSlot_of F.slot_list_iadd.lookup (by decide +kernel)
theorem iadd_list {a b : Addr} {items items2 : Array Value} {n n2 : Nat} {Q : Value → Shared → Prop} (ha : s.heap.get? a = some (W.listOf items n)) (hb : s.heap.get? b = some (W.listOf items2 n2)) (hsz : items.size + items2.size ≤ 1000)
    (h : ∀ h' k, Heap.SameBut a s.heap h' → h'.get? a = some (W.listOf (items ++ items2) k) → Q (.ref a) { s with heap := h' }) :
    wpAny (model prog w) A (inplaceOp .Add (.ref a) (.ref b)) Q E s := by
  have h1000 : (1000 : Nat) ≤ sizeLine := by decide +kernel
  have hTa : s.TypeIs (.ref a) "list" := ⟨_, ha, rfl⟩
  have hTb : s.TypeIs (.ref b) "list" := ⟨_, hb, rfl⟩
  unfold inplaceOp
  refine wpAny_holding ?_
  have hfi : fillsInplaceSlot (.type "list") "add" (Operator.Add == .Add) = pure false := by
    unfold fillsInplaceSlot
    show (typeLookup (.type "list") (dunderI "add") >>= fun fi => pure (fi.isSome && !isSeqSlot fi)) = pure false
    rw [F.slot_list_iadd.lookup]; rfl
  refine wpAny_bind (wpAny_typeOf hTa (wpAny_bind (wpAny_of_eq hfi ?_)))
  show wpAny _ A (if false = true then _ else _) Q E s
  rw [if_neg Bool.false_ne_true]
  refine wpAny_bind (wpAny_binaryOp1_none (nm := "add") hTa hTb noFill_list_add ?_)
  refine wpAny_bind (wpAny_of_eq seq_list_iadd ?_)
  refine wpAny_bind (wpAny_rule ?_)
  refine call_meets F.slot_list_iadd hTa F.entry_list_iadd (F.args_list_iadd_2 _ _) (AutoSeq1.list___iadd___list_list_0 a items n b items2 n2 ?_ (by omega) (by omega)) ⟨ha, hb, h _ _ (Heap.SameBut.update ..) (Heap.get?_update_self _ ha rfl)⟩
  have : ¬ (items.size + items2.size > sizeLine) := by omega
  simp [Builtin.List.listTooLong, this]
theorem iadd_N {a b : Addr} {its its2 : List Value} {n n2 : Nat} {news : List (Addr × Obj)} {g : Obj → List (Addr × Obj)} {Q : Value → Shared → Prop} (F : Fr h₀ L s.heap m) (N : News h₀ L s.heap news) (U : UpdF a (W.listOf its.toArray n) news g) (hb : (b, W.listOf its2.toArray n2) ∈ news) (hsz : its.length + its2.length ≤ 1000)
    (h : ∀ h' k, Fr h₀ L h' m → News h₀ L h' (g (W.listOf (its ++ its2).toArray k)) → Q (.ref a) { s with heap := h' }) : wpAny (model prog w) A (inplaceOp .Add (.ref a) (.ref b)) Q E s := by
  obtain ⟨pre, post, e1, e2, o1, o2⟩ := U.split
  have hm : (a, W.listOf its.toArray n) ∈ news := by rw [e1]; simp
  have hN := N _ hm
  refine iadd_list hN.1 (N _ hb).1 (by simpa using hsz) fun h' k hs hD => ?_
  refine h h' k ⟨F.ns.sameBut hs (Ne.symm hN.2.1), fun b o e => hs.extBut b o (fun q => by rw [q, hN.2.2] at e; cases e) (F.keep b o e), F.above⟩ fun p hp => ?_
  rw [e2] at hp
  rcases List.mem_append.mp hp with hp | hp
  · have z := N p (by rw [e1]; exact List.mem_append_left _ hp)
    exact ⟨hs.extBut _ _ (o1 p hp) z.1, z.2⟩
  · rcases List.mem_cons.mp hp with rfl | hp
    · refine ⟨hD.trans ?_, hN.2⟩
      simp [W.listOf]
    · have z := N p (by rw [e1]; exact List.mem_append_right _ (.tail _ hp))
      exact ⟨hs.extBut _ _ (o2 p hp) z.1, z.2⟩
end
end Mine
local macro_rules | `(tactic| walk_at $s:str) => Mine.stopAt ["inplaceOp Add ref ref"] s
namespace Mine
open PySem PySem.W PyProof.Rows PySem.Calls
theorem left_st (w : World) (s : Shared) (Q : Flow → Shared → Prop) (E : Value → Shared → Prop) (p : Program) (loose : List Str) (mg mb : Str → Option Value) (g : Heap) (fa : Addr) (cd : Value) (L : Addr) (m : Str → Option Value) (ob : Obj) (NB D : Addr) (k : Nat) (x0 x1 x2 x3 x4 x5 : List Nat) (u0 u1 u2 u3 u4 u5 : Tok) (rest : List Stmt)
   (v4 v5 v6 v7 v8 : Option Value) (o1 o2 o3 o4 o5 o6 o7 o8 op : Obj) (GW : LW w p loose mg mb g L) (F : Fr g L s.heap m)
   (N : News g L s.heap [(D, W.listOf [.str (SL x0) u0, .str (SL x1) u1, .str (SL x2) u2, .str (SL x3) u3, .str (SL x4) u4, .str (SL x5) u5].toArray k), (NB, ob), (L + 1 + 1 + 1 + 1 + 1 + 1 + 1 + 1, o8), (L + 1 + 1 + 1 + 1 + 1 + 1 + 1, o7), (L + 1 + 1 + 1 + 1 + 1 + 1, o6), (L + 1 + 1 + 1 + 1 + 1, o5), (L + 1 + 1 + 1 + 1, o4), (L + 1 + 1 + 1, o3), (L + 1 + 1, o2), (L + 1, o1), (57, op)])
   (d3 : o3.data = .cell (some (.ref D))) (d4 : o4.data = .cell v4) (d5 : o5.data = .cell v5) (d6 : o6.data = .cell v6) (d7 : o7.data = .cell v7) (d8 : o8.data = .cell v8) (tt : Tab op) (hNB : @LT.lt Nat instLTNat (L + 8) NB) (hD : @LT.lt Nat instLTNat NB D)
   (hQ : ∀ h' tk m', TS g L (some (.ref D)) v7 v8 [x0, x1, x2, x3, x4, x5, x0] [(63, 63)] m' h' → NamesAt h' D [x0, x1, x2, x3, x4, x5, x0] → h'.get? NB = some ob → m' (Str.ofString "numbers") = m (Str.ofString "numbers") → wpAny (model PySem.Challenge.rw_ij0087_01.row.prog w) (callerA.deeper (lawEnv L fa cd)) (execs rest (lawEnv L fa cd)) Q E { s with heap := h', toks := tk }) :
   wpAny (model PySem.Challenge.rw_ij0087_01.row.prog w) (callerA.deeper (lawEnv L fa cd)) (execs (lawSt 4 :: lawSt 5 :: rest) (lawEnv L fa cd)) Q E s := by
  have GW0 := GW
  have gD : g.get? D = none := (N (D, _) (.head _)).2.2
  obtain ⟨X, T, B, C, g57, l57⟩ := GW
  unfold lawSt lawDef getDef at *
  dsimp only [nth, forBody] at *
  revert X; k_fill; intro X
  walk
  rename_i D2 h2 F2 N2 l2
  refine to_stop (iadd_N F2 N2 (by walk_at "MY updf") (.head _) (Nat.le_of_ble_eq_true rfl) fun h3 k3 F3 N3 => ?_)
  dsimp only [List.cons_append, List.nil_append] at N3
  clear F2 N2
  walk
  (with_reducible rename Fr _ _ _ _ => F4); (with_reducible rename News _ _ _ _ => N4)
  have yD : NotBad L D := young GW0 (Nat.lt_trans hNB hD)
  obtain ⟨S4, e4⟩ := LSt.of F4 N4 (by walk_at "MY sub") yD gD (by assumption) d4 d5 d6 d7 d8 tt
  have eP := (N4 _ (.tail _ (.head _))).1
  have eT := (N4 _ (.tail _ (.tail _ (.head _)))).1
  have nm : NamesAt _ D [x0, x1, x2, x3, x4, x5, x0] := ⟨_, ⟨_, e4, rfl, _, rfl⟩, .cons _ _ (.cons _ _ (.cons _ _ (.cons _ _ (.cons _ _ (.cons _ _ (.cons _ _ .nil))))))⟩
  refine hQ _ _ _ ⟨v4, v5, v6, D, _, S4, if_pos rfl, (if_neg (by decide)).trans (if_pos rfl), nm, ⟨_, ⟨_, eP, rfl, _, rfl⟩, .cons trivial ⟨_, eT, rfl, _, rfl⟩ .nil⟩⟩ nm (N4 (NB, ob) (by k_mem)).1 ((if_neg (by decide)).trans (if_neg (by decide)))
end Mine
end LawMS
section LawKS
namespace Mine
open PySem PySem.W PyProof.Rows PySem.Calls
theorem kept_st (w : World) (s : Shared) (Q : Flow → Shared → Prop) (E : Value → Shared → Prop) (p : Program) (loose : List Str) (mg mb : Str → Option Value) (g : Heap) (fa : Addr) (cd : Value) (L : Addr) (m : Str → Option Value) (v3 v4 v5 v6 v7 v8 : Option Value)
   (GW : LW w p loose mg mb g L) (S : LSt g L s.heap m v3 v4 v5 v6 v7 v8)
   (hQ : ∀ h' tk K, s.heap.get? K = none → h'.get? K = some (W.listOf #[] 0) → LSt g L h' m v3 v4 v5 v6 (some (.ref K)) v8 → Kept L s.heap h' → Q .next { s with heap := h', toks := tk }) :
   wpAny (model PySem.Challenge.rw_ij0087_01.row.prog w) (callerA.deeper (lawEnv L fa cd)) (exec (lawSt 7) (lawEnv L fa cd)) Q E s := by
  unfold lawSt lawDef getDef at *
  dsimp only [nth, forBody] at *
  refine wpAny_Assign_Name ?_ (by with_unfolding_all rfl)
  walk
  refine wpAny_newObj_type ?_
  have K1 : ∀ b o, s.heap.get? b = some o → (s.heap.push { cls := .type "list", dict := none, data := .seq ([] : List Value).toArray }).get? b = some o := fun b o e => Heap.get?_push_of_some _ e
  have g1 : (s.heap.push { cls := .type "list", dict := none, data := .seq ([] : List Value).toArray }).get? s.heap.objs.size = some _ := Heap.get?_push_size _ rfl
  have gn : s.heap.get? s.heap.objs.size = none := Heap.get?_none_of_le (Nat.le_refl _)
  generalize s.heap.push { cls := .type "list", dict := none, data := .seq ([] : List Value).toArray } = h1 at K1 g1 ⊢
  have S1 := S.keeps K1
  refine wpAny_storeName_cell rfl rfl rfl S1.c7 fun h9 hc9 hs9 => ?_
  obtain ⟨S9, K9⟩ := S1.set7 GW hs9 hc9
  exact hQ _ _ _ gn (K9 _ _ (S1.seq g1 rfl) g1) S9 ((Kept.of K1).trans K9)
end Mine
local macro_rules | `(tactic| walk_at $s:str) => Mine.stopCall [130, 43, 120] s
local macro_rules | `(tactic| walk_at $s:str) => Mine.stopAt ["subscriptTail Name Name ref int", "call builtin:list.append"] s
local macro_rules | `(tactic| walk_at $s:str) => Mine.refineAt [("subscriptTail Name Name", `Mine.stop_subref)] s
namespace Mine
open PySem PySem.W PyProof.Rows PySem.Calls
theorem kept_a (w : World) (s : Shared) (Q : Flow → Shared → Prop) (E : Value → Shared → Prop) (p : Program) (loose : List Str) (mg mb : Str → Option Value) (g : Heap) (fa : Addr) (cd : Value) (L : Addr) (m : Str → Option Value) (v3 v4 v5 v6 v7 v8 : Option Value) (PA : Addr) (ps : List (Nat × Nat)) (i : Nat) (t : Tok) (q : Nat × Nat)
   (GW : LW w p loose mg mb g L) (S : LSt g L s.heap m v3 v4 v5 v6 v7 v8) (hp : m (Str.ofString "parts") = some (.ref PA)) (hk : m (Str.ofString "k") = some (.int (i : Int) t)) (hP : PairsAt s.heap PA ps) (hi : ps[i]? = some q) (hps : ps.length ≤ 100)
   (hQ : ∀ h' tk u1 u2, LSt g L h' (fun z => if z = Str.ofString "b" then some (.int (q.2 : Int) u2) else if z = Str.ofString "a" then some (.int (q.1 : Int) u1) else m z) v3 v4 v5 v6 v7 v8 → Kept L s.heap h' → Q .next { s with heap := h', toks := tk }) :
   wpAny (model PySem.Challenge.rw_ij0087_01.row.prog w) (callerA.deeper (lawEnv L fa cd)) (exec (keptSt 0) (lawEnv L fa cd)) Q E s := by
  have F := S.F
  have N : News g L s.heap [] := News.nil
  unfold keptSt lawSt lawDef getDef at *
  dsimp only [nth, forBody] at *
  walk
  obtain ⟨vs, hl, hv⟩ := hP
  have hlt : i < ps.length := by
    rcases Nat.lt_or_ge i ps.length with q | q
    · exact q
    · rw [List.getElem?_eq_none q] at hi; cases hi
  obtain ⟨v, hvi⟩ : ∃ v, vs[i]? = some v := ⟨_, List.getElem?_eq_getElem (by rw [hv.len]; exact hlt)⟩
  obtain ⟨t', u1, u2, x, rfl, hx, _, ht⟩ := hv.at hvi
  rw [hi] at hx; cases hx
  refine to_stop (tail_any hl.typeIs slot_list_getitem.lookup (wpAny_getItem_list hl (Int.natCast_nonneg _) (by omega) (by simpa using hvi) ?_) (by with_unfolding_all rfl))
  refine kcp_assign rfl (show s.heap.IsTuple t' _ from ht) rfl rfl rfl S.F.ns fun h2 tk2 hn2 hk2 => ?_
  obtain ⟨S2, K2⟩ := S.setK GW hk2 hn2
  exact hQ _ _ _ _ S2 K2
/-- the list kept -/
inductive KeptAre (h : Heap) : List Value → List (List (Nat × Bool × List Nat)) → Prop
  | nil : KeptAre h [] []
  | cons {a vs xs kss} : StepsAt h a xs → xs ≠ [] → KeptAre h vs kss → KeptAre h (.ref a :: vs) (xs :: kss)
noncomputable def KeptAt (h : Heap) (K : Addr) (kss : List (List (Nat × Bool × List Nat))) : Prop := ∃ vs k, h.get? K = some (W.listOf vs.toArray k) ∧ KeptAre h vs kss
theorem KeptAre.len {h : Heap} : ∀ {vs : List Value} {kss : List (List (Nat × Bool × List Nat))}, KeptAre h vs kss → vs.length = kss.length
  | _, _, .nil => rfl
  | _, _, .cons _ _ r => congrArg (· + 1) r.len
theorem KeptAre.snoc {h : Heap} {a : Addr} {xs : List (Nat × Bool × List Nat)} : ∀ {vs : List Value} {kss : List (List (Nat × Bool × List Nat))}, KeptAre h vs kss → StepsAt h a xs → xs ≠ [] → KeptAre h (vs ++ [.ref a]) (kss ++ [xs])
  | _, _, .nil, H, n => .cons H n .nil
  | _, _, .cons a b r, H, n => .cons a b (r.snoc H n)
theorem KeptAre.map {h h' : Heap} : ∀ {vs : List Value} {kss : List (List (Nat × Bool × List Nat))}, KeptAre h vs kss → (∀ a xs, xs ≠ [] → StepsAt h a xs → StepsAt h' a xs) → KeptAre h' vs kss
  | _, _, .nil, _ => .nil
  | _, _, .cons H n r, f => .cons (f _ _ n H) n (r.map f)
theorem KeptAre.at {h : Heap} : ∀ {vs : List Value} {kss : List (List (Nat × Bool × List Nat))}, KeptAre h vs kss → ∀ {i : Nat} {v : Value}, vs[i]? = some v → ∃ a xs, v = .ref a ∧ kss[i]? = some xs ∧ StepsAt h a xs
  | _, _, .nil, _, _, e => by simp at e
  | _, _, .cons (a := a) (xs := xs) H _ r, 0, v, e => by simp at e; exact ⟨a, xs, e.symm, rfl, H⟩
  | _, _, .cons _ _ r, i + 1, v, e => by simpa using r.at (i := i) (by simpa using e)
/-- the list kept is none of the lists of steps -/
theorem kept_ne {h : Heap} {K a : Addr} {kss : List (List (Nat × Bool × List Nat))} {xs : List (Nat × Bool × List Nat)} (H : KeptAt h K kss) (S : StepsAt h a xs) (n : xs ≠ []) : a ≠ K := by
  rintro rfl
  obtain ⟨vs, k, e, hv⟩ := H
  obtain ⟨ws, ⟨o, e', c, k', d⟩, hl, hx⟩ := S
  rw [e] at e'; cases e'
  have ew : vs = ws := by
    have : vs.toArray = ws.toArray := by cases d; rfl
    simpa using this
  subst ew
  cases xs with
  | nil => exact n rfl
  | cons x xs =>
    obtain ⟨t, u1, u2, e0, ot, et, ct, _⟩ := hx 0 x rfl
    cases hv with
    | nil => simp at e0
    | cons H' n' r =>
      simp at e0
      subst e0
      obtain ⟨_, ⟨o', e1, c1, _⟩, _⟩ := H'
      rw [et] at e1; cases e1; rw [ct] at c1; simp at c1
theorem steps_but {h h' : Heap} {K a : Addr} {vs : List Value} {k : Nat} {xs : List (Nat × Bool × List Nat)} (e : h.get? K = some (W.listOf vs.toArray k)) (S : StepsAt h a xs) (n : a ≠ K) (hk : ∀ b o, b ≠ K → h.get? b = some o → h'.get? b = some o) : StepsAt h' a xs := by
  obtain ⟨ws, ⟨o, e', c, k', d⟩, hl, hx⟩ := S
  refine ⟨ws, ⟨o, hk _ _ n e', c, k', d⟩, hl, fun i x hi => ?_⟩
  obtain ⟨t, u1, u2, e0, ot, et, ct, dt⟩ := hx i x hi
  refine ⟨t, u1, u2, e0, ot, hk _ _ (fun q => ?_) et, ct, dt⟩
  rw [q, e] at et; cases et; simp at ct
noncomputable def kstep (i : Nat) (q : Nat × Nat) : List (Nat × Bool × List Nat) := stepsOf q.1 q.2 (i % 2 == 0) (i % 2 == 1)
theorem LSt.butK {g : Heap} {L K : Addr} {h h' : Heap} {m : Str → Option Value} {v3 v4 v5 v6 v7 v8 : Option Value} (S : LSt g L h m v3 v4 v5 v6 v7 v8) (hK : NotBad L K) (gK : g.get? K = none) {oK : Obj} (eK : h'.get? K = some oK)
    (hk : ∀ b o, b ≠ K → h.get? b = some o → h'.get? b = some o) : LSt g L h' m v3 v4 v5 v6 v7 v8 := by
  have cell : ∀ {a : Addr} {v : Option Value}, h.IsCell a v → K ≠ a → h'.IsCell a v := fun c n => let ⟨o, e, d⟩ := c; ⟨o, hk _ _ (Ne.symm n) e, d⟩
  obtain ⟨op, e, t⟩ := S.t
  exact ⟨⟨S.F.ns.at' fun o e => hk _ o (Ne.symm hK.n0) e, fun b o e => hk b o (fun q => by rw [q, gK] at e; cases e) (S.F.keep b o e), S.F.above⟩, cell S.c3 hK.n3, cell S.c4 hK.n4, cell S.c5 hK.n5, cell S.c6 hK.n6, cell S.c7 hK.n7, cell S.c8 hK.n8,
    ⟨op, hk _ _ (Ne.symm hK.n57) e, t⟩, ⟨K, oK, hK.not, gK, eK⟩⟩
theorem kept_b (w : World) (s : Shared) (Q : Flow → Shared → Prop) (E : Value → Shared → Prop) (p : Program) (loose : List Str) (mg mb : Str → Option Value) (g : Heap) (fa : Addr) (cd : Value) (L : Addr) (m : Str → Option Value) (v3 v4 v5 v6 v8 : Option Value) (K : Addr) (i : Nat) (t u1 u2 : Tok) (q : Nat × Nat) (kss : List (List (Nat × Bool × List Nat)))
   (GW : LW w p loose mg mb g L) (S : LSt g L s.heap m v3 v4 v5 v6 (some (.ref K)) v8) (hk : m (Str.ofString "k") = some (.int (i : Int) t)) (ha : m (Str.ofString "a") = some (.int (q.1 : Int) u1)) (hb : m (Str.ofString "b") = some (.int (q.2 : Int) u2))
   (hq1 : 1 ≤ q.1) (hq2 : q.1 ≤ 63) (hq3 : 1 ≤ q.2) (hq4 : q.2 ≤ 63) (hi : i ≤ 100) (gK : g.get? K = none) (hK : KeptAt s.heap K kss) (hkl : kss.length ≤ 100)
   (hQ : ∀ h' tk gs, (AllBare s.gens → AllBare gs) → LSt g L h' m v3 v4 v5 v6 (some (.ref K)) v8 → KeptAt h' K (kss ++ [kstep i q]) → (∀ z o, ¬ Bad L z → z ≠ K → s.heap.get? z = some o → h'.get? z = some o) → Q .next { s with heap := h', toks := tk, gens := gs }) :
   wpAny (model PySem.Challenge.rw_ij0087_01.row.prog w) (callerA.deeper (lawEnv L fa cd)) (exec (keptSt 1) (lawEnv L fa cd)) Q E s := by
  obtain ⟨vs, kk, eK, hv⟩ := id hK
  have bK : ¬ Bad L K := S.seq eK rfl
  have hz := notBad bK
  obtain ⟨o3, o4, o5, o6, o7, o8, op, d3, d4, d5, d6, d7, d8, tt, N⟩ := S.news GW hz gK eK
  have F := S.F
  have hz0 := hz
  obtain ⟨n57, n0, n3, n4, n5, n6, n7, n8⟩ := hz
  have GW0 := GW
  obtain ⟨X, T, B, C, g57, l57⟩ := GW
  unfold keptSt lawSt lawDef getDef at *
  dsimp only [nth, forBody] at *
  revert X; k_fill; intro X
  have hb1 : ((i : Int).fmod 2 == 0) = (i % 2 == 0) := by rw [show (i : Int).fmod 2 = ((i % 2 : Nat) : Int) from fmod_nat i 2]; exact nat_beq _ 0
  have hb2 : ((i : Int).fmod 2 == 1) = (i % 2 == 1) := by rw [show (i : Int).fmod 2 = ((i % 2 : Nat) : Int) from fmod_nat i 2]; exact nat_beq _ 1
  generalize hc1 : (i % 2 == 0) = c1 at *
  generalize hc2 : (i % 2 == 1) = c2 at *
  have hz1 : (itemL q.1 c1).length ≤ 9 := by rw [itOf_txt]; exact itxt_len (itOf_ok hq1 hq2 c1)
  have hz2 : (itemL q.2 c2).length ≤ 9 := by rw [itOf_txt]; exact itxt_len (itOf_ok hq3 hq4 c2)
  walk
  rw [hb1]
  refine to_stop (item_c w _ _ _ _ _ _ _ p loose mg mb q.1 u1 c1 (by decide) (by decide) rfl (X.keeps F.keep) (T.keeps F.keep) hq1 hq2 fun h2 t3 k3 hk2 => ?_)
  have S2 := S.keeps hk2
  have ez2 := hk2 _ _ eK
  have K2 : Kept L s.heap h2 := .of hk2
  clear F N d3 d4 d5 d6 d7 d8 tt
  obtain ⟨o3, o4, o5, o6, o7, o8, op, d3, d4, d5, d6, d7, d8, tt, N⟩ := S2.news GW0 hz0 gK ez2
  have F := S2.F
  walk
  rw [hb2]
  refine to_stop (item_c w _ _ _ _ _ _ _ p loose mg mb q.2 u2 c2 (by decide) (by decide) rfl (X.keeps F.keep) (T.keeps F.keep) hq3 hq4 fun h4 t5 k5 hk4 => ?_)
  have S4 := S2.keeps hk4
  have ez4 := hk4 _ _ ez2
  have K4 := K2.trans (.of hk4)
  clear F N d3 d4 d5 d6 d7 d8 tt
  obtain ⟨o3, o4, o5, o6, o7, o8, op, d3, d4, d5, d6, d7, d8, tt, N⟩ := S4.news GW0 hz0 gK ez4
  have F := S4.F
  walk
  rw [pat_txt]
  refine to_stop (translate_c w _ _ _ _ _ _ _ p loose mg mb g (itOf q.1 c1) (itOf q.2 c2) _ op (by decide) (by decide) rfl (itOf_ok hq1 hq2 c1) (itOf_ok hq3 hq4 c2) F.keep X T B C g57 (N (57, op) (by k_mem)).1 tt fun h6 t7 op' k7 gs' hb' hk6 e57 t57 => ?_)
  have S6 := S4.keeps57 GW0 hk6 e57 t57
  have ez6 := hk6 _ _ n57 ez4
  have K6 : Kept L s.heap h6 := K4.trans fun z o n e => hk6 z o (notBad n).n57 e
  clear F N d3 d4 d5 d6 d7 d8 tt
  obtain ⟨o3, o4, o5, o6, o7, o8, op, d3, d4, d5, d6, d7, d8, tt, N⟩ := S6.news GW0 hz0 gK ez6
  have F := S6.F
  walk
  refine to_stop (read_c w _ _ _ _ _ _ _ p loose mg mb [(itOf q.1 c1).ck, .dot true, (itOf q.2 c2).ck] t7 (by decide) (by decide) rfl (X.keeps F.keep) (T.keeps F.keep) ?_ ?_ (Nat.le_of_ble_eq_true rfl) fun h8 a k8 hk8 hS => ?_)
  · intro c hc
    simp only [List.mem_cons, List.not_mem_nil, or_false] at hc
    rcases hc with rfl | rfl | rfl
    · exact ck_ok (itOf_ok hq1 hq2 c1)
    · trivial
    · exact ck_ok (itOf_ok hq3 hq4 c2)
  · have e1 := ck_len (itOf_ok hq1 hq2 c1)
    have e2 := ck_len (itOf_ok hq3 hq4 c2)
    simp [ctxt, Ck.txt] at e1 e2 ⊢
    omega
  have S8 := S6.keeps hk8
  have ek : kstep i q = stepsOf q.1 q.2 c1 c2 := by rw [kstep, hc1, hc2]
  have e8 := hk8 _ _ ez6
  have K8 := K6.trans (.of hk8)
  have hv8 : KeptAre h8 vs kss := hv.map fun a xs _ H => S.steps K8 H
  have hne : stepsOf q.1 q.2 c1 c2 ≠ [] := by simp [stepsOf]
  have hKa : KeptAt h8 K kss := ⟨vs, kk, e8, hv8⟩
  have na : a ≠ K := kept_ne hKa hS hne
  have hvl := hv.len
  clear F N d3 d4 d5 d6 d7 d8 tt
  obtain ⟨o3, o4, o5, o6, o7, o8, op, d3, d4, d5, d6, d7, d8, tt, N⟩ := S8.news GW0 hz0 gK e8
  have F := S8.F
  walk
  refine to_stop (append_at (hsz := by have : (1000 : Nat) ≤ sizeLine := by decide +kernel
                                       rw [List.size_toArray]; omega) e8 fun h9 hs9 hg9 => ?_)
  have up : ∀ b o, b ≠ K → h8.get? b = some o → h9.get? b = some o := fun b o n e => hs9.extBut b o n e
  refine hQ _ _ _ hb' (S8.butK hz0 gK hg9 up) ⟨vs ++ [.ref a], kk + 1, hg9.trans ?_, ?_⟩ fun z o n nk e => up z o nk (K8 z o n e)
  · rw [List.push_toArray]
  · rw [ek]
    exact (hv8.map fun b xs n H => steps_but e8 H (kept_ne hKa H n) up).snoc (steps_but e8 hS na up) hne
end Mine
end LawKS
namespace Mine
open PySem PySem.W PyProof.Rows PySem.Calls
/-- a range's iterator, with what its object holds -/
theorem src_rangeF {prog : Program} {w : World} {A : Around} {E : Value → Shared → Prop} {s : Shared} {r : Addr} {n : Int} {t u v : Tok} {Q : Value → Shared → Prop} (hh : A.handled = none) (hr : IsRange s.heap r 0 n 1 t u v) (hn : 0 ≤ n) (hn' : n < 2 ^ 62)
    (h : ∀ I h' St, I < h'.objs.size → s.heap.get? I = none ∧ s.heap.objs.size ≤ I → (∀ b o, s.heap.get? b = some o → h'.get? b = some o) →
      Walks prog w A I [I] [I] n.toNat (fun i v => i < n.toNat ∧ ∃ t, v = .int (i : Int) t) St → St 0 h' → (∀ i h, St i h → ∃ o vs, h.get? I = some o ∧ o.data = .fields vs) → Q (.ref I) { s with heap := h' }) : wpAny (model prog w) A (pyIter (.ref r)) Q E s := by
  refine wpAny_pyIter_range hr (small_one (by omega) (by omega) (by omega) hn') (h _ _ _ ?_ ?_ ?_ (walks_cast (Walks.bound (Walks.range hh _ 0 1 n.toNat)) fun i v hv => ⟨hv.1, let ⟨t, e⟩ := hv.2; ⟨t, by rw [e]; congr 1; omega⟩⟩) ?_ (fun _ _ x => ⟨_, _, x, rfl⟩))
  · rw [Heap.size_push]; exact Nat.lt_succ_self _
  · exact ⟨Heap.get?_none_of_le (Nat.le_refl _), Nat.le_refl _⟩
  · exact fun b o e => Heap.get?_push_of_some _ e
  · refine (Heap.get?_push_size _ rfl).trans ?_
    rw [rangeSize_one]
    have e : ((n.toNat : Int) - ((0 : Nat) : Int)) = n := by omega
    have e2 : (if (0 : Int) < n then n - 0 else 0) = n := by split <;> omega
    rw [e, e2]
    rfl
/-- what the list kept holds behind i parts -/
noncomputable def keptL (ps : List (Nat × Nat)) (i : Nat) : List (List (Nat × Bool × List Nat)) := (ps.take i).zipIdx.map fun x => kstep x.2 x.1
theorem keptL_succ {ps : List (Nat × Nat)} {i : Nat} {q : Nat × Nat} (h : ps[i]? = some q) : keptL ps (i + 1) = keptL ps i ++ [kstep i q] := by
  unfold keptL
  have hi : i < ps.length := (List.getElem?_eq_some_iff.mp h).1
  rw [List.take_add_one, h, Option.toList_some, List.zipIdx_append, List.map_append, List.length_take]
  simp [Nat.min_eq_left (Nat.le_of_lt hi)]
theorem keptL_len (ps : List (Nat × Nat)) (i : Nat) : (keptL ps i).length ≤ ps.length := by
  unfold keptL
  rw [List.length_map, List.length_zipIdx, List.length_take]
  omega
inductive LoopK (g : Heap) (L : Addr) (v3 v4 v5 v6 v8 : Option Value) (s : Shared) (h0 : Heap) (LA PA K : Addr) (ps : List (Nat × Nat)) (i : Nat) (s₁ : Shared) : Prop
  | mk (h : Heap) (tk : Nat) (gs : Array GenState) (m : Str → Option Value) (h1 : s₁ = { s with heap := h, toks := tk, gens := gs }) (h2 : AllBare s.gens → AllBare gs) (h3 : LSt g L h m v3 v4 v5 v6 (some (.ref K)) v8) (h4 : m (Str.ofString "left") = some (.ref LA)) (h5 : m (Str.ofString "parts") = some (.ref PA))
      (h6 : KeptAt h K (keptL ps i)) (h7 : Kept L h0 h) : LoopK g L v3 v4 v5 v6 v8 s h0 LA PA K ps i s₁
theorem keptloop_st (w : World) (s0 s : Shared) (Q : Flow → Shared → Prop) (E : Value → Shared → Prop) (p : Program) (loose : List Str) (mg mb : Str → Option Value) (g : Heap) (fa : Addr) (cd : Value) (L : Addr) (m : Str → Option Value) (v3 v4 v5 v6 v8 : Option Value) (K LA PA : Addr) (ps : List (Nat × Nat))
   (GW : LW w p loose mg mb g L) (S : LSt g L s.heap m v3 v4 v5 v6 (some (.ref K)) v8) (hl : m (Str.ofString "left") = some (.ref LA)) (hp : m (Str.ofString "parts") = some (.ref PA))
   (K0 : ∀ z o, ¬ Bad L z → s0.heap.get? z = some o → s.heap.get? z = some o) (hP : PairsAt s0.heap PA ps) (hP1 : PairsAt s.heap PA ps) (hK0 : s0.heap.get? K = none) (gK : g.get? K = none) (hK : s.heap.get? K = some (W.listOf #[] 0)) (hps : ∀ q ∈ ps, 1 ≤ q.1 ∧ q.1 ≤ 63 ∧ 1 ≤ q.2 ∧ q.2 ≤ 63) (hpl : ps.length ≤ 50) (S0 : ∃ m v3 v4 v5 v6 v7 v8, LSt g L s0.heap m v3 v4 v5 v6 v7 v8)
   (hQ : ∀ h' tk gs m', (AllBare s.gens → AllBare gs) → LSt g L h' m' v3 v4 v5 v6 (some (.ref K)) v8 → m' (Str.ofString "left") = some (.ref LA) → KeptAt h' K (keptL ps ps.length) → Kept L s0.heap h' → Q .next { s with heap := h', toks := tk, gens := gs }) :
   wpAny (model PySem.Challenge.rw_ij0087_01.row.prog w) (callerA.deeper (lawEnv L fa cd)) (exec (lawSt 8) (lawEnv L fa cd)) Q E s := by
  have F : Fr g L s.heap m := S.F
  have ka := kept_a w
  have kb := kept_b w
  unfold keptSt lawSt lawDef getDef at *
  dsimp only [nth, forBody] at *
  have GW0 := GW
  obtain ⟨X, T, B, C, g57, l57⟩ := GW
  revert X; k_fill; intro X
  have N : News g L s.heap [] := News.nil
  refine for_h ?_ (by intro _; with_unfolding_all rfl)
  obtain ⟨pv, hlP, hvP⟩ := id hP1
  have hvl := hvP.len
  walk
  refine len_list hlP (by rw [List.size_toArray, hvl]; omega) ?_
  rw [show pv.toArray.size = ps.length by rw [List.size_toArray, hvl]]
  walk
  rename_i h8 tk8 t8 u8 w8 hR F8 N8 K8
  dsimp only at K8
  obtain ⟨oc8, ec8, _⟩ := S.c8
  refine src_rangeF rfl hR (Int.natCast_nonneg _) (by omega) fun I h4 St hI ⟨hI0, hIs⟩ K4 Wk hSt fld => ?_
  have up : ∀ b o, s.heap.get? b = some o → h4.get? b = some o := fun b o e => K4 _ _ (K8 _ _ e)
  have yI : @LT.lt Nat instLTNat (L + 8) I := Nat.lt_of_lt_of_le (Heap.lt_size (K8 _ _ ec8)) hIs
  have nbI := young GW0 yI
  have gI : g.get? I = none := get_none_of S.F.above (Nat.le_of_lt (Nat.lt_of_le_of_lt (Nat.le_add_right L 8) yI))
  have nKI : K ≠ I := Nat.ne_of_lt (Nat.lt_of_lt_of_le (Heap.lt_size (K8 _ _ hK)) hIs)
  have s0I : ∀ z o, ¬ Bad L z → s0.heap.get? z = some o → z ≠ I := fun z o n e => Nat.ne_of_lt (Nat.lt_of_lt_of_le (Heap.lt_size (K8 _ _ (K0 z o n e))) hIs)
  have s0K : ∀ z o, s0.heap.get? z = some o → z ≠ K := fun z o e q => by rw [q, hK0] at e; cases e
  obtain ⟨m0, w3, w4, w5, w6, w7, w8', S00⟩ := S0
  refine ⟨I, _, _, _, St, LoopK g L v3 v4 v5 v6 v8 s s0.heap LA PA K ps, rfl, Wk, hSt, ?_, fun i s' v Q' hs' h => wpAny_pure h, ?_, ?_, ?_⟩
  · exact ⟨h4, _, _, m, rfl, id, S.keeps up, hl, hp, ⟨[], 0, up _ _ hK, .nil⟩, fun z o n e => up _ _ (K0 z o n e)⟩
  · rintro i s₁ h' tk ⟨h5, tk5, gs5, m5, rfl, hb5, S5, hl5, hp5, ⟨vs, kk, eK, hv⟩, K5⟩ hst hk
    have hf := fld _ _ hst
    refine ⟨h', tk, gs5, m5, rfl, hb5, S5.iter nbI gI hf ⟨K, _, _, _, eK, rfl, gK⟩ hk, hl5, hp5, ⟨vs, kk, hk _ _ nKI eK, hv.map fun a xs _ H => ?_⟩, fun z o n e => hk z o (s0I z o n e) (K5 z o n e)⟩
    obtain ⟨ws, hl', h1', h2'⟩ := H
    exact ⟨ws, list_iter hf hk hl', h1', fun i x hx => let ⟨t, u1, u2, e, ht⟩ := h2' i x hx; ⟨t, u1, u2, e, tup_iter hf hk ht⟩⟩
  · rintro i v s₁ hi ⟨hi', t, rfl⟩ ⟨h5, tk5, gs5, m5, rfl, hb5, S5, hl5, hp5, ⟨vs, kk, eK, hv⟩, K5⟩ hst
    have hilt : i < ps.length := by omega
    obtain ⟨q, hq⟩ : ∃ q, ps[i]? = some q := ⟨_, List.getElem?_eq_getElem hilt⟩
    obtain ⟨q1, q2, q3, q4⟩ := hps q (List.mem_of_getElem? hq)
    refine wpAny_assign_Name (wpAny_storeName_local rfl S5.F.ns (fun h6 hn6 hs6 => ?_))
    obtain ⟨S6, K6⟩ := S5.setm GW0 hs6 hn6
    have P6 := S00.pairs (K5.trans K6) hP
    refine wpAny_execs_cons (ka _ _ _ p loose mg mb g fa cd L _ v3 v4 v5 v6 _ v8 PA ps i t q GW0 S6 ((if_neg (by decide)).trans hp5) (if_pos rfl) P6 hq (by omega) fun h7 tk7 u1 u2 S7 K7 => ?_)
    have bK := S5.seq eK rfl
    have K67 := K6.trans K7
    have hK7 : KeptAt h7 K (keptL ps i) := ⟨vs, kk, K67 _ _ bK eK, hv.map fun a xs _ H => S5.steps K67 H⟩
    refine wpAny_execs_cons (kb _ _ _ p loose mg mb g fa cd L _ v3 v4 v5 v6 v8 K i t u1 u2 q (keptL ps i) GW0 S7 ((if_neg (by decide)).trans ((if_neg (by decide)).trans (if_pos rfl))) ((if_neg (by decide)).trans (if_pos rfl)) (if_pos rfl) q1 q2 q3 q4 (by omega) gK hK7 (by have := keptL_len ps i; omega) fun h9 tk9 gs9 hb9 S9 hK9 K9 => ?_)
    refine wpAny_execs_nil ⟨rfl, ⟨h9, tk9, gs9, _, rfl, fun x => hb9 (hb5 x), S9, ?_, ?_, by rw [keptL_succ hq]; exact hK9, fun z o n e => K9 z o n (s0K z o e) (K67 z o n (K5 z o n e))⟩, ?_⟩
    · exact (if_neg (by decide)).trans ((if_neg (by decide)).trans ((if_neg (by decide)).trans hl5))
    · exact (if_neg (by decide)).trans ((if_neg (by decide)).trans ((if_neg (by decide)).trans hp5))
    · refine Wk.frame _ _ _ hst fun b hb o e => ?_
      rw [List.mem_singleton.mp hb] at e ⊢
      exact K9 I o nbI.not nKI.symm (K67 I o nbI.not e)
  · rintro s' ⟨h5, tk5, gs5, m5, rfl, hb5, S5, hl5, hp5, hK5, K5⟩
    exact hQ _ _ _ _ hb5 S5 hl5 hK5 K5
end Mine
namespace Mine
open PySem PySem.W PyProof.Rows PySem.Calls
section
variable {prog : Program} {w : World} {A : Around} {E : Value → Shared → Prop} {s : Shared} {env : Env}
/-- a comprehension's own names, one of them held in a cell -/
theorem newEnv_cell {M : Model} {scope : Scope} {a x b c : Str} {gl : Addr} {cl : List (Str × Addr)} {q : Str} {Q : Env → Shared → Prop} (hnames : scope.names = [(a, .local), (x, .cell), (b, .globalImplicit), (c, .free)])
    (h : Q { scope, locals := s.heap.objs.size, globals := gl, cells := (x, s.heap.objs.size + 1) :: cl, qual := q, func := none, code := env.code, frame := env.frame, builtins := env.builtins }
      { s with heap := (s.heap.push { cls := .type "dict", data := .dict #[] }).push { cls := .type "cell", data := .cell none } }) :
    wpAny M A (newFunctionEnv scope gl cl [] q none .none (some env)) Q E s := by
  unfold newFunctionEnv
  rw [hnames]
  refine wpAny_bind (wpAny_alloc ?_)
  have e1 : (NameKind.local == NameKind.cell) = false := rfl
  have e2 : (NameKind.cell == NameKind.cell) = true := rfl
  have e3 : (NameKind.globalImplicit == NameKind.cell) = false := rfl
  have e4 : (NameKind.free == NameKind.cell) = false := rfl
  simp only [List.forIn_cons, List.forIn_nil, e1, e2, e3, e4, Bool.false_eq_true, if_false, if_true, pure_bind]
  refine wpAny_bind ?_
  refine wpAny_bind (wpAny_bind (wpAny_alloc (wpAny_pure (wpAny_pure ?_))))
  rw [Heap.size_push]
  exact wpAny_pure h
inductive CompHCIn (prog : Program) (w : World) (A : Around) (env : Env) (elt t0 i0 : Expr) (f0 : List Expr) (gs : List Comprehension) (scope : Scope) (pos : Pos) (cl : List (Str × Addr)) (x : Str) (Q : Value → Shared → Prop) (it : Value) (s₂ : Shared) : Prop
  | mk (I : Addr) (h1 : it = .ref I) (h2 : (∀ h' tk (Q : Value → Shared → Prop) (E : Value → Shared → Prop), (∀ b o, s₂.heap.get? b = some o → h'.get? b = some o) → Q (.ref I) { s₂ with heap := h', toks := tk } → wpAny (model prog w) A (pyIter (.ref I)) Q E { s₂ with heap := h', toks := tk })) (h3 : ∀ D C N h₃ tk₃, s₂.heap.objs.size ≤ D → @LT.lt Nat instLTNat D C → @LT.lt Nat instLTNat C N → (∀ b o, s₂.heap.get? b = some o → h₃.get? b = some o) → h₃.Ns C (fun _ => none) → h₃.IsCell N none → h₃.get? D = some (W.listOf #[] 0) → codeAny (model prog w) A (.compLoop (.ListComp elt (⟨t0, i0, f0, 0⟩ :: gs) scope pos) 0 (.ref I) (.ref D) (compEnvC scope ((x, N) :: cl) C env)) (fun r s' => r = .ok .next ∧ (∃ m', s'.heap.Ns C m') ∧ ∀ h'', Heap.SameBut C s'.heap h'' → Q (.ref D) { s' with heap := h'' }) { s₂ with heap := h₃, toks := tk₃ }) : CompHCIn prog w A env elt t0 i0 f0 gs scope pos cl x Q it s₂
/-- a comprehension with one own cell, begun and ended -/
theorem comp_hc {elt t0 i0 : Expr} {f0 : List Expr} {gs : List Comprehension} {scope : Scope} {cl : List (Str × Addr)} {pos : Pos} {Q : Value → Shared → Prop} {a x b c : Str}
    (hclos : closureFor scope env = pure cl) (hsc : scope.names = [(a, .local), (x, .cell), (b, .globalImplicit), (c, .free)]) (hkind : scope.kind = .function)
    (hnames : ∀ y ∈ scope.names, y.2 = .local → scope.names.lookup y.1 = some .local)
    (h : wpAny (model prog w) A (eval i0 env) (fun xv s₁ => wpAny (model prog w) A (pyIter xv) (CompHCIn prog w A env elt t0 i0 f0 gs scope pos cl x Q) E s₁) E s)
    (hs : ∀ x, foldedSetIterable i0 env x = pure x) :
    wpAny (model prog w) A (eval (.ListComp elt (⟨t0, i0, f0, 0⟩ :: gs) scope pos) env) Q E s := by
  rw [eval_ListComp]
  refine wpAny_comprehension_free (use := none) rfl hs hclos hkind hnames (wpAny_mono h (fun xv s₁ h₁ => wpAny_mono h₁ (fun it s₂ h₂ => ?_) fun _ _ e => e) fun _ _ e => e)
  obtain ⟨I, rfl, self, hb⟩ := h₂
  refine wpAny_newObj_type (newEnv_cell hsc ?_)
  dsimp only
  have g1 : (s₂.heap.push { cls := .type "list", dict := none, data := .seq ([] : List Value).toArray }).get? s₂.heap.objs.size = some _ := Heap.get?_push_size _ rfl
  have hC : (s₂.heap.push { cls := .type "list", dict := none, data := .seq ([] : List Value).toArray }).objs.size = s₂.heap.objs.size + 1 := Heap.size_push _ _
  have k1 : ∀ b o, s₂.heap.get? b = some o → (s₂.heap.push { cls := .type "list", dict := none, data := .seq ([] : List Value).toArray }).get? b = some o := fun b o e => Heap.get?_push_of_some _ e
  generalize s₂.heap.push { cls := .type "list", dict := none, data := .seq ([] : List Value).toArray } = H2 at g1 hC k1 ⊢
  have n2 : (H2.push { cls := .type "dict", data := .dict #[] }).Ns H2.objs.size (fun _ => none) := Heap.Ns.new H2 (.type "dict")
  have hN : (H2.push { cls := .type "dict", data := .dict #[] }).objs.size = H2.objs.size + 1 := Heap.size_push _ _
  have k2 : ∀ b o, H2.get? b = some o → (H2.push { cls := .type "dict", data := .dict #[] }).get? b = some o := fun b o e => Heap.get?_push_of_some _ e
  generalize H2.push { cls := .type "dict", data := .dict #[] } = H3 at n2 hN k2 ⊢
  have g3 : (H3.push { cls := .type "cell", data := .cell none }).get? H3.objs.size = some _ := Heap.get?_push_size _ rfl
  have k3 : ∀ b o, H3.get? b = some o → (H3.push { cls := .type "cell", data := .cell none }).get? b = some o := fun b o e => Heap.get?_push_of_some _ e
  rw [← hN]
  generalize H3.push { cls := .type "cell", data := .cell none } = H4 at g3 k3 ⊢
  have old : ∀ b o, s₂.heap.get? b = some o → H4.get? b = some o := fun b o e => k3 _ _ (k2 _ _ (k1 _ _ e))
  have loop : codeAny (model prog w) A (.compLoop (.ListComp elt (⟨t0, i0, f0, 0⟩ :: gs) scope pos) 0 (.ref I) (.ref s₂.heap.objs.size) (compEnvC scope ((x, H3.objs.size) :: cl) H2.objs.size env))
        (compPost (model prog w) A E none Q (.ref s₂.heap.objs.size) H2.objs.size) { s₂ with heap := H4 } := by
    refine codeAny_mono (hb s₂.heap.objs.size H2.objs.size H3.objs.size H4 _ (Nat.le_refl _) (by rw [hC]; exact Nat.lt_succ_self _) (by rw [hN]; exact Nat.lt_succ_self _) old (n2.at' fun o e => k3 _ _ e) ⟨_, g3, rfl⟩ (k3 _ _ (k2 _ _ g1))) fun r s' hr => ?_
    obtain ⟨rfl, ⟨m', hm'⟩, hq⟩ := hr
    exact ⟨m', hm', fun h'' hs'' => hq h'' hs''⟩
  exact codeAny_compStart_list loop (self _ _ _ _ old loop)
end
end Mine
section LawGS
namespace Mine
open PySem PySem.W PyProof.Rows PySem.Calls
noncomputable def hitsComp : Expr := valueOf (lawSt 9)
noncomputable def innerComp : Expr := firstArg (compElt hitsComp)
end Mine
local macro_rules | `(tactic| walk_at $s:str) => Mine.stopCall [125] s
namespace Mine
open PySem PySem.W PyProof.Rows PySem.Calls
theorem hits_test (w : World) (s₃ : Shared) (Q : Bool → Shared → Prop) (E : Value → Shared → Prop) (p : Program) (loose : List Str) (mg mb : Str → Option Value) (fa : Addr) (cd : Value) (L C C2 CN a : Addr) (xs : List (Nat × Bool × List Nat)) (x : List Nat) (t : Tok) (m₃ : Str → Option Value)
   (X : (pre.heap_1 w.params).In s₃.heap) (T : TopRead p loose mg mb s₃.heap) (hn : s₃.heap.Ns C2 m₃) (hm : m₃ (Str.ofString "steps") = some (.ref a)) (hk : s₃.heap.IsCell CN (some (.str (SL x) t))) (hS : StepsAt s₃.heap a xs) (hx : x.length ≤ 4)
   (hQ : ∀ s₄, Keeps s₃ s₄ → Q (takesB xs x) s₄) :
   wpAny (model PySem.Challenge.rw_ij0087_01.row.prog w) (callerA.deeper (lawEnv L fa cd)) (testsOf (compIfs innerComp) (compEnvC (compScope innerComp) [(Str.ofString "name", CN)] C2 (compEnvC (compScope hitsComp) [(Str.ofString "name", CN), (Str.ofString "kept", L + 1 + 1 + 1 + 1 + 1 + 1 + 1)] C (lawEnv L fa cd)))) Q E s₃ := by
  unfold innerComp hitsComp lawSt lawDef getDef
  dsimp only [nth, forBody, valueOf, firstArg, secondArg, compIfs, compScope, compElt]
  revert X; k_fill; intro X
  refine wpAny_tests_one ?_
  walk
  refine to_stop (takes_c w _ _ _ _ _ _ _ p loose mg mb a x t xs (by decide) (by decide) rfl X T hS hx fun h' k' hk' => ?_)
  walk
  exact hQ _ ⟨h', _, rfl, hk'⟩
theorem steps_inj {h : Heap} {a : Addr} {xs ys : List (Nat × Bool × List Nat)} (H : StepsAt h a xs) (H' : StepsAt h a ys) : xs = ys := by
  obtain ⟨vs, ⟨o, e, c, k, d⟩, hl, hx⟩ := H
  obtain ⟨ws, ⟨o', e', c', k', d'⟩, hl', hx'⟩ := H'
  rw [e] at e'; cases e'
  have ew : vs = ws := by
    rw [d] at d'
    have : vs.toArray = ws.toArray := by cases d'; rfl
    simpa using this
  subst ew
  apply List.ext_getElem?
  intro i
  rcases Nat.lt_or_ge i xs.length with hi | hi
  · obtain ⟨t, u1, u2, e1, ot, et, ct, n, dt⟩ := hx i _ (List.getElem?_eq_getElem hi)
    have hi' : i < ys.length := by omega
    obtain ⟨t', u1', u2', e1', ot', et', ct', n', dt'⟩ := hx' i _ (List.getElem?_eq_getElem hi')
    rw [e1] at e1'; cases e1'
    rw [et] at et'; cases et'
    rw [dt] at dt'
    have q : (#[Value.int (xs[i].1 : Int) u1, Value.bool xs[i].2.1, Value.str (SL xs[i].2.2) u2] : Array Value) = #[Value.int (ys[i].1 : Int) u1', Value.bool ys[i].2.1, Value.str (SL ys[i].2.2) u2'] := by injection dt'
    have q' : [Value.int (xs[i].1 : Int) u1, Value.bool xs[i].2.1, Value.str (SL xs[i].2.2) u2] = [Value.int (ys[i].1 : Int) u1', Value.bool ys[i].2.1, Value.str (SL ys[i].2.2) u2'] := congrArg Array.toList q
    simp only [List.cons.injEq, Value.int.injEq, Value.bool.injEq, Value.str.injEq, SL_inj, and_true] at q'
    obtain ⟨⟨a1, _⟩, a2, a3, _⟩ := q'
    have a1' : xs[i].1 = ys[i].1 := by omega
    rw [List.getElem?_eq_getElem hi, List.getElem?_eq_getElem hi']
    exact congrArg some (Prod.ext a1' (Prod.ext a2 a3))
  · rw [List.getElem?_eq_none hi, List.getElem?_eq_none (by omega)]
/-- is the value a list of steps that take the name -/
noncomputable def hitP (h : Heap) (x : List Nat) : Value → Bool
  | .ref a => @decide (∃ xs, StepsAt h a xs ∧ takesB xs x = true) (Classical.propDecidable _)
  | _ => false
theorem hitP_eq {h : Heap} {x : List Nat} {a : Addr} {xs : List (Nat × Bool × List Nat)} (H : StepsAt h a xs) : hitP h x (.ref a) = takesB xs x := by
  unfold hitP
  cases e : takesB xs x with
  | true => exact @decide_eq_true _ (Classical.propDecidable _) ⟨xs, H, e⟩
  | false => exact @decide_eq_false _ (Classical.propDecidable _) fun ⟨ys, H', e'⟩ => by rw [steps_inj H H'] at e; rw [e] at e'; cases e'
theorem hit_count {h : Heap} {x : List Nat} : ∀ {vs : List Value} {kss : List (List (Nat × Bool × List Nat))}, KeptAre h vs kss → (vs.filter (hitP h x)).length = (kss.filter fun xs => takesB xs x).length
  | _, _, .nil => rfl
  | _, _, .cons H n r => by
    rw [List.filter_cons, List.filter_cons, hitP_eq H]
    split
    · rw [List.length_cons, List.length_cons, hit_count r]
    · exact hit_count r
theorem hits_el (w : World) (s₃ : Shared) (Q : Value → Shared → Prop) (E : Value → Shared → Prop) (p : Program) (loose : List Str) (mg mb : Str → Option Value) (g : Heap) (fa : Addr) (cd : Value) (L C CN K : Addr) (kss : List (List (Nat × Bool × List Nat))) (x : List Nat) (t : Tok) (mL : Str → Option Value)
   (GW : LW w p loose mg mb g L) (F : Fr g L s₃.heap mL) (hk : s₃.heap.IsCell CN (some (.str (SL x) t))) (h7 : s₃.heap.IsCell (L + 1 + 1 + 1 + 1 + 1 + 1 + 1) (some (.ref K))) (hK : KeptAt s₃.heap K kss) (hkl : kss.length ≤ 100) (hx : x.length ≤ 4)
   (hQ : ∀ u s₄, Keeps s₃ s₄ → Q (.int (((kss.filter fun xs => takesB xs x).length : Nat) : Int) u) s₄) :
   wpAny (model PySem.Challenge.rw_ij0087_01.row.prog w) (callerA.deeper (lawEnv L fa cd)) (eval (compElt hitsComp) (compEnvC (compScope hitsComp) [(Str.ofString "name", CN), (Str.ofString "kept", L + 1 + 1 + 1 + 1 + 1 + 1 + 1)] C (lawEnv L fa cd)))
     Q E s₃ := by
  obtain ⟨X, T, B, C0, g57, l57⟩ := GW
  have el := hits_test w
  unfold innerComp hitsComp lawSt lawDef getDef at *
  dsimp only [nth, forBody, valueOf, firstArg, secondArg, compIfs, compScope, compElt] at *
  revert X; k_fill; intro X
  have X3 := X.keeps F.keep
  have T3 := T.keeps F.keep
  clear X T B
  walk
  have h1000 : (1000 : Nat) ≤ sizeLine := by decide +kernel
  obtain ⟨vs, kk, eK, hv⟩ := id hK
  have hvl := hv.len
  refine to_stop (comp_list (h₀ := g) (L := L) (cl := [(Str.ofString "name", CN)]) (hitP s₃.heap x) (fun v y => y = v) rfl (by with_unfolding_all rfl) (by decide) rfl (by decide) rfl ?_ (by intro _; with_unfolding_all rfl))
  walk
  refine to_stop ⟨K, vs.toArray, mL, [], rfl, ⟨_, eK, rfl, _, rfl⟩, by rw [List.size_toArray]; omega, F, News.nil, fun C2 i v s₄ m₃ E' hC hP hn hm hk4 => ?_, fun C2 i v s₄ m₃ E' hC hP hp hn hm hk4 => ?_, fun D k h2 tk2 ys hF _ F2 N2 hk2 => ?_⟩
  · obtain ⟨a, xs, rfl, hxs, hS⟩ := hv.at (i := i) (v := v) (by simpa using hP)
    refine el s₄ _ _ p loose mg mb fa cd L C C2 CN a xs x t m₃ (X3.keeps hk4) (T3.keeps hk4) hn hm (hk.keeps hk4) (hS.keeps hk4) hx fun s₅ hk5 => ⟨(hitP_eq hS).symm, hk5⟩
  · exact ldVarK hn hm ⟨rfl, keeps_refl⟩
  · have e1 := paired_id hF
    subst e1
    have hD := (N2 _ (.head _)).1
    walk
    have hc := hit_count (x := x) hv
    have hc2 := List.length_filter_le (hitP s₃.heap x) vs
    refine len_list (items := (vs.filter (hitP s₃.heap x)).toArray) ⟨_, hD, rfl, _, rfl⟩ (by rw [List.size_toArray]; omega) ?_
    rw [List.size_toArray, hc]
    exact hQ _ _ ⟨h2, _, rfl, hk2⟩
inductive HitJ (s : Shared) (C CN D : Addr) (y : List (List Nat)) (f : List Nat → Int) (i : Nat) (s₁ : Shared) : Prop
  | mk (h : Heap) (tk : Nat) (h1 : s₁ = { s with heap := h, toks := tk }) (h2 : ∀ b o, s.heap.get? b = some o → h.get? b = some o) (h3 : ∃ m', h.Ns C m') (h4 : ∃ v, h.IsCell CN v) (ys : List Value) (k : Nat) (h5 : h.get? D = some (W.listOf ys.toArray k)) (h6 : IntsAre ys ((y.take i).map f)) : HitJ s C CN D y f i s₁
theorem hits_st (w : World) (s : Shared) (Q : Flow → Shared → Prop) (E : Value → Shared → Prop) (p : Program) (loose : List Str) (mg mb : Str → Option Value) (g : Heap) (fa : Addr) (cd : Value) (L : Addr) (m : Str → Option Value) (v4 v5 v6 v8 : Option Value) (K NM : Addr) (kss : List (List (Nat × Bool × List Nat))) (y : List (List Nat))
   (GW : LW w p loose mg mb g L) (S : LSt g L s.heap m (some (.ref NM)) v4 v5 v6 (some (.ref K)) v8) (hK : KeptAt s.heap K kss) (hkl : kss.length ≤ 100) (hN : NamesAt s.heap NM y) (hy : ∀ x ∈ y, x.length ≤ 4) (hyl : y.length ≤ 100)
   (hQ : ∀ h' tk HA ys, h'.IsList HA ys.toArray → IntsAre ys (y.map fun x => (((kss.filter fun xs => takesB xs x).length : Nat) : Int)) → LSt g L h' m (some (.ref NM)) v4 v5 v6 (some (.ref K)) (some (.ref HA)) → Kept L s.heap h' → Q .next { s with heap := h', toks := tk }) :
   wpAny (model PySem.Challenge.rw_ij0087_01.row.prog w) (callerA.deeper (lawEnv L fa cd)) (exec (lawSt 9) (lawEnv L fa cd)) Q E s := by
  have el := hits_el w
  have F := S.F
  have GW0 := GW
  obtain ⟨X, T, B, C0, g57, l57⟩ := GW
  obtain ⟨o3, e3, d3⟩ := id S.c3
  have N : News g L s.heap [(L + 1 + 1 + 1, o3)] := fun q hq => by
    rw [List.mem_singleton.mp hq]
    exact ⟨e3, Nat.ne_of_gt (show @LT.lt Nat instLTNat L (L + 3) from Nat.lt_add_of_pos_right (by decide)), get_none_of F.above (Nat.le_add_right L 3)⟩
  unfold hitsComp lawSt lawDef getDef at *
  dsimp only [nth, forBody, valueOf, firstArg, secondArg, compIfs, compScope, compElt] at *
  revert X; k_fill; intro X
  refine wpAny_Assign_Name ?_ (by with_unfolding_all rfl)
  obtain ⟨vy, hly, hsy⟩ := id hN
  have hvy : vy.length = y.length := by rw [hsy.len_eq, List.length_map]
  refine comp_hc (cl := [(Str.ofString "kept", L + 1 + 1 + 1 + 1 + 1 + 1 + 1)]) (by with_unfolding_all rfl) rfl rfl (by decide) ?_ (by intro _; with_unfolding_all rfl)
  walk
  refine src_list rfl hly fun I h8 St ⟨hI, haI⟩ ⟨hI0, hIs⟩ K8 Wk hSt hhas hit => ?_
  have hne : ∀ b o, s.heap.get? b = some o → b ≠ I := fun b o e q => by rw [q, hI0] at e; cases e
  refine ⟨I, rfl, fun h' tk Q E hk hq => Wk.self 0 _ _ _ (Wk.frame _ _ _ hSt fun b _ o e => hk b o e) hq, fun D C CN h₃ tk₃ hD hDC hCN hk₃ hns hcn hget => ?_⟩
  have hID : @LT.lt Nat instLTNat I D := Nat.lt_of_lt_of_le hI hD
  have hIC : @LT.lt Nat instLTNat I C := Nat.lt_trans hID hDC
  have hIN : @LT.lt Nat instLTNat I CN := Nat.lt_trans hIC hCN
  have old : ∀ b o, s.heap.get? b = some o → b ≠ D ∧ b ≠ C ∧ b ≠ CN := fun b o e => by
    have l1 : @LT.lt Nat instLTNat b I := Nat.lt_of_lt_of_le (Heap.lt_size e) hIs
    exact ⟨Nat.ne_of_lt (Nat.lt_trans l1 hID), Nat.ne_of_lt (Nat.lt_trans l1 hIC), Nat.ne_of_lt (Nat.lt_trans l1 hIN)⟩
  have h1000 : (1000 : Nat) ≤ sizeLine := by decide +kernel
  obtain ⟨oNM, eNM, _⟩ := id hly
  refine compLoop_h (HitJ s C CN D y fun x => (((kss.filter fun xs => takesB xs x).length : Nat) : Int))
    (turnBy_A (compTurn_1 _ _ _ _ _ _ _ _ _)) EmitA.mono Wk (Wk.frame _ _ _ hSt fun b _ o e => hk₃ b o e) ?_ ?_ (fun i s' v Q' hs' h => wpAny_pure h) ?_ ?_
  · exact ⟨h₃, _, rfl, fun b o e => hk₃ b o (K8 b o e), ⟨_, hns⟩, ⟨_, hcn⟩, [], 0, hget, .nil⟩
  · rintro i s₁ h' tk ⟨h1, tk1, rfl, k1, ⟨m1, k2⟩, ⟨v, oc, ec, dc⟩, ys, k, k4, k5⟩ hk
    exact ⟨h', tk, rfl, fun b o e => hk b o (hne b o e) (k1 b o e), ⟨m1, k2.at' fun o e => hk _ o (Nat.ne_of_gt hIC) e⟩, ⟨v, oc, hk _ _ (Nat.ne_of_gt hIN) ec, dc⟩, ys, k, hk _ _ (Nat.ne_of_gt hID) k4, k5⟩
  · rintro i v s₁ hi hv ⟨h1, tk1, rfl, k1, ⟨m1, k2⟩, ⟨v0, hc⟩, ys, k, k4, k5⟩ hst
    obtain ⟨x', t, rfl, hx'⟩ := hsy.item i v (by simpa using hv)
    rw [List.getElem?_map] at hx'
    obtain ⟨x, hx, rfl⟩ := Option.map_eq_some_iff.mp hx'
    have hxm := List.mem_of_getElem? hx
    have hil : i < y.length := (List.getElem?_eq_some_iff.mp hx).1
    refine wpAny_assign_Name (wpAny_storeName_cell rfl rfl rfl hc fun h6 hc6 hs6 => ?_)
    refine wpAny_tests_nil ?_
    rw [if_pos rfl]
    have k16 : ∀ b o, s.heap.get? b = some o → h6.get? b = some o := fun b o e => hs6.extBut b o (old b o e).2.2 (k1 b o e)
    have S6 := S.keeps k16
    have k46 := hs6.extBut _ _ (Nat.ne_of_lt (Nat.lt_trans hDC hCN)) k4
    have k26 : h6.Ns C m1 := k2.at' fun o e => hs6.extBut _ o (Nat.ne_of_lt hCN) e
    obtain ⟨vs, kk, eK, hvK⟩ := id hK
    refine el _ _ _ p loose mg mb g fa cd L C CN K kss x t m GW0 S6.F hc6 S6.c7 ⟨vs, kk, k16 _ _ eK, hvK.map fun a xs _ H => H.keeps k16⟩ hkl (hy x hxm) fun u s₄ hk4 => ?_
    obtain ⟨h7, tk7, rfl, k7⟩ := hk4
    have hyl2 : ys.length ≤ 100 := by
      have q1 := k5.length
      rw [List.length_map, List.length_take] at q1
      omega
    refine append_at (hsz := by rw [List.size_toArray]; omega) (k7 _ _ k46) fun h9 hs9 hg9 => ?_
    have et : y.take (i + 1) = y.take i ++ [x] := by rw [List.take_add_one, hx]; rfl
    refine ⟨⟨h9, _, rfl, fun b o e => hs9.extBut b o (old b o e).1 (k7 _ _ (k16 b o e)), ⟨m1, k26.at' fun o e => hs9.extBut _ o (Nat.ne_of_gt hDC) (k7 _ _ e)⟩, ⟨_, _, hs9.extBut _ _ (Nat.ne_of_gt (Nat.lt_trans hDC hCN)) (k7 _ _ hc6.choose_spec.1), hc6.choose_spec.2⟩, ys ++ [_], k + 1, hg9.trans (by rw [List.push_toArray]), ?_⟩, ?_⟩
    · rw [et, List.map_append]
      exact ints_snoc k5 _ _
    · refine Wk.frame _ _ _ hst fun b hb o e => ?_
      simp only [List.mem_cons, List.not_mem_nil, or_false] at hb
      have nb : b ≠ CN ∧ b ≠ D := by
        rcases hb with rfl | rfl
        · exact ⟨Nat.ne_of_lt hIN, Nat.ne_of_lt hID⟩
        · exact ⟨(old _ _ eNM).2.2, (old _ _ eNM).1⟩
      exact hs9.extBut b o nb.2 (k7 _ _ (hs6.extBut b o nb.1 e))
  · rintro s' ⟨h1, tk1, rfl, k1, ⟨m1, k2⟩, ⟨v0, hc⟩, ys, k, k4, k5⟩
    rw [List.size_toArray, hvy, List.take_length] at k5
    refine ⟨rfl, ⟨m1, k2⟩, fun h'' hs'' => ?_⟩
    have up : ∀ b o, s.heap.get? b = some o → h''.get? b = some o := fun b o e => hs''.extBut b o (old b o e).2.1 (k1 b o e)
    have S7 := S.keeps up
    refine wpAny_storeName_cell rfl rfl rfl S7.c8 fun h9 hc9 hs9 => ?_
    obtain ⟨S9, K9⟩ := S7.set8 GW0 hs9 hc9
    have gD := hs''.extBut _ _ (Nat.ne_of_lt hDC) k4
    exact hQ _ _ D ys (S7.list K9 ⟨_, gD, rfl, _, rfl⟩) k5 S9 ((Kept.of up).trans K9)
end Mine
end LawGS
section LawFS
namespace Mine
open PySem PySem.W PyProof.Rows PySem.Calls

theorem sameAll_strs : ∀ ss : List Str, PySem.Spec.sameAll (ss.map PyData.str) (ss.map PyData.str) = true
  | [] => by simp [PySem.Spec.sameAll]
  | a :: r => by simp only [List.map_cons, PySem.Spec.sameAll, PySem.Spec.same, sameAll_strs r]; simp
theorem canLay_strs : ∀ {ss : List Str}, (∀ x ∈ ss, x.cps.all (· < 0x110000) = true) → PySem.PyData.canLayAll0 (ss.map PySem.PyData.str) = true
  | [], _ => rfl
  | a :: r, h => by
    have h1 := h a (.head _)
    have h2 := canLay_strs (ss := r) fun x hx => h x (.tail _ hx)
    simp only [List.map_cons, PySem.PyData.canLayAll0, PySem.PyData.canLay0, h2, Bool.and_true]
    exact h1
theorem depth_strs : ∀ ss : List Str, PySem.PyData.depthAll (ss.map PySem.PyData.str) = 0
  | [] => rfl
  | _ :: r => by simp [PySem.PyData.depthAll, PySem.PyData.depth, depth_strs r]
theorem carried_strs : ∀ {vs : List Value} {ss : List Str}, StrsAre vs ss → CarriedAll vs (ss.map PySem.PyData.str)
  | _, _, .nil => .nil
  | _, _, .cons _ t r => .cons (.str _ t) (carried_strs r)
theorem eq_strs {prog : Program} {w : World} {A : Around} {E : Value → Shared → Prop} {s : Shared} {a b : Addr} {xs ys : List Value} {ss : List Str} {Q : Value → Shared → Prop} (ha : s.heap.IsList a xs.toArray) (hb : s.heap.IsList b ys.toArray) (hi : StrsAre xs ss) (hj : StrsAre ys ss)
    (hok : ∀ x ∈ ss, x.cps.all (· < 0x110000) = true) (hu : A.units + 64 < cLine) (h : Q (.bool true) s) : wpAny (model prog w) A (compareOp .Eq (.ref a) (.ref b)) Q E s := by
  have sh : SeqAt.shaped (.list (ss.map PySem.PyData.str)) = true := by
    simp [SeqAt.shaped, PySem.PyData.canLay0, PySem.PyData.depth, canLay_strs hok, depth_strs]
  refine eq_dataH_same (reads_newData ha (carried_strs hi)) (reads_newData hb (carried_strs hj)) sh sh hu (SeqAt.noMix_of_shape (.list .str) rfl _ _ (list_map_has fun _ => rfl) (list_map_has fun _ => rfl)) ?_
  have : PySem.Spec.same (.list (ss.map PySem.PyData.str)) (.list (ss.map PySem.PyData.str)) = true := by
    simp only [PySem.Spec.same]; exact sameAll_strs ss
  rw [this]; exact h
noncomputable def retExpr : Stmt → Expr
  | .Return (some e) _ => e
  | _ => .Name "" ⟨0, 0, 0, 0⟩
noncomputable def eqComp : Expr → Expr
  | .BoolOp _ (.Compare _ _ (c :: _) _ :: _) _ => c
  | e => e
noncomputable def lastComp : Expr := eqComp (retExpr (lawSt 10))
end Mine
local macro_rules | `(tactic| walk_at $s:str) => Mine.stopAt ["subscriptTail Name Name ref int", "compareOp Eq ref ref", "call builtin:max"] s
local macro_rules | `(tactic| walk_at $s:str) => Mine.refineAt [("subscriptTail Name Name", `Mine.stop_subref)] s
namespace Mine
open PySem PySem.W PyProof.Rows PySem.Calls
theorem last_test (w : World) (s₃ : Shared) (Q : Bool → Shared → Prop) (E : Value → Shared → Prop) (p : Program) (loose : List Str) (mg mb : Str → Option Value) (fa : Addr) (cd : Value) (L C HA : Addr) (hs : List Value) (ns : List Int) (i : Nat) (n : Int) (t : Tok) (m₃ : Str → Option Value)
   (X : (pre.heap_1 w.params).In s₃.heap) (T : TopRead p loose mg mb s₃.heap) (hn : s₃.heap.Ns C m₃) (hm : m₃ (Str.ofString "k") = some (.int (i : Int) t)) (hk : s₃.heap.IsCell (L + 1 + 1 + 1 + 1 + 1 + 1 + 1 + 1) (some (.ref HA))) (hl : s₃.heap.IsList HA hs.toArray) (hi : IntsAre hs ns) (hx : ns[i]? = some n) (hi9 : i < 100)
   (hQ : ∀ s₄, Keeps s₃ s₄ → Q (n == 1) s₄) :
   wpAny (model PySem.Challenge.rw_ij0087_01.row.prog w) (callerA.deeper (lawEnv L fa cd)) (testsOf (compIfs lastComp) (compEnvC (compScope lastComp) [(Str.ofString "names", L + 1 + 1 + 1), (Str.ofString "hits", L + 1 + 1 + 1 + 1 + 1 + 1 + 1 + 1)] C (lawEnv L fa cd))) Q E s₃ := by
  unfold lastComp lawSt lawDef getDef
  dsimp only [nth, forBody, valueOf, firstArg, secondArg, compIfs, compScope, compElt, retExpr, eqComp]
  refine wpAny_tests_one ?_
  walk
  have hv : ∃ u, hs[i]? = some (.int n u) := by
    have hlt : i < hs.length := by
      rw [hi.length]
      exact (List.getElem?_eq_some_iff.mp hx).1
    obtain ⟨n', t', e1, e2⟩ := ints_at hi i _ (List.getElem?_eq_getElem hlt)
    rw [hx] at e1; cases e1
    exact ⟨t', by rw [List.getElem?_eq_getElem hlt, e2]⟩
  obtain ⟨u, hv⟩ := hv
  refine to_stop (tail_any hl.typeIs slot_list_getitem.lookup (wpAny_getItem_list hl (Int.natCast_nonneg _) (by omega) (by simpa using hv) ?_) (by with_unfolding_all rfl))
  walk
  exact hQ _ keeps_tok
theorem last_el (w : World) (s₃ : Shared) (Q : Value → Shared → Prop) (E : Value → Shared → Prop) (p : Program) (loose : List Str) (mg mb : Str → Option Value) (fa : Addr) (cd : Value) (L C NM : Addr) (vs : List Value) (ss : List Str) (i : Nat) (x : Str) (t : Tok) (m₃ : Str → Option Value)
   (X : (pre.heap_1 w.params).In s₃.heap) (T : TopRead p loose mg mb s₃.heap) (hn : s₃.heap.Ns C m₃) (hm : m₃ (Str.ofString "k") = some (.int (i : Int) t)) (hk : s₃.heap.IsCell (L + 1 + 1 + 1) (some (.ref NM))) (hl : s₃.heap.IsList NM vs.toArray) (hi : StrsAre vs ss) (hx : ss[i]? = some x) (hi9 : i < 100)
   (hQ : ∀ u s₄, Keeps s₃ s₄ → Q (.str x u) s₄) :
   wpAny (model PySem.Challenge.rw_ij0087_01.row.prog w) (callerA.deeper (lawEnv L fa cd)) (eval (compElt lastComp) (compEnvC (compScope lastComp) [(Str.ofString "names", L + 1 + 1 + 1), (Str.ofString "hits", L + 1 + 1 + 1 + 1 + 1 + 1 + 1 + 1)] C (lawEnv L fa cd))) Q E s₃ := by
  unfold lastComp lawSt lawDef getDef
  dsimp only [nth, forBody, valueOf, firstArg, secondArg, compIfs, compScope, compElt, retExpr, eqComp]
  walk
  obtain ⟨u, hv⟩ := hi.at hx
  refine to_stop (tail_any hl.typeIs slot_list_getitem.lookup (wpAny_getItem_list hl (Int.natCast_nonneg _) (by omega) (by simpa using hv) ?_) (by with_unfolding_all rfl))
  exact hQ _ _ keeps_refl
theorem ret_st (w : World) (s : Shared) (Q : Flow → Shared → Prop) (E : Value → Shared → Prop) (p : Program) (loose : List Str) (mg mb : Str → Option Value) (g : Heap) (fa : Addr) (cd : Value) (L : Addr) (m : Str → Option Value) (v4 v5 v6 v7 : Option Value) (LA NM HA : Addr) (hs : List Value) (cnt : List Nat → Nat) (y : List (List Nat))
   (GW : LW w p loose mg mb g L) (S : LSt g L s.heap m (some (.ref NM)) v4 v5 v6 v7 (some (.ref HA))) (hm : m (Str.ofString "left") = some (.ref LA)) (hN : NamesAt s.heap NM y) (hL : NamesAt s.heap LA (y.filter fun x => cnt x == 1)) (hl : s.heap.IsList HA hs.toArray) (hi : IntsAre hs (y.map fun x => ((cnt x : Nat) : Int)))
   (hy7 : y.length = 7) (hok : ∀ x ∈ y, ∀ c ∈ x, c < 1114112) (hlt : ∀ x ∈ y, cnt x < 2)
   (hQ : ∀ h' tk, (∀ b o, g.get? b = some o → h'.get? b = some o) → (∃ op, h'.get? 57 = some op ∧ Tab op) → Q (.ret (.bool true)) { s with heap := h', toks := tk }) :
   wpAny (model PySem.Challenge.rw_ij0087_01.row.prog w) (callerA.deeper (lawEnv L fa cd)) (exec (lawSt 10) (lawEnv L fa cd)) Q E s := by
  have et := last_test w
  have el := last_el w
  have F := S.F
  have GW0 := GW
  obtain ⟨X, T, B, C0, g57, l57⟩ := GW
  obtain ⟨z, oz, bz, gz, ez⟩ := S.z
  obtain ⟨o3, o4, o5, o6, o7, o8, op, d3, d4, d5, d6, d7, d8, tt, N⟩ := S.news GW0 (notBad bz) gz ez
  unfold lastComp lawSt lawDef getDef at *
  dsimp only [nth, forBody, valueOf, firstArg, secondArg, compIfs, compScope, compElt, retExpr, eqComp] at *
  revert X; k_fill; intro X
  walk
  refine to_stop (comp_range (h₀ := g) (L := L) (cl := [(Str.ofString "names", L + 1 + 1 + 1), (Str.ofString "hits", L + 1 + 1 + 1 + 1 + 1 + 1 + 1 + 1)]) 7 (fun k => cnt (y.getD k []) == 1) (fun k v => ∃ u, v = .str (SL (y.getD k [])) u) rfl (by decide) (by with_unfolding_all rfl) (by decide) rfl (by decide) rfl ?_ (by intro _; with_unfolding_all rfl))
  walk
  rename_i h8 tk8 t8 u8 w8 hR F8 N8 K8
  dsimp only at K8
  obtain ⟨vy, hly, hsy⟩ := id hN
  have hget : ∀ i, i < 7 → y[i]? = some (y.getD i []) := fun i hi => by
    rw [List.getD_eq_getElem?_getD, List.getElem?_eq_getElem (by omega)]; rfl
  refine to_stop ⟨_, _, _, _, m, _, rfl, hR, F8, N8, fun C i t s₃ m₃ E' hC hi' hn hm' hk => ?_, fun C i t s₃ m₃ E' hC hi' hp hn hm' hk => ?_, fun D k h9 tk9 ys hF hlt9 F9 N9 hk9 => ?_⟩
  · have up : ∀ b o, s.heap.get? b = some o → s₃.heap.get? b = some o := fun b o e => hk _ _ (K8 b o e)
    refine et s₃ _ _ p loose mg mb fa cd L C HA hs _ i t m₃ (X.keeps fun b o e => up _ _ (S.F.keep b o e)) (T.keeps fun b o e => up _ _ (S.F.keep b o e)) hn hm' (S.c8.keeps up) (stays_list up hl) hi (n := ((cnt (y.getD i []) : Nat) : Int)) (by rw [List.getElem?_map, hget i hi']; rfl) (by omega) fun s₄ hk4 => ⟨nat_beq _ 1, hk4⟩
  · have up : ∀ b o, s.heap.get? b = some o → s₃.heap.get? b = some o := fun b o e => hk _ _ (K8 b o e)
    refine el s₃ _ _ p loose mg mb fa cd L C NM vy _ i (SL (y.getD i [])) t m₃ (X.keeps fun b o e => up _ _ (S.F.keep b o e)) (T.keeps fun b o e => up _ _ (S.F.keep b o e)) hn hm' (S.c3.keeps up) (stays_list up hly) hsy (by rw [List.getElem?_map, hget i hi']; rfl) (by omega) fun u s₄ hk4 => ⟨⟨u, rfl⟩, hk4⟩
  · have up9 : ∀ b o, s.heap.get? b = some o → h9.get? b = some o := fun b o e => hk9 _ _ (K8 b o e)
    have hSR : StrsAre ys ((y.filter fun x => cnt x == 1).map SL) := by
      have go : ∀ (l : List Nat) (ys : List Value), Paired (fun (k : Nat) v => ∃ u, v = Value.str (SL (y.getD k [])) u) l ys → StrsAre ys (l.map fun k => SL (y.getD k [])) := by
        intro l
        induction l with
        | nil => intro ys h; cases h; exact .nil
        | cons a r ih =>
          intro ys h
          cases h with
          | cons h t => obtain ⟨u, rfl⟩ := h; exact .cons _ _ (ih _ t)
      have e1 := go _ _ hF
      have e2 : y = (List.range 7).map fun k => y.getD k [] := by
        apply List.ext_getElem?
        intro i
        rcases Nat.lt_or_ge i 7 with h | h
        · rw [List.getElem?_map, List.getElem?_range h, hget i h]; rfl
        · rw [List.getElem?_eq_none (by omega), List.getElem?_eq_none (by simp; omega)]
      have e3 : (y.filter fun x => cnt x == 1).map SL = ((List.range 7).filter fun k => cnt (y.getD k []) == 1).map fun k => SL (y.getD k []) := by
        conv => lhs; rw [e2]
        rw [List.filter_map, List.map_map]
        rfl
      rw [e3]; exact e1
    have hD := (N9 _ (.head _)).1
    obtain ⟨vl, hll, hsl⟩ := id hL
    refine to_stop (eq_strs (stays_list up9 hll) ⟨_, hD, rfl, _, rfl⟩ hsl hSR ?_ (Nat.le_of_ble_eq_true rfl) ?_)
    · intro x hx
      obtain ⟨x', hx', rfl⟩ := List.mem_map.mp hx
      have hc := hok x' (List.mem_filter.mp hx').1
      simp only [SL, List.all_toArray, List.all_eq_true, decide_eq_true_eq]
      exact hc
    · clear hF F8 hR K8
      have S9 := S.keeps up9
      walk
      refine to_stop (max_list_N rfl F9 N9 (stays_list up9 hl) hi (by rw [List.length_map]; omega) fun h10 M t10 tk10 F10 N10 hM1 hM2 => ?_)
      walk
      have hM : M < 2 := by
        obtain ⟨x, hx, rfl⟩ := List.mem_map.mp hM1
        have := hlt x hx
        omega
      rw [decide_eq_true hM]
      exact hQ _ _ F10.keep ⟨op, (N10 (57, op) (by k_mem)).1, tt⟩
end Mine
end LawFS
namespace Mine
open PySem PySem.W PyProof.Rows PySem.Calls
noncomputable def bit (a i : Nat) : Bool := a / 2 ^ i % 2 == 1
theorem bit_test (a i : Nat) : bit a i = a.testBit i := by
  unfold bit
  rw [Nat.testBit_eq_decide_div_mod_eq]
  rw [Bool.eq_iff_iff]; simp
theorem sub_and (a f : Nat) (ha : a < 64) (hf : f < 64) : a - (a &&& f) = a ^^^ (a &&& f) := by
  have key : ∀ a, a < 64 → ∀ f, f < 64 → a - (a &&& f) = a ^^^ (a &&& f) := by decide +kernel
  exact key a ha f hf
theorem bit_sub {a f : Nat} (i : Nat) (ha : a < 64) (hf : f < 64) : bit (a - (a &&& f)) i = (bit a i && !bit f i) := by
  rw [bit_test, bit_test, bit_test, sub_and a f ha hf, Nat.testBit_xor, Nat.testBit_and]
  cases a.testBit i <;> cases f.testBit i <;> rfl
theorem bit_and (a f i : Nat) : bit (a &&& f) i = (bit a i && bit f i) := by
  rw [bit_test, bit_test, bit_test, Nat.testBit_and]
theorem bit_pos {a i : Nat} (h : bit a i = true) : 0 < a := by
  rcases Nat.eq_zero_or_pos a with rfl | h'
  · simp [bit] at h
  · exact h'
/-- a step's own test -/
noncomputable def okV (v : Nat × Bool × List Nat) (c : Nat) : Bool := v.2.1 != decide (c ∈ v.2.2)
theorem item_ok {a i : Nat} (c : Bool) (h1 : 1 ≤ a) (h2 : a ≤ 63) (hi : i < 6) : (Ck.val (itOf a c).ck).1 = 0 ∧ okV (Ck.val (itOf a c).ck) (ENDS.getD i 0) = bit a i := by
  have key : ∀ a, a < 64 → 1 ≤ a → ∀ c : Bool, ∀ i, i < 6 → (Ck.val (itOf a c).ck).1 = 0 ∧ okV (Ck.val (itOf a c).ck) (ENDS.getD i 0) = bit a i := by decide +kernel
  exact key a (by omega) h1 c i hi
theorem takes_gen (v1 v2 : Nat × Bool × List Nat) (c1 c2 : Nat) (mid : List Nat) (hm : mid.length ≤ 2) (z1 : v1.1 = 0) (z2 : v2.1 = 0) : takesB [v1, (1, true, []), v2] ([c1] ++ mid ++ [c2]) = (okV v1 c1 && okV v2 c2) := by
  obtain ⟨n1, b1, i1⟩ := v1
  obtain ⟨n2, b2, i2⟩ := v2
  dsimp only at z1 z2
  subst z1 z2
  unfold takesB
  have main : ∀ T : List Nat, T.getD 0 0 = c1 → T.getD (T.length - 1) 0 = c2 → 2 ≤ T.length → T.length ≤ 4 → decide (T.length ∈ plAt T [(0, b1, i1), (1, true, []), (0, b2, i2)] 3) = (okV (0, b1, i1) c1 && okV (0, b2, i2) c2) := by
    intro T h1 h2 h3 h4
    have e : plAt T [(0, b1, i1), (1, true, []), (0, b2, i2)] 3 = nxt T b2 i2 (star T true [] (nxt T b1 i1 [0])) := rfl
    rw [e]
    have a0 : okAt T b1 i1 0 = okV (0, b1, i1) c1 := by unfold okAt okV; rw [h1]
    have a1 : okAt T b2 i2 (T.length - 1) = okV (0, b2, i2) c2 := by unfold okAt okV; rw [h2]
    have en : nxt T b1 i1 [0] = if okV (0, b1, i1) c1 then [1] else [] := by
      unfold nxt
      rw [List.filter_cons, a0]
      have : (decide (0 < T.length)) = true := decide_eq_true (by omega)
      rw [this]
      cases okV (0, b1, i1) c1 <;> rfl
    rw [en]
    have tt : ∀ p, okAt T true [] p = true := fun p => by simp [okAt]
    cases hb : okV (0, b1, i1) c1 with
    | false =>
      have es : star T true [] [] = [] := by
        unfold star
        have : ∀ l : List Nat, l.foldl (starTurn T true [] []) [] = [] := by
          intro l
          induction l with
          | nil => rfl
          | cons p r ih => rw [List.foldl_cons]; simpa [starTurn] using ih
        exact this _
      simp [es, nxt]
    | true =>
      simp only [if_true, Bool.true_and]
      have es : star T true [] [1] = (List.range T.length).map (· + 1) := by
        unfold star
        have step : ∀ n, 1 ≤ n → (List.range (n + 1)).foldl (starTurn T true [] [1]) [] = (List.range n).map (· + 1) := by
          intro n hn
          induction n with
          | zero => omega
          | succ n ih =>
            rw [List.range_succ, List.foldl_append]
            simp only [List.foldl_cons, List.foldl_nil]
            rcases Nat.eq_zero_or_pos n with rfl | hp
            · rfl
            · rw [ih hp]
              unfold starTurn
              rw [if_pos, List.range_succ, List.map_append]
              · rfl
              · refine .inr ⟨by omega, ?_, tt _⟩
                rw [List.mem_map]
                exact ⟨n - 1, List.mem_range.mpr (by omega), by omega⟩
        exact step _ (by omega)
      rw [es]
      have key : (T.length ∈ nxt T b2 i2 ((List.range T.length).map (· + 1))) ↔ okAt T b2 i2 (T.length - 1) = true := by
        simp only [nxt, List.mem_map, List.mem_filter, List.mem_range, Bool.and_eq_true, decide_eq_true_eq]
        constructor
        · rintro ⟨p, ⟨_, hp1, hp2⟩, hp3⟩
          have : p = T.length - 1 := by omega
          rw [← this]; exact hp2
        · intro h
          exact ⟨T.length - 1, ⟨⟨T.length - 2, by omega, by omega⟩, by omega, h⟩, by omega⟩
      rw [← a1]
      cases e : okAt T b2 i2 (T.length - 1) with
      | true => exact decide_eq_true (key.mpr e)
      | false => exact decide_eq_false fun h => by rw [key.mp h] at e; cases e
  refine main _ ?_ ?_ ?_ ?_
  · simp
  · rw [List.getD_eq_getElem?_getD]; simp
  · simp only [List.length_append, List.length_cons, List.length_nil]; omega
  · simp only [List.length_append, List.length_cons, List.length_nil]; omega
theorem takes_steps {a b : Nat} (c d : Bool) {i j : Nat} {mid : List Nat} (hm : mid.length ≤ 2) (ha : 1 ≤ a ∧ a ≤ 63) (hb : 1 ≤ b ∧ b ≤ 63) (hi : i < 6) (hj : j < 6) :
    takesB (stepsOf a b c d) ([ENDS.getD i 0] ++ mid ++ [ENDS.getD j 0]) = (bit a i && bit b j) := by
  obtain ⟨z1, o1⟩ := item_ok c ha.1 ha.2 hi
  obtain ⟨z2, o2⟩ := item_ok d hb.1 hb.2 hj
  have e : stepsOf a b c d = [Ck.val (itOf a c).ck, (1, true, []), Ck.val (itOf b d).ck] := rfl
  rw [e, takes_gen _ _ _ _ mid hm z1 z2, o1, o2]
/-- how many parts hold the pair of signs -/
noncomputable def cntP (i j : Nat) (ps : List (Nat × Nat)) : Nat := (ps.filter fun q => bit q.1 i && bit q.2 j).length
theorem cnt_kept {i j : Nat} {mid : List Nat} (hm : mid.length ≤ 2) (hi : i < 6) (hj : j < 6) : ∀ (ps : List (Nat × Nat)) (k : Nat), (∀ q ∈ ps, 1 ≤ q.1 ∧ q.1 ≤ 63 ∧ 1 ≤ q.2 ∧ q.2 ≤ 63) →
    (((ps.zipIdx k).map fun x => kstep x.2 x.1).filter fun xs => takesB xs ([ENDS.getD i 0] ++ mid ++ [ENDS.getD j 0])).length = cntP i j ps
  | [], k, _ => rfl
  | q :: r, k, h => by
    have hq := h q (.head _)
    have ih := cnt_kept hm hi hj r (k + 1) fun x hx => h x (.tail _ hx)
    rw [List.zipIdx_cons, List.map_cons, List.filter_cons]
    have e : takesB (kstep k q) ([ENDS.getD i 0] ++ mid ++ [ENDS.getD j 0]) = (bit q.1 i && bit q.2 j) := takes_steps _ _ hm ⟨hq.1, hq.2.1⟩ hq.2.2 hi hj
    dsimp only
    rw [e]
    unfold cntP at ih ⊢
    rw [List.filter_cons]
    split
    · rw [List.length_cons, List.length_cons, ih]
    · exact ih
theorem cnt_parts {i j n : Nat} : ∀ {ps : List (Nat × Nat)}, (∀ q ∈ ps, q.1 ≤ 63 ∧ q.2 ≤ 63) → cntP i j (partsOf n ps) = if (bit (firstOf n) i && bit (lastOf n) j) = true then 0 else cntP i j ps
  | [], _ => by simp [partsOf, cntP]
  | q :: r, h => by
    have hq := h q (.head _)
    have ih := cnt_parts (i := i) (j := j) (n := n) (ps := r) fun x hx => h x (.tail _ hx)
    have f1 : firstOf n < 64 := by unfold firstOf; omega
    have f2 : lastOf n < 64 := by unfold lastOf; omega
    have e : partsOf n (q :: r) = (halfL (firstOf n) (lastOf n) q).filter posB ++ partsOf n r := by
      unfold partsOf; rw [List.flatMap_cons, List.filter_append]
    have e1 : cntP i j (partsOf n (q :: r)) = cntP i j ((halfL (firstOf n) (lastOf n) q).filter posB) + cntP i j (partsOf n r) := by
      rw [e]; unfold cntP; rw [List.filter_append, List.length_append]
    have e2 : cntP i j (q :: r) = (if (bit q.1 i && bit q.2 j) = true then 1 else 0) + cntP i j r := by
      unfold cntP; rw [List.filter_cons]; split
      · rw [List.length_cons]; omega
      · omega
    have e3 : cntP i j ((halfL (firstOf n) (lastOf n) q).filter posB) = if (bit q.1 i && bit q.2 j && !(bit (firstOf n) i && bit (lastOf n) j)) = true then 1 else 0 := by
      unfold cntP
      rw [List.filter_filter]
      have drop : ∀ x : Nat × Nat, (bit x.1 i && bit x.2 j && posB x) = (bit x.1 i && bit x.2 j) := fun x => by
        cases h1 : bit x.1 i with
        | false => rfl
        | true =>
          cases h2 : bit x.2 j with
          | false => rfl
          | true => simp [posB, bit_pos h1, bit_pos h2]
      simp only [drop, halfL, List.filter_cons, List.filter_nil, bit_sub i (Nat.lt_succ_of_le hq.1) f1, bit_sub j (Nat.lt_succ_of_le hq.2) f2, bit_and]
      cases bit q.1 i <;> cases bit q.2 j <;> cases bit (firstOf n) i <;> cases bit (lastOf n) j <;> rfl
    rw [e1, e2, e3, ih]
    cases bit q.1 i <;> cases bit q.2 j <;> cases bit (firstOf n) i <;> cases bit (lastOf n) j <;> simp
noncomputable def names7 (tn : Nat) : List (List Nat) := (List.range 6).map (nameL tn) ++ [nameL tn 0]
theorem mid_len (j : Nat) : (midL j).length ≤ 2 := by
  unfold midL
  rcases j with _ | _ | _ | _ | j <;> simp
theorem mid_ok (j : Nat) : ∀ c ∈ midL j, c < 1114112 := by
  unfold midL
  rcases j with _ | _ | _ | _ | j <;> simp
theorem ends_ok (j : Nat) : ENDS.getD j 0 < 1114112 := by
  unfold ENDS
  rcases j with _ | _ | _ | _ | _ | _ | j <;> simp
theorem name_mem {tn : Nat} {x : List Nat} (h : x ∈ names7 tn) : ∃ i j mid, i < 6 ∧ j < 6 ∧ mid.length ≤ 2 ∧ (∀ c ∈ mid, c < 1114112) ∧ x = [ENDS.getD i 0] ++ mid ++ [ENDS.getD j 0] := by
  have one : ∀ k, k < 6 → ∃ i j mid, i < 6 ∧ j < 6 ∧ mid.length ≤ 2 ∧ (∀ c ∈ mid, c < 1114112) ∧ nameL tn k = [ENDS.getD i 0] ++ mid ++ [ENDS.getD j 0] := fun k hk => ⟨k, (k + tn) % 6, midL ((k + tn / 6) % 4), hk, Nat.mod_lt _ (by decide), mid_len _, mid_ok _, rfl⟩
  unfold names7 at h
  rcases List.mem_append.mp h with h | h
  · obtain ⟨k, hk, rfl⟩ := List.mem_map.mp h
    exact one k (List.mem_range.mp hk)
  · rw [List.mem_singleton.mp h]
    exact one 0 (by decide)
noncomputable def cntOf (ps : List (Nat × Nat)) (x : List Nat) : Nat := ((keptL ps ps.length).filter fun xs => takesB xs x).length
theorem parts_pos (n : Nat) (ps : List (Nat × Nat)) : ∀ q ∈ partsOf n ps, 1 ≤ q.1 ∧ 1 ≤ q.2 := fun q hq => by
  have h := (List.mem_filter.mp hq).2
  simp only [posB, Bool.and_eq_true, decide_eq_true_eq] at h
  exact h
theorem law_plain (n1 n2 tn : Nat) : (∀ q ∈ partsOf n2 (partsOf n1 [(63, 63)]), 1 ≤ q.1 ∧ q.1 ≤ 63 ∧ 1 ≤ q.2 ∧ q.2 ≤ 63) ∧ (∀ x ∈ names7 tn, cntOf (partsOf n2 (partsOf n1 [(63, 63)])) x < 2) ∧
    leftOf n2 (leftOf n1 (names7 tn)) = (names7 tn).filter fun x => cntOf (partsOf n2 (partsOf n1 [(63, 63)])) x == 1 := by
  have s0 : ∀ q ∈ [((63 : Nat), (63 : Nat))], q.1 ≤ 63 ∧ q.2 ≤ 63 := by decide
  have s1 := parts_small (n := n1) s0
  have s2 := parts_small (n := n2) s1
  have bnd : ∀ q ∈ partsOf n2 (partsOf n1 [(63, 63)]), 1 ≤ q.1 ∧ q.1 ≤ 63 ∧ 1 ≤ q.2 ∧ q.2 ≤ 63 := fun q hq => ⟨(parts_pos _ _ q hq).1, (s2 q hq).1, (parts_pos _ _ q hq).2, (s2 q hq).2⟩
  have f1 : ∀ n, 1 ≤ firstOf n ∧ firstOf n ≤ 63 := fun n => by unfold firstOf; omega
  have f2 : ∀ n, 1 ≤ lastOf n ∧ lastOf n ≤ 63 := fun n => by unfold lastOf; omega
  have main : ∀ x ∈ names7 tn, cntOf (partsOf n2 (partsOf n1 [(63, 63)])) x = if takesB (cutOf n2) x = true then 0 else if takesB (cutOf n1) x = true then 0 else 1 := by
    intro x hx
    obtain ⟨i, j, mid, hi, hj, hm, _, rfl⟩ := name_mem hx
    have e1 : takesB (cutOf n1) ([ENDS.getD i 0] ++ mid ++ [ENDS.getD j 0]) = (bit (firstOf n1) i && bit (lastOf n1) j) := takes_steps _ _ hm (f1 n1) (f2 n1) hi hj
    have e2 : takesB (cutOf n2) ([ENDS.getD i 0] ++ mid ++ [ENDS.getD j 0]) = (bit (firstOf n2) i && bit (lastOf n2) j) := takes_steps _ _ hm (f1 n2) (f2 n2) hi hj
    have e3 : cntOf (partsOf n2 (partsOf n1 [(63, 63)])) ([ENDS.getD i 0] ++ mid ++ [ENDS.getD j 0]) = cntP i j (partsOf n2 (partsOf n1 [(63, 63)])) := by
      unfold cntOf keptL
      rw [List.take_length]
      exact cnt_kept hm hi hj _ 0 bnd
    have e4 : cntP i j [((63 : Nat), (63 : Nat))] = 1 := by
      have : ∀ i, i < 6 → ∀ j, j < 6 → cntP i j [((63 : Nat), (63 : Nat))] = 1 := by decide
      exact this i hi j hj
    rw [e1, e2, e3, cnt_parts s1, cnt_parts s0, e4]
  refine ⟨bnd, fun x hx => ?_, ?_⟩
  · rw [main x hx]
    split
    · decide
    · split <;> decide
  · unfold leftOf
    rw [List.filter_filter]
    refine List.filter_congr fun x hx => ?_
    rw [main x hx]
    cases takesB (cutOf n2) x <;> cases takesB (cutOf n1) x <;> rfl
end Mine
namespace Mine
open PySem PySem.W PyProof.Rows PySem.Calls
theorem strs_cons {vs : List Value} {x : Str} {l : List Str} (h : StrsAre vs (x :: l)) : ∃ u ws, vs = .str x u :: ws ∧ StrsAre ws l := by
  cases h with | cons _ u h => exact ⟨u, _, rfl, h⟩
theorem six_strs {vs : List Value} {f : Nat → Str} (h : StrsAre vs ((List.range 6).map f)) : ∃ u0 u1 u2 u3 u4 u5, vs = [.str (f 0) u0, .str (f 1) u1, .str (f 2) u2, .str (f 3) u3, .str (f 4) u4, .str (f 5) u5] := by
  have e : (List.range 6).map f = [f 0, f 1, f 2, f 3, f 4, f 5] := rfl
  rw [e] at h
  have ⟨u0, _, e0, h⟩ := strs_cons h
  have ⟨u1, _, e1, h⟩ := strs_cons h
  have ⟨u2, _, e2, h⟩ := strs_cons h
  have ⟨u3, _, e3, h⟩ := strs_cons h
  have ⟨u4, _, e4, h⟩ := strs_cons h
  have ⟨u5, _, e5, h⟩ := strs_cons h
  cases h
  exact ⟨u0, u1, u2, u3, u4, u5, by rw [e0, e1, e2, e3, e4, e5]⟩
theorem law_body (w : World) (s : Shared) (Q : Flow → Shared → Prop) (E : Value → Shared → Prop) (p : Program) (loose : List Str) (mg mb : Str → Option Value) (g : Heap) (fa : Addr) (cd : Value) (L a : Addr) (vl : List Value) (zs : List Int)
   (o1 o2 o3 o4 o5 o6 o7 o8 : Obj) (m : Str → Option Value) (GW : LW w p loose mg mb g L) (hl : g.IsList a vl.toArray) (hi : IntsAre vl zs) (hn : zs.length ≤ 63)
   (hm : m (Str.ofString "script") = some (.ref a)) (F : Fr g L s.heap m)
   (N : News g L s.heap [(L + 1 + 1 + 1 + 1 + 1 + 1 + 1 + 1, o8), (L + 1 + 1 + 1 + 1 + 1 + 1 + 1, o7), (L + 1 + 1 + 1 + 1 + 1 + 1, o6), (L + 1 + 1 + 1 + 1 + 1, o5), (L + 1 + 1 + 1 + 1, o4), (L + 1 + 1 + 1, o3), (L + 1 + 1, o2), (L + 1, o1), (57, tabObj #[])])
   (d1 : o1.data = .cell none) (d2 : o2.data = .cell none) (d3 : o3.data = .cell none) (d4 : o4.data = .cell none) (d5 : o5.data = .cell none) (d6 : o6.data = .cell none) (d7 : o7.data = .cell none) (d8 : o8.data = .cell none)
   (hQ : ∀ h' tk' gs op, (AllBare s.gens → AllBare gs) → (∀ b o, g.get? b = some o → h'.get? b = some o) → h'.get? 57 = some op → Tab op → Q (.ret (.bool true)) { s with heap := h', toks := tk', gens := gs }) :
   wpAny (model PySem.Challenge.rw_ij0087_01.row.prog w) (callerA.deeper (lawEnv L fa cd)) (execs lawDef.body (lawEnv L fa cd)) Q E s := by
  have eb : lawDef.body = lawSt 0 :: lawSt 1 :: lawSt 2 :: lawSt 3 :: lawSt 4 :: lawSt 5 :: [lawSt 6, lawSt 7, lawSt 8, lawSt 9, lawSt 10] := rfl
  rw [eb]
  have t0 : Tab (tabObj #[]) := ⟨#[], rfl, trivial⟩
  refine head_st w s Q E p loose mg mb g fa cd L a vl zs _ o1 o2 o3 o4 o5 o6 o7 o8 _ m GW hl hi hn hm F N d1 d2 fun h1 tk1 n1 n2 t1 t2 NB o1' o2' te tt m1 hn1 hn2 d1' d2' hm1 F1 N1 hNB => ?_
  generalize hT : n1 / 15876 + n2 / 15876 = tn at d2'
  have htn : tn ≤ 124 := by omega
  have gN : g.get? NB = none := (N1 _ (.head _)).2.2
  refine wpAny_execs_cons (names_st w _ _ _ p loose mg mb g fa cd L tn te tt m1 _ NB o1' o2' o3 o4 o5 o6 o7 o8 _ GW htn F1 N1 d1' d2' d3 hNB fun h2 tk2 D k2 ys o3' d3' hys F2 N2 hD => ?_)
  obtain ⟨u0, u1, u2, u3, u4, u5, rfl⟩ := six_strs hys
  refine left_st w _ _ _ p loose mg mb g fa cd L m1 _ NB D k2 _ _ _ _ _ _ u0 u1 u2 u3 u4 u5 _ none none none none none o1' o2' o3' o4 o5 o6 o7 o8 _ GW F2 N2 d3' d4 d5 d6 d7 d8 t0 hNB hD fun h3 tk3 m3 T3 hN3 eN3 hm3 => ?_
  have e7 : [nameL tn 0, nameL tn 1, nameL tn 2, nameL tn 3, nameL tn 4, nameL tn 5, nameL tn 0] = names7 tn := rfl
  rw [e7] at T3 hN3
  have hlen : ∀ x ∈ names7 tn, x.length ≤ 4 := fun x hx => by
    obtain ⟨i, j, mid, _, _, hm, _, rfl⟩ := name_mem hx
    simp only [List.length_append, List.length_cons, List.length_nil]; omega
  have hok : ∀ x ∈ names7 tn, ∀ c ∈ x, c < 1114112 := fun x hx c hc => by
    obtain ⟨i, j, mid, _, _, _, hm, rfl⟩ := name_mem hx
    simp only [List.mem_append, List.mem_cons, List.not_mem_nil, or_false] at hc
    rcases hc with (rfl | hc) | rfl
    · exact ends_ok _
    · exact hm c hc
    · exact ends_ok _
  have h7 : (names7 tn).length = 7 := rfl
  refine wpAny_execs_cons (loop_st w _ _ _ p loose mg mb g fa cd L m3 _ _ _ n1 n2 t1 t2 (names7 tn) NB GW T3 (hm3.trans hm1) ⟨_, eN3, rfl, _, rfl⟩ gN hn1 hn2 hlen (by omega) fun h4 tk4 gs4 m4 hb4 T4 K4 => ?_)
  obtain ⟨_, _, _, _, _, S3, _⟩ := T3
  obtain ⟨v4, v5, v6, LA, PA, S4, hl4, hp4, hy4, hP4⟩ := T4
  have hN4 := S3.names K4 hN3
  obtain ⟨hps, hlt, hlaw⟩ := law_plain n1 n2 tn
  have hpl : (partsOf n2 (partsOf n1 [(63, 63)])).length ≤ 50 := by
    have q1 := parts_len n2 (partsOf n1 [(63, 63)])
    have q2 := parts_len n1 [(63, 63)]
    simp only [List.length_cons, List.length_nil] at q2
    omega
  generalize hPS : partsOf n2 (partsOf n1 [(63, 63)]) = ps at *
  refine wpAny_execs_cons (kept_st w _ _ _ p loose mg mb g fa cd L m4 _ v4 v5 v6 _ _ GW S4 fun h5 tk5 K hK0 hK S5 K5 => ?_)
  have gK : g.get? K = none := by
    cases e : g.get? K with
    | none => rfl
    | some o => have := S4.F.keep _ _ e; rw [hK0] at this; cases this
  refine wpAny_execs_cons (keptloop_st w { s with heap := h4 } _ _ _ p loose mg mb g fa cd L m4 _ v4 v5 v6 _ K LA PA ps GW S5 hl4 hp4 K5 hP4 (S4.pairs K5 hP4) hK0 gK hK hps hpl ⟨_, _, _, _, _, _, _, S4⟩ fun h6 tk6 gs6 m6 hb6 S6 hl6 hK6 K6 => ?_)
  have hy6 := S4.names K6 hy4
  have hN6 := S4.names K6 hN4
  refine wpAny_execs_cons (hits_st w _ _ _ p loose mg mb g fa cd L m6 v4 v5 v6 _ K D (keptL ps ps.length) (names7 tn) GW S6 hK6 (Nat.le_trans (keptL_len _ _) (by omega)) hN6 hlen (by omega) fun h8 tk8 HA hs hHA hhs S8 K8 => ?_)
  rw [hlaw] at hy6
  refine wpAny_execs_cons (ret_st w _ _ _ p loose mg mb g fa cd L m6 v4 v5 v6 _ LA D HA hs (cntOf ps) (names7 tn) GW S8 hl6 (S6.names K8 hN6) (S6.names K8 hy6) hHA hhs h7 hok hlt fun h9 tk9 kg ht => ?_)
  obtain ⟨op, e9, t9⟩ := ht
  exact hQ _ _ _ op (fun x => hb6 (hb4 x)) kg e9 t9
end Mine
namespace Mine
open PySem PySem.W PyProof.Rows PySem.Calls
theorem my_post {M : Model} {A : Around} {cd : Code} {s s₁ : Shared} {cw : ClaimW} {cl : Str → Option Addr} {mean : ExcName → Option Value} {args : List WData} {tabs : List (Addr × Addr)} (hT : TabsAt tabs s₁.heap) (hr : ∀ a x, cw.raises a x = false)
    (hp : cw.post args (.bool true) args = true)
    (h : codeAny M A cd (fun r s' => (r = .ok (.ret (.bool true)) ∧ (∀ b o, (ghostOf s₁.heap tabs).get? b = some o → s'.heap.get? b = some o) ∧ s'.os = s₁.os ∧ AllBare s'.gens) ∧ GrownAll tabs s'.heap) s) : codeAny M A cd (GoodWG cw cl mean args s₁) s :=
  codeAny_mono h fun r s' ⟨⟨hc, hk, hos, hg⟩, hgr⟩ => by
    have keep : ∀ b o, b ∉ tabs.map (·.2) → s₁.heap.get? b = some o → s'.heap.get? b = some o := fun b o hb e => hk b o (ghost_ne e hb)
    have grown : ∀ b o, b ∈ tabs.map (·.2) → s₁.heap.get? b = some o → isCodeTable s₁.heap b ∧ o = tabObj #[] ∧ ∃ ps, s'.heap.get? b = some (tabObj ps) := fun b o hb e => by
      obtain ⟨q, hq, rfl⟩ := List.mem_map.mp hb
      have e2 := (hT q hq).2
      rw [e] at e2
      exact ⟨((hT q hq).1.tab (hT q hq).2).isCodeTable, Option.some.inj e2, hgr.get q hq⟩
    refine ⟨.inl ⟨.bool true, .bool true, [], hc, fun c => hr _ _, ?_, hp, fun _ => ⟨.nil, fun a ha => nomatch ha⟩⟩, ⟨fun b o e => ?_, fun b o e => ?_⟩, hos, hg⟩
    · exact .bool true
    · by_cases hb : b ∈ tabs.map (·.2)
      · obtain ⟨ht, rfl, ps, hP⟩ := grown b o hb e
        exact .inr (.inl ⟨ht, rfl, #[], ps, rfl, by rw [Array.empty_append]; exact hP⟩)
      · exact .inl (keep b o hb e)
    · by_cases hb : b ∈ tabs.map (·.2)
      · obtain ⟨_, _, ps, hP⟩ := grown b o hb e
        exact ⟨_, hP⟩
      · exact ⟨o, keep b o hb e⟩
theorem bare_nil : AllBare (#[] : Array GenState) := by simp [AllBare]
end Mine
open Lean in
local macro_rules | `(tactic| kn_posts) => do `(tactic| refine Mine.my_post $(mkIdent `hT9) (fun _ _ => rfl) (by first | rfl | kernel_rfl) ?_)
theorem PySem.Challenge.cw_ij0087_01_holds : PySem.Challenge.rw_ij0087_01.Holds := by
  refine Mine.hd ?_
  intro w s₀ s₁ mg mb G Y fa o pm cd doc dV kV ho hd hcd hD hmg hg args vals as hpre hlay hrd hwl hlo
  have KX := km_in_of Y
  revert KX
  k_fill
  intro KX
  km_tabs Y
  have X := (Ground.X G).1
  have V := (Ground.X G).2
  refine Ground.open G ?_
  intro T B D TE TW
  try (refine guard_noD D (by decide +kernel) ?_; clear D)
  km_lay T hmg ho hd cd
  clear hmg
  wrow_args hpre hlay hrd hwl hlo
  all_goals (
    first | refine callC_kw (enter_call ?_) | refine enter_call ?_
    w_top on
    kn_posts
    w_call any ho hd hcd hD T F
    clear hd
    kn_ghosts F T
    k_drop
    skip)
  (with_reducible rename Fr _ _ _ _ => kF); (with_reducible rename News _ _ _ _ => kN); (with_reducible rename Frag.In _ _ => kX)
  rename IntsAre _ _ => kI
  rename Top topProg _ _ _ _ _ => kT
  rename 57 < _ => k57
  have g57 : (ghostOf _ [(61, 57)]).get? 57 = none := (kN (57, tabObj #[]) (by k_mem)).2.2
  refine Mine.law_body _ _ _ _ _ _ _ _ _ _ _ _ _ _ _ _ _ _ _ _ _ _ _ _ ⟨kX, topRead_of kT, Mine.top_bmain kT g57, codeHd, g57, k57⟩ lifted kI ?_ ?_ kF kN ?_ ?_ ?_ ?_ ?_ ?_ ?_ ?_ ?_
  · first | assumption | omega
  · rfl
  · assumption
  · assumption
  · assumption
  · assumption
  · assumption
  · assumption
  · assumption
  · assumption
  · intro h' tk' gs op hb hk e t
    obtain ⟨ps, rfl, _⟩ := t
    refine ⟨⟨rfl, hk, rfl, hb ?_⟩, ?_⟩
    · rename _ = (#[] : Array GenState) => hg0
      exact (congrArg AllBare hg0).mpr Mine.bare_nil
    · exact ⟨⟨ps, e⟩, trivial⟩
