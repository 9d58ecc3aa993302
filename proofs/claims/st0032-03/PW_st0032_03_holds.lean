import PyProof.Rows.All
import Wide.All
import OpenK.AllK
import Wide.FinOn
import Lean
import PySem.Challenge.RW_st0032_03

set_option Elab.async false
set_option linter.unusedVariables false
set_option linter.unusedSimpArgs false

set_option maxRecDepth 100000
set_option maxHeartbeats 4000000
namespace Mine
open PySem PySem.W PyProof.Rows
theorem zC {α : Type _} {x : α} {C : Prop} (e : (none : Option α) = some x) : C := nomatch e
theorem byC {G : Prop} (h : ¬ G → False) : G := Classical.byContradiction h
theorem zAj {α : Type _} {c : Prop} [Decidable c] {x : Option α} {r : α} {C : Prop} (e : (if c then x else none) = some r) (h : c → x = some r → C) : C := by
 by_cases hc : c
 ·exact h hc ((if_pos hc).symm.trans e)
 ·exact zC ((if_neg hc).symm.trans e)
noncomputable def ND : Step → Prop
 | .halt (.done _) _ => False
 | _ => True
theorem zDE {c : Prop} [Decidable c] {a b : Step} (ha : ND a) (hb : ND b) : ND (if c then a else b) := by
 by_cases h : c
 ·rw [if_pos h]; exact ha
 ·rw [if_neg h]; exact hb
theorem zIg {den : Code → Sem Fin} {p : Program} {w : World} {heap : Heap} {gens : Array GenState} {drawn : Drawn} {toks : Nat} {os : OsState} {cur : Sem Fin} {code : Code} {pos : Pos} {stack : List Frame}
  (h : ∀ g, cur = .pure (.done g) → stack = [] → False) : ND (PySem.step den p w ⟨heap, gens, drawn, toks, os⟩ ⟨cur, code, pos, stack⟩) := by
 cases cur with
 | pure x =>
  cases x with
  | again c => trivial
  | done g =>
   cases stack with
   | nil => exact (h g rfl rfl).elim
   | cons F r => cases F <;> trivial
 | raise e =>
  cases stack with
  | nil => exact zDE trivial trivial
  | cons F r => cases F <;> trivial
 | finish e => exact zDE trivial trivial
 | load a b k =>
  unfold PySem.step
  dsimp only
  generalize heap.get? a = x
  cases x <;> trivial
 | update a b f k => exact zDE trivial trivial
 | choose a n k => exact zDE trivial trivial
 | genState g k =>
  unfold PySem.step
  dsimp only
  generalize gens[g]? = x
  cases x <;> trivial
 | resume g r l k =>
  unfold PySem.step
  dsimp only
  generalize gens[g]? = x
  cases x with
  | none => trivial
  | some y =>
   cases y with
   | fresh c =>
    cases r with
    | send v => cases v <;> trivial
    | throw e => trivial
   | _ => trivial
 | yield v g0 l kk =>
  unfold PySem.step
  dsimp only
  generalize splitAtGen stack = x
  cases x <;> trivial
 | _ => trivial
theorem zIh {den : Code → Sem Fin} {p : Program} {w : World} {s s' : Shared} {t : Thread} {f : Flow}
  (h : PySem.step den p w s t = .halt (.done f) s') : through t = true ∧ s' = s := by
 obtain ⟨heap, gens, drawn, toks, os⟩ := s
 obtain ⟨cur, code, pos, stack⟩ := t
 by_cases hc : ∃ g, cur = .pure (.done g) ∧ stack = []
 ·obtain ⟨g, rfl, rfl⟩ := hc
  have h : (if leftWithCleanup gens = true then Step.halt (.unsupported "lifetime:generator-with-cleanup-left-suspended") ⟨heap, gens, drawn, toks, os⟩ else Step.halt (.done g) ⟨heap, gens, drawn, toks, os⟩) = .halt (.done f) s' := h
  by_cases hl : leftWithCleanup gens = true
  ·rw [if_pos hl] at h; cases h
  ·rw [if_neg hl] at h; cases h; exact ⟨rfl, rfl⟩
 ·have := zIg (den := den) (p := p) (w := w) (heap := heap) (gens := gens) (drawn := drawn) (toks := toks) (os := os) (cur := cur) (code := code) (pos := pos) (stack := stack) fun g h1 h2 => hc ⟨g, h1, h2⟩
  rw [h] at this
  exact this.elim
theorem zFe {den : Code → Sem Fin} {p : Program} {w : World} {f : Flow} {s' : Shared} : ∀ (n : Nat) (s : Shared) (t : Thread),
  runN den p w n s t = .halted (.done f) s' → ∃ k t', k < n ∧ runN den p w k s t = .running s' t' ∧ through t' = true
 | 0, _, _, h => by simp [runN] at h
 | n + 1, s, t, h => by
  unfold runN at h
  cases hs : PySem.step den p w s t with
  | go s₁ t₁ =>
   rw [hs] at h
   obtain ⟨k, t', hk, hr, ht⟩ := zFe n s₁ t₁ h
   exact ⟨k + 1, t', Nat.succ_lt_succ hk, by simp only [runN, hs]; exact hr, ht⟩
  | halt o s₁ =>
   rw [hs] at h
   cases h
   obtain ⟨h1, rfl⟩ := zIh hs
   exact ⟨0, t, Nat.succ_pos n, rfl, h1⟩
theorem zIi {prog : Program} {w : World} {t : Sem Fin} {s : Shared} {R : Shared → Prop} (hreg : s.asleep)
  (h : wpAny (model prog w) callerA t (fun fin s' => (∃ f, fin = .done f) ∧ R s' ∧ s'.gens = #[]) (fun _ _ => False) s) :
  ∃ n t' s', schedN (denote table) prog w n (.single s ⟨t, .builtin "claim.caller" {}, default, []⟩) = .running (.single s' t') ∧ through t' = true ∧
   R s' ∧ s'.heap.life = s.heap.life ∧ s'.gens = #[] := by
 have h' := wp_of_wpAny_done (R := fun r s' => ((∃ f, r = .ok f) ∧ R s' ∧ s'.gens = #[]) ∧ leftWithCleanup s'.gens = false) caller_in
  (wpAny_mono h (fun fin s' ⟨⟨f, e⟩, hR, hg⟩ => ⟨f, e, ⟨⟨f, rfl⟩, hR, hg⟩, by rw [hg]; unfold leftWithCleanup; rw [← Array.any_toList]; rfl⟩) fun _ _ x => x.elim) default
 obtain ⟨n, r, s₁, hn, ⟨⟨f, rfl⟩, hR, hg⟩⟩ := (wp_iff_halts (M := model prog w) t (fun r s' => (∃ f, r = .ok f) ∧ R s' ∧ s'.gens = #[]) default s).mp h'
 apply byC; intro kz; obtain ⟨s₂, hr, hf, hc⟩ := runNI_real (model prog w).den (model prog w).prog (model prog w).w hn (outcomeOf_ends _); apply kz; clear kz
 apply byC; intro kz; obtain rfl := Shared.eq_of_forget_eq hf hg; apply kz; clear kz
 apply byC; intro kz; obtain ⟨k, t', hk, hk1, hk2⟩ := zFe n s _ hr; apply kz; clear kz
 refine ⟨k, t', s₂, ?_, hk2, hR, runN_life _ _ _ hr, hg⟩
 rw [schedN_prefix (denote table) prog w k s _ hreg (fun j s' t'' hj hrun => ⟨hc j s' t'' hrun, fun hx => ?_⟩)]
 ·show (runN (denote table) prog w k s _).lift = _
  have : runN (denote table) prog w k s ⟨t, .builtin "claim.caller" {}, default, []⟩ = .running s₂ t' := hk1
  rw [this]; rfl
 ·have e1 : runN (denote table) prog w (j + 1) s ⟨t, .builtin "claim.caller" {}, default, []⟩ = .halted (.unsupported "lifetime:generator-with-cleanup-left-suspended") s' := by
   have key : ∀ (j : Nat) (s : Shared) (t : Thread), runN (denote table) prog w j s t = .running s' t'' →
     runN (denote table) prog w (j + 1) s t = .halted (.unsupported "lifetime:generator-with-cleanup-left-suspended") s' := by
    intro j
    induction j with
    | zero => intro s t h; cases h; simp only [runN, hx]
    | succ j ih =>
     intro s t h
     unfold runN at h ⊢
     cases hs : PySem.step (denote table) prog w s t with
     | go s₁ t₁ => rw [hs] at h; exact ih s₁ t₁ h
     | halt o s₁ => rw [hs] at h; cases h
   exact key j s _ hrun
  have mono : ∀ (a b : Nat) (s : Shared) (t : Thread) (o : Outcome) (s' : Shared), runN (denote table) prog w a s t = .halted o s' → a ≤ b → runN (denote table) prog w b s t = .halted o s' := by
   intro a
   induction a with
   | zero => intro b s t o s' h; cases h
   | succ a ih =>
    intro b s t o s' h hab
    obtain ⟨b, rfl⟩ : ∃ c, b = c + 1 := ⟨b - 1, by lia⟩
    unfold runN at h ⊢
    cases hs : PySem.step (denote table) prog w s t with
    | go s₁ t₁ => rw [hs] at h; exact ih b s₁ t₁ o s' h (by lia)
    | halt o' s₁ => rw [hs] at h; exact h
  have e2 := mono (j + 1) n s _ _ _ e1 (by lia)
  have e3 : runN (denote table) prog w n s ⟨t, .builtin "claim.caller" {}, default, []⟩ = .halted (.done f) s₂ := hr
  rw [e3] at e2
  cases e2
noncomputable def BootS (p : Program) (s : Shared) : Prop :=
 ∃ hp tk mb mg c Pl, BootLeft9 p hp mb mg c Pl ∧ s = ⟨hp, #[], {}, tk, (start p).1.os⟩
theorem zIj {p : Program} {w : World} (hb : p.main.body = []) (hmore : p.main.more = [])
  : (∃ s, AfterRun p w s) ∧ ∀ s, AfterRun p w s → BootS p s := by
 refine AfterImport.of_body9 (P := BootS p) (out := #[]) (fun hp tk mb mg c Pl F hB => ?_) hmore
 rw [hb]
 refine codeAny_body rfl rfl (wpAny_mono (E := fun _ _ => False) (wpAny_execs_nil ?_) (fun _ _ x => x) fun _ _ x => x.elim)
 exact ⟨⟨_, rfl⟩, .of hB.toBootLeft (fun _ _ _ _ e => e) hB.g, ⟨hp, tk, mb, mg, c, Pl, hB, rfl⟩, rfl⟩
section
variable {prog : Program} {w : World} {A : Around} {E : Value → Shared → Prop}
noncomputable abbrev IK (prog : Program) (w : World) := intKind prog w
inductive zo : List (Int × Value) → List (Int × Str) → Prop
 | nil : zo [] []
 | cons {k : Int} {x : Str} {t : Tok} {l r} : zo l r → zo ((k, .str x t) :: l) ((k, x) :: r)
theorem zo.keys {l : List (Int × Value)} {r : List (Int × Str)} (h : zo l r) : l.map (·.1) = r.map (·.1) := by
 induction h with
 | nil => rfl
 | cons _ ih => rw [List.map_cons, List.map_cons, ih]
theorem zo.length {l r} (h : zo l r) : l.length = r.length := by
 have := congrArg List.length h.keys
 simpa using this
theorem zo.append {l l' : List (Int × Value)} {r r' : List (Int × Str)} (h : zo l r) (h' : zo l' r') : zo (l ++ l') (r ++ r') := by
 induction h with
 | nil => exact h'
 | cons _ ih => exact .cons ih
theorem zo.snoc {l r} (h : zo l r) (k : Int) (x : Str) (t : Tok) : zo (l ++ [(k, .str x t)]) (r ++ [(k, x)]) := h.append (.cons .nil)
noncomputable def kT (p : Int × Str) : Sem Value := mkInt p.1
noncomputable def vT (pos : Pos) (p : Int × Str) : Sem Value := do let x ← mkText p.2; standAt pos; pure x
noncomputable def pT (pos : Pos) (p : Int × Str) : Sem Value × Sem Value := (kT p, vT pos p)
theorem wp_kT {p : Int × Str} {s : Shared} {Q : Value → Shared → Prop} (h : Q (.int p.1 s.toks) { s with toks := s.toks + 1 }) :
  wpAny (model prog w) A (kT p) Q E s := wpAny_mkInt h
theorem wp_vT {pos : Pos} {p : Int × Str} {s : Shared} {Q : Value → Shared → Prop} (h : Q (.str p.2 s.toks) { s with toks := s.toks + 1 }) :
  wpAny (model prog w) A (vT pos p) Q E s := wpAny_bind (wpAny_mkText (wpAny_bind (wpAny_standAt (wpAny_pure h))))
structure Kept (s s' : Shared) : Prop where
 old : ∀ b o, s.heap.get? b = some o → s'.heap.get? b = some o
 size : s.heap.objs.size ≤ s'.heap.objs.size
 gens : s'.gens = s.gens
 drawn : s'.drawn = s.drawn
 os : s'.os = s.os
theorem Kept.refl (s : Shared) : Kept s s := ⟨fun _ _ e => e, Nat.le_refl _, rfl, rfl, rfl⟩
theorem Kept.trans {a b c : Shared} (x : Kept a b) (y : Kept b c) : Kept a c :=
 ⟨fun b o e => y.old b o (x.old b o e), Nat.le_trans x.size y.size, y.gens.trans x.gens, y.drawn.trans x.drawn, y.os.trans x.os⟩
theorem Kept.toks {a b : Shared} (x : Kept a b) (t : Nat) : Kept a { b with toks := t } := ⟨x.old, x.size, x.gens, x.drawn, x.os⟩
theorem Kept.push {a b : Shared} (x : Kept a b) (o : Obj) : Kept a { b with heap := b.heap.push o } :=
 ⟨fun c o' e => Heap.get?_push_of_some o (x.old c o' e), by show _ ≤ (b.heap.push o).objs.size; rw [Heap.size_push]; exact Nat.le_succ_of_le x.size, x.gens, x.drawn, x.os⟩
theorem Kept.but {a b : Shared} (x : Kept a b) {h' : Heap} {d : Addr} (hs : Heap.SameBut d b.heap h') (hd : a.heap.objs.size ≤ d) : Kept a { b with heap := h' } :=
 ⟨fun c o e => (hs.2 c (Nat.ne_of_lt (Nat.lt_of_lt_of_le (Heap.lt_size e) hd))).trans (x.old c o e), by show _ ≤ h'.objs.size; rw [hs.1]; exact x.size, x.gens, x.drawn, x.os⟩
theorem zFf (pos : Pos) : ∀ (prs : List (Int × Str)) (s : Shared) (Q : List (Value × Value) → Shared → Prop),
  (∀ vs kvs tk, Carries (IK prog w) vs kvs → zo kvs prs → Q vs { s with toks := tk }) →
  wpAny (model prog w) A (evalPairs (prs.map (pT pos))) Q E s
 | [], s, Q, h => evalPairs_nil (h [] [] s.toks trivial .nil)
 | p :: prs, s, Q, h => by
  rw [List.map_cons]
  refine evalPairs_cons (wp_kT (wp_vT (zFf pos prs _ _ fun vs kvs tk hc hl => ?_)))
  exact h _ ((p.1, .str p.2 _) :: kvs) tk ⟨by simp [IK, intKind, Value.isInt], rfl, hc⟩ (.cons hl)
theorem zIk {kvs : List (Int × Value)} {k : Int} {v : Value} (h : k ∉ kvs.map (·.1)) : stored kvs k v = kvs ++ [(k, v)] := by
 unfold stored
 rw [if_neg]
 rw [List.any_eq_true]
 rintro ⟨kv, hkv, he⟩
 exact h (List.mem_map.mpr ⟨kv, hkv, of_decide_eq_true he⟩)
theorem zFg (pos : Pos) {d : Addr} (s₀ : Shared) (hd0 : s₀.heap.objs.size ≤ d) : ∀ (prs done : List (Int × Str)) (kvs : List (Int × Value)) (s : Shared) (Q : PUnit → Shared → Prop),
  ((done ++ prs).map (·.1)).Nodup → (done ++ prs).length ≤ 1000 → zo kvs done → s.heap.DictOf (IK prog w) d kvs → Kept s₀ s →
  (∀ kvs' s', zo kvs' (done ++ prs) → s'.heap.DictOf (IK prog w) d kvs' → Kept s₀ s' → Q PUnit.unit s') →
  wpAny (model prog w) A (forIn (prs.map (pT pos)) PUnit.unit fun (x : Sem Value × Sem Value) (_ : PUnit) =>
   (do
    let kv ← x.1
    let vv ← holding [kv] x.2
    holding [kv, vv] (dictSet d kv vv)
    pure (ForInStep.yield PUnit.unit) : Sem (ForInStep PUnit))) Q E s
 | [], done, kvs, s, Q, _, _, hl, hm, hk, h => by
  rw [List.map_nil, List.forIn_nil]
  exact wpAny_pure (h kvs s (by simpa using hl) hm hk)
 | p :: prs, done, kvs, s, Q, hn, hz, hl, hm, hk, h => by
  rw [List.map_cons, List.forIn_cons]
  have hfresh : p.1 ∉ kvs.map (·.1) := by
   rw [hl.keys]
   intro hmem
   rw [List.map_append, List.map_cons] at hn
   have := (List.nodup_append.mp hn).2.2 p.1 hmem p.1 (List.mem_cons_self ..)
   exact this rfl
  have hsz : kvs.length ≤ sizeLine := by
   rw [hl.length, sizeLine_eq]
   rw [List.length_append] at hz
   lia
  refine wpAny_bind (wpAny_bind (wp_kT (wpAny_bind (wpAny_holding (wp_vT (wpAny_bind (wpAny_holding (wpAny_dictSet_pairs (knd := IK prog w) (k := p.1) (hsz := hsz) (by simp [IK, intKind, Value.isInt]) hm
   fun h' hm' hs' => wpAny_pure ?_))))))))
  rw [zIk hfresh] at hm'
  refine zFg pos s₀ hd0 prs (done ++ [p]) _ _ Q (by simpa using hn) (by simpa using hz) (hl.snoc p.1 p.2 _) hm' ?_ (fun kvs' s' a b c => h kvs' s' (by simpa using a) b c)
  exact (((hk.toks _).toks _).but hs' hd0).toks _
theorem zFh (pos : Pos) {s₀ s : Shared} (hk : Kept s₀ s) (prs : List (Int × Str)) {Q : Addr → Shared → Prop} (hn : (prs.map (·.1)).Nodup) (hz : prs.length ≤ 1000)
  (h : ∀ d kvs s', s.heap.objs.size ≤ d → zo kvs prs → s'.heap.DictOf (IK prog w) d kvs → Kept s s' → Q d s') :
  wpAny (model prog w) A (subDict (prs.map (pT pos))) Q E s := by
 unfold subDict
 refine wpAny_bind (wpAny_alloc (wpAny_bind (wpAny_holding ?_)))
 have hnew : (s.heap.push { cls := .type "dict", data := .dict #[] }).DictOf (IK prog w) s.heap.objs.size [] := Heap.DictOf.new s.heap
 have hk1 : Kept s { s with heap := s.heap.push { cls := .type "dict", data := .dict #[] } } := (Kept.refl s).push _
 split
 ·refine wpAny_bind (zFf pos prs _ _ fun vs kvs tk hc hl => wpAny_holding ?_)
  refine wpAny_bind (wpAny_storeAll (knd := IK prog w) vs kvs [] _ _ hc hnew (by rw [hl.length, sizeLine_eq]; simp; lia) fun h' hm' hs' => wpAny_pure (wpAny_pure ?_))
  rw [merged_nil_of_nodup _ (by rw [hl.keys]; exact hn)] at hm'
  exact h _ kvs _ (Nat.le_refl _) hl hm' (((hk1.toks _).but hs' (Nat.le_refl _)).toks _)
 ·refine wpAny_bind (wpAny_rule (wpAny_bind (zFg pos s (Nat.le_refl _) prs [] [] _ _ (by simpa using hn) (by simpa using hz) .nil hnew hk1 fun kvs s' hl hm hk' => wpAny_pure (wpAny_pure ?_))))
  exact h _ kvs s' (Nat.le_refl _) (by simpa using hl) hm hk'
end
section
variable {prog : Program} {w : World} {A : Around} {E : Value → Shared → Prop}
theorem zIl {d : Addr} {kvs : List (Int × Value)} {k : Int} {key v : Value} {s : Shared} {Q : Unit → Shared → Prop} (hkey : (IK prog w).is k key = true) (hm : s.heap.DictOf (IK prog w) d kvs)
  (hf : k ∉ kvs.map (·.1)) (hsz : kvs.length ≤ sizeLine)
  (hQ : ∀ h', h'.DictOf (IK prog w) d (kvs ++ [(k, v)]) → Heap.SameBut d s.heap h' → Q () { s with heap := h' }) :
  wpAny (model prog w) A (dictPut d ((IK prog w).hash k) key v) Q E s := by
 apply byC; intro kz; obtain ⟨o, es, ep, ho, hc, hd, hk, hp, hn⟩ := hm; apply kz; clear kz
 have hes : es.size ≤ sizeLine := by
  have e1 := hp.length
  have e2 : es.toList.length = es.size := by simp
  lia
 unfold dictPut
 refine wpAny_bind (wpAny_dictFind_of hkey ho hd hk ?_)
 have hidx : (es.findIdx? fun e => (IK prog w).is k e.key) = kvs.findIdx? fun kv => decide (kv.1 = k) := by
  rw [← hp.findIdx k]; obtain ⟨l⟩ := es; simp
 have hnone : (es.findIdx? fun e => (IK prog w).is k e.key) = none := by
  rw [hidx, List.findIdx?_eq_none_iff]
  intro kv hkv
  exact decide_eq_false fun e => hf (List.mem_map.mpr ⟨kv, hkv, e⟩)
 rw [hnone]
 refine wpAny_updateDictKeys (hz := hes) ho hd (hQ _ ⟨_, _, ep + 1, Heap.get?_update_self _ ho (Obj.isFreed_of_dict (Obj.data_mapDictKeys hd _)),
   hc.mapDictKeys _, Obj.data_mapDictKeys hd _, hk.push hkey _, ?_, ?_⟩ (Heap.SameBut.update ..))
 ·have := hp.append hkey ((IK prog w).hash k) v
  apply byC; intro kz; obtain ⟨l⟩ := es; apply kz; clear kz
  simpa using this
 ·rw [List.map_append, List.nodup_append]
  refine ⟨hn, by simp, ?_⟩
  intro a ha b hb
  simp only [List.map_cons, List.map_nil, List.mem_singleton] at hb
  subst hb
  exact fun e => hf (e ▸ ha)
inductive MInv (prog : Program) (w : World) (d o : Addr) (kvs more : List (Int × Value)) (oo : Obj) (s : Shared) (n : Nat) (rest : List Nat) (s' : Shared) : Prop
 | mk (h' : Heap) (i : Nat) (e : s' = { s with heap := h' }) (hr : rest = List.range' i (n - i)) (hi : i ≤ n) (hd : h'.DictOf (IK prog w) d (kvs ++ more.take i)) (ho : h'.get? o = some oo) (hs : Heap.SameBut d s.heap h') : MInv prog w d o kvs more oo s n rest s'
theorem zIm {d o : Addr} {kvs more : List (Int × Value)} {s : Shared} {Q : Unit → Shared → Prop} (hdo : d ≠ o) (hoS : (o == sysModules) = false)
  (hd : s.heap.DictOf (IK prog w) d kvs) (ho : s.heap.DictOf (IK prog w) o more) (hne : kvs ≠ []) (hnd : ((kvs ++ more).map (·.1)).Nodup) (hsz : (kvs ++ more).length ≤ sizeLine)
  (hQ : ∀ h', h'.DictOf (IK prog w) d (kvs ++ more) → Heap.SameBut d s.heap h' → Q () { s with heap := h' }) :
  wpAny (model prog w) A (mergeMapping d (.ref o) false) Q E s := by
 apply byC; intro kz; obtain ⟨od, esd, epd, hod, hcd, hdd, hkd, hpd, hnd'⟩ := id hd; apply kz; clear kz
 apply byC; intro kz; obtain ⟨oo, eso, epo, hoo, hco, hdo', hko, hpo, hno⟩ := id ho; apply kz; clear kz
 have hlen : more.length = eso.size := by rw [← hpo.length]; simp
 have hemp : esd.isEmpty = false := by
  cases h : esd.isEmpty with
  | false => rfl
  | true =>
   exfalso
   have h0 : esd = #[] := Array.isEmpty_iff.mp h
   have := hpd.length
   rw [h0] at this
   exact hne (List.length_eq_zero_iff.mp (by simpa using this.symm))
 unfold mergeMapping
 refine wpAny_bind (m := isInstance _ _) (wpAny_isInstance ho.typeIs F.sub_dict_dict ?_)
 dsimp only
 rw [if_pos rfl]
 refine wpAny_bind (m := specialOf _ _) (wpAny_specialOf ho.typeIs F.slot_dict_iter.lookup (wpAny_bind (wpAny_pure ?_)))
 rw [show ((some (Value.builtin "dict.__iter__") : Option Value) == some (.builtin "dict.__iter__")) = true from by simp]
 show wpAny _ _ (if (o == sysModules) = true then _ else _) _ _ _
 rw [if_neg (by rw [hoS]; exact Bool.false_ne_true)]
 refine wpAny_bind (wpAny_dictEntries hod hdd ?_)
 rw [if_neg (by rw [hemp]; exact Bool.false_ne_true)]
 refine wpAny_bind (wpAny_dictEntries hoo hdo' ?_)
 refine wpAny_bind (wpAny_dictEpoch hoo hdo' ?_)
 refine wpAny_bind ?_
 refine wpAny_forIn_list _
  (fun rest _ s' => MInv prog w d o kvs more oo s eso.size rest s')
  _ ?_ ?_ _ _ ⟨s.heap, 0, rfl, by rw [List.range_eq_range', Nat.sub_zero], Nat.zero_le _, by simpa using hd, hoo, Heap.SameBut.refl _ _⟩
 ·rintro x rest b s' ⟨h', i, rfl, hr, hi, hd', hoo', hs'⟩
  have hlt : i < eso.size := by
   rcases Nat.lt_or_ge i eso.size with h | h
   ·exact h
   ·rw [Nat.sub_eq_zero_of_le h] at hr; simp at hr
  obtain ⟨rfl, hrest⟩ : x = i ∧ rest = List.range' (i + 1) (eso.size - (i + 1)) := by
   have e : eso.size - i = (eso.size - (i + 1)) + 1 := by lia
   rw [e, List.range'_succ] at hr
   injection hr with h1 h2
   exact ⟨h1, h2⟩
  refine wpAny_bind (wpAny_dictEntries hoo' hdo' ?_)
  rw [Array.getElem?_eq_getElem hlt]
  obtain ⟨kv, hkv⟩ : ∃ kv, more[x]? = some kv := ⟨more[x]'(by rw [hlen]; exact hlt), List.getElem?_eq_getElem _⟩
  apply byC; intro kz; obtain ⟨k, v⟩ := kv; apply kz; clear kz
  apply byC; intro kz; obtain ⟨hkey, hval⟩ := hpo.get? (e := eso[x]) (by simp [hlt]) hkv; apply kz; clear kz
  apply byC; intro kz; obtain ⟨k', hkey', hhash⟩ := hko eso[x] (Array.getElem_mem hlt); apply kz; clear kz
  obtain rfl : k' = k := (IK prog w).inj _ _ _ hkey' hkey
  have htake : more.take (x + 1) = more.take x ++ [(k', v)] := by rw [List.take_add_one, hkv]; rfl
  have hfr : k' ∉ (kvs ++ more.take x).map (·.1) := by
   have h2 : ((kvs ++ more.take (x + 1)).map (·.1)).Nodup := by
    refine List.Nodup.sublist ?_ hnd
    rw [List.map_append, List.map_append]
    exact List.Sublist.append (List.Sublist.refl _) (List.Sublist.map _ (List.take_sublist _ _))
   rw [htake, ← List.append_assoc, List.map_append] at h2
   intro hm
   exact (List.nodup_append.mp h2).2.2 k' hm k' (by simp) rfl
  have hz' : (kvs ++ more.take x).length ≤ sizeLine := by
   refine Nat.le_trans ?_ hsz
   rw [List.length_append, List.length_append]
   exact Nat.add_le_add_left (List.length_take_le' _ _) _
  show wpAny _ _ (holding [eso[x].key, eso[x].val] (dictPut d eso[x].hash eso[x].key eso[x].val) >>= _) _ _ _
  rw [hhash, hval]
  refine wpAny_bind (wpAny_holding (zIl hkey hd' hfr hz' fun h'' hd'' hs'' => ?_))
  have hoo'' : h''.get? o = some oo := (hs''.2 o (Ne.symm hdo)).trans hoo'
  refine wpAny_bind (wpAny_dictEpoch hoo'' hdo' ?_)
  rw [if_neg (by simp)]
  exact wpAny_pure ⟨h'', x + 1, rfl, hrest, hlt, by rw [htake, ← List.append_assoc]; exact hd'', hoo'', hs'.trans hs''⟩
 ·rintro b s' ⟨h', i, rfl, hr, hi, hd', hoo', hs'⟩
  have hin : i = eso.size := by
   rcases Nat.lt_or_ge i eso.size with h | h
   ·have e : eso.size - i = (eso.size - (i + 1)) + 1 := by lia
    rw [e, List.range'_succ] at hr; exact nomatch hr
   ·exact Nat.le_antisymm hi h
  refine wpAny_pure (hQ h' ?_ hs')
  rw [hin, ← hlen, List.take_length] at hd'
  exact hd'
end
section
variable {prog : Program} {w : World} {A : Around} {E : Value → Shared → Prop}
noncomputable def zD9 (prog : Program) (w : World) (s₀ s : Shared) : Option Addr → List (Int × Str) → Prop
 | none, done => done = []
 | some d, done => done ≠ [] ∧ s₀.heap.objs.size ≤ d ∧ d < s.heap.objs.size ∧ ∃ kvs, zo kvs done ∧ s.heap.DictOf (IK prog w) d kvs
theorem zFi (pos : Pos) {s₀ : Shared} (hlow : sysModules < s₀.heap.objs.size) {main : Option Addr} {done run : List (Int × Str)} {s : Shared} {Q : Option Addr → Shared → Prop}
  (hrun : run ≠ []) (hm : zD9 prog w s₀ s main done) (hk : Kept s₀ s) (hn : ((done ++ run).map (·.1)).Nodup) (hz : (done ++ run).length ≤ 1000)
  (h : ∀ d s', zD9 prog w s₀ s' (some d) (done ++ run) → Kept s₀ s' → Q (some d) s') :
  wpAny (model prog w) A (match main with
   | none => do
    let d ← subDict (run.map (pT pos))
    pure (some d)
   | some d => do
    let sub ← holding [.ref d] (subDict (run.map (pT pos)))
    (holding [.ref d, .ref sub] (mergeMapping d (.ref sub) false)).onRaise fun x => do let _ ← holding [.ref d, x] (runValue (.builtin "proto.let_go" {}))
    pure (some d)) Q E s := by
 have hnr : (run.map (·.1)).Nodup := by rw [List.map_append] at hn; exact (List.nodup_append.mp hn).2.1
 have hzr : run.length ≤ 1000 := by rw [List.length_append] at hz; lia
 cases main with
 | none =>
  obtain rfl : done = [] := hm
  refine wpAny_bind (zFh pos hk run hnr hzr fun d kvs s' hd hl hdict hk' => wpAny_pure (h d s' ⟨by simpa using hrun, Nat.le_trans hk.size hd, ?_, kvs, by simpa using hl, hdict⟩ (hk.trans hk')))
  apply byC; intro kz; obtain ⟨o, es, ep, ho, _⟩ := hdict; apply kz; clear kz
  exact Heap.lt_size ho
 | some d =>
  apply byC; intro kz; obtain ⟨hne, hd0, hdlt, kvs, hl, hdict⟩ := hm; apply kz; clear kz
  refine wpAny_bind (wpAny_holding (zFh pos hk run hnr hzr fun d' kvs' s' hd' hl' hdict' hk' => ?_))
  have hdd : d ≠ d' := Nat.ne_of_lt (Nat.lt_of_lt_of_le hdlt hd')
  have hold : s'.heap.DictOf (IK prog w) d kvs := by
   apply byC; intro kz; obtain ⟨o, es, ep, ho, r⟩ := hdict; apply kz; clear kz
   exact ⟨o, es, ep, hk'.old _ _ ho, r⟩
  have hll := hl.append hl'
  refine wpAny_bind (wpAny_onRaise (wpAny_holding (zIm hdd ?_ hold hdict' ?_ (by rw [hll.keys]; exact hn) (by rw [hll.length, sizeLine_eq]; lia) fun h'' hm'' hs'' => wpAny_pure ?_)))
  ·have : sysModules < d' := Nat.lt_of_lt_of_le hlow (Nat.le_trans hk.size hd')
   exact beq_eq_false_iff_ne.mpr (Nat.ne_of_gt this)
  ·intro e
   subst e
   cases hl
   exact hne rfl
  ·refine h d _ ⟨by simp [hne], hd0, ?_, kvs ++ kvs', hll, hm''⟩ ((hk.trans hk').but hs'' hd0)
   apply byC; intro kz; obtain ⟨o, es, ep, ho, _⟩ := hm''; apply kz; clear kz
   exact Heap.lt_size ho
theorem zIn (pos : Pos) {prs : List (Int × Str)} {s : Shared} {Q : Value → Shared → Prop} (hlow : sysModules < s.heap.objs.size)
  (hne : prs ≠ []) (hn : (prs.map (·.1)).Nodup) (hz : prs.length ≤ 1000)
  (h : ∀ d kvs s', zo kvs prs → s'.heap.DictOf (IK prog w) d kvs → Kept s s' → s.heap.objs.size ≤ d → Q (.ref d) s') :
  wpAny (model prog w) A (dictDisplay (prs.map fun p => (some (kT p), vT pos p))) Q E s := by
 unfold dictDisplay
 dsimp only
 refine wpAny_bind ?_
 refine wpAny_forIn_list _
  (fun rest b s' => ∃ done run tail, b = (b.1, run.map (pT pos)) ∧ rest = tail.map (fun p => (some (kT p), vT pos p)) ∧ prs = done ++ run ++ tail ∧ run.length < 17 ∧ zD9 prog w s s' b.1 done ∧ Kept s s') _ ?_ ?_ _ _
  ⟨[], [], prs, rfl, rfl, by simp, by decide, rfl, Kept.refl s⟩
 ·rintro x rest ⟨main, run'⟩ s' ⟨done, run, tail, hb, hr, hp, hlen, hm, hk⟩
  obtain rfl : run' = run.map (pT pos) := (Prod.mk.inj hb).2
  cases tail with
  | nil => cases hr
  | cons p tail =>
   rw [List.map_cons] at hr
   injection hr with h1 h2
   subst h1 h2
   dsimp only
   have hsn : run.map (pT pos) ++ [(kT p, vT pos p)] = (run ++ [p]).map (pT pos) := by simp [pT]
   rw [hsn]
   split
   ·rename_i h17
    have hr17 : (run ++ [p]).length = 17 := by simpa using h17
    rw [if_neg (by simp)]
    refine wpAny_bind (zFi (prog := prog) (w := w) pos hlow (run := run ++ [p]) (done := done) (by simp) hm hk (by
     rw [hp] at hn
     refine List.Nodup.sublist (List.Sublist.map _ ?_) hn
     rw [show done ++ run ++ p :: tail = (done ++ (run ++ [p])) ++ tail by simp]
     exact List.sublist_append_left _ _) (by rw [hp] at hz; simp at hz ⊢; lia) fun d s'' hm'' hk'' => wpAny_pure ?_)
    exact ⟨done ++ (run ++ [p]), [], tail, rfl, rfl, by rw [hp]; simp, by decide, hm'', hk''⟩
   ·rename_i h17
    have hr17 : (run ++ [p]).length ≠ 17 := by simpa using h17
    refine wpAny_pure ⟨done, run ++ [p], tail, rfl, rfl, by rw [hp]; simp, ?_, hm, hk⟩
    simp at hr17 ⊢
    lia
 ·rintro ⟨main, run'⟩ s' ⟨done, run, tail, hb, hr, hp, hlen, hm, hk⟩
  obtain rfl : run' = run.map (pT pos) := (Prod.mk.inj hb).2
  obtain rfl : tail = [] := by simpa using hr.symm
  dsimp only
  by_cases hrun : run = []
  ·subst hrun
   rw [if_pos (by simp)]
   refine wpAny_bind (wpAny_pure ?_)
   cases main with
   | none =>
    obtain rfl : done = [] := hm
    exact absurd hp hne
   | some d =>
    obtain ⟨_, hd0, _, kvs, hl, hdict⟩ := hm
    refine wpAny_pure (h d kvs s' ?_ hdict hk hd0)
    rw [hp]; simpa using hl
  ·rw [if_neg (by simpa using hrun)]
   refine wpAny_bind (zFi (prog := prog) (w := w) pos hlow (run := run) (done := done) hrun hm hk (by rw [hp] at hn; simpa using hn) (by rw [hp] at hz; simpa using hz) fun d s'' hm'' hk'' => ?_)
   obtain ⟨_, hd0, _, kvs, hl, hdict⟩ := hm''
   refine wpAny_pure (h d kvs s'' ?_ hdict hk'' hd0)
   rw [hp]; simpa using hl
end
noncomputable abbrev Fact := Addr → Heap → Value → Prop
noncomputable def Fact.Mono (P : Fact) : Prop := ∀ Pl h h' v, mainGlobals < Pl → (∀ b o, b ≠ Pl → b ≠ mainGlobals → h.get? b = some o → h'.get? b = some o) → P Pl h v → P Pl h' v
structure TS (s₀ : Shared) (c Pl : Addr) (mb : Str → Option Value) (names : List Str) (ps : List Pos) (mg : Str → Option Value) (s : Shared) : Prop where
 main : ∃ l, s.heap.Main mg c Pl (triples l).toArray ∧ l.map (·.1) = ps
 hP : s₀.heap.objs.size ≤ Pl
 size : s₀.heap.objs.size ≤ s.heap.objs.size
 keep : ∀ b o, b ≠ mainGlobals → s₀.heap.get? b = some o → s.heap.get? b = some o
 gens : s.gens = #[]
 os : s.os = s₀.os
 mb0 : s₀.heap.Ns builtinsNs mb
 mbs : ∀ x : Str, x ≠ "__name__" → mb x = bootBuiltins x
 low : sysModules < s₀.heap.objs.size
 dom : ∀ x, x ∉ names → x ∉ bootMainNames → mg x = none
 laid : ∀ x, x ∉ names → ∀ m0, s₀.heap.Ns mainGlobals m0 → mg x = m0 x
structure SR where
 st : Stmt
 x : Str
 P : Fact
 pos : List Pos
noncomputable def OkAt (prog : Program) (w : World) (names : List Str) (ps : List Pos) (r : SR) : Prop :=
 r.P.Mono ∧ ∀ (A : Around) (c Pl F : Addr) (s₀ : Shared) (mb mg : Str → Option Value) (s : Shared) (Q : Flow → Shared → Prop), A.handled = none →
  TS s₀ c Pl mb names ps mg s →
  (∀ s' v, TS s₀ c Pl mb (r.x :: names) (ps ++ r.pos) (fun y => if y = r.x then some v else mg y) s' → r.P Pl s'.heap v →
   (∀ b o, b ≠ Pl → b ≠ mainGlobals → s.heap.get? b = some o → s'.heap.get? b = some o) → Q .next s') →
  wpAny (model prog w) A (exec r.st (mainEnv prog c F)) Q (fun _ _ => False) s
noncomputable def Chain (prog : Program) (w : World) : List SR → List Str → List Pos → Prop
 | [], _, _ => True
 | r :: rs, names, ps => OkAt prog w names ps r ∧ Chain prog w rs (r.x :: names) (ps ++ r.pos)
noncomputable def zBB (fs : List (Str × Fact)) (Pl : Addr) (mg : Str → Option Value) (h : Heap) : Prop := ∀ f ∈ fs, ∃ v, mg f.1 = some v ∧ f.2 Pl h v
noncomputable def zAb : List SR → List (Str × Fact) → List (Str × Fact)
 | [], fs => fs
 | r :: rs, fs => zAb rs ((r.x, r.P) :: fs.filter fun f => f.1 != r.x)
noncomputable def zAQ : List SR → List Str → List Str
 | [], ns => ns
 | r :: rs, ns => zAQ rs (r.x :: ns)
noncomputable def zBC : List SR → List Pos → List Pos
 | [], ps => ps
 | r :: rs, ps => zBC rs (ps ++ r.pos)
theorem TS.Pl {s₀ s : Shared} {c Pl : Addr} {mb mg : Str → Option Value} {names : List Str} {ps : List Pos} (T : TS s₀ c Pl mb names ps mg s) : mainGlobals < Pl :=
 let ⟨_, m, _⟩ := T.main; m.low.2
theorem zFj {prog : Program} {w : World} {A : Around} {c Pl F : Addr} {s₀ : Shared} {mb : Str → Option Value} (hh : A.handled = none) : ∀ (rs : List SR) (names : List Str) (ps : List Pos) (fs : List (Str × Fact))
  (mg : Str → Option Value) (s : Shared) (Q : Flow → Shared → Prop), Chain prog w rs names ps → (∀ f ∈ fs, f.2.Mono) → TS s₀ c Pl mb names ps mg s → zBB fs Pl mg s.heap →
  (∀ s' mg', TS s₀ c Pl mb (zAQ rs names) (zBC rs ps) mg' s' → zBB (zAb rs fs) Pl mg' s'.heap → Q .next s') →
  wpAny (model prog w) A (execs (rs.map (·.st)) (mainEnv prog c F)) Q (fun _ _ => False) s
 | [], _, _, _, mg, s, Q, _, _, T, H, h => wpAny_execs_nil (h s mg T H)
 | r :: rs, names, ps, fs, mg, s, Q, ⟨⟨hmono, hok⟩, hc⟩, hm, T, H, h => by
  rw [List.map_cons]
  refine wpAny_execs_cons (hok A c Pl F s₀ mb mg s _ hh T fun s' v T' hP hk => ?_)
  refine zFj hh rs _ _ ((r.x, r.P) :: fs.filter fun f => f.1 != r.x) _ s' Q hc ?_ T' ?_ h
  ·intro f hf
   rcases List.mem_cons.mp hf with rfl | hf
   ·exact hmono
   ·exact hm f (List.mem_filter.mp hf).1
  ·intro f hf
   rcases List.mem_cons.mp hf with rfl | hf
   ·exact ⟨v, by simp, hP⟩
   ·obtain ⟨hf1, hf2⟩ := List.mem_filter.mp hf
    obtain ⟨v', hv', hp'⟩ := H f hf1
    have hne : f.1 ≠ r.x := by simpa using hf2
    exact ⟨v', by show (if f.1 = r.x then _ else _) = _; rw [if_neg hne]; exact hv', hm f hf1 _ _ _ _ T.Pl hk hp'⟩
theorem TS.store {s₀ s : Shared} {c Pl : Addr} {mb mg : Str → Option Value} {names : List Str} {ps : List Pos} {x : Str} {v : Value} {h' : Heap} {tk : Nat} (T : TS s₀ c Pl mb names ps mg s)
  (hnb : x ≠ "__builtins__") (hn : h'.Ns mainGlobals fun y => if y = x then some v else mg y) (hs : Heap.SameBut mainGlobals s.heap h') :
  TS s₀ c Pl mb (x :: names) ps (fun y => if y = x then some v else mg y) { s with heap := h', toks := tk } := by
 apply byC; intro kz; obtain ⟨l, m, hl⟩ := T.main; apply kz; clear kz
 apply byC; intro kz; obtain ⟨bm, o, hbm, hne0, hneG, hneP, hbo, hrest⟩ := m.bmod; apply kz; clear kz
 refine ⟨⟨l, ⟨hn, m.code.sameBut hs (Nat.ne_of_gt m.low.1) (Nat.ne_of_gt m.low.2), m.low, ⟨bm, o, by simp only [Ne.symm hnb, if_false]; exact hbm, hne0, hneG, hneP, (hs.2 _ hneG).trans hbo, hrest⟩⟩, hl⟩,
  T.hP, by show _ ≤ h'.objs.size; rw [hs.1]; exact T.size, fun b o hb e => (hs.2 b hb).trans (T.keep b o hb e), T.gens, T.os, T.mb0, T.mbs, T.low, ?_, ?_⟩
 ·intro y hy hb
  have hyx : y ≠ x := fun e => hy (e ▸ List.mem_cons_self ..)
  show (if y = x then _ else _) = none
  rw [if_neg hyx]
  exact T.dom y (fun hm => hy (List.mem_cons_of_mem _ hm)) hb
 ·intro y hy m0 hm0
  have hyx : y ≠ x := fun e => hy (e ▸ List.mem_cons_self ..)
  show (if y = x then _ else _) = _
  rw [if_neg hyx]
  exact T.laid y (fun hm => hy (List.mem_cons_of_mem _ hm)) m0 hm0
theorem TS.grown {s₀ s s' : Shared} {c Pl : Addr} {mb mg : Str → Option Value} {names : List Str} {ps : List Pos} (T : TS s₀ c Pl mb names ps mg s) (K : Kept s s') : TS s₀ c Pl mb names ps mg s' := by
 apply byC; intro kz; obtain ⟨l, m, hl⟩ := T.main; apply kz; clear kz
 apply byC; intro kz; obtain ⟨bm, o, hbm, hne0, hneG, hneP, hbo, hrest⟩ := m.bmod; apply kz; clear kz
 exact ⟨⟨l, ⟨m.g.keeps K.old, m.code.keeps K.old, m.low, ⟨bm, o, hbm, hne0, hneG, hneP, K.old _ _ hbo, hrest⟩⟩, hl⟩, T.hP, Nat.le_trans T.size K.size,
  fun b o hb e => K.old b o (T.keep b o hb e), K.gens.trans T.gens, K.os.trans T.os, T.mb0, T.mbs, T.low, T.dom, T.laid⟩
section
variable {prog : Program} {w : World}
theorem zEA {names : List Str} {ps : List Pos} {x : Str} {e : Expr} {p1 pos : Pos} {P : Fact} (hP : P.Mono)
  (hloc : prog.main.scope.names.lookup x = some .local) (hmod : prog.main.scope.kind = .module) (hnb : x ≠ "__builtins__")
  (hs : ∀ env : Env, swapsWith e (some (.Name x p1)) pos.line env = pure false)
  (he : ∀ (A : Around) (c Pl F : Addr) (s₀ : Shared) (mb mg : Str → Option Value) (s : Shared) (Q : Value → Shared → Prop), A.handled = none → TS s₀ c Pl mb names ps mg s →
   (∀ v s', Kept s s' → P Pl s'.heap v → Q v s') → wpAny (model prog w) A (eval e (mainEnv prog c F)) Q (fun _ _ => False) s) :
  OkAt prog w names ps ⟨.Assign [.Name x p1] e pos, x, P, []⟩ := by
 refine ⟨hP, fun A c Pl F s₀ mb mg s Q hh T h => ?_⟩
 refine wpAny_Assign_Name (he A c Pl F s₀ mb mg s _ hh T fun v s' K hp => ?_) (hs _)
 have T' := T.grown K
 obtain ⟨l, m, hl⟩ := T'.main
 refine wpAny_storeName_local (env := mainEnv prog c F) hloc m.g (fun h' hn hs' => ?_) (by show (prog.main.scope.kind == .class || (prog.main.scope.kind == .module && mainGlobals != mainGlobals)) = false; rw [hmod]; rfl)
 have T2 := T'.store (tk := s'.toks + 1) hnb hn hs'
 refine h _ v (by rw [List.append_nil]; exact T2) (hP _ s'.heap _ _ T.Pl (fun b o _ hb e => (hs'.2 b hb).trans e) hp) fun b o _ hb e => (hs'.2 b hb).trans (K.old b o e)
theorem zBr {names : List Str} {ps : List Pos} {x v : Str} {p1 p2 pos : Pos} {k : Nat}
  (hloc : prog.main.scope.names.lookup x = some .local) (hmod : prog.main.scope.kind = .module) (hnb : x ≠ "__builtins__") :
  OkAt prog w names ps ⟨.Assign [.Name x p1] (.Constant (.str v) k p2) pos, x, fun _ _ y => ∃ t, y = .str v t, []⟩ :=
 zEA (fun _ _ _ _ _ _ h => h) hloc hmod hnb (fun _ => rfl) fun A c Pl F s₀ mb mg s Q _ _ h => Calls.Constant_str (h _ _ ((Kept.refl s).toks _) ⟨_, rfl⟩)
noncomputable def zm (d : DefRec) : Fact := fun Pl h v => ∃ a pm code doc, v = .ref a ∧ h.get? a = some { cls := .type "function", data := .func (d.data pm (.ref code) doc) } ∧ h.CodeRec (.ref code) d.name ∧ Pl < a ∧ Pl < code
theorem zm.mono (d : DefRec) : (zm d).Mono := by
 rintro Pl h h' v hlt hk ⟨a, pm, code, doc, rfl, ho, hc, ha, hcd⟩
 exact ⟨a, pm, code, doc, rfl, hk _ _ (Nat.ne_of_gt ha) (Nat.ne_of_gt (Nat.lt_trans hlt ha)) ho, hc.at fun o e => hk _ o (Nat.ne_of_gt hcd) (Nat.ne_of_gt (Nat.lt_trans hlt hcd)) e, ha, hcd⟩
theorem zAJ {names : List Str} {ps : List Pos} {d : DefRec} (hd : d.Plain prog) (hmod : prog.main.scope.kind = .module) (hq : (ps.all fun q => !(q.line == d.pos.line && q.col == d.pos.col)) = true) :
  OkAt prog w names ps ⟨d.stmt, d.name, zm d, [d.pos]⟩ := by
 have hq : ∀ q ∈ ps, ¬ (q.line = d.pos.line ∧ q.col = d.pos.col) := fun q hm ⟨h1, h2⟩ => by
  have := List.all_eq_true.mp hq q hm
  simp [h1, h2] at this
 refine ⟨zm.mono d, fun A c Pl F s₀ mb mg s Q hh T h => ?_⟩
 obtain ⟨l, m, hl⟩ := T.main
 have hPl : Pl < s.heap.objs.size := m.code.lt.2
 refine wpAny_def hd hmod m (by rw [List.toList_toArray]; exact codeAmong_triples _ _ fun q hq' => hq q.1 (hl ▸ List.mem_map.mpr ⟨q, hq', rfl⟩)) fun a c' doc h' tk ha hm' hf hc keep => ?_
 refine h { s with heap := h', toks := tk } (.ref a) ⟨⟨l ++ [(d.pos, c')], ?_, by rw [List.map_append, hl]; rfl⟩, T.hP, ?_, ?_, T.gens, T.os, T.mb0, T.mbs, T.low, ?_, ?_⟩
  ⟨a, _, c', doc, rfl, hf, hc.2, Nat.lt_of_lt_of_le hPl ha, Nat.lt_of_lt_of_le hPl hc.1⟩ keep
 ·rw [triples_append]; simpa using hm'
 ·exact Nat.le_trans T.size (Nat.le_trans ha (Nat.le_of_lt (Heap.lt_size hf)))
 ·intro b o hb e
  exact keep b o (Nat.ne_of_lt (Nat.lt_of_lt_of_le (Heap.lt_size e) T.hP)) hb (T.keep b o hb e)
 ·intro y hy hb
  have hyx : y ≠ d.name := fun e => hy (e ▸ List.mem_cons_self ..)
  show (if y = d.name then _ else _) = none
  rw [if_neg hyx]
  exact T.dom y (fun hm => hy (List.mem_cons_of_mem _ hm)) hb
 ·intro y hy m0 hm0
  have hyx : y ≠ d.name := fun e => hy (e ▸ List.mem_cons_self ..)
  show (if y = d.name then _ else _) = _
  rw [if_neg hyx]
  exact T.laid y (fun hm => hy (List.mem_cons_of_mem _ hm)) m0 hm0
noncomputable def zFk : Expr → Option Str
 | .Constant (.str x) _ _ => some x
 | _ => none
noncomputable def zEB : Expr → Option Int
 | .Constant (.int x) _ _ => some x
 | _ => none
theorem zFl {e : Expr} {k : Int} (h : zEB e = some k) : ∃ p q, e = .Constant (.int k) p q := by
 cases e with
 | Constant c p q =>
  cases c with
  | int y => cases h; exact ⟨p, q, rfl⟩
  | _ => exact zC h
 | _ => exact zC h
theorem zIo {e : Expr} {x : Str} (h : zFk e = some x) : ∃ p q, e = .Constant (.str x) p q := by
 cases e with
 | Constant c p q =>
  cases c with
  | str y => cases h; exact ⟨p, q, rfl⟩
  | _ => exact zC h
 | _ => exact zC h
noncomputable def zBs : List (Option Expr) → List Expr → Option (List (Int × Str))
 | [], vs => if vs.isEmpty then some [] else none
 | k :: ks, vs => (vs.head?.bind zFk).bind fun x => (k.bind zEB).bind fun i => (zBs ks vs.tail).map ((i, x) :: ·)
theorem zFm (env : Env) (pos : Pos) : ∀ (ks : List (Option Expr)) (vs : List Expr) (prs : List (Int × Str)), zBs ks vs = some prs →
  (evalEachOpt ks env).zip ((evalEach vs env).map fun v => do let x ← v; standAt pos; pure x) = prs.map fun p => (some (kT p), vT pos p)
 | [], vs, prs, h => by
  cases vs with
  | nil => cases h; rfl
  | cons v vs => exact zC h
 | k :: ks, vs, prs, h => by
  obtain ⟨x, h1, h⟩ := Option.bind_eq_some_iff.mp h
  obtain ⟨i, h2, h⟩ := Option.bind_eq_some_iff.mp h
  obtain ⟨r, h3, rfl⟩ := Option.map_eq_some_iff.mp h
  cases vs with
  | nil => exact zC h1
  | cons v vs =>
   obtain ⟨p, q, rfl⟩ := zIo h1
   cases k with
   | none => exact zC h2
   | some e =>
    obtain ⟨p2, q2, rfl⟩ := zFl h2
    show (_, _) :: _ = _
    rw [List.map_cons, ← zFm env pos ks vs r h3]
    rfl
noncomputable def zBt (prog : Program) (w : World) (prs : List (Int × Str)) : Fact := fun Pl h v => ∃ a kvs, v = .ref a ∧ Pl < a ∧ zo kvs prs ∧ h.DictOf (intKind prog w) a kvs
theorem zBt.mono (prs : List (Int × Str)) : (zBt prog w prs).Mono := by
 rintro Pl h h' v hlt hk ⟨a, kvs, rfl, ha, hl, o, es, ep, ho, r⟩
 exact ⟨a, kvs, rfl, ha, hl, o, es, ep, hk _ _ (Nat.ne_of_gt ha) (Nat.ne_of_gt (Nat.lt_trans hlt ha)) ho, r⟩
theorem zIp {names : List Str} {ps : List Pos} {x : Str} {ks : List (Option Expr)} {vs : List Expr} {p1 p2 pos : Pos} {prs : List (Int × Str)}
  (hloc : prog.main.scope.names.lookup x = some .local) (hmod : prog.main.scope.kind = .module) (hnb : x ≠ "__builtins__")
  (hp : zBs ks vs = some prs) (hne : prs ≠ []) (hn : (prs.map (·.1)).Nodup) (hz : prs.length ≤ 1000) :
  OkAt prog w names ps ⟨.Assign [.Name x p1] (.Dict ks vs p2) pos, x, zBt prog w prs, []⟩ :=
 zEA (zBt.mono prs) hloc hmod hnb (fun _ => rfl) fun A c Pl F s₀ mb mg s Q _ T h => by
  obtain ⟨l, m, _⟩ := T.main
  rw [arm_eval_Dict, zFm _ _ _ _ _ hp]
  refine wpAny_bind (wpAny_standAt (zIn p2 (Nat.lt_of_lt_of_le T.low T.size) hne hn hz fun d kvs s' hl hd K hd0 => h _ s' K ⟨d, kvs, rfl, Nat.lt_of_lt_of_le m.code.lt.2 hd0, hl, hd⟩))
noncomputable def zEC : List Expr → Option (List Int)
 | [] => some []
 | e :: es => (zEB e).bind fun k => (zEC es).map (k :: ·)
theorem zFn {A : Around} {E : Value → Shared → Prop} (env : Env) (pos : Pos) : ∀ (es : List Expr) (ns : List Int), zEC es = some ns → ∀ (s : Shared) (Q : List Value → Shared → Prop),
  (∀ vs tk, IntsAre vs ns → Q vs { s with toks := tk }) → wpAny (model prog w) A (spliced (backTo pos (starEach es env))) Q E s
 | [], ns, h, s, Q, hQ => by cases h; exact Calls.spliced_nil (hQ [] s.toks .nil)
 | e :: es, ns, h, s, Q, hQ => by
  obtain ⟨k, h1, h⟩ := Option.bind_eq_some_iff.mp h
  obtain ⟨r, hr, rfl⟩ := Option.map_eq_some_iff.mp h
  obtain ⟨p, q, rfl⟩ := zFl h1
  show wpAny _ _ (spliced ((false, mkInt k) :: backTo pos (starEach es env))) _ _ _
  exact Calls.spliced_cons (wpAny_mkInt (zFn env pos es r hr _ _ fun vs tk hv => hQ _ tk (.cons k _ hv)))
noncomputable def zBc (ns : List Int) (a : Int) (n : Nat) : List Int := ns ++ (List.range n).map fun (i : Nat) => a + (i : Int)
noncomputable def zCS (prog : Program) (w : World) (ns : List Int) : Fact := fun Pl h v => ∃ a S n, v = .ref a ∧ Pl < a ∧ h.SetOf (intKind prog w) a S n ∧ ∀ k, S k = ns.any (· == k)
theorem zCS.mono (ns : List Int) : (zCS prog w ns).Mono := by
 rintro Pl h h' v hlt hk ⟨a, S, n, rfl, ha, ⟨o, es, ep, t, ho, r⟩, hS⟩
 exact ⟨a, S, n, rfl, ha, ⟨o, es, ep, t, hk _ _ (Nat.ne_of_gt ha) (Nat.ne_of_gt (Nat.lt_trans hlt ha)) ho, r⟩, hS⟩
theorem zIq (ns : List Int) : (List.range ns.length).map (fun i => ns.getD i 0) = ns := by
 apply List.ext_getElem
 ·simp
 ·intro i h1 h2
  simp [List.getD_eq_getElem?_getD, List.getElem?_eq_getElem h2]
theorem zIr {vs vs' : List Value} {ns ns' : List Int} (h : IntsAre vs ns) (h' : IntsAre vs' ns') : IntsAre (vs ++ vs') (ns ++ ns') := by
 induction h with
 | nil => exact h'
 | cons n t _ ih => exact .cons n t ih
theorem zED {a : Int} : ∀ (n : Nat) (acc : List Value) , acc.length = n → ∀ k : Nat, (∀ (j : Nat) v, acc[j]? = some v → ∃ t, v = .int (a + ((j + k : Nat) : Int)) t) → IntsAre acc ((List.range' k n).map fun (i : Nat) => a + (i : Int))
 | 0, acc, h, _, _ => by
  obtain rfl := List.length_eq_zero_iff.mp h
  exact .nil
 | n + 1, [], h, _, _ => by cases h
 | n + 1, v :: acc, h, k, hv => by
  obtain ⟨t, rfl⟩ := hv 0 v rfl
  rw [List.range'_succ, List.map_cons, Nat.zero_add]
  refine .cons _ _ (zED n acc (Nat.succ.inj h) (k + 1) fun j v hj => ?_)
  obtain ⟨t, e⟩ := hv (j + 1) v hj
  exact ⟨t, by rw [e]; congr 3; lia⟩
theorem bname {A : Around} {c Pl F : Addr} {s₀ s : Shared} {mb mg : Str → Option Value} {names : List Str} {ps : List Pos} {Q : Value → Shared → Prop} {E : Value → Shared → Prop} {x : Str} {p : Pos} {v : Value}
  (hmod : prog.main.scope.kind = .module) (T : TS s₀ c Pl mb names ps mg s) (h1 : x ∉ names) (h2 : x ∉ bootMainNames) (h3 : x ≠ "__name__") (h4 : bootBuiltins x = some v) (hd : (x == ("__debug__" : Str)) = false)
  (h : Q v s) : wpAny (model prog w) A (eval (.Name x p) (mainEnv prog c F)) Q E s := by
 obtain ⟨l, m, _⟩ := T.main
 refine Calls.Name_module hmod rfl (Calls.loadGlobal_builtin (mg := mg) (mb := mb) m.g (T.dom x h1 h2) ?_ ((T.mbs x h3).trans h4) h) hd
 exact T.mb0.at' fun o e => T.keep _ o (by decide) e
theorem zIs {names : List Str} {ps : List Pos} {x : Str} {es : List Expr} {ns : List Int} {a b : Int} {n : Nat} {p1 p2 p3 p4 p5 p6 p7 p8 p9 q1 q2 pos : Pos} {k1 k2 : Nat}
  (hloc : prog.main.scope.names.lookup x = some .local) (hmod : prog.main.scope.kind = .module) (hnb : x ≠ "__builtins__")
  (hes : zEC es = some ns) (hne : (starEach es (mainEnv prog 0 0)).length = es.length)
  (hr : Builtin.Range.rangeSize a b 1 = n) (hsmall : Builtin.Range.small a b 1 = true) (hn : n ≤ 1000) (hns : ns.length ≤ 1000)
  (hN : (names.contains ("set" : Str) || names.contains ("list" : Str) || names.contains ("range" : Str)) = false) :
  OkAt prog w names ps ⟨.Assign [.Name x p1] (.Call (.Name "set" p2) [.BinOp (.List es p3) .Add (.Call (.Name "list" p4) [.Call (.Name "range" p5) [.Constant (.int a) k1 q1, .Constant (.int b) k2 q2] [] p6] [] p7) p8] [] p9) pos, x,
   zCS prog w (zBc ns a n), []⟩ :=
 zEA (zCS.mono _) hloc hmod hnb (fun _ => rfl) fun A c Pl F s₀ mb mg s Q hh T h => by
  apply byC; intro kz; obtain ⟨l, m, _⟩ := T.main; apply kz; clear kz
  have hPl := m.code.lt.2
  have hN : ("set" : Str) ∉ names ∧ ("list" : Str) ∉ names ∧ ("range" : Str) ∉ names := by
   simp only [Bool.or_eq_false_iff, List.contains_eq_mem, decide_eq_false_iff_not] at hN
   exact ⟨hN.1.1, hN.1.2, hN.2⟩
  refine wpAny_Call_NameR (bname (v := .type "set") hmod T hN.1 (by decide) (by decide) (by kernel_rfl) (by decide) ?_)
  refine PySem.callWith_type rfl (Calls.evalArgs_plain (Calls.spliced_cons (wpAny_BinOp ?_)))
  show wpAny _ _ (do standAt p3; newList (← spliced (backTo p3 (starEach es _)))) _ _ _
  refine wpAny_bind (wpAny_standAt (wpAny_bind (zFn _ p3 es ns hes _ _ fun vs tk hv => ?_)))
  have hvl : vs.length = ns.length := IntsAre.length hv
  refine wpAny_newObj_type ?_ (by show vs.toArray.size ≤ sizeLine; rw [List.size_toArray, hvl, sizeLine_eq]; lia)
  have K1 : Kept s { s with heap := s.heap.push { cls := .type "list", data := .seq vs.toArray }, toks := tk } := ((Kept.refl s).push _).toks tk
  have T1 := T.grown K1
  refine wpAny_Call_NameR (bname (v := .type "list") hmod T1 hN.2.1 (by decide) (by decide) (by kernel_rfl) (by decide) ?_)
  refine PySem.callWith_type rfl (Calls.evalArgs_plain (Calls.spliced_cons ?_))
  refine wpAny_Call_NameR (bname (v := .type "range") hmod T1 hN.2.2 (by decide) (by decide) (by kernel_rfl) (by decide) ?_)
  refine PySem.callWith_type rfl (Calls.evalArgs_plain (Calls.spliced_cons (wpAny_Constant_int (k := k1) (pos := q1) (Calls.spliced_cons (wpAny_Constant_int (k := k2) (pos := q2) (Calls.spliced_nil ?_))))))
  dsimp only [List.nil_append]
  refine call_range_2 ?_
  refine Calls.spliced_nil ?_
  dsimp only [List.nil_append]
  refine call_list_range (hh) (Heap.get?_push_size _ rfl) hsmall hr (by lia) fun h' tk' acc c' hk hL hacc => ?_
  dsimp only at hk hL ⊢
  have hkl : h'.get? s.heap.objs.size = some { cls := .type "list", data := .seq vs.toArray } := hk _ _ (Heap.get?_push_of_some _ (Heap.get?_push_size _ rfl))
  refine P.add_list (n := 0) hkl hL ?_ ?_
  ·have hsz0 : vs.toArray.size + acc.size ≤ 2000 := by rw [List.size_toArray, hvl, hacc.1]; lia
   refine Calls.spliced_nil ?_
   dsimp only [List.nil_append]
   have hacc' : IntsAre acc.toList ((List.range n).map fun (i : Nat) => a + (i : Int)) := by
    rw [List.range_eq_range']
    refine zED n acc.toList (by rw [Array.length_toList]; exact hacc.1) 0 fun j v hj => ?_
    obtain ⟨t, e⟩ := hacc.2 j v (by rw [← Array.getElem?_toList]; exact hj)
    exact ⟨t, by rw [e]; congr 2; lia⟩
   have hall : IntsAre (vs.toArray ++ acc).toList (zBc ns a n) := by
    rw [Array.toList_append]
    exact zIr hv hacc'
   have hsz2 : (vs.toArray ++ acc).size + 1 < scanBound := by rw [Array.size_append]; show _ < 4096; lia
   refine call_set_list hh ⟨_, Heap.get?_push_size _ rfl, rfl, _, rfl⟩ hall hsz2 fun h2 tk2 hS hk2 => ?_
   refine h _ _ ⟨fun b o e => ?_, ?_, rfl, rfl, rfl⟩ ⟨_, _, _, rfl, ?_, hS, fun k => ?_⟩
   ·have e1 := hk b o (Heap.get?_push_of_some _ (Heap.get?_push_of_some _ e))
    exact hk2 b o (by dsimp only; rw [Heap.size_push]; exact Nat.lt_succ_of_lt (Heap.lt_size e1)) (Heap.get?_push_of_some _ e1)
   ·apply byC; intro kz; obtain ⟨o, es, ep, t, ho, _⟩ := hS; apply kz; clear kz
    have h3 := Heap.lt_size ho
    dsimp only at h3 ⊢
    rw [Heap.size_push] at h3
    have h4 := Heap.lt_size hkl
    exact Nat.le_of_lt (Nat.lt_trans h4 (Nat.lt_of_succ_lt h3))
   ·dsimp only
    rw [Heap.size_push]
    exact Nat.lt_of_lt_of_le hPl (Nat.le_succ_of_le (Nat.le_of_lt (Heap.lt_size hkl)))
   ·have hlen : (vs.toArray ++ acc).size = (zBc ns a n).length := by
     have := IntsAre.length hall
     rw [← this, Array.length_toList]
    rw [hlen, firstMet_any, zIq]
  ·rw [List.size_toArray, hvl, hacc.1, sizeLine_eq]; lia
end
theorem zIt {p : Program} {w : World} {rs : List SR} {s : Shared} (hbody : behindTheImports p = rs.map (·.st)) (hch : Chain p w rs [] [])
  (hann : hasAnns (behindTheImports p) = false) (hdoc : docOf (behindTheImports p) = none) (hB : BootS (opening p) s) :
  wpAny (model p w) callerA (topStub p).cur (fun fin s' => (∃ f, fin = .done f) ∧
   (∃ mg c Pl mb, TS s c Pl mb (zAQ rs []) (zBC rs []) mg s' ∧ zBB (zAb rs []) Pl mg s'.heap) ∧ s'.gens = #[]) (fun _ _ => False) s := by
 apply byC; intro kz; obtain ⟨hp, tk, mb, mg, c₀, Pl₀, B, rfl⟩ := hB; apply kz; clear kz
 unfold topStub
 refine wpAny_bind (wpAny_moduleCode fun c Pl h₁ tk₁ hk hc hPl hcode => ?_)
 dsimp only at hk hc hPl ⊢
 unfold newBodyFrame
 have hg1 : h₁.Ns mainGlobals mg := B.g.keeps hk
 refine wpAny_bind (wpAny_bind (wpAny_nsGet (a := mainNs) hg1 (wpAny_alloc ?_)))
 refine wpAny_bind (wpAny_run ?_)
 refine codeAny_body hann hdoc (wpAny_mono (E := fun _ _ => False) (Q := fun f s' => f = .next ∧
   (∃ mg' , TS ⟨hp, #[], {}, tk, (start (opening p)).1.os⟩ c Pl mb (zAQ rs []) (zBC rs []) mg' s' ∧ zBB (zAb rs []) Pl mg' s'.heap) ∧ s'.gens = #[]) ?_ (fun f s' hx => ?_) fun _ _ x => x.elim)
 ·rw [hbody]
  refine zFj (F := h₁.objs.size) (s₀ := ⟨hp, #[], {}, tk, (start (opening p)).1.os⟩) rfl rs [] [] [] mg _ _ hch (fun _ hf => nomatch hf) ⟨⟨[], ⟨hg1.push _, hcode.push _, ⟨Nat.lt_of_lt_of_le B.g.lt hc, Nat.lt_of_lt_of_le B.g.lt hPl⟩, ?_⟩, rfl⟩, hPl, ?_, ?_, rfl, rfl, B.b, B.builtins, ?_, ?_, ?_⟩ (fun _ hf => nomatch hf)
   fun s' mg' T H => ⟨rfl, ⟨mg', T, H⟩, T.gens⟩
  ·apply byC; intro kz; obtain ⟨bm, o, hbm, h1, h2, h3, ho, h4⟩ := B.bmod; apply kz; clear kz
   exact ⟨bm, o, hbm, h1, h2, Nat.ne_of_lt (Nat.lt_of_lt_of_le (Heap.lt_size ho) hPl), Heap.get?_push_of_some _ (hk _ _ ho), h4⟩
  ·dsimp only
   rw [Heap.size_push]
   exact Nat.le_succ_of_le (Nat.le_trans hPl (Nat.le_of_lt hcode.lt.2))
  ·intro b o _ e
   exact Heap.get?_push_of_some _ (hk b o e)
  ·exact Nat.lt_trans (by decide) B.g.lt
  ·intro x _ hx
   exact B.others x hx
  ·intro x _ m0 hm0
   exact Heap.Ns.agree B.g hm0 x
 ·apply byC; intro kz; obtain ⟨rfl, ⟨mg', T, H⟩, hg⟩ := hx; apply kz; clear kz
  exact wpAny_pure ⟨⟨_, rfl⟩, ⟨mg', c, Pl, mb, T, H⟩, hg⟩
theorem zIu {p : Program} {w : World} {rs : List SR} {s : Shared} (hbody : behindTheImports p = rs.map (·.st)) (hch : Chain p w rs [] [])
  (hann : hasAnns (behindTheImports p) = false) (hdoc : docOf (behindTheImports p) = none) (hB : BootS (opening p) s) (hz : s.asleep) (ht : 1 ≤ s.toks)
  (hmods : importedModules p.main.body = []) (hnames : ∀ x ∈ zAQ rs [], x ∈ p.boundNames) (hst : ∀ x ∈ laidNames, x ∉ zAQ rs []) (hnb : ("__builtins__" : Str) ∉ zAQ rs []) :
  ∃ s₁, TopRan p w s s₁ ∧ s₁.asleep ∧ s₁.gens = #[] ∧ 1 ≤ s₁.toks ∧ ∃ mg c Pl mb, TS s c Pl mb (zAQ rs []) (zBC rs []) mg s₁ ∧ zBB (zAb rs []) Pl mg s₁.heap := by
 obtain ⟨n, t', s₁, hrun, hthr, ⟨ht1, mg, c, Pl, mb, T, H⟩, hlife, hgens⟩ := zIi (R := fun s' => 1 ≤ s'.toks ∧ ∃ mg c Pl mb, TS s c Pl mb (zAQ rs []) (zBC rs []) mg s' ∧ zBB (zAb rs []) Pl mg s'.heap) hz (wpAny_mono (wpAny_toks_of ht (zIt hbody hch hann hdoc hB)) (fun fin s' h => ⟨h.2.1, ⟨h.1, h.2.2.1⟩, h.2.2.2⟩) fun _ _ h => h.2)
 refine ⟨s₁, ⟨⟨n, t', hrun, hthr⟩, hlife, Shared.rest_eq T.os, fun b o hb hn => T.keep b o (fun e => hn (.inl e)) hb, ?_⟩, Shared.asleep_of_life hlife hz, hgens, ht1, mg, c, Pl, mb, T, H⟩
 apply byC; intro kz; obtain ⟨hp, tk, mb₀, mg₀, c₀, Pl₀, B, rfl⟩ := hB; apply kz; clear kz
 apply byC; intro kz; obtain ⟨l, m, _⟩ := T.main; apply kz; clear kz
 have hst0 : s₁.heap.Ns cStatics fun _ => none := B.statics.at' fun o e => T.keep _ o (by decide) e
 have hb1 : s₁.heap.Ns builtinsNs mb := T.mb0.at' fun o e => T.keep _ o (by decide) e
 have hglob : ∀ x, globalOf s₁.heap x = mg x := fun x => Claim2Try.globalOf_of_ns m.g x
 rw [hmods]
 refine ⟨staticsI_of (staticsAccounted.of_empty fun key => Pin.staticOf_of_ns hst0 key), fun key => .inl ?_, ?_, ?_, ?_, ?_, ?_, ?_⟩
 ·rw [Pin.staticOf_of_ns hst0 key, Pin.staticOf_of_ns B.statics key]
 ·apply byC; intro kz; obtain ⟨o, es, ep, ho, hd, hk, _⟩ := m.g; apply kz; clear kz
  exact ⟨o, es, ep, ho, hd, fun e he => hk e he⟩
 ·intro name hne
  rw [Pin.builtinOf_of_ns hb1 name, T.mbs name hne]
  rfl
 ·apply byC; intro kz; obtain ⟨bm, o, hbm, _, _, _, ho, h1, h2, _⟩ := m.bmod; apply kz; clear kz
  exact ⟨bm, o, (hglob _).trans hbm, ho, h1, h2⟩
 ·rw [hgens]
  intro g hg
  simp at hg
 ·intro x v hv
  rw [hglob] at hv
  by_cases h1 : x ∈ zAQ rs []
  ·exact .inr (hnames x h1)
  ·by_cases h2 : x ∈ bootMainNames
   ·exact .inl h2
   ·rw [T.dom x h1 h2] at hv
    cases hv
 ·intro x hx
  rw [hglob, T.laid x (hst x hx) _ B.g, Claim2Try.globalOf_of_ns B.g]
noncomputable abbrev zEE (l : OpenLaw) (rs : World → List SR) : Prop :=
 ∀ (w : World) (s₀ s₁ s₂ : Shared) (mg : Str → Option Value) (c Pl : Addr) (mb : Str → Option Value), TS s₀ c Pl mb (zAQ (rs w) []) (zBC (rs w) []) mg s₁ → zBB (zAb (rs w) []) Pl mg s₁.heap → s₁.heap.NoLimit →
  ∀ (args : List WData) (vs : List Value) (as : List Addr), l.row.claim.pre args = true → WData.layableAll args = true → Laid [] w s₁ s₂ args vs as → 1 ≤ s₂.toks → ∃ f, mg l.name = some f ∧
   wpAny (model l.prog w) callerA (PySem.call f vs) (fun v s' => GoodWG l.row.claim (classAt s₁.heap) (ExcName.means s₁.heap) args s₂ (.ok (.ret v)) s') (fun _ _ => False) s₂
theorem zIv {l : OpenLaw} {rs : World → List SR} {d : DefRec} (k1 : l.row.wellSaid = true) (hw : l.row.toRowW.promised) (hb : l.prog.bare) (o1 : opensWell l.prog = true) (hwr : l.writes = false)
  (hbody : ∀ w, behindTheImports l.prog = (rs w).map (·.st)) (hob : (opening l.prog).main.body = []) (hmore : (opening l.prog).main.more = []) (hf : ∀ s, fenceModules? l.prog s = some s)
  (hch : ∀ w, Chain l.prog w (rs w) [] []) (hann : hasAnns (behindTheImports l.prog) = false) (hdoc : docOf (behindTheImports l.prog) = none)
  (hmods : importedModules l.prog.main.body = []) (hnames : ∀ w, (zAQ (rs w) []).all (fun x => l.prog.boundNames.contains x && !laidNames.contains x && x != "__builtins__") = true)
  (hd : ∀ w, (l.name, zm d) ∈ zAb (rs w) []) (hdn : d.name = l.name) (hp : l.prog.theDef l.name = some (d.params, d.body, d.scope)) (hdd : d.params.defaults = []) (hkw : kwWritten? d.params.kwonlyargs d.params.kw_defaults = some [])
  (call : zEE l rs) : l.row.Holds := by
 refine ⟨k1, hw, ⟨hb, o1, rfl⟩, hw.witness, fun w => ?_⟩
 have boot := zIj (p := opening l.prog) (w := w) hob hmore
 refine ⟨boot.1, fun s hs => ⟨s, hf s, ?_, ?_⟩⟩
 ·apply byC; intro kz; obtain ⟨_, _, _, _, _, _, _, rfl⟩ := boot.2 s hs; apply kz; clear kz
  rfl
 have hs' : AfterImport (opening l.prog) w s := hs
 obtain ⟨s₁, hT, hz, hgens, ht1, mg, c, Pl, mb, T, H⟩ := zIu (p := l.prog) (w := w) (hbody w) (hch w) hann hdoc (boot.2 s hs) hs'.life hs'.toks_pos hmods
  (fun x hx => by
   have := List.all_eq_true.mp (hnames w) x hx
   simp only [Bool.and_eq_true] at this
   exact List.contains_iff_mem.mp this.1.1)
  (fun x hx hm => by
   have := List.all_eq_true.mp (hnames w) x hm
   simp only [Bool.and_eq_true, Bool.not_eq_true'] at this
   have h2 := this.1.2
   rw [List.contains_iff_mem.mpr hx] at h2
   cases h2)
  (fun hm => by
   have := List.all_eq_true.mp (hnames w) _ hm
   simp at this)
 have hT' := hT
 refine ⟨s₁, hT, ?_, fun x hx => (nomatch hx), fun x hx => (nomatch hx), ?_⟩
 ·intro n hn
  obtain rfl : n = l.name := by simpa [OpenLaw.row] using hn
  apply byC; intro kz; obtain ⟨v, hv, a, pm, code, doc, rfl, ho, hc, _, _⟩ := H _ (hd w); apply kz; clear kz
  apply byC; intro kz; obtain ⟨lp, m, _⟩ := T.main; apply kz; clear kz
  exact ⟨a, _, _, d.params, d.body, d.scope, (Claim2Try.globalOf_of_ns m.g _).trans hv, ho, rfl, hp, hdn, hdn, rfl, rfl, rfl, rfl, rfl, rfl, .inl ⟨hdd, rfl⟩, [], hkw, .inl ⟨rfl, rfl⟩⟩
 ·obtain ⟨hsame, hu, ha, hap, hm⟩ : l.row.toRowW.same = none ∧ l.row.toRowW.under = ⟨true, true, true⟩ ∧ l.row.toRowW.after = ⟨true, true, true⟩ ∧ l.row.toRowW.apart = false ∧ l.row.toRowW.makers = [] := ⟨rfl, rfl, rfl, rfl, rfl⟩
  refine ClaimW.callFrom_of_specG (c := l.row.toRowW.claim) hz hgens fun args hpre hlay ord hord => ?_
  obtain ⟨⟨vs, s₂⟩, hlaid⟩ := Option.isSome_iff_exists.mp (layAllW_isSome (R := []) (P := w.params) (ord := ord) (fun c hc => by cases hc) args l.row.args s₁ (pre_splitW (r := l.row.toRowW) hpre).1)
  have keeps := layAllW_keeps _ _ _ hlaid
  have hal := layAllW_rest _ _ _ hlaid
  obtain ⟨as, hrd, hin, hold⟩ := reads_layAllW hord _ _ _ hlaid hlay s₂.heap (fun _ _ e => e)
  have L : Laid [] w s₁ s₂ args vs as := ⟨⟨ord, hord, hlaid⟩, hrd, hin, hold, keeps, hal.1.trans hgens, hal.2.2.1⟩
  have hnl : s₁.heap.NoLimit := by
   apply byC; intro kz; obtain ⟨hp, tk, mb₀, mg₀, c₀, Pl₀, B, rfl⟩ := boot.2 s hs; apply kz; clear kz
   exact ⟨_, B.statics.at' fun o e => T.keep _ o (by decide) e, rfl⟩
  apply byC; intro kz; obtain ⟨f, hf, h⟩ := call w s s₁ s₂ mg c Pl mb T H hnl args vs as hpre hlay L (Nat.le_trans ht1 (layAllW_grows _ _ _ hlaid).toks); apply kz; clear kz
  have hi := ident_freeW (r := l.row.toRowW) hu ha hap
  have hwi : l.row.toRowW.claim.within = [] := rfl
  apply byC; intro kz; obtain ⟨lp, m, _⟩ := T.main; apply kz; clear kz
  have hg2 : s₂.heap.Ns mainGlobals mg := m.g.keeps keeps
  refine ⟨vs, s₂, hlaid, wpAny_bind (wpAny_nsGet (a := mainNs) hg2 ?_)⟩
  have hf' : mg l.row.name = some f := hf
  rw [hf']
  refine wpAny_bind (wpAny_mono h (fun v s' g => wpAny_pure ⟨_, rfl, ?_⟩) fun _ _ x => x.elim)
  have z := g.laid (c := l.row.toRowW.claim) hsame hwi hi L
  refine ⟨z.1, z.2.1, z.2.2, fun q => ?_⟩
  have : l.writes = true := q
  rw [hwr] at this
  cases this
inductive PV where
 | none
 | bool (b : Bool)
 | int (i : Int)
 | str (x : Str)
 | ref (i : Nat)
inductive PO where
 | list (xs : List PV)
 | tuple (xs : List PV)
 | dict (es : List (Str × PV))
 | iter (src pos : Nat)
 | dead
structure PSt where
 vars : List (Option PV)
 hp : List (Bool × PO)
noncomputable abbrev PM (α : Type) := PSt → Option (α × PSt)
noncomputable def PM.bind {α β : Type} (m : PM α) (f : α → PM β) : PM β := fun s => match m s with
 | some (a, s') => f a s'
 | none => none
noncomputable def PM.ret {α : Type} (a : α) : PM α := fun s => some (a, s)
noncomputable def PM.fail {α : Type} : PM α := fun _ => none
inductive PF where
 | next
 | brk
 | cont
 | ret (v : PV)
inductive VRel (ρ : List Addr) : PV → Value → Prop
 | none : VRel ρ .none .none
 | bool (b : Bool) : VRel ρ (.bool b) (.bool b)
 | int (i : Int) (t : Tok) : VRel ρ (.int i) (.int i t)
 | str (x : Str) (t : Tok) : VRel ρ (.str x) (.str x t)
 | ref {i : Nat} {a : Addr} : ρ[i]? = some a → VRel ρ (.ref i) (.ref a)
inductive VRels (ρ : List Addr) : List PV → List Value → Prop
 | nil : VRels ρ [] []
 | cons {v rv xs vs} : VRel ρ v rv → VRels ρ xs vs → VRels ρ (v :: xs) (rv :: vs)
theorem zi {ρ ρ' : List Addr} (h : ρ <+: ρ') {i : Nat} {a : Addr} (e : ρ[i]? = some a) : ρ'[i]? = some a := by
 obtain ⟨t, rfl⟩ := h
 obtain ⟨hlt, rfl⟩ := List.getElem?_eq_some_iff.mp e
 rw [List.getElem?_append_left hlt, List.getElem?_eq_getElem hlt]
theorem VRel.up {ρ ρ' : List Addr} (h : ρ <+: ρ') {v rv} : VRel ρ v rv → VRel ρ' v rv
 | .none => .none
 | .bool b => .bool b
 | .int i t => .int i t
 | .str x t => .str x t
 | .ref e => .ref (zi h e)
theorem VRels.up {ρ ρ' : List Addr} (h : ρ <+: ρ') {xs : List PV} {vs : List Value} (r : VRels ρ xs vs) : VRels ρ' xs vs := by
 induction r with
 | nil => exact .nil
 | cons a _ ih => exact .cons (a.up h) ih
theorem VRels.length {ρ : List Addr} {xs : List PV} {vs : List Value} (r : VRels ρ xs vs) : vs.length = xs.length := by
 induction r with
 | nil => rfl
 | cons a _ ih => exact congrArg Nat.succ ih
theorem VRels.append {ρ : List Addr} {xs ys : List PV} {vs ws : List Value} (r : VRels ρ xs vs) (h : VRels ρ ys ws) : VRels ρ (xs ++ ys) (vs ++ ws) := by
 induction r with
 | nil => exact h
 | cons a _ ih => exact .cons a ih
theorem VRels.get {ρ : List Addr} {xs : List PV} {vs : List Value} (r : VRels ρ xs vs) : ∀ {i : Nat} {v : PV}, xs[i]? = some v → ∃ rv, vs[i]? = some rv ∧ VRel ρ v rv := by
 induction r with
 | nil => exact fun e => zC (List.getElem?_nil.symm.trans e)
 | cons a _ ih =>
  intro i v e
  cases i with
  | zero => cases e; exact ⟨_, rfl, a⟩
  | succ i => exact ih e
theorem VRels.get' {ρ : List Addr} {xs : List PV} {vs : List Value} (r : VRels ρ xs vs) : ∀ {i : Nat} {rv : Value}, vs[i]? = some rv → ∃ v, xs[i]? = some v ∧ VRel ρ v rv := by
 induction r with
 | nil => exact fun e => zC (List.getElem?_nil.symm.trans e)
 | cons a _ ih =>
  intro i v e
  cases i with
  | zero => cases e; exact ⟨_, rfl, a⟩
  | succ i => exact ih e
inductive FRel (ρ : List Addr) : PF → Flow → Prop
 | next : FRel ρ .next .next
 | brk : FRel ρ .brk .brk
 | cont : FRel ρ .cont .cont
 | ret {v rv} : VRel ρ v rv → FRel ρ (.ret v) (.ret rv)
structure Ctx where
 prog : Program
 w : World
 h₀ : Heap
 mg : Str → Option Value
 mb : Str → Option Value
structure GOK (G : Ctx) : Prop where
 g : G.h₀.Ns mainGlobals G.mg
 b : G.h₀.Ns builtinsNs G.mb
 mbs : ∀ x : Str, x ≠ "__name__" → G.mb x = bootBuiltins x
 nolim : G.h₀.NoLimit
inductive KRel (ρ : List Addr) : List (Str × PV) → List (Str × Value) → Prop
 | nil : KRel ρ [] []
 | cons {x : Str} {v rv es kvs} : VRel ρ v rv → KRel ρ es kvs → KRel ρ ((x, v) :: es) ((x, rv) :: kvs)
theorem KRel.up {ρ ρ' : List Addr} (h : ρ <+: ρ') {xs : List (Str × PV)} {vs : List (Str × Value)} (r : KRel ρ xs vs) : KRel ρ' xs vs := by
 induction r with
 | nil => exact .nil
 | cons a _ ih => exact .cons (a.up h) ih
noncomputable def ORel (G : Ctx) (ρ : List Addr) (o : PO) (h : Heap) (a : Addr) : Prop := match o with
 | .list xs => ∃ vs n, h.get? a = some { cls := .type "list", data := .seq (List.toArray vs) n } ∧ VRels ρ xs vs
 | .tuple xs => ∃ vs n, h.get? a = some { cls := .type "tuple", data := .seq (List.toArray vs) n } ∧ VRels ρ xs vs
 | .dict es => ∃ kvs, h.DictOf (strKind G.prog G.w) a kvs ∧ KRel ρ es kvs ∧ (a == sysModules) = false
 | .iter src pos => ∃ l, ρ[src]? = some l ∧ h.IsListIter a l pos
 | .dead => ∃ ob, h.get? a = some ob
theorem ORel.up {G : Ctx} {ρ ρ' : List Addr} (hp : ρ <+: ρ') {o : PO} {h : Heap} {a : Addr} (x : ORel G ρ o h a) : ORel G ρ' o h a := by
 cases o with
 | list xs => obtain ⟨vs, n, e, r⟩ := x; exact ⟨vs, n, e, r.up hp⟩
 | tuple xs => obtain ⟨vs, n, e, r⟩ := x; exact ⟨vs, n, e, r.up hp⟩
 | dict es => obtain ⟨kvs, e, r, q⟩ := x; exact ⟨kvs, e, r.up hp, q⟩
 | iter src pos => obtain ⟨l, e, r⟩ := x; exact ⟨l, zi hp e, r⟩
 | dead => exact x
theorem ORel.there {G : Ctx} {ρ : List Addr} {o : PO} {h : Heap} {a : Addr} (x : ORel G ρ o h a) : ∃ ob, h.get? a = some ob := by
 cases o with
 | list xs => obtain ⟨vs, n, e, r⟩ := x; exact ⟨_, e⟩
 | tuple xs => obtain ⟨vs, n, e, r⟩ := x; exact ⟨_, e⟩
 | dict es => obtain ⟨kvs, ⟨o, es, ep, e, _⟩, r⟩ := x; exact ⟨_, e⟩
 | iter src pos => obtain ⟨l, e, o, ho, r⟩ := x; exact ⟨_, ho⟩
 | dead => exact x
theorem ORel.at {G : Ctx} {ρ : List Addr} {o : PO} {h h' : Heap} {a : Addr} (x : ORel G ρ o h a) (k : ∀ ob, h.get? a = some ob → h'.get? a = some ob) : ORel G ρ o h' a := by
 cases o with
 | list xs => obtain ⟨vs, n, e, r⟩ := x; exact ⟨vs, n, k _ e, r⟩
 | tuple xs => obtain ⟨vs, n, e, r⟩ := x; exact ⟨vs, n, k _ e, r⟩
 | dict es => obtain ⟨kvs, e, r, q⟩ := x; exact ⟨kvs, e.at k, r, q⟩
 | iter src pos => obtain ⟨l, e, o, ho, r⟩ := x; exact ⟨l, e, o, k _ ho, r⟩
 | dead => obtain ⟨ob, ho⟩ := x; exact ⟨ob, k _ ho⟩
structure Prot where
 B : Addr → Option Obj
 out : Addr → Prop
 gB : Nat → Option GenState
 os : OsState
structure Stat where
 G : Ctx
 env : Env
 ns : List Str
 own : Bool
 d : Nat
structure FrOK (X : Stat) (B : Addr → Option Obj) (ρ : List Addr) (vars : List (Option PV)) (h : Heap) : Prop where
 locOut : B X.env.locals = none
 locNot : X.env.locals ∉ ρ
 loc : ∃ m, h.Ns X.env.locals m ∧ ∀ (i : Nat) (x : Str) (v : PV), X.ns[i]? = some x → X.env.kindOf x = some .local → vars[i]? = some (some v) → ∃ rv, m x = some rv ∧ VRel ρ v rv
 cell : ∀ (i : Nat) (x : Str), X.ns[i]? = some x → X.env.kindOf x = some .cell → ∃ c ov, X.env.cells.lookup x = some c ∧ c ≠ X.env.locals ∧ c ∉ ρ ∧ (X.own = true → B c = none) ∧ h.IsCell c ov ∧
  ∀ v, vars[i]? = some (some v) → ∃ rv, ov = some rv ∧ VRel ρ v rv
 len : vars.length = X.ns.length
structure XOK (X : Stat) : Prop where
 fn : X.env.scope.kind = .function
 glob : X.env.globals = mainGlobals
 blt : X.env.builtins = builtinsNs
 nodup : X.ns.Nodup
 gok : GOK X.G
 apart : ∀ x y c, X.env.cells.lookup x = some c → X.env.cells.lookup y = some c → x = y
 kinds : ∀ x ∈ X.ns, X.env.kindOf x = some .local ∨ X.env.kindOf x = some .cell
 cellsIn : ∀ x c, X.env.cells.lookup x = some c → x ∈ X.ns ∧ X.env.kindOf x = some .cell
structure AOK (d : Nat) (A : Around) : Prop where
 handled : A.handled = none
 depth : A.depth + 8 * d ≤ 950
 units : A.units + 100 * d ≤ 9000
structure Inv (X : Stat) (P : Prot) (ρ : List Addr) (st : PSt) (s : Shared) : Prop where
 held : ∀ a o, P.B a = some o → s.heap.get? a = some o
 old : ∀ a o, X.G.h₀.get? a = some o → P.B a = some o
 outs : ∀ a, P.out a → (∃ z, a ≤ z ∧ P.B z ≠ none) ∧ a ∉ ρ
 nd : ρ.Nodup
 len : ρ.length = st.hp.length
 objs : ∀ (i : Nat) (a : Addr) (c : Bool × PO), ρ[i]? = some a → st.hp[i]? = some c → ORel X.G ρ c.2 s.heap a
 fz : ∀ (i : Nat) (a : Addr) (c : Bool × PO), ρ[i]? = some a → st.hp[i]? = some c → P.B a ≠ none → c.1 = true
 bare : AllBare s.gens
 gheld : ∀ (g : Nat) (x : GenState), P.gB g = some x → s.gens[g]? = some x
 os : s.os = P.os
 fr : FrOK X P.B ρ st.vars s.heap
theorem Inv.get {X : Stat} {P : Prot} {ρ : List Addr} {st : PSt} {s : Shared} (I : Inv X P ρ st s) {a : Addr} {o : Obj} (e : X.G.h₀.get? a = some o) : s.heap.get? a = some o := I.held _ _ (I.old _ _ e)
section
variable {X : Stat} {P : Prot} {ρ : List Addr} {st : PSt} {s : Shared}
theorem Inv.wr (I : Inv X P ρ st s) {h' : Heap} {tk : Nat} (wr : List Addr) (hs : ∀ b o, b ∉ wr → s.heap.get? b = some o → h'.get? b = some o) (hB : ∀ a ∈ wr, P.B a = none) (hρ : ∀ a ∈ wr, a ∉ ρ) (hL : X.env.locals ∉ wr)
  (hc : ∀ x c, X.env.cells.lookup x = some c → c ∉ wr) : Inv X P ρ st { s with heap := h', toks := tk } := by
 refine ⟨fun b o e => hs _ _ (fun q => by rw [hB b q] at e; cases e) (I.held b o e), I.old, I.outs, I.nd, I.len,
  fun i b o h1 h2 => (I.objs i b o h1 h2).at fun ob e => hs _ _ (fun q => hρ b q (List.mem_of_getElem? h1)) e, I.fz, I.bare, I.gheld, I.os, ?_⟩
 apply byC; intro kz; obtain ⟨m, hm, hv⟩ := I.fr.loc; apply kz; clear kz
 refine ⟨I.fr.locOut, I.fr.locNot, ⟨m, hm.at' fun o e => hs _ _ hL e, hv⟩, fun i x h1 h2 => ?_, I.fr.len⟩
 apply byC; intro kz; obtain ⟨c, ov, h3, h4, h5, h6, ⟨o, ho, hd⟩, h8⟩ := I.fr.cell i x h1 h2; apply kz; clear kz
 exact ⟨c, ov, h3, h4, h5, h6, ⟨o, hs _ _ (hc x c h3) ho, hd⟩, h8⟩
theorem Inv.grow (I : Inv X P ρ st s) {h' : Heap} {tk : Nat} (k : ∀ b o, s.heap.get? b = some o → h'.get? b = some o) : Inv X P ρ st { s with heap := h', toks := tk } :=
 I.wr [] (fun b o _ e => k b o e) (fun _ h => nomatch h) (fun _ h => nomatch h) (fun h => nomatch h) (fun _ _ _ h => nomatch h)
theorem Inv.tok (I : Inv X P ρ st s) (tk : Nat) : Inv X P ρ st { s with toks := tk } := I.grow fun _ _ e => e
theorem Inv.sameBut (I : Inv X P ρ st s) {h' : Heap} {tk : Nat} {a : Addr} (hs : Heap.SameBut a s.heap h') (hB : P.B a = none) (hρ : a ∉ ρ) (hL : X.env.locals ≠ a)
  (hc : ∀ x c, X.env.cells.lookup x = some c → c ≠ a) : Inv X P ρ st { s with heap := h', toks := tk } :=
 I.wr [a] (fun b o hb e => (hs.2 b (by simpa using hb)).trans e) (by simpa using hB) (by simpa using hρ) (by simpa using hL) (fun x c h => by simpa using hc x c h)
theorem Inv.push (I : Inv X P ρ st s) {a : Addr} {o : PO} (ha : a ∉ ρ) (hB : P.B a = none) (hL : X.env.locals ≠ a) (hc : ∀ x c, X.env.cells.lookup x = some c → c ≠ a) (hout : ¬ P.out a)
  (ho : ORel X.G (ρ ++ [a]) o s.heap a) : Inv X P (ρ ++ [a]) { st with hp := st.hp ++ [(false, o)] } s := by
 have hp : ρ <+: ρ ++ [a] := List.prefix_append ..
 refine ⟨I.held, I.old, fun b hb => ⟨(I.outs b hb).1, ?_⟩, ?_, ?_, ?_, ?_, I.bare, I.gheld, I.os, ?_⟩
 ·intro hm
  rcases List.mem_append.mp hm with hm | hm
  ·exact (I.outs b hb).2 hm
  ·rw [List.mem_singleton] at hm
   exact hout (hm ▸ hb)
 ·rw [List.nodup_append]
  refine ⟨I.nd, by simp, ?_⟩
  intro x hx y hy
  rw [List.mem_singleton] at hy
  rintro rfl
  exact ha (hy ▸ hx)
 ·simp [I.len]
 ·intro i b c h1 h2
  rcases Nat.lt_trichotomy i ρ.length with h | h | h
  ·rw [List.getElem?_append_left h] at h1
   have h2 : (st.hp ++ [(false, o)])[i]? = some c := h2
   rw [List.getElem?_append_left (I.len ▸ h)] at h2
   exact (I.objs i b c h1 h2).up hp
  ·subst h
   have h2 : (st.hp ++ [(false, o)])[ρ.length]? = some c := h2
   rw [List.getElem?_concat_length] at h1
   rw [I.len, List.getElem?_concat_length] at h2
   cases h1
   cases h2
   exact ho
  ·rw [List.getElem?_eq_none (by rw [List.length_append, List.length_singleton]; exact h)] at h1
   cases h1
 ·intro i b c h1 h2 h3
  rcases Nat.lt_trichotomy i ρ.length with h | h | h
  ·rw [List.getElem?_append_left h] at h1
   have h2 : (st.hp ++ [(false, o)])[i]? = some c := h2
   rw [List.getElem?_append_left (I.len ▸ h)] at h2
   exact I.fz i b c h1 h2 h3
  ·subst h
   rw [List.getElem?_concat_length] at h1
   cases h1
   exact absurd hB h3
  ·rw [List.getElem?_eq_none (by rw [List.length_append, List.length_singleton]; exact h)] at h1
   cases h1
 ·apply byC; intro kz; obtain ⟨m, hm, hv⟩ := I.fr.loc; apply kz; clear kz
  refine ⟨I.fr.locOut, ?_, ⟨m, hm, fun i x v h1 h2 h3 => ?_⟩, fun i x h1 h2 => ?_, I.fr.len⟩
  ·intro hq
   rcases List.mem_append.mp hq with hq | hq
   ·exact I.fr.locNot hq
   ·exact hL (List.mem_singleton.mp hq)
  ·apply byC; intro kz; obtain ⟨rv, h4, h5⟩ := hv i x v h1 h2 h3; apply kz; clear kz
   exact ⟨rv, h4, h5.up hp⟩
  ·apply byC; intro kz; obtain ⟨c, ov, h3, h4, h5, h6, h7, h8⟩ := I.fr.cell i x h1 h2; apply kz; clear kz
   refine ⟨c, ov, h3, h4, ?_, h6, h7, fun v hv => ?_⟩
   ·intro hq
    rcases List.mem_append.mp hq with hq | hq
    ·exact h5 hq
    ·exact hc x c h3 (List.mem_singleton.mp hq)
   ·apply byC; intro kz; obtain ⟨rv, h9, h10⟩ := h8 v hv; apply kz; clear kz
    exact ⟨rv, h9, h10.up hp⟩
end
section
variable {X : Stat} {P : Prot} {ρ : List Addr} {st : PSt} {s : Shared}
theorem Inv.lt (I : Inv X P ρ st s) {a : Addr} (h : a ∈ ρ) : a < s.heap.objs.size := by
 obtain ⟨i, hi⟩ := List.mem_iff_getElem?.mp h
 obtain ⟨hlt, _⟩ := List.getElem?_eq_some_iff.mp hi
 rw [I.len] at hlt
 obtain ⟨ob, ho⟩ := (I.objs i a _ hi (List.getElem?_eq_getElem hlt)).there
 exact Heap.lt_size ho
theorem Inv.cell_lt (K : XOK X) (I : Inv X P ρ st s) {x : Str} {c : Addr} (h : X.env.cells.lookup x = some c) : c < s.heap.objs.size ∧ c ∉ ρ ∧ c ≠ X.env.locals ∧ (X.own = true → P.B c = none) := by
 apply byC; intro kz; obtain ⟨hm, hk⟩ := K.cellsIn x c h; apply kz; clear kz
 apply byC; intro kz; obtain ⟨i, hi⟩ := List.mem_iff_getElem?.mp hm; apply kz; clear kz
 apply byC; intro kz; obtain ⟨c', ov, h3, h4, h5, h6, h7, h8⟩ := I.fr.cell i x hi hk; apply kz; clear kz
 rw [h] at h3
 cases h3
 exact ⟨h7.lt, h5, h4, h6⟩
theorem Inv.loc_lt (I : Inv X P ρ st s) : X.env.locals < s.heap.objs.size := by
 obtain ⟨m, ⟨o, es, ep, ho, _⟩, _⟩ := I.fr.loc
 exact Heap.lt_size ho
theorem Inv.fresh (K : XOK X) (I : Inv X P ρ st s) {a : Addr} (ha : s.heap.objs.size ≤ a) : a ∉ ρ ∧ P.B a = none ∧ X.env.locals ≠ a ∧ ∀ x c, X.env.cells.lookup x = some c → c ≠ a := by
 refine ⟨fun h => absurd (I.lt h) (Nat.not_lt.mpr ha), ?_, fun q => absurd I.loc_lt (Nat.not_lt.mpr (q ▸ ha)), fun x c h q => absurd (I.cell_lt K h).1 (Nat.not_lt.mpr (q ▸ ha))⟩
 cases e : P.B a with
 | none => rfl
 | some o => exact absurd (Heap.lt_size (I.held a o e)) (Nat.not_lt.mpr ha)
theorem Inv.fresh_out (I : Inv X P ρ st s) {a : Addr} (ha : s.heap.objs.size ≤ a) : ¬ P.out a := fun h => by
 obtain ⟨⟨z, h1, h2⟩, _⟩ := I.outs a h
 cases e : P.B z with
 | none => exact h2 e
 | some o => exact absurd (Heap.lt_size (I.held z o e)) (Nat.not_lt.mpr (Nat.le_trans ha h1))
theorem Inv.alloc (K : XOK X) (I : Inv X P ρ st s) {o : PO} {ob : Obj} {tk : Nat} (ho : ORel X.G (ρ ++ [s.heap.objs.size]) o (s.heap.push ob) s.heap.objs.size) :
  Inv X P (ρ ++ [s.heap.objs.size]) { st with hp := st.hp ++ [(false, o)] } { s with heap := s.heap.push ob, toks := tk } := by
 apply byC; intro kz; obtain ⟨h1, h2, h3, h4⟩ := I.fresh K (Nat.le_refl _); apply kz; clear kz
 exact Inv.push (I.grow fun b o e => Heap.get?_push_of_some _ e) h1 h2 h3 h4 (I.fresh_out (Nat.le_refl _)) ho
theorem Inv.made (K : XOK X) (I : Inv X P ρ st s) {o : PO} {h' : Heap} {tk : Nat} {a : Addr} (ha : s.heap.objs.size ≤ a) (k : ∀ b o, s.heap.get? b = some o → h'.get? b = some o) (ho : ORel X.G (ρ ++ [a]) o h' a) :
  Inv X P (ρ ++ [a]) { st with hp := st.hp ++ [(false, o)] } { s with heap := h', toks := tk } := by
 apply byC; intro kz; obtain ⟨h1, h2, h3, h4⟩ := I.fresh K ha; apply kz; clear kz
 exact Inv.push (I.grow k) h1 h2 h3 h4 (I.fresh_out ha) ho
theorem Inv.last (I : Inv X P ρ st s) (a : Addr) : (ρ ++ [a])[st.hp.length]? = some a := by rw [← I.len, List.getElem?_concat_length]
theorem Inv.at (I : Inv X P ρ st s) {i : Nat} {c : Bool × PO} (h : st.hp[i]? = some c) : ∃ a, ρ[i]? = some a ∧ ORel X.G ρ c.2 s.heap a := by
 obtain ⟨hlt, _⟩ := List.getElem?_eq_some_iff.mp h
 have hlt' : i < ρ.length := by rw [I.len]; exact hlt
 exact ⟨ρ[i], List.getElem?_eq_getElem hlt', I.objs i _ c (List.getElem?_eq_getElem hlt') h⟩
theorem Inv.ref_at (I : Inv X P ρ st s) {i : Nat} {a : Addr} {c : Bool × PO} (hv : ρ[i]? = some a) (h : st.hp[i]? = some c) : ORel X.G ρ c.2 s.heap a := I.objs i a c hv h
end
noncomputable def SndR (X : Stat) {α β : Type} (ρ₀ : List Addr) (t : Sem α) (m : PM β) (VR : List Addr → β → α → Prop) : Prop :=
 ∀ (A : Around) (P : Prot) (s : Shared) (ρ : List Addr) (st st' : PSt) (b : β), ρ₀ <+: ρ → AOK X.d A → Inv X P ρ st s → m st = some (b, st') →
  wpAny (model X.G.prog X.G.w) A t (fun a s' => ∃ ρ', ρ <+: ρ' ∧ Inv X P ρ' st' s' ∧ VR ρ' b a) (fun _ _ => False) s
noncomputable abbrev SndE (X : Stat) (ρ₀ : List Addr) (e : Expr) (m : PM PV) : Prop := SndR X ρ₀ (eval e X.env) m VRel
noncomputable abbrev SndS (X : Stat) (ρ₀ : List Addr) (st : Stmt) (m : PM PF) : Prop := SndR X ρ₀ (exec st X.env) m FRel
noncomputable abbrev SndB (X : Stat) (ρ₀ : List Addr) (b : List Stmt) (m : PM PF) : Prop := SndR X ρ₀ (execs b X.env) m FRel
noncomputable abbrev SndT (X : Stat) (ρ₀ : List Addr) (e : Expr) (m : PM Bool) : Prop := SndR X ρ₀ (isTrue e X.env (eval e X.env)) m (fun _ b r => b = r)
noncomputable abbrev SndU (X : Stat) (ρ₀ : List Addr) (t : Sem Unit) (m : PM Unit) : Prop := SndR X ρ₀ t m (fun _ _ _ => True)
theorem PM.bind_some {α β : Type} {m : PM α} {f : α → PM β} {st st2 : PSt} {c : β} (h : m.bind f st = some (c, st2)) : ∃ b st1, m st = some (b, st1) ∧ f b st1 = some (c, st2) := by
 unfold PM.bind at h
 split at h
 ·rename_i a s' e
  exact ⟨a, s', e, h⟩
 ·cases h
section
variable {X : Stat} {α β γ δ : Type} {ρ₀ : List Addr}
theorem SndR.lift {ρ₁ : List Addr} {t : Sem α} {m : PM β} {VR} (h : SndR X ρ₀ t m VR) (hp : ρ₀ <+: ρ₁) : SndR X ρ₁ t m VR :=
 fun A P s ρ st st' b h1 h2 h3 h4 => h A P s ρ st st' b (hp.trans h1) h2 h3 h4
theorem SndR.bind {t : Sem α} {f : α → Sem γ} {m : PM β} {g : β → PM δ} {VR : List Addr → β → α → Prop} {VR2 : List Addr → δ → γ → Prop}
  (h1 : SndR X ρ₀ t m VR) (h2 : ∀ ρ b a, ρ₀ <+: ρ → VR ρ b a → SndR X ρ (f a) (g b) VR2) : SndR X ρ₀ (t >>= f) (m.bind g) VR2 := by
 intro A P s ρ st st2 c hρ hA hI e
 apply byC; intro kz; obtain ⟨b, st1, e1, e2⟩ := PM.bind_some e; apply kz; clear kz
 refine wpAny_bind (wpAny_mono (h1 A P s ρ st st1 b hρ hA hI e1) ?_ fun _ _ x => x.elim)
 rintro a s' ⟨ρ', hp, hI', hv⟩
 refine wpAny_mono (h2 ρ' b a (hρ.trans hp) hv A P s' ρ' st1 st2 c (List.prefix_refl _) hA hI' e2) ?_ fun _ _ x => x.elim
 rintro d s'' ⟨ρ2, hp2, hI2, hv2⟩
 exact ⟨ρ2, hp.trans hp2, hI2, hv2⟩
theorem SndR.pure {a : α} {b : β} {VR : List Addr → β → α → Prop} (h : ∀ ρ, ρ₀ <+: ρ → VR ρ b a) : SndR X ρ₀ (Pure.pure a) (PM.ret b) VR := by
 intro A P s ρ st st' b' hρ hA hI e
 cases e
 exact wpAny_pure ⟨ρ, List.prefix_refl _, hI, h ρ hρ⟩
theorem SndR.of {t : Sem α} {m : PM β} {VR : List Addr → β → α → Prop}
  (h : ∀ (A : Around) (P : Prot) (s : Shared) (ρ : List Addr) (st st' : PSt) (b : β) (Q : α → Shared → Prop) (E : Value → Shared → Prop), ρ₀ <+: ρ → AOK X.d A → Inv X P ρ st s → m st = some (b, st') →
   (∀ a s' ρ', ρ <+: ρ' → Inv X P ρ' st' s' → VR ρ' b a → Q a s') → wpAny (model X.G.prog X.G.w) A t Q E s) : SndR X ρ₀ t m VR :=
 fun A P s ρ st st' b hρ hA hI e => h A P s ρ st st' b _ _ hρ hA hI e fun a s' ρ' h2 h3 h4 => ⟨ρ', h2, h3, h4⟩
theorem SndR.post {t : Sem α} {m : PM β} {VR VR' : List Addr → β → α → Prop} (h : SndR X ρ₀ t m VR) (hv : ∀ ρ b a, VR ρ b a → VR' ρ b a) : SndR X ρ₀ t m VR' :=
 fun A P s ρ st st' b h1 h2 h3 h4 => wpAny_mono (h A P s ρ st st' b h1 h2 h3 h4) (fun _ _ ⟨ρ', a1, a2, a3⟩ => ⟨ρ', a1, a2, hv _ _ _ a3⟩) fun _ _ x => x.elim
theorem SndR.holding {vs : List Value} {t : Sem α} {m : PM β} {VR} (h : SndR X ρ₀ t m VR) : SndR X ρ₀ (PySem.holding vs t) m VR :=
 fun A P s ρ st st' b h1 h2 h3 h4 => wpAny_holding (h A P s ρ st st' b h1 h2 h3 h4)
theorem SndR.at {p : Pos} {f : Unit → Sem α} {m : PM β} {VR} (h : SndR X ρ₀ (f ()) m VR) : SndR X ρ₀ (standAt p >>= f) m VR :=
 fun A P s ρ st st' b h1 h2 h3 h4 => wpAny_bind (wpAny_standAt (h A P s ρ st st' b h1 h2 h3 h4))
theorem SndR.operate {vs : List Value} {t : Sem Value} {m : PM PV} {VR} (h : SndR X ρ₀ t m VR) : SndR X ρ₀ (PySem.operate vs t) m VR :=
 fun A P s ρ st st' b h1 h2 h3 h4 => fun Γ p hΓ => by
  rw [Sem.wp_operate]
  exact h A P s ρ st st' b h1 h2 h3 h4 Γ p hΓ
theorem SndR.run {t : Sem α} {m : PM β} {VR : List Addr → β → α → Prop} (h : SndR X ρ₀ t m VR) {A : Around} {P : Prot} {s : Shared} {ρ : List Addr} {st st' : PSt} {b : β} {Q : α → Shared → Prop} {E : Value → Shared → Prop}
  (hρ : ρ₀ <+: ρ) (hA : AOK X.d A) (hI : Inv X P ρ st s) (e : m st = some (b, st')) (hQ : ∀ a s' ρ', ρ <+: ρ' → Inv X P ρ' st' s' → VR ρ' b a → Q a s') : wpAny (model X.G.prog X.G.w) A t Q E s :=
 wpAny_mono (h A P s ρ st st' b hρ hA hI e) (fun a s' ⟨ρ', h2, h3, h4⟩ => hQ a s' ρ' h2 h3 h4) fun _ _ x => x.elim
end
section
variable {X : Stat} {P : Prot} {ρ : List Addr} {st : PSt} {s : Shared}
theorem zFo (K : XOK X) : (X.env.scope.kind == .class || (X.env.scope.kind == .module && X.env.locals != X.env.globals)) = false := by rw [K.fn]; rfl
theorem zIw {l : List (Option PV)} {i : Nat} {v : Option PV} (h : i < l.length) : (l.set i v)[i]? = some v := by rw [List.getElem?_set]; simp [h]
theorem zDF {l : List (Option PV)} {i j : Nat} {v w : Option PV} (h : (l.set i v)[j]? = some w) : (j = i ∧ w = v) ∨ (j ≠ i ∧ l[j]? = some w) := by
 rw [List.getElem?_set] at h
 by_cases hij : i = j
 ·subst hij
  rw [if_pos rfl] at h
  exact zAj h fun _ h => .inl ⟨rfl, (Option.some.inj h).symm⟩
 ·rw [if_neg hij] at h
  exact .inr ⟨Ne.symm hij, h⟩
theorem zFp {l : List Str} (hn : l.Nodup) {i j : Nat} {x : Str} (hi : l[i]? = some x) (hj : l[j]? = some x) : i = j := by
 obtain ⟨h1, e1⟩ := List.getElem?_eq_some_iff.mp hi
 obtain ⟨h2, e2⟩ := List.getElem?_eq_some_iff.mp hj
 have key := List.pairwise_iff_getElem.mp hn
 rcases Nat.lt_trichotomy i j with h | h | h
 ·exact absurd (e1.trans e2.symm) (key i j h1 h2 h)
 ·exact h
 ·exact absurd (e2.trans e1.symm) (key j i h2 h1 h)
noncomputable def pSet (i : Nat) (v : PV) : PM Unit := fun s => some ((), { s with vars := s.vars.set i (some v) })
noncomputable def pVar (i : Nat) : PM PV := fun s => match s.vars[i]? with
 | some (some v) => some (v, s)
 | _ => none
theorem zBu {A : Around} {Q : Unit → Shared → Prop} {E : Value → Shared → Prop} {M : Model} (K : XOK X) (I : Inv X P ρ st s) {i : Nat} {x : Str} {v : PV} {rv : Value} (hx : X.ns[i]? = some x) (ho : X.env.kindOf x = some .cell → X.own = true) (hv : VRel ρ v rv)
  (h : ∀ s', Inv X P ρ { st with vars := st.vars.set i (some v) } s' → Q () s') : wpAny M A (storeName X.env x rv) Q E s := by
 have hilt : i < st.vars.length := by rw [I.fr.len]; exact (List.getElem?_eq_some_iff.mp hx).1
 apply byC; intro kz; obtain ⟨m, hm, hmv⟩ := I.fr.loc; apply kz; clear kz
 rcases K.kinds x (List.mem_of_getElem? hx) with hk | hk
 ·refine wpAny_storeName_local hk hm (fun h' hn hs => h _ ?_) (zFo K)
  have k : ∀ b o, b ≠ X.env.locals → s.heap.get? b = some o → h'.get? b = some o := fun b o hb e => (hs.2 b hb).trans e
  refine ⟨fun b o e => k _ _ (fun q => by rw [q, I.fr.locOut] at e; cases e) (I.held b o e), I.old, I.outs, I.nd, I.len,
   fun j b o h1 h2 => (I.objs j b o h1 h2).at fun ob e => k _ _ (fun q => I.fr.locNot (q ▸ List.mem_of_getElem? h1)) e, I.fz, I.bare, I.gheld, I.os, ?_⟩
  refine ⟨I.fr.locOut, I.fr.locNot, ⟨_, hn, fun j y w hy hky hw => ?_⟩, fun j y hy hky => ?_, by show (st.vars.set _ _).length = _; rw [List.length_set]; exact I.fr.len⟩
  ·rcases zDF hw with ⟨rfl, e⟩ | ⟨hne, e⟩
   ·cases e
    rw [hx] at hy
    cases hy
    exact ⟨rv, by simp, hv⟩
   ·apply byC; intro kz; obtain ⟨rw', h1, h2⟩ := hmv j y w hy hky e; apply kz; clear kz
    refine ⟨rw', ?_, h2⟩
    show (if y = x then _ else _) = _
    rw [if_neg (fun (q : y = x) => hne (zFp K.nodup (q ▸ hy) hx))]
    exact h1
  ·apply byC; intro kz; obtain ⟨c, ov, h3, h4, h5, h6, h7, h8⟩ := I.fr.cell j y hy hky; apply kz; clear kz
   refine ⟨c, ov, h3, h4, h5, h6, h7.sameBut hs h4, fun w hw => ?_⟩
   rcases zDF hw with ⟨rfl, e⟩ | ⟨hne, e⟩
   ·rw [hx] at hy
    cases hy
    rw [hk] at hky
    cases hky
   ·exact h8 w e
 ·apply byC; intro kz; obtain ⟨c, ov, h3, h4, h5, h6, h7, h8⟩ := I.fr.cell i x hx hk; apply kz; clear kz
  have hBc := h6 (ho hk)
  refine wpAny_storeName_cell K.fn hk h3 h7 fun h' hc hs => h _ ?_
  have k : ∀ b o, b ≠ c → s.heap.get? b = some o → h'.get? b = some o := fun b o hb e => (hs.2 b hb).trans e
  refine ⟨fun b o e => k _ _ (fun q => by rw [q, hBc] at e; cases e) (I.held b o e), I.old, I.outs, I.nd, I.len,
   fun j b o h1 h2 => (I.objs j b o h1 h2).at fun ob e => k _ _ (fun q => h5 (q ▸ List.mem_of_getElem? h1)) e, I.fz, I.bare, I.gheld, I.os, ?_⟩
  refine ⟨I.fr.locOut, I.fr.locNot, ⟨m, hm.sameBut hs (Ne.symm h4), fun j y w hy hky hw => ?_⟩, fun j y hy hky => ?_, by show (st.vars.set _ _).length = _; rw [List.length_set]; exact I.fr.len⟩
  ·rcases zDF hw with ⟨rfl, e⟩ | ⟨hne, e⟩
   ·rw [hx] at hy
    cases hy
    rw [hk] at hky
    cases hky
   ·exact hmv j y w hy hky e
  ·by_cases hij : j = i
   ·subst hij
    rw [hx] at hy
    cases hy
    refine ⟨c, some rv, h3, h4, h5, h6, hc, fun w hw => ?_⟩
    have e : (st.vars.set j (some v))[j]? = some (some w) := hw
    rw [zIw hilt] at e
    cases e
    exact ⟨rv, rfl, hv⟩
   ·apply byC; intro kz; obtain ⟨c', ov', g3, g4, g5, g6, g7, g8⟩ := I.fr.cell j y hy hky; apply kz; clear kz
    have hcc : c' ≠ c := fun q => by
     subst q
     have := K.apart y x c' g3 h3
     subst this
     exact hij (zFp K.nodup hy hx)
    refine ⟨c', ov', g3, g4, g5, g6, g7.sameBut hs hcc, fun w hw => ?_⟩
    rcases zDF hw with ⟨rfl, e⟩ | ⟨hne, e⟩
    ·exact absurd rfl hij
    ·exact g8 w e
theorem zBv {A : Around} {Q : Value → Shared → Prop} {E : Value → Shared → Prop} {M : Model} (K : XOK X) (I : Inv X P ρ st s) {i : Nat} {x : Str} {v : PV} (hx : X.ns[i]? = some x) (hv : st.vars[i]? = some (some v))
  (h : ∀ rv, VRel ρ v rv → Q rv s) : wpAny M A (loadName X.env x) Q E s := by
 rcases K.kinds x (List.mem_of_getElem? hx) with hk | hk
 ·apply byC; intro kz; obtain ⟨m, hm, hmv⟩ := I.fr.loc; apply kz; clear kz
  apply byC; intro kz; obtain ⟨rv, h1, h2⟩ := hmv i x v hx hk hv; apply kz; clear kz
  exact wpAny_loadName_local K.fn hk hm h1 (h rv h2)
 ·apply byC; intro kz; obtain ⟨c, ov, h3, h4, h5, h6, h7, h8⟩ := I.fr.cell i x hx hk; apply kz; clear kz
  apply byC; intro kz; obtain ⟨rv, rfl, h2⟩ := h8 v hv; apply kz; clear kz
  exact wpAny_loadName_cell K.fn hk h3 h7 (h rv h2)
end
section
variable {X : Stat} {ρ₀ : List Addr}
theorem zIx {i : Nat} {st st' : PSt} {v : PV} (h : pVar i st = some (v, st')) : st.vars[i]? = some (some v) ∧ st' = st := by
 unfold pVar at h
 split at h
 ·rename_i v' e
  cases h
  exact ⟨e, rfl⟩
 ·cases h
theorem zFq (K : XOK X) (i : Nat) {x : Str} (hx : X.ns[i]? = some x) : SndR X ρ₀ (loadName X.env x) (pVar i) VRel :=
 .of fun A P s ρ st st' b Q E hρ hA I e h => by
  obtain ⟨hv, rfl⟩ := zIx e
  exact zBv K I hx hv fun rv hr => h rv s ρ (List.prefix_refl _) I hr
theorem zA (K : XOK X) (i : Nat) {x : Str} {pos : Pos} (hx : X.ns[i]? = some x) (hd : (x == ("__debug__" : Str)) = false) : SndE X ρ₀ (.Name x pos) (pVar i) := by
 show SndR _ _ (eval (.Name x pos) X.env) _ _
 rw [eval_Name X.env x pos hd]
 exact SndR.at (zFq K i hx)
theorem zEF (K : XOK X) (i : Nat) {x : Str} {v : PV} {rv : Value} (hx : X.ns[i]? = some x) (ho : X.env.kindOf x = some .cell → X.own = true) (hv : VRel ρ₀ v rv) : SndU X ρ₀ (bindName X.env x rv) (pSet i v) :=
 .of fun A P s ρ st st' b Q E hρ hA I e h => by
  cases e
  exact wpAny_bindName (zBu K I hx ho (hv.up hρ) fun s' I' => h () s' ρ (List.prefix_refl _) I' trivial)
theorem zF {i : Int} {k : Nat} {pos : Pos} : SndE X ρ₀ (.Constant (.int i) k pos) (PM.ret (.int i)) :=
 .of fun A P s ρ st st' b Q E hρ hA I e h => by
  cases e
  exact wpAny_Constant_int (k := k) (pos := pos) (h _ _ ρ (List.prefix_refl _) (I.tok _) (.int i _))
theorem zW {x : Str} {k : Nat} {pos : Pos} : SndE X ρ₀ (.Constant (.str x) k pos) (PM.ret (.str x)) :=
 .of fun A P s ρ st st' b Q E hρ hA I e h => by
  cases e
  exact Calls.Constant_str (h _ _ ρ (List.prefix_refl _) (I.tok _) (.str x _))
theorem zAV {b : Bool} {k : Nat} {pos : Pos} : SndE X ρ₀ (.Constant (.bool b) k pos) (PM.ret (.bool b)) := SndR.pure fun _ _ => .bool b
theorem zDG {k : Nat} {pos : Pos} : SndE X ρ₀ (.Constant .none k pos) (PM.ret .none) := SndR.pure fun _ _ => .none
noncomputable def pBin (f : PV → PV → PM PV) (l r : PM PV) : PM PV := l.bind fun a => r.bind fun b => f a b
noncomputable abbrev SndOp (X : Stat) (op : Value → Value → Sem Value) (f : PV → PV → PM PV) : Prop := ∀ ρ a b ra rb, VRel ρ a ra → VRel ρ b rb → SndR X ρ (op ra rb) (f a b) VRel
theorem zK {l r : Expr} {op : PySem.Operator} {pos : Pos} {ml mr : PM PV} {f : PV → PV → PM PV} (hl : SndE X [] l ml) (hr : SndE X [] r mr) (hf : SndOp X (binaryOp op) f) : SndE X ρ₀ (.BinOp l op r pos) (pBin f ml mr) := by
 show SndR _ _ (eval (.BinOp l op r pos) X.env) _ _
 rw [eval_BinOp]
 refine SndR.bind (hl.lift (List.nil_prefix)) fun ρ a ra hp ha => ?_
 refine SndR.bind (SndR.holding (hr.lift List.nil_prefix)) fun ρ' b rb hp' hb => ?_
 exact SndR.at (SndR.operate (hf ρ' a b ra rb (ha.up hp') hb))
theorem zEG {l r : Expr} {op : CmpOp} {pos : Pos} {ml mr : PM PV} {f : PV → PV → PM PV} (hl : SndE X [] l ml) (hr : SndE X [] r mr) (hf : SndOp X (compareOp op) f)
  (hm : behindInMarks op r = false) : SndE X ρ₀ (.Compare l [op] [r] pos) (pBin f ml mr) := by
 show SndR _ _ (eval (.Compare l [op] [r] pos) X.env) _ _
 rw [eval_Compare1, markedBehindIn_of_false hm]
 refine SndR.bind (hl.lift (List.nil_prefix)) fun ρ a ra hp ha => ?_
 refine SndR.bind (SndR.holding (hr.lift List.nil_prefix)) fun ρ' b rb hp' hb => ?_
 exact SndR.at (SndR.operate (hf ρ' a b ra rb (ha.up hp') hb))
end
noncomputable def zH : Nat := 1000000
theorem PM.bind_assoc {α β γ : Type} (m : PM α) (f : α → PM β) (g : β → PM γ) : (m.bind f).bind g = m.bind fun a => (f a).bind g := by
 funext s
 simp only [PM.bind]
 cases m s <;> rfl
theorem PM.ret_bind {α β : Type} (a : α) (f : α → PM β) : (PM.ret a).bind f = f a := rfl
noncomputable def zI (v : PV) : PM Bool := fun s => match v with
 | .none => some (false, s)
 | .bool b => some (b, s)
 | .int i => some (i != 0, s)
 | .str x => if x.length ≤ zH then some (x.length != 0, s) else none
 | .ref _ => none
section
variable {X : Stat}
theorem zDH {ρ : List Addr} {v : PV} {rv : Value} (hv : VRel ρ v rv) : SndR X ρ (truthy rv) (zI v) (fun _ b r => b = r) :=
 .of fun A P s ρ' st st' b Q E hρ hA I e h => by
  cases hv with
  | none => cases e; exact truthy_none (h _ _ ρ' (List.prefix_refl _) I rfl)
  | bool c => cases e; exact wpAny_truthy_bool (h _ _ ρ' (List.prefix_refl _) I rfl)
  | int i t => cases e; exact PySem.P.truthy_int (h _ _ ρ' (List.prefix_refl _) I rfl)
  | str x t =>
   refine zAj e fun hx e => ?_
   ·cases e
    have hx' : (x.length : Int) ≤ 1000000 := Int.ofNat_le.mpr hx
    refine PySem.P.truthy_str (by lia) (h _ _ ρ' (List.prefix_refl _) (I.tok _) ?_)
    cases x.length <;> rfl
  | ref _ => cases e
theorem zA1 {e : Expr} {m : PM PV} (he : ∀ whole, isTrue e X.env whole = (do let v ← whole; standAt e.pos; PySem.holding [v] (truthy v))) (h : SndE X [] e m) : SndT X [] e (m.bind zI) := by
 show SndR _ _ (isTrue e X.env _) _ _
 rw [he]
 exact SndR.bind h fun ρ v rv hp hv => SndR.at (SndR.holding (zDH hv))
theorem zY {l r : Expr} {op : CmpOp} {pos : Pos} {ml mr : PM PV} {f : PV → PV → PM PV} (hl : SndE X [] l ml) (hr : SndE X [] r mr) (hf : SndOp X (compareOp op) f)
  (hm : behindInMarks op r = false) : SndT X [] (.Compare l [op] [r] pos) ((pBin f ml mr).bind zI) := by
 show SndR _ _ (isTrue (.Compare l [op] [r] pos) X.env _) _ _
 rw [isTrue_Compare1, markedBehindIn_of_false hm]
 have e : (pBin f ml mr).bind zI = ml.bind fun a => mr.bind fun b => (f a b).bind zI := by
  simp only [pBin, PM.bind_assoc]
 rw [e]
 refine SndR.bind (hl.lift (List.nil_prefix)) fun ρ a ra hp ha => ?_
 refine SndR.bind (SndR.holding (hr.lift List.nil_prefix)) fun ρ' b rb hp' hb => ?_
 exact SndR.at (SndR.bind (SndR.operate (hf ρ' a b ra rb (ha.up hp') hb)) fun ρ2 c rc hp2 hc => SndR.holding (zDH hc))
theorem zIy {ρ : List Addr} {vs keep : List Value} : SndU X ρ (release vs keep) (PM.ret ()) := by
 intro A P s ρ' st st' b hρ hA I e
 cases e
 intro Γ p hΓ
 rw [Sem.wp_release]
 exact ⟨ρ', List.prefix_refl _, I, trivial⟩
noncomputable def zCT (f g : PV → PV → PM PV) (l m r : PM PV) : PM Bool := l.bind fun a => m.bind fun b => (f a b).bind fun c => (zI c).bind fun t => if t then r.bind fun d => (g b d).bind zI else PM.ret false
theorem zIz {l m r : Expr} {op op2 : CmpOp} {pos : Pos} {ml mm mr : PM PV} {f g : PV → PV → PM PV} (hl : SndE X [] l ml) (hmm : SndE X [] m mm) (hr : SndE X [] r mr) (hf : SndOp X (compareOp op) f) (hg : SndOp X (compareOp op2) g)
  (hm2 : behindInMarks op2 r = false) : SndT X [] (.Compare l [op, op2] [m, r] pos) (zCT f g ml mm mr) := by
 show SndR _ _ (isTrue (.Compare l [op, op2] [m, r] pos) X.env _) _ _
 rw [arm_isTrue_Compare]
 refine SndR.bind hl fun ρ a ra hp ha => ?_
 show SndR _ _ (testChain pos ra [op, op2] [eval m X.env, markedBehindIn op2 r (eval r X.env)]) _ _
 rw [markedBehindIn_of_false hm2]
 refine SndR.bind (SndR.holding (hmm.lift List.nil_prefix)) fun ρ1 b rb hp1 hb => ?_
 refine SndR.at ?_
 refine SndR.bind (SndR.holding (hf ρ1 a b ra rb (ha.up hp1) hb)) fun ρ2 c rc hp2 hc => ?_
 have e : ∀ {δ : Type} (k : PM δ), k = (PM.ret ()).bind fun _ => k := fun k => rfl
 rw [e (PM.bind (zI c) _)]
 refine SndR.bind zIy fun ρ3 _ _ hp3 _ => ?_
 refine SndR.bind (SndR.holding (zDH (hc.up hp3))) fun ρ4 t rt hp4 ht => ?_
 subst ht
 cases t with
 | false => exact SndR.pure fun _ _ => rfl
 | true =>
  show SndR _ _ (testChain pos rb [op2] [eval r X.env]) _ _
  refine SndR.bind (SndR.holding (hr.lift List.nil_prefix)) fun ρ5 d rd hp5 hd => ?_
  exact SndR.at (SndR.bind (SndR.operate (hg ρ5 b d rb rd (hb.up (hp2.trans (hp3.trans (hp4.trans hp5)))) hd)) fun ρ2 c rc hp2 hc => SndR.holding (zDH hc))
noncomputable def pNot (m : PM Bool) : PM Bool := m.bind fun b => PM.ret (!b)
theorem zI0 {e : Expr} {pos : Pos} {m : PM Bool} (h : SndT X [] e m) : SndT X [] (.UnaryOp .Not e pos) (pNot m) := by
 show SndR _ _ (isTrue (.UnaryOp .Not e pos) X.env _) _ _
 rw [arm_isTrue_UnaryOp]
 exact SndR.bind h fun ρ b r hp hb => SndR.pure fun _ _ => by rw [hb]
noncomputable abbrev SndA (X : Stat) (op : BoolOp) (es : List Expr) (m : PM Bool) : Prop := SndR X [] (allTrue op es X.env) m (fun _ b r => b = r)
noncomputable def pAnd (m k : PM Bool) : PM Bool := m.bind fun b => if b then k else PM.ret false
noncomputable def pOr (m k : PM Bool) : PM Bool := m.bind fun b => if b then PM.ret true else k
theorem zEH : SndA X .And [] (PM.ret true) := SndR.pure fun _ _ => rfl
theorem zBw {e : Expr} {es : List Expr} {m k : PM Bool} (h : SndT X [] e m) (hk : SndA X .And es k) : SndA X .And (e :: es) (pAnd m k) := by
 show SndR _ _ (allTrue .And (e :: es) X.env) _ _
 rw [arm_allTrue_cons]
 refine SndR.bind h fun ρ b r hp hb => ?_
 subst hb
 cases b with
 | false => exact SndR.pure fun _ _ => rfl
 | true => exact hk.lift List.nil_prefix
theorem zEI {op : BoolOp} {es : List Expr} {pos : Pos} {m : PM Bool} (h : SndA X op es m) : SndT X [] (.BoolOp op es pos) m := h
noncomputable def pSeq (m k : PM PF) : PM PF := m.bind fun f => match f with
 | .next => k
 | f => PM.ret f
theorem zJ : SndB X [] [] (PM.ret .next) := SndR.pure fun _ _ => .next
theorem zB {st : Stmt} {rest : List Stmt} {m k : PM PF} (h : SndS X [] st m) (hk : SndB X [] rest k) : SndB X [] (st :: rest) (pSeq m k) := by
 show SndR _ _ (execs (st :: rest) X.env) _ _
 rw [execs_cons]
 refine SndR.bind h fun ρ f rf hp hf => ?_
 cases hf with
 | next => exact hk.lift List.nil_prefix
 | brk => exact SndR.pure fun _ _ => .brk
 | cont => exact SndR.pure fun _ _ => .cont
 | ret hv => exact SndR.pure fun _ hq => .ret (hv.up hq)
noncomputable def pIf (t : PM Bool) (b o : PM PF) : PM PF := t.bind fun c => if c then b else o
theorem zd {t : Expr} {body orelse : List Stmt} {pos : Pos} {mt : PM Bool} {mb mo : PM PF} (ht : SndT X [] t mt) (hb : SndB X [] body mb) (ho : SndB X [] orelse mo) : SndS X [] (.If t body orelse pos) (pIf mt mb mo) := by
 show SndR _ _ (exec (.If t body orelse pos) X.env) _ _
 rw [exec_If]
 refine SndR.at (SndR.bind ht fun ρ c r hp hc => ?_)
 subst hc
 cases c with
 | true => exact hb.lift List.nil_prefix
 | false => exact ho.lift List.nil_prefix
noncomputable def pIfE (t : PM Bool) (b o : PM PV) : PM PV := t.bind fun c => if c then b else o
theorem zFr {t e f : Expr} {pos : Pos} {mt : PM Bool} {mb mo : PM PV} (ht : SndT X [] t mt) (hb : SndE X [] e mb) (ho : SndE X [] f mo) : SndE X [] (.IfExp t e f pos) (pIfE mt mb mo) := by
 show SndR _ _ (eval (.IfExp t e f pos) X.env) _ _
 rw [arm_eval_IfExp]
 refine SndR.bind ht fun ρ c r hp hc => ?_
 subst hc
 cases c with
 | true => exact hb.lift List.nil_prefix
 | false => exact ho.lift List.nil_prefix
noncomputable def zO (m : PM PV) : PM PF := m.bind fun v => PM.ret (.ret v)
theorem zb {e : Expr} {pos : Pos} {m : PM PV} (h : SndE X [] e m) : SndS X [] (.Return (some e) pos) (zO m) := by
 show SndR _ _ (exec (.Return (some e) pos) X.env) _ _
 rw [exec_Return_some]
 exact SndR.at (SndR.bind h fun ρ v rv hp hv => SndR.pure fun _ hq => .ret (hv.up hq))
noncomputable def zG (i : Nat) (m : PM PV) : PM PF := m.bind fun v => (pSet i v).bind fun _ => PM.ret .next
theorem zN (K : XOK X) (i : Nat) {x : Str} {e : Expr} {p1 pos : Pos} {m : PM PV} (hx : X.ns[i]? = some x) (ho : X.env.kindOf x = some .cell → X.own = true) (hs : swapsWith e (some (.Name x p1)) pos.line X.env = Pure.pure false) (h : SndE X [] e m) :
  SndS X [] (.Assign [.Name x p1] e pos) (zG i m) := by
 show SndR _ _ (exec (.Assign [.Name x p1] e pos) X.env) _ _
 rw [exec_Assign_Name _ _ _ _ _ hs]
 exact SndR.at (SndR.bind h fun ρ v rv hp hv => SndR.at (SndR.bind (zEF K i hx ho hv) fun ρ' _ _ _ _ => SndR.pure fun _ _ => .next))
noncomputable def pAug (i : Nat) (f : PV → PV → PM PV) (m : PM PV) : PM PF := (pVar i).bind fun a => m.bind fun b => (f a b).bind fun r => (pSet i r).bind fun _ => PM.ret .next
theorem zBx (K : XOK X) (i : Nat) {x : Str} {e : Expr} {p1 pos : Pos} {op : PySem.Operator} {f : PV → PV → PM PV} {m : PM PV} (hx : X.ns[i]? = some x) (ho : X.env.kindOf x = some .cell → X.own = true) (hf : SndOp X (inplaceOp op) f) (h : SndE X [] e m) :
  SndS X [] (.AugAssign (.Name x p1) op e pos) (pAug i f m) := by
 show SndR _ _ (exec (.AugAssign (.Name x p1) op e pos) X.env) _ _
 rw [exec_AugAssign_Name]
 refine SndR.at (SndR.bind (zFq K i hx) fun ρ a ra hp ha => ?_)
 refine SndR.bind (SndR.holding (h.lift List.nil_prefix)) fun ρ' b rb hp' hb => ?_
 refine SndR.at (SndR.bind (SndR.operate (hf ρ' a b ra rb (ha.up hp') hb)) fun ρ2 r rr hp2 hr => ?_)
 exact SndR.at (SndR.bind (zEF K i hx ho hr) fun ρ' _ _ _ _ => SndR.pure fun _ _ => .next)
noncomputable def pExpr (m : PM PV) : PM PF := m.bind fun v => match v with
 | .ref _ => PM.fail
 | _ => PM.ret .next
theorem zAp {e : Expr} {pos : Pos} {m : PM PV} (hi : interactive X.env = false) (hs : swapsWith e none pos.line X.env = Pure.pure false) (h : SndE X [] e m) : SndS X [] (.Expr e pos) (pExpr m) := by
 show SndR _ _ (exec (.Expr e pos) X.env) _ _
 rw [exec_Expr _ _ _ hi hs]
 refine SndR.at (SndR.bind h fun ρ v rv hp hv => ?_)
 cases hv with
 | ref _ => intro A P s ρ st st' b _ _ _ e; cases e
 | none => rw [dropValue_plain (fun _ q => by cases q)]; exact SndR.pure fun _ _ => .next
 | bool _ => rw [dropValue_plain (fun _ q => by cases q)]; exact SndR.pure fun _ _ => .next
 | int _ _ => rw [dropValue_plain (fun _ q => by cases q)]; exact SndR.pure fun _ _ => .next
 | str _ _ => rw [dropValue_plain (fun _ q => by cases q)]; exact SndR.pure fun _ _ => .next
noncomputable def zEJ (m : PM Bool) : PM PF := m.bind fun b => if b then PM.ret .next else PM.fail
theorem zI1 {t : Expr} {msg : Option Expr} {pos : Pos} {m : PM Bool} (h : SndT X [] t m) : SndS X [] (.Assert t msg pos) (zEJ m) := by
 show SndR _ _ (exec (.Assert t msg pos) X.env) _ _
 rw [arm_exec_Assert]
 refine SndR.at (SndR.bind h fun ρ c r hp hc => ?_)
 subst hc
 cases c with
 | true => exact SndR.pure fun _ _ => .next
 | false => intro A P s ρ st st' b _ _ _ e; cases e
noncomputable def zAW : Nat → PM Bool → PM PF → PM PF
 | 0, _, _ => PM.fail
 | n + 1, t, b => t.bind fun c => if c then b.bind fun f => match f with
   | .next => zAW n t b
   | .cont => zAW n t b
   | .brk => PM.ret .next
   | .ret v => PM.ret (.ret v)
  else PM.ret .next
theorem AOK.mark {d : Nat} {A : Around} (h : AOK d A) : AOK d (A.mark none) := ⟨by show Option.or none A.handled = none; rw [h.handled]; rfl, h.depth, h.units⟩
theorem zFs (n : Nat) {t : Expr} {body : List Stmt} {pos : Pos} {mt : PM Bool} {mb : PM PF} (ht : SndT X [] t mt) (hb : SndB X [] body mb) : SndS X [] (.While t body [] pos) (zAW n mt mb) := by
 intro A P s ρ st st' b hρ hA hI e
 refine wpAny_While (codeAny_whileLoop (fun n s' => ∃ ρ' st1, ρ <+: ρ' ∧ Inv X P ρ' st1 s' ∧ zAW n mt mb st1 = some (b, st')) ?_ n ⟨ρ, st, List.prefix_refl _, hI, e⟩)
 rintro n s1 ⟨ρ1, st1, hp1, I1, e1⟩
 cases n with
 | zero => cases e1
 | succ n =>
  apply byC; intro kz; obtain ⟨c, st2, e2, e3⟩ := PM.bind_some e1; apply kz; clear kz
  refine ht.run List.nil_prefix hA.mark I1 e2 fun c' s2 ρ2 hp2 I2 hc => ?_
  obtain rfl : c = c' := hc
  cases c with
  | false =>
   cases e3
   exact wpAny_execs_nil ⟨ρ2, hp1.trans hp2, I2, .next⟩
  | true =>
   apply byC; intro kz; obtain ⟨f, st3, e4, e5⟩ := PM.bind_some e3; apply kz; clear kz
   refine hb.run List.nil_prefix hA.mark I2 e4 fun f' s3 ρ3 hp3 I3 hf => ?_
   cases hf with
   | next => exact ⟨n, Nat.lt_succ_self n, ρ3, st3, hp1.trans (hp2.trans hp3), I3, e5⟩
   | cont => exact ⟨n, Nat.lt_succ_self n, ρ3, st3, hp1.trans (hp2.trans hp3), I3, e5⟩
   | brk => cases e5; exact ⟨ρ3, hp1.trans (hp2.trans hp3), I3, .next⟩
   | ret hv => cases e5; exact ⟨ρ3, hp1.trans (hp2.trans hp3), I3, .ret hv⟩
end
noncomputable def zu (o : PO) : PM PV := fun s => some (.ref s.hp.length, { s with hp := s.hp ++ [(false, o)] })
noncomputable def pAdd (a b : PV) : PM PV := fun s => match a, b with
 | .int i, .int j => some (.int (i + j), s)
 | .str x, .str y => if x.length + y.length ≤ zH then some (.str (x ++ y), s) else none
 | .ref i, .ref j => match s.hp[i]?, s.hp[j]? with
  | some (_, .list xs), some (_, .list ys) => if xs.length + ys.length ≤ zH then zu (.list (xs ++ ys)) s else none
  | _, _ => none
 | _, _ => none
noncomputable def pSub (a b : PV) : PM PV := fun s => match a, b with
 | .int i, .int j => some (.int (i - j), s)
 | _, _ => none
noncomputable def pMul (a b : PV) : PM PV := fun s => match a, b with
 | .int i, .int j => if i.natAbs < 2 ^ 64 ∨ j.natAbs < 2 ^ 64 then some (.int (i * j), s) else none
 | _, _ => none
noncomputable def pMod (a b : PV) : PM PV := fun s => match a, b with
 | .int i, .int j => if j = 0 then none else some (.int (i.fmod j), s)
 | _, _ => none
noncomputable def pDiv (a b : PV) : PM PV := fun s => match a, b with
 | .int i, .int j => if j = 0 ∨ ¬ j.natAbs < 1073741824 then none else some (.int (i.fdiv j), s)
 | _, _ => none
noncomputable def pPow (a b : PV) : PM PV := fun s => match a, b with
 | .int i, .int j => if 0 ≤ j ∧ j ≤ 1000000 ∧ i.natAbs < 2 ^ 64 then some (.int (i ^ j.toNat), s) else none
 | _, _ => none
noncomputable def pShl (a b : PV) : PM PV := fun s => match a, b with
 | .int i, .int j => if 0 ≤ j ∧ j ≤ 1000000 ∧ i.natAbs < 2 ^ 64 then some (.int (i * 2 ^ j.toNat), s) else none
 | _, _ => none
noncomputable def zBP (a b : PV) : PM PV := fun s => match a, b with
 | .int i, .int j => some (.int (Builtin.bitAnd i j), s)
 | _, _ => none
noncomputable def zCU (a b : PV) : PM PV := fun s => match a, b with
 | .int i, .int j => some (.int (Builtin.bitOr i j), s)
 | _, _ => none
noncomputable def pLt (a b : PV) : PM PV := fun s => match a, b with
 | .int i, .int j => some (.bool (decide (i < j)), s)
 | .str x, .str y => some (.bool (decide (x.cps.toList < y.cps.toList)), s)
 | _, _ => none
noncomputable def pGt (a b : PV) : PM PV := fun s => match a, b with
 | .int i, .int j => some (.bool (decide (i > j)), s)
 | .str x, .str y => some (.bool (decide (y.cps.toList < x.cps.toList)), s)
 | _, _ => none
noncomputable def pLe (a b : PV) : PM PV := fun s => match a, b with
 | .int i, .int j => some (.bool (decide (i ≤ j)), s)
 | _, _ => none
noncomputable def pGe (a b : PV) : PM PV := fun s => match a, b with
 | .int i, .int j => some (.bool (decide (i ≥ j)), s)
 | _, _ => none
noncomputable def pIsB : PV → PV → Option Bool
 | .bool a, .bool b => some (a == b)
 | .none, .none => some true
 | .int _, .none => some false
 | .str _, .none => some false
 | .bool _, .none => some false
 | _, _ => none
noncomputable def pIs (a b : PV) : PM PV := fun s => (pIsB a b).map fun c => (.bool c, s)
noncomputable def zBy (a b : PV) : PM PV := fun s => (pIsB a b).map fun c => (.bool (!c), s)
theorem zAG {n : Nat} (h : n ≤ zH) : n ≤ sizeLine := Nat.le_trans h (by decide)
theorem zFt {i : Int} (h : i.natAbs < 2 ^ 64) : Builtin.Int.intBits i ≤ 64 := intBits_le_64 (by lia) (by lia)
section
variable {X : Stat}
theorem zCV {ρ : List Addr} {t : Sem α} {m : PM β} {VR : List Addr → β → α → Prop} (h : ∀ s, m s = none) : SndR X ρ t m VR :=
 fun A P s ρ' st st' b _ _ _ e => by rw [h] at e; cases e
theorem zDI {ρ : List Addr} {t : Sem α} {m : PM β} {VR : List Addr → β → α → Prop} {c : Prop} [Decidable c] (h : c → SndR X ρ t m VR) : SndR X ρ t (fun s => if c then m s else none) VR := by
 intro A P s ρ' st st' b hρ hA hI e
 by_cases hc : c
 ·exact h hc A P s ρ' st st' b hρ hA hI ((if_pos hc).symm.trans e)
 ·exact nomatch (if_neg hc).symm.trans e
theorem zFu {ρ : List Addr} {t : Sem α} {m : PM β} {VR : List Addr → β → α → Prop} {c : Prop} [Decidable c] (h : ¬ c → SndR X ρ t m VR) : SndR X ρ t (fun s => if c then none else m s) VR := by
 intro A P s ρ' st st' b hρ hA hI e
 by_cases hc : c
 ·exact nomatch (if_pos hc).symm.trans e
 ·exact h hc A P s ρ' st st' b hρ hA hI ((if_neg hc).symm.trans e)
theorem zA2 {ρ : List Addr} {t : Sem Value} {v : PV} {rv : Nat → Value} (hv : ∀ k, VRel ρ v (rv k)) (h : ∀ {A : Around} {s : Shared} {Q : Value → Shared → Prop} {E : Value → Shared → Prop}, AOK X.d A → (∀ k, Q (rv k) { s with toks := s.toks + 1 }) → wpAny (model X.G.prog X.G.w) A t Q E s) :
  SndR X ρ t (fun s => some (v, s)) VRel :=
 .of fun A P s ρ' st st' b Q E hρ hA I e hq => by cases e; exact h hA fun k => hq _ _ ρ' (List.prefix_refl _) (I.tok _) ((hv k).up hρ)
theorem zEK {ρ : List Addr} {t : Sem Value} {v : PV} (h : ∀ {A : Around} {P : Prot} {s : Shared} {ρ' : List Addr} {st : PSt} {Q : Value → Shared → Prop} {E : Value → Shared → Prop}, ρ <+: ρ' → AOK X.d A → Inv X P ρ' st s → (∀ a s', Inv X P ρ' st s' → VRel ρ' v a → Q a s') → wpAny (model X.G.prog X.G.w) A t Q E s) :
  SndR X ρ t (fun s => some (v, s)) VRel :=
 .of fun A P s ρ' st st' b Q E hρ hA I e hq => by cases e; exact h hρ hA I fun a s' I' hv => hq a s' ρ' (List.prefix_refl _) I' hv
theorem zAN {ρ : List Addr} {t : Sem Value} {b : Bool} (h : ∀ {A : Around} {s : Shared} {Q : Value → Shared → Prop} {E : Value → Shared → Prop}, AOK X.d A → Q (.bool b) s → wpAny (model X.G.prog X.G.w) A t Q E s) : SndR X ρ t (fun s => some (.bool b, s)) VRel :=
 .of fun A P s ρ' st st' b Q E hρ hA I e hq => by cases e; exact h hA (hq _ _ ρ' (List.prefix_refl _) I (.bool _))
theorem op_ii {op : Value → Value → Sem Value} {f : PV → PV → PM PV} (hn : ∀ a b s, (∃ i j, a = .int i ∧ b = .int j) ∨ f a b s = none) (h : ∀ ρ i t j u, SndR X ρ (op (.int i t) (.int j u)) (f (.int i) (.int j)) VRel) : SndOp X op f := by
 intro ρ a b ra rb ha hb A P s ρ' st st' c hρ hA I e
 rcases hn a b st with ⟨i, j, rfl, rfl⟩ | h0
 ·cases ha; cases hb; exact h _ _ _ _ _ A P s ρ' st st' c hρ hA I e
 ·exact nomatch h0.symm.trans e
theorem zFv {op : Value → Value → Sem Value} {f : PV → PV → PM PV} (hn : ∀ a b s, (∃ i j, a = .int i ∧ b = .int j) ∨ (∃ i j, a = .str i ∧ b = .str j) ∨ f a b s = none) (h : ∀ ρ i t j u, SndR X ρ (op (.int i t) (.int j u)) (f (.int i) (.int j)) VRel)
  (h2 : ∀ ρ i t j u, SndR X ρ (op (.str i t) (.str j u)) (f (.str i) (.str j)) VRel) : SndOp X op f := by
 intro ρ a b ra rb ha hb A P s ρ' st st' c hρ hA I e
 rcases hn a b st with ⟨i, j, rfl, rfl⟩ | ⟨i, j, rfl, rfl⟩ | h0
 ·cases ha; cases hb; exact h _ _ _ _ _ A P s ρ' st st' c hρ hA I e
 ·cases ha; cases hb; exact h2 _ _ _ _ _ A P s ρ' st st' c hρ hA I e
 ·exact nomatch h0.symm.trans e
theorem zBD : SndOp X (binaryOp .Sub) pSub := op_ii (fun a b s => by cases a <;> first | exact .inr rfl | (cases b <;> first | exact .inr rfl | exact .inl ⟨_, _, rfl, rfl⟩)) fun ρ i t j u => zA2 (rv := fun k => .int (i - j) k) (fun _ => .int _ _) fun _ h => PySem.P.sub_int (h _)
theorem zFw : SndOp X (inplaceOp .Sub) pSub := op_ii (fun a b s => by cases a <;> first | exact .inr rfl | (cases b <;> first | exact .inr rfl | exact .inl ⟨_, _, rfl, rfl⟩)) fun ρ i t j u => zA2 (rv := fun k => .int (i - j) k) (fun _ => .int _ _) fun _ h => PySem.P.isub_int (h _)
theorem zEL : SndOp X (binaryOp .Mult) pMul := op_ii (fun a b s => by cases a <;> first | exact .inr rfl | (cases b <;> first | exact .inr rfl | exact .inl ⟨_, _, rfl, rfl⟩)) fun ρ i t j u =>
 zDI fun hc => zA2 (rv := fun k => .int (i * j) k) (fun _ => .int _ _) fun _ h => PySem.P.mul_int (h _) (hc.elim (fun c => .of_left (zFt c)) fun c => .of_right (zFt c))
theorem zA3 : SndOp X (binaryOp .Mod) pMod := op_ii (fun a b s => by cases a <;> first | exact .inr rfl | (cases b <;> first | exact .inr rfl | exact .inl ⟨_, _, rfl, rfl⟩)) fun ρ i t j u =>
 zFu fun hc => zA2 (rv := fun k => .int (i.fmod j) k) (fun _ => .int _ _) fun _ h => mod_int' hc (h _)
theorem zCW : SndOp X (binaryOp .FloorDiv) pDiv := op_ii (fun a b s => by cases a <;> first | exact .inr rfl | (cases b <;> first | exact .inr rfl | exact .inl ⟨_, _, rfl, rfl⟩)) fun ρ i t j u =>
 zFu fun hc => zA2 (rv := fun k => .int (i.fdiv j) k) (fun _ => .int _ _) fun _ h => floordiv_int (fun q => hc (.inl q)) (h _) (.inl (PyProof.noPylong_small (Classical.byContradiction fun q => hc (.inr q))))
theorem zEM : SndOp X (binaryOp .Pow) pPow := op_ii (fun a b s => by cases a <;> first | exact .inr rfl | (cases b <;> first | exact .inr rfl | exact .inl ⟨_, _, rfl, rfl⟩)) fun ρ i t j u =>
 zDI fun hc => zA2 (rv := fun k => .int (i ^ j.toNat) k) (fun _ => .int _ _) fun _ h => pow_int_small hc.1 hc.2.1 hc.2.2 (h _)
theorem zI2 : SndOp X (inplaceOp .LShift) pShl := op_ii (fun a b s => by cases a <;> first | exact .inr rfl | (cases b <;> first | exact .inr rfl | exact .inl ⟨_, _, rfl, rfl⟩)) fun ρ i t j u =>
 zDI fun hc => zA2 (rv := fun k => .int (i * 2 ^ j.toNat) k) (fun _ => .int _ _) fun _ h => ilshift_int_small hc.1 hc.2.1 hc.2.2 (h _)
theorem zEN : SndOp X (binaryOp .BitAnd) zBP := op_ii (fun a b s => by cases a <;> first | exact .inr rfl | (cases b <;> first | exact .inr rfl | exact .inl ⟨_, _, rfl, rfl⟩)) fun ρ i t j u => zA2 (rv := fun k => .int (Builtin.bitAnd i j) k) (fun _ => .int _ _) fun _ h => and_int (h _)
theorem zI3 : SndOp X (inplaceOp .BitOr) zCU := op_ii (fun a b s => by cases a <;> first | exact .inr rfl | (cases b <;> first | exact .inr rfl | exact .inl ⟨_, _, rfl, rfl⟩)) fun ρ i t j u => zA2 (rv := fun k => .int (Builtin.bitOr i j) k) (fun _ => .int _ _) fun _ h => ior_int (h _)
theorem op_lt : SndOp X (compareOp .Lt) pLt := zFv (fun a b s => by cases a <;> first | exact .inr (.inr rfl) | (cases b <;> first | exact .inr (.inr rfl) | exact .inl ⟨_, _, rfl, rfl⟩ | exact .inr (.inl ⟨_, _, rfl, rfl⟩))) (fun ρ i t j u => zAN fun _ h => PySem.P.lt_int h) fun ρ i t j u => zAN fun _ h => PySem.P.lt_str h
theorem op_gt : SndOp X (compareOp .Gt) pGt := zFv (fun a b s => by cases a <;> first | exact .inr (.inr rfl) | (cases b <;> first | exact .inr (.inr rfl) | exact .inl ⟨_, _, rfl, rfl⟩ | exact .inr (.inl ⟨_, _, rfl, rfl⟩))) (fun ρ i t j u => zAN fun _ h => PySem.P.gt_int h) fun ρ i t j u => zAN fun _ h => PySem.P.gt_str h
theorem op_le : SndOp X (compareOp .LtE) pLe := op_ii (fun a b s => by cases a <;> first | exact .inr rfl | (cases b <;> first | exact .inr rfl | exact .inl ⟨_, _, rfl, rfl⟩)) fun ρ i t j u => zAN fun _ h => PySem.P.le_int h
theorem op_ge : SndOp X (compareOp .GtE) pGe := op_ii (fun a b s => by cases a <;> first | exact .inr rfl | (cases b <;> first | exact .inr rfl | exact .inl ⟨_, _, rfl, rfl⟩)) fun ρ i t j u => zAN fun _ h => PySem.P.ge_int h
theorem op_is : SndOp X (compareOp .Is) pIs := by
 intro ρ a b ra rb ha hb
 cases ha <;> cases hb <;> first | exact zCV fun _ => rfl | exact zAN fun _ h => is_bool h | exact zAN fun _ h => is_none_none h | exact zAN fun _ h => is_int_none h | exact zAN fun _ h => is_str_none h | exact zAN fun _ h => is_bool_none h
theorem zFx : SndOp X (compareOp .IsNot) zBy := by
 intro ρ a b ra rb ha hb
 cases ha <;> cases hb <;> first | exact zCV fun _ => rfl | exact zAN fun _ h => isnot_bool h | exact zAN fun _ h => isnot_none_none h | exact zAN fun _ h => isnot_int_none h | exact zAN fun _ h => isnot_str_none h | exact zAN fun _ h => isnot_bool_none h
theorem zI4 {i j : Nat} {s : PSt} {r : PV × PSt} (e : pAdd (.ref i) (.ref j) s = some r) : ∃ f xs g ys, s.hp[i]? = some (f, .list xs) ∧ s.hp[j]? = some (g, .list ys) ∧ xs.length + ys.length ≤ zH ∧ some (PV.ref s.hp.length, { s with hp := s.hp ++ [(false, .list (xs ++ ys))] }) = some r := by
 have e : (match s.hp[i]?, s.hp[j]? with | some (_, .list xs), some (_, .list ys) => if xs.length + ys.length ≤ zH then zu (.list (xs ++ ys)) s else none | _, _ => none) = some r := e
 revert e
 generalize s.hp[i]? = p
 generalize s.hp[j]? = q
 intro e
 cases p with
 | none => exact zC e
 | some p =>
  obtain ⟨f, p⟩ := p
  cases p with
  | list xs =>
   cases q with
   | none => exact zC e
   | some q =>
    obtain ⟨g, q⟩ := q
    cases q with
    | list ys =>
     by_cases hc : xs.length + ys.length ≤ zH
     ·exact ⟨f, xs, g, ys, rfl, rfl, hc, (if_pos hc).symm.trans e⟩
     ·exact zC ((if_neg hc).symm.trans e)
    | _ => exact zC e
  | _ => exact zC e
theorem zS (K : XOK X) : SndOp X (binaryOp .Add) pAdd := by
 intro ρ a b ra rb ha hb; cases ha <;> cases hb <;> first | exact zCV fun _ => rfl | skip
 ·exact zEK fun hρ hA I h => PySem.P.add_int (h _ _ (I.tok _) (.int _ _))
 ·exact zDI fun hc => zEK fun hρ hA I h => SB.add (fun t' k => h _ _ (I.tok _) (.str _ _)) (zAG hc)
 ·rename_i i a1 hi j b1 hj
  exact .of fun A P s ρ' st st' b Q E hρ hA I e h => by
   apply byC; intro kz; obtain ⟨f, xs, g, ys, e1, e2, hc, e⟩ := zI4 e; apply kz; clear kz
   cases e
   apply byC; intro kz; obtain ⟨vs, n, g1, r1⟩ := I.ref_at (zi hρ hi) e1; apply kz; clear kz
   apply byC; intro kz; obtain ⟨ws, n2, g2, r2⟩ := I.ref_at (zi hρ hj) e2; apply kz; clear kz
   refine PySem.P.add_list g1 g2 (h _ _ _ (List.prefix_append ..) (I.alloc K ⟨vs ++ ws, 0, ?_, ?_⟩) (.ref (I.last _))) (by rw [List.size_toArray, List.size_toArray, r1.length, r2.length]; exact zAG hc)
   ·rw [Heap.get?_push_size _ rfl, List.append_toArray]
   ·exact (r1.append r2).up (List.prefix_append ..)
theorem zI5 : SndOp X (inplaceOp .Add) (fun a b => fun s => match a, b with
  | .int i, .int j => some (.int (i + j), s)
  | _, _ => none) := op_ii (fun a b s => by cases a <;> first | exact .inr rfl | (cases b <;> first | exact .inr rfl | exact .inl ⟨_, _, rfl, rfl⟩)) fun ρ i t j u => zA2 (rv := fun k => .int (i + j) k) (fun _ => .int _ _) fun _ h => PySem.P.iadd_int (h _)
noncomputable def pNeg (m : PM PV) : PM PV := m.bind fun v s => match v with
 | .int i => some (.int (-i), s)
 | _ => none
theorem zAk {e : Expr} {pos : Pos} {m : PM PV} (h : SndE X [] e m) : SndE X [] (.UnaryOp .USub e pos) (pNeg m) := by
 show SndR _ _ (eval (.UnaryOp .USub e pos) X.env) _ _
 rw [arm_eval_UnaryOp]
 refine SndR.bind h fun ρ v rv hp hv => SndR.at (SndR.holding ?_)
 cases hv with
 | int i t => exact .of fun A P s ρ' st st' b Q E hρ hA I e h => by cases e; exact PySem.P.neg_int (h _ _ ρ' (List.prefix_refl _) (I.tok _) (.int _ _))
 | _ => exact zCV fun _ => rfl
end
section
noncomputable def eqAll (f : PV → PV → Option Bool) : List PV → List PV → Option Bool
 | [], [] => some true
 | x :: xs, y :: ys => match f x y, eqAll f xs ys with
  | some a, some b => some (a && b)
  | _, _ => none
 | _, _ => none
noncomputable def eqTop (hp : List (Bool × PO)) (f : PV → PV → Option Bool) : PV → PV → Option Bool
 | .none, .none => some true
 | .bool a, .bool b => some (a == b)
 | .int i, .int j => some (i == j)
 | .str x, .str y => some (x == y)
 | .ref i, .ref j => match hp[i]?, hp[j]? with
  | some (_, .list xs), some (_, .list ys) => if xs.length = ys.length then eqAll f xs ys else some false
  | some (_, .tuple xs), some (_, .tuple ys) => if xs.length = ys.length then eqAll f xs ys else none
  | _, _ => none
 | _, _ => none
theorem zEO {hp : List (Bool × PO)} {f : PV → PV → Option Bool} {i j : Nat} : eqTop hp f (.ref i) (.ref j) = match hp[i]?, hp[j]? with
  | some (_, .list xs), some (_, .list ys) => if xs.length = ys.length then eqAll f xs ys else some false
  | some (_, .tuple xs), some (_, .tuple ys) => if xs.length = ys.length then eqAll f xs ys else none
  | _, _ => none := rfl
noncomputable def eqIn (hp : List (Bool × PO)) (f : PV → PV → Option Bool) (a b : PV) : Option Bool := match a, b with
 | .ref i, .ref j => if i = j then some true else eqTop hp f a b
 | _, _ => eqTop hp f a b
noncomputable def pEqV (hp : List (Bool × PO)) : Nat → PV → PV → Option Bool
 | 0 => fun _ _ => none
 | n + 1 => eqIn hp (pEqV hp n)
noncomputable def pEq (a b : PV) : PM PV := fun s => (eqTop s.hp (pEqV s.hp 3) a b).map fun k => (.bool k, s)
noncomputable def pNe (a b : PV) : PM PV := fun s => (eqTop s.hp (pEqV s.hp 3) a b).map fun k => (.bool (!k), s)
noncomputable def anyEq (f : PV → PV → Option Bool) (x : PV) : List PV → Option Bool
 | [] => some false
 | y :: ys => match f y x, anyEq f x ys with
  | some a, some b => some (a || b)
  | _, _ => none
noncomputable def inB (hp : List (Bool × PO)) (x c : PV) : Option Bool := match c with
 | .str y => match x with
  | .str z => some (Txt.contains y z)
  | _ => none
 | .ref i => match hp[i]? with
  | some (_, .list xs) => anyEq (pEqV hp 3) x xs
  | some (_, .tuple xs) => anyEq (pEqV hp 3) x xs
  | _ => none
 | _ => none
theorem zFy {hp : List (Bool × PO)} {x : PV} {i : Nat} : inB hp x (.ref i) = match hp[i]? with
  | some (_, .list xs) => anyEq (pEqV hp 3) x xs
  | some (_, .tuple xs) => anyEq (pEqV hp 3) x xs
  | _ => none := rfl
noncomputable def pIn (a b : PV) : PM PV := fun s => (inB s.hp a b).map fun k => (.bool k, s)
noncomputable def zAK (a b : PV) : PM PV := fun s => (inB s.hp a b).map fun k => (.bool (!k), s)
section
variable {X : Stat} {P : Prot} {ρ : List Addr} {st : PSt} {s : Shared}
open PySem.SeqAt
theorem zCX {l : List Addr} (hn : l.Nodup) {i j : Nat} {x : Addr} (hi : l[i]? = some x) (hj : l[j]? = some x) : i = j := by
 obtain ⟨h1, e1⟩ := List.getElem?_eq_some_iff.mp hi
 obtain ⟨h2, e2⟩ := List.getElem?_eq_some_iff.mp hj
 have key := List.pairwise_iff_getElem.mp hn
 rcases Nat.lt_trichotomy i j with h | h | h
 ·exact absurd (e1.trans e2.symm) (key i j h1 h2 h)
 ·exact h
 ·exact absurd (e2.trans e1.symm) (key j i h2 h1 h)
theorem VRel.inj (hn : ρ.Nodup) {v w : PV} {r : Value} (h1 : VRel ρ v r) (h2 : VRel ρ w r) : v = w := by
 revert h2
 cases h1 with
 | none => intro h2; cases h2; rfl
 | bool b => intro h2; cases h2; rfl
 | int i t => intro h2; cases h2; rfl
 | str x t => intro h2; cases h2; rfl
 | ref hi => intro h2; cases h2 with | ref hj => rw [zCX hn hi hj]
noncomputable def zBd (A : Around) (s : Shared) (ρ : List Addr) (f : PV → PV → Option Bool) : Prop := ∀ a b k ra rb, VRel ρ a ra → VRel ρ b rb → f a b = some k → EqAt A s ra rb k
theorem zI6 {f : PV → PV → Option Bool} {x y : PV} {xs ys : List PV} {k : Bool} (h : eqAll f (x :: xs) (y :: ys) = some k) : ∃ a b, f x y = some a ∧ eqAll f xs ys = some b ∧ k = (a && b) := by
 have h : (match f x y, eqAll f xs ys with | some a, some b => some (a && b) | _, _ => none) = some k := h
 revert h
 generalize f x y = p
 generalize eqAll f xs ys = q
 intro h
 cases p with
 | none => exact zC h
 | some a =>
  cases q with
  | none => exact zC h
  | some b => cases h; exact ⟨a, b, rfl, rfl, rfl⟩
theorem zFz {A : Around} {f : PV → PV → Option Bool} (hf : zBd A s ρ f) (xs ys : List PV) (vs ws : List Value) (k : Bool) (h1 : VRels ρ xs vs) : VRels ρ ys ws → eqAll f xs ys = some k →
  ∃ e : Nat → Bool, k = (List.range xs.length).all e ∧ ∀ j (h1 : j < vs.length) (h2 : j < ws.length), EqAt A s vs[j] ws[j] (e j) := by
 induction h1 generalizing ys ws k with
 | nil =>
  intro h2 h
  cases h2 with
  | nil => cases h; exact ⟨fun _ => true, rfl, fun j h1 => absurd h1 (Nat.not_lt_zero _)⟩
  | cons _ _ => exact zC h
 | cons hv hvs ih =>
  intro h2 h
  cases h2 with
  | nil => exact zC h
  | cons hw hws =>
   apply byC; intro kz; obtain ⟨a, b, ha, hb, rfl⟩ := zI6 h; apply kz; clear kz
   apply byC; intro kz; obtain ⟨e, rfl, he⟩ := ih _ _ _ hws hb; apply kz; clear kz
   refine ⟨fun j => match j with | 0 => a | j + 1 => e j, ?_, fun j h1 h2 => ?_⟩
   ·rw [List.length_cons, List.range_succ_eq_map, List.all_cons, List.all_map]
    rfl
   ·cases j with
    | zero => exact hf _ _ a _ _ hv hw ha
    | succ j => exact he j (by simpa using h1) (by simpa using h2)
theorem zI7 (I : Inv X P ρ st s) {A : Around} (hu : A.units < cLine) {f : PV → PV → Option Bool} (hf : zBd A.in1 s ρ f) {k : Bool} {a1 b1 : Addr} {xs ys : List PV} {i j : Nat} {f1 f2 : Bool} (hi : ρ[i]? = some a1) (hj : ρ[j]? = some b1) (e1 : st.hp[i]? = some (f1, .list xs)) (e2 : st.hp[j]? = some (f2, .list ys))
  (h : (if xs.length = ys.length then eqAll f xs ys else some false) = some k) : RcAt A s (.ref a1) (.ref b1) k ∧ RcNeAt A s (.ref a1) (.ref b1) (!k) := by
 obtain ⟨vs, n, g1, r1⟩ := I.ref_at hi e1
 obtain ⟨ws, n2, g2, r2⟩ := I.ref_at hj e2
 have L1 : s.heap.IsList a1 vs.toArray := ⟨_, g1, rfl, n, rfl⟩
 have L2 : s.heap.IsList b1 ws.toArray := ⟨_, g2, rfl, n2, rfl⟩
 have z1 : vs.toArray.size = xs.length := r1.length
 have z2 : ws.toArray.size = ys.length := r2.length
 by_cases hl : xs.length = ys.length
 ·obtain ⟨e, rfl, he⟩ := zFz hf xs ys vs ws k r1 r2 ((if_pos hl).symm.trans h)
  rw [← z1]
  exact ⟨RcAt.lists L1 L2 (z1.trans (hl.trans z2.symm)) hu he, RcNeAt.lists L1 L2 (z1.trans (hl.trans z2.symm)) hu he⟩
 ·rw [← Option.some.inj ((if_neg hl).symm.trans h)]
  have hz : (vs.toArray.size != ws.toArray.size) = true := by rw [z1, z2]; exact bne_iff_ne.mpr hl
  exact ⟨RcAt.lists_lengths L1 L2 hz hu, RcNeAt.lists_lengths L1 L2 hz hu⟩
theorem zI8 (I : Inv X P ρ st s) {A : Around} (hu : A.units < cLine) {f : PV → PV → Option Bool} (hf : zBd A.in1 s ρ f) {k : Bool} {a1 b1 : Addr} {xs ys : List PV} {i j : Nat} {f1 f2 : Bool} (hi : ρ[i]? = some a1) (hj : ρ[j]? = some b1) (e1 : st.hp[i]? = some (f1, .tuple xs)) (e2 : st.hp[j]? = some (f2, .tuple ys))
  (h : (if xs.length = ys.length then eqAll f xs ys else none) = some k) : RcAt A s (.ref a1) (.ref b1) k ∧ RcNeAt A s (.ref a1) (.ref b1) (!k) := by
 apply byC; intro kz; obtain ⟨vs, n, g1, r1⟩ := I.ref_at hi e1; apply kz; clear kz
 apply byC; intro kz; obtain ⟨ws, n2, g2, r2⟩ := I.ref_at hj e2; apply kz; clear kz
 have L1 : s.heap.IsTuple a1 vs.toArray := ⟨_, g1, rfl, n, rfl⟩
 have L2 : s.heap.IsTuple b1 ws.toArray := ⟨_, g2, rfl, n2, rfl⟩
 by_cases hl : xs.length = ys.length
 ·apply byC; intro kz; obtain ⟨e, rfl, he⟩ := zFz hf xs ys vs ws k r1 r2 ((if_pos hl).symm.trans h); apply kz; clear kz
  have z1 : vs.toArray.size = xs.length := r1.length
  have z2 : ws.toArray.size = vs.toArray.size := r2.length.trans (hl.symm.trans z1.symm)
  have hz1 : (List.range xs.length).all e = ((List.range (min vs.toArray.size ws.toArray.size)).all e && vs.toArray.size == ws.toArray.size) := by
   rw [z2, Nat.min_self, beq_self_eq_true, Bool.and_true, z1]
  rw [hz1]
  exact ⟨RcAt.tuples L1 L2 hu he, RcNeAt.tuples L1 L2 hu he⟩
 ·exact zC ((if_neg hl).symm.trans h)
theorem zI9 {hp : List (Bool × PO)} {f : PV → PV → Option Bool} {i j : Nat} {k : Bool} {C : Prop} (h : eqTop hp f (.ref i) (.ref j) = some k)
  (h1 : ∀ f1 xs f2 ys, hp[i]? = some (f1, .list xs) → hp[j]? = some (f2, .list ys) → (if xs.length = ys.length then eqAll f xs ys else some false) = some k → C)
  (h2 : ∀ f1 xs f2 ys, hp[i]? = some (f1, .tuple xs) → hp[j]? = some (f2, .tuple ys) → (if xs.length = ys.length then eqAll f xs ys else none) = some k → C) : C := by
 have h : (match hp[i]?, hp[j]? with
  | some (_, .list xs), some (_, .list ys) => if xs.length = ys.length then eqAll f xs ys else some false
  | some (_, .tuple xs), some (_, .tuple ys) => if xs.length = ys.length then eqAll f xs ys else none
  | _, _ => none) = some k := h
 revert h h1 h2
 generalize hp[i]? = p
 generalize hp[j]? = q
 intro h1 h2 h
 cases p with
 | none => exact zC h
 | some p =>
  obtain ⟨f1, p⟩ := p
  cases p with
  | list xs =>
   cases q with
   | none => exact zC h
   | some q =>
    obtain ⟨f2, q⟩ := q
    cases q with
    | list ys => exact h1 f1 xs f2 ys rfl rfl h
    | _ => exact zC h
  | tuple xs =>
   cases q with
   | none => exact zC h
   | some q =>
    obtain ⟨f2, q⟩ := q
    cases q with
    | tuple ys => exact h2 f1 xs f2 ys rfl rfl h
    | _ => exact zC h
  | _ => exact zC h
theorem zEP (I : Inv X P ρ st s) {A : Around} (hu : A.units < cLine) {f : PV → PV → Option Bool} (hf : zBd A.in1 s ρ f) {a b : PV} {k : Bool} {ra rb : Value} (ha : VRel ρ a ra) (hb : VRel ρ b rb) : eqTop st.hp f a b = some k →
  RcAt A s ra rb k ∧ RcNeAt A s ra rb (!k) := by
 cases ha <;> cases hb <;> first | exact fun h => zC h | skip
 ·intro h; rw [← Option.some.inj h]; exact ⟨RcAt.none_none, RcNeAt.none_none⟩
 ·intro h; rw [← Option.some.inj h]; exact ⟨RcAt.bool_bool _ _, RcNeAt.bool_bool _ _⟩
 ·intro h; rw [← Option.some.inj h]; exact ⟨RcAt.int_int _ _ _ _, RcNeAt.int_int _ _ _ _⟩
 ·intro h; rw [← Option.some.inj h]; exact ⟨RcAt.str_str _ _ _ _, RcNeAt.str_str _ _ _ _⟩
 ·rename_i hi _ _ hj
  exact fun h => zI9 h (fun _ _ _ _ e1 e2 h => zI7 I hu hf hi hj e1 e2 h) fun _ _ _ _ e1 e2 h => zI8 I hu hf hi hj e1 e2 h
theorem zDJ (I : Inv X P ρ st s) : ∀ (n : Nat) (A : Around), A.units + n < cLine → zBd A s ρ (pEqV st.hp n)
 | 0, _, _ => fun a b k ra rb _ _ h => zC h
 | n + 1, A, hu => fun a b k ra rb ha hb => by
  have hu1 : A.units + 1 + n < cLine := by rw [Nat.add_assoc, Nat.add_comm 1 n]; exact hu
  have ih : zBd A.in1 s ρ (pEqV st.hp n) := zDJ I n A.in1 hu1
  have hu' : A.units < cLine := Nat.lt_of_le_of_lt (Nat.le_add_right _ _) hu
  have top := fun (k : Bool) (h : eqTop st.hp (pEqV st.hp n) a b = some k) => (zEP I hu' ih ha hb h).1
  revert top
  cases ha <;> cases hb <;> first | exact fun _ h => zC h | skip
  ·intro _ h; rw [← Option.some.inj h]; exact EqAt.same _
  ·intro _ h; rw [← Option.some.inj h]; exact EqAt.bool_bool _ _
  ·intro _ h; rw [← Option.some.inj h]; exact EqAt.int_int _ _ _ _
  ·intro _ h; rw [← Option.some.inj h]; exact EqAt.str_str _ _ _ _
  ·rename_i i a1 hi j b1 hj
   intro top h
   have h : (if i = j then some true else eqTop st.hp (pEqV st.hp n) (.ref i) (.ref j)) = some k := h
   by_cases hij : i = j
   ·have e : ρ[i]? = some b1 := by rw [hij]; exact hj
    rw [← Option.some.inj ((if_pos hij).symm.trans h), Option.some.inj (hi.symm.trans e)]
    exact EqAt.same _
   ·refine EqAt.of_refs (fun q => hij ?_) (top k ((if_neg hij).symm.trans h))
    exact zCX I.nd hi (q ▸ hj)
theorem zJA {f : PV → PV → Option Bool} {x y : PV} {ys : List PV} {k : Bool} (h : anyEq f x (y :: ys) = some k) : ∃ a b, f y x = some a ∧ anyEq f x ys = some b ∧ k = (a || b) := by
 have h : (match f y x, anyEq f x ys with | some a, some b => some (a || b) | _, _ => none) = some k := h
 revert h
 generalize f y x = p
 generalize anyEq f x ys = q
 intro h
 cases p with
 | none => exact zC h
 | some a =>
  cases q with
  | none => exact zC h
  | some b => exact ⟨a, b, rfl, rfl, (Option.some.inj h).symm⟩
theorem zJB (hn : ρ.Nodup) {A : Around} {f : PV → PV → Option Bool} (hf : zBd A s ρ f) {x : PV} {rx : Value} (hx : VRel ρ x rx) : ∀ (ys : List PV) (ws : List Value) (k : Bool), VRels ρ ys ws → anyEq f x ys = some k →
  ∃ e : Value → Bool, k = ws.any e ∧ ∀ y ∈ ws, EqAt A s y rx (e y) := by
 intro ys ws k hr h
 classical
 obtain ⟨g, key⟩ : ∃ g : Value → Bool, ∀ v y a, VRel ρ v y → f v x = some a → g y = a := ⟨fun y => if q : ∃ v, VRel ρ v y then (f q.choose x).getD false else false, fun v y a hv h1 => by
  have q : ∃ v, VRel ρ v y := ⟨v, hv⟩
  show (if q : ∃ v, VRel ρ v y then (f q.choose x).getD false else false) = a
  rw [dif_pos q, VRel.inj hn q.choose_spec hv, h1]
  rfl⟩
 refine ⟨g, ?_⟩
 induction hr generalizing k with
 | nil => exact ⟨(Option.some.inj h).symm, fun y hy => nomatch hy⟩
 | @cons v rv xs vs hv hvs ih =>
  obtain ⟨a, b, h1, h2, rfl⟩ := zJA h
  obtain ⟨i1, i2⟩ := ih b h2
  refine ⟨by rw [List.any_cons, ← i1, key _ _ _ hv h1], fun y hy => ?_⟩
  rcases List.mem_cons.mp hy with rfl | hy
  ·rw [key _ _ _ hv h1]
   exact hf v x a y rx hv hx h1
  ·exact i2 y hy
theorem zEQ {A : Around} {d : Nat} (hA : AOK d A) : A.units + 9 < cLine := by have := hA.units; show _ < 9900; lia
theorem zF0 (I : Inv X P ρ st s) {d : Nat} {A : Around} (hA : AOK d A) {a b : PV} {k : Bool} {ra rb : Value} (ha : VRel ρ a ra) (hb : VRel ρ b rb) (h : eqTop st.hp (pEqV st.hp 3) a b = some k) : RcAt A s ra rb k ∧ RcNeAt A s ra rb (!k) :=
 zEP I (Nat.lt_of_le_of_lt (Nat.le_add_right _ 9) (zEQ hA)) (zDJ I 3 A.in1 (Nat.lt_of_le_of_lt (Nat.add_le_add_left (show 4 ≤ 9 by decide) A.units) (zEQ hA))) ha hb h
theorem op_eq : SndOp X (compareOp .Eq) pEq := by
 intro ρ a b ra rb ha hb
 exact .of fun A P s ρ' st st' b Q E hρ hA I e h => by
  obtain ⟨k, e1, e2⟩ := Option.map_eq_some_iff.mp e
  cases e2
  exact (zF0 I hA (ha.up hρ) (hb.up hρ) e1).1 _ _ E Q (h _ _ ρ' (List.prefix_refl _) I (.bool _))
theorem op_ne : SndOp X (compareOp .NotEq) pNe := by
 intro ρ a b ra rb ha hb
 exact .of fun A P s ρ' st st' b Q E hρ hA I e h => by
  obtain ⟨k, e1, e2⟩ := Option.map_eq_some_iff.mp e
  cases e2
  exact (zF0 I hA (ha.up hρ) (hb.up hρ) e1).2 _ _ E Q (h _ _ ρ' (List.prefix_refl _) I (.bool _))
theorem zF1 (I : Inv X P ρ st s) {d : Nat} {A : Around} (hA : AOK d A) {x : PV} {rx : Value} (hx : VRel ρ x rx) {ys : List PV} {ws : List Value} {k : Bool} (hr : VRels ρ ys ws) (h : anyEq (pEqV st.hp 3) x ys = some k) : ∃ e : Value → Bool, k = ws.toArray.any e ∧ ∀ y ∈ ws.toArray, EqAt A.in1 s y rx (e y) := by
 obtain ⟨e, h1, h2⟩ := zJB I.nd (zDJ I 3 A.in1 (Nat.lt_of_le_of_lt (Nat.add_le_add_left (show 4 ≤ 9 by decide) A.units) (zEQ hA))) hx ys ws k hr h
 exact ⟨e, by rw [h1, List.any_toArray], fun y hy => h2 y (List.mem_toArray.mp hy)⟩
theorem zF2 {β : Type} {o : Option (Bool × PO)} {F G : List PV → Option β} {r : β} {C : Prop} (e : (match o with | some (_, .list xs) => F xs | some (_, .tuple xs) => G xs | _ => none) = some r) (h1 : ∀ f xs, o = some (f, .list xs) → F xs = some r → C) (h2 : ∀ f xs, o = some (f, .tuple xs) → G xs = some r → C) : C := by
 cases o with
 | none => exact zC e
 | some p =>
  obtain ⟨f, p⟩ := p
  cases p with
  | list xs => exact h1 f xs rfl e
  | tuple xs => exact h2 f xs rfl e
  | _ => exact zC e
theorem zCY : SndOp X (compareOp .NotIn) zAK := by
 intro ρ a b ra rb ha hb
 have bad : ∀ {b : PV} {rb : Value}, (∀ hp, inB hp a b = none) → SndR X ρ (compareOp .NotIn ra rb) (zAK a b) VRel := fun h => zCV fun s => by unfold zAK; rw [h]; rfl
 cases hb with
 | str y t =>
  cases ha with
  | str z u => exact zEK fun hρ hA I h => SB.notContains (h _ _ I (.bool _))
  | _ => exact bad fun _ => rfl
 | ref hi =>
  exact .of fun A P s ρ' st st' b Q E hρ hA I e h => by
   obtain ⟨k, e1, e2⟩ := Option.map_eq_some_iff.mp e
   cases e2
   refine zF2 e1 (fun f1 xs g e1 => ?_) fun f1 xs g e1 => ?_
   ·obtain ⟨vs, n, g1, r1⟩ := I.ref_at (zi hρ hi) g
    obtain ⟨ee, rfl, he⟩ := zF1 I hA (ha.up hρ) r1 e1
    exact notIn_listAt ee ⟨_, g1, rfl, n, rfl⟩ he (h _ _ ρ' (List.prefix_refl _) I (.bool _))
   ·obtain ⟨vs, n, g1, r1⟩ := I.ref_at (zi hρ hi) g
    obtain ⟨ee, rfl, he⟩ := zF1 I hA (ha.up hρ) r1 e1
    exact notIn_tupleAt ee ⟨_, g1, rfl, n, rfl⟩ he (h _ _ ρ' (List.prefix_refl _) I (.bool _))
 | _ => exact bad fun _ => rfl
end
end
section
variable {X : Stat} {P : Prot} {ρ : List Addr} {st : PSt} {s : Shared}
theorem Inv.upd (I : Inv X P ρ st s) {i : Nat} {a : Addr} {o o' : PO} {h' : Heap} {tk : Nat} (ha : ρ[i]? = some a) (ho : st.hp[i]? = some (false, o)) (hs : Heap.SameBut a s.heap h') (hn : ORel X.G ρ o' h' a) :
  Inv X P ρ { st with hp := st.hp.set i (false, o') } { s with heap := h', toks := tk } := by
 have hB : P.B a = none := by
  cases e : P.B a with
  | none => rfl
  | some _ => have := I.fz i a _ ha ho (by rw [e]; simp); cases this
 have hm := List.mem_of_getElem? ha
 have k : ∀ b ob, b ≠ a → s.heap.get? b = some ob → h'.get? b = some ob := fun b ob hb e => (hs.2 b hb).trans e
 have hlt : i < st.hp.length := (List.getElem?_eq_some_iff.mp ho).1
 refine ⟨fun b ob e => k _ _ (fun q => by rw [q, hB] at e; cases e) (I.held b ob e), I.old, I.outs, I.nd, by show _ = (st.hp.set _ _).length; rw [List.length_set]; exact I.len, ?_, ?_, I.bare, I.gheld, I.os, ?_⟩
 ·intro j b c h1 h2
  have h2 : (st.hp.set i (false, o'))[j]? = some c := h2
  rw [List.getElem?_set] at h2
  by_cases hij : i = j
  ·subst hij
   rw [if_pos rfl, if_pos hlt] at h2
   cases h2
   rw [ha] at h1
   cases h1
   exact hn
  ·rw [if_neg hij] at h2
   exact (I.objs j b c h1 h2).at fun ob e => k _ _ (fun q => hij (zCX I.nd (q ▸ ha) h1)) e
 ·intro j b c h1 h2 h3
  have h2 : (st.hp.set i (false, o'))[j]? = some c := h2
  rw [List.getElem?_set] at h2
  by_cases hij : i = j
  ·subst hij
   rw [ha] at h1
   cases h1
   exact absurd hB h3
  ·rw [if_neg hij] at h2
   exact I.fz j b c h1 h2 h3
 ·apply byC; intro kz; obtain ⟨m, hm', hv⟩ := I.fr.loc; apply kz; clear kz
  refine ⟨I.fr.locOut, I.fr.locNot, ⟨m, hm'.sameBut hs (fun q => I.fr.locNot (q ▸ hm)), hv⟩, fun j x h1 h2 => ?_, I.fr.len⟩
  apply byC; intro kz; obtain ⟨c, ov, h3, h4, h5, h6, h7, h8⟩ := I.fr.cell j x h1 h2; apply kz; clear kz
  exact ⟨c, ov, h3, h4, h5, h6, h7.sameBut hs (fun q => h5 (q ▸ hm)), h8⟩
theorem VRels.set {ρ : List Addr} {v : PV} {r : Value} (hv : VRel ρ v r) {xs : List PV} {vs : List Value} (k : Nat) (h : VRels ρ xs vs) : VRels ρ (xs.set k v) (vs.set k r) := by
 induction h generalizing k with
 | nil => exact .nil
 | cons a b ih =>
  cases k with
  | zero => exact .cons hv b
  | succ k => exact .cons a (ih k)
theorem VRels.erase {ρ : List Addr} {xs : List PV} {vs : List Value} (k : Nat) (h : VRels ρ xs vs) : VRels ρ (xs.eraseIdx k) (vs.eraseIdx k) := by
 induction h generalizing k with
 | nil => exact .nil
 | cons a b ih =>
  cases k with
  | zero => exact b
  | succ k => exact .cons a (ih k)
end
noncomputable def pItem (a b : PV) : PM PV := fun s => match a, b with
 | .str x, .int i => if fitsSsize i = true ∧ (Txt.charAt x i).isSome = true then some (.str (Txt.item x i), s) else none
 | .ref l, .int i => match s.hp[l]? with
  | some (_, .list xs) => if fitsSsize i = true then ((seqIndex? i xs.length).bind fun k => xs[k]?).map fun v => (v, s) else none
  | some (_, .tuple xs) => if fitsSsize i = true then ((seqIndex? i xs.length).bind fun k => xs[k]?).map fun v => (v, s) else none
  | _ => none
 | _, _ => none
theorem zDK {l : Nat} {i : Int} {s : PSt} : pItem (.ref l) (.int i) s = match s.hp[l]? with
  | some (_, .list xs) => if fitsSsize i = true then ((seqIndex? i xs.length).bind fun k => xs[k]?).map fun v => (v, s) else none
  | some (_, .tuple xs) => if fitsSsize i = true then ((seqIndex? i xs.length).bind fun k => xs[k]?).map fun v => (v, s) else none
  | _ => none := rfl
theorem zER {i : Int} (h : fitsSsize i = true) : -(2 ^ 63) ≤ i ∧ i < 2 ^ 63 := by
 unfold fitsSsize at h
 simp only [Bool.not_eq_true', Bool.or_eq_false_iff, decide_eq_false_iff_not] at h
 lia
theorem zJC {i : Int} {n k : Nat} (h : seqIndex? i n = some k) : k < n ∧ ((0 ≤ i ∧ i.toNat = k) ∨ (i < 0 ∧ -(n : Int) ≤ i ∧ (i + n).toNat = k)) := by
 unfold seqIndex? at h
 by_cases hi : i < 0
 ·rw [if_pos hi] at h
  by_cases hc : (decide (0 ≤ i + n) && decide (i + n < n)) = true
  ·have hk := Option.some.inj ((if_pos hc).symm.trans h)
   rw [Bool.and_eq_true, decide_eq_true_eq, decide_eq_true_eq] at hc
   rw [← hk]
   exact ⟨(Int.toNat_lt hc.1).mpr hc.2, .inr ⟨hi, Int.le_of_sub_nonneg (by rw [Int.sub_neg]; exact hc.1), rfl⟩⟩
  ·exact zC ((if_neg hc).symm.trans h)
 ·rw [if_neg hi] at h
  by_cases hc : (decide (0 ≤ i) && decide (i < n)) = true
  ·have hk := Option.some.inj ((if_pos hc).symm.trans h)
   rw [Bool.and_eq_true, decide_eq_true_eq, decide_eq_true_eq] at hc
   rw [← hk]
   exact ⟨(Int.toNat_lt hc.1).mpr hc.2, .inl ⟨hc.1, rfl⟩⟩
  ·exact zC ((if_neg hc).symm.trans h)
section
variable {X : Stat}
theorem zES {prog : Program} {w : World} {A : Around} {E : Value → Shared → Prop} {s : Shared} {l : Addr} {vs : Array Value} {i : Value} {Q : Value → Shared → Prop} (hl : s.heap.IsList l vs) (h : wpAny (model prog w) A (getItem (.ref l) i) Q E s) :
  ItemOn (model prog w) A E (.ref l) i Q s := ⟨"list", _, F.slot_list_getitem.lookup, hl.typeIs, h⟩
noncomputable def zJD (X : Stat) (ρ : List Addr) (a b : PV) (ra rb : Value) : Prop :=
 ∀ (A : Around) (P : Prot) (s : Shared) (ρ' : List Addr) (st st' : PSt) (v : PV) (Q : Value → Shared → Prop) (E : Value → Shared → Prop), ρ <+: ρ' → AOK X.d A → Inv X P ρ' st s → pItem a b st = some (v, st') →
  (∀ r s', Inv X P ρ' st' s' → VRel ρ' v r → Q r s') → ItemOn (model X.G.prog X.G.w) A E ra rb Q s
theorem zF3 {i : Int} {xs : List PV} {s : PSt} {r : PV × PSt} (e : (if fitsSsize i = true then ((seqIndex? i xs.length).bind fun k => xs[k]?).map fun v => (v, s) else none) = some r) : ∃ k v, fitsSsize i = true ∧ seqIndex? i xs.length = some k ∧ xs[k]? = some v ∧ (v, s) = r := by
 by_cases hf : fitsSsize i = true
 ·obtain ⟨v, e1, e2⟩ := Option.map_eq_some_iff.mp ((if_pos hf).symm.trans e)
  obtain ⟨k, hk, hx⟩ := Option.bind_eq_some_iff.mp e1
  exact ⟨k, v, hf, hk, hx, e2⟩
 ·exact zC ((if_neg hf).symm.trans e)
theorem zJE {ρ : List Addr} {a b : PV} {ra rb : Value} (ha : VRel ρ a ra) (hb : VRel ρ b rb) : zJD X ρ a b ra rb := by
 cases ha with
 | str x t =>
  cases hb with
  | int i u =>
   intro A P s ρ' st st' v Q E hρ hA I e h
   by_cases hc : fitsSsize i = true ∧ (Txt.charAt x i).isSome = true
   ·cases (if_pos hc).symm.trans e
    exact SB.item hc.1 hc.2 (h _ _ (I.tok _) (.str _ _))
   ·exact zC ((if_neg hc).symm.trans e)
  | _ => exact fun A P s ρ' st st' v Q E hρ hA I e h => zC e
 | ref hi =>
  cases hb with
  | int i u =>
   intro A P s ρ' st st' v Q E hρ hA I e h
   refine zF2 e (fun f xs g e => ?_) fun f xs g e => ?_
   ·apply byC; intro kz; obtain ⟨k, v', hf, hk, hx, e⟩ := zF3 e; apply kz; clear kz
    cases e
    apply byC; intro kz; obtain ⟨vs, n, g1, r1⟩ := I.ref_at (zi hρ hi) g; apply kz; clear kz
    apply byC; intro kz; obtain ⟨r, hr, hv⟩ := r1.get hx; apply kz; clear kz
    have hL : s.heap.IsList _ vs.toArray := ⟨_, g1, rfl, n, rfl⟩
    have hz : vs.toArray.size = xs.length := r1.length
    have hr : vs.toArray[k]? = some r := (List.getElem?_toArray ..).trans hr
    apply byC; intro kz; obtain ⟨hlt, hh⟩ := zJC hk; apply kz; clear kz
    have hsz := zER hf
    refine zES hL ?_
    rcases hh with ⟨h0, h1⟩ | ⟨h0, h1, h2⟩
    ·exact wpAny_getItem_list hL h0 hsz.2 (by rw [h1]; exact hr) (h _ _ I hv)
    ·exact wpAny_getItem_list_neg hL h0 (by rw [hz]; exact h1) hsz.1 (by rw [hz, h2]; exact hr) (h _ _ I hv)
   ·apply byC; intro kz; obtain ⟨k, v', hf, hk, hx, e⟩ := zF3 e; apply kz; clear kz
    cases e
    apply byC; intro kz; obtain ⟨vs, n, g1, r1⟩ := I.ref_at (zi hρ hi) g; apply kz; clear kz
    apply byC; intro kz; obtain ⟨r, hr, hv⟩ := r1.get hx; apply kz; clear kz
    have hsz := zER hf
    exact ⟨"tuple", _, F.slot_tuple_getitem.lookup, ⟨_, g1, rfl⟩, getItem_tuple ⟨_, g1, rfl, n, rfl⟩ hsz.1 hsz.2 (by rw [show vs.toArray.size = xs.length from r1.length]; exact hk) ((List.getElem?_toArray ..).trans hr) (h _ _ I hv)⟩
  | _ => exact fun A P s ρ' st st' v Q E hρ hA I e h => zC e
 | _ => cases hb <;> exact fun A P s ρ' st st' v Q E hρ hA I e h => zC e
theorem zAA {a i : Expr} {pos : Pos} {ma mi : PM PV} (hs : ∀ o v, subscripted i false o v = operate [o, v] (getItem o v)) (ha : SndE X [] a ma) (hi : SndE X [] i mi) : SndE X [] (.Subscript a i pos) (pBin pItem ma mi) := by
 show SndR _ _ (eval (.Subscript a i pos) X.env) _ _
 rw [eval_Subscript]
 refine SndR.bind ha fun ρ x rx hp hx => ?_
 refine SndR.bind (SndR.holding (hi.lift List.nil_prefix)) fun ρ' y ry hp' hy => SndR.at ?_
 refine .of fun A P s ρ1 st st' b Q E hρ hA I e h => ?_
 obtain ⟨T, id, hl, hT, hg⟩ := zJE (hx.up hp') hy A P s ρ1 st st' b Q E hρ hA I e fun r s' I' hr => h r s' ρ1 (List.prefix_refl _) I' hr
 refine wpAny_bind ?_
 rw [getitemInPython_of_ne hT.not_modules]
 refine wpAny_bind (wpAny_specialOf hT hl ?_)
 refine wpAny_pure (wpAny_bind ?_)
 rw [hs]
 exact wpAny_operating (wpAny_mono hg (fun r s₃ h₃ => wpAny_bind (wpAny_letTemporaryGo (wpAny_pure h₃))) fun _ _ x => x)
noncomputable def pPart (v : PV) : Option (Option Int) := match v with
 | .none => some none
 | .int i => some (some i)
 | _ => none
theorem zBE : pPart .none = some none := rfl
theorem zBF {i : Int} : pPart (.int i) = some (some i) := rfl
noncomputable def zAq (o : PV) (l u : Option Int) : PM PV := fun s => match o with
 | .str x => if x.length ≤ zH then some (.str (Txt.slice x l u), s) else none
 | .ref i => match s.hp[i]? with
  | some (_, .list xs) => if xs.length ≤ zH then zu (.list ((sliceRange (sliceBounds l u none xs.length).1 (sliceBounds l u none xs.length).2.1 (sliceBounds l u none xs.length).2.2).filterMap (xs[·]?))) s else none
  | _ => none
 | _ => none
noncomputable def zAH (o l u : PV) : PM PV := fun s => match pPart l, pPart u with
 | some l, some u => zAq o l u s
 | _, _ => none
noncomputable def pSl (mo ml mu : PM PV) : PM PV := mo.bind fun o => ml.bind fun l => mu.bind fun u => zAH o l u
theorem zDL {ρ : List Addr} {v : PV} {r : Value} {l : Option Int} (h : VRel ρ v r) (e : pPart v = some l) : IsPart r l := by
 cases h <;> cases e
 ·exact .none
 ·exact .int _ _
theorem zET {ρ : List Addr} {xs : List PV} {vs : List Value} (r : VRels ρ xs vs) : ∀ (ks : List Nat), VRels ρ (ks.filterMap (xs[·]?)) (ks.filterMap (vs.toArray[·]?))
 | [] => .nil
 | k :: ks => by
  have ih := zET r ks
  cases hx : xs[k]? with
  | some v =>
   obtain ⟨rv, h1, h2⟩ := r.get hx
   have h1' : vs.toArray[k]? = some rv := by simpa using h1
   rw [List.filterMap_cons, List.filterMap_cons, hx, h1']
   exact .cons h2 ih
  | none =>
   have h1' : vs.toArray[k]? = none := by
    rw [List.getElem?_eq_none_iff] at hx
    simpa [r.length] using hx
   rw [List.filterMap_cons, List.filterMap_cons, hx, h1']
   exact ih
theorem zAX : SndR X [] (evalPart none X.env) (PM.ret .none) VRel := SndR.pure fun _ _ => .none
theorem zAB {e : Expr} {m : PM PV} (h : SndE X [] e m) : SndR X [] (evalPart (some e) X.env) m VRel := h
theorem zJF {o l u : PV} {s : PSt} {r : PV × PSt} {C : Prop} (e : zAH o l u s = some r) (h : ∀ l' u', pPart l = some l' → pPart u = some u' → zAq o l' u' s = some r → C) : C := by
 have e : (match pPart l, pPart u with | some l, some u => zAq o l u s | _, _ => none) = some r := e
 cases h1 : pPart l with
 | none => rw [h1] at e; exact zC e
 | some l' =>
  cases h2 : pPart u with
  | none => rw [h1, h2] at e; exact zC e
  | some u' => rw [h1, h2] at e; exact h l' u' h1 h2 e
theorem zBz {β : Type} {o : Option (Bool × PO)} {F : List PV → Option β} {r : β} {C : Prop} (e : (match o with | some (_, .list xs) => F xs | _ => none) = some r) (h1 : ∀ f xs, o = some (f, .list xs) → F xs = some r → C) : C := by
 cases o with
 | none => exact zC e
 | some p =>
  obtain ⟨f, p⟩ := p
  cases p with
  | list xs => exact h1 f xs rfl e
  | _ => exact zC e
theorem zF4 {β : Type} {o : Option (Bool × PO)} {F : List PV → Option β} {r : β} {C : Prop} (e : (match o with | some (false, .list xs) => F xs | _ => none) = some r) (h1 : ∀ xs, o = some (false, .list xs) → F xs = some r → C) : C := by
 cases o with
 | none => exact zC e
 | some p =>
  obtain ⟨f, p⟩ := p
  cases f with
  | true => exact zC e
  | false =>
   cases p with
   | list xs => exact h1 xs rfl e
   | _ => exact zC e
theorem zJG {β : Type} {a b : PV} {F : Nat → Int → Option β} {r : β} {C : Prop} (e : (match a, b with | .ref l, .int k => F l k | _, _ => none) = some r) (h : ∀ l k, a = .ref l → b = .int k → F l k = some r → C) : C := by
 cases a with
 | ref l =>
  cases b with
  | int k => exact h l k rfl rfl e
  | _ => exact zC e
 | _ => exact zC e
noncomputable def zEU (s : Shared) (rl ru : Value) : Shared := { s with heap := s.heap.push { cls := .type "slice", data := .fields #[rl, ru, .none] } }
theorem zJH (K : XOK X) {A : Around} {P : Prot} {ρ : List Addr} {st st' : PSt} {s : Shared} {o lv uv b : PV} {ro rl ru : Value} {Q : Value → Shared → Prop} (I : Inv X P ρ st s) (h1 : VRel ρ o ro) (h2 : VRel ρ lv rl) (h3 : VRel ρ uv ru) {l' u' : Option Int} (g1 : pPart lv = some l') (g2 : pPart uv = some u') :
  zAq o l' u' st = some (b, st') → (∀ a s' ρ', ρ <+: ρ' → Inv X P ρ' st' s' → VRel ρ' b a → Q a s') → ItemOn (model X.G.prog X.G.w) A (fun _ _ => False) ro (.ref s.heap.objs.size) Q (zEU s rl ru) := by
 have q1 := zDL h2 g1
 have q2 := zDL h3 g2
 cases h1 with
 | str x t =>
  intro e hQ
  by_cases hx : x.length ≤ zH
  ·have e := Option.some.inj ((if_pos hx).symm.trans e)
   cases e
   have k : KeptH fun h' => ∀ b o, s.heap.get? b = some o → h'.get? b = some o := fun h ob p b o e => Heap.get?_push_of_some _ (p b o e)
   have fin : ∀ h' t' kk, (∀ b o, s.heap.get? b = some o → h'.get? b = some o) → Q (.str (Txt.slice x l' u') t') { s with heap := h', toks := kk } := fun h' t' kk hk => hQ _ _ ρ (List.prefix_refl _) (I.grow hk) (.str _ _)
   cases q1 with
   | none =>
    cases q2 with
    | none => exact SBH.sliceItem_nn k (fun _ _ e => e) fin (zAG hx)
    | int j u => exact SBH.sliceItem_ns k (fun _ _ e => e) fin (zAG hx)
   | int i t =>
    cases q2 with
    | none => exact SBH.sliceItem_sn k (fun _ _ e => e) fin (zAG hx)
    | int j u => exact SBH.sliceItem_ss k (fun _ _ e => e) fin (zAG hx)
  ·exact zC ((if_neg hx).symm.trans e)
 | ref hi =>
  intro e hQ
  refine zBz e fun f xs g e => ?_
  by_cases hx : xs.length ≤ zH
  ·have e := Option.some.inj ((if_pos hx).symm.trans e)
   cases e
   have I4 : Inv X P ρ st (zEU s rl ru) := I.grow (tk := s.toks) fun b o e => Heap.get?_push_of_some _ e
   obtain ⟨vs, n, p1, r1⟩ := I4.ref_at hi g
   have hL : (zEU s rl ru).heap.IsList _ vs.toArray := ⟨_, p1, rfl, n, rfl⟩
   have hz : vs.toArray.size = xs.length := r1.length
   refine zES hL (wpAny_getItem_list_slice hL (Heap.IsSliceOf.new ..) q1 q2 .none (by simp) (hQ _ _ _ (List.prefix_append ..) (I4.alloc K ⟨_, 0, Heap.get?_push_size _ rfl, ?_⟩) (.ref (I4.last _))) (by rw [hz]; exact zAG hx))
   rw [hz]
   exact (zET r1 _).up (List.prefix_append ..)
  ·exact zC ((if_neg hx).symm.trans e)
 | _ => exact fun e => zC e
theorem zAR (K : XOK X) {a : Expr} {l u : Option Expr} {p pos : Pos} {ma ml mu : PM PV} (ha : SndE X [] a ma) (hl : SndR X [] (evalPart l X.env) ml VRel) (hu : SndR X [] (evalPart u X.env) mu VRel) :
  SndE X [] (.Subscript a (.Slice l u none p) pos) (pSl ma ml mu) := by
 show SndR _ _ (eval (.Subscript a (.Slice l u none p) pos) X.env) _ _
 rw [eval_Subscript]
 intro A P s ρ st st' b hρ hA hI e
 apply byC; intro kz; obtain ⟨o, st1, e1, e⟩ := PM.bind_some e; apply kz; clear kz
 apply byC; intro kz; obtain ⟨lv, st2, e2, e⟩ := PM.bind_some e; apply kz; clear kz
 apply byC; intro kz; obtain ⟨uv, st3, e3, e⟩ := PM.bind_some e; apply kz; clear kz
 refine wpAny_bind (ha.run List.nil_prefix hA hI e1 fun ro s1 ρ1 hp1 I1 h1 => wpAny_bind (wpAny_holding (wpAny_Slice (hl.run List.nil_prefix hA I1 e2 fun rl s2 ρ2 hp2 I2 h2 => hu.run List.nil_prefix hA I2 e3 fun ru s3 ρ3 hp3 I3 h3 => ?_))))
 rw [evalPart_none]
 refine wpAny_pure (wpAny_bind (wpAny_standAt ?_))
 refine zJF e fun l' u' g1 g2 e => ?_
 obtain ⟨T, id, hl, hT, hg⟩ := zJH (Q := fun a s' => ∃ ρ', ρ <+: ρ' ∧ Inv X P ρ' st' s' ∧ VRel ρ' b a) K I3 (h1.up (hp2.trans hp3)) (h2.up hp3) h3 g1 g2 e fun a s' ρ' hp I h => ⟨ρ', (hp1.trans (hp2.trans hp3)).trans hp, I, h⟩
 refine wpAny_bind ?_
 rw [getitemInPython_of_ne hT.not_modules]
 refine wpAny_bind (wpAny_specialOf hT hl ?_)
 refine wpAny_pure (wpAny_bind ?_)
 exact wpAny_operating (wpAny_mono hg (fun r s₃ h₃ => wpAny_bind (wpAny_letTemporaryGo (wpAny_pure h₃))) fun _ _ x => x)
end
noncomputable def pNil : PM (List PV) := PM.ret []
noncomputable def pCons (m : PM PV) (ms : PM (List PV)) : PM (List PV) := m.bind fun v => ms.bind fun vs => PM.ret (v :: vs)
section
variable {X : Stat}
noncomputable abbrev SndL (X : Stat) (es : List Expr) (m : PM (List PV)) : Prop := ∀ pos : Pos, SndR X [] (spliced (backTo pos (starEach es X.env))) m VRels
theorem zR : SndL X [] pNil := fun _ => SndR.pure fun _ _ => .nil
theorem zL {e : Expr} {es : List Expr} {m : PM PV} {ms : PM (List PV)} (he : starEach (e :: es) X.env = (false, eval e X.env) :: starEach es X.env) (h : SndE X [] e m) (hs : SndL X es ms) : SndL X (e :: es) (pCons m ms) := by
 intro pos A P s ρ st st' b hρ hA hI e0
 apply byC; intro kz; obtain ⟨v, st1, e1, ea⟩ := PM.bind_some e0; apply kz; clear kz
 apply byC; intro kz; obtain ⟨vs, st2, e2, eb⟩ := PM.bind_some ea; apply kz; clear kz
 cases eb
 refine wpAny_items_cons (h.run List.nil_prefix hA hI e1 fun rv s1 ρ1 hp1 I1 h1 => (hs pos).run List.nil_prefix hA I1 e2 fun rvs s2 ρ2 hp2 I2 h2 => ?_) he
 exact ⟨ρ2, hp1.trans hp2, I2, .cons (h1.up hp2) h2⟩
theorem zEV {α : Type} {c : Prop} [Decidable c] {m : PM α} {st : PSt} {r : α × PSt} {C : Prop} (e : (if c then m else PM.fail) st = some r) (h : c → m st = some r → C) : C := by
 by_cases hc : c
 ·exact h hc ((congrFun (if_pos hc) st).symm.trans e)
 ·exact zC ((congrFun (if_neg hc) st).symm.trans e)
noncomputable def pList (m : PM (List PV)) : PM PV := m.bind fun vs => if vs.length ≤ zH then zu (.list vs) else PM.fail
noncomputable def zU (m : PM (List PV)) : PM PV := m.bind fun vs => if vs.length ≤ zH then zu (.tuple vs) else PM.fail
theorem zA4 (K : XOK X) {es : List Expr} {pos : Pos} {m : PM (List PV)} (h : SndL X es m) : SndE X [] (.List es pos) (pList m) := by
 intro A P s ρ st st' b hρ hA hI e0
 apply byC; intro kz; obtain ⟨vs, st1, e1, ea⟩ := PM.bind_some e0; apply kz; clear kz
 refine wpAny_List ((h pos).run List.nil_prefix hA hI e1 fun rvs s1 ρ1 hp1 I1 h1 => ?_)
 refine zEV ea fun hx ea => ?_
 ·cases ea
  exact ⟨by rw [h1.length]; exact zAG hx, _, hp1.trans (List.prefix_append ..), I1.alloc (tk := s1.toks) K ⟨rvs, 0, Heap.get?_push_size _ rfl, h1.up (List.prefix_append ..)⟩, .ref (I1.last _)⟩
theorem zAc (K : XOK X) {es : List Expr} {k : Nat} {pos : Pos} {m : PM (List PV)} (h : SndL X es m) : SndE X [] (.Tuple es k pos) (zU m) := by
 intro A P s ρ st st' b hρ hA hI e0
 apply byC; intro kz; obtain ⟨vs, st1, e1, ea⟩ := PM.bind_some e0; apply kz; clear kz
 refine wpAny_Tuple ((h pos).run List.nil_prefix hA hI e1 fun rvs s1 ρ1 hp1 I1 h1 => ?_)
 refine zEV ea fun hx ea => ?_
 ·cases ea
  exact ⟨by rw [h1.length]; exact zAG hx, _, hp1.trans (List.prefix_append ..), I1.alloc (tk := s1.toks) K ⟨rvs, 0, Heap.get?_push_size _ rfl, h1.up (List.prefix_append ..)⟩, .ref (I1.last _)⟩
noncomputable def zJI (o i v : PV) : PM PF := fun s => match o, i with
 | .ref l, .int k => match s.hp[l]? with
  | some (false, .list xs) => if 0 ≤ k ∧ k < 2 ^ 63 ∧ k < xs.length then some (.next, { s with hp := s.hp.set l (false, .list (xs.set k.toNat v)) }) else none
  | _ => none
 | _, _ => none
noncomputable def zNi (mv mo mi : PM PV) : PM PF := mv.bind fun v => mo.bind fun o => mi.bind fun i => zJI o i v
theorem zJJ {i : Int} (h : fitsSsize i = true) : Builtin.List.listFitsIndex i = true := by
 have := zER h
 unfold Builtin.List.listFitsIndex
 simp only [Bool.and_eq_true, decide_eq_true_eq]
 omega
noncomputable def zJK (o i : PV) : PM PF := fun s => match o, i with
 | .ref l, .int k => match s.hp[l]? with
  | some (false, .list xs) => if fitsSsize k = true ∧ xs.length ≤ zH then (seqIndex? k xs.length).map fun j => (.next, { s with hp := s.hp.set l (false, .list (xs.eraseIdx j)) }) else none
  | _ => none
 | _, _ => none
noncomputable def pDel (mo mi : PM PV) : PM PF := mo.bind fun o => mi.bind fun i => zJK o i
theorem zF5 {o i : Expr} {p1 pos : Pos} {mo mi : PM PV} (ho : SndE X [] o mo) (hi : SndE X [] i mi) : SndS X [] (.Delete [.Subscript o i p1] pos) (pDel mo mi) := by
 intro A P s ρ st st' b hρ hA hI e0
 apply byC; intro kz; obtain ⟨ov, st2, e2, eb⟩ := PM.bind_some e0; apply kz; clear kz
 apply byC; intro kz; obtain ⟨iv, st3, e3, ec⟩ := PM.bind_some eb; apply kz; clear kz
 refine wpAny_Delete (wpAny_deleteEach_cons (wpAny_delete_Subscript (ho.run List.nil_prefix hA hI e2 fun ro s2 ρ2 hp2 I2 h2 => hi.run List.nil_prefix hA I2 e3 fun ri s3 ρ3 hp3 I3 h3 => ?_)))
 replace h2 := h2.up hp3
 refine zJG ec fun l k el ek ec => ?_
 ·subst el ek
  cases h2 with | ref hl => ?_
  cases h3 with | int _ t => ?_
  refine zF4 ec fun xs g ec => ?_
  ·refine zAj ec fun hc ec => ?_
   ·apply byC; intro kz; obtain ⟨j, hj, hq⟩ := Option.map_eq_some_iff.mp ec; apply kz; clear kz
    cases hq
    apply byC; intro kz; obtain ⟨vs, n, g1, r1⟩ := I3.ref_at hl g; apply kz; clear kz
    refine wpAny_delItem_plain ⟨n, g1⟩ (zJJ hc.1) (k := j) (by rw [List.size_toArray, r1.length]; exact hj) (fun h' hg hs' => ?_) (by rw [List.size_toArray, r1.length]; exact zAG hc.2)
    apply byC; intro kz; obtain ⟨n', hg⟩ := hg; apply kz; clear kz
    refine wpAny_deleteEach_nil ⟨ρ3, hp2.trans hp3, I3.upd (tk := s3.toks) hl g hs' ⟨vs.eraseIdx j, n', ?_, r1.erase j⟩, .next⟩
    rw [hg, List.eraseIdxIfInBounds_toArray]
end
noncomputable def Prot.sub (P : Prot) (X : Stat) (s : Shared) : Prot where
 B := fun a => @ite _ (a = X.env.locals ∨ ∃ x, X.env.cells.lookup x = some a) (Classical.propDecidable _) (s.heap.get? a) (P.B a)
 out := fun a => P.out a ∨ a = X.env.locals ∨ ∃ x, X.env.cells.lookup x = some a
 gB := P.gB
 os := P.os
section
variable {X X' : Stat} {P : Prot} {ρ ρ' : List Addr} {st st' : PSt} {s s' : Shared}
theorem Prot.sub_some (I : Inv X P ρ st s) {a : Addr} {o : Obj} (h : P.B a = some o) : (P.sub X s).B a = some o := by
 unfold Prot.sub
 dsimp only
 split
 ·exact I.held a o h
 ·exact h
theorem Prot.sub_none {a : Addr} (h : P.B a ≠ none) (I : Inv X P ρ st s) : (P.sub X s).B a ≠ none := by
 cases e : P.B a with
 | none => exact absurd e h
 | some o => rw [Prot.sub_some I e]; simp
theorem Prot.sub_loc (h : a = X.env.locals ∨ ∃ x, X.env.cells.lookup x = some a) : (P.sub X s).B a = s.heap.get? a := by
 unfold Prot.sub
 dsimp only
 rw [if_pos h]
theorem Prot.sub_held (I : Inv X P ρ st s) {a : Addr} {o : Obj} (h : (P.sub X s).B a = some o) : s.heap.get? a = some o := by
 unfold Prot.sub at h
 dsimp only at h
 split at h
 ·exact h
 ·exact I.held a o h
theorem Prot.sub_out (K : XOK X) (I : Inv X P ρ st s) {a : Addr} (h : (P.sub X s).out a) : (∃ z, a ≤ z ∧ (P.sub X s).B z ≠ none) ∧ a ∉ ρ := by
 rcases h with h | h | ⟨x, h⟩
 ·apply byC; intro kz; obtain ⟨⟨z, hz, h1⟩, h2⟩ := I.outs a h; apply kz; clear kz
  exact ⟨⟨z, hz, Prot.sub_none h1 I⟩, h2⟩
 ·subst h
  refine ⟨⟨_, Nat.le_refl _, ?_⟩, I.fr.locNot⟩
  rw [Prot.sub_loc (.inl rfl)]
  apply byC; intro kz; obtain ⟨m, ⟨o, es, ep, ho, _⟩, _⟩ := I.fr.loc; apply kz; clear kz
  rw [ho]
  simp
 ·apply byC; intro kz; obtain ⟨h1, h2, h3, h4⟩ := I.cell_lt K h; apply kz; clear kz
  refine ⟨⟨_, Nat.le_refl _, ?_⟩, h2⟩
  rw [Prot.sub_loc (.inr ⟨x, h⟩)]
  apply byC; intro kz; obtain ⟨hm, hk⟩ := K.cellsIn x a h; apply kz; clear kz
  apply byC; intro kz; obtain ⟨i, hi⟩ := List.mem_iff_getElem?.mp hm; apply kz; clear kz
  apply byC; intro kz; obtain ⟨c', ov, h5, _, _, _, ⟨o, ho, _⟩, _⟩ := I.fr.cell i x hi hk; apply kz; clear kz
  rw [h] at h5
  cases h5
  rw [ho]
  simp
theorem Inv.leave (I : Inv X P ρ st s) (J : Inv X' (P.sub X s) ρ' st' s') (hG : X'.G = X.G) (hp : ρ <+: ρ') : Inv X P ρ' { vars := st.vars, hp := st'.hp } s' := by
 have keep : ∀ a o, (P.sub X s).B a = some o → s'.heap.get? a = some o := J.held
 refine ⟨fun a o e => J.held a o (Prot.sub_some I e), I.old, ?_, J.nd, J.len, ?_, ?_, J.bare, J.gheld, J.os, ?_⟩
 ·intro a ha
  exact ⟨(I.outs a ha).1, (J.outs a (.inl ha)).2⟩
 ·intro i a c h1 h2
  have := J.objs i a c h1 h2
  rw [hG] at this
  exact this
 ·intro i a c h1 h2 h3
  exact J.fz i a c h1 h2 (Prot.sub_none h3 I)
 ·apply byC; intro kz; obtain ⟨m, hm, hv⟩ := I.fr.loc; apply kz; clear kz
  refine ⟨I.fr.locOut, (J.outs _ (.inr (.inl rfl))).2, ⟨m, ?_, fun i x v h1 h2 h3 => ?_⟩, fun i x h1 h2 => ?_, I.fr.len⟩
  ·refine hm.at' fun o e => keep _ _ ?_
   rw [Prot.sub_loc (.inl rfl)]
   exact e
  ·apply byC; intro kz; obtain ⟨rv, h4, h5⟩ := hv i x v h1 h2 h3; apply kz; clear kz
   exact ⟨rv, h4, h5.up hp⟩
  ·apply byC; intro kz; obtain ⟨c, ov, h3, h4, h5, h6, ⟨o, ho, hd⟩, h8⟩ := I.fr.cell i x h1 h2; apply kz; clear kz
   refine ⟨c, ov, h3, h4, (J.outs _ (.inr (.inr ⟨x, h3⟩))).2, h6, ⟨o, keep _ _ ?_, hd⟩, fun v hv => ?_⟩
   ·rw [Prot.sub_loc (.inr ⟨x, h3⟩)]
    exact ho
   ·apply byC; intro kz; obtain ⟨rv, h9, h10⟩ := h8 v hv; apply kz; clear kz
    exact ⟨rv, h9, h10.up hp⟩
theorem Inv.enter (K : XOK X) (I : Inv X P ρ st s) {vars : List (Option PV)} {h' : Heap} {tk : Nat} (k : ∀ b o, s.heap.get? b = some o → h'.get? b = some o) (hG : X'.G = X.G) (fr : FrOK X' (P.sub X s).B ρ vars h') :
  Inv X' (P.sub X s) ρ { vars := vars, hp := st.hp } { s with heap := h', toks := tk } := by
 refine ⟨fun a o e => k _ _ (Prot.sub_held I e), fun a o e => Prot.sub_some I (I.old a o (hG ▸ e)), fun a ha => ?_, I.nd, I.len, ?_, ?_, I.bare, I.gheld, I.os, fr⟩
 ·exact Prot.sub_out K I ha
 ·intro i a c h1 h2
  have := (I.objs i a c h1 h2).at fun ob e => k _ _ e
  rw [← hG] at this
  exact this
 ·intro i a c h1 h2 h3
  refine I.fz i a c h1 h2 fun q => h3 ?_
  have ha := List.mem_of_getElem? h1
  have : (P.sub X s).B a = P.B a := by
   unfold Prot.sub
   dsimp only
   rw [if_neg]
   rintro (q | ⟨x, q⟩)
   ·exact I.fr.locNot (q ▸ ha)
   ·exact (I.cell_lt K q).2.1 ha
  rw [this, q]
theorem zF6 {kindOf : Str → Option NameKind} {n : Str} {v : Value} {r : List (Str × Value)} {m : Str → Option Value} : bindL kindOf ((n, v) :: r) m = bindL kindOf r (if kindOf n = some .local then fun y => if y = n then some v else m y else m) := rfl
theorem zEW {kindOf : Str → Option NameKind} {x : Str} {v : Value} (hk : kindOf x = some .local) : ∀ (ps : List Str) (vals : List Value) (m : Str → Option Value) (i : Nat), ps.Nodup → ps[i]? = some x → vals[i]? = some v →
  bindL kindOf (ps.zip vals) m x = some v
 | [], _, _, i, _, h, _ => by simp at h
 | _ :: _, [], _, i, _, _, h => by simp at h
 | p :: ps, w :: vals, m, i, hn, h1, h2 => by
  obtain ⟨hn1, hn2⟩ := List.nodup_cons.mp hn
  rw [List.zip_cons_cons, zF6]
  cases i with
  | zero =>
   simp only [List.getElem?_cons_zero, Option.some.injEq] at h1 h2
   subst h1 h2
   have key : ∀ (ps : List Str) (vals : List Value) (m : Str → Option Value), p ∉ ps → bindL kindOf (ps.zip vals) m p = m p := by
    intro ps
    induction ps with
    | nil => intro vals m _; rfl
    | cons q qs ih =>
     intro vals m hq
     cases vals with
     | nil => rfl
     | cons u us =>
      rw [List.zip_cons_cons, zF6, ih us _ (fun h => hq (List.mem_cons_of_mem _ h))]
      have : p ≠ q := fun h => hq (h ▸ List.mem_cons_self ..)
      split
      ·simp [this]
      ·rfl
   rw [key ps vals _ hn1, if_pos hk]
   simp
  | succ i =>
   simp only [List.getElem?_cons_succ] at h1 h2
   exact zEW hk ps vals _ i hn2 h1 h2
theorem zEX {kindOf : Str → Option NameKind} {x : Str} {v : Value} (hk : kindOf x ≠ some .local) : ∀ (ps : List Str) (vals : List Value) (m : Str → Option Value) (i : Nat), ps.Nodup → ps[i]? = some x → vals[i]? = some v →
  bindC kindOf (ps.zip vals) m x = some v
 | [], _, _, i, _, h, _ => by simp at h
 | _ :: _, [], _, i, _, _, h => by simp at h
 | p :: ps, w :: vals, m, i, hn, h1, h2 => by
  obtain ⟨hn1, hn2⟩ := List.nodup_cons.mp hn
  rw [List.zip_cons_cons, bindC]
  cases i with
  | zero =>
   simp only [List.getElem?_cons_zero, Option.some.injEq] at h1 h2
   subst h1 h2
   have key : ∀ (ps : List Str) (vals : List Value) (m : Str → Option Value), p ∉ ps → bindC kindOf (ps.zip vals) m p = m p := by
    intro ps
    induction ps with
    | nil => intro vals m _; rfl
    | cons q qs ih =>
     intro vals m hq
     cases vals with
     | nil => rfl
     | cons u us =>
      rw [List.zip_cons_cons, bindC, ih us _ (fun h => hq (List.mem_cons_of_mem _ h))]
      have : p ≠ q := fun h => hq (h ▸ List.mem_cons_self ..)
      split
      ·rfl
      ·simp [this]
   rw [key ps vals _ hn1, if_neg hk]
   simp
  | succ i =>
   simp only [List.getElem?_cons_succ] at h1 h2
   exact zEX hk ps vals _ i hn2 h1 h2
theorem zB0 {α : Type} {l : List (Str × α)} {x y : Str} {v : α} (h : x ≠ y) : ((y, v) :: l).lookup x = l.lookup x := by
 rw [List.lookup_cons]
 have : (x == y) = false := by simpa using h
 rw [this]
theorem zB1 {α : Type} {l : List (Str × α)} {x : Str} {v : α} : ((x, v) :: l).lookup x = some v := by
 rw [List.lookup_cons]
 simp
theorem zB2 : ∀ (names : List (Str × NameKind)) (n : Nat) (acc : List (Str × Addr)) (x : Str), ((x, NameKind.cell) ∈ names ∨ ∃ c, acc.lookup x = some c) → ∃ c, (cellsFrom n names acc).lookup x = some c
 | [], n, acc, x, h => by
  rcases h with h | h
  ·cases h
  ·exact h
 | (y, k) :: r, n, acc, x, h => by
  unfold cellsFrom
  split
  ·rename_i hk
   refine zB2 r _ _ x ?_
   by_cases hxy : x = y
   ·subst hxy
    exact .inr ⟨n, zB1⟩
   ·rcases h with h | ⟨c, h⟩
    ·rcases List.mem_cons.mp h with e | h
     ·exact absurd (by cases e; rfl) hxy
     ·exact .inl h
    ·exact .inr ⟨c, by rw [zB0 hxy]; exact h⟩
  ·rename_i hk
   refine zB2 r _ _ x ?_
   rcases h with h | h
   ·rcases List.mem_cons.mp h with e | h
    ·cases e
     exact absurd rfl hk
    ·exact .inl h
   ·exact .inr h
theorem zDM : ∀ (names : List (Str × NameKind)) (n : Nat) (acc : List (Str × Addr)) (x : Str) (c : Addr), (x, c) ∈ cellsFrom n names acc → (x, NameKind.cell) ∈ names ∨ (x, c) ∈ acc
 | [], n, acc, x, c, h => .inr h
 | (y, k) :: r, n, acc, x, c, h => by
  unfold cellsFrom at h
  split at h
  ·rename_i hk
   rcases zDM r _ _ x c h with h | h
   ·exact .inl (List.mem_cons_of_mem _ h)
   ·rcases List.mem_cons.mp h with e | h
    ·cases e
     have : k = .cell := by simpa using hk
     subst this
     exact .inl (List.mem_cons_self ..)
    ·exact .inr h
  ·rcases zDM r _ _ x c h with h | h
   ·exact .inl (List.mem_cons_of_mem _ h)
   ·exact .inr h
theorem zAr {α : Type} : ∀ {l : List (Str × α)} {x : Str} {v : α}, (l.map (·.1)).Nodup → (x, v) ∈ l → l.lookup x = some v
 | (y, w) :: r, x, v, hn, h => by
  rw [List.map_cons, List.nodup_cons] at hn
  rcases List.mem_cons.mp h with e | h
  ·cases e; exact zB1
  ·have : x ≠ y := fun q => hn.1 (q ▸ List.mem_map.mpr ⟨_, h, rfl⟩)
   rw [zB0 this]
   exact zAr hn.2 h
end
noncomputable def FnOK (G : Ctx) (d : DefRec) (a : Addr) : Prop := ∃ pm code doc, G.h₀.get? a = some { cls := .type "function", data := .func (d.data pm (.ref code) doc) } ∧ G.h₀.CodeRec (.ref code) d.name
noncomputable def nsOf (sc : Scope) : List Str := (sc.names.filter fun x => x.2 == .local || x.2 == .cell).map (·.1)
structure DefOK (d : DefRec) (ps : List Str) : Prop where
 kind : d.scope.kind = .function
 gen : d.scope.isGenerator = false
 co : d.scope.isCoroutine = false
 nd : (d.scope.names.map (·.1)).Nodup
 pre : ps <+: nsOf d.scope
 bind : ∀ (pm code doc : Value) (vals : List Value), vals.length = ps.length → bindArgs (d.data pm code doc) ⟨vals, []⟩ = pure (ps.zip vals)
structure InF (G : Ctx) (d : DefRec) (n : Nat) (X : Stat) : Prop where
 g : X.G = G
 sc : X.env.scope = d.scope
 ns : X.ns = nsOf d.scope
 own : X.own = true
 d : X.d = n
 ok : XOK X
noncomputable def pCall (k : Nat) (mb : PM PF) (args : List PV) : PM PV := fun s => match mb { vars := args.map some ++ List.replicate (k - args.length) none, hp := s.hp } with
 | some (.ret v, s') => some (v, { vars := s.vars, hp := s'.hp })
 | some (.next, s') => some (.none, { vars := s.vars, hp := s'.hp })
 | _ => none
theorem zDN {sc : Scope} {x : Str} (h : x ∈ nsOf sc) : ∃ k, (x, k) ∈ sc.names ∧ (k = .local ∨ k = .cell) := by
 unfold nsOf at h
 obtain ⟨⟨y, k⟩, h1, rfl⟩ := List.mem_map.mp h
 obtain ⟨h2, h3⟩ := List.mem_filter.mp h1
 refine ⟨k, h2, ?_⟩
 simpa using h3
theorem zF7 {sc : Scope} {x : Str} {k : NameKind} (h : (x, k) ∈ sc.names) (hk : k = .local ∨ k = .cell) : x ∈ nsOf sc :=
 List.mem_map.mpr ⟨(x, k), List.mem_filter.mpr ⟨h, by rcases hk with rfl | rfl <;> rfl⟩, rfl⟩
theorem zDO {sc : Scope} (h : (sc.names.map (·.1)).Nodup) : (nsOf sc).Nodup := by
 unfold nsOf
 exact List.Nodup.sublist (List.Sublist.map _ List.filter_sublist) h
theorem zF8 {α : Type} {l l' : List α} (h : l <+: l') {i : Nat} {a : α} (e : l'[i]? = some a) (hi : i < l.length) : l[i]? = some a := by
 obtain ⟨t, rfl⟩ := h
 rwa [List.getElem?_append_left hi] at e
theorem zDP {args : List PV} {k i : Nat} {v : PV} (h : (args.map some ++ List.replicate k none)[i]? = some (some v)) : args[i]? = some v := by
 by_cases hi : i < args.length
 ·rw [List.getElem?_append_left (by simpa using hi), List.getElem?_map] at h
  obtain ⟨w, h1, h2⟩ := Option.map_eq_some_iff.mp h
  cases h2
  exact h1
 ·rw [List.getElem?_append_right (by simpa using hi), List.getElem?_replicate] at h
  split at h <;> cases h
noncomputable def zX (k : Nat) (args : List PV) : List (Option PV) := args.map some ++ List.replicate (k - args.length) none
theorem zF9 {G : Ctx} {d : DefRec} {a : Addr} (F : FnOK G d a) {ps : List Str} (D : DefOK d ps) {n : Nat}
  {X : Stat} (K : XOK X) (hX : X.G = G) (hd : n + 1 ≤ X.d) {A : Around} {P : Prot} {s : Shared} {ρ : List Addr} {st : PSt} {Q : Value → Shared → Prop} {E : Value → Shared → Prop} {args : List PV} {rargs : List Value}
  (hr : VRels ρ args rargs) (hl : args.length = ps.length) (hA : AOK X.d A) (hI : Inv X P ρ st s)
  (hb : ∀ X' s₁, InF G d n X' → AOK X'.d (A.deeper X'.env) → X'.env.frame = some X'.env.locals → s.heap.objs.size ≤ X'.env.locals → (∀ b o, s.heap.get? b = some o → s₁.heap.get? b = some o) → Inv X' (P.sub X s) ρ { vars := zX (nsOf d.scope).length args, hp := st.hp } s₁ →
   wpAny (model X.G.prog X.G.w) (A.deeper X'.env) (execs d.body X'.env) (fun f s' => Q (match f with | .ret v => v | _ => .none) s')
    (fun e s' => wpAny (model X.G.prog X.G.w) (A.deeper X'.env) (leaving X'.env e) (fun _ s'' => E e s'') (fun e' s'' => E e' s'') s') s₁) :
  wpAny (model X.G.prog X.G.w) A (PySem.call (.ref a) rargs []) Q E s := by
 subst hX
 obtain ⟨pm, code, doc, ho, hc⟩ := F
 have hlv : rargs.length = ps.length := by rw [hr.length, hl]
 have hoS := hI.get ho
 have hcS : s.heap.CodeRec (.ref code) d.name := hc.at fun o e => hI.get e
 have hlim : s.heap.NoLimit := K.gok.nolim.at fun o e => hI.get e
 have hdep := hA.depth
 have hun := hA.units
 have hnames := D.nd
 have hpsn : ps.Nodup := by
  obtain ⟨t, ht⟩ := D.pre
  have := zDO D.nd
  rw [← ht] at this
  exact (List.nodup_append.mp this).1
 have hkind : ∀ x ∈ ps, d.scope.names.lookup x = some .local ∨ d.scope.names.lookup x = some .cell := fun x hx => by
  obtain ⟨k, h1, h2⟩ := zDN (D.pre.subset hx)
  rw [zAr D.nd h1]
  rcases h2 with rfl | rfl
  ·exact .inl rfl
  ·exact .inr rfl
 refine wpAny_call (codeAny_call_cells (fd := d.data pm (.ref code) doc) (body := d.body) (binds := ps.zip rargs) (by show A.depth < 1000; lia) hoS rfl hlim hcS rfl (D.bind _ _ _ rargs hlv) rfl ?_ ?_ D.co D.gen D.kind)
 ·intro x hx
  have hx1 : x.1 ∈ ps := (List.of_mem_zip hx).1
  rcases hkind x.1 hx1 with h | h
  ·exact .inl h
  ·refine .inr ⟨h, ?_⟩
   obtain ⟨c, hc⟩ := zB2 d.scope.names (s.heap.objs.size + 1) [] x.1 (.inl (mem_of_lookup h))
   show ((cellsFrom (s.heap.objs.size + 1) d.scope.names []).lookup x.1).isSome = true
   rw [hc]
   rfl
 ·intro s₁ C
  have hsc : (callEnvC (d.data pm (.ref code) doc) s.heap.objs.size a).scope = d.scope := rfl
  have hloc : (callEnvC (d.data pm (.ref code) doc) s.heap.objs.size a).locals = s.heap.objs.size := rfl
  have hcells : (callEnvC (d.data pm (.ref code) doc) s.heap.objs.size a).cells = cellsFrom (s.heap.objs.size + 1) d.scope.names [] := rfl
  have hglob : (callEnvC (d.data pm (.ref code) doc) s.heap.objs.size a).globals = mainGlobals := rfl
  have hblt : (callEnvC (d.data pm (.ref code) doc) s.heap.objs.size a).builtins = builtinsNs := rfl
  have hfrm : (callEnvC (d.data pm (.ref code) doc) s.heap.objs.size a).frame = some (callEnvC (d.data pm (.ref code) doc) s.heap.objs.size a).locals := rfl
  generalize callEnvC (d.data pm (.ref code) doc) s.heap.objs.size a = env at *
  have kindOf : ∀ x, env.kindOf x = d.scope.names.lookup x := fun x => by unfold Env.kindOf; rw [hsc]
  have hfresh : ∀ c, s.heap.objs.size ≤ c → c ∉ ρ ∧ (P.sub X s).B c = none := fun c hc0 => by
   obtain ⟨h1, h2, h3, h4⟩ := hI.fresh K hc0
   refine ⟨h1, ?_⟩
   unfold Prot.sub
   dsimp only
   rw [if_neg, h2]
   rintro (q | ⟨x, q⟩)
   ·exact h3 q.symm
   ·exact h4 x c q rfl
  have hcellmem : ∀ x c, env.cells.lookup x = some c → env.kindOf x = some .cell ∧ x ∈ nsOf d.scope ∧ s.heap.objs.size < c := fun x c h => by
   have h1 := mem_of_lookup h
   have h3 := C.above x c h1
   rw [hcells] at h1
   rcases zDM _ _ _ x c h1 with h2 | h2
   ·exact ⟨(kindOf x).trans (zAr D.nd h2), zF7 h2 (.inr rfl), hloc ▸ h3⟩
   ·cases h2
  let X' : Stat := ⟨X.G, env, nsOf d.scope, true, n⟩
  have K' : XOK X' := by
   refine ⟨hsc ▸ D.kind, hglob, hblt, zDO D.nd, K.gok, ?_, ?_, ?_⟩
   ·intro x y c h1 h2
    exact name_of_addr C.apart (mem_of_lookup h1) (mem_of_lookup h2)
   ·intro x hx
    obtain ⟨k, h1, h2⟩ := zDN hx
    rw [show X'.env.kindOf x = _ from (kindOf x).trans (zAr D.nd h1)]
    rcases h2 with rfl | rfl
    ·exact .inl rfl
    ·exact .inr rfl
   ·intro x c h
    obtain ⟨h1, h2, _⟩ := hcellmem x c h
    exact ⟨h2, h1⟩
  have fr : FrOK X' (P.sub X s).B ρ (args.map some ++ List.replicate ((nsOf d.scope).length - args.length) none) s₁.heap := by
   obtain ⟨f1, f2⟩ := hfresh _ (Nat.le_refl _)
   have hple : ps.length ≤ (nsOf d.scope).length := D.pre.length_le
   have argAt : ∀ (i : Nat) (x : Str) (v : PV), (nsOf d.scope)[i]? = some x → args[i]? = some v → ps[i]? = some x ∧ ∃ rv, rargs[i]? = some rv ∧ VRel ρ v rv := fun i x v h1 h3 => by
    have hi : i < ps.length := by
     rw [← hl]
     exact (List.getElem?_eq_some_iff.mp h3).1
    exact ⟨zF8 D.pre h1 hi, hr.get h3⟩
   refine ⟨by show (P.sub X s).B env.locals = none; rw [hloc]; exact f2, by show env.locals ∉ ρ; rw [hloc]; exact f1, ⟨_, C.toInCall.ns, fun i x v h1 h2 h3 => ?_⟩, fun i x h1 h2 => ?_, ?_⟩
   ·obtain ⟨h4, rv, h5, h6⟩ := argAt i x v h1 (zDP h3)
    exact ⟨rv, zEW h2 ps rargs _ i hpsn h4 h5, h6⟩
   ·have h2' : d.scope.names.lookup x = some .cell := (kindOf x).symm.trans h2
    obtain ⟨c, hc⟩ := zB2 d.scope.names (s.heap.objs.size + 1) [] x (.inl (mem_of_lookup h2'))
    rw [← hcells] at hc
    have hlt := (hcellmem x c hc).2.2
    obtain ⟨g1, g2⟩ := hfresh c (Nat.le_of_lt hlt)
    refine ⟨c, _, hc, ?_, g1, fun _ => g2, C.cell x c hc, fun v h3 => ?_⟩
    ·show c ≠ env.locals
     rw [hloc]
     exact Nat.ne_of_gt hlt
    ·obtain ⟨h4, rv, h5, h6⟩ := argAt i x v h1 (zDP h3)
     exact ⟨rv, zEX (by rw [h2]; decide) ps rargs _ i hpsn h4 h5, h6⟩
   ·show _ = (nsOf d.scope).length
    simp only [List.length_append, List.length_map, List.length_replicate]
    lia
  obtain ⟨h', tk, rfl, keep⟩ := C.done
  have I' : Inv X' (P.sub X s) ρ { vars := args.map some ++ List.replicate ((nsOf d.scope).length - args.length) none, hp := st.hp } { s with heap := h', toks := tk } := hI.enter K keep rfl fr
  have hA' : AOK X'.d (A.deeper env) := ⟨hA.handled, by show A.depth + 1 + 8 * n ≤ 950; lia, by show A.units + 3 + 100 * n ≤ 9000; lia⟩
  have hInF : InF X.G d n X' := ⟨rfl, hsc, rfl, rfl, rfl, K'⟩
  exact hb X' _ hInF hA' hfrm (Nat.le_of_eq hloc.symm) keep I'
theorem zCZ {G : Ctx} (hG : GOK G) {d : DefRec} {a : Addr} (F : FnOK G d a) {ps : List Str} (D : DefOK d ps) {n : Nat} {mb : PM PF} (hb : ∀ X', InF G d n X' → SndB X' [] d.body mb)
  {X : Stat} (K : XOK X) (hX : X.G = G) (hd : n + 1 ≤ X.d) {A : Around} {P : Prot} {s : Shared} {ρ : List Addr} {st s2 : PSt} {f : PF} {Q : Value → Shared → Prop} {E : Value → Shared → Prop} {args : List PV} {rargs : List Value}
  (hr : VRels ρ args rargs) (hl : args.length = ps.length) (hA : AOK X.d A) (hI : Inv X P ρ st s) (em : mb { vars := zX (nsOf d.scope).length args, hp := st.hp } = some (f, s2))
  (hQ : ∀ rf s'' ρ'' X', X'.G = X.G → ρ <+: ρ'' → Inv X' (P.sub X s) ρ'' s2 s'' → FRel ρ'' f rf → Q (match rf with | .ret v => v | _ => .none) s'') :
  wpAny (model X.G.prog X.G.w) A (PySem.call (.ref a) rargs []) Q E s := by
 subst hX
 refine zF9 F D K rfl hd hr hl hA hI fun X' s₁ hInF hA' _ _ _ I' => ?_
 rw [← hInF.g]
 exact (hb X' hInF).run List.nil_prefix hA' I' em fun f s'' ρ'' hp'' I'' hf => hQ f s'' ρ'' X' hInF.g hp'' I'' hf
theorem zJL {G : Ctx} (hG : GOK G) {d : DefRec} {a : Addr} (F : FnOK G d a) {ps : List Str} (D : DefOK d ps) {n : Nat} {mb : PM PF} (hb : ∀ X', InF G d n X' → SndB X' [] d.body mb)
  {X : Stat} (K : XOK X) (hX : X.G = G) (hd : n + 1 ≤ X.d) {ρ₀ : List Addr} {args : List PV} {rargs : List Value} (hr : VRels ρ₀ args rargs) (hl : args.length = ps.length) :
  SndR X ρ₀ (PySem.call (.ref a) rargs []) (pCall (nsOf d.scope).length mb args) VRel := by
 intro A P s ρ st st' b hρ hA hI e
 unfold pCall at e
 split at e
 ·rename_i v s2 em
  cases e
  refine zCZ hG F D hb K hX hd (hr.up hρ) hl hA hI em fun f s'' ρ'' X' hG' hp'' I'' hf => ?_
  cases hf with
  | ret hv => exact ⟨ρ'', hp'', hI.leave I'' hG' hp'', hv⟩
 ·rename_i s2 em
  cases e
  refine zCZ hG F D hb K hX hd (hr.up hρ) hl hA hI em fun f s'' ρ'' X' hG' hp'' I'' hf => ?_
  cases hf with
  | next => exact ⟨ρ'', hp'', hI.leave I'' hG' hp'', .none⟩
 ·cases e
noncomputable def frz (hp : List (Bool × PO)) : List (Bool × PO) := hp.map fun c => (true, c.2)
noncomputable def isSc : PV → Bool
 | .ref _ => false
 | _ => true
noncomputable def zAC (k : Nat) (mb : PM PF) (args : List PV) : PM PV := fun s => match mb { vars := zX k args, hp := frz s.hp } with
 | some (.ret (.ref i), s') => match s'.hp[i]? with
  | some (false, .list xs) => if xs.all isSc = true ∧ s.hp.length ≤ i then zu (.list xs) s else none
  | _ => none
 | some (.ret v, _) => some (v, s)
 | some (.next, _) => some (.none, s)
 | _ => none
noncomputable def Prot.frz (P : Prot) (ρ : List Addr) (s : Shared) : Prot where
 B := fun a => @ite _ (a ∈ ρ) (Classical.propDecidable _) (s.heap.get? a) (P.B a)
 out := P.out
 gB := P.gB
 os := P.os
section
variable {X X' : Stat} {P : Prot} {ρ ρ' : List Addr} {st st' : PSt} {s s' : Shared}
theorem zCa {a : Addr} (h : a ∈ ρ) : (P.frz ρ s).B a = s.heap.get? a := by
 unfold Prot.frz
 dsimp only
 rw [if_pos h]
theorem zBe {a : Addr} (h : a ∉ ρ) : (P.frz ρ s).B a = P.B a := by
 unfold Prot.frz
 dsimp only
 rw [if_neg h]
theorem Inv.frz (K : XOK X) (I : Inv X P ρ st s) : Inv X (P.frz ρ s) ρ { vars := st.vars, hp := Mine.frz st.hp } s := by
 refine ⟨fun a o e => ?_, fun a o e => ?_, fun a ha => ?_, I.nd, by show _ = (Mine.frz _).length; unfold Mine.frz; rw [List.length_map]; exact I.len, ?_, ?_, I.bare, I.gheld, I.os, ?_⟩
 ·by_cases h : a ∈ ρ
  ·rwa [zCa h] at e
  ·rw [zBe h] at e
   exact I.held a o e
 ·by_cases h : a ∈ ρ
  ·rw [zCa h]
   exact I.get e
  ·rw [zBe h]
   exact I.old a o e
 ·apply byC; intro kz; obtain ⟨⟨z, hz, h1⟩, h2⟩ := I.outs a ha; apply kz; clear kz
  refine ⟨⟨z, hz, ?_⟩, h2⟩
  by_cases hm : z ∈ ρ
  ·rw [zCa hm]
   cases e : P.B z with
   | none => exact absurd e h1
   | some o => rw [I.held z o e]; simp
  ·rw [zBe hm]; exact h1
 ·intro i a c h1 h2
  have h2 : (st.hp.map fun c => (true, c.2))[i]? = some c := h2
  rw [List.getElem?_map] at h2
  apply byC; intro kz; obtain ⟨c', h3, rfl⟩ := Option.map_eq_some_iff.mp h2; apply kz; clear kz
  exact I.objs i a c' h1 h3
 ·intro i a c h1 h2 _
  have h2 : (st.hp.map fun c => (true, c.2))[i]? = some c := h2
  rw [List.getElem?_map] at h2
  apply byC; intro kz; obtain ⟨c', h3, rfl⟩ := Option.map_eq_some_iff.mp h2; apply kz; clear kz
  rfl
 ·refine ⟨by rw [zBe I.fr.locNot]; exact I.fr.locOut, I.fr.locNot, I.fr.loc, fun i x h1 h2 => ?_, I.fr.len⟩
  apply byC; intro kz; obtain ⟨c, ov, h3, h4, h5, h6, h7, h8⟩ := I.fr.cell i x h1 h2; apply kz; clear kz
  exact ⟨c, ov, h3, h4, h5, fun h => by rw [zBe h5]; exact h6 h, h7, h8⟩
theorem Inv.leaveS (K : XOK X) (I : Inv X P ρ st s) (J : Inv X' ((P.frz ρ s).sub X s) ρ' st' s') (hp : ρ <+: ρ') : Inv X P ρ st s' := by
 have I1 := I.frz K
 have keep : ∀ a o, ((P.frz ρ s).sub X s).B a = some o → s'.heap.get? a = some o := J.held
 have keep1 : ∀ a o, (P.frz ρ s).B a = some o → s'.heap.get? a = some o := fun a o e => keep a o (Prot.sub_some I1 e)
 refine ⟨fun a o e => ?_, I.old, I.outs, I.nd, I.len, fun i a c h1 h2 => ?_, I.fz, J.bare, J.gheld, J.os, ?_⟩
 ·by_cases h : a ∈ ρ
  ·refine keep1 a o ?_
   rw [zCa h]
   exact I.held a o e
  ·exact keep1 a o (by rw [zBe h]; exact e)
 ·exact (I.objs i a c h1 h2).at fun ob e => keep1 a ob (by rw [zCa (List.mem_of_getElem? h1)]; exact e)
 ·apply byC; intro kz; obtain ⟨m, hm, hv⟩ := I.fr.loc; apply kz; clear kz
  refine ⟨I.fr.locOut, I.fr.locNot, ⟨m, ?_, hv⟩, fun i x h1 h2 => ?_, I.fr.len⟩
  ·refine hm.at' fun o e => keep _ _ ?_
   rw [Prot.sub_loc (.inl rfl)]
   exact e
  ·apply byC; intro kz; obtain ⟨c, ov, h3, h4, h5, h6, ⟨o, ho, hd⟩, h8⟩ := I.fr.cell i x h1 h2; apply kz; clear kz
   refine ⟨c, ov, h3, h4, h5, h6, ⟨o, keep _ _ ?_, hd⟩, h8⟩
   rw [Prot.sub_loc (.inr ⟨x, h3⟩)]
   exact ho
theorem zEY {ρ ρ' : List Addr} {v : PV} {r : Value} (h : isSc v = true) (hv : VRel ρ v r) : VRel ρ' v r := by
 cases hv with
 | none => exact .none
 | bool b => exact .bool b
 | int i t => exact .int i t
 | str x t => exact .str x t
 | ref _ => cases h
theorem zJM {ρ ρ' : List Addr} {xs : List PV} {vs : List Value} (h : xs.all isSc = true) (r : VRels ρ xs vs) : VRels ρ' xs vs := by
 induction r with
 | nil => exact .nil
 | cons a b ih =>
  rw [List.all_cons, Bool.and_eq_true] at h
  exact .cons (zEY h.1 a) (ih h.2)
end
theorem zJN {G : Ctx} (hG : GOK G) {d : DefRec} {a : Addr} (F : FnOK G d a) {ps : List Str} (D : DefOK d ps) {n : Nat} {mb : PM PF} (hb : ∀ X', InF G d n X' → SndB X' [] d.body mb)
  {X : Stat} (K : XOK X) (hX : X.G = G) (hd : n + 1 ≤ X.d) {ρ₀ : List Addr} {args : List PV} {rargs : List Value} (hr : VRels ρ₀ args rargs) (hl : args.length = ps.length) :
  SndR X ρ₀ (PySem.call (.ref a) rargs []) (zAC (nsOf d.scope).length mb args) VRel := by
 intro A P s ρ st st' b hρ hA hI e
 unfold zAC at e
 split at e
 ·rename_i i s2 em
  split at e
  ·rename_i xs g
   split at e
   ·rename_i hc
    cases e
    refine zCZ hG F D hb K hX hd (hr.up hρ) hl hA (hI.frz K) em fun f s'' ρ'' X' hG' hp'' J hf => ?_
    cases hf with
    | ret hv =>
     cases hv with
     | ref hi =>
      rename_i a1
      have J1 := hI.leaveS K J hp''
      apply byC; intro kz; obtain ⟨vs, n1, g1, r1⟩ := J.objs i a1 _ hi g; apply kz; clear kz
      have hB' : ((P.frz ρ s).sub X s).B a1 = none := by
       cases eq : ((P.frz ρ s).sub X s).B a1 with
       | none => rfl
       | some o => have := J.fz i a1 _ hi g (by rw [eq]; simp); cases this
      have hnot : a1 ∉ ρ := fun hm => by
       apply byC; intro kz; obtain ⟨j, hj⟩ := List.mem_iff_getElem?.mp hm; apply kz; clear kz
       have hlt := (List.getElem?_eq_some_iff.mp hj).1
       have := zCX J.nd (zi hp'' hj) hi
       have hlen := hI.len
       lia
      have hB : P.B a1 = none := by
       cases eq : P.B a1 with
       | none => rfl
       | some o =>
        have e2 : (P.frz ρ s).B a1 = some o := by rw [zBe hnot]; exact eq
        rw [Prot.sub_some (hI.frz K) e2] at hB'
        cases hB'
      refine ⟨ρ ++ [a1], List.prefix_append .., J1.push hnot hB ?_ ?_ (fun hq => (J.outs a1 (.inl hq)).2 (List.mem_of_getElem? hi)) ⟨vs, n1, g1, zJM hc.1 r1⟩, .ref (J1.last _)⟩
      ·intro q
       exact (J.outs X.env.locals (.inr (.inl rfl))).2 (q ▸ List.mem_of_getElem? hi)
      ·intro x c h q
       exact (J.outs c (.inr (.inr ⟨x, h⟩))).2 (q ▸ List.mem_of_getElem? hi)
   ·cases e
  ·cases e
 ·rename_i v s2 hne em
  cases e
  refine zCZ hG F D hb K hX hd (hr.up hρ) hl hA (hI.frz K) em fun f s'' ρ'' X' hG' hp'' J hf => ?_
  cases hf with
  | ret hv =>
   refine ⟨ρ, List.prefix_refl _, hI.leaveS K J hp'', zEY ?_ hv⟩
   cases b with
   | ref i => exact (hne i rfl).elim
   | _ => rfl
 ·rename_i s2 em
  cases e
  refine zCZ hG F D hb K hX hd (hr.up hρ) hl hA (hI.frz K) em fun f s'' ρ'' X' hG' hp'' J hf => ?_
  cases hf with
  | next => exact ⟨ρ, List.prefix_refl _, hI.leaveS K J hp'', .none⟩
 ·cases e
noncomputable def pApp (n : Nat) (ma : PM (List PV)) (pf : List PV → PM PV) : PM PV := ma.bind fun vs => if vs.length = n then pf vs else PM.fail
noncomputable def pApp1 (m : PM PV) (pf : PV → PM PV) : PM PV := m.bind pf
noncomputable def pApp2 (m k : PM PV) (pf : PV → PV → PM PV) : PM PV := m.bind fun a => k.bind fun b => pf a b
section
variable {X : Stat}
theorem zJO {M : Model} {A : Around} {E : Value → Shared → Prop} {s : Shared} {f : Value} {Q : Args → Shared → Prop} (h : Q ⟨[], []⟩ s) : wpAny M A (evalArgs f true [] []) Q E s := by
 unfold evalArgs
 show wpAny M A (spliced [] >>= _) Q E s
 refine wpAny_bind (Calls.spliced_nil ?_)
 refine wpAny_bind (wpAny_pure ?_)
 refine wpAny_holding ?_
 exact wpAny_bind (wpAny_pure (wpAny_bind (wpAny_pure (wpAny_pure h))))
theorem zB3 {A : Around} {P : Prot} {s : Shared} {ρ : List Addr} {st : PSt} (K : XOK X) (I : Inv X P ρ st s) {x : Str} {p : Pos} {v : Value} {Q : Value → Shared → Prop} {E : Value → Shared → Prop} (hk : X.env.kindOf x = some .globalImplicit)
  (hv : X.G.mg x = some v) (hd : (x == ("__debug__" : Str)) = false) (h : Q v s) : wpAny (model X.G.prog X.G.w) A (eval (.Name x p) X.env) Q E s :=
 Calls.Name_function_global K.fn hk (Calls.loadGlobal_global (K.glob ▸ K.gok.g.at' fun o e => I.get e) hv h) hd
theorem zCb {A : Around} {P : Prot} {s : Shared} {ρ : List Addr} {st : PSt} (K : XOK X) (I : Inv X P ρ st s) {x : Str} {p : Pos} {v : Value} {Q : Value → Shared → Prop} {E : Value → Shared → Prop} (hk : X.env.kindOf x = some .globalImplicit)
  (hv : X.G.mg x = none) (hb : bootBuiltins x = some v) (hn : x ≠ "__name__") (hd : (x == ("__debug__" : Str)) = false) (h : Q v s) : wpAny (model X.G.prog X.G.w) A (eval (.Name x p) X.env) Q E s :=
 Calls.Name_function_global K.fn hk (Calls.loadGlobal_builtin (K.glob ▸ K.gok.g.at' fun o e => I.get e) hv (K.blt ▸ K.gok.b.at' fun o e => I.get e) ((K.gok.mbs x hn).trans hb) h) hd
theorem zGA (K : XOK X) {x : Str} {p : Pos} {y : Str} {t : Tok} (hk : X.env.kindOf x = some .globalImplicit) (hv : X.G.mg x = some (.str y t)) (hd : (x == ("__debug__" : Str)) = false) : SndE X [] (.Name x p) (PM.ret (.str y)) :=
 .of fun A P s ρ st st' b Q E hρ hA I e h => by
  cases e
  exact zB3 K I hk hv hd (h _ _ ρ (List.prefix_refl _) I (.str _ _))
theorem zJP (K : XOK X) {f : Str} {p pos : Pos} {a : Addr} {d : DefRec} {e : Expr} {es : List Expr} {n : Nat} {ma : PM (List PV)} {pf : List PV → PM PV} (hk : X.env.kindOf f = some .globalImplicit) (hv : X.G.mg f = some (.ref a))
  (hd : (f == ("__debug__" : Str)) = false) (F : FnOK X.G d a) (hargs : SndL X (e :: es) ma) (he : starEach (e :: es) X.env = (false, eval e X.env) :: starEach es X.env)
  (hf : ∀ ρ vs rvs, VRels ρ vs rvs → vs.length = n → SndR X ρ (PySem.call (.ref a) rvs []) (pf vs) VRel) : SndE X [] (.Call (.Name f p) (e :: es) [] pos) (pApp n ma pf) := by
 intro A P s ρ st st' b hρ hA hI e0
 apply byC; intro kz; obtain ⟨vs, st1, e1, ea⟩ := PM.bind_some e0; apply kz; clear kz
 split at ea
 ·rename_i hn
  refine wpAny_Call_NameR (zB3 K hI hk hv hd ?_)
  apply byC; intro kz; obtain ⟨pm, code, doc, ho, hc⟩ := F; apply kz; clear kz
  have h1 := hargs pos
  rw [he] at h1
  refine Calls.callWith_function (o := { cls := .type "function", data := .func (d.data pm (.ref code) doc) }) (fd := d.data pm (.ref code) doc) ?_
  rw [he]
  refine Calls.evalArgs_plain (h1.run List.nil_prefix hA hI e1 fun rvs s1 ρ1 hp1 I1 hr => ⟨⟨I1.get ho, rfl⟩, ?_⟩)
  exact (hf ρ1 vs rvs hr hn).run (List.prefix_refl _) hA I1 ea fun rv s2 ρ2 hp2 I2 hv => ⟨ρ2, hp1.trans hp2, I2, hv⟩
 ·cases ea
noncomputable abbrev Snd1 (X : Stat) (f : Value) (pf : PV → PM PV) : Prop := ∀ ρ v rv, VRel ρ v rv → SndR X ρ (PySem.call f [rv] []) (pf v) VRel
noncomputable abbrev Snd2 (X : Stat) (f : Value) (pf : PV → PV → PM PV) : Prop := ∀ ρ v rv u ru, VRel ρ v rv → VRel ρ u ru → SndR X ρ (PySem.call f [rv, ru] []) (pf v u) VRel
theorem zq (K : XOK X) {f : Str} {p pos : Pos} {id : String} {e : Expr} {m : PM PV} {pf : PV → PM PV} (hk : X.env.kindOf f = some .globalImplicit) (hv : X.G.mg f = none) (hb : bootBuiltins f = some (.builtin id)) (hn : f ≠ "__name__")
  (hd : (f == ("__debug__" : Str)) = false) (he : starEach [e] X.env = [(false, eval e X.env)]) (h : SndE X [] e m) (hf : Snd1 X (.builtin id) pf) : SndE X [] (.Call (.Name f p) [e] [] pos) (pApp1 m pf) := by
 intro A P s ρ st st' b hρ hA hI e0
 apply byC; intro kz; obtain ⟨v, st1, e1, ea⟩ := PM.bind_some e0; apply kz; clear kz
 refine wpAny_Call_NameR (zCb K hI hk hv hb hn hd ?_)
 rw [he]
 refine callWith_builtin1 ?_
 refine h.run List.nil_prefix hA hI e1 fun rv s1 ρ1 hp1 I1 hr => ?_
 exact (hf ρ1 v rv hr).run (List.prefix_refl _) hA I1 ea fun rv s2 ρ2 hp2 I2 hv => ⟨ρ2, hp1.trans hp2, I2, hv⟩
noncomputable def pLen (v : PV) : PM PV := fun s => match v with
 | .str x => if x.length ≤ zH then some (.int x.length, s) else none
 | .ref i => match s.hp[i]? with
  | some (_, .list xs) => if xs.length ≤ zH then some (.int xs.length, s) else none
  | _ => none
 | _ => none
theorem zGB {n : Nat} (h : n ≤ zH) : (n : Int) < 2 ^ 63 := by
 have : (n : Int) ≤ 1000000 := Int.ofNat_le.mpr h
 lia
theorem b_len : Snd1 X (.builtin "len") pLen := by
 intro ρ v rv hv
 exact .of fun A P s ρ' st st' b Q E hρ hA I e h => by
  cases hv with
  | str x t =>
   refine zAj e fun hx e => ?_
   ·cases e
    exact PySem.P.len_str (by have := zGB hx; lia) (h _ _ ρ' (List.prefix_refl _) (I.tok _) (.int _ _))
  | ref hi =>
   refine zBz e fun f xs g e => ?_
   ·obtain ⟨vs, n, g1, r1⟩ := I.ref_at (zi hρ hi) g
    refine zAj e fun hx e => ?_
    ·cases e
     have hz : vs.toArray.size = xs.length := by rw [List.size_toArray, r1.length]
     refine Calls.call_len_list (items := vs.toArray) ⟨_, g1, rfl, n, rfl⟩ (by rw [hz]; exact zGB hx) ?_
     rw [hz]
     exact h _ _ ρ' (List.prefix_refl _) (I.tok _) (.int _ _)
  | _ => exact zC e
noncomputable def pOrd (v : PV) : PM PV := fun s => match v with
 | .str x => if x.length = 1 then some (.int (x.cps.getD 0 0 : Nat), s) else none
 | _ => none
theorem b_ord : Snd1 X (.builtin "ord") pOrd := by
 intro ρ v rv hv
 exact .of fun A P s ρ' st st' b Q E hρ hA I e h => by
  cases hv with
  | str x t =>
   refine zAj e fun hx e => ?_
   cases e
   exact ord_of_one hx (h _ _ ρ' (List.prefix_refl _) (I.tok _) (.int _ _))
  | _ => exact zC e
noncomputable def pChr (v : PV) : PM PV := fun s => match v with
 | .int i => if 0 ≤ i ∧ i ≤ 1114111 then some (.str ⟨#[i.toNat]⟩, s) else none
 | _ => none
theorem b_chr : Snd1 X (.builtin "chr") pChr := by
 intro ρ v rv hv
 exact .of fun A P s ρ' st st' b Q E hρ hA I e h => by
  cases hv with
  | int x t =>
   refine zAj e fun hx e => ?_
   cases e
   exact chr_of_range hx.1 hx.2 (h _ _ ρ' (List.prefix_refl _) (I.tok _) (.str _ _))
  | _ => exact zC e
end
section
variable {X : Stat}
noncomputable def zAd : List PV → Option (List Int)
 | [] => some []
 | .int i :: xs => (zAd xs).map (i :: ·)
 | _ => none
theorem zEZ {ρ : List Addr} {xs : List PV} {vs : List Value} {ns : List Int} (hr : VRels ρ xs vs) : zAd xs = some ns → IntsAre vs ns := by
 induction hr generalizing ns with
 | nil => intro h; cases h; exact .nil
 | cons a r ih =>
  intro h
  cases a with
  | int i t =>
   obtain ⟨m, h1, rfl⟩ := Option.map_eq_some_iff.mp h
   exact .cons i t (ih h1)
  | _ => exact zC h
theorem zGC {vs : List Value} {ns : List Int} (h : IntsAre vs ns) : ∃ xs : Array (Int × Tok), vs.toArray = intItems xs ∧ xs.toList.map (·.1) = ns := by
 obtain ⟨xs, e⟩ := h.allInts.items
 refine ⟨xs, e, ?_⟩
 rw [← nums_intItems, ← e]
 exact h.numsOf
noncomputable def pSum (v : PV) : PM PV := fun s => match v with
 | .ref i => match s.hp[i]? with
  | some (_, .list xs) => (zAd xs).map fun ns => (.int ns.sum, s)
  | _ => none
 | _ => none
theorem b_sum : Snd1 X (.builtin "sum") pSum := by
 intro ρ v rv hv
 exact .of fun A P s ρ' st st' b Q E hρ hA I e h => by
  cases hv with
  | ref hi =>
   refine zBz e fun f xs g e => ?_
   ·obtain ⟨vs, n, g1, r1⟩ := I.ref_at (zi hρ hi) g
    obtain ⟨ns, hn, e2⟩ := Option.map_eq_some_iff.mp e
    cases e2
    obtain ⟨ys, h1, h2⟩ := zGC (zEZ r1 hn)
    refine sum_intListG (xs := ys) hA.handled ⟨_, g1, rfl, n, by rw [h1]⟩ fun h' tk t' hk => ?_
    rw [preSum_eq, List.take_of_length_le (by simp), h2]
    exact h _ _ ρ' (List.prefix_refl _) (I.grow hk) (.int _ _)
  | _ => exact zC e
noncomputable def minOf : Int → List Int → Int
 | m, [] => m
 | m, x :: xs => minOf (if x < m then x else m) xs
theorem zGD : ∀ (xs : List Int) (m : Int), (minOf m xs ∈ m :: xs) ∧ ∀ y ∈ m :: xs, minOf m xs ≤ y
 | [], m => ⟨.head _, fun y h => by rcases List.mem_cons.mp h with rfl | h; exact Int.le_refl _; cases h⟩
 | x :: xs, m => by
  obtain ⟨h1, h2⟩ := zGD xs (if x < m then x else m)
  unfold minOf
  constructor
  ·rcases List.mem_cons.mp h1 with h | h
   ·rw [h]
    split
    ·exact .tail _ (.head _)
    ·exact .head _
   ·exact .tail _ (.tail _ h)
  ·intro y hy
   have hm := h2 _ (.head _)
   rcases List.mem_cons.mp hy with rfl | hy
   ·split at hm <;> rename_i hx <;> simp only [hx, if_true, if_false] at hm ⊢ <;> omega
   ·rcases List.mem_cons.mp hy with rfl | hy
    ·split at hm <;> rename_i hx <;> simp only [hx, if_true, if_false] at hm ⊢ <;> omega
    ·exact h2 y (.tail _ hy)
noncomputable def pMin (v : PV) : PM PV := fun s => match v with
 | .ref i => match s.hp[i]? with
  | some (_, .list xs) => match zAd xs with
   | some (n :: ns) => some (.int (minOf n ns), s)
   | _ => none
  | _ => none
 | _ => none
theorem b_min : Snd1 X (.builtin "min") pMin := by
 intro ρ v rv hv
 exact .of fun A P s ρ' st st' b Q E hρ hA I e h => by
  cases hv with
  | ref hi =>
   simp only [pMin] at e
   split at e
   ·rename_i f xs g
    obtain ⟨vs, k, g1, r1⟩ := I.ref_at (zi hρ hi) g
    split at e
    ·rename_i n ns hn
     cases e
     obtain ⟨ys, h1, h2⟩ := zGC (zEZ r1 hn)
     have hz : 0 < ys.size := by
      have := congrArg List.length h2
      simp at this
      omega
     refine min_intList (xs := ys) hA.handled ⟨_, g1, rfl, k, by rw [h1]⟩ hz fun v h' tk hv hk => ?_
     obtain ⟨t, rfl⟩ := intItems_at hv
     obtain ⟨q1, q2⟩ := argBest_lt (numAt ys) (ys.size - 1)
     have hlen : ys.size = (n :: ns).length := by rw [← h2]; simp
     obtain ⟨m1, m2⟩ := zGD ns n
     have eq : numAt ys (argBest (fun i j => decide (numAt ys i < numAt ys j)) (ys.size - 1)) = minOf n ns := by
      apply Int.le_antisymm
      ·obtain ⟨j, hj, hje⟩ := List.mem_iff_getElem.mp m1
       have := q2 j (by omega)
       rw [numAt_eq ys j, h2, List.getD_eq_getElem?_getD, List.getElem?_eq_getElem hj] at this
       simpa [hje] using this
      ·apply m2
       rw [numAt_eq, h2, List.getD_eq_getElem?_getD, List.getElem?_eq_getElem (by omega)]
       simp
     rw [eq]
     exact h _ _ ρ' (List.prefix_refl _) (I.grow hk) (.int _ _)
    ·cases e
   ·cases e
  | _ => cases e
theorem zJQ : entryFor table "iter" = some Builtin.«iter» := entryFor_of_fast (by kernel_rfl)
theorem zGE : entryFor table "next" = some Builtin.«next» := entryFor_of_fast (by kernel_rfl)
theorem zJR (a : Value) : argsOk "iter" ⟨[a], []⟩ := by unfold argsOk; kernel_rfl
theorem zGF (a : Value) : argsOk "next" ⟨[a], []⟩ := by unfold argsOk; kernel_rfl
noncomputable def pIter (v : PV) : PM PV := fun s => match v with
 | .ref i => match s.hp[i]? with
  | some (_, .list xs) => zu (.iter i 0) s
  | _ => none
 | _ => none
theorem zJS (K : XOK X) : Snd1 X (.builtin "iter") pIter := by
 intro ρ v rv hv
 exact .of fun A P s ρ' st st' b Q E hρ hA I e h => by
  cases hv with
  | ref hi =>
   simp only [pIter] at e
   split at e
   ·rename_i f xs g
    cases e
    obtain ⟨vs, k, g1, r1⟩ := I.ref_at (zi hρ hi) g
    refine Calls.call_function_entry (by decide +kernel) (by decide +kernel) zJQ (zJR _) ?_
    unfold Builtin.«iter»
    refine wpAny_bind (m := someArgs "iter" 1 2 _) (wpAny_of_eq (a := [Value.ref _]) (by first | rfl | kernel_rfl!) ?_)
    show wpAny _ _ (pyIter (.ref _) >>= _) _ _ _
    refine wpAny_bind (wpAny_pyIter_list (items := vs.toArray) ⟨_, g1, rfl, k, rfl⟩ ?_)
    exact wpAny_pure ⟨_, rfl, h _ _ _ (List.prefix_append ..) (I.alloc (tk := s.toks) K ⟨_, zi (List.prefix_append ..) (zi hρ hi), _, Heap.get?_push_size _ rfl, rfl, rfl⟩) (.ref (I.last _))⟩
   ·cases e
  | _ => cases e
theorem zJT {prog : Program} {w : World} {A : Around} {E : Value → Shared → Prop} {s : Shared} {it l : Addr} {i : Nat} {items : Array Value} {x : Value} {Q : Option Value → Shared → Prop} (hit : s.heap.IsListIter it l i)
  (hl : s.heap.IsList l items) (hx : items[i]? = some x) (hQ : ∀ h', h'.IsListIter it l (i + 1) → Heap.SameBut it s.heap h' → Q (some x) { s with heap := h' }) :
  wpAny (model prog w) A (callSpecial? (.ref it) (Str.ofString "__next__")) Q E s := by
 apply byC; intro kz; obtain ⟨o, ho, hc, hd⟩ := id hit; apply kz; clear kz
 apply byC; intro kz; obtain ⟨ol, hol, _, nl, hdl⟩ := hl; apply kz; clear kz
 refine wpAny_callSpecial?_slot (name := Str.ofString "__next__") hit.typeIs slot_listiter_next
  (wpAny_call_entry slot_listiter_next hit.typeIs entry_listiter_next ?_ (args_listiter_next _))
 show wpAny _ _ (field (.ref it) 0 >>= _) _ _ s
 refine wpAny_bind (wpAny_field ho hd (x := .ref l) rfl ?_)
 show wpAny _ _ (if (Value.ref l == Value.none) = true then _ else _) _ _ s
 rw [if_neg (show ¬ ((Value.ref l == Value.none) = true) from Bool.false_ne_true)]
 show wpAny _ _ (field (.ref it) 1 >>= _) _ _ s
 refine wpAny_bind (wpAny_field ho hd (x := .int i 0) rfl ?_)
 show wpAny _ _ (seqItems? (.ref l) >>= _) _ _ s
 refine wpAny_bind (wpAny_seqItems hol hdl ?_)
 simp only [Int.toNat_natCast, hx]
 refine wpAny_bind (wpAny_setField ho hd (by simp) (wpAny_pure ⟨x, rfl, hQ _ ?_ (Heap.SameBut.update ..)⟩))
 exact ⟨_, Heap.get?_update_self _ ho (Obj.isFreed_of_fields (Obj.data_mapFields hd _)), (Obj.cls_mapFields ..).trans hc, by
  rw [Obj.data_mapFields hd]; simp [rawInt]⟩
noncomputable def pNext (v : PV) : PM PV := fun s => match v with
 | .ref i => match s.hp[i]? with
  | some (false, .iter src pos) => match s.hp[src]? with
   | some (_, .list xs) => (xs[pos]?).map fun x => (x, { s with hp := s.hp.set i (false, .iter src (pos + 1)) })
   | _ => none
  | _ => none
 | _ => none
theorem zGG : Snd1 X (.builtin "next") pNext := by
 intro ρ v rv hv
 exact .of fun A P s ρ' st st' b Q E hρ hA I e h => by
  cases hv with
  | ref hi =>
   simp only [pNext] at e
   split at e
   ·rename_i src pos g
    split at e
    ·rename_i f xs g'
     obtain ⟨x, hx, e2⟩ := Option.map_eq_some_iff.mp e
     cases e2
     obtain ⟨l, hl, hit⟩ := I.ref_at (zi hρ hi) g
     obtain ⟨vs, k, g1, r1⟩ := I.ref_at hl g'
     obtain ⟨r, hr, hrel⟩ := r1.get hx
     refine Calls.call_function_entry (by decide +kernel) (by decide +kernel) zGE (zGF _) ?_
     unfold Builtin.«next»
     refine wpAny_bind (m := someArgs "next" 1 2 _) (wpAny_of_eq (a := [Value.ref _]) (by first | rfl | kernel_rfl!) ?_)
     dsimp only
     refine wpAny_bind (wpAny_specialOf (name := Str.ofString "__next__") hit.typeIs slot_listiter_next.lookup ?_)
     refine wpAny_ite_split (fun hab => absurd hab (by decide)) (fun _ => ?_)
     refine wpAny_bind (zJT hit (items := vs.toArray) ⟨_, g1, rfl, k, rfl⟩ (by simpa using hr) fun h' hit' hs => ?_)
     exact wpAny_pure ⟨_, rfl, h _ _ ρ' (List.prefix_refl _) (I.upd (tk := s.toks) (zi hρ hi) g hs ⟨l, hl, hit'⟩) hrel⟩
    ·cases e
   ·cases e
  | _ => cases e
end
section
variable {X : Stat}
noncomputable def pM0 (mo : PM PV) (f : Str → PM PV) : PM PV := mo.bind fun o => match o with
 | .str x => f x
 | _ => PM.fail
noncomputable def pM1 (mo me : PM PV) (f : Str → PV → PM PV) : PM PV := mo.bind fun o => match o with
 | .str x => me.bind fun v => f x v
 | _ => PM.fail
noncomputable def pM2 (mo me mk : PM PV) (f : Str → PV → PV → PM PV) : PM PV := mo.bind fun o => match o with
 | .str x => me.bind fun v => mk.bind fun u => f x v u
 | _ => PM.fail
noncomputable def pM3 (mo me mk ml : PM PV) (f : Str → PV → PV → PV → PM PV) : PM PV := mo.bind fun o => match o with
 | .str x => me.bind fun v => mk.bind fun u => ml.bind fun t => f x v u t
 | _ => PM.fail
theorem zJU {name : Str} {id : String} {o : Expr} {apos pos : Pos} {mo : PM PV} {f : Str → PM PV} (slot : Slot "str" name id) (ty : typeOf (.builtin id) = Pure.pure (.type "method_descriptor"))
  (hbase : attributeBase o name X.env (eval o X.env) = eval o X.env) (hline : (apos.endLine == pos.line) = true) (ho : SndE X [] o mo)
  (hf : ∀ ρ x t, SndR X ρ (PySem.call (.builtin id) [.str x t] []) (f x) VRel) : SndE X [] (.Call (.Attribute o name apos) [] [] pos) (pM0 mo f) := by
 intro A P s ρ st st' b hρ hA hI e0
 apply byC; intro kz; obtain ⟨ov, st1, e1, ea⟩ := PM.bind_some e0; apply kz; clear kz
 refine Call_method0 hbase hline (ho.run List.nil_prefix hA hI e1 fun ro s1 ρ1 hp1 I1 h1 => ?_)
 cases h1 with
 | str x t =>
  refine ⟨"str", id, F.plainAttrs_str, slot, ty, typeIs_str _ _ _, (fun _ e => nomatch e), ?_⟩
  refine Calls.callWith_builtin rfl (zJO ?_)
  exact (hf ρ1 x t).run (List.prefix_refl _) hA I1 ea fun rv s2 ρ2 hp2 I2 hv => ⟨ρ2, hp1.trans hp2, I2, hv⟩
 | _ => cases ea
theorem zA5 {name : Str} {id : String} {o e : Expr} {apos pos : Pos} {mo me : PM PV} {f : Str → PV → PM PV} (slot : Slot "str" name id) (ty : typeOf (.builtin id) = Pure.pure (.type "method_descriptor"))
  (hbase : attributeBase o name X.env (eval o X.env) = eval o X.env) (hs : starEach [e] X.env = [(false, eval e X.env)]) (hline : (apos.endLine == pos.line) = true) (ho : SndE X [] o mo) (he : SndE X [] e me)
  (hf : ∀ ρ x t v rv, VRel ρ v rv → SndR X ρ (PySem.call (.builtin id) [.str x t, rv] []) (f x v) VRel) : SndE X [] (.Call (.Attribute o name apos) [e] [] pos) (pM1 mo me f) := by
 intro A P s ρ st st' b hρ hA hI e0
 apply byC; intro kz; obtain ⟨ov, st1, e1, ea⟩ := PM.bind_some e0; apply kz; clear kz
 refine Call_method1 hbase hs hline (ho.run List.nil_prefix hA hI e1 fun ro s1 ρ1 hp1 I1 h1 => ?_)
 cases h1 with
 | str x t =>
  apply byC; intro kz; obtain ⟨v, st2, e2, eb⟩ := PM.bind_some ea; apply kz; clear kz
  refine ⟨"str", id, F.plainAttrs_str, slot, ty, typeIs_str _ _ _, (fun _ e => nomatch e), ?_⟩
  refine Calls.callWith_builtin rfl (Calls.evalArgs_plain (Calls.spliced_cons (he.run List.nil_prefix hA I1 e2 fun rv s2 ρ2 hp2 I2 h2 => Calls.spliced_nil ?_)))
  exact (hf ρ2 x t v rv h2).run (List.prefix_refl _) hA I2 eb fun rv s2 ρ3 hp3 I2 hv => ⟨ρ3, hp1.trans (hp2.trans hp3), I2, hv⟩
 | _ => cases ea
theorem zJV {name : Str} {id : String} {o e e' e2 : Expr} {apos pos : Pos} {mo me mk ml : PM PV} {f : Str → PV → PV → PV → PM PV} (slot : Slot "str" name id) (ty : typeOf (.builtin id) = Pure.pure (.type "method_descriptor"))
  (hbase : attributeBase o name X.env (eval o X.env) = eval o X.env) (hs : starEach [e, e', e2] X.env = [(false, eval e X.env), (false, eval e' X.env), (false, eval e2 X.env)]) (hline : (apos.endLine == pos.line) = true)
  (ho : SndE X [] o mo) (he : SndE X [] e me) (hk : SndE X [] e' mk) (hl : SndE X [] e2 ml)
  (hf : ∀ ρ x t v rv u ru r rr, VRel ρ v rv → VRel ρ u ru → VRel ρ r rr → SndR X ρ (PySem.call (.builtin id) [.str x t, rv, ru, rr] []) (f x v u r) VRel) : SndE X [] (.Call (.Attribute o name apos) [e, e', e2] [] pos) (pM3 mo me mk ml f) := by
 intro A P s ρ st st' b hρ hA hI e0
 apply byC; intro kz; obtain ⟨ov, st1, e1, ea⟩ := PM.bind_some e0; apply kz; clear kz
 refine wpAny_Call_method_lateS hbase (by rw [hs]; rfl) hline (ho.run List.nil_prefix hA hI e1 fun ro s1 ρ1 hp1 I1 h1 => ?_)
 rw [hs]
 cases h1 with
 | str x t =>
  apply byC; intro kz; obtain ⟨v, st2, e2', eb⟩ := PM.bind_some ea; apply kz; clear kz
  apply byC; intro kz; obtain ⟨u, st3, e3, ec⟩ := PM.bind_some eb; apply kz; clear kz
  apply byC; intro kz; obtain ⟨r, st4, e4, ed⟩ := PM.bind_some ec; apply kz; clear kz
  refine ⟨"str", id, F.plainAttrs_str, slot, ty, typeIs_str _ _ _, (fun _ e => nomatch e), ?_⟩
  refine Calls.callWith_builtin rfl (Calls.evalArgs_plain (Calls.spliced_cons (he.run List.nil_prefix hA I1 e2' fun rv s2 ρ2 hp2 I2 h2 => Calls.spliced_cons (hk.run List.nil_prefix hA I2 e3 fun ru s3 ρ3 hp3 I3 h3 =>
   Calls.spliced_cons (hl.run List.nil_prefix hA I3 e4 fun rr s4 ρ4 hp4 I4 h4 => Calls.spliced_nil ?_)))))
  exact (hf ρ4 x t v rv u ru r rr (h2.up (hp3.trans hp4)) (h3.up hp4) h4).run (List.prefix_refl _) hA I4 ed fun rv s2 ρ5 hp5 I2 hv => ⟨ρ5, hp1.trans (hp2.trans (hp3.trans (hp4.trans hp5))), I2, hv⟩
 | _ => cases ea
noncomputable def pFind (x : Str) (v : PV) : PM PV := fun s => match v with
 | .str y => some (.int (Txt.find x y), s)
 | _ => none
theorem zGH (ρ x t v rv) (hv : VRel ρ v rv) : SndR X ρ (PySem.call (.builtin "str.find") [.str x t, rv] []) (pFind x v) VRel :=
 .of fun A P s ρ' st st' b Q E hρ hA I e h => by
  cases hv with
  | str y u => cases e; exact SC.find (h _ _ ρ' (List.prefix_refl _) (I.tok _) (.int _ _))
  | _ => cases e
noncomputable def zGI (x : Str) (v : PV) : PM PV := fun s => match v with
 | .str y => some (.bool (Txt.startswith x y), s)
 | _ => none
theorem zJW (ρ x t v rv) (hv : VRel ρ v rv) : SndR X ρ (PySem.call (.builtin "str.startswith") [.str x t, rv] []) (zGI x v) VRel :=
 .of fun A P s ρ' st st' b Q E hρ hA I e h => by
  cases hv with
  | str y u => cases e; exact SC.startswith (h _ _ ρ' (List.prefix_refl _) I (.bool _))
  | _ => cases e
noncomputable def pEnds (x : Str) (v : PV) : PM PV := fun s => match v with
 | .str y => some (.bool (Txt.endswith x y), s)
 | _ => none
theorem zJX (ρ x t v rv) (hv : VRel ρ v rv) : SndR X ρ (PySem.call (.builtin "str.endswith") [.str x t, rv] []) (pEnds x v) VRel :=
 .of fun A P s ρ' st st' b Q E hρ hA I e h => by
  cases hv with
  | str y u => cases e; exact SC.endswith (h _ _ ρ' (List.prefix_refl _) I (.bool _))
  | _ => cases e
noncomputable def find4 (x y : Str) (i j : Int) : Int := match Builtin.Str.occurrences x y (PySem.fromIndex x.length i) (min (PySem.fromIndex x.length j) x.length) 1 with
 | k :: _ => (k : Int)
 | [] => -1
end
section
variable {X : Stat}
theorem zJY (a b c d : Value) : argsOk "str.find" ⟨[a, b, c, d], []⟩ := by unfold argsOk; kernel_rfl
theorem zJZ (x y : Str) (i j : Int) (t u v r : Tok) : Gives (Builtin.«str.find» ⟨[.str x t, .str y u, .int i v, .int j r], []⟩) (.int (find4 x y i j)) := by
 show Gives (match Builtin.Str.occurrences x y (fromIndex x.length i) (min (fromIndex x.length j) x.length) 1 with | k :: _ => retInt k | [] => (do rule "str.find.not-found"; retInt (-1))) _
 unfold find4
 cases Builtin.Str.occurrences x y (fromIndex x.length i) (min (fromIndex x.length j) x.length) 1 with
 | nil => exact .rule (.of_eq rfl)
 | cons k _ => exact .of_eq rfl
noncomputable def zDQ (x : Str) (v a b : PV) : PM PV := fun s => match v, a, b with
 | .str y, .int i, .int j => some (.int (find4 x y i j), s)
 | _, _, _ => none
theorem zJa (ρ x t v rv a ra b rb) (hv : VRel ρ v rv) (ha : VRel ρ a ra) (hb : VRel ρ b rb) : SndR X ρ (PySem.call (.builtin "str.find") [.str x t, rv, ra, rb] []) (zDQ x v a b) VRel :=
 .of fun A P s ρ' st st' r Q E hρ hA I e h => by
  cases hv with
  | str y u =>
   cases ha with
   | int i u1 =>
    cases hb with
    | int j u2 =>
     cases e
     exact call_gives F.slot_str_find (typeIs_str _ _ _) F.entry_str_find (zJY _ _ _ _) (zJZ x y i j t u u1 u2) (h _ _ ρ' (List.prefix_refl _) (I.tok _) (.int _ _))
    | _ => cases e
   | _ => cases e
  | _ => cases e
noncomputable def zDR (x : Str) : PM PV := fun s => if (Txt.lower x).length ≤ zH then some (.str (Txt.lower x), s) else none
theorem zGJ {n : Nat} (h : n ≤ zH) : Builtin.Str.tooLong n = false := by
 unfold Builtin.Str.tooLong
 exact decide_eq_false (Nat.not_lt.mpr (zAG h))
theorem zJb (ρ x t) : SndR X ρ (PySem.call (.builtin "str.lower") [.str x t] []) (zDR x) VRel :=
 .of fun A P s ρ' st st' r Q E hρ hA I e h => by
  refine zAj e fun hx e => ?_
  cases e
  exact SC.lower (zGJ hx) (h _ _ ρ' (List.prefix_refl _) (I.tok _) (.str _ _))
theorem zGK {ρ : List Addr} : ∀ (l : List (Str × Tok)), VRels ρ (l.map fun p => .str p.1) (strValues l)
 | [] => .nil
 | p :: l => .cons (.str _ _) (zGK l)
noncomputable def zDS (x : Str) (v : PV) : PM PV := fun s => match v with
 | .str y => if x.length ≤ zH ∧ (Builtin.Str.partsBetween x (Builtin.Str.occurrences x y 0 x.length (x.length + 1)) y.length).length ≤ zH ∧ y.length ≠ 0 then zu (.list ((Txt.split x y).map .str)) s else none
 | _ => none
open Builtin.Str in
theorem zJc (K : XOK X) (ρ x t v rv) (hv : VRel ρ v rv) : SndR X ρ (PySem.call (.builtin "str.split") [.str x t, rv] []) (zDS x v) VRel :=
 .of fun A P s ρ' st st' b Q E hρ hA I e h => by
  cases hv with
  | str y u =>
   refine zAj e fun hc e => ?_
   ·cases e
    have hy : (y.length == 0) = false := by simpa using hc.2.2
    have fin : ∀ (l : List (Str × Tok)) tk, l.map (·.1) = Txt.split x y → Q (.ref s.heap.objs.size) { s with toks := tk, heap := s.heap.push { cls := .type "list", data := .seq (strValues l).toArray } } := fun l tk hl => by
     refine h _ _ _ (List.prefix_append ..) (I.alloc (tk := tk) K ⟨strValues l, 0, Heap.get?_push_size _ rfl, ?_⟩) (.ref (I.last _))
     rw [← hl, List.map_map]
     exact zGK l
    cases h1 : (decide (x.length < y.length) || decide (Builtin.Str.strKind x < Builtin.Str.strKind y))
    ·cases hf : (occurrences x y 0 x.length (x.length + 1)).isEmpty
     ·refine call_meets F.slot_str_split (typeIs_str _ _ _) F.entry_str_split (F.args_str_split_2 _ _) (meets_str_split_sep x y t u h1 hy hf (zAG hc.1) (zAG hc.2.1)) ?_
      show wants Q E _ { s with toks := _, heap := s.heap.push { cls := .type "list", data := .seq (strsFrom s.toks (partsBetween x (occurrences x y 0 x.length (x.length + 1)) y.length)).toArray } }
      rw [strsFrom_eq]
      refine fin (numbered s.toks _) _ ((numbered_texts _ _).trans ?_)
      unfold Txt.split
      rw [if_neg (by rw [h1]; decide), if_neg (by rw [hf]; decide)]
     ·refine call_meets F.slot_str_split (typeIs_str _ _ _) F.entry_str_split (F.args_str_split_2 _ _) (meets_str_split_not_found x y t u h1 hy hf) (fin [(x, t)] s.toks ?_)
      unfold Txt.split
      rw [if_neg (by rw [h1]; decide), if_pos hf]
      rfl
    ·refine call_meets F.slot_str_split (typeIs_str _ _ _) F.entry_str_split (F.args_str_split_2 _ _) (meets_str_split_cannot_occur x y t u h1) (fin [(x, t)] s.toks ?_)
     unfold Txt.split
     rw [if_pos h1]
     rfl
  | _ => exact zC e
noncomputable def zB4 : List PV → Option (List Str)
 | [] => some []
 | .str x :: xs => (zB4 xs).map (x :: ·)
 | _ => none
theorem zJd {ρ : List Addr} {xs : List PV} {vs : List Value} {ss : List Str} (hr : VRels ρ xs vs) : zB4 xs = some ss → ∃ l : List (Str × Tok), vs = strValues l ∧ l.map (·.1) = ss := by
 induction hr generalizing ss with
 | nil => intro h; cases h; exact ⟨[], rfl, rfl⟩
 | cons a r ih =>
  intro h
  cases a with
  | str x t =>
   obtain ⟨m, h1, rfl⟩ := Option.map_eq_some_iff.mp h
   obtain ⟨l, rfl, h2⟩ := ih h1
   exact ⟨(x, t) :: l, rfl, by rw [List.map_cons, h2]⟩
  | _ => exact zC h
noncomputable def pJoin (x : Str) (v : PV) : PM PV := fun s => match v with
 | .ref i => match s.hp[i]? with
  | some (_, .list xs) => match zB4 xs with
   | some ss => if JoinOk x ss = true then some (.str (Txt.join x ss), s) else none
   | none => none
  | _ => none
 | _ => none
theorem zCc (ρ x t v rv) (hv : VRel ρ v rv) : SndR X ρ (PySem.call (.builtin "str.join") [.str x t, rv] []) (pJoin x v) VRel :=
 .of fun A P s ρ' st st' b Q E hρ hA I e h => by
  cases hv with
  | ref hi =>
   refine zBz e fun f xs g e => ?_
   obtain ⟨vs, k, g1, r1⟩ := I.ref_at (zi hρ hi) g
   cases hss : zB4 xs with
   | none => rw [hss] at e; exact zC e
   | some ss =>
    rw [hss] at e
    refine zAj e fun hok e => ?_
    cases e
    obtain ⟨l, rfl, hl⟩ := zJd r1 hss
    exact SC.join (l := l) (texts := ss) ⟨_, g1, rfl, k, rfl⟩ hl hok fun t' k' => h _ _ ρ' (List.prefix_refl _) (I.tok _) (.str _ _)
  | _ => exact zC e
noncomputable def zg (mo me : PM PV) : PM PV := mo.bind fun o s => match o with
 | .ref i => match s.hp[i]? with
  | some (_, .list _) => (me.bind fun v s2 => match s2.hp[i]? with
   | some (false, .list xs) => if xs.length ≤ zH then some (.none, { s2 with hp := s2.hp.set i (false, .list (xs ++ [v])) }) else none
   | _ => none) s
  | _ => none
 | _ => none
theorem zA6 {o e : Expr} {apos pos : Pos} {mo me : PM PV}
  (hbase : attributeBase o "append" X.env (eval o X.env) = eval o X.env) (hs : starEach [e] X.env = [(false, eval e X.env)]) (hline : (apos.endLine == pos.line) = true) (ho : SndE X [] o mo) (he : SndE X [] e me) :
  SndE X [] (.Call (.Attribute o "append" apos) [e] [] pos) (zg mo me) := by
 intro A P s ρ st st' b hρ hA hI e0
 apply byC; intro kz; obtain ⟨ov, st1, e1, ea⟩ := PM.bind_some e0; apply kz; clear kz
 refine Call_method1 hbase hs hline (ho.run List.nil_prefix hA hI e1 fun ro s1 ρ1 hp1 I1 h1 => ?_)
 cases h1 with
 | ref hi =>
  refine zBz ea fun f xs0 g0 ea => ?_
  ·apply byC; intro kz; obtain ⟨vs0, k0, q0, r0⟩ := I1.ref_at hi g0; apply kz; clear kz
   apply byC; intro kz; obtain ⟨v, st2, e2, eb⟩ := PM.bind_some ea; apply kz; clear kz
   refine ⟨"list", "list.append", F.plainAttrs_list, slot_list_append, type_list_append, ⟨_, q0, rfl⟩, (fun a e => by cases e; exact ⟨_, q0, rfl⟩), ?_⟩
   refine Calls.callWith_builtin rfl (Calls.evalArgs_plain (Calls.spliced_cons (he.run List.nil_prefix hA I1 e2 fun rv s2 ρ2 hp2 I2 h2 => Calls.spliced_nil ?_)))
   refine zF4 eb fun xs g eb => ?_
   ·refine zAj eb fun hx eb => ?_
    ·cases eb
     apply byC; intro kz; obtain ⟨vs, k, g1, r1⟩ := I2.ref_at (zi hp2 hi) g; apply kz; clear kz
     refine wpAny_list_append_plain ⟨k, g1⟩ (fun h' hg hs' => ?_) (by rw [List.size_toArray, r1.length]; exact zAG hx)
     apply byC; intro kz; obtain ⟨n', hg⟩ := hg; apply kz; clear kz
     refine ⟨ρ2, hp1.trans hp2, I2.upd (tk := s2.toks) (zi hp2 hi) g hs' ⟨vs ++ [rv], n', ?_, r1.append (.cons h2 .nil)⟩, .none⟩
     rw [hg]
     simp
 | _ => exact zC ea
noncomputable def GDict (G : Ctx) (x : Str) (prs : List (Int × Str)) : Prop := ∃ a kvs, G.mg x = some (.ref a) ∧ (a == sysModules) = false ∧ zo kvs prs ∧ G.h₀.DictOf (PySem.intKind G.prog G.w) a kvs
noncomputable def GSet (G : Ctx) (x : Str) (ns : List Int) : Prop := ∃ a S n, G.mg x = some (.ref a) ∧ G.h₀.SetOf (PySem.intKind G.prog G.w) a S n ∧ ∀ k, S k = ns.any (· == k)
noncomputable def zBQ (prs : List (Int × Str)) (k : Int) : PV := match prs.find? fun p => p.1 == k with
 | some p => .str p.2
 | none => .none
theorem zJe {ρ : List Addr} {k : Int} {kvs : List (Int × Value)} {prs : List (Int × Str)} (hl : zo kvs prs) : VRel ρ (zBQ prs k) (((kvs.find? fun p => p.1 == k).map (·.2)).getD .none) := by
 induction hl with
 | nil => exact .none
 | @cons k' x t _ _ h ih =>
  unfold zBQ
  rw [List.find?_cons, List.find?_cons]
  dsimp only
  cases hb : k' == k with
  | true => exact .str x t
  | false => exact ih
noncomputable def pTab (prs : List (Int × Str)) (m : PM PV) : PM PV := m.bind fun v s => match v with
 | .int k => some (zBQ prs k, s)
 | _ => none
theorem zJf (K : XOK X) {f : Str} {e : Expr} {p apos pos : Pos} {m : PM PV} {prs : List (Int × Str)} (hk : X.env.kindOf f = some .globalImplicit) (hv : GDict X.G f prs) (hd : (f == ("__debug__" : Str)) = false)
  (hbase : attributeBase (.Name f p) "get" X.env (eval (.Name f p) X.env) = eval (.Name f p) X.env) (hs : starEach [e] X.env = [(false, eval e X.env)]) (hline : (apos.endLine == pos.line) = true) (he : SndE X [] e m) :
  SndE X [] (.Call (.Attribute (.Name f p) "get" apos) [e] [] pos) (pTab prs m) := by
 intro A P s ρ st st' b hρ hA hI e0
 apply byC; intro kz; obtain ⟨v, st1, e1, ea⟩ := PM.bind_some e0; apply kz; clear kz
 apply byC; intro kz; obtain ⟨a, kvs, hmg, hsys, hl, hD⟩ := hv; apply kz; clear kz
 refine Call_method1 hbase hs hline (zB3 K hI hk hmg hd ?_)
 have hDs : s.heap.DictOf (PySem.intKind X.G.prog X.G.w) a kvs := hD.at fun o e => hI.get e
 refine ⟨"dict", "dict.get", F.plainAttrs_dict, F.slot_dict_get, F.type_dict_get, hDs.mapOf.typeIs, hDs.mapOf.noDict, ?_⟩
 refine wpAny_dict_get1 (knd := PySem.intKind X.G.prog X.G.w) hsys (he.run List.nil_prefix hA hI e1 fun rv s1 ρ1 hp1 I1 h1 => ?_)
 cases h1 with
 | int k t =>
  cases ea
  have hDs1 : s1.heap.DictOf (PySem.intKind X.G.prog X.G.w) a kvs := hD.at fun o e => I1.get e
  exact ⟨k, _, show Value.isInt k (.int k t) = true by simp [Value.isInt], hDs1.mapOf, ρ1, hp1, I1.tok _, zJe hl⟩
 | _ => cases ea
noncomputable def zEa (ns : List Int) (m : PM PV) : PM PV := m.bind fun v s => match v with
 | .int k => some (.bool (ns.any (· == k)), s)
 | _ => none
theorem zJg (K : XOK X) {f : Str} {e : Expr} {p pos : Pos} {m : PM PV} {ns : List Int} (hk : X.env.kindOf f = some .globalImplicit) (hv : GSet X.G f ns) (hd : (f == ("__debug__" : Str)) = false) (he : SndE X [] e m) :
  SndE X [] (.Compare e [.In] [.Name f p] pos) (zEa ns m) := by
 intro A P s ρ st st' b hρ hA hI e0
 apply byC; intro kz; obtain ⟨v, st1, e1, ea⟩ := PM.bind_some e0; apply kz; clear kz
 apply byC; intro kz; obtain ⟨a, S, n, hmg, hS, hq⟩ := hv; apply kz; clear kz
 refine wpAny_Compare1 (he.run List.nil_prefix hA hI e1 fun rv s1 ρ1 hp1 I1 h1 => zB3 K I1 hk hmg hd ?_) rfl
 cases h1 with
 | int k t =>
  cases ea
  have hS1 : s1.heap.SetOf (PySem.intKind X.G.prog X.G.w) a S n := by
   apply byC; intro kz; obtain ⟨o, es, ep, t, ho, r⟩ := hS; apply kz; clear kz
   exact ⟨o, es, ep, t, I1.get ho, r⟩
  refine wpAny_inSet_of (k := k) (show Value.isInt k (.int k t) = true by simp [Value.isInt]) rfl hS1 ?_
  rw [hq]
  exact ⟨ρ1, hp1, I1.tok _, .bool _⟩
 | _ => cases ea
end
noncomputable def Prot.hold (P : Prot) (fp outs : List Addr) (h : Heap) : Prot where
 B := fun a => @ite _ (a ∈ fp) (Classical.propDecidable _) (h.get? a) (P.B a)
 out := fun a => P.out a ∨ a ∈ outs
 gB := P.gB
 os := P.os
noncomputable def WrOK (X : Stat) (P : Prot) (ρ : List Addr) (wr : List Addr) : Prop := ∀ b ∈ wr, b ∉ ρ ∧ P.B b = none ∧ X.env.locals ≠ b ∧ (∀ x c, X.env.cells.lookup x = some c → c ≠ b)
noncomputable def FpOK (ρ : List Addr) (st : PSt) (fp wr : List Addr) : Prop := ∀ b ∈ fp, b ∈ wr ∨ ∃ (i : Nat) (c : Bool × PO), ρ[i]? = some b ∧ st.hp[i]? = some c ∧ c.1 = true
section
variable {X : Stat} {P : Prot} {ρ ρ' : List Addr} {st st' : PSt} {s s' : Shared} {fp wr : List Addr}
theorem zr {a : Addr} {h : Heap} (q : a ∈ fp) : (P.hold fp wr h).B a = h.get? a := by
 unfold Prot.hold
 dsimp only
 rw [if_pos q]
theorem zBf {a : Addr} {h : Heap} (q : a ∉ fp) : (P.hold fp wr h).B a = P.B a := by
 unfold Prot.hold
 dsimp only
 rw [if_neg q]
theorem Inv.hold2 (K : XOK X) (I : Inv X P ρ st s) (hsub : ∀ b ∈ wr, b ∈ fp) (hw : WrOK X P ρ wr) (hf : FpOK ρ st fp wr) (hth : ∀ b ∈ wr, ∃ z ∈ fp, b ≤ z ∧ s.heap.get? z ≠ none) : Inv X (P.hold fp wr s.heap) ρ st s := by
 have hloc : X.env.locals ∉ fp := fun h => by
  rcases hf _ h with h | ⟨i, c, h, _⟩
  ·exact (hw _ h).2.2.1 rfl
  ·exact I.fr.locNot (List.mem_of_getElem? h)
 have hcell : ∀ x c, X.env.cells.lookup x = some c → c ∉ fp := fun x c hc h => by
  rcases hf _ h with h | ⟨i, c', h, _⟩
  ·exact (hw _ h).2.2.2 x c hc rfl
  ·exact (I.cell_lt K hc).2.1 (List.mem_of_getElem? h)
 refine ⟨fun a o e => ?_, fun a o e => ?_, fun a ha => ?_, I.nd, I.len, I.objs, fun i a c h1 h2 h3 => ?_, I.bare, I.gheld, I.os, ?_⟩
 ·by_cases h : a ∈ fp
  ·rwa [zr h] at e
  ·rw [zBf h] at e
   exact I.held a o e
 ·by_cases h : a ∈ fp
  ·rw [zr h]
   exact I.get e
  ·rw [zBf h]
   exact I.old a o e
 ·rcases ha with ha | ha
  ·apply byC; intro kz; obtain ⟨⟨z, hz, h1⟩, h2⟩ := I.outs a ha; apply kz; clear kz
   refine ⟨⟨z, hz, ?_⟩, h2⟩
   by_cases h : z ∈ fp
   ·rw [zr h]
    cases e : P.B z with
    | none => exact absurd e h1
    | some o => rw [I.held z o e]; simp
   ·rw [zBf h]
    exact h1
  ·apply byC; intro kz; obtain ⟨z, hz, hle, hne⟩ := hth a ha; apply kz; clear kz
   exact ⟨⟨z, hle, by rw [zr hz]; exact hne⟩, (hw a ha).1⟩
 ·by_cases h : a ∈ fp
  ·rcases hf a h with h | ⟨j, c', h4, h5, h6⟩
   ·exact absurd (List.mem_of_getElem? h1) (hw a h).1
   ·have := zCX I.nd h1 h4
    subst this
    rw [h2] at h5
    cases h5
    exact h6
  ·rw [zBf h] at h3
   exact I.fz i a c h1 h2 h3
 ·refine ⟨by rw [zBf hloc]; exact I.fr.locOut, I.fr.locNot, I.fr.loc, fun i x h1 h2 => ?_, I.fr.len⟩
  apply byC; intro kz; obtain ⟨c, ov, h3, h4, h5, h6, h7, h8⟩ := I.fr.cell i x h1 h2; apply kz; clear kz
  exact ⟨c, ov, h3, h4, h5, fun h => by rw [zBf (hcell x c h3)]; exact h6 h, h7, h8⟩
theorem Inv.hold (K : XOK X) (I : Inv X P ρ st s) (hsub : ∀ b ∈ wr, b ∈ fp) (hw : WrOK X P ρ wr) (hf : FpOK ρ st fp wr) (hth : ∀ b ∈ wr, s.heap.get? b ≠ none) : Inv X (P.hold fp wr s.heap) ρ st s :=
 I.hold2 K hsub hw hf fun b hb => ⟨b, hsub b hb, Nat.le_refl _, hth b hb⟩
theorem Inv.unhold (I : Inv X P ρ st s) (J : Inv X (P.hold fp wr s.heap) ρ' st' s') : Inv X P ρ' st' s' := by
 have up : ∀ a o, P.B a = some o → (P.hold fp wr s.heap).B a = some o := fun a o e => by
  by_cases h : a ∈ fp
  ·rw [zr h]
   exact I.held a o e
  ·rw [zBf h]
   exact e
 have upn : ∀ a, P.B a ≠ none → (P.hold fp wr s.heap).B a ≠ none := fun a h => by
  cases e : P.B a with
  | none => exact absurd e h
  | some o => rw [up a o e]; simp
 refine ⟨fun a o e => J.held a o (up a o e), I.old, fun a ha => ⟨(I.outs a ha).1, (J.outs a (.inl ha)).2⟩, J.nd, J.len, J.objs, fun i a c h1 h2 h3 => J.fz i a c h1 h2 (upn a h3), J.bare, J.gheld, J.os, ?_⟩
 refine ⟨I.fr.locOut, J.fr.locNot, J.fr.loc, fun i x h1 h2 => ?_, J.fr.len⟩
 apply byC; intro kz; obtain ⟨c, ov, h3, h4, h5, h6, h7, h8⟩ := J.fr.cell i x h1 h2; apply kz; clear kz
 apply byC; intro kz; obtain ⟨c', ov', g3, g4, g5, g6, g7, g8⟩ := I.fr.cell i x h1 h2; apply kz; clear kz
 rw [h3] at g3
 cases g3
 exact ⟨c, ov, h3, h4, h5, g6, h7, h8⟩
end
noncomputable def pFor (set : PV → PM Unit) (b : PM PF) : List PV → PM PF
 | [] => PM.ret .next
 | x :: xs => (set x).bind fun _ => b.bind fun f => match f with
  | .next => pFor set b xs
  | .cont => pFor set b xs
  | .brk => PM.ret .next
  | .ret v => PM.ret (.ret v)
noncomputable def SndI (X : Stat) (e : Expr) (mi : PM (List PV × List Nat)) : Prop :=
 ∀ (A : Around) (P : Prot) (s : Shared) (ρ : List Addr) (st st' : PSt) (xs : List PV) (fz : List Nat) (Q : Value → Shared → Prop) (E : Value → Shared → Prop), AOK X.d A → Inv X P ρ st s → mi st = some ((xs, fz), st') →
  (∀ I s' ρ' fp wr Pp St, ρ <+: ρ' → Inv X P ρ' st' s' → Walks X.G.prog X.G.w A I fp wr xs.length Pp St → St 0 s'.heap → WrOK X P ρ' wr → (∀ j h, St j h → ∀ b ∈ wr, h.get? b ≠ none) → (∀ b ∈ fp, b ∈ wr ∨ ∃ i ∈ fz, ρ'[i]? = some b) →
   (∀ i v, i < xs.length → Pp i v → ∃ x, xs[i]? = some x ∧ VRel ρ' x v) → Q (.ref I) s') →
  wpAny (model X.G.prog X.G.w) A (eval e X.env) (fun x s₁ => wpAny (model X.G.prog X.G.w) A (pyIter x) Q E s₁) E s
noncomputable def fzAt (is : List Nat) (hp : List (Bool × PO)) : List (Bool × PO) := is.foldl (fun h i => h.modify i fun c => (true, c.2)) hp
noncomputable def restore : List (Bool × PO) → List (Bool × PO) → List (Bool × PO)
 | (b, _) :: o, (_, p) :: n => (b, p) :: restore o n
 | _, n => n
noncomputable def pForE (mi : PM (List PV × List Nat)) (set : PV → PM Unit) (b : PM PF) : PM PF := mi.bind fun p s => match pFor set b p.1 { s with hp := fzAt p.2 s.hp } with
 | some (f, s') => some (f, { s' with hp := restore s.hp s'.hp })
 | none => none
section
variable {X : Stat} {P : Prot} {ρ ρ' : List Addr} {st st' : PSt} {s s' : Shared}
theorem zB5 : ∀ (is : List Nat) (hp : List (Bool × PO)) (j : Nat), (fzAt is hp)[j]? = (hp[j]?).map fun c => (c.1 || is.contains j, c.2)
 | [], hp, j => by simp [fzAt]
 | i :: is, hp, j => by
  show (fzAt is (hp.modify i fun c => (true, c.2)))[j]? = _
  rw [zB5 is _ j, List.getElem?_modify]
  cases hp[j]? with
  | none => by_cases h : i = j <;> simp [h]
  | some c =>
   by_cases h : i = j
   ·subst h; simp
   ·have h' : ¬ j = i := fun q => h q.symm
    simp [h, h']
theorem zJh (is : List Nat) : ∀ (hp : List (Bool × PO)), (fzAt is hp).length = hp.length := by
 induction is with
 | nil => intro hp; rfl
 | cons i is ih =>
  intro hp
  show (fzAt is (hp.modify i _)).length = _
  rw [ih, List.length_modify]
theorem Inv.fzAt (I : Inv X P ρ st s) (is : List Nat) : Inv X P ρ { st with hp := Mine.fzAt is st.hp } s := by
 refine ⟨I.held, I.old, I.outs, I.nd, by show _ = (Mine.fzAt is st.hp).length; rw [zJh]; exact I.len, fun i a c h1 h2 => ?_, fun i a c h1 h2 h3 => ?_, I.bare, I.gheld, I.os, I.fr⟩
 ·have h2 : (Mine.fzAt is st.hp)[i]? = some c := h2
  rw [zB5] at h2
  obtain ⟨c', h4, rfl⟩ := Option.map_eq_some_iff.mp h2
  exact I.objs i a c' h1 h4
 ·have h2 : (Mine.fzAt is st.hp)[i]? = some c := h2
  rw [zB5] at h2
  obtain ⟨c', h4, rfl⟩ := Option.map_eq_some_iff.mp h2
  rw [I.fz i a c' h1 h4 h3]
  rfl
theorem zB6 : ∀ (o n : List (Bool × PO)) (j : Nat), (restore o n)[j]? = (n[j]?).map fun c => match o[j]? with | some d => (d.1, c.2) | none => c
 | [], n, j => by
  show n[j]? = _
  rw [show (fun c : Bool × PO => (match ([] : List (Bool × PO))[j]? with | some d => (d.1, c.2) | none => c)) = id from rfl, Option.map_id]
  rfl
 | (b, q) :: o, [], j => rfl
 | (b, q) :: o, (b', p) :: n, 0 => rfl
 | (b, q) :: o, (b', p) :: n, j + 1 => by
  exact zB6 o n j
theorem zCd : ∀ (o n : List (Bool × PO)), (restore o n).length = n.length
 | [], n => rfl
 | (b, q) :: o, [] => rfl
 | (b, q) :: o, (b', p) :: n => congrArg (· + 1) (zCd o n)
theorem Inv.restore (I : Inv X P ρ st s) (J : Inv X P ρ' st' s') (hp : ρ <+: ρ') : Inv X P ρ' { st' with hp := Mine.restore st.hp st'.hp } s' := by
 refine ⟨J.held, J.old, J.outs, J.nd, by show _ = (Mine.restore st.hp st'.hp).length; rw [zCd]; exact J.len, fun i a c h1 h2 => ?_, fun i a c h1 h2 h3 => ?_, J.bare, J.gheld, J.os, J.fr⟩
 ·have h2 : (Mine.restore st.hp st'.hp)[i]? = some c := h2
  rw [zB6] at h2
  obtain ⟨c', h4, rfl⟩ := Option.map_eq_some_iff.mp h2
  have := J.objs i a c' h1 h4
  cases st.hp[i]? with
  | none => exact this
  | some d => exact this
 ·have h2 : (Mine.restore st.hp st'.hp)[i]? = some c := h2
  rw [zB6] at h2
  obtain ⟨c', h4, rfl⟩ := Option.map_eq_some_iff.mp h2
  cases h5 : st.hp[i]? with
  | none => exact J.fz i a c' h1 h4 h3
  | some d =>
   have hlt : i < ρ.length := by rw [I.len]; exact (List.getElem?_eq_some_iff.mp h5).1
   have h6 := zi hp (List.getElem?_eq_getElem hlt)
   rw [h1] at h6
   cases h6
   exact I.fz i _ d (List.getElem?_eq_getElem hlt) h5 h3
theorem zDT {α : Type} {xs : List α} {j : Nat} (h : j < xs.length) : xs.drop j = xs[j] :: xs.drop (j + 1) := List.drop_eq_getElem_cons h
inductive LInv (X : Stat) (P : Prot) (ρ : List Addr) (len : Nat) (St : Nat → Heap → Prop) (fp wr : List Addr) (tk : Nat) (G : Nat → PSt → Prop) (k : Nat) (s1 : Shared) : Prop
 | mk (j : Nat) (ρ1 : List Addr) (st1 : PSt) (hk : k + j = len + 1) (hj : j ≤ len) (hp : ρ <+: ρ1) (I : Inv X P ρ1 st1 s1) (hT : tk ≤ s1.toks) (hs : St j s1.heap) (hw : WrOK X P ρ1 wr) (hf : FpOK ρ1 st1 fp wr) (g : G j st1) : LInv X P ρ len St fp wr tk G k s1
theorem zJi (K : XOK X) {A : Around} (hA : AOK X.d A) {target iter : Expr} {body : List Stmt} {I : Addr} {fp wr : List Addr} {xs : List PV} {Pp : Nat → Value → Prop} {St : Nat → Heap → Prop} {set : PV → PM Unit} {mb : PM PF} {f : PF} {R : Result → Shared → Prop}
  (W : Walks X.G.prog X.G.w A I fp wr xs.length Pp St) (hI : Inv X P ρ st s) (hst : St 0 s.heap) (hal : ∀ j h, St j h → ∀ b ∈ wr, h.get? b ≠ none) (hw : WrOK X P ρ wr) (hf : FpOK ρ st fp wr) (hx : ∀ i v, i < xs.length → Pp i v → ∃ x, xs[i]? = some x ∧ VRel ρ x v)
  (htu : ∀ v, letOwnedTupleGo target (.ref I) v = Pure.pure ()) (hset : ∀ ρ x v, VRel ρ x v → SndU X ρ (assign target X.env v) (set x)) (hb : SndB X [] body mb) (e : pFor set mb xs st = some (f, st'))
  (hR : ∀ f' s' ρ', ρ <+: ρ' → Inv X P ρ' st' s' → FRel ρ' f f' → R (.ok f') s') : codeAny (model X.G.prog X.G.w) A (.forLoop target (.ref I) body [] X.env) R s := by
 refine codeAny_forLoop (LInv X P ρ xs.length St fp wr 0 fun j st1 => pFor set mb (xs.drop j) st1 = some (f, st')) ?_
  (xs.length + 1) ⟨0, ρ, st, rfl, Nat.zero_le _, List.prefix_refl _, hI, Nat.zero_le _, hst, hw, hf, e⟩ htu
 rintro k s1 ⟨j, ρ1, st1, hk, hjl, hp1, I1, _, hst1, hw1, hf1, e1⟩
 by_cases hj : j < xs.length
 ·rw [zDT hj] at e1
  apply byC; intro kz; obtain ⟨_, st2, e2, e3⟩ := PM.bind_some e1; apply kz; clear kz
  apply byC; intro kz; obtain ⟨g, st3, e4, e5⟩ := PM.bind_some e3; apply kz; clear kz
  refine W.item j s1 _ _ hj hst1 fun v h' tk hv hst2 hkeep => ?_
  apply byC; intro kz; obtain ⟨x, hxj, hvx⟩ := hx j v hj hv; apply kz; clear kz
  rw [List.getElem?_eq_getElem hj] at hxj
  cases hxj
  have I2 : Inv X P ρ1 st1 { s1 with heap := h', toks := tk } := I1.wr wr hkeep (fun a h => (hw1 a h).2.1) (fun a h => (hw1 a h).1) (fun h => (hw1 _ h).2.2.1 rfl) (fun x c hc h => (hw1 _ h).2.2.2 x c hc rfl)
  have J2 := I2.hold K W.sub hw1 hf1 (hal _ _ hst2)
  refine (hset ρ1 _ v (hvx.up hp1)).run (List.prefix_refl _) hA J2 e2 fun _ s3 ρ3 hp3 J3 _ => ?_
  refine hb.run List.nil_prefix hA J3 e4 fun g' s4 ρ4 hp4 J4 hg => ?_
  have I4 := I2.unhold J4
  have hw4 : WrOK X P ρ4 wr := fun b hb => ⟨(J4.outs b (.inr hb)).2, (hw1 b hb).2⟩
  have hf4 : FpOK ρ4 st3 fp wr := fun b hb => by
   rcases hf1 b hb with h | ⟨i, c, h1, h2, h3⟩
   ·exact .inl h
   ·refine .inr ⟨i, ?_⟩
    have h4 := zi (hp3.trans hp4) h1
    have hlt : i < st3.hp.length := by rw [← J4.len]; exact (List.getElem?_eq_some_iff.mp h4).1
    refine ⟨st3.hp[i], h4, List.getElem?_eq_getElem hlt, J4.fz i b _ h4 (List.getElem?_eq_getElem hlt) ?_⟩
    rw [zr hb]
    apply byC; intro kz; obtain ⟨ob, ho⟩ := (I2.objs i b c h1 h2).there; apply kz; clear kz
    intro q
    have ho : h'.get? b = some ob := ho
    rw [q] at ho
    cases ho
  have hst4 : St (j + 1) s4.heap := W.frame _ _ _ hst2 fun b hb o e => J4.held b o (by rw [zr hb]; exact e)
  have hpp : ρ <+: ρ4 := hp1.trans (hp3.trans hp4)
  cases hg with
  | next => exact ⟨k - 1, by omega, j + 1, ρ4, st3, by omega, hj, hpp, I4, Nat.zero_le _, hst4, hw4, hf4, e5⟩
  | cont => exact ⟨k - 1, by omega, j + 1, ρ4, st3, by omega, hj, hpp, I4, Nat.zero_le _, hst4, hw4, hf4, e5⟩
  | brk => cases e5; exact hR _ _ ρ4 hpp I4 .next
  | ret hv => cases e5; exact hR _ _ ρ4 hpp I4 (.ret hv)
 ·have hje : j = xs.length := by omega
  subst hje
  rw [List.drop_length] at e1
  cases e1
  refine W.done s1 _ _ hst1 fun h' tk hkeep => ?_
  refine wpAny_execs_nil (hR _ _ ρ1 hp1 ?_ .next)
  exact I1.wr wr hkeep (fun a h => (hw1 a h).2.1) (fun a h => (hw1 a h).1) (fun h => (hw1 _ h).2.2.1 rfl) (fun x c hc h => (hw1 _ h).2.2.2 x c hc rfl)
end
section
variable {X : Stat} {P : Prot} {ρ ρ' : List Addr} {st st' : PSt} {s s' : Shared}
theorem zBR (K : XOK X) (i : Nat) {x : Str} {p1 : Pos} (hx : X.ns[i]? = some x) (ho : X.env.kindOf x = some .cell → X.own = true) : ∀ ρ v rv, VRel ρ v rv → SndU X ρ (assign (.Name x p1) X.env rv) (pSet i v) := by
 intro ρ v rv hv
 show SndR _ _ (assign (.Name x p1) X.env rv) _ _
 rw [PySem.assign_Name]
 exact SndR.at (zEF K i hx ho hv)
theorem zJj (K : XOK X) {A : Around} (hA : AOK X.d A) {target iter : Expr} {body : List Stmt} {I : Addr} {fp wr : List Addr} {xs : List PV} {fz : List Nat} {Pp : Nat → Value → Prop} {St : Nat → Heap → Prop} {set : PV → PM Unit} {mb : PM PF} {f : PF} {R : Result → Shared → Prop} {s2 : PSt}
  (W : Walks X.G.prog X.G.w A I fp wr xs.length Pp St) (hI : Inv X P ρ st s) (hst : St 0 s.heap) (hal : ∀ j h, St j h → ∀ b ∈ wr, h.get? b ≠ none) (hw : WrOK X P ρ wr) (hf : ∀ b ∈ fp, b ∈ wr ∨ ∃ i ∈ fz, ρ[i]? = some b) (hx : ∀ i v, i < xs.length → Pp i v → ∃ x, xs[i]? = some x ∧ VRel ρ x v)
  (htu : ∀ v, letOwnedTupleGo target (.ref I) v = Pure.pure ()) (hset : ∀ ρ x v, VRel ρ x v → SndU X ρ (assign target X.env v) (set x)) (hb : SndB X [] body mb) (e : pFor set mb xs { st with hp := fzAt fz st.hp } = some (f, s2))
  (hR : ∀ f' s' ρ', ρ <+: ρ' → Inv X P ρ' { s2 with hp := restore st.hp s2.hp } s' → FRel ρ' f f' → R (.ok f') s') : codeAny (model X.G.prog X.G.w) A (.forLoop target (.ref I) body [] X.env) R s := by
 refine zJi (iter := iter) K hA W (hI.fzAt fz) hst hal hw (fun b hb => ?_) hx htu hset hb e fun f' s' ρ' hp J hf => hR f' s' ρ' hp (hI.restore J hp) hf
 rcases hf b hb with h | ⟨i, hi, hr⟩
 ·exact .inl h
 ·have hlt : i < st.hp.length := by rw [← hI.len]; exact (List.getElem?_eq_some_iff.mp hr).1
  refine .inr ⟨i, (true, st.hp[i].2), hr, ?_, rfl⟩
  show (fzAt fz st.hp)[i]? = _
  rw [zB5, List.getElem?_eq_getElem hlt]
  simp [hi]
theorem zJk {γ : Type} {o : Option (PF × PSt)} {F : PF → PSt → Option γ} {r : γ} {C : Prop} (e : (match o with | some (a, b) => F a b | none => none) = some r) (h : ∀ a b, o = some (a, b) → F a b = some r → C) : C := by
 cases o with
 | none => exact zC e
 | some p => exact h p.1 p.2 rfl e
theorem zBS (K : XOK X) (i : Nat) {x : Str} {p1 pos : Pos} {iter : Expr} {body : List Stmt} {mi : PM (List PV × List Nat)} {mb : PM PF} (hx : X.ns[i]? = some x) (ho : X.env.kindOf x = some .cell → X.own = true)
  (hs : ∀ v, foldedSetIterable iter X.env v = Pure.pure v) (hi : SndI X iter mi) (hb : SndB X [] body mb) : SndS X [] (.For (.Name x p1) iter body [] pos) (pForE mi (pSet i) mb) := by
 intro A P s ρ st st' b hρ hA hI e0
 apply byC; intro kz; obtain ⟨⟨xs, fz⟩, st1, e1, ea⟩ := PM.bind_some e0; apply kz; clear kz
 refine zJk ea fun f s2 e2 ea => ?_
 ·cases ea
  refine wpAny_For (hi A P s ρ st st1 xs fz _ _ hA hI e1 fun I s' ρ' fp wr Pp St hp I1 W hst hw hal hf hxx => ?_) hs
  exact zJj (iter := iter) K hA W I1 hst hal hw hf hxx (fun _ => rfl) (zBR K i hx ho) hb e2 fun f' s'' ρ'' hp' J hf => ⟨ρ'', hp.trans hp', J, hf⟩
noncomputable def pSrc (m : PM PV) : PM (List PV × List Nat) := m.bind fun v s => match v with
 | .str x => some ((x.cps.toList.map fun c => .str ⟨#[c]⟩, []), s)
 | .ref i => match s.hp[i]? with
  | some (_, .list xs) => some ((xs, [i]), s)
  | some (_, .tuple xs) => some ((xs, [i]), s)
  | _ => none
 | _ => none
theorem zCe (K : XOK X) (I : Inv X P ρ st s) {a : Addr} (ha : s.heap.objs.size ≤ a) : WrOK X P ρ [a] := fun b hb => by
 rw [List.mem_singleton] at hb
 subst hb
 exact I.fresh K ha
theorem zAs (K : XOK X) {e : Expr} {m : PM PV} (h : SndE X [] e m) : SndI X e (pSrc m) := by
 intro A P s ρ st st' xs fz Q E hA hI e0 hQ
 obtain ⟨v, st1, e1, ea⟩ := PM.bind_some e0
 refine h.run List.nil_prefix hA hI e1 fun rv s1 ρ1 hp1 I1 h1 => ?_
 cases h1 with
 | str x t =>
  cases ea
  have key : ∀ (ty : String) (W : Walks X.G.prog X.G.w A s1.heap.objs.size [s1.heap.objs.size] [s1.heap.objs.size] x.cps.size (SignAt x) (fun i h => h.IsStrIter s1.heap.objs.size ty x t i)),
    Q (.ref s1.heap.objs.size) { s1 with heap := s1.heap.push { cls := .type ty, data := .fields #[.str x t, .int 0 0] } } := fun ty W => by
   refine hQ _ _ ρ1 _ _ (SignAt x) (fun i h => h.IsStrIter s1.heap.objs.size ty x t i) hp1 (I1.grow (tk := s1.toks) fun b o e => Heap.get?_push_of_some _ e) ?_ ⟨_, Heap.get?_push_size _ rfl, rfl, rfl⟩ (zCe K I1 (Nat.le_refl _)) ?_ (fun b hb => .inl hb) ?_
   ·simpa using W
   ·rintro j h ⟨o, ho, _⟩ b hb
    rw [List.mem_singleton] at hb
    rw [hb, ho]
    simp
   ·rintro i v _ ⟨c, u, hc, rfl⟩
    refine ⟨.str ⟨#[c]⟩, ?_, .str _ _⟩
    rw [List.getElem?_map, Array.getElem?_toList, hc]
    rfl
  cases ha : x.cps.all (· < 128)
  ·exact wpAny_pyIter_wide ha (key _ (Walks.strWide hA.handled _ x t))
  ·exact wpAny_pyIter_ascii ha (key _ (Walks.strAscii hA.handled _ x t))
 | ref hi =>
  rename_i i a
  have hlt : a < s1.heap.objs.size := I1.lt (List.mem_of_getElem? hi)
  have hne : a ≠ s1.heap.objs.size := Nat.ne_of_lt hlt
  dsimp only at ea
  split at ea
  ·rename_i f ys' g
   cases ea
   obtain ⟨vs, n, g1, r1⟩ := I1.ref_at hi g
   have hz : vs.toArray.size = xs.length := by rw [List.size_toArray, r1.length]
   have W := Walks.list (prog := X.G.prog) (w := X.G.w) (A := A) hA.handled s1.heap.objs.size a hne vs.toArray
   rw [hz] at W
   refine wpAny_pyIter_list (items := vs.toArray) ⟨_, g1, rfl, n, rfl⟩ ?_
   refine hQ _ _ ρ1 _ _ _ _ hp1 (I1.grow (tk := s1.toks) fun b o e => Heap.get?_push_of_some _ e) W ⟨⟨_, Heap.get?_push_size _ rfl, rfl, rfl⟩, _, Heap.get?_push_of_some _ g1, rfl, n, rfl⟩ (zCe K I1 (Nat.le_refl _)) ?_ ?_ ?_
   ·rintro j h ⟨⟨o, ho, _⟩, _⟩ b hb
    rw [List.mem_singleton] at hb
    rw [hb, ho]
    simp
   ·intro b hb
    simp only [List.mem_cons, List.not_mem_nil, or_false] at hb
    rcases hb with rfl | rfl
    ·exact .inl (List.mem_singleton.mpr rfl)
    ·exact .inr ⟨i, List.mem_singleton.mpr rfl, hi⟩
   ·intro j v _ hv
    exact r1.get' (by simpa using hv)
  ·rename_i f ys' g
   cases ea
   obtain ⟨vs, n, g1, r1⟩ := I1.ref_at hi g
   have hz : vs.toArray.size = xs.length := by rw [List.size_toArray, r1.length]
   have W := Walks.tuple (prog := X.G.prog) (w := X.G.w) (A := A) hA.handled s1.heap.objs.size a hne vs.toArray
   rw [hz] at W
   refine wpAny_pyIter_tuple (items := vs.toArray) ⟨_, g1, rfl, n, rfl⟩ ?_
   refine hQ _ _ ρ1 _ _ _ _ hp1 (I1.grow (tk := s1.toks) fun b o e => Heap.get?_push_of_some _ e) W ⟨⟨_, Heap.get?_push_size _ rfl, rfl, rfl⟩, _, Heap.get?_push_of_some _ g1, rfl, n, rfl⟩ (zCe K I1 (Nat.le_refl _)) ?_ ?_ ?_
   ·rintro j h ⟨⟨o, ho, _⟩, _⟩ b hb
    rw [List.mem_singleton] at hb
    rw [hb, ho]
    simp
   ·intro b hb
    simp only [List.mem_cons, List.not_mem_nil, or_false] at hb
    rcases hb with rfl | rfl
    ·exact .inl (List.mem_singleton.mpr rfl)
    ·exact .inr ⟨i, List.mem_singleton.mpr rfl, hi⟩
   ·intro j v _ hv
    exact r1.get' (by simpa using hv)
  ·cases ea
 | _ => cases ea
noncomputable def zBT (a b : Int) : List PV := (List.range (b - a).toNat).map fun (i : Nat) => .int (a + (i : Int))
noncomputable def zEb (m k : PM PV) : PM (List PV × List Nat) := m.bind fun a => k.bind fun b s => match a, b with
 | .int i, .int j => if -(2 ^ 62) ≤ i ∧ i < 2 ^ 62 ∧ -(2 ^ 62) ≤ j ∧ j < 2 ^ 62 then some ((zBT i j, []), s) else none
 | _, _ => none
noncomputable def zAY (m : PM PV) : PM (List PV × List Nat) := zEb (PM.ret (.int 0)) m
theorem int_int {β : Type} {a b : PV} {F : Int → Int → Option β} {r : β} {C : Prop} (e : (match a, b with | .int i, .int j => F i j | _, _ => none) = some r) (h : ∀ i j, a = .int i → b = .int j → F i j = some r → C) : C := by
 cases a with
 | int i =>
  cases b with
  | int j => exact h i j rfl rfl e
  | _ => exact zC e
 | _ => exact zC e
theorem zJl (K : XOK X) {A : Around} (hA : AOK X.d A) (I : Inv X P ρ st s) {r : Addr} {a b : Int} {t u v : Tok} {Q : Value → Shared → Prop} {E : Value → Shared → Prop} (hr : IsRange s.heap r a b 1 t u v) (ha : -(2 ^ 62) ≤ a ∧ a < 2 ^ 62 ∧ -(2 ^ 62) ≤ b ∧ b < 2 ^ 62)
  (hQ : ∀ I s' fp wr Pp St, Inv X P ρ st s' → Walks X.G.prog X.G.w A I fp wr (zBT a b).length Pp St → St 0 s'.heap → WrOK X P ρ wr → (∀ j h, St j h → ∀ b ∈ wr, h.get? b ≠ none) → (∀ b ∈ fp, b ∈ wr) →
   (∀ i v, i < (zBT a b).length → Pp i v → ∃ x, (zBT a b)[i]? = some x ∧ VRel ρ x v) → Q (.ref I) s') : wpAny (model X.G.prog X.G.w) A (pyIter (.ref r)) Q E s := by
 refine wpAny_pyIter_range hr (small_one ha.1 ha.2.1 ha.2.2.1 ha.2.2.2) ?_
 have hl : (zBT a b).length = (b - a).toNat := by unfold zBT; simp
 refine hQ _ _ [s.heap.objs.size] [s.heap.objs.size] (fun i v => ∃ t, v = .int (a + i * 1) t) (fun i h => IsRangeIter h s.heap.objs.size (a + (i : Nat) * 1) (((b - a).toNat : Int) - (i : Nat)) 1) (I.grow (tk := s.toks) fun b o e => Heap.get?_push_of_some _ e) ?_ ?_
  (zCe K I (Nat.le_refl _)) ?_ (fun _ h => h) ?_
 ·rw [hl]
  exact Walks.range hA.handled _ a 1 _
 ·have e1 : a + ((0 : Nat) : Int) * 1 = a := by simp
  have e2 : ((b - a).toNat : Int) - ((0 : Nat) : Int) = Builtin.Range.rangeSize a b 1 := by rw [rangeSize_one]; split <;> lia
  dsimp only
  rw [e1, e2]
  exact Heap.get?_push_size _ rfl
 ·intro j h hh b hb
  rw [List.mem_singleton] at hb
  rw [hb]
  have hh : h.get? _ = some _ := hh
  rw [hh]
  simp
 ·rintro i v hi ⟨t, rfl⟩
  refine ⟨.int (a + (i : Int)), ?_, ?_⟩
  ·unfold zBT
   rw [List.getElem?_map, List.getElem?_range (by rw [← hl]; exact hi)]
   rfl
  ·rw [Int.mul_one]
   exact .int _ _
theorem zGL : bootBuiltins "range" = some (.type "range") := by kernel_rfl
theorem zDU (K : XOK X) {p pos : Pos} {e : Expr} {m : PM PV} (hk : X.env.kindOf "range" = some .globalImplicit) (hv : X.G.mg "range" = none)
  (he : starEach [e] X.env = [(false, eval e X.env)]) (h : SndE X [] e m) : SndI X (.Call (.Name "range" p) [e] [] pos) (zAY m) := by
 intro A P s ρ st st' xs fz Q E hA hI e0 hQ
 unfold zAY zEb at e0
 rw [PM.ret_bind] at e0
 obtain ⟨u, st2, e2, eb⟩ := PM.bind_some e0
 refine wpAny_Call_NameR (zCb K hI hk hv zGL (by decide) (by decide) ?_)
 rw [he]
 refine callWith_type1 ?_
 refine h.run List.nil_prefix hA hI e2 fun ru s2 ρ2 hp2 I2 hr2 => ?_
 refine int_int eb fun i j ei ej eb => ?_
 ·cases ei
  subst ej
  refine zAj eb fun hc eb => ?_
  ·cases eb
   cases hr2 with | int _ t2 => ?_
   refine call_range_1 ?_
   refine zJl K hA (I2.grow (tk := s2.toks + 1 + 1) fun b o e => Heap.get?_push_of_some _ e) (Heap.get?_push_size _ rfl) hc fun I s' fp wr Pp St I3 W hst hw hal hf hx => ?_
   exact hQ I s' ρ2 fp wr Pp St hp2 I3 W hst hw hal (fun b hb => .inl (hf b hb)) hx
end
noncomputable def zp (sc : Scope) : List Str := (sc.names.filter fun x => x.2 == .local && x.1 != (".0" : Str)).map (·.1)
noncomputable def zn (sc : Scope) : List Str := (sc.names.filter fun x => x.2 == .free).map (·.1)
structure zBU (X : Stat) (sc : Scope) (caps : List Nat) : Prop where
 kind : sc.kind = .function
 nd : (sc.names.map (·.1)).Nodup
 noCell : ∀ y ∈ sc.names, y.2 ≠ .cell
 frees : ∀ x ∈ zn sc, X.env.kindOf x = some .cell
 caps : caps.map (X.ns[·]?) = (zn sc).map some
theorem zEc {env : Env} (f : Str × NameKind → List (Str × Addr) → Sem (ForInStep (List (Str × Addr)))) (hf : ∀ name kind cs, f (name, kind) cs = if kind == NameKind.free then (do let a ← cellOf env name; pure (.yield ((name, a) :: cs))) else pure (.yield cs)) :
  ∀ (names : List (Str × NameKind)) (acc : List (Str × Addr)), (∀ x ∈ names, x.2 = .free → ∃ c, env.cells.lookup x.1 = some c) →
  ∃ cl, (forIn names acc f : Sem (List (Str × Addr))) = pure cl ∧
   (∀ x, (x, NameKind.free) ∈ names → ∃ c, env.cells.lookup x = some c ∧ (x, c) ∈ cl) ∧ (∀ x c, (x, c) ∈ cl → (x, c) ∈ acc ∨ ((x, NameKind.free) ∈ names ∧ env.cells.lookup x = some c)) ∧ (∀ p ∈ acc, p ∈ cl)
 | [], acc, _ => ⟨acc, rfl, fun x h => (by cases h), fun x c h => .inl h, fun p h => h⟩
 | (y, k) :: r, acc, h => by
  have hr : ∀ x ∈ r, x.2 = .free → ∃ c, env.cells.lookup x.1 = some c := fun x hx => h x (List.mem_cons_of_mem _ hx)
  rw [List.forIn_cons, hf]
  by_cases hk : k = .free
  ·subst hk
   obtain ⟨c, hc⟩ := h (y, .free) (List.mem_cons_self ..) rfl
   obtain ⟨cl, h1, h2, h3, h4⟩ := zEc f hf r ((y, c) :: acc) hr
   refine ⟨cl, ?_, ?_, ?_, ?_⟩
   ·simp only [beq_self_eq_true, if_true]
    have : cellOf env y = pure c := by unfold cellOf; rw [hc]
    rw [this, ← h1]
    rfl
   ·intro x hx
    rcases List.mem_cons.mp hx with e | hx
    ·cases e
     exact ⟨c, hc, h4 _ (List.mem_cons_self ..)⟩
    ·exact h2 x hx
   ·intro x c' hx
    rcases h3 x c' hx with h | ⟨h, h'⟩
    ·rcases List.mem_cons.mp h with e | h
     ·cases e
      exact .inr ⟨List.mem_cons_self .., hc⟩
     ·exact .inl h
    ·exact .inr ⟨List.mem_cons_of_mem _ h, h'⟩
   ·intro p hp
    exact h4 p (List.mem_cons_of_mem _ hp)
  ·obtain ⟨cl, h1, h2, h3, h4⟩ := zEc f hf r acc hr
   refine ⟨cl, ?_, ?_, ?_, h4⟩
   ·have : (k == NameKind.free) = false := by simpa using hk
    simp only [this, ← h1]
    rfl
   ·intro x hx
    rcases List.mem_cons.mp hx with e | hx
    ·cases e; exact absurd rfl hk
    ·exact h2 x hx
   ·intro x c' hx
    rcases h3 x c' hx with h | ⟨h, h'⟩
    ·exact .inl h
    ·exact .inr ⟨List.mem_cons_of_mem _ h, h'⟩
theorem zGM {env : Env} {sc : Scope} (h : ∀ x ∈ zn sc, ∃ c, env.cells.lookup x = some c) : ∃ cl, closureFor sc env = pure cl ∧ (∀ x ∈ zn sc, ∃ c, env.cells.lookup x = some c ∧ (x, c) ∈ cl) ∧
  (∀ x c, (x, c) ∈ cl → x ∈ zn sc ∧ env.cells.lookup x = some c) := by
 have mem : ∀ x, x ∈ zn sc ↔ (x, NameKind.free) ∈ sc.names := fun x => by
  unfold zn
  constructor
  ·intro hx
   obtain ⟨⟨y, k⟩, h1, rfl⟩ := List.mem_map.mp hx
   obtain ⟨h2, h3⟩ := List.mem_filter.mp h1
   have : k = .free := by simpa using h3
   subst this
   exact h2
  ·intro hx
   exact List.mem_map.mpr ⟨(x, .free), List.mem_filter.mpr ⟨hx, rfl⟩, rfl⟩
 have key : ∃ f : Str × NameKind → List (Str × Addr) → Sem (ForInStep (List (Str × Addr))), closureFor sc env = forIn sc.names [] f ∧ ∀ name kind cs, f (name, kind) cs = if kind == NameKind.free then (do let a ← cellOf env name; pure (.yield ((name, a) :: cs))) else pure (.yield cs) := by
  unfold closureFor
  simp only [bind_pure]
  exact ⟨_, rfl, fun _ _ _ => rfl⟩
 obtain ⟨f, hf, hf2⟩ := key
 obtain ⟨cl, h1, h2, h3, h4⟩ := zEc (env := env) f hf2 sc.names [] fun x hx hk => h x.1 ((mem _).mpr (by rw [← hk]; exact hx))
 refine ⟨cl, ?_, fun x hx => h2 x ((mem x).mp hx), fun x c hx => ?_⟩
 ·rw [hf, h1]
 ·rcases h3 x c hx with h | ⟨h, h'⟩
  ·cases h
  ·exact ⟨(mem x).mpr h, h'⟩
structure InC (X : Stat) (sc : Scope) (X' : Stat) : Prop where
 g : X'.G = X.G
 sco : X'.env.scope = relabel sc X.env
 ns : X'.ns = zp sc ++ zn sc
 own : X'.own = false
 d : X'.d = X.d
 ok : XOK X'
 xsc : X.env.scope.kind = .function
theorem zGN {env : Env} (hf : env.scope.kind = .function) : ∀ (names : List (Str × NameKind)) (x : Str),
  (names.map fun (n, k) => if (k == NameKind.free && env.scope.kind == .function && env.kindOf n == some .cell) then (n, NameKind.cell) else (n, k)).lookup x =
   (names.lookup x).map fun k => if (k == NameKind.free && env.kindOf x == some .cell) = true then .cell else k
 | [], x => rfl
 | (n, k) :: r, x => by
  rw [List.map_cons]
  dsimp only
  have ih := zGN hf r x
  by_cases hx : x = n
  ·subst hx
   rw [zB1, Option.map_some, hf]
   by_cases hc : (k == NameKind.free && env.kindOf x == some NameKind.cell) = true
   ·have hc' : (k == NameKind.free && (ScopeKind.function == ScopeKind.function) && env.kindOf x == some NameKind.cell) = true := by simpa using hc
    rw [if_pos hc', if_pos hc, zB1]
   ·have hc' : ¬ (k == NameKind.free && (ScopeKind.function == ScopeKind.function) && env.kindOf x == some NameKind.cell) = true := by simpa using hc
    rw [if_neg hc', if_neg hc, zB1]
  ·rw [zB0 hx]
   by_cases hc : (k == NameKind.free && env.scope.kind == .function && env.kindOf n == some NameKind.cell) = true
   ·rw [if_pos hc, zB0 hx]; exact ih
   ·rw [if_neg hc, zB0 hx]; exact ih
theorem zDV {X' : Stat} {X : Stat} {sc : Scope} (h : X'.env.scope = relabel sc X.env) (hf : X.env.scope.kind = .function) (x : Str) :
  X'.env.kindOf x = (sc.names.lookup x).map fun k => if (k == NameKind.free && X.env.kindOf x == some .cell) = true then .cell else k := by
 unfold Env.kindOf
 rw [h]
 exact zGN hf sc.names x
theorem InC.glob {X X' : Stat} {sc : Scope} (h : InC X sc X') {x : Str} (hx : sc.names.lookup x = some .globalImplicit) : X'.env.kindOf x = some .globalImplicit := by
 rw [zDV h.sco h.xsc, hx]; rfl
theorem InC.loc {X X' : Stat} {sc : Scope} (h : InC X sc X') {x : Str} (hx : sc.names.lookup x = some .local) : X'.env.kindOf x = some .local := by
 rw [zDV h.sco h.xsc, hx]; rfl
noncomputable abbrev SndTs (X : Stat) (ifs : List Expr) (m : PM Bool) : Prop :=
 SndR X [] (forIn ifs true fun c r => if r = true then do let ok ← isTrue c X.env (eval c X.env); pure (ForInStep.yield ok) else pure (ForInStep.yield r)) m (fun _ b r => b = r)
theorem zDW {X : Stat} : SndTs X [] (PM.ret true) := SndR.pure fun _ _ => rfl
theorem zCf {X : Stat} {c : Expr} {m : PM Bool} (h : SndT X [] c m) : SndTs X [c] m := by
 intro A P s ρ st st' b hρ hA hI e
 exact wpAny_tests_one (h.run List.nil_prefix hA hI e fun b' s' ρ' hp I' hb => ⟨ρ', hp, I', hb⟩)
noncomputable def zAZ (set : PV → PM Unit) (test : PM Bool) (elt : PM PV) : List PV → List PV → PM (List PV)
 | [], acc => PM.ret acc
 | x :: xs, acc => (set x).bind fun _ => test.bind fun b => if b then elt.bind fun v => zAZ set test elt xs (acc ++ [v]) else zAZ set test elt xs acc
noncomputable def zAl (nt : Nat) (caps : List Nat) (vars : List (Option PV)) : List (Option PV) := List.replicate nt none ++ caps.map fun i => (vars[i]?).join
noncomputable def pComp (nt : Nat) (caps : List Nat) (mi : PM (List PV × List Nat)) (set : PV → PM Unit) (test : PM Bool) (elt : PM PV) : PM PV := mi.bind fun p s =>
 if p.1.length ≤ zH then
  match zAZ set test elt p.1 [] { vars := zAl nt caps s.vars, hp := fzAt p.2 s.hp } with
  | some (acc, s') => some (.ref s'.hp.length, { vars := s.vars, hp := restore s.hp s'.hp ++ [(false, .list acc)] })
  | none => none
 else none
section
variable {X : Stat} {P : Prot} {ρ ρ' : List Addr} {st st' : PSt} {s s' : Shared}
theorem zJm {sc : Scope} {x : Str} (h : x ∈ zp sc) : (x, NameKind.local) ∈ sc.names := by
 unfold zp at h
 obtain ⟨⟨y, k⟩, h1, rfl⟩ := List.mem_map.mp h
 obtain ⟨h2, h3⟩ := List.mem_filter.mp h1
 have : k = .local := by
  simp only [Bool.and_eq_true, beq_iff_eq] at h3
  exact h3.1
 subst this
 exact h2
theorem zJn {sc : Scope} {x : Str} (h : x ∈ zn sc) : (x, NameKind.free) ∈ sc.names := by
 unfold zn at h
 obtain ⟨⟨y, k⟩, h1, rfl⟩ := List.mem_map.mp h
 obtain ⟨h2, h3⟩ := List.mem_filter.mp h1
 have : k = .free := by simpa using h3
 subst this
 exact h2
theorem zGO (K : XOK X) {sc : Scope} {caps : List Nat} (C : zBU X sc caps) (I : Inv X P ρ st s) {cl : List (Str × Addr)} (hcl1 : ∀ x ∈ zn sc, ∃ c, X.env.cells.lookup x = some c ∧ (x, c) ∈ cl)
  (hcl2 : ∀ x c, (x, c) ∈ cl → x ∈ zn sc ∧ X.env.cells.lookup x = some c) {a : Addr} (ha : s.heap.objs.size ≤ a) {h' : Heap} {tk : Nat} (k : ∀ b o, s.heap.get? b = some o → h'.get? b = some o) (hn : h'.Ns a fun _ => none) :
  ∃ X', X'.env = compEnvC sc cl a X.env ∧ InC X sc X' ∧ Inv X' (P.sub X s) ρ { vars := zAl (zp sc).length caps st.vars, hp := st.hp } { s with heap := h', toks := tk } := by
 let X' : Stat := ⟨X.G, compEnvC sc cl a X.env, zp sc ++ zn sc, false, X.d⟩
 have hk : ∀ x, X'.env.kindOf x = (sc.names.lookup x).map fun k => if (k == NameKind.free && X.env.kindOf x == some .cell) = true then .cell else k := zDV (X' := X') rfl K.fn
 have hloc : ∀ x ∈ zp sc, X'.env.kindOf x = some .local := fun x hx => by
  rw [hk, zAr C.nd (zJm hx)]; rfl
 have hfree : ∀ x ∈ zn sc, X'.env.kindOf x = some .cell := fun x hx => by
  rw [hk, zAr C.nd (zJn hx), C.frees x hx]; rfl
 have hlook : ∀ x c, cl.lookup x = some c → x ∈ zn sc ∧ X.env.cells.lookup x = some c := fun x c h => hcl2 x c (mem_of_lookup h)
 have hlook2 : ∀ x ∈ zn sc, ∃ c, cl.lookup x = some c ∧ X.env.cells.lookup x = some c := fun x hx => by
  apply byC; intro kz; obtain ⟨c, h1, h2⟩ := hcl1 x hx; apply kz; clear kz
  have : ∃ c', cl.lookup x = some c' := by
   clear hlook
   have key : ∀ (l : List (Str × Addr)), (x, c) ∈ l → ∃ c', l.lookup x = some c' := by
    intro l
    induction l with
    | nil => intro h; cases h
    | cons p r ih =>
     intro h
     apply byC; intro kz; obtain ⟨y, v⟩ := p; apply kz; clear kz
     by_cases hxy : x = y
     ·subst hxy; exact ⟨v, zB1⟩
     ·rw [zB0 hxy]
      rcases List.mem_cons.mp h with e | h
      ·cases e; exact absurd rfl hxy
      ·exact ih h
   exact key cl h2
  apply byC; intro kz; obtain ⟨c', hc'⟩ := this; apply kz; clear kz
  exact ⟨c', hc', (hlook x c' hc').2⟩
 have hnd : (zp sc ++ zn sc).Nodup := by
  rw [List.nodup_append]
  refine ⟨List.Nodup.sublist (List.Sublist.map _ List.filter_sublist) C.nd, List.Nodup.sublist (List.Sublist.map _ List.filter_sublist) C.nd, fun x hx y hy => ?_⟩
  rintro rfl
  have := hloc x hx
  rw [hfree x hy] at this
  cases this
 apply byC; intro kz; obtain ⟨f1, f2, f3, f4⟩ := I.fresh K ha; apply kz; clear kz
 have K' : XOK X' := by
  refine ⟨C.kind, K.glob, K.blt, hnd, K.gok, fun x y c h1 h2 => K.apart x y c (hlook x c h1).2 (hlook y c h2).2, fun x hx => ?_, fun x c h => ?_⟩
  ·rcases List.mem_append.mp hx with h | h
   ·exact .inl (hloc x h)
   ·exact .inr (hfree x h)
  ·have := (hlook x c h).1
   exact ⟨List.mem_append_right _ this, hfree x this⟩
 refine ⟨X', rfl, ⟨rfl, rfl, rfl, rfl, rfl, K', K.fn⟩, I.enter K k rfl ?_⟩
 have hcaps := congrArg List.length C.caps
 rw [List.length_map, List.length_map] at hcaps
 refine ⟨?_, f1, ⟨_, hn, fun i x v h1 h2 h3 => ?_⟩, fun i x h1 h2 => ?_, ?_⟩
 ·show (P.sub X s).B a = none
  unfold Prot.sub
  dsimp only
  rw [if_neg, f2]
  rintro (q | ⟨x, q⟩)
  ·exact f3 q.symm
  ·exact f4 x a q rfl
 ·by_cases hi : i < (zp sc).length
  ·have h3 : (List.replicate (zp sc).length none ++ caps.map fun i => (st.vars[i]?).join)[i]? = some (some v) := h3
   rw [List.getElem?_append_left (by simpa using hi), List.getElem?_replicate, if_pos hi] at h3
   cases h3
  ·have h1 : (zp sc ++ zn sc)[i]? = some x := h1
   rw [List.getElem?_append_right (by lia)] at h1
   have := hfree x (List.mem_of_getElem? h1)
   rw [this] at h2
   cases h2
 ·have h1 : (zp sc ++ zn sc)[i]? = some x := h1
  have hi : ¬ i < (zp sc).length := fun hi => by
   rw [List.getElem?_append_left hi] at h1
   have := hloc x (List.mem_of_getElem? h1)
   rw [this] at h2
   cases h2
  rw [List.getElem?_append_right (by lia)] at h1
  apply byC; intro kz; obtain ⟨c, h3, h4⟩ := hlook2 x (List.mem_of_getElem? h1); apply kz; clear kz
  have hcap : ∃ j, caps[i - (zp sc).length]? = some j ∧ X.ns[j]? = some x := by
   have e : (caps.map (X.ns[·]?))[i - (zp sc).length]? = some (some x) := by rw [C.caps, List.getElem?_map, h1]; rfl
   rw [List.getElem?_map] at e
   apply byC; intro kz; obtain ⟨j, h5, h6⟩ := Option.map_eq_some_iff.mp e; apply kz; clear kz
   exact ⟨j, h5, h6⟩
  apply byC; intro kz; obtain ⟨j, h5, h6⟩ := hcap; apply kz; clear kz
  apply byC; intro kz; obtain ⟨c', ov, g1, g2, g3, g4, ⟨o, go, gd⟩, g6⟩ := I.fr.cell j x h6 (C.frees x (List.mem_of_getElem? h1)); apply kz; clear kz
  rw [h4] at g1
  cases g1
  refine ⟨c, ov, h3, fun q => f4 x c h4 q, g3, (fun q => by cases q), ⟨o, k _ _ go, gd⟩, fun v hv => ?_⟩
  have hv : (List.replicate (zp sc).length none ++ caps.map fun i => (st.vars[i]?).join)[i]? = some (some v) := hv
  rw [List.getElem?_append_right (by rw [List.length_replicate]; lia), List.length_replicate, List.getElem?_map, h5] at hv
  refine g6 v ?_
  simp only [Option.map_some, Option.some.injEq] at hv
  cases hj : st.vars[j]? with
  | none => rw [hj] at hv; cases hv
  | some w => rw [hj] at hv; exact congrArg some hv
 ·show (List.replicate _ none ++ _).length = (zp sc ++ zn sc).length
  simp [hcaps]
end
section
variable {X : Stat} {P : Prot} {ρ ρ' : List Addr} {st st' : PSt} {s s' : Shared}
noncomputable def zGP (X : Stat) (A : Around) (c : Code) (target : Expr) (it : Value) (ifs : List Expr) (elt : Expr) (acc : Value) (R : Result → Shared → Prop) : Prop :=
 ∀ (I : Nat → Shared → Prop), (∀ n s, I n s → wpAny (model X.G.prog X.G.w) A (pyNext it) (fun r s₁ => match r with
   | none => R (.ok .next) s₁
   | some v => wpAny (model X.G.prog X.G.w) A (assign target X.env v) (fun _ s₂ =>
     wpAny (model X.G.prog X.G.w) A (forIn ifs true fun c r => if r = true then do let ok ← isTrue c X.env (eval c X.env); pure (ForInStep.yield ok) else pure (ForInStep.yield r)) (fun ok s₃ =>
      if ok = true then wpAny (model X.G.prog X.G.w) A (eval elt X.env) (fun x s₄ =>
       wpAny (model X.G.prog X.G.w) A (call (.builtin "list.append") [acc, x]) (fun _ s₅ => ∃ m, m < n ∧ I m s₅) (fun _ _ => False) s₄) (fun _ _ => False) s₃
      else ∃ m, m < n ∧ I m s₃) (fun _ _ => False) s₂) (fun _ _ => False) s₁) (fun _ _ => False) s) → ∀ n s, I n s → codeAny (model X.G.prog X.G.w) A c R s
theorem zJo {X : Stat} {A : Around} {target iter elt : Expr} {ifs : List Expr} {sc : Scope} {pos : Pos} {it : Value} {acc : Value} {R : Result → Shared → Prop} (htu : ∀ v, letOwnedTupleGo target it v = Pure.pure ()) :
  zGP X A (.compLoop (.ListComp elt [⟨target, iter, ifs, 0⟩] sc pos) 0 it acc X.env) target it ifs elt acc R := by
 intro I turn n s hI
 refine codeAny_compLoop_tests I (fun n s h => wpAny_mono (turn n s h) (fun r s₁ h₁ => ?_) fun _ _ h => h.elim) n hI htu
 cases r with
 | none => exact h₁
 | some v =>
  refine wpAny_mono h₁ (fun _ s₂ h₂ => wpAny_mono h₂ (fun ok s₃ h₃ => ?_) fun _ _ h => h.elim) fun _ _ h => h.elim
  cases ok with
  | false => exact h₃
  | true =>
   simp only [if_true] at h₃ ⊢
   exact wpAny_mono h₃ (fun x s₄ h₄ => wpAny_mono h₄ (fun _ _ h => h) fun _ _ h => h.elim) fun _ _ h => h.elim
inductive CInv (X' : Stat) (P : Prot) (ρ : List Addr) (len : Nat) (St : Nat → Heap → Prop) (fp wr : List Addr) (D : Addr) (n0 : Nat) (G : Nat → List PV → PSt → Prop) (k : Nat) (s1 : Shared) : Prop
 | mk (j : Nat) (ρ1 : List Addr) (st1 : PSt) (acc : List PV) (vs : List Value) (n : Nat) (hk : k + j = len + 1) (hj : j ≤ len) (hp : ρ <+: ρ1) (I : Inv X' P ρ1 st1 s1) (hs : St j s1.heap) (hw : WrOK X' P ρ1 (D :: wr)) (hf : FpOK ρ1 st1 fp wr)
   (hD : s1.heap.get? D = some { cls := .type "list", data := .seq (List.toArray vs) n }) (hv : VRels ρ1 acc vs) (hl : acc.length ≤ n0 + j) (g : G j acc st1) : CInv X' P ρ len St fp wr D n0 G k s1
theorem zJp {X' : Stat} (K' : XOK X') {A : Around} (hA : AOK X'.d A) {target elt : Expr} {ifs : List Expr} {I D : Addr} {fp wr : List Addr} {xs acc' acc0 : List PV} {vs0 : List Value} {n0 : Nat} {code : Code} {Pp : Nat → Value → Prop} {St : Nat → Heap → Prop} {set : PV → PM Unit} {mt : PM Bool} {me : PM PV} {R : Result → Shared → Prop}
  (W : Walks X'.G.prog X'.G.w A I fp wr xs.length Pp St) (hI : Inv X' P ρ st s) (hst : St 0 s.heap) (hal : ∀ j h, St j h → ∀ b ∈ wr, h.get? b ≠ none) (hw : WrOK X' P ρ (D :: wr)) (hDf : D ∉ fp) (hf : FpOK ρ st fp wr)
  (hx : ∀ i v, i < xs.length → Pp i v → ∃ x, xs[i]? = some x ∧ VRel ρ x v) (hsz : acc0.length + xs.length ≤ zH) (hD : s.heap.get? D = some { cls := .type "list", data := .seq (List.toArray vs0) n0 }) (hacc0 : VRels ρ acc0 vs0)
  (hloop : zGP X' A code target (.ref I) ifs elt (.ref D) R) (hset : ∀ ρ x v, VRel ρ x v → SndU X' ρ (assign target X'.env v) (set x)) (ht : SndTs X' ifs mt) (he : SndE X' [] elt me) (e : zAZ set mt me xs acc0 st = some (acc', st'))
  (hR : ∀ s' ρ' vs n, ρ <+: ρ' → Inv X' P ρ' st' s' → WrOK X' P ρ' (D :: wr) → s'.heap.get? D = some { cls := .type "list", data := .seq (List.toArray vs) n } → VRels ρ' acc' vs → R (.ok .next) s') :
  codeAny (model X'.G.prog X'.G.w) A code R s := by
 have hDw : D ∉ wr := fun h => hDf (W.sub _ h)
 refine hloop (CInv X' P ρ xs.length St fp wr D acc0.length fun j acc st1 => zAZ set mt me (xs.drop j) acc st1 = some (acc', st')) ?_
  (xs.length + 1) s ⟨0, ρ, st, acc0, vs0, n0, rfl, Nat.zero_le _, List.prefix_refl _, hI, hst, hw, hf, hD, hacc0, Nat.le_refl _, e⟩
 rintro k s1 ⟨j, ρ1, st1, acc, vs, n, hk, hjl, hp1, I1, hst1, hw1, hf1, hD1, hacc, hlen, e1⟩
 by_cases hj : j < xs.length
 ·rw [zDT hj] at e1
  apply byC; intro kz; obtain ⟨_, st2, e2, e3⟩ := PM.bind_some e1; apply kz; clear kz
  apply byC; intro kz; obtain ⟨c, st3, e4, e5⟩ := PM.bind_some e3; apply kz; clear kz
  refine W.item j s1 _ _ hj hst1 fun v h' tk hv hst2 hkeep => ?_
  apply byC; intro kz; obtain ⟨x, hxj, hvx⟩ := hx j v hj hv; apply kz; clear kz
  rw [List.getElem?_eq_getElem hj] at hxj
  cases hxj
  have I2 : Inv X' P ρ1 st1 { s1 with heap := h', toks := tk } := I1.wr wr hkeep (fun a h => (hw1 a (.tail _ h)).2.1) (fun a h => (hw1 a (.tail _ h)).1) (fun h => (hw1 _ (.tail _ h)).2.2.1 rfl) (fun x c hc h => (hw1 _ (.tail _ h)).2.2.2 x c hc rfl)
  have hD2 : h'.get? D = some { cls := .type "list", data := .seq (List.toArray vs) n } := hkeep _ _ hDw hD1
  have hfD : FpOK ρ1 st1 (D :: fp) (D :: wr) := fun b hb => by
   rcases List.mem_cons.mp hb with rfl | hb
   ·exact .inl (.head _)
   ·rcases hf1 b hb with h | h
    ·exact .inl (.tail _ h)
    ·exact .inr h
  have J2 := I2.hold K' (fp := D :: fp) (wr := D :: wr) (fun b hb => by
   rcases List.mem_cons.mp hb with rfl | hb
   ·exact .head _
   ·exact .tail _ (W.sub b hb)) hw1 hfD (fun b hb => by
   rcases List.mem_cons.mp hb with rfl | hb
   ·show h'.get? b ≠ none
    rw [hD2]; simp
   ·exact hal _ _ hst2 b hb)
  refine (hset ρ1 _ v (hvx.up hp1)).run (List.prefix_refl _) hA J2 e2 fun _ s3 ρ3 hp3 J3 _ => ?_
  refine ht.run List.nil_prefix hA J3 e4 fun c' s4 ρ4 hp4 J4 hc => ?_
  obtain rfl : c = c' := hc
  have after : ∀ {st9 s9 ρ9}, ρ1 <+: ρ9 → Inv X' (P.hold (D :: fp) (D :: wr) h') ρ9 st9 s9 → Inv X' P ρ9 st9 s9 ∧ WrOK X' P ρ9 (D :: wr) ∧ FpOK ρ9 st9 fp wr ∧ St (j + 1) s9.heap ∧ s9.heap.get? D = some { cls := .type "list", data := .seq (List.toArray vs) n } := fun {st9 s9 ρ9} hp9 J9 => by
   refine ⟨I2.unhold J9, fun b hb => ⟨(J9.outs b (.inr hb)).2, (hw1 b hb).2⟩, fun b hb => ?_, W.frame _ _ _ hst2 fun b hb o e => J9.held b o (by rw [zr (.tail _ hb)]; exact e), J9.held D _ (by rw [zr (.head _)]; exact hD2)⟩
   rcases hf1 b hb with h | ⟨i, c, h1, h2, h3⟩
   ·exact .inl h
   ·refine .inr ⟨i, ?_⟩
    have h4 := zi hp9 h1
    have hlt : i < st9.hp.length := by rw [← J9.len]; exact (List.getElem?_eq_some_iff.mp h4).1
    refine ⟨st9.hp[i], h4, List.getElem?_eq_getElem hlt, J9.fz i b _ h4 (List.getElem?_eq_getElem hlt) ?_⟩
    rw [zr (.tail _ hb)]
    apply byC; intro kz; obtain ⟨ob, ho⟩ := (I2.objs i b c h1 h2).there; apply kz; clear kz
    intro q
    have ho : h'.get? b = some ob := ho
    rw [q] at ho
    cases ho
  cases c with
  | false =>
   apply byC; intro kz; obtain ⟨I4, hw4, hf4, hst4, hD4⟩ := after (hp3.trans hp4) J4; apply kz; clear kz
   exact ⟨k - 1, by lia, j + 1, ρ4, st3, acc, vs, n, by lia, hj, hp1.trans (hp3.trans hp4), I4, hst4, hw4, hf4, hD4, hacc.up (hp3.trans hp4), by lia, e5⟩
  | true =>
   apply byC; intro kz; obtain ⟨y, st5, e6, e7⟩ := PM.bind_some e5; apply kz; clear kz
   refine he.run List.nil_prefix hA J4 e6 fun ry s5 ρ5 hp5 J5 hy => ?_
   apply byC; intro kz; obtain ⟨I5, hw5, hf5, hst5, hD5⟩ := after (hp3.trans (hp4.trans hp5)) J5; apply kz; clear kz
   refine wpAny_list_append_plain ⟨n, hD5⟩ (fun h9 hg hs9 => ?_) (by rw [List.size_toArray, hacc.length]; exact zAG (by lia))
   apply byC; intro kz; obtain ⟨n', hg⟩ := hg; apply kz; clear kz
   have hwD := hw5 D (.head _)
   refine ⟨k - 1, by lia, j + 1, ρ5, st5, acc ++ [y], vs ++ [ry], n', by lia, hj, hp1.trans (hp3.trans (hp4.trans hp5)), I5.sameBut (tk := s5.toks) hs9 hwD.2.1 hwD.1 hwD.2.2.1 hwD.2.2.2, ?_, hw5, hf5, ?_, (hacc.up (hp3.trans (hp4.trans hp5))).append (.cons hy .nil), by simp; lia, e7⟩
   ·exact W.frame _ _ _ hst5 fun b hb o e => (hs9.2 b (fun q => hDf (q ▸ hb))).trans e
   ·rw [hg]; simp
 ·have hje : j = xs.length := by lia
  subst hje
  rw [List.drop_length] at e1
  cases e1
  refine W.done s1 _ _ hst1 fun h' tk hkeep => ?_
  refine hR _ ρ1 vs n hp1 ?_ hw1 (hkeep _ _ hDw hD1) hacc
  exact I1.wr wr hkeep (fun a h => (hw1 a (.tail _ h)).2.1) (fun a h => (hw1 a (.tail _ h)).1) (fun h => (hw1 _ (.tail _ h)).2.2.1 rfl) (fun x c hc h => (hw1 _ (.tail _ h)).2.2.2 x c hc rfl)
theorem zGQ (K : XOK X) {sc : Scope} {caps : List Nat} (C : zBU X sc caps) {A : Around} (hA : AOK X.d A) {target iter elt : Expr} {ifs : List Expr} {pos p : Pos} {mi : PM (List PV × List Nat)} {set : PV → PM Unit} {mt : PM Bool} {me : PM PV} {v : PV}
  {use : Option (Value → Sem Unit)} {Q : Value → Shared → Prop} {E : Value → Shared → Prop} (hs : ∀ x, foldedSetIterable iter X.env x = Pure.pure x) (hi : SndI X iter mi) (htu : ∀ it v, letOwnedTupleGo target it v = Pure.pure ())
  (hset : ∀ X', InC X sc X' → ∀ ρ x v, VRel ρ x v → SndU X' ρ (assign target X'.env v) (set x)) (ht : ∀ X', InC X sc X' → SndTs X' ifs mt) (he : ∀ X', InC X sc X' → SndE X' [] elt me)
  (hI : Inv X P ρ st s) (e0 : pComp (zp sc).length caps mi set mt me st = some (v, st'))
  (hQ : ∀ D s' ρ' c m, ρ <+: ρ' → Inv X P ρ' st' s' → VRel ρ' v (.ref D) → s'.heap.Ns c m → WrOK X P ρ' [c] → compPost (model X.G.prog X.G.w) A E use Q (.ref D) c (.ok .next) s') :
  wpAny (model X.G.prog X.G.w) A (comprehension (.ListComp elt [⟨target, iter, ifs, 0⟩] sc pos) sc X.env p (newList []) false (eval iter X.env) use) Q E s := by
 apply byC; intro kz; obtain ⟨⟨xs, fz⟩, st1, e1, ea⟩ := PM.bind_some e0; apply kz; clear kz
 dsimp only at ea
 split at ea
 ·rename_i hsz
  split at ea
  ·rename_i acc s2 e2
   cases ea
   obtain ⟨cl, hcl, hcl1, hcl2⟩ := zGM (env := X.env) (sc := sc) fun x hx => by
    have hk := C.frees x hx
    have hm : x ∈ X.ns := by
     have e : some x ∈ caps.map (X.ns[·]?) := by rw [C.caps]; exact List.mem_map.mpr ⟨x, hx, rfl⟩
     apply byC; intro kz; obtain ⟨j, _, hj⟩ := List.mem_map.mp e; apply kz; clear kz
     exact List.mem_of_getElem? hj
    apply byC; intro kz; obtain ⟨i, hi⟩ := List.mem_iff_getElem?.mp hm; apply kz; clear kz
    apply byC; intro kz; obtain ⟨c, ov, h1, _⟩ := hI.fr.cell i x hi hk; apply kz; clear kz
    exact ⟨c, h1⟩
   refine wpAny_comprehension_free rfl hs hcl C.kind (fun x hx hk => zAr C.nd (by rw [← hk]; exact hx)) (hi A P s ρ st st1 xs fz _ _ hA hI e1 fun I s1 ρ1 fp wr Pp St hp1 I1 W hst hw hal hf hxx => ?_)
   refine wpAny_newObj_type (wpAny_newFunctionEnv C.noCell (by intro y hy; simp at hy) (fun h₁ hns₁ hsb₁ => ?_) C.kind)
   dsimp only at hns₁ hsb₁ ⊢
   generalize hH2 : s1.heap.push { cls := .type "list", dict := none, data := .seq ([] : List Value).toArray } = H2 at hns₁ hsb₁ ⊢
   have hC : H2.objs.size = s1.heap.objs.size + 1 := by rw [← hH2, Heap.size_push]
   have old2 : ∀ b o, s1.heap.get? b = some o → H2.get? b = some o := fun b o e => hH2 ▸ Heap.get?_push_of_some _ e
   have hDC : s1.heap.objs.size ≠ H2.objs.size := by rw [hC]; exact Nat.ne_of_lt (Nat.lt_succ_self _)
   have old1 : ∀ b o, H2.get? b = some o → h₁.get? b = some o := fun b o e => hsb₁.extBut b o (Nat.ne_of_lt (Heap.lt_size e)) (Heap.get?_push_of_some _ e)
   have hD2 : H2.get? s1.heap.objs.size = some { cls := .type "list", data := .seq #[] 0 } := hH2 ▸ Heap.get?_push_size _ rfl
   have I1f := I1.fzAt fz
   have I2 : Inv X P ρ1 { st1 with hp := fzAt fz st1.hp } { s1 with heap := H2, toks := s1.toks } := I1f.grow old2
   apply byC; intro kz; obtain ⟨X', henv, hInC, J⟩ := zGO K C I2 hcl1 hcl2 (a := H2.objs.size) (Nat.le_refl _) (h' := h₁) (tk := s1.toks + ([] : List (Str × Value)).length) old1 hns₁; apply kz; clear kz
   have hD1 : h₁.get? s1.heap.objs.size = some { cls := .type "list", data := .seq #[] 0 } := old1 _ _ hD2
   apply byC; intro kz; obtain ⟨d1, d2, d3, d4⟩ := I1.fresh K (Nat.le_refl s1.heap.objs.size); apply kz; clear kz
   have hfpb : ∀ b ∈ fp, b < s1.heap.objs.size := fun b hb => by
    rcases hf b hb with h | ⟨i, _, h⟩
    ·cases eq : s1.heap.get? b with
     | none => exact absurd eq (hal _ _ hst b h)
     | some o => exact Heap.lt_size eq
    ·exact I1.lt (List.mem_of_getElem? h)
   have hloc' : X'.env.locals = H2.objs.size := by rw [henv]; rfl
   have hcellsub : ∀ x c, X'.env.cells.lookup x = some c → X.env.cells.lookup x = some c := fun x c h => by
    rw [henv] at h
    exact (hcl2 x c (mem_of_lookup h)).2
   have subnone : ∀ b, P.B b = none → X.env.locals ≠ b → (∀ x c, X.env.cells.lookup x = some c → c ≠ b) → (P.sub X { s1 with heap := H2, toks := s1.toks }).B b = none := fun b h1 h2 h3 => by
    unfold Prot.sub
    dsimp only
    rw [if_neg, h1]
    rintro (q | ⟨x, q⟩)
    ·exact h2 q.symm
    ·exact h3 x b q rfl
   have hwX : WrOK X' (P.sub X { s1 with heap := H2, toks := s1.toks }) ρ1 (s1.heap.objs.size :: wr) := fun b hb => by
    rcases List.mem_cons.mp hb with rfl | hb
    ·exact ⟨d1, subnone _ d2 d3 d4, (by rw [hloc']; exact fun q => hDC q.symm), fun x c h => d4 x c (hcellsub x c h)⟩
    ·apply byC; intro kz; obtain ⟨w1, w2, w3, w4⟩ := hw b hb; apply kz; clear kz
     refine ⟨w1, subnone _ w2 w3 w4, ?_, fun x c h => w4 x c (hcellsub x c h)⟩
     rw [hloc', hC]
     exact Nat.ne_of_gt (Nat.lt_succ_of_lt (hfpb b (W.sub b hb)))
   have hst1 : St 0 h₁ := W.frame _ _ _ hst fun b _ o e => old1 b o (old2 b o e)
   have hffp : FpOK ρ1 { vars := zAl (zp sc).length caps st1.vars, hp := fzAt fz st1.hp } fp wr := fun b hb => by
    rcases hf b hb with h | ⟨i, hi, hr⟩
    ·exact .inl h
    ·have hlt : i < st1.hp.length := by rw [← I1.len]; exact (List.getElem?_eq_some_iff.mp hr).1
     refine .inr ⟨i, (true, st1.hp[i].2), hr, ?_, rfl⟩
     show (fzAt fz st1.hp)[i]? = _
     rw [zB5, List.getElem?_eq_getElem hlt]
     simp [hi]
   have hA' : AOK X'.d A := by rw [hInC.d]; exact hA
   have hG := hInC.g
   rw [← hG]
   have henv2 : ∀ (scp : Scope) (lo : Addr) , compEnvC sc cl H2.objs.size X.env = X'.env := fun _ _ => henv.symm
   have loop : codeAny (model X'.G.prog X'.G.w) A (.compLoop (.ListComp elt [⟨target, iter, ifs, 0⟩] sc pos) 0 (.ref I) (.ref s1.heap.objs.size) X'.env) (compPost (model X'.G.prog X'.G.w) A E use Q (.ref s1.heap.objs.size) H2.objs.size)
     { s1 with heap := h₁, toks := s1.toks + ([] : List (Str × Value)).length } := by
    refine zJp (fp := fp) (wr := wr) (acc0 := []) (vs0 := []) (n0 := 0) hInC.ok hA' (hG ▸ W) J hst1 hal hwX (fun h => Nat.lt_irrefl _ (hfpb _ h)) hffp hxx (by simpa using hsz) hD1 .nil (zJo (htu _)) (hset X' hInC) (ht X' hInC) (he X' hInC) e2 fun s9 ρ9 vs n hp9 J9 hw9 hD9 hacc => ?_
    have L := I2.leave J9 hG hp9
    have L2 := I1.restore L hp9
    have hDno := hw9 _ (.head _)
    have L3 := L2.push (o := .list acc) hDno.1 d2 d3 d4 (I1.fresh_out (Nat.le_refl _)) ⟨vs, n, hD9, hacc.up (List.prefix_append ..)⟩
    rw [hG]
    apply byC; intro kz; obtain ⟨m9, hm9, _⟩ := J9.fr.loc; apply kz; clear kz
    rw [hloc'] at hm9
    refine hQ _ s9 (ρ9 ++ [s1.heap.objs.size]) _ m9 (hp1.trans (hp9.trans (List.prefix_append ..))) ?_ (.ref ?_) hm9 ?_
    ·have e3 : (restore st1.hp s2.hp).length = s2.hp.length := zCd _ _
     exact L3
    ·have := L2.last s1.heap.objs.size
     rw [show s2.hp.length = (restore st1.hp s2.hp).length from (zCd _ _).symm]
     exact this
    ·intro b hb
     rw [List.mem_singleton] at hb
     subst hb
     apply byC; intro kz; obtain ⟨c1, c2, c3, c4⟩ := I2.fresh K (Nat.le_refl H2.objs.size); apply kz; clear kz
     refine ⟨fun hm => ?_, c2, c3, c4⟩
     rcases List.mem_append.mp hm with hm | hm
     ·have := J9.fr.locNot
      rw [hloc'] at this
      exact this hm
     ·exact hDC (List.mem_singleton.mp hm).symm
   have start := codeAny_compStart_list (prog := X'.G.prog) (w := X'.G.w) (A := A) loop ((hG ▸ W : Walks X'.G.prog X'.G.w A I fp wr xs.length Pp St).self 0 _ _ _ hst1 loop)
   rw [henv] at start
   exact start
  ·cases ea
 ·cases ea
end
section
variable {X : Stat}
theorem zDX (K : XOK X) {sc : Scope} {caps : List Nat} (C : zBU X sc caps) {target iter elt : Expr} {ifs : List Expr} {pos : Pos} {mi : PM (List PV × List Nat)} {set : PV → PM Unit} {mt : PM Bool} {me : PM PV} {nt : Nat} (hnt : nt = (zp sc).length)
  (hs : ∀ x, foldedSetIterable iter X.env x = Pure.pure x) (hi : SndI X iter mi) (htu : ∀ it v, letOwnedTupleGo target it v = Pure.pure ())
  (hset : ∀ X', InC X sc X' → ∀ ρ x v, VRel ρ x v → SndU X' ρ (assign target X'.env v) (set x)) (ht : ∀ X', InC X sc X' → SndTs X' ifs mt) (he : ∀ X', InC X sc X' → SndE X' [] elt me) :
  SndE X [] (.ListComp elt [⟨target, iter, ifs, 0⟩] sc pos) (pComp nt caps mi set mt me) := by
 subst hnt
 intro A P s ρ st st' b hρ hA hI e0
 rw [eval_ListComp]
 refine zGQ (use := none) K C hA hs hi htu hset ht he hI e0 fun D s' ρ' c m hp I' hv hn hw => ?_
 refine ⟨m, hn, fun h' hs' => ?_⟩
 apply byC; intro kz; obtain ⟨w1, w2, w3, w4⟩ := hw c (List.mem_singleton.mpr rfl); apply kz; clear kz
 exact ⟨ρ', hp, I'.sameBut (tk := s'.toks) hs' w2 w1 w3 w4, hv⟩
theorem zEd (K : XOK X) (i : Nat) {y : Str} {py spos : Pos} {sc : Scope} {caps : List Nat} (C : zBU X sc caps) {target iter elt : Expr} {ifs : List Expr} {pos : Pos} {mi : PM (List PV × List Nat)} {set : PV → PM Unit} {mt : PM Bool} {me : PM PV} {nt : Nat} (hnt : nt = (zp sc).length)
  (hy : X.ns[i]? = some y) (ho : X.env.kindOf y = some .cell → X.own = true) (hsw : swapsWith (.ListComp elt [⟨target, iter, ifs, 0⟩] sc pos) (some (.Name y py)) spos.line X.env = Pure.pure true)
  (hs : ∀ x, foldedSetIterable iter X.env x = Pure.pure x) (hi : SndI X iter mi) (htu : ∀ it v, letOwnedTupleGo target it v = Pure.pure ())
  (hset : ∀ X', InC X sc X' → ∀ ρ x v, VRel ρ x v → SndU X' ρ (assign target X'.env v) (set x)) (ht : ∀ X', InC X sc X' → SndTs X' ifs mt) (he : ∀ X', InC X sc X' → SndE X' [] elt me) :
  SndS X [] (.Assign [.Name y py] (.ListComp elt [⟨target, iter, ifs, 0⟩] sc pos) spos) (zG i (pComp nt caps mi set mt me)) := by
 subst hnt
 intro A P s ρ st st' b hρ hA hI e0
 apply byC; intro kz; obtain ⟨v, st1, e1, ea⟩ := PM.bind_some e0; apply kz; clear kz
 cases ea
 show wpAny _ A (exec (.Assign [.Name y py] (.ListComp elt [⟨target, iter, ifs, 0⟩] sc pos) spos) X.env) _ _ s
 rw [exec_Assign_Name_used _ _ _ _ hsw]
 refine wpAny_bind (wpAny_standAt (wpAny_bind ?_))
 show wpAny _ A (do let _ ← comprehension (.ListComp elt [⟨target, iter, ifs, 0⟩] sc pos) sc X.env _ (newList []) false (eval iter X.env) (some (assign (.Name y py) X.env))) _ _ s
 refine wpAny_bind (zGQ (use := some (assign (.Name y py) X.env)) K C hA hs hi htu hset ht he hI e1 fun D s' ρ' c m hp I' hv hn hw => ?_)
 show wpAny _ A (assign (.Name y py) X.env (.ref D)) _ _ _
 apply byC; intro kz; obtain ⟨w1, w2, w3, w4⟩ := hw c (List.mem_singleton.mpr rfl); apply kz; clear kz
 have hth : s'.heap.get? c ≠ none := by
  apply byC; intro kz; obtain ⟨o, es, ep, h1, _⟩ := hn; apply kz; clear kz
  rw [h1]; simp
 have J := I'.hold K (fp := [c]) (wr := [c]) (fun b h => h) hw (fun b hb => .inl hb) (fun b hb => by rw [List.mem_singleton] at hb; subst hb; exact hth)
 refine wpAny_assign_Name (zBu K J hy ho hv fun s'' J' => ⟨m, hn.at' fun o e => J'.held c o (by rw [zr (List.mem_singleton.mpr rfl)]; exact e), fun h' hs' => ?_⟩)
 have I2 := I'.unhold J'
 have hnot : c ∉ ρ' := (J'.outs c (.inr (List.mem_singleton.mpr rfl))).2
 exact wpAny_pure (wpAny_pure ⟨ρ', hp, I2.sameBut (tk := s''.toks) hs' w2 hnot w3 w4, .next⟩)
end
section
variable {M : Model} {A : Around} {R : GenEnd} {Y : Protocol} {n : Nat} {s₀ : Shared} {c : Code} {fs : List Frame} {s : Shared} {env : Env}
 {K : Flow → Sem Fin} {H : Value → Sem Fin} {gd : Bool → Bool} {lv : List Value → List Value}
theorem zJq {α : Type} {m : Sem α} {K : α → Sem Fin} (h : wpAny M (A.over c fs) m (fun a s' => Seg M A R Y n s₀ c (K a) fs s') (fun _ _ => False) s) : Seg M A R Y n s₀ c (m.wrap K H gd lv) fs s :=
 seg_wrap (wpAny_mono h (fun _ _ h => h) fun _ _ h => h.elim)
theorem zAt {α β : Type} {m : Sem α} {K : α → Sem β} {K' : β → Sem Fin} (h : wpAny M (A.over c fs) m (fun a s' => Seg M A R Y n s₀ c ((K a).wrap K' H gd lv) fs s') (fun _ _ => False) s) :
  Seg M A R Y n s₀ c ((m >>= K).wrap K' H gd lv) fs s := seg_bind_wrap (wpAny_mono h (fun _ _ h => h) fun _ _ h => h.elim)
theorem zEe {t : Expr} {b o : List Stmt} {pos : Pos} (h : wpAny M (A.over c fs) (isTrue t env (eval t env)) (fun r s' => if r = true then Seg M A R Y n s₀ c ((execs b env).wrap K H gd lv) fs s' else Seg M A R Y n s₀ c ((execs o env).wrap K H gd lv) fs s') (fun _ _ => False) s) :
  Seg M A R Y n s₀ c ((exec (.If t b o pos) env).wrap K H gd lv) fs s := by
 rw [exec_If]
 refine zAt (wpAny_standAt (zAt (wpAny_mono h (fun r s' h => ?_) fun _ _ h => h)))
 cases r <;> exact h
theorem zDY {st : Stmt} {rest : List Stmt} (h : wpAny M (A.over c fs) (exec st env) (fun f s' => f = .next ∧ Seg M A R Y n s₀ c ((execs rest env).wrap K H gd lv) fs s') (fun _ _ => False) s) :
  Seg M A R Y n s₀ c ((execs (st :: rest) env).wrap K H gd lv) fs s :=
 seg_execs_cons (zJq (wpAny_mono h (fun f s' h => by obtain ⟨rfl, h⟩ := h; exact h) fun _ _ h => h))
theorem zJr {target iter : Expr} {body orelse : List Stmt} {pos : Pos}
  (h : wpAny M (A.over c fs) (eval iter env) (fun x s₁ => wpAny M (A.over c fs) (pyIter x) (fun it s₂ => ∀ p, Seg M A R Y n s₀ (.forLoop target it body orelse env) (M.den (.forLoop target it body orelse env))
   (.ret (fun r => ((match r with | .ok f => (.pure f : Sem Flow) | .error e => .raise e).onRaise fun (x : Value) => do
    if (← field x 1) == Value.none then unsupported "frame.own-activation:exception-without-traceback"
    setFlight x env.frame).wrap K H gd lv) none (gd false) (lv []) c p [] :: fs) s₂) (fun _ _ => False) s₁) (fun _ _ => False) s)
  (hs : ∀ x, foldedSetIterable iter env x = pure x) :
  Seg M A R Y n s₀ c ((exec (.For target iter body orelse pos) env).wrap K H gd lv) fs s := by
 rw [exec_For]
 refine zAt (wpAny_standAt (zAt (wpAny_mono h (fun x s₁ h₁ => zAt (wpAny_of_eq (hs x) (zAt (wpAny_standAt (zAt (wpAny_holding (wpAny_mono h₁ (fun it s₂ h₂ => ?_) fun _ _ h => h))))))) fun _ _ h => h)))
 exact seg_call h₂
end
section
variable {prog : Program} {w : World} {A : Around} {R : GenEnd} {Y : Protocol} {n : Nat} {s₀ : Shared} {fs : List Frame} {s : Shared} {env : Env}
theorem zGR {target : Expr} {it : Value} {body : List Stmt}
  (h : wpAny (model prog w) (A.over (.forLoop target it body [] env) fs) (pyNext it) (fun r s₁ => match r with
    | none => Seg (model prog w) A R Y n s₀ (.block [] env) (.pure (.done .next)) fs s₁
    | some v => wpAny (model prog w) (A.over (.forLoop target it body [] env) fs) (letOwnedTupleGo target it v) (fun _ s₂ =>
      wpAny (model prog w) (A.over (.forLoop target it body [] env) fs) (assign target env v) (fun _ s₃ =>
       Seg (model prog w) A R Y n s₀ (.forLoop target it body [] env) ((execs body env).wrap (fun f => match f with
        | .next | .cont => .pure (.again (.forLoop target it body [] env))
        | .brk => .pure (.done .next)
        | .ret v => .pure (.done (.ret v))) (fun e => (do noteFrame e env; theTreesLotGoes e : Sem Unit).wrap (fun _ => .raise e) .raise id id) id id) fs s₃) (fun _ _ => False) s₂) (fun _ _ => False) s₁)
   (fun _ _ => False) s) :
  Seg (model prog w) A R Y n s₀ (.forLoop target it body [] env) ((model prog w).den (.forLoop target it body [] env)) fs s := by
 show Seg _ A R Y n s₀ _ ((forTurn target it body [] env).onRaise (fun x => do noteFrame x env; theTreesLotGoes x)) fs s
 unfold forTurn
 rw [Sem.onRaise_eq_wrap]
 refine zAt (wpAny_standAt (zAt (wpAny_onRaise (wpAny_mono h (fun r s₁ h₁ => ?_) fun _ _ h => h.elim))))
 cases r with
 | none => exact seg_again rfl h₁
 | some v =>
  refine zAt (wpAny_mono h₁ (fun _ s₂ h₂ => zAt (wpAny_mono h₂ (fun _ s₃ h₃ => ?_) fun _ _ h => h)) fun _ _ h => h)
  rw [Sem.bind_eq_wrap', Sem.wrap_wrap]
  rw [Sem.wrap_congr (execs body env) _ _ (K' := fun f => match f with
      | .next | .cont => .pure (.again (.forLoop target it body [] env))
      | .brk => .pure (.done .next)
      | .ret v => .pure (.done (.ret v))) (H' := (fun e => (do noteFrame e env; theTreesLotGoes e : Sem Unit).wrap (fun _ => .raise e) .raise id id))
    (fun f => by cases f <;> rfl)
    (fun e => by first | exact Sem.bind_eq_wrap _ _ | (show (do noteFrame e env; theTreesLotGoes e : Sem Unit).bind (fun _ => .raise e) = _; rw [Sem.bind_eq_wrap]))]
  exact h₃
theorem zJs {E : Value → Shared → Prop} {a : Addr} {g n : Nat} {gs : GenState} {P : Nat → Shared → Shared → Prop} {Y : Protocol} {Q : Option Value → Shared → Prop} (hh : A.handled = none)
  (hl : s.heap.NoLimit) (hroom : A.depth < recursionLimit)
  (hg : s.heap.IsGen a g) (hgs : s.gens[g]? = some gs)
  (hgo : gs.Goes (model prog w) A.in1 (fun n s₀ r s₁ => r = .ok (.ret .none) ∧ P n s₀ s₁) Y n (.send .none) (s.setGen g .running))
  (hY : ∀ v s₁ gs', gs'.bare = true → Y (n - 1) (s.setGen g .running) v s₁ (fun r' s'' => match n with
    | 0 => False
    | m + 1 => gs'.Goes (model prog w) A.in1 (fun n s₀ r s₁ => r = .ok (.ret .none) ∧ P n s₀ s₁) Y m r' s'') → Q (some v) (s₁.setGen g gs'))
  (hP : ∀ s₁, P n (s.setGen g .running) s₁ → ∀ h', (∀ b o, s₁.heap.get? b = some o → h'.get? b = some o) → Q none { s₁.setGen g .finished with heap := h' }) :
  wpAny (model prog w) A (pyNext (.ref a)) Q E s := by
 unfold pyNext
 refine wpAny_bind (wpAny_attempt (wpAny_callSpecial?_slot (name := Str.ofString "__next__") hg.typeIs slot_gen_next
  (wpAny_call_entry slot_gen_next hg.typeIs entry_gen_next ?_ (args_gen_next _))))
 show wpAny _ A.in1 (Builtin.Generator.genWake (.ref a) (.send .none)) _ _ s
 unfold Builtin.Generator.genWake
 refine wpAny_bind (wpAny_holding (wpAny_genNumber hg (wpAny_bind (wpAny_genState hgs ?_))))
 cases gs with
 | running => exact hgo.elim
 | finished => exact hgo.elim
 | _ =>
  refine wpAny_bind (wpAny_roomToWake hl hroom ?_)
  show wpAny _ A.in1 (.resume g (.send .none) [] _) _ _ s
  refine wpAny_resumeQ hgs hgo (fun x s₁ hx => ?_) (fun v s₁ gs' hb hv => ?_)
  ·obtain ⟨rfl, hp⟩ := hx
   show wpAny _ A.in1 (newExc (.type "StopIteration") [] >>= _) _ _ _
   refine wpAny_bind ?_
   simp only [newExc, newTuple]
   refine wpAny_bind (wpAny_newObj_type ?_ (by size_fits))
   refine wpAny_bind (m := firstArgMember _ _) (wpAny_of_eq (a := Value.none) (by first | rfl | (simp only [firstArgMember]; rfl)) ?_)
   refine wpAny_newObj_type ?_ (by size_fits)
   refine wpAny_bind (wpAny_bind (wpAny_handled ?_))
   first | rw [show A.in1.handled = none from hh] | rw [hh]
   refine wpAny_throw ?_
   refine wpAny_bind (wpAny_isInstance (T := "StopIteration") (b := true) ⟨_, Heap.get?_push_size _ rfl, rfl⟩ isSubtype_stop ?_)
   exact wpAny_pure (hP s₁ hp _ fun b o hb => Heap.get?_push_of_some _ (Heap.get?_push_of_some _ hb))
  ·exact wpAny_pure ⟨v, rfl, wpAny_pure (hY v s₁ gs' hb hv)⟩
end
section
variable {X : Stat} {P : Prot} {ρ ρ' : List Addr} {st st' : PSt} {s s' : Shared}
theorem zDZ (K : XOK X) {A : Around} (hA : A.handled = none) (I : Inv X P ρ st s) {i j : Nat} {x y : Str} {p1 p2 pos : Pos} {k : Nat} {a b : PV} {ra rb : Value} {T : Addr} {Q : Unit → Shared → Prop} {E : Value → Shared → Prop}
  (hx : X.ns[i]? = some x) (hy : X.ns[j]? = some y) (ox : X.env.kindOf x = some .cell → X.own = true) (oy : X.env.kindOf y = some .cell → X.own = true) (ha : VRel ρ a ra) (hb : VRel ρ b rb)
  (hT : s.heap.IsTuple T #[ra, rb]) (h : ∀ s', Inv X P ρ { st with vars := (st.vars.set i (some a)).set j (some b) } s' → Q () s') :
  wpAny (model X.G.prog X.G.w) A (assign (.Tuple [.Name x p1, .Name y p2] k pos) X.env (.ref T)) Q E s := by
 refine wpAny_assign_Tuple (items := #[ra, rb]) hA hT rfl rfl fun h' hk => ?_
 have I1 : Inv X P ρ st { s with heap := h' } := I.grow (tk := s.toks) fun b o e => hk b o (Nat.ne_of_lt (Heap.lt_size e)) e
 show wpAny _ A (assignInOrder [assign (.Name x p1) X.env, assign (.Name y p2) X.env] [ra, rb]) Q E _
 refine wpAny_bind ?_
 first
  | refine wpAny_holding ?_
  | skip
 refine wpAny_assign_Name (zBu K I1 hx ox ha fun s2 I2 => ?_)
 refine wpAny_bind ?_
 first
  | refine wpAny_holding ?_
  | skip
 refine wpAny_assign_Name (zBu K I2 hy oy hb fun s3 I3 => ?_)
 exact wpAny_pure (h s3 I3)
end
noncomputable def escGo (i : Nat) (last : Int) : Bool → List Nat → List (Int × Str)
 | e, [] => if e then [(last, ⟨#[92]⟩)] else []
 | true, c :: cs => ((i : Int), (⟨#[92]⟩ : Str) ++ ⟨#[c]⟩) :: escGo (i + 1) i false cs
 | false, c :: cs => if c = 92 then escGo (i + 1) i true cs else ((i : Int), ⟨#[c]⟩) :: escGo (i + 1) i false cs
noncomputable def ze (x : Str) : List (Int × Str) := escGo 0 0 false x.cps.toList
structure Mv (L e it : Addr) (s₀ s₁ : Shared) : Prop where
 heap : ∀ b o, b ≠ L → b ≠ e → b ≠ it → s₀.heap.get? b = some o → s₁.heap.get? b = some o
 gens : ∀ (k : Nat) x, s₀.gens[k]? = some x → s₁.gens[k]? = some x
 bare : AllBare s₁.gens
 os : s₁.os = s₀.os
structure Pers (G : Ctx) (S : List Addr) (s s' : Shared) : Prop where
 heap : ∀ b o, b ∈ S → s.heap.get? b = some o → s'.heap.get? b = some o
 old : ∀ a o, G.h₀.get? a = some o → s'.heap.get? a = some o
 bare : AllBare s'.gens
noncomputable def GY (G : Ctx) (L e it : Addr) (ys : List (Int × Str)) : Protocol := fun m s₀ v s' kap =>
 (∃ q T t t' n, ys[ys.length - 1 - m]? = some q ∧ v = .ref T ∧ s'.heap.get? T = some { cls := .type "tuple", data := .seq #[.int q.1 t, .str q.2 t'] n }) ∧ Mv L e it s₀ s' ∧
  ∃ S, L ∈ S ∧ e ∈ S ∧ (∀ b ∈ S, b = L ∨ b = e ∨ b = it) ∧ (∀ b ∈ S, s'.heap.get? b ≠ none) ∧ ∀ s'', Pers G S s' s'' → kap (.send .none) s''
noncomputable def GR (L e it : Addr) : GenEnd := fun n s₀ r s₁ => r = .ok (.ret .none) ∧ (n = 0 ∧ Mv L e it s₀ s₁)
structure PB (P : Prot) (L e it : Addr) (s₀ : Shared) : Prop where
 heap : ∀ b o, b ≠ L → b ≠ e → b ≠ it → s₀.heap.get? b = some o → P.B b = some o
 gens : ∀ (k : Nat) x, s₀.gens[k]? = some x → P.gB k = some x
 os : P.os = s₀.os
 no : P.B e = none ∧ P.B it = none
section
variable {X : Stat} {P : Prot} {ρ : List Addr} {st : PSt} {s s₀ : Shared} {e it : Addr}
theorem PB.mv (B : PB P X.env.locals e it s₀) (I : Inv X P ρ st s) : Mv X.env.locals e it s₀ s :=
 ⟨fun b o h1 h2 h3 h4 => I.held b o (B.heap b o h1 h2 h3 h4), fun k x h => I.gheld k x (B.gens k x h), I.bare, I.os.trans B.os⟩
theorem PB.wr (B : PB P X.env.locals e it s₀) (hL : X.env.locals ≠ e ∧ X.env.locals ≠ it) (hc : X.env.cells = []) : WrOK X P [] [e, it] := fun b hb => by
 refine ⟨fun h => (by cases h), ?_, ?_, fun x c h => by rw [hc] at h; cases h⟩
 ·simp only [List.mem_cons, List.not_mem_nil, or_false] at hb
  rcases hb with rfl | rfl
  ·exact B.no.1
  ·exact B.no.2
 ·simp only [List.mem_cons, List.not_mem_nil, or_false] at hb
  rcases hb with rfl | rfl
  ·exact hL.1
  ·exact hL.2
noncomputable def zAE (e it : Addr) (ty : String) (x : Str) (t : Tok) (i : Nat) (h : Heap) : Prop := (∃ old, IsEnum h e it i old) ∧ h.IsStrIter it ty x t i
theorem zAE.alive {ty : String} {x : Str} {t : Tok} {i : Nat} {h : Heap} (hs : zAE e it ty x t i h) : ∀ b ∈ [e, it], h.get? b ≠ none := fun b hb => by
 obtain ⟨⟨old, h1⟩, o, h2, _⟩ := hs
 simp only [List.mem_cons, List.not_mem_nil, or_false] at hb
 rcases hb with rfl | rfl
 ·have h1 : h.get? _ = some _ := h1
  rw [h1]; simp
 ·rw [h2]; simp
theorem zAE.at {ty : String} {x : Str} {t : Tok} {i : Nat} {h h' : Heap} (hs : zAE e it ty x t i h) (k : ∀ b o, b = e ∨ b = it → h.get? b = some o → h'.get? b = some o) : zAE e it ty x t i h' := by
 obtain ⟨⟨old, h1⟩, o, h2, r⟩ := hs
 exact ⟨⟨old, k _ _ (.inl rfl) h1⟩, o, k _ _ (.inr rfl) h2, r⟩
end
noncomputable def PBase (L e it : Addr) (s : Shared) : Prot where
 B := fun a => if a = L ∨ a = e ∨ a = it then none else s.heap.get? a
 out := fun _ => False
 gB := fun k => s.gens[k]?
 os := s.os
theorem PBase.ok (L e it : Addr) (s : Shared) : PB (PBase L e it s) L e it s := by
 refine ⟨fun b o h1 h2 h3 h => ?_, fun k x h => h, rfl, ?_, ?_⟩
 ·unfold PBase
  dsimp only
  rw [if_neg (by simp [h1, h2, h3])]
  exact h
 ·unfold PBase; simp
 ·unfold PBase; simp
noncomputable def AllSc (vars : List (Option PV)) : Prop := ∀ (i : Nat) (v : PV), vars[i]? = some (some v) → isSc v = true
section
variable {X : Stat} {P : Prot} {ρ : List Addr} {st : PSt} {s s' s₀ : Shared} {e it : Addr}
theorem zGS (hcells : X.env.cells = []) (hnk : ∀ x ∈ X.ns, X.env.kindOf x = some .local) (hno : X.G.h₀.get? X.env.locals = none ∧ X.G.h₀.get? e = none ∧ X.G.h₀.get? it = none) (I : Inv X P ρ st s) (hsc : AllSc st.vars) {S : List Addr} (hS : X.env.locals ∈ S) (Pr : Pers X.G S s s') :
  Inv X (PBase X.env.locals e it s') [] { vars := st.vars, hp := [] } s' := by
 refine ⟨fun a o h => ?_, fun a o h => ?_, fun a h => h.elim, List.nodup_nil, rfl, fun i a c h => by simp at h, fun i a c h => by simp at h, Pr.bare, fun k x h => h, rfl, ?_⟩
 ·unfold PBase at h
  dsimp only at h
  split at h
  ·cases h
  ·exact h
 ·unfold PBase
  dsimp only
  rw [if_neg]
  ·exact Pr.old a o h
  ·rintro (rfl | rfl | rfl)
   ·rw [hno.1] at h; cases h
   ·rw [hno.2.1] at h; cases h
   ·rw [hno.2.2] at h; cases h
 ·obtain ⟨m, hm, hv⟩ := I.fr.loc
  refine ⟨by unfold PBase; simp, fun h => (by cases h), ⟨m, hm.at' fun o h => Pr.heap _ _ hS h, fun i x v h1 h2 h3 => ?_⟩, fun i x h1 h2 => ?_, I.fr.len⟩
  ·obtain ⟨rv, h4, h5⟩ := hv i x v h1 h2 h3
   exact ⟨rv, h4, zEY (hsc i v h3) h5⟩
  ·rw [hnk x (List.mem_of_getElem? h1)] at h2
   cases h2
theorem zGT {α : Type} {ys r : List α} {j : Nat} {q : α} (h : ys.drop j = q :: r) : ys[ys.length - 1 - r.length]? = some q ∧ ys.drop (j + 1) = r := by
 have hl := congrArg List.length h
 rw [List.length_drop, List.length_cons] at hl
 have hj : ys[j]? = some q := by
  have := congrArg (·[0]?) h
  simpa using this
 constructor
 ·rw [show ys.length - 1 - r.length = j by omega]
  exact hj
 ·rw [← List.tail_drop, h]; rfl
theorem zGU (K : XOK X) (hcells : X.env.cells = []) (hnk : ∀ x ∈ X.ns, X.env.kindOf x = some .local) (hno : X.G.h₀.get? X.env.locals = none ∧ X.G.h₀.get? e = none ∧ X.G.h₀.get? it = none) (hco : X.env.scope.isCoroutine = false)
  {A : Around} {c : Code} {fs : List Frame} (hA : AOK X.d (A.over c fs)) (I : Inv X P [] st s) (hhp : st.hp = []) (hB : PB P X.env.locals e it s₀) (hsc : AllSc st.vars) {ty : String} {x : Str} {t : Tok} {i : Nat} (hE : zAE e it ty x t i s.heap)
  (hL : X.env.locals ≠ e ∧ X.env.locals ≠ it) {elts : List Expr} {k : Nat} {p1 p2 p3 : Pos} {ms : PM (List PV)} {q : Int × Str} {ys r : List (Int × Str)} {j : Nat} (hys : ys.drop j = q :: r) {H : Value → Sem Fin} {K' : Flow → Sem Fin} {gd : Bool → Bool} {lv : List Value → List Value}
  (hel : SndL X elts ms) (hms : ms st = some ([.int q.1, .str q.2], st)) (hfs : splitAtGen fs = none) (hgd : gd false = false) (hfg : fs.any Frame.guarded = false)
  (h : ∀ s'', Inv X (PBase X.env.locals e it s'') [] st s'' → zAE e it ty x t i s''.heap → ys.drop (j + 1) = r → Seg (model X.G.prog X.G.w) A (GR X.env.locals e it) (GY X.G X.env.locals e it ys) r.length s'' c (K' .next) fs s'') :
  Seg (model X.G.prog X.G.w) A (GR X.env.locals e it) (GY X.G X.env.locals e it ys) (q :: r).length s₀ c ((exec (.Expr (.Yield (some (.Tuple elts k p1)) p2) p3) X.env).wrap K' H gd lv) fs s := by
 apply byC; intro kz; obtain ⟨hq, hr⟩ := zGT hys; apply kz; clear kz
 have hfpok : FpOK [] st [e, it] [e, it] := fun b hb => .inl hb
 have J := I.hold K (fp := [e, it]) (wr := [e, it]) (fun b h => h) (hB.wr hL hcells) hfpok hE.alive
 have hT : zU ms st = some ((PV.ref 0), ({ vars := st.vars, hp := [(false, PO.tuple [.int q.1, .str q.2])] } : PSt)) := by
  simp [zU, PM.bind, hms, zu, hhp, zH]
 rw [List.length_cons]
 refine seg_Expr_Yield hfs hgd hfg ((zAc K (k := k) (pos := p1) hel).run (List.prefix_refl _) hA J hT fun v s1 ρ1 hp1 J1 hv => ?_) hco (by unfold interactive; rw [K.fn]; rfl)
 intro kap hk
 have I1 := I.unhold J1
 cases hv with
 | ref h0 =>
  rename_i T
  apply byC; intro kz; obtain ⟨vs, n, g1, r1⟩ := I1.ref_at (c := (false, .tuple [.int q.1, .str q.2])) h0 rfl; apply kz; clear kz
  cases r1 with
  | cons a1 r1 =>
   cases a1 with
   | int _ t1 =>
    cases r1 with
    | cons a2 r2 =>
     cases a2 with
     | str _ t2 =>
      cases r2
      have hE1 : zAE e it ty x t i s1.heap := hE.at fun b o hb hg => J1.held b o (by rw [zr (by rcases hb with rfl | rfl <;> simp)]; exact hg)
      refine ⟨⟨q, T, t1, t2, n, hq, rfl, g1⟩, hB.mv I1, [X.env.locals, e, it], .head _, .tail _ (.head _), fun b hb => by simpa using hb, fun b hb => ?_, fun s'' Pr => hk .none s'' ?_⟩
      ·rcases List.mem_cons.mp hb with rfl | hb
       ·apply byC; intro kz; obtain ⟨m, ⟨o, es, ep, h1, _⟩, _⟩ := I1.fr.loc; apply kz; clear kz
        rw [h1]; simp
       ·exact hE1.alive b hb
      ·have I2 := zGS hcells hnk hno I1 hsc (.head _) Pr
       have hst : ({ vars := st.vars, hp := [] } : PSt) = st := by rw [← hhp]
       have I2' : Inv X (PBase X.env.locals e it s'') [] st s'' := by rw [← hst]; exact I2
       exact h s'' I2' (hE1.at fun b o hb hg => Pr.heap b o (by rcases hb with rfl | rfl <;> simp) hg) hr
theorem zJt (K : XOK X) (hcells : X.env.cells = []) (hnk : ∀ x ∈ X.ns, X.env.kindOf x = some .local) (hno : X.G.h₀.get? X.env.locals = none ∧ X.G.h₀.get? e = none ∧ X.G.h₀.get? it = none) (hco : X.env.scope.isCoroutine = false)
  {A : Around} {c : Code} {fs : List Frame} (hA : AOK X.d (A.over c fs)) (I : Inv X P [] st s) (hhp : st.hp = []) (hB : PB P X.env.locals e it s₀) (hsc : AllSc st.vars) (heal : s.heap.get? e ≠ none) (hL : X.env.locals ≠ e ∧ X.env.locals ≠ it)
  {elts : List Expr} {k : Nat} {p1 p2 p3 : Pos} {ms : PM (List PV)} {q : Int × Str} {ys r : List (Int × Str)} {j : Nat} (hys : ys.drop j = q :: r) {H : Value → Sem Fin} {K' : Flow → Sem Fin} {gd : Bool → Bool} {lv : List Value → List Value}
  (hel : SndL X elts ms) (hms : ms st = some ([.int q.1, .str q.2], st)) (hfs : splitAtGen fs = none) (hgd : gd false = false) (hfg : fs.any Frame.guarded = false)
  (h : ∀ s'', Inv X (PBase X.env.locals e it s'') [] st s'' → ys.drop (j + 1) = r → Seg (model X.G.prog X.G.w) A (GR X.env.locals e it) (GY X.G X.env.locals e it ys) r.length s'' c (K' .next) fs s'') :
  Seg (model X.G.prog X.G.w) A (GR X.env.locals e it) (GY X.G X.env.locals e it ys) (q :: r).length s₀ c ((exec (.Expr (.Yield (some (.Tuple elts k p1)) p2) p3) X.env).wrap K' H gd lv) fs s := by
 apply byC; intro kz; obtain ⟨hq, hr⟩ := zGT hys; apply kz; clear kz
 have J := I.hold K (fp := [e]) (wr := [e]) (fun b h => h) (fun b hb => hB.wr hL hcells b (by rw [List.mem_singleton] at hb; subst hb; simp)) (fun b hb => .inl hb) (fun b hb => by rw [List.mem_singleton] at hb; subst hb; exact heal)
 have hT : zU ms st = some ((PV.ref 0), ({ vars := st.vars, hp := [(false, PO.tuple [.int q.1, .str q.2])] } : PSt)) := by
  simp [zU, PM.bind, hms, zu, hhp, zH]
 rw [List.length_cons]
 refine seg_Expr_Yield hfs hgd hfg ((zAc K (k := k) (pos := p1) hel).run (List.prefix_refl _) hA J hT fun v s1 ρ1 hp1 J1 hv => ?_) hco (by unfold interactive; rw [K.fn]; rfl)
 intro kap hk
 have I1 := I.unhold J1
 cases hv with
 | ref h0 =>
  rename_i T
  apply byC; intro kz; obtain ⟨vs, n, g1, r1⟩ := I1.ref_at (c := (false, .tuple [.int q.1, .str q.2])) h0 rfl; apply kz; clear kz
  cases r1 with
  | cons a1 r1 =>
   cases a1 with
   | int _ t1 =>
    cases r1 with
    | cons a2 r2 =>
     cases a2 with
     | str _ t2 =>
      cases r2
      refine ⟨⟨q, T, t1, t2, n, hq, rfl, g1⟩, hB.mv I1, [X.env.locals, e], .head _, .tail _ (.head _), fun b hb => ?_, fun b hb => ?_, fun s'' Pr => hk .none s'' ?_⟩
      ·simp only [List.mem_cons, List.not_mem_nil, or_false] at hb
       rcases hb with rfl | rfl
       ·exact .inl rfl
       ·exact .inr (.inl rfl)
      ·simp only [List.mem_cons, List.not_mem_nil, or_false] at hb
       rcases hb with rfl | rfl
       ·apply byC; intro kz; obtain ⟨m, ⟨o, es, ep, h1, _⟩, _⟩ := I1.fr.loc; apply kz; clear kz
        rw [h1]; simp
       ·cases eq : s.heap.get? b with
        | none => exact absurd eq heal
        | some o => rw [J1.held b o (by rw [zr (List.mem_singleton.mpr rfl)]; exact eq)]; simp
      ·have I2 := zGS hcells hnk hno I1 hsc (.head _) Pr
       have hst : ({ vars := st.vars, hp := [] } : PSt) = st := by rw [← hhp]
       have I2' : Inv X (PBase X.env.locals e it s'') [] st s'' := by rw [← hst]; exact I2
       exact h s'' I2' hr
end
section
variable {X : Stat}
theorem zJu (c d : Nat) : ((⟨#[c]⟩ : Str) == ⟨#[d]⟩) = decide (c = d) := by
 rw [Bool.eq_iff_iff]
 simp
theorem zGV (X : Stat) {A : Around} (hA : A.handled = none) {e it : Addr} (hne : e ≠ it) (x : Str) (t : Tok) : WalksT X.G.prog X.G.w A e [e, it] [e, it] x.cps.size (fun i vals => ∃ t' v, SignAt x i v ∧ vals = #[.int i t', v])
  (fun i h => zAE e it (strIterType x) x t i h) (fun i T h => (∃ v, IsEnumOut h e it ((i : Int) + 1) v T) ∧ h.IsStrIter it (strIterType x) x t (i + 1) ∧ T ≠ e ∧ T ≠ it) := by
 cases hx : x.cps.all (· < 128)
 ·have D := Draws.strWide (prog := X.G.prog) (w := X.G.w) (A := A.in1) hA it x t
  have W := WalksT.enumerateD D e hne (by simpa using hne) (by simp)
  have hty : strIterType x = "str_iterator" := by simp [strIterType, hx]
  unfold zAE
  rw [hty]
  exact W
 ·have D := Draws.strAscii (prog := X.G.prog) (w := X.G.w) (A := A.in1) hA it x t
  have W := WalksT.enumerateD D e hne (by simpa using hne) (by simp)
  have hty : strIterType x = "str_ascii_iterator" := by simp [strIterType, hx]
  unfold zAE
  rw [hty]
  exact W
theorem zJv (X : Stat) {A : Around} (hA : A.handled = none) {e it : Addr} (x : Str) (t : Tok) {s : Shared} {Q : Option Value → Shared → Prop} {E : Value → Shared → Prop} (hE : zAE e it (strIterType x) x t x.cps.size s.heap)
  (hQ : ∀ h', Heap.ExtBut it s.heap h' → Q none { s with heap := h' }) : wpAny (model X.G.prog X.G.w) A (pyNext (.ref e)) Q E s := by
 obtain ⟨⟨old, h1⟩, h2⟩ := hE
 cases hx : x.cps.all (· < 128)
 ·have D := Draws.strWide (prog := X.G.prog) (w := X.G.w) (A := A.in1) hA it x t
  have hty : strIterType x = "str_iterator" := by simp [strIterType, hx]
  rw [hty] at h2
  exact wpAny_pyNext_enum_endD D h1 h2 hQ
 ·have D := Draws.strAscii (prog := X.G.prog) (w := X.G.w) (A := A.in1) hA it x t
  have hty : strIterType x = "str_ascii_iterator" := by simp [strIterType, hx]
  rw [hty] at h2
  exact wpAny_pyNext_enum_endD D h1 h2 hQ
theorem zJw (K : XOK X) (hcells : X.env.cells = []) (hnk : ∀ x ∈ X.ns, X.env.kindOf x = some .local) {e it : Addr} (hno : X.G.h₀.get? X.env.locals = none ∧ X.G.h₀.get? e = none ∧ X.G.h₀.get? it = none) (hco : X.env.scope.isCoroutine = false)
  (n1 : X.ns[1]? = some ("pos" : Str)) (n2 : X.ns[2]? = some ("escape" : Str)) (n3 : X.ns[3]? = some ("ch" : Str)) (hne : e ≠ it) (hL : X.env.locals ≠ e ∧ X.env.locals ≠ it) {x : Str} {t : Tok} {ys : List (Int × Str)} (hbig : x.length ≤ zH)
  {p1 p2 p3 p4 p5 p6 p7 p8 p9 p10 p11 p12 p13 p14 p15 p16 p17 p18 p19 p20 p21 p22 p23 p24 q1 q2 q3 : Pos} {k1 k2 k3 k4 k5 k6 kt : Nat} {body : List Stmt}
  (hbody : body = [.If (.Name "escape" p1) [.Expr (.Yield (some (.Tuple [.Name "pos" p2, .BinOp (.Constant (.str "\\") k1 p3) .Add (.Name "ch" p4) p5] k2 p6)) p7) p8, .Assign [.Name "escape" p9] (.Constant (.bool false) k3 p10) p11]
   [.If (.Compare (.Name "ch" p12) [.Eq] [.Constant (.str "\\") k4 p13] p14) [.Assign [.Name "escape" p15] (.Constant (.bool true) k5 p16) p17] [.Expr (.Yield (some (.Tuple [.Name "pos" p18, .Name "ch" p19] k6 p20)) p21) p22] p23] p24])
  {A : Around} {fs : List Frame} (hA : AOK X.d (A.over (.forLoop (.Tuple [.Name "pos" q1, .Name "ch" q2] kt q3) (.ref e) body [] X.env) fs)) (hfs : splitAtGen fs = none) (hfg : fs.any Frame.guarded = false)
  (hafter : ∀ (s₀ s : Shared) (P : Prot) (st : PSt) (last : Int) (esc : Bool) (chv : Option PV) (j : Nat), Inv X P [] st s → PB P X.env.locals e it s₀ → s.heap.get? e ≠ none → st.hp = [] → st.vars = [some (.str x), some (.int last), some (.bool esc), chv] →
   (chv = none ∨ ∃ z, chv = some (.str z)) → ys.drop j = escGo x.cps.size last esc [] → Seg (model X.G.prog X.G.w) A (GR X.env.locals e it) (GY X.G X.env.locals e it ys) (escGo x.cps.size last esc []).length s₀ (.block [] X.env) (.pure (.done .next)) fs s) :
  ∀ (cs : List Nat) (i : Nat) (last : Int) (esc : Bool) (chv : Option PV) (s₀ s : Shared) (P : Prot) (st : PSt) (j : Nat), i ≤ x.cps.size → x.cps.toList.drop i = cs → Inv X P [] st s → PB P X.env.locals e it s₀ → zAE e it (strIterType x) x t i s.heap →
   st.hp = [] → st.vars = [some (.str x), some (.int last), some (.bool esc), chv] → (chv = none ∨ ∃ z, chv = some (.str z)) → ys.drop j = escGo i last esc cs →
   Seg (model X.G.prog X.G.w) A (GR X.env.locals e it) (GY X.G X.env.locals e it ys) (escGo i last esc cs).length s₀ (.forLoop (.Tuple [.Name "pos" q1, .Name "ch" q2] kt q3) (.ref e) body [] X.env)
    ((model X.G.prog X.G.w).den (.forLoop (.Tuple [.Name "pos" q1, .Name "ch" q2] kt q3) (.ref e) body [] X.env)) fs s := by
 have W := zGV X hA.handled hne x t
 have hloc : ∀ y, y ∈ X.ns → X.env.kindOf y = some .cell → X.own = true := fun y hy h => by
  rw [hnk y hy] at h; cases h
 have o1 := hloc _ (List.mem_of_getElem? n1)
 have o2 := hloc _ (List.mem_of_getElem? n2)
 have o3 := hloc _ (List.mem_of_getElem? n3)
 intro cs
 induction cs with
 | nil =>
  intro i last esc chv s₀ s P st j hi hd I hB hE hhp hv hch hys
  have hie : i = x.cps.size := by
   have := congrArg List.length hd
   rw [List.length_drop, Array.length_toList, List.length_nil] at this
   lia
  subst hie
  refine zGR (zJv X hA.handled x t hE fun h' hk1 => ?_)
  have hk : ∀ b o, b ∉ [e, it] → s.heap.get? b = some o → h'.get? b = some o := fun b o hb h => hk1 b o (fun q => hb (by simp [q])) h
  have heal : h'.get? e ≠ none := by
   apply byC; intro kz; obtain ⟨⟨old, h1⟩, _⟩ := hE; apply kz; clear kz
   rw [hk1 e _ hne h1]; simp
  have hw := hB.wr hL hcells
  have I' : Inv X P [] st { s with heap := h', toks := s.toks } := I.wr [e, it] hk (fun a h => (hw a h).2.1) (fun a h => (hw a h).1) (fun h => (hw _ h).2.2.1 rfl) (fun x c hc h => (hw _ h).2.2.2 x c hc rfl)
  exact hafter s₀ _ P st last esc chv j I' hB heal hhp hv hch hys
 | cons c cs ih =>
  intro i last esc chv s₀ s P st j hi hd I hB hE hhp hv hch hys
  have hlt : i < x.cps.size := by
   have := congrArg List.length hd
   rw [List.length_drop, Array.length_toList, List.length_cons] at this
   lia
  have hci : x.cps[i]? = some c := by
   have := congrArg (·[0]?) hd
   simpa using this
  have hd' : x.cps.toList.drop (i + 1) = cs := by rw [← List.tail_drop, hd]; rfl
  have hw := hB.wr hL hcells
  refine zGR (W.item i s _ _ hlt hE fun T vals h' tk hPt hTs hTup hMid hk => ?_)
  have I1 : Inv X P [] st { s with heap := h', toks := tk } := I.wr [e, it] hk (fun a h => (hw a h).2.1) (fun a h => (hw a h).1) (fun h => (hw _ h).2.2.1 rfl) (fun x c hc h => (hw _ h).2.2.2 x c hc rfl)
  refine W.go _ _ _ i T { s with heap := h', toks := tk } _ _ hMid fun h'' hE2 hk2 => ?_
  have I2 : Inv X P [] st { s with heap := h'', toks := tk } := I1.wr [e, it] hk2 (fun a h => (hw a h).2.1) (fun a h => (hw a h).1) (fun h => (hw _ h).2.2.1 rfl) (fun x c hc h => (hw _ h).2.2.2 x c hc rfl)
  have hTup2 : h''.IsTuple T vals := by
   apply byC; intro kz; obtain ⟨o, ho, r⟩ := hTup; apply kz; clear kz
   exact ⟨o, hk2 _ _ (W.apart _ _ _ hMid) ho, r⟩
  apply byC; intro kz; obtain ⟨t', v, ⟨c', u, hc', rfl⟩, rfl⟩ := hPt; apply kz; clear kz
  rw [hci] at hc'
  cases hc'
  have hfpok : ∀ st : PSt, FpOK [] st [e, it] [e, it] := fun st b hb => .inl hb
  have J2 := I2.hold K (fp := [e, it]) (wr := [e, it]) (fun b h => h) hw (hfpok _) hE2.alive
  refine zDZ K hA.handled J2 n1 n3 o1 o3 (.int (i : Int) t') (.str ⟨#[c]⟩ u) hTup2 fun s3 J3 => ?_
  have hvars : (st.vars.set 1 (some (.int (i : Int)))).set 3 (some (.str ⟨#[c]⟩)) = [some (.str x), some (.int (i : Int)), some (.bool esc), some (.str ⟨#[c]⟩)] := by rw [hv]; rfl
  rw [hvars, hhp] at J3
  have hE3 : zAE e it (strIterType x) x t (i + 1) s3.heap := hE2.at fun b o hb hg => J3.held b o (by rw [zr (by rcases hb with rfl | rfl <;> simp)]; exact hg)
  have I3 := I2.unhold J3
  have hscal : ∀ b : Bool, AllSc [some (.str x), some (.int (i : Int)), some (.bool b), some (.str ⟨#[c]⟩)] := fun b k v hk => by
   match k, hk with
   | 0, hk => cases hk; rfl
   | 1, hk => cases hk; rfl
   | 2, hk => cases hk; rfl
   | 3, hk => cases hk; rfl
   | k + 4, hk => simp at hk
  have hbigc : (⟨#[92]⟩ : Str).length + (⟨#[c]⟩ : Str).length ≤ zH := by show 2 ≤ zH; decide
  have ebody := congrArg (fun b => execs b X.env) hbody
  rw [ebody]
  refine seg_execs_cons (zEe ?_)
  have stest : SndT X [] (.Name "escape" p1) ((pVar 2).bind zI) := zA1 (fun _ => rfl) (zA K 2 n2 (by decide))
  have J3' := I3.hold K (fp := [e, it]) (wr := [e, it]) (fun b h => h) hw (hfpok _) hE3.alive
  refine stest.run List.nil_prefix hA J3' (b := esc) (st' := { vars := [some (.str x), some (.int (i : Int)), some (.bool esc), some (.str ⟨#[c]⟩)], hp := [] }) rfl fun b s4 ρ4 hp4 J4 hb => ?_
  obtain rfl : esc = b := hb
  have nilρ : ∀ {ρ : List Addr} {P' : Prot} {vars : List (Option PV)} {s' : Shared}, Inv X P' ρ { vars := vars, hp := [] } s' → ρ = [] := fun {ρ P' vars s'} I => List.length_eq_zero_iff.mp I.len
  apply byC; intro kz; obtain rfl := nilρ J4; apply kz; clear kz
  have hE4 : zAE e it (strIterType x) x t (i + 1) s4.heap := hE3.at fun b o hb hg => J4.held b o (by rw [zr (by rcases hb with rfl | rfl <;> simp)]; exact hg)
  have I4 := I3.unhold J4
  have finish : ∀ (b' b2 : Bool) (k : Nat) (pa pb pc : Pos) (s0 s5 : Shared) (P5 : Prot) (j' : Nat), Inv X P5 [] { vars := [some (.str x), some (.int (i : Int)), some (.bool b'), some (.str ⟨#[c]⟩)], hp := [] } s5 → PB P5 X.env.locals e it s0 → zAE e it (strIterType x) x t (i + 1) s5.heap →
    ys.drop j' = escGo (i + 1) i b2 cs → wpAny (model X.G.prog X.G.w) (A.over (.forLoop (.Tuple [.Name "pos" q1, .Name "ch" q2] kt q3) (.ref e) body [] X.env) fs) (exec (.Assign [.Name "escape" pa] (.Constant (.bool b2) k pb) pc) X.env)
     (fun f s' => f = .next ∧ Seg (model X.G.prog X.G.w) A (GR X.env.locals e it) (GY X.G X.env.locals e it ys) (escGo (i + 1) i b2 cs).length s0 (.forLoop (.Tuple [.Name "pos" q1, .Name "ch" q2] kt q3) (.ref e) body [] X.env)
      (.pure (.again (.forLoop (.Tuple [.Name "pos" q1, .Name "ch" q2] kt q3) (.ref e) body [] X.env))) fs s') (fun _ _ => False) s5 := fun b' b2 k pa pb pc s0 s5 P5 j' I5 B5 hE5 hys5 => by
   have hw5 := B5.wr hL hcells
   have J5 := I5.hold K (fp := [e, it]) (wr := [e, it]) (fun b h => h) hw5 (hfpok _) hE5.alive
   refine (zN K 2 n2 o2 (rfl : swapsWith (.Constant (.bool b2) k pb) (some (.Name "escape" pa)) pc.line X.env = Pure.pure false) (zAV (b := b2) (k := k) (pos := pb))).run List.nil_prefix hA J5 (b := .next)
    (st' := { vars := [some (.str x), some (.int (i : Int)), some (.bool b2), some (.str ⟨#[c]⟩)], hp := [] }) rfl fun f s6 ρ6 hp6 J6 hf => ?_
   cases hf
   apply byC; intro kz; obtain rfl := nilρ J6; apply kz; clear kz
   have hE6 : zAE e it (strIterType x) x t (i + 1) s6.heap := hE5.at fun b o hb hg => J6.held b o (by rw [zr (by rcases hb with rfl | rfl <;> simp)]; exact hg)
   exact ⟨rfl, seg_again rfl (ih (i + 1) i b2 _ s0 s6 P5 _ j' hlt hd' (I5.unhold J6) B5 hE6 rfl rfl (.inr ⟨_, rfl⟩) hys5)⟩
  cases esc with
  | true =>
   rw [if_pos rfl]
   refine seg_execs_cons ?_
   refine (zGU (ms := pCons (pVar 1) (pCons (pBin pAdd (PM.ret (.str ⟨#[92]⟩)) (pVar 3)) pNil)) (q := ((i : Int), (⟨#[92]⟩ : Str) ++ ⟨#[c]⟩)) (r := escGo (i + 1) i false cs) (j := j) K hcells hnk hno hco hA I4 rfl hB (hscal _) hE4 hL hys
    (zL rfl (zA K 1 n1 (by decide)) (zL rfl (zK zW (zA K 3 n3 (by decide)) (zS K)) zR)) ?_ hfs ?_ hfg fun s'' I5 hE5 hr => ?_)
   ·have ea : pAdd (.str ⟨#[92]⟩) (.str ⟨#[c]⟩) { vars := [some (.str x), some (.int (i : Int)), some (.bool true), some (.str ⟨#[c]⟩)], hp := [] } = some (.str ((⟨#[92]⟩ : Str) ++ ⟨#[c]⟩), { vars := [some (.str x), some (.int (i : Int)), some (.bool true), some (.str ⟨#[c]⟩)], hp := [] }) := if_pos (e := none) hbigc
    simp only [pCons, pBin, pNil, PM.bind, PM.ret, pVar, List.getElem?_cons_succ, List.getElem?_cons_zero, ea]
   ·rfl
   ·exact zDY (wpAny_mono (finish _ _ _ _ _ _ s'' s'' _ _ I5 (PBase.ok _ _ _ _) hE5 hr) (fun f s' h => h) fun _ _ h => h)
  | false =>
   rw [if_neg (by decide)]
   refine seg_execs_cons (zEe ?_)
   have stest2 : SndT X [] (.Compare (.Name "ch" p12) [.Eq] [.Constant (.str "\\") k4 p13] p14) ((pBin pEq (pVar 3) (PM.ret (.str ⟨#[92]⟩))).bind zI) := zY (zA K 3 n3 (by decide)) zW op_eq rfl
   have J4' := I4.hold K (fp := [e, it]) (wr := [e, it]) (fun b h => h) hw (hfpok _) hE4.alive
   refine stest2.run List.nil_prefix hA J4' (b := decide (c = 92)) (st' := { vars := [some (.str x), some (.int (i : Int)), some (.bool false), some (.str ⟨#[c]⟩)], hp := [] }) ?_ fun b s5 ρ5 hp5 J5 hb => ?_
   ·exact congrArg (fun b => some (b, _)) (zJu c 92)
   ·obtain rfl : decide (c = 92) = b := hb
    apply byC; intro kz; obtain rfl := nilρ J5; apply kz; clear kz
    have hE5 : zAE e it (strIterType x) x t (i + 1) s5.heap := hE4.at fun b o hb hg => J5.held b o (by rw [zr (by rcases hb with rfl | rfl <;> simp)]; exact hg)
    have I5 := I4.unhold J5
    by_cases hc92 : c = 92
    ·rw [if_pos (by simpa using hc92)]
     have hesc : escGo i last false (c :: cs) = escGo (i + 1) i true cs := if_pos hc92
     rw [hesc] at hys ⊢
     exact zDY (wpAny_mono (finish _ _ _ _ _ _ s₀ s5 _ _ I5 hB hE5 hys) (fun f s' h => h) fun _ _ h => h)
    ·rw [if_neg (by simpa using hc92)]
     have hesc : escGo i last false (c :: cs) = ((i : Int), (⟨#[c]⟩ : Str)) :: escGo (i + 1) i false cs := if_neg hc92
     rw [hesc] at hys ⊢
     refine seg_execs_cons ?_
     refine (zGU (ms := pCons (pVar 1) (pCons (pVar 3) pNil)) (q := ((i : Int), (⟨#[c]⟩ : Str))) (r := escGo (i + 1) i false cs) (j := j) K hcells hnk hno hco hA I5 rfl hB (hscal _) hE5 hL hys
      (zL rfl (zA K 1 n1 (by decide)) (zL rfl (zA K 3 n3 (by decide)) zR)) ?_ hfs ?_ hfg fun s'' I6 hE6 hr => ?_)
     ·simp only [pCons, pNil, PM.bind, PM.ret, pVar, List.getElem?_cons_succ, List.getElem?_cons_zero]
     ·rfl
     ·exact seg_again rfl (ih (i + 1) i false _ s'' s'' _ _ (j + 1) hlt hd' I6 (PBase.ok _ _ _ _) hE6 rfl rfl (.inr ⟨_, rfl⟩) hr)
end
theorem zGW {A : Around} {d : Nat} (hA : AOK (d + 1) A) {c : Code} {fs : List Frame} (hw : frameCount (fs.map Frame.where_) + c.weight ≤ 7) (hu : unitsOf (fs.map Frame.where_) + c.cUnits ≤ 90) (hm : (marksOver fs (none, none)).1 = none) : AOK d (A.over c fs) := by
 refine ⟨?_, ?_, ?_⟩
 ·show (marksOver fs (A.handled, A.handled)).1 = none
  rw [hA.handled]
  exact hm
 ·have := hA.depth
  show A.depth + frameCount (fs.map Frame.where_) + c.weight + 8 * d ≤ 950
  lia
 ·have := hA.units
  show A.units + unitsOf (fs.map Frame.where_) + c.cUnits + 100 * d ≤ 9000
  lia
inductive zCg : List Stmt → Prop
 | mk (p1 p2 p3 p4 p5 p6 p7 p8 p9 p10 p11 p12 p13 p14 p15 p16 p17 p18 p19 p20 p21 p22 p23 p24 q1 q2 q3 r1 r2 r3 r4 r5 r6 r7 r8 r9 r10 r11 r12 r13 r14 r15 r16 r17 : Pos) (k1 k2 k3 k4 k5 k6 kt k7 k8 k9 k10 : Nat) : zCg [.Assign [.Name "pos" r1] (.Constant (.int 0) k7 r2) r3, .Assign [.Name "escape" r4] (.Constant (.bool false) k8 r5) r6,
  .For (.Tuple [.Name "pos" q1, .Name "ch" q2] kt q3) (.Call (.Name "enumerate" r7) [.Name "addr" r8] [] r9)
   [.If (.Name "escape" p1) [.Expr (.Yield (some (.Tuple [.Name "pos" p2, .BinOp (.Constant (.str "\\") k1 p3) .Add (.Name "ch" p4) p5] k2 p6)) p7) p8, .Assign [.Name "escape" p9] (.Constant (.bool false) k3 p10) p11]
    [.If (.Compare (.Name "ch" p12) [.Eq] [.Constant (.str "\\") k4 p13] p14) [.Assign [.Name "escape" p15] (.Constant (.bool true) k5 p16) p17] [.Expr (.Yield (some (.Tuple [.Name "pos" p18, .Name "ch" p19] k6 p20)) p21) p22] p23] p24] [] r10,
  .If (.Name "escape" r11) [.Expr (.Yield (some (.Tuple [.Name "pos" r12, .Constant (.str "\\") k9 r13] k10 r14)) r15) r16] [] r17]
theorem zJx : bootBuiltins "enumerate" = some (.type "enumerate") := by kernel_rfl
theorem zJy {X : Stat} (K : XOK X) (hcells : X.env.cells = []) (hnk : ∀ x ∈ X.ns, X.env.kindOf x = some .local) (hco : X.env.scope.isCoroutine = false) (hns : X.ns = (["addr", "pos", "escape", "ch"] : List Str))
  (hen : X.env.kindOf "enumerate" = some .globalImplicit) (hmg : X.G.mg "enumerate" = none) {body : List Stmt} (hbody : zCg body) {A : Around} (hA : AOK (X.d + 1) A) {x : Str} {t : Tok} (hbig : x.length ≤ zH) {s : Shared} {m : Str → Option Value}
  (hm : s.heap.Ns X.env.locals m) (hx : m "addr" = some (.str x t)) (hold : ∀ a o, X.G.h₀.get? a = some o → s.heap.get? a = some o) (hnoL : X.G.h₀.get? X.env.locals = none) (hbare : AllBare s.gens) :
  Seg (model X.G.prog X.G.w) A (GR X.env.locals (s.heap.objs.size + 1) s.heap.objs.size) (GY X.G X.env.locals (s.heap.objs.size + 1) s.heap.objs.size (ze x)) (ze x).length s (.func body X.env) ((model X.G.prog X.G.w).den (.func body X.env)) [] s := by
 have hAf : AOK X.d (A.over (.func body X.env) []) := zGW hA (show 0 + 1 ≤ 7 by decide) (show 0 + 3 ≤ 90 by decide) rfl
 cases hbody with
 | mk p1 p2 p3 p4 p5 p6 p7 p8 p9 p10 p11 p12 p13 p14 p15 p16 p17 p18 p19 p20 p21 p22 p23 p24 q1 q2 q3 r1 r2 r3 r4 r5 r6 r7 r8 r9 r10 r11 r12 r13 r14 r15 r16 r17 k1 k2 k3 k4 k5 k6 kt k7 k8 k9 k10 =>
 have kk : ∀ y ∈ (["addr", "pos", "escape", "ch"] : List Str), X.env.kindOf y = some .local := fun y hy => hnk y (hns ▸ hy)
 have hp : (X.env.scope.kind == .class || (X.env.scope.kind == .module && X.env.locals != X.env.globals)) = false := zFo K
 have n1 : X.ns[1]? = some ("pos" : Str) := by rw [hns]; rfl
 have n2 : X.ns[2]? = some ("escape" : Str) := by rw [hns]; rfl
 have n3 : X.ns[3]? = some ("ch" : Str) := by rw [hns]; rfl
 have hLlt : X.env.locals < s.heap.objs.size := hm.lt
 refine seg_func ?_
 refine zDY (wpAny_Assign_Name (wpAny_Constant_int (wpAny_storeName_local (kk _ (by decide)) hm (fun h1 hn1 hs1 => ?_) hp)) rfl)
 refine ⟨rfl, zDY (wpAny_Assign_Name (wpAny_Constant_bool (wpAny_storeName_local (kk _ (by decide)) hn1 (fun h2 hn2 hs2 => ?_) hp)) rfl)⟩
 refine ⟨rfl, seg_execs_cons (zJr ?_ fun _ => rfl)⟩
 have hz1 : h1.objs.size = s.heap.objs.size := hs1.1
 have hz2 : h2.objs.size = s.heap.objs.size := hs2.1.trans hz1
 have keep2 : ∀ b o, b ≠ X.env.locals → s.heap.get? b = some o → h2.get? b = some o := fun b o hb h => (hs2.2 b hb).trans ((hs1.2 b hb).trans h)
 have old2 : ∀ a o, X.G.h₀.get? a = some o → h2.get? a = some o := fun a o h => keep2 a o (fun q => by rw [q, hnoL] at h; cases h) (hold a o h)
 have hg : h2.Ns X.env.globals X.G.mg := K.glob ▸ K.gok.g.at' fun o h => old2 _ o h
 have hb : h2.Ns X.env.builtins X.G.mb := K.blt ▸ K.gok.b.at' fun o h => old2 _ o h
 have hne : s.heap.objs.size + 1 ≠ s.heap.objs.size := Nat.succ_ne_self _
 have hL : X.env.locals ≠ s.heap.objs.size + 1 ∧ X.env.locals ≠ s.heap.objs.size := ⟨Nat.ne_of_lt (Nat.lt_succ_of_lt hLlt), Nat.ne_of_lt hLlt⟩
 have hno : X.G.h₀.get? X.env.locals = none ∧ X.G.h₀.get? (s.heap.objs.size + 1) = none ∧ X.G.h₀.get? s.heap.objs.size = none := by
  refine ⟨hnoL, ?_, ?_⟩
  ·cases h : X.G.h₀.get? (s.heap.objs.size + 1) with
   | none => rfl
   | some o => exact absurd (Heap.lt_size (hold _ _ h)) (Nat.not_lt.mpr (Nat.le_succ _))
  ·cases h : X.G.h₀.get? s.heap.objs.size with
   | none => rfl
   | some o => exact absurd (Heap.lt_size (hold _ _ h)) (Nat.lt_irrefl _)
 refine wpAny_Call_NameR (Calls.Name_function_global K.fn hen (Calls.loadGlobal_builtin hg hmg hb ((K.gok.mbs _ (by decide)).trans zJx) ?_))
 show wpAny _ _ (callWith r9 (.type "enumerate") [] [(false, eval (.Name "addr" r8) X.env)] []) _ _ _
 refine callWith_type1 (wpAny_Name (wpAny_loadName_local K.fn (kk _ (by decide)) hn2 (v := .str x t) ((if_neg (by decide)).trans ((if_neg (by decide)).trans hx)) ?_))
 refine call_enumerate_str fun h3 hE3 hS3 hz3 hk3 => ?_
 dsimp only at hE3 hS3 hz3 hk3 ⊢
 rw [hz2] at hE3 hS3 ⊢
 have hEn : zAE (s.heap.objs.size + 1) s.heap.objs.size (strIterType x) x t 0 h3 := ⟨⟨_, hE3⟩, hS3⟩
 refine (zGV X hAf.handled hne x t).self 0 _ _ _ hEn fun p => ?_
 have I3 : ∀ tk, Inv X (PBase X.env.locals (s.heap.objs.size + 1) s.heap.objs.size s) [] { vars := [some (.str x), some (.int 0), some (.bool false), none], hp := [] } { s with heap := h3, toks := tk } := fun tk => by
  refine ⟨fun a o h => ?_, fun a o h => ?_, fun a h => h.elim, List.nodup_nil, rfl, fun i a c h => by simp at h, fun i a c h => by simp at h, hbare, fun k x h => h, rfl, ?_⟩
  ·unfold PBase at h
   dsimp only at h
   split at h
   ·cases h
   ·rename_i hne3
    exact hk3 a o (keep2 a o (fun q => hne3 (.inl q)) h)
  ·unfold PBase
   dsimp only
   rw [if_neg]
   ·exact hold a o h
   ·rintro (rfl | rfl | rfl)
    ·rw [hno.1] at h; cases h
    ·rw [hno.2.1] at h; cases h
    ·rw [hno.2.2] at h; cases h
  ·refine ⟨by unfold PBase; simp, fun h => (by cases h), ⟨_, hn2.at' fun o h => hk3 _ o h, fun i y v h1 h2 h3 => ?_⟩, fun i y h1 h2 => ?_, by rw [hns]; rfl⟩
   ·rw [hns] at h1
    match i, h1, h3 with
    | 0, h1, h3 =>
     cases h1
     cases h3
     exact ⟨.str x t, (if_neg (by decide)).trans ((if_neg (by decide)).trans hx), .str _ _⟩
    | 1, h1, h3 =>
     cases h1
     cases h3
     exact ⟨_, (if_neg (by decide)).trans (if_pos rfl), .int _ _⟩
    | 2, h1, h3 =>
     cases h1
     cases h3
     exact ⟨_, if_pos rfl, .bool _⟩
    | 3, h1, h3 => cases h3
    | i + 4, h1, h3 => simp at h3
   ·rw [hnk y (List.mem_of_getElem? h1)] at h2
    cases h2
 have hframe : ∀ (bd : List Stmt) (k : Result → Sem PySem.Fin) (l : List Value), AOK X.d (A.over (.forLoop (.Tuple [.Name "pos" q1, .Name "ch" q2] kt q3) (.ref (s.heap.objs.size + 1)) [.If (.Name "escape" p1) [.Expr (.Yield (some (.Tuple [.Name "pos" p2, .BinOp (.Constant (.str "\\") k1 p3) .Add (.Name "ch" p4) p5] k2 p6)) p7) p8, .Assign [.Name "escape" p9] (.Constant (.bool false) k3 p10) p11]
    [.If (.Compare (.Name "ch" p12) [.Eq] [.Constant (.str "\\") k4 p13] p14) [.Assign [.Name "escape" p15] (.Constant (.bool true) k5 p16) p17] [.Expr (.Yield (some (.Tuple [.Name "pos" p18, .Name "ch" p19] k6 p20)) p21) p22] p23] p24] [] X.env) [.ret k none false l (.func bd X.env) p []]) :=
  fun bd k l => zGW hA (show 1 + 0 + 0 ≤ 7 by decide) (show 3 + 0 + 0 ≤ 90 by decide) rfl
 refine zJw (e := s.heap.objs.size + 1) (it := s.heap.objs.size) K hcells hnk hno hco n1 n2 n3 hne hL hbig rfl (hframe _ _ _) rfl rfl (fun s₀ s4 P4 st4 last esc chv j I4 B4 heal hhp hv hch hys => ?_) x.cps.toList 0 0 false none s _ _ _ 0 (Nat.zero_le _) rfl (I3 _) (PBase.ok _ _ _ _) hEn rfl rfl (.inl rfl) rfl
 refine seg_leaf (.ok .next) ?_
 apply byC; intro kz; obtain ⟨vars4, hp4⟩ := st4; apply kz; clear kz
 obtain rfl : hp4 = [] := hhp
 obtain rfl : vars4 = _ := hv
 have hscal : AllSc [some (.str x), some (.int last), some (.bool esc), chv] := fun k v hk => by
  match k, hk with
  | 0, hk => cases hk; rfl
  | 1, hk => cases hk; rfl
  | 2, hk => cases hk; rfl
  | 3, hk =>
   rcases hch with rfl | ⟨z, rfl⟩
   ·cases hk
   ·cases hk; rfl
  | k + 4, hk => simp at hk
 have stest : SndT X [] (.Name "escape" r11) ((pVar 2).bind zI) := zA1 (fun _ => rfl) (zA K 2 n2 (by decide))
 refine seg_execs_cons (zEe ?_)
 have I4h := I4.hold K (fp := [s.heap.objs.size + 1]) (wr := [s.heap.objs.size + 1]) (fun b h => h) (fun b hb => B4.wr hL hcells b (by rw [List.mem_singleton] at hb; subst hb; simp)) (fun b hb => .inl hb) (fun b hb => by rw [List.mem_singleton] at hb; subst hb; exact heal)
 refine stest.run List.nil_prefix hAf I4h (b := esc) (st' := { vars := [some (.str x), some (.int last), some (.bool esc), chv], hp := [] }) rfl fun b s5 ρ5 hp5 J5h hb => ?_
 obtain rfl : esc = b := hb
 obtain rfl : ρ5 = [] := List.length_eq_zero_iff.mp J5h.len
 have J5 := I4.unhold J5h
 have heal5 : s5.heap.get? (s.heap.objs.size + 1) ≠ none := by
  cases eq : s4.heap.get? (s.heap.objs.size + 1) with
  | none => exact absurd eq heal
  | some o => rw [J5h.held _ o (by rw [zr (List.mem_singleton.mpr rfl)]; exact eq)]; simp
 cases esc with
 | true =>
  rw [if_pos rfl]
  refine seg_execs_cons ?_
  refine zJt (ms := pCons (pVar 1) (pCons (PM.ret (.str ⟨#[92]⟩)) pNil)) (q := (last, (⟨#[92]⟩ : Str))) (r := []) (j := j) K hcells hnk hno hco hAf J5 rfl B4 hscal heal5 hL hys
   (zL rfl (zA K 1 n1 (by decide)) (zL rfl zW zR)) ?_ rfl ?_ rfl fun s6 I6 hr6 => ?_
  ·simp only [pCons, pNil, PM.bind, PM.ret, pVar, List.getElem?_cons_succ, List.getElem?_cons_zero]
  ·rfl
  ·exact seg_end (.ok (.ret .none)) ⟨rfl, rfl, (PBase.ok _ _ _ _).mv I6⟩
 | false =>
  rw [if_neg (by decide)]
  exact seg_end (.ok (.ret .none)) ⟨rfl, rfl, B4.mv J5⟩
section
variable {X : Stat} {P : Prot} {ρ ρ' : List Addr} {st st' : PSt} {s s' : Shared}
noncomputable def Prot.gen (P : Prot) (g : Nat) (gs : GenState) : Prot := { P with gB := fun k => if k = g then some gs else P.gB k }
theorem Inv.gen (I : Inv X P ρ st s) {g : Nat} {gs : GenState} (h : s.gens[g]? = some gs) : Inv X (P.gen g gs) ρ st s :=
 ⟨I.held, I.old, I.outs, I.nd, I.len, I.objs, I.fz, I.bare, fun k x e => by
  have e1 : (if k = g then some gs else P.gB k) = some x := e
  by_cases hk : k = g
  ·rw [if_pos hk] at e1; cases e1; rw [hk]; exact h
  ·rw [if_neg hk] at e1; exact I.gheld k x e1, I.os, I.fr⟩
theorem Inv.ungen {g : Nat} {gs : GenState} (hg : P.gB g = none) (I : Inv X (P.gen g gs) ρ st s) : Inv X P ρ st s :=
 ⟨I.held, I.old, I.outs, I.nd, I.len, I.objs, I.fz, I.bare, fun k x e => I.gheld k x (by
  show (if k = g then some gs else P.gB k) = some x
  rw [if_neg (fun q => by rw [q, hg] at e; cases e)]
  exact e), I.os, I.fr⟩
theorem Inv.gen_at {g : Nat} {gs : GenState} (I : Inv X (P.gen g gs) ρ st s) : s.gens[g]? = some gs := I.gheld g gs (if_pos rfl)
theorem zGX {s : Shared} {g : Nat} {gs : GenState} (h : AllBare s.gens) (hb : gs.bare = true) : AllBare (s.setGen g gs).gens := fun y hy => by
 obtain ⟨i, hi, rfl⟩ := Array.mem_iff_getElem.mp hy
 unfold Shared.setGen at hi ⊢
 dsimp only at hi ⊢
 rw [Array.getElem_setIfInBounds (by simpa using hi)]
 split
 ·exact hb
 ·exact h _ (Array.getElem_mem _)
theorem Inv.moved (I : Inv X P ρ st s) {L e it : Addr} {g : Nat} {gs0 gs' gx : GenState} {s₁ : Shared} {h' : Heap} (M : Mv L e it (s.setGen g gx) s₁) (hgs : s.gens[g]? = some gs0) (hb : gs'.bare = true) (hg : P.gB g = none)
  (hk : ∀ b o, s₁.heap.get? b = some o → h'.get? b = some o)
  (hw : ∀ b, (b = L ∨ b = e ∨ b = it) → s.heap.get? b ≠ none → b ∉ ρ ∧ P.B b = none ∧ X.env.locals ≠ b ∧ (∀ x c, X.env.cells.lookup x = some c → c ≠ b)) : Inv X P ρ st { s₁.setGen g gs' with heap := h' } := by
 have k : ∀ b o, b ≠ L → b ≠ e → b ≠ it → s.heap.get? b = some o → h'.get? b = some o := fun b o h1 h2 h3 h4 => hk b o (M.heap b o h1 h2 h3 h4)
 have notIn : ∀ b, (b = L ∨ b = e ∨ b = it) → ∀ o, s.heap.get? b = some o → b ∉ ρ ∧ P.B b = none ∧ X.env.locals ≠ b ∧ (∀ x c, X.env.cells.lookup x = some c → c ≠ b) := fun b hb o h => hw b hb (by rw [h]; simp)
 have keepB : ∀ b o, P.B b = some o → h'.get? b = some o := fun b o h => by
  have hs := I.held b o h
  by_cases hb : b = L ∨ b = e ∨ b = it
  ·rw [(notIn b hb o hs).2.1] at h; cases h
  ·simp only [not_or] at hb
   exact k b o hb.1 hb.2.1 hb.2.2 hs
 have keepρ : ∀ b o, b ∈ ρ → s.heap.get? b = some o → h'.get? b = some o := fun b o hm hs => by
  by_cases hb : b = L ∨ b = e ∨ b = it
  ·exact absurd hm (notIn b hb o hs).1
  ·simp only [not_or] at hb
   exact k b o hb.1 hb.2.1 hb.2.2 hs
 have glt : g < s.gens.size := (Array.getElem?_eq_some_iff.mp hgs).1
 refine ⟨keepB, I.old, I.outs, I.nd, I.len, fun i a c h1 h2 => (I.objs i a c h1 h2).at fun ob h => keepρ a ob (List.mem_of_getElem? h1) h, I.fz, zGX (gs := gs') M.bare hb, fun kk x h => ?_, ?_, ?_⟩
 ·have h1 := I.gheld kk x h
  have hne : kk ≠ g := fun q => by rw [q, hg] at h; cases h
  have h2 : (s.setGen g gx).gens[kk]? = some x := by
   unfold Shared.setGen
   dsimp only
   rw [Array.getElem?_setIfInBounds_ne (Ne.symm hne)]
   exact h1
  have h3 := M.gens kk x h2
  show (s₁.gens.setIfInBounds g gs')[kk]? = some x
  rw [Array.getElem?_setIfInBounds_ne (Ne.symm hne)]
  exact h3
 ·show s₁.os = P.os
  rw [M.os]
  exact I.os
 ·apply byC; intro kz; obtain ⟨m, hm, hv⟩ := I.fr.loc; apply kz; clear kz
  refine ⟨I.fr.locOut, I.fr.locNot, ⟨m, hm.at' fun o h => ?_, hv⟩, fun i x h1 h2 => ?_, I.fr.len⟩
  ·by_cases hb : X.env.locals = L ∨ X.env.locals = e ∨ X.env.locals = it
   ·exact absurd rfl (notIn _ hb o h).2.2.1
   ·simp only [not_or] at hb
    exact k _ o hb.1 hb.2.1 hb.2.2 h
  ·apply byC; intro kz; obtain ⟨c, ov, h3, h4, h5, h6, ⟨o, ho, hd⟩, h8⟩ := I.fr.cell i x h1 h2; apply kz; clear kz
   refine ⟨c, ov, h3, h4, h5, h6, ⟨o, ?_, hd⟩, h8⟩
   by_cases hb : c = L ∨ c = e ∨ c = it
   ·exact absurd rfl ((notIn _ hb o ho).2.2.2 x c h3)
   ·simp only [not_or] at hb
    exact k _ o hb.1 hb.2.1 hb.2.2 ho
end
theorem zJz {prog : Program} {w : World} {A : Around} {E : Value → Shared → Prop} {s : Shared} {elts : List Expr} {k : Nat} {pos : Pos} {a T : Addr} {g : Nat} {Q : Unit → Shared → Prop} (h : s.heap.IsGen a g) (hQ : Q () s) :
  wpAny (model prog w) A (letOwnedTupleGo (.Tuple elts k pos) (.ref a) (.ref T)) Q E s := by
 apply byC; intro kz; obtain ⟨o, nm, qn, ho, hc, hd, hs⟩ := h; apply kz; clear kz
 unfold letOwnedTupleGo
 refine wpAny_bind (wpAny_load ho ?_)
 rw [hc, hd]
 show wpAny _ _ (if (["enumerate", "zip", "dict_itemiterator", "dict_reverseitemiterator", "odict_iterator", "itertools.zip_longest", "itertools.pairwise"].contains "generator" && _) = true then _ else _) Q E s
 rw [if_neg (by simp)]
 exact wpAny_pure hQ
noncomputable def pForP (i j : Nat) (b : PM PF) (xs : List (Int × Str)) : PM PF := match xs with
 | [] => PM.ret .next
 | q :: xs => fun s => (b.bind fun f => match f with
  | .next => pForP i j b xs
  | .cont => pForP i j b xs
  | .brk => PM.ret .next
  | .ret v => PM.ret (.ret v)) { s with vars := (s.vars.set i (some (.int q.1))).set j (some (.str q.2)) }
noncomputable def zB7 (m : PM PV) (i j : Nat) (b : PM PF) : PM PF := m.bind fun v => match v with
 | .str x => if x.length ≤ zH then pForP i j b (ze x) else PM.fail
 | _ => PM.fail
structure zEf (d : DefRec) : Prop where
 kind : d.scope.kind = .function
 gen : d.scope.isGenerator = true
 co : d.scope.isCoroutine = false
 names : d.scope.names = ([("addr", .local), ("pos", .local), ("escape", .local), ("ch", .local), ("enumerate", .globalImplicit)] : List (Str × NameKind))
 bind : ∀ (pm code doc : Value) (v : Value), bindArgs (d.data pm code doc) ⟨[v], []⟩ = pure [(("addr" : Str), v)]
 body : zCg d.body
noncomputable def GenSt (Xg : Stat) (body : List Stmt) (x : Str) (t : Tok) (A : Around) (ga : Addr) (g : Nat) (pr : List Addr) (j : Nat) (s : Shared) : Prop :=
 s.heap.IsGen ga g ∧ ga ≠ Xg.env.locals ∧ ((pr = [ga, Xg.env.locals] ∧ j = 0 ∧ s.gens[g]? = some (.fresh (.func body Xg.env)) ∧ ∃ m, s.heap.Ns Xg.env.locals m ∧ m "addr" = some (.str x t)) ∨
  (∃ e it gs S, pr = [ga, Xg.env.locals, e, it] ∧ it ≤ e ∧ ga ≠ e ∧ ga ≠ it ∧ s.gens[g]? = some gs ∧ (∀ b ∈ S, b = Xg.env.locals ∨ b = e ∨ b = it) ∧ ∀ s'', Pers Xg.G S s s'' →
   gs.Goes (model Xg.G.prog Xg.G.w) A.in1 (GR Xg.env.locals e it) (GY Xg.G Xg.env.locals e it (ze x)) ((ze x).length - j) (.send .none) s''))
theorem zGY {s : Shared} {g : Nat} (h : AllBare s.gens) : AllBare (s.setGen g .running).gens := zGX h rfl
section
variable {X : Stat} {P : Prot} {ρ ρ' : List Addr} {st st' : PSt} {s s' : Shared}
inductive GInv (X Xg : Stat) (P : Prot) (ρ : List Addr) (gbody : List Stmt) (x : Str) (t : Tok) (A : Around) (ga : Addr) (g : Nat) (G : Nat → PSt → Prop) (k : Nat) (s1 : Shared) : Prop
 | mk (n : Nat) (ρ1 : List Addr) (st1 : PSt) (pr : List Addr) (hk : k + n = (ze x).length + 1) (hn : n ≤ (ze x).length) (hp : ρ <+: ρ1) (I : Inv X P ρ1 st1 s1) (hw : WrOK X P ρ1 pr) (ha : ∀ b ∈ pr, ∃ z ∈ pr, b ≤ z ∧ s1.heap.get? z ≠ none) (hg : GenSt Xg gbody x t A ga g pr n s1) (gl : G n st1) : GInv X Xg P ρ gbody x t A ga g G k s1
theorem zJ0 (K : XOK X) {A : Around} (hA : AOK X.d A) {Xg : Stat} (Kg : XOK Xg) (hG : Xg.G = X.G) (hgd : AOK (Xg.d + 1) A.in1) (hcells : Xg.env.cells = []) (hnk : ∀ x ∈ Xg.ns, Xg.env.kindOf x = some .local) (hco : Xg.env.scope.isCoroutine = false)
  (hns : Xg.ns = (["addr", "pos", "escape", "ch"] : List Str)) (hen : Xg.env.kindOf "enumerate" = some .globalImplicit) (hmg : X.G.mg "enumerate" = none) {gbody : List Stmt} (hbody : zCg gbody) {x : Str} {t : Tok} (hbig : x.length ≤ zH)
  {i j : Nat} {na nb : Str} {q1 q2 q3 : Pos} {kt : Nat} {body : List Stmt} {mb : PM PF} (hx : X.ns[i]? = some na) (hy : X.ns[j]? = some nb) (ox : X.env.kindOf na = some .cell → X.own = true) (oy : X.env.kindOf nb = some .cell → X.own = true) (hb' : SndB X [] body mb)
  {ga : Addr} {g : Nat} (hno : X.G.h₀.get? Xg.env.locals = none) (hPg : P.gB g = none) {f : PF} {R : Result → Shared → Prop} (hI : Inv X P ρ st s) {pr : List Addr} (hw : WrOK X P ρ pr) (hal : ∀ b ∈ pr, ∃ z ∈ pr, b ≤ z ∧ s.heap.get? z ≠ none) (hgs : GenSt Xg gbody x t A ga g pr 0 s)
  (e : pForP i j mb (ze x) st = some (f, st')) (hR : ∀ f' s' ρ', ρ <+: ρ' → Inv X P ρ' st' s' → FRel ρ' f f' → R (.ok f') s') :
  codeAny (model X.G.prog X.G.w) A (.forLoop (.Tuple [.Name na q1, .Name nb q2] kt q3) (.ref ga) body [] X.env) R s := by
 refine codeAny_forLoop_any (GInv X Xg P ρ gbody x t A ga g fun n st1 => pForP i j mb ((ze x).drop n) st1 = some (f, st')) ?_ ((ze x).length + 1) ⟨0, ρ, st, pr, rfl, Nat.zero_le _, List.prefix_refl _, hI, hw, hal, hgs, e⟩
 rintro k s1 ⟨n, ρ1, st1, pr1, hk, hn, hp1, I1, hw1, hal1, ⟨hgen, hgaL, hst⟩, e1⟩
 have hold1 : ∀ a o, X.G.h₀.get? a = some o → s1.heap.get? a = some o := fun a o h => I1.get h
 have hroom : A.depth < recursionLimit := by have := hA.depth; show A.depth < 1000; omega
 have hlim : s1.heap.NoLimit := K.gok.nolim.at fun o h => I1.get h
 have key : ∀ (e it : Addr) (gs : GenState), (∀ b, (b = Xg.env.locals ∨ b = e ∨ b = it) → s1.heap.get? b ≠ none → b ∉ ρ1 ∧ P.B b = none ∧ X.env.locals ≠ b ∧ (∀ y c, X.env.cells.lookup y = some c → c ≠ b)) →
   (∀ b, (b = e ∨ b = it) → s1.heap.objs.size ≤ b ∨ b ∈ pr1) → it ≤ e → ga ∈ pr1 → Xg.env.locals ∈ pr1 → s1.heap.get? ga ≠ none → ga ≠ e → ga ≠ it → s1.gens[g]? = some gs →
   gs.Goes (model X.G.prog X.G.w) A.in1 (GR Xg.env.locals e it) (GY X.G Xg.env.locals e it (ze x)) ((ze x).length - n) (.send .none) (s1.setGen g .running) →
   wpAny (model X.G.prog X.G.w) A (pyNext (.ref ga)) (fun r s₁ => match r with
    | none => wpAny (model X.G.prog X.G.w) A (execs [] X.env) (fun f s₃ => R (.ok f) s₃) (notedBy (model X.G.prog X.G.w) A X.env fun e s' => R (.error e) s') s₁
    | some v => wpAny (model X.G.prog X.G.w) A (letOwnedTupleGo (.Tuple [.Name na q1, .Name nb q2] kt q3) (.ref ga) v) (fun _ s₁' =>
     wpAny (model X.G.prog X.G.w) A (assign (.Tuple [.Name na q1, .Name nb q2] kt q3) X.env v) (fun _ s₂ => wpAny (model X.G.prog X.G.w) A (execs body X.env) (fun fl s₃ => match fl with
      | .next | .cont => ∃ m, m < k ∧ GInv X Xg P ρ gbody x t A ga g (fun n st1 => pForP i j mb ((ze x).drop n) st1 = some (f, st')) m s₃
      | .brk => R (.ok .next) s₃
      | .ret v => R (.ok (.ret v)) s₃) (notedBy (model X.G.prog X.G.w) A X.env fun e s' => R (.error e) s') s₂) (notedBy (model X.G.prog X.G.w) A X.env fun e s' => R (.error e) s') s₁') (notedBy (model X.G.prog X.G.w) A X.env fun e s' => R (.error e) s') s₁)
    (notedBy (model X.G.prog X.G.w) A X.env fun e s' => R (.error e) s') s1 := by
  intro e it gs hpriv hfresh hle hga hLp hgaal hge hgi hgs1 hgo
  refine zJs (n := (ze x).length - n) (P := fun n s₀ s₁ => n = 0 ∧ Mv Xg.env.locals e it s₀ s₁) (Y := GY X.G Xg.env.locals e it (ze x)) hA.handled hlim hroom hgen hgs1 hgo ?_ ?_
  ·rintro v s₁ gs' hb ⟨⟨q, T, t1, t2, nn, hq, rfl, hT⟩, M, S, hLS, heS, hSsub, hSal, hkap⟩
   have I2 : Inv X P ρ1 st1 (s₁.setGen g gs') := I1.moved M hgs1 hb hPg (h' := s₁.heap) (fun _ _ h => h) hpriv
   have hlt : n < (ze x).length := by
    rcases Nat.lt_or_ge n (ze x).length with h | h
    ·exact h
    ·have h0 : (ze x).length - n = 0 := by omega
     rw [h0] at hkap
     exact (hkap s₁ ⟨fun b o _ h => h, fun a o h => I2.get h, M.bare⟩).elim
   have hqn : (ze x)[n]? = some q := by
    rw [show (ze x).length - 1 - ((ze x).length - n - 1) = n by omega] at hq
    exact hq
   have hgen2 : (s₁.setGen g gs').heap.IsGen ga g := by
    apply byC; intro kz; obtain ⟨o, nm, qn, h1, h2⟩ := hgen; apply kz; clear kz
    exact ⟨o, nm, qn, M.heap ga o hgaL hge hgi h1, h2⟩
   refine zJz hgen2 ?_
   have hw2 : WrOK X P ρ1 [ga, Xg.env.locals, e, it] := fun b hb => by
    simp only [List.mem_cons, List.not_mem_nil, or_false] at hb
    have new : ∀ b, s1.heap.objs.size ≤ b ∨ b ∈ pr1 → b ∉ ρ1 ∧ P.B b = none ∧ X.env.locals ≠ b ∧ (∀ y c, X.env.cells.lookup y = some c → c ≠ b) := fun b hb => by
     rcases hb with hb | hb
     ·exact I1.fresh K hb
     ·exact hw1 b hb
    rcases hb with rfl | rfl | rfl | rfl
    ·exact hw1 _ hga
    ·exact hw1 _ hLp
    ·exact new _ (hfresh _ (.inl rfl))
    ·exact new _ (hfresh _ (.inr rfl))
   have hal2 : ∀ b ∈ [ga, Xg.env.locals, e, it], ∃ z ∈ [ga, Xg.env.locals, e, it], b ≤ z ∧ (s₁.setGen g gs').heap.get? z ≠ none := fun b hb => by
    simp only [List.mem_cons, List.not_mem_nil, or_false] at hb
    rcases hb with rfl | rfl | rfl | rfl
    ·apply byC; intro kz; obtain ⟨o, _, _, h', _⟩ := hgen2; apply kz; clear kz
     exact ⟨_, .head _, Nat.le_refl _, by rw [h']; simp⟩
    ·exact ⟨_, .tail _ (.head _), Nat.le_refl _, hSal _ hLS⟩
    ·exact ⟨_, .tail _ (.tail _ (.head _)), Nat.le_refl _, hSal _ heS⟩
    ·exact ⟨e, .tail _ (.tail _ (.head _)), hle, hSal _ heS⟩
   have glt : g < s₁.gens.size := by
    have h1 : (s1.setGen g .running).gens[g]? = some .running := setGen_self hgs1
    exact (Array.getElem?_eq_some_iff.mp (M.gens g _ h1)).1
   have hg2 : (s₁.setGen g gs').gens[g]? = some gs' := by
    show (s₁.gens.setIfInBounds g gs')[g]? = some gs'
    simp [glt]
   have J := (I2.hold2 K (fp := [ga, Xg.env.locals, e, it]) (wr := [ga, Xg.env.locals, e, it]) (fun b h => h) hw2 (fun b hb => .inl hb) hal2).gen hg2
   have hTup : (s₁.setGen g gs').heap.IsTuple T #[.int q.1 t1, .str q.2 t2] := ⟨_, hT, rfl, nn, rfl⟩
   rw [zDT hlt] at e1
   have hqe : (ze x)[n] = q := by
    rw [List.getElem?_eq_getElem hlt] at hqn
    exact Option.some.inj hqn
   rw [hqe] at e1
   apply byC; intro kz; obtain ⟨ff, st3, e4, e5⟩ := PM.bind_some (m := mb) e1; apply kz; clear kz
   refine zDZ K hA.handled J hx hy ox oy (.int q.1 t1) (.str q.2 t2) hTup fun s3 J3 => ?_
   refine hb'.run List.nil_prefix hA J3 e4 fun f' s4 ρ4 hp4 J4 hf => ?_
   have hg4 := J4.gen_at
   have J4' := Inv.ungen (show (P.hold [ga, Xg.env.locals, e, it] [ga, Xg.env.locals, e, it] (s₁.setGen g gs').heap).gB g = none from hPg) J4
   have I4 := I2.unhold J4'
   have held4 : ∀ b ∈ [ga, Xg.env.locals, e, it], ∀ o, (s₁.setGen g gs').heap.get? b = some o → s4.heap.get? b = some o := fun b hb o h => J4'.held b o (by rw [zr hb]; exact h)
   have hw4 : WrOK X P ρ4 [ga, Xg.env.locals, e, it] := fun b hb => ⟨(J4'.outs b (.inr hb)).2, (hw2 b hb).2⟩
   have hal4 : ∀ b ∈ [ga, Xg.env.locals, e, it], ∃ z ∈ [ga, Xg.env.locals, e, it], b ≤ z ∧ s4.heap.get? z ≠ none := fun b hb => by
    apply byC; intro kz; obtain ⟨z, hz, hle, hne⟩ := hal2 b hb; apply kz; clear kz
    refine ⟨z, hz, hle, ?_⟩
    cases eq : (s₁.setGen g gs').heap.get? z with
    | none => exact absurd eq hne
    | some o => rw [held4 z hz o eq]; simp
   have hSin : ∀ b ∈ S, b ∈ [ga, Xg.env.locals, e, it] := fun b hb => by
    rcases hSsub b hb with rfl | rfl | rfl <;> simp
   have next : (ff = .next ∨ ff = .cont) → ∃ m, m < k ∧ GInv X Xg P ρ gbody x t A ga g (fun n st1 => pForP i j mb ((ze x).drop n) st1 = some (f, st')) m s4 := fun hff => by
    refine ⟨k - 1, by omega, n + 1, ρ4, st3, [ga, Xg.env.locals, e, it], by omega, hlt, hp1.trans hp4, I4, hw4, hal4, ⟨?_, hgaL, .inr ⟨e, it, gs', S, rfl, hle, hge, hgi, hg4, hSsub, fun s'' Pr => ?_⟩⟩, ?_⟩
    ·apply byC; intro kz; obtain ⟨o, nm, qn, h1, h2⟩ := hgen2; apply kz; clear kz
     exact ⟨o, nm, qn, held4 ga (.head _) o h1, h2⟩
    ·have := hkap s'' ⟨fun b o hb h => Pr.heap b o hb (held4 b (hSin b hb) o h), fun a o h => Pr.old a o (hG ▸ h), Pr.bare⟩
     rw [show (ze x).length - n = ((ze x).length - (n + 1)) + 1 by omega] at this
     rw [hG]
     exact this
    ·rcases hff with rfl | rfl
     ·exact e5
     ·exact e5
   cases hf with
   | next => exact next (.inl rfl)
   | cont => exact next (.inr rfl)
   | brk => cases e5; exact hR _ _ ρ4 (hp1.trans hp4) I4 .next
   | ret hv => cases e5; exact hR _ _ ρ4 (hp1.trans hp4) I4 (.ret hv)
  ·rintro s₁ ⟨hn0, M⟩ h' hk'
   have hne : n = (ze x).length := by omega
   rw [hne, List.drop_length] at e1
   cases e1
   have I2 := I1.moved (gs' := .finished) (h' := h') M hgs1 rfl hPg hk' hpriv
   exact wpAny_execs_nil (hR _ _ ρ1 hp1 I2 .next)
 have hgaal : s1.heap.get? ga ≠ none := by obtain ⟨o, _, _, h', _⟩ := hgen; rw [h']; simp
 rcases hst with ⟨rfl, rfl, hfr, m, hm, hmx⟩ | ⟨e, it, gs, S, rfl, hle, hge, hgi, hgs1, hSsub, hgo⟩
 ·have hL := hw1 Xg.env.locals (.tail _ (.head _))
  have hnew : ∀ b, s1.heap.objs.size ≤ b → s1.heap.get? b = none := fun b hb => by
   cases h : s1.heap.get? b with
   | none => rfl
   | some o => exact absurd (Heap.lt_size h) (Nat.not_lt.mpr hb)
  have hgalt : ga < s1.heap.objs.size := by
   cases h : s1.heap.get? ga with
   | none => obtain ⟨o, _, _, h', _⟩ := hgen; rw [h] at h'; cases h'
   | some o => exact Heap.lt_size h
  refine key (s1.heap.objs.size + 1) s1.heap.objs.size _ (fun b hb hne => ?_) (fun b hb => .inl ?_) (Nat.le_succ _) (.head _) (.tail _ (.head _)) hgaal (Nat.ne_of_lt (Nat.lt_succ_of_lt hgalt)) (Nat.ne_of_lt hgalt) hfr ?_
  ·rcases hb with rfl | rfl | rfl
   ·exact hL
   ·exact absurd (hnew _ (Nat.le_succ _)) hne
   ·exact absurd (hnew _ (Nat.le_refl _)) hne
  ·rcases hb with rfl | rfl
   ·exact Nat.le_succ _
   ·exact Nat.le_refl _
  ·refine ⟨rfl, ?_⟩
   have := zJy (A := A.in1) Kg hcells hnk hco hns hen (hG ▸ hmg) hbody hgd hbig (s := s1.setGen g .running) hm hmx (fun a o h => hold1 a o (hG ▸ h)) (hG ▸ hno) (zGY I1.bare)
   rw [hG] at this
   exact this
 ·have hgo' := hgo (s1.setGen g .running) ⟨fun b o _ h => h, fun a o h => hold1 a o (hG ▸ h), zGY I1.bare⟩
  rw [hG] at hgo'
  refine key e it gs (fun b hb hne => hw1 b ?_) (fun b hb => .inr ?_) hle (.head _) (.tail _ (.head _)) hgaal hge hgi hgs1 hgo'
  ·rcases hb with rfl | rfl | rfl
   ·exact .tail _ (.head _)
   ·exact .tail _ (.tail _ (.head _))
   ·exact .tail _ (.tail _ (.tail _ (.head _)))
  ·rcases hb with rfl | rfl
   ·exact .tail _ (.tail _ (.head _))
   ·exact .tail _ (.tail _ (.tail _ (.head _)))
end
section
variable {X : Stat}
theorem zJ1 (K : XOK X) (hdX : 2 ≤ X.d) {f : Str} {a : Addr} {d : DefRec} (hk : X.env.kindOf f = some .globalImplicit) (hv : X.G.mg f = some (.ref a)) (hdb : (f == ("__debug__" : Str)) = false) (F : FnOK X.G d a) (D : zEf d) (hmg : X.G.mg "enumerate" = none)
  {e : Expr} {m : PM PV} {i j : Nat} {na nb : Str} {q1 q2 q3 p4 p5 pos : Pos} {kt : Nat} {body : List Stmt} {mb : PM PF} (hx : X.ns[i]? = some na) (hy : X.ns[j]? = some nb) (ox : X.env.kindOf na = some .cell → X.own = true) (oy : X.env.kindOf nb = some .cell → X.own = true)
  (he : starEach [e] X.env = [(false, eval e X.env)]) (h : SndE X [] e m) (hb : SndB X [] body mb) :
  SndS X [] (.For (.Tuple [.Name na q1, .Name nb q2] kt q3) (.Call (.Name f p4) [e] [] p5) body [] pos) (zB7 m i j mb) := by
 intro A P s ρ st st' b hρ hA hI e0
 apply byC; intro kz; obtain ⟨v, st1, e1, ea⟩ := PM.bind_some e0; apply kz; clear kz
 cases v with
 | str x =>
  refine zEV ea fun hbig ea => ?_
  ·refine wpAny_For ?_ (fun _ => rfl)
   refine wpAny_Call_NameR (zB3 K hI hk hv hdb ?_)
   apply byC; intro kz; obtain ⟨pm, code, doc, ho, hc⟩ := F; apply kz; clear kz
   refine Calls.callWith_function (o := { cls := .type "function", data := .func (d.data pm (.ref code) doc) }) (fd := d.data pm (.ref code) doc) ?_
   rw [he]
   refine Calls.evalArgs_plain (Calls.spliced_cons (h.run List.nil_prefix hA hI e1 fun rv s1 ρ1 hp1 I1 hr => Calls.spliced_nil ⟨⟨I1.get ho, rfl⟩, ?_⟩))
   cases hr with | str _ t => ?_
   have hdep := hA.depth
   have hun := hA.units
   have hcS : s1.heap.CodeRec (.ref code) d.name := hc.at fun o e => I1.get e
   have hlim : s1.heap.NoLimit := K.gok.nolim.at fun o e => I1.get e
   refine wpAny_call (codeAny_call_generator (fd := d.data pm (.ref code) doc) (body := d.body) (by show A.depth < 1000; lia) (I1.get ho) rfl D.co D.gen rfl hcS ?_)
   show wpAny _ _ (bindArgs (d.data pm (.ref code) doc) ⟨[.str x t], []⟩) _ _ _
   rw [D.bind]
   have hnoc : ∀ y ∈ d.scope.names, y.2 ≠ .cell := by rw [D.names]; decide
   refine wpAny_pure (wpAny_newFunctionEnv hnoc (fun y hy => ?_) (fun h' hns hsb => ⟨?_, ?_⟩) D.kind)
   ·rw [List.mem_singleton] at hy
    subst hy
    show d.scope.names.lookup ("addr" : Str) = _
    rw [D.names]; decide
   ·have hk : ∀ b o, s1.heap.get? b = some o → h'.get? b = some o := fun b o e => hsb.extBut b o (Nat.ne_of_lt (Heap.lt_size e)) (Heap.get?_push_of_some _ e)
    exact hlim.keeps hk
   ·dsimp only at hns hsb ⊢
    have hk : ∀ b o, s1.heap.get? b = some o → h'.get? b = some o := fun b o e => hsb.extBut b o (Nat.ne_of_lt (Heap.lt_size e)) (Heap.get?_push_of_some _ e)
    have hz : h'.objs.size = s1.heap.objs.size + 1 := by rw [hsb.1, Heap.size_push]
    have hIsG : (h'.push { cls := .type "generator", data := .fields #[.int s1.gens.size 0, .str d.name (s1.toks + 1), .str d.name (s1.toks + 1 + 1)] }).IsGen h'.objs.size s1.gens.size := ⟨_, _, _, Heap.get?_push_size _ rfl, rfl, rfl, rfl⟩
    refine wpAny_pyIter_gen hIsG ?_
    let Xg : Stat := ⟨X.G, newEnv d.scope s1.heap.objs.size mainGlobals [] (d.name ++ ".<locals>.") (some a) (.ref code) none builtinsNs, (["addr", "pos", "escape", "ch"] : List Str), true, X.d - 2⟩
    have hkind : ∀ y ∈ Xg.ns, Xg.env.kindOf y = some .local := fun y hy => by
     show d.scope.names.lookup y = some .local
     rw [D.names]
     have hy : y ∈ (["addr", "pos", "escape", "ch"] : List Str) := hy
     simp only [List.mem_cons, List.not_mem_nil, or_false] at hy
     rcases hy with rfl | rfl | rfl | rfl <;> decide
    have Kg : XOK Xg := ⟨D.kind, rfl, rfl, by show (["addr", "pos", "escape", "ch"] : List Str).Nodup; decide, K.gok, fun y z c hh => (by cases hh), fun y hy => .inl (hkind y hy), fun y c hh => (by cases hh)⟩
    have frL := I1.fresh K (Nat.le_refl s1.heap.objs.size)
    have frG := I1.fresh K (show s1.heap.objs.size ≤ h'.objs.size by rw [hz]; exact Nat.le_succ _)
    have hno : X.G.h₀.get? s1.heap.objs.size = none := by
     cases eq : X.G.h₀.get? s1.heap.objs.size with
     | none => rfl
     | some o => exact absurd (Heap.lt_size (I1.get eq)) (Nat.lt_irrefl _)
    have hPg : P.gB s1.gens.size = none := by
     cases eq : P.gB s1.gens.size with
     | none => rfl
     | some o =>
      have := I1.gheld _ _ eq
      simp at this
    have keep6 : ∀ b o, s1.heap.get? b = some o → (h'.push { cls := .type "generator", data := .fields #[.int s1.gens.size 0, .str d.name (s1.toks + 1), .str d.name (s1.toks + 1 + 1)] }).get? b = some o := fun b o e => Heap.get?_push_of_some _ (hk b o e)
    have Ig : ∀ tk, Inv X P ρ1 st1 { s1 with heap := h'.push { cls := .type "generator", data := .fields #[.int s1.gens.size 0, .str d.name (s1.toks + 1), .str d.name (s1.toks + 1 + 1)] }, toks := tk } := fun tk => I1.grow keep6
    have I6 : ∀ tk, Inv X P ρ1 st1 { s1 with heap := h'.push { cls := .type "generator", data := .fields #[.int s1.gens.size 0, .str d.name (s1.toks + 1), .str d.name (s1.toks + 1 + 1)] }, toks := tk, gens := s1.gens.push (.fresh (.func d.body Xg.env)) } := fun tk =>
     ⟨(Ig tk).held, I1.old, I1.outs, I1.nd, I1.len, (Ig tk).objs, I1.fz, I1.bare.push rfl, fun k y hy => by
      have h1 := I1.gheld k y hy
      have hlt := (Array.getElem?_eq_some_iff.mp h1).1
      show (s1.gens.push _)[k]? = some y
      rw [Array.getElem?_push_lt hlt]
      rw [← h1, Array.getElem?_eq_getElem hlt], I1.os, (Ig tk).fr⟩
    refine zJ0 (t := t) (pr := [h'.objs.size, s1.heap.objs.size]) (g := s1.gens.size) K hA (Xg := Xg) Kg rfl ⟨hA.handled, ?_, ?_⟩ rfl hkind D.co rfl (by show d.scope.names.lookup ("enumerate" : Str) = _; rw [D.names]; decide) hmg D.body hbig hx hy ox oy hb hno hPg (I6 _) ?_ ?_ ?_ ea
     fun f' s' ρ' hp' I' hf => ⟨ρ', hp1.trans hp', I', hf⟩
    ·show A.depth + 8 * (X.d - 2 + 1) ≤ 950
     lia
    ·show A.units + 1 + 100 * (X.d - 2 + 1) ≤ 9000
     lia
    ·intro b hb
     simp only [List.mem_cons, List.not_mem_nil, or_false] at hb
     rcases hb with rfl | rfl
     ·exact frG
     ·exact frL
    ·intro b hb
     simp only [List.mem_cons, List.not_mem_nil, or_false] at hb
     rcases hb with rfl | rfl
     ·exact ⟨_, .head _, Nat.le_refl _, by obtain ⟨o, _, _, h1, _⟩ := hIsG; exact fun q => nomatch h1.symm.trans q⟩
     ·refine ⟨_, .tail _ (.head _), Nat.le_refl _, ?_⟩
      apply byC; intro kz; obtain ⟨o, es, ep, h1, _⟩ := hns; apply kz; clear kz
      exact fun q => nomatch (Heap.get?_push_of_some _ h1).symm.trans q
    ·refine ⟨hIsG, ?_, .inl ⟨rfl, rfl, ?_, _, hns.keeps fun b o e => Heap.get?_push_of_some _ e, ?_⟩⟩
     ·show h'.objs.size ≠ s1.heap.objs.size
      rw [hz]
      exact Nat.succ_ne_self _
     ·simp
      rfl
     ·rfl
 | _ => exact zC ea
end
section
variable {X : Stat}
noncomputable def pPair (v : PV) : PSt → Option (PV × PV) := fun s => match v with
 | .ref i => match s.hp[i]? with
  | some (_, .tuple [a, b]) => some (a, b)
  | _ => none
 | _ => none
theorem zJ2 {i : Nat} {s : PSt} {a b : PV} (h : pPair (.ref i) s = some (a, b)) : ∃ f, s.hp[i]? = some (f, .tuple [a, b]) := by
 revert h
 show (match s.hp[i]? with | some (_, .tuple [a, b]) => some (a, b) | _ => none) = some (a, b) → _
 cases s.hp[i]? with
 | none => intro e; exact zC e
 | some q =>
  obtain ⟨f, o⟩ := q
  cases o with
  | tuple xs =>
   match xs with
   | [] => intro e; exact zC e
   | [_] => intro e; exact zC e
   | [_, _] => intro e; cases e; exact ⟨f, rfl⟩
   | _ :: _ :: _ :: _ => intro e; exact zC e
  | _ => intro e; exact zC e
noncomputable def zEg (i j : Nat) (m : PM PV) : PM PF := m.bind fun v s => match pPair v s with
 | some (a, b) => some (.next, { s with vars := (s.vars.set j (some b)).set i (some a) })
 | none => none
theorem zJ3 {γ : Type} {o : Option (PV × PV)} {F : PV → PV → Option γ} {r : γ} {C : Prop} (e : (match o with | some (a, b) => F a b | none => none) = some r) (h : ∀ a b, o = some (a, b) → F a b = some r → C) : C := by
 cases o with
 | none => exact zC e
 | some p => exact h p.1 p.2 rfl e
theorem zJ4 (K : XOK X) {i j : Nat} {x y : Str} {e : Expr} {p1 p2 p3 pos : Pos} {k : Nat} {m : PM PV} (hx : X.ns[i]? = some x) (hy : X.ns[j]? = some y) (ox : X.env.kindOf x = some .cell → X.own = true) (oy : X.env.kindOf y = some .cell → X.own = true)
  (hs : swapsWithSole [.Tuple [.Name x p1, .Name y p2] k p3] e pos.line X.env = Pure.pure false) (hw : swappedStores [.Tuple [.Name x p1, .Name y p2] k p3] e X.env = Pure.pure (some [x, y])) (h : SndE X [] e m) :
  SndS X [] (.Assign [.Tuple [.Name x p1, .Name y p2] k p3] e pos) (zEg i j m) := by
 intro A P s ρ st st' b hρ hA hI e0
 apply byC; intro kz; obtain ⟨v, st1, e1, ea⟩ := PM.bind_some e0; apply kz; clear kz
 refine Assign_Tuple_swapped (names := [x, y]) (h.run List.nil_prefix hA hI e1 fun rv s1 ρ1 hp1 I1 h1 => ?_) hs hw
 refine zJ3 ea fun a b hab ea => ?_
 ·cases ea
  cases h1 with
  | ref hi =>
   apply byC; intro kz; obtain ⟨f, g⟩ := zJ2 hab; apply kz; clear kz
   apply byC; intro kz; obtain ⟨vs, n, g1, r1⟩ := I1.ref_at hi g; apply kz; clear kz
   cases r1 with
   | cons ha r1 =>
    cases r1 with
    | cons hb r2 =>
     cases r2
     rename_i ra rb
     refine wpAny_unpackItems_tuple (items := #[ra, rb]) hA.handled ⟨_, g1, rfl, n, rfl⟩ fun h' hk => ?_
     have I2 : Inv X P ρ1 st1 { s1 with heap := h' } := I1.grow (tk := s1.toks) fun b o e => hk b o (Nat.ne_of_lt (Heap.lt_size e)) e
     show wpAny _ A (assignInOrder [bindName X.env y, bindName X.env x] [rb, ra]) _ _ _
     refine wpAny_bind (wpAny_holding (wpAny_bindName (zBu K I2 hy oy hb fun s3 I3 => ?_)))
     refine wpAny_bind (wpAny_holding (wpAny_bindName (zBu K I3 hx ox ha fun s4 I4 => ?_)))
     exact wpAny_pure ⟨ρ1, hp1, I4, .next⟩
  | _ => exact zC hab
noncomputable def pMulL (a b : PV) : PM PV := fun s => match a, b with
 | .ref l, .int k => match s.hp[l]? with
  | some (_, .list xs) => if 0 ≤ k ∧ k ≤ 1000000 ∧ xs.length * k.toNat ≤ zH ∧ xs ≠ [] then zu (.list (List.replicate k.toNat xs).flatten) s else none
  | _ => none
 | _, _ => none
end
noncomputable def pIAdd (a b : PV) : PM PV := fun s => match a, b with
 | .int i, .int j => some (.int (i + j), s)
 | _, _ => none
theorem zGZ {X : Stat} : SndOp X (inplaceOp .Add) pIAdd := zI5
theorem InF.kind {G : Ctx} {d : DefRec} {n : Nat} {X : Stat} (h : InF G d n X) (x : Str) : X.env.kindOf x = d.scope.names.lookup x := by
 unfold Env.kindOf
 rw [h.sc]
noncomputable def zBg (G : Ctx) (need : Nat) (a : Addr) (k : Nat) (pf : List PV → PM PV) : Prop :=
 ∀ (X : Stat), XOK X → X.G = G → need ≤ X.d → ∀ ρ vs rvs, VRels ρ vs rvs → vs.length = k → SndR X ρ (PySem.call (.ref a) rvs []) (pf vs) VRel
theorem callS {G : Ctx} (hG : GOK G) {d : DefRec} {a : Addr} (F : FnOK G d a) {ps : List Str} (D : DefOK d ps) {n : Nat} {mb : PM PF} (hb : ∀ X', InF G d n X' → SndB X' [] d.body mb) {k q : Nat} (hk : (nsOf d.scope).length = k) (hq : ps.length = q) :
  zBg G (n + 1) a q (zAC k mb) := by
 subst hk hq
 exact fun X K hX hd ρ vs rvs hr hl => zJN hG F D hb K hX hd hr hl
theorem callP {G : Ctx} (hG : GOK G) {d : DefRec} {a : Addr} (F : FnOK G d a) {ps : List Str} (D : DefOK d ps) {n : Nat} {mb : PM PF} (hb : ∀ X', InF G d n X' → SndB X' [] d.body mb) {k q : Nat} (hk : (nsOf d.scope).length = k) (hq : ps.length = q) :
  zBg G (n + 1) a q (pCall k mb) := by
 subst hk hq
 exact fun X K hX hd ρ vs rvs hr hl => zJL hG F D hb K hX hd hr hl
theorem zBg.up {G : Ctx} {m n : Nat} {a : Addr} {k : Nat} {pf : List PV → PM PV} (h : zBg G m a k pf) (hmn : m ≤ n) : zBg G n a k pf := fun X K hX hd => h X K hX (Nat.le_trans hmn hd)
theorem zJ5 {X : Stat} (K : XOK X) {G : Ctx} (hX : X.G = G) {f : Str} {p pos : Pos} {a : Addr} {d : DefRec} {e : Expr} {es : List Expr} {n need : Nat} {ma : PM (List PV)} {pf : List PV → PM PV} (hk : X.env.kindOf f = some .globalImplicit) (hv : G.mg f = some (.ref a))
  (hd : (f == ("__debug__" : Str)) = false) (F : FnOK G d a) (C : zBg G need a n pf) (hn : need ≤ X.d) (hargs : SndL X (e :: es) ma) (he : starEach (e :: es) X.env = (false, eval e X.env) :: starEach es X.env) : SndE X [] (.Call (.Name f p) (e :: es) [] pos) (pApp n ma pf) := by
 subst hX
 exact zJP K hk hv hd F hargs he fun ρ vs rvs h1 h2 => C X K rfl hn ρ vs rvs h1 h2
theorem zBG {G : Ctx} {d : DefRec} {n : Nat} {X : Stat} (h : InF G d n X) {ns : List Str} (hns : X.ns = ns) {sc : Scope} {caps : List Nat} (hk : sc.kind = .function) (nd : (sc.names.map (·.1)).Nodup) (nc : sc.names.all (fun y => y.2 != .cell) = true)
  (fr : (zn sc).all (fun x => d.scope.names.lookup x == some .cell) = true) (cp : caps.map (ns[·]?) = (zn sc).map some) : zBU X sc caps := by
 subst hns
 refine ⟨hk, nd, fun y hy => ?_, fun x hx => ?_, cp⟩
 ·have := List.all_eq_true.mp nc y hy
  simpa using this
 ·have := List.all_eq_true.mp fr x hx
  rw [h.kind]
  simpa using this
theorem zNj {G : Ctx} {d : DefRec} {n : Nat} {X X2 : Stat} (h : InF G d n X) {sc0 : Scope} (h2 : InC X sc0 X2) {ns : List Str} (hns : X2.ns = ns) {sc : Scope} {caps : List Nat} (hk : sc.kind = .function) (nd : (sc.names.map (·.1)).Nodup) (nc : sc.names.all (fun y => y.2 != .cell) = true)
  (fr : (zn sc).all (fun x => sc0.names.lookup x == some .free && d.scope.names.lookup x == some .cell) = true) (cp : caps.map (ns[·]?) = (zn sc).map some) : zBU X2 sc caps := by
 subst hns
 refine ⟨hk, nd, fun y hy => ?_, fun x hx => ?_, cp⟩
 ·have := List.all_eq_true.mp nc y hy
  simpa using this
 ·have := List.all_eq_true.mp fr x hx
  simp only [Bool.and_eq_true, beq_iff_eq] at this
  rw [zDV h2.sco h2.xsc, this.1, h.kind, this.2]
  rfl
theorem zGa {X : Stat} (K : XOK X) : X.env.blockKind = .function := by
 unfold Env.blockKind
 rw [K.fn]; rfl
theorem zEh {G : Ctx} {d : DefRec} {n : Nat} {X : Stat} (h : InF G d n X) {elt : Expr} {gens : List Comprehension} {sc : Scope} {pos py : Pos} {y : Str} {line : Nat} (hk : d.scope.names.lookup y = some .local) (hl : (py.line == pos.line) = true)
  (hn : (sc.names.any fun (n, k) => n == y && (k == .local || k == .cell)) = false) :
  swapsWith (.ListComp elt gens sc pos) (some (.Name y py)) line X.env = Pure.pure true := by
 show (Pure.pure _ : Sem Bool) = _
 have hl' : (py.line == (Expr.ListComp elt gens sc pos).pos.line) = true := hl
 rw [h.kind, hk, zGa h.ok, hl', hn]
 rfl
theorem zJ6 {G : Ctx} {d : DefRec} {n : Nat} {X : Stat} (h : InF G d n X) {x y : Str} {p1 p2 p3 p4 q1 q2 : Pos} {k k' k1 : Nat} {c : Const} {f : Expr} {as : List Expr} {ks : List Keyword} (hx : d.scope.names.lookup x = some .local) (hy : d.scope.names.lookup y = some .local) (hl : (p2.line == p1.line) = true) (hxy : (y == x) = false) :
  swappedStores [.Tuple [.Name x p1, .Name y p2] k p3] (.Tuple [.Constant c k1 q1, .Call f as ks q2] k' p4) X.env = Pure.pure (some [x, y]) := by
 have hb := zGa h.ok
 have kx := (h.kind x).trans hx
 have ky := (h.kind y).trans hy
 have hf : [Expr.Constant c k1 q1, .Call f as ks q2].all (foldedForSure 8) = false := rfl
 have hc : [Expr.Constant c k1 q1, .Call f as ks q2].all (constantsAlone 8) = false := rfl
 have e1 : (X.env.blockKind != .function) = false := by rw [hb]; rfl
 have e2 : (X.env.kindOf x == some .local && p1.line == p1.line) = true := by rw [kx, beq_self_eq_true p1.line]; rfl
 have e3 : (X.env.kindOf y == some .local && p2.line == p1.line) = true := by rw [ky, hl]; rfl
 refine (if_neg (c := (X.env.blockKind != .function) = true) (by rw [e1]; exact Bool.false_ne_true)).trans ?_
 have e4 : ∀ names : List Str, names = [x, y] → (if (names.length != 2 || names.eraseDups.length != names.length) = true then Pure.pure none else if false = true then Pure.pure none else (Pure.pure (some names) : Sem (Option (List Str)))) = Pure.pure (some [x, y]) := fun names e => by
  subst e
  have : [x, y].eraseDups = [x, y] := by
   show (match (y == x || false) with | true => [x] | false => [x, y]) = _
   rw [hxy]; rfl
  rw [this]; rfl
 refine e4 _ ?_
 refine (List.filterMap_cons_some (b := x) ?_).trans (congrArg (x :: ·) ((List.filterMap_cons_some (b := y) ?_).trans rfl))
 ·exact if_pos e2
 ·exact if_pos e3
theorem bind0 {P : List Value → Prop} (h : P []) : ∀ vals : List Value, vals.length = 0 → P vals := fun vals e => by
 cases vals with
 | nil => exact h
 | cons _ _ => exact nomatch e
theorem bind1 {P : List Value → Prop} (h : ∀ a, P [a]) : ∀ vals : List Value, vals.length = 1 → P vals := fun vals e => by
 cases vals with
 | nil => exact nomatch e
 | cons a r => exact bind0 (P := fun r => P (a :: r)) (h a) r (Nat.succ.inj e)
theorem bind2 {P : List Value → Prop} (h : ∀ a b, P [a, b]) : ∀ vals : List Value, vals.length = 2 → P vals := fun vals e => by
 cases vals with
 | nil => exact nomatch e
 | cons a r => exact bind1 (P := fun r => P (a :: r)) (h a) r (Nat.succ.inj e)
noncomputable def FnN (G : Ctx) (x : Str) (d : DefRec) : Prop := ∃ a, G.mg x = some (.ref a) ∧ FnOK G d a
noncomputable def CallN (G : Ctx) (x : Str) (need k : Nat) (pf : List PV → PM PV) : Prop := ∀ a, G.mg x = some (.ref a) → zBg G need a k pf
theorem zAu {G : Ctx} (hG : GOK G) {x : Str} {d : DefRec} (F : FnN G x d) {ps : List Str} (D : DefOK d ps) {n : Nat} {mb : PM PF} {k q : Nat} (hk : (nsOf d.scope).length = k) (hq : ps.length = q) (hb : ∀ X', InF G d n X' → SndB X' [] d.body mb) :
  CallN G x (n + 1) q (zAC k mb) := by
 obtain ⟨a, h1, h2⟩ := F
 intro b hb'
 rw [h1] at hb'
 cases hb'
 exact callS hG h2 D hb hk hq
theorem zDa {G : Ctx} (hG : GOK G) {x : Str} {d : DefRec} (F : FnN G x d) {ps : List Str} (D : DefOK d ps) {n : Nat} {mb : PM PF} {k q : Nat} (hk : (nsOf d.scope).length = k) (hq : ps.length = q) (hb : ∀ X', InF G d n X' → SndB X' [] d.body mb) :
  CallN G x (n + 1) q (pCall k mb) := by
 obtain ⟨a, h1, h2⟩ := F
 intro b hb'
 rw [h1] at hb'
 cases hb'
 exact callP hG h2 D hb hk hq
theorem zJ7 {G : Ctx} {x : Str} {n q : Nat} : CallN G x n q (fun _ _ => none) := fun a _ X _ _ _ ρ vs rvs _ _ A P s ρ' st st' b _ _ _ e => (by cases e)
theorem zAF {X : Stat} (K : XOK X) {f : Str} {p pos : Pos} {d : DefRec} {e : Expr} {es : List Expr} {n need : Nat} {ma : PM (List PV)} {pf : List PV → PM PV} (hk : X.env.kindOf f = some .globalImplicit) (F : FnN X.G f d)
  (hd : (f == ("__debug__" : Str)) = false) (C : CallN X.G f need n pf) (hn : need ≤ X.d) (hargs : SndL X (e :: es) ma) (he : starEach (e :: es) X.env = (false, eval e X.env) :: starEach es X.env) : SndE X [] (.Call (.Name f p) (e :: es) [] pos) (pApp n ma pf) := by
 obtain ⟨a, h1, h2⟩ := F
 exact zJ5 K rfl hk h1 hd h2 (C a h1) hn hargs he
theorem zGb {X : Stat} (K : XOK X) (hdX : 2 ≤ X.d) {f : Str} {d : DefRec} (hk : X.env.kindOf f = some .globalImplicit) (F : FnN X.G f d) (hdb : (f == ("__debug__" : Str)) = false) (D : zEf d) (hmg : X.G.mg "enumerate" = none)
  {e : Expr} {m : PM PV} {i j : Nat} {na nb : Str} {q1 q2 q3 p4 p5 pos : Pos} {kt : Nat} {body : List Stmt} {mb : PM PF} (hx : X.ns[i]? = some na) (hy : X.ns[j]? = some nb) (ox : X.env.kindOf na = some .cell → X.own = true) (oy : X.env.kindOf nb = some .cell → X.own = true)
  (he : starEach [e] X.env = [(false, eval e X.env)]) (h : SndE X [] e m) (hb : SndB X [] body mb) :
  SndS X [] (.For (.Tuple [.Name na q1, .Name nb q2] kt q3) (.Call (.Name f p4) [e] [] p5) body [] pos) (zB7 m i j mb) := by
 apply byC; intro kz; obtain ⟨a, h1, h2⟩ := F; apply kz; clear kz
 exact zJ1 K hdX hk h1 hdb h2 D hmg hx hy ox oy he h hb
section
variable {X : Stat}
noncomputable def pick3 (l u : Option Int) (k : Int) (xs : List PV) : List PV := (sliceRange (sliceBounds l u (some k) xs.length).1 (sliceBounds l u (some k) xs.length).2.1 (sliceBounds l u (some k) xs.length).2.2).filterMap (xs[·]?)
noncomputable def zBV (o l u t : PV) : PM PV := fun s => (pPart l).bind fun l => (pPart u).bind fun u => match o, t with
 | .ref i, .int k => match s.hp[i]? with
  | some (_, .list xs) => if xs.length ≤ zH ∧ k ≠ 0 then zu (.list (pick3 l u k xs)) s else none
  | _ => none
 | _, _ => none
theorem zJ8 {o l u t : PV} {st : PSt} {r : PV × PSt} {C : Prop} (e : zBV o l u t st = some r) (h : ∀ l' u' i k f xs, pPart l = some l' → pPart u = some u' → o = .ref i → t = .int k → st.hp[i]? = some (f, .list xs) → xs.length ≤ zH ∧ k ≠ 0 → zu (.list (pick3 l' u' k xs)) st = some r → C) : C := by
 obtain ⟨l', h1, e⟩ := Option.bind_eq_some_iff.mp e
 obtain ⟨u', h2, e⟩ := Option.bind_eq_some_iff.mp e
 cases o with
 | ref i =>
  cases t with
  | int k =>
   refine zBz e fun f xs g e => ?_
   by_cases hc : xs.length ≤ zH ∧ k ≠ 0
   ·exact h l' u' i k f xs h1 h2 rfl rfl g hc ((if_pos hc).symm.trans e)
   ·exact zC ((if_neg hc).symm.trans e)
  | _ => exact zC e
 | _ => exact zC e
noncomputable def pSl3 (mo ml mu mt : PM PV) : PM PV := mo.bind fun o => ml.bind fun l => mu.bind fun u => mt.bind fun t => zBV o l u t
noncomputable def zEi (s : Shared) (rl ru rt : Value) : Shared := { s with heap := s.heap.push { cls := .type "slice", data := .fields #[rl, ru, rt] } }
theorem zJ9 (K : XOK X) {A : Around} {P : Prot} {ρ : List Addr} {st st' : PSt} {s : Shared} {o lv uv tv b : PV} {ro rl ru rt : Value} {Q : Value → Shared → Prop} (I : Inv X P ρ st s) (h1 : VRel ρ o ro) (h2 : VRel ρ lv rl) (h3 : VRel ρ uv ru) (h4 : VRel ρ tv rt)
  (e : zBV o lv uv tv st = some (b, st')) (hQ : ∀ a s' ρ', ρ <+: ρ' → Inv X P ρ' st' s' → VRel ρ' b a → Q a s') : ItemOn (model X.G.prog X.G.w) A (fun _ _ => False) ro (.ref s.heap.objs.size) Q (zEi s rl ru rt) := by
 refine zJ8 e fun l' u' i k f xs g1 g2 e1 e2 g hc e => ?_
 have q1 := zDL h2 g1
 have q2 := zDL h3 g2
 rw [e1] at h1
 rw [e2] at h4
 cases e
 cases h1 with | ref hi => ?_
 cases h4 with | int _ tk => ?_
 have I5 : Inv X P ρ st (zEi s rl ru (.int k tk)) := I.grow (tk := s.toks) fun b o e => Heap.get?_push_of_some _ e
 apply byC; intro kz; obtain ⟨vs, n, p1, r1⟩ := I5.ref_at hi g; apply kz; clear kz
 have hL : (zEi s rl ru (.int k tk)).heap.IsList _ vs.toArray := ⟨_, p1, rfl, n, rfl⟩
 have hz : vs.toArray.size = xs.length := r1.length
 refine zES hL (wpAny_getItem_list_slice hL (Heap.IsSliceOf.new ..) q1 q2 (.int k tk) (by simpa using hc.2) (hQ _ _ _ (List.prefix_append ..) (I5.alloc K ⟨_, 0, Heap.get?_push_size _ rfl, ?_⟩) (.ref (I5.last _))) (by rw [hz]; exact zAG hc.1))
 unfold pick3
 rw [hz]
 exact (zET r1 _).up (List.prefix_append ..)
theorem zGc (K : XOK X) {a : Expr} {l u : Option Expr} {t : Expr} {p pos : Pos} {ma ml mu mt : PM PV} (ha : SndE X [] a ma) (hl : SndR X [] (evalPart l X.env) ml VRel) (hu : SndR X [] (evalPart u X.env) mu VRel) (ht : SndE X [] t mt) :
  SndE X [] (.Subscript a (.Slice l u (some t) p) pos) (pSl3 ma ml mu mt) := by
 show SndR _ _ (eval (.Subscript a (.Slice l u (some t) p) pos) X.env) _ _
 rw [eval_Subscript]
 intro A P s ρ st st' b hρ hA hI e
 apply byC; intro kz; obtain ⟨o, st1, e1, e⟩ := PM.bind_some e; apply kz; clear kz
 apply byC; intro kz; obtain ⟨lv, st2, e2, e⟩ := PM.bind_some e; apply kz; clear kz
 apply byC; intro kz; obtain ⟨uv, st3, e3, e⟩ := PM.bind_some e; apply kz; clear kz
 apply byC; intro kz; obtain ⟨tv, st4, e4, e⟩ := PM.bind_some e; apply kz; clear kz
 refine wpAny_bind (ha.run List.nil_prefix hA hI e1 fun ro s1 ρ1 hp1 I1 h1 => wpAny_bind (wpAny_holding (wpAny_Slice (hl.run List.nil_prefix hA I1 e2 fun rl s2 ρ2 hp2 I2 h2 => hu.run List.nil_prefix hA I2 e3 fun ru s3 ρ3 hp3 I3 h3 => ?_))))
 rw [evalPart_some]
 refine ht.run List.nil_prefix hA I3 e4 fun rt s4 ρ4 hp4 I4 h4 => wpAny_bind (wpAny_standAt ?_)
 have p34 := hp3.trans hp4
 have p24 := hp2.trans p34
 obtain ⟨T, id, hl, hT, hg⟩ := zJ9 (Q := fun a s' => ∃ ρ', ρ <+: ρ' ∧ Inv X P ρ' st' s' ∧ VRel ρ' b a) K I4 (h1.up p24) (h2.up p34) (h3.up hp4) h4 e fun a s' ρ' hp I h => ⟨ρ', (hp1.trans p24).trans hp, I, h⟩
 refine wpAny_bind ?_
 rw [getitemInPython_of_ne hT.not_modules]
 refine wpAny_bind (wpAny_specialOf hT hl ?_)
 refine wpAny_pure (wpAny_bind ?_)
 exact wpAny_operating (wpAny_mono hg (fun r s₃ h₃ => wpAny_bind (wpAny_letTemporaryGo (wpAny_pure h₃))) fun _ _ x => x)
end
structure zB8 (prog : Program) (w : World) (A : Around) (I : Addr) (fp wr : List Addr) (n : Nat) (Pt : Nat → Value → Value → Prop) (St : Nat → Heap → Prop) : Prop where
 sub : ∀ b ∈ wr, b ∈ fp
 frame : ∀ i h h', St i h → (∀ b ∈ fp, ∀ o, h.get? b = some o → h'.get? b = some o) → St i h'
 item : ∀ i (s : Shared) (Q : Value → Shared → Prop) (E : Value → Shared → Prop) (elts : List Expr) (k : Nat) (pos : Pos), i < n → St i s.heap →
  (∀ T ra rb h' tk, Pt i ra rb → h'.IsTuple T #[ra, rb] → St (i + 1) h' → (∀ b o, b ∉ wr → s.heap.get? b = some o → h'.get? b = some o) → Q (.ref T) { s with heap := h', toks := tk }) →
  wpAny (model prog w) A (pyNext (.ref I)) (fun r s₁ => match r with
   | none => False
   | some v => wpAny (model prog w) A (letOwnedTupleGo (.Tuple elts k pos) (.ref I) v) (fun _ s₂ => Q v s₂) E s₁) E s
 done : ∀ (s : Shared) (Q : Option Value → Shared → Prop) (E : Value → Shared → Prop), St n s.heap →
  (∀ h' tk, (∀ b o, b ∉ wr → s.heap.get? b = some o → h'.get? b = some o) → Q none { s with heap := h', toks := tk }) → wpAny (model prog w) A (pyNext (.ref I)) Q E s
 self : ∀ i (s : Shared) (Q : Value → Shared → Prop) (E : Value → Shared → Prop), St i s.heap → Q (.ref I) s → wpAny (model prog w) A (pyIter (.ref I)) Q E s
section
variable {prog : Program} {w : World} {A : Around} {I : Addr} {fp wr : List Addr} {n : Nat}
theorem zB8.ofW {Pp : Nat → Value → Prop} {St : Nat → Heap → Prop} (W : Walks prog w A I fp wr n Pp St) (hgo : ∀ (elts : List Expr) (k : Nat) (pos : Pos) i v (s : Shared) (Q : Unit → Shared → Prop) (E : Value → Shared → Prop), St i s.heap → Q () s → wpAny (model prog w) A (letOwnedTupleGo (.Tuple elts k pos) (.ref I) v) Q E s)
  (Ts : List (Addr × Value × Value)) (hp : ∀ i v, i < n → Pp i v → ∃ x, Ts[i]? = some x ∧ v = .ref x.1) (hTw : ∀ x ∈ Ts, x.1 ∉ wr) :
  zB8 prog w A I (Ts.map (·.1) ++ fp) wr n (fun i a b => ∃ T, Ts[i]? = some (T, a, b)) (fun i h => St i h ∧ ∀ x ∈ Ts, h.IsTuple x.1 #[x.2.1, x.2.2]) where
 sub := fun b hb => List.mem_append_right _ (W.sub b hb)
 frame := fun i h h' hst hk => ⟨W.frame i h h' hst.1 fun b hb => hk b (List.mem_append_right _ hb), fun x hx => by
  apply byC; intro kz; obtain ⟨o, ho, r⟩ := hst.2 x hx; apply kz; clear kz
  exact ⟨o, hk x.1 (List.mem_append_left _ (List.mem_map.mpr ⟨x, hx, rfl⟩)) o ho, r⟩⟩
 item := fun i s Q E elts k pos hi hst hQ => W.item i s _ _ hi hst.1 fun v h' tk hv hst2 hk => by
  apply byC; intro kz; obtain ⟨⟨T, a, b⟩, hx, rfl⟩ := hp i v hi hv; apply kz; clear kz
  have all : ∀ x ∈ Ts, h'.IsTuple x.1 #[x.2.1, x.2.2] := fun x hx => by
   apply byC; intro kz; obtain ⟨o, ho, r⟩ := hst.2 x hx; apply kz; clear kz
   exact ⟨o, hk x.1 o (hTw x hx) ho, r⟩
  exact hgo elts k pos (i + 1) _ _ _ _ hst2 (hQ T a b h' tk ⟨T, hx⟩ (all _ (List.mem_of_getElem? hx)) ⟨hst2, all⟩ hk)
 done := fun s Q E hst hQ => W.done s Q E hst.1 hQ
 self := fun i s Q E hst hQ => W.self i s Q E hst.1 hQ
end
noncomputable def zAm (hp : List (Bool × PO)) : PV → Option (PV × PV)
 | .ref i => match hp[i]? with
  | some (_, .tuple [a, b]) => some (a, b)
  | _ => none
 | _ => none
noncomputable def zV (hp : List (Bool × PO)) : List PV → Option (List (PV × PV))
 | [] => some []
 | v :: vs => (zAm hp v).bind fun p => (zV hp vs).bind fun ps => some (p :: ps)
noncomputable def refIx : PV → Nat
 | .ref i => i
 | _ => 0
theorem zEj {hp : List (Bool × PO)} {v : PV} {p : PV × PV} (h : zAm hp v = some p) : ∃ i f, v = .ref i ∧ hp[i]? = some (f, .tuple [p.1, p.2]) := by
 cases v with
 | ref i =>
  revert h
  unfold zAm
  dsimp only
  cases hq : hp[i]? with
  | none => intro e; exact zC e
  | some q =>
   obtain ⟨f, o⟩ := q
   cases o with
   | tuple xs =>
    cases xs with
    | nil => intro e; exact zC e
    | cons a xs =>
     cases xs with
     | nil => intro e; exact zC e
     | cons b xs =>
      cases xs with
      | nil => intro e; cases e; exact ⟨i, f, rfl, hq⟩
      | cons c xs => intro e; exact zC e
   | _ => intro e; exact zC e
 | _ => exact zC h
section
variable {X : Stat} {P : Prot} {ρ ρ' : List Addr} {st st' : PSt} {s s' : Shared}
theorem zGd (I : Inv X P ρ st s) {xs : List PV} {vs : List Value} (hr : VRels ρ xs vs) : ∀ {ps : List (PV × PV)}, zV st.hp xs = some ps →
  ∃ Ts : List (Addr × Value × Value), vs = Ts.map (fun x => .ref x.1) ∧ ps.length = xs.length ∧ (∀ x ∈ Ts, s.heap.IsTuple x.1 #[x.2.1, x.2.2] ∧ ∃ j ∈ xs.map refIx, ρ[j]? = some x.1) ∧ (∀ (i : Nat) x, Ts[i]? = some x → ∃ p, ps[i]? = some p ∧ VRel ρ p.1 x.2.1 ∧ VRel ρ p.2 x.2.2) := by
 induction hr with
 | nil =>
  intro ps e
  cases e
  exact ⟨[], rfl, rfl, fun x hx => (nomatch hx), fun i x hx => (by simp at hx)⟩
 | @cons v rv xs vs hv r ih =>
  intro ps e
  apply byC; intro kz; obtain ⟨p, h1, e⟩ := Option.bind_eq_some_iff.mp e; apply kz; clear kz
  apply byC; intro kz; obtain ⟨ps, h2, e⟩ := Option.bind_eq_some_iff.mp e; apply kz; clear kz
  cases e
  apply byC; intro kz; obtain ⟨Ts, rfl, hl, h3, h4⟩ := ih h2; apply kz; clear kz
  apply byC; intro kz; obtain ⟨i, f, rfl, hq⟩ := zEj h1; apply kz; clear kz
  cases hv with
  | ref hi =>
   rename_i T
   apply byC; intro kz; obtain ⟨ws, n, g1, r1⟩ := I.ref_at hi hq; apply kz; clear kz
   cases r1 with | cons ha r1 => ?_
   cases r1 with | cons hb r1 => ?_
   cases r1
   rename_i ra rb
   refine ⟨(T, ra, rb) :: Ts, rfl, by simp [hl], fun x hx => ?_, fun j x hx => ?_⟩
   ·rcases List.mem_cons.mp hx with rfl | hx
    ·exact ⟨⟨_, g1, rfl, n, rfl⟩, i, by simp [refIx], hi⟩
    ·apply byC; intro kz; obtain ⟨h5, j, h6, h7⟩ := h3 x hx; apply kz; clear kz
     exact ⟨h5, j, by simp only [List.map_cons]; exact List.mem_cons_of_mem _ h6, h7⟩
   ·cases j with
    | zero => simp only [List.getElem?_cons_zero, Option.some.injEq] at hx; subst hx; exact ⟨p, rfl, ha, hb⟩
    | succ j => exact h4 j x (by simpa using hx)
noncomputable def SndIP (X : Stat) (e : Expr) (mi : PM (List (PV × PV) × List Nat)) : Prop :=
 ∀ (A : Around) (P : Prot) (s : Shared) (ρ : List Addr) (st st' : PSt) (xs : List (PV × PV)) (fz : List Nat) (Q : Value → Shared → Prop) (E : Value → Shared → Prop), AOK X.d A → Inv X P ρ st s → mi st = some ((xs, fz), st') →
  (∀ I s' ρ' fp wr Pp St, ρ <+: ρ' → Inv X P ρ' st' s' → zB8 X.G.prog X.G.w A I fp wr xs.length Pp St → St 0 s'.heap → WrOK X P ρ' wr → (∀ j h, St j h → ∀ b ∈ wr, h.get? b ≠ none) → (∀ b ∈ fp, b ∈ wr ∨ ∃ i ∈ fz, ρ'[i]? = some b) →
   (∀ i va vb, i < xs.length → Pp i va vb → ∃ p, xs[i]? = some p ∧ VRel ρ' p.1 va ∧ VRel ρ' p.2 vb) → Q (.ref I) s') →
  wpAny (model X.G.prog X.G.w) A (eval e X.env) (fun x s₁ => wpAny (model X.G.prog X.G.w) A (pyIter x) Q E s₁) E s
noncomputable def pSrcP (m : PM PV) : PM (List (PV × PV) × List Nat) := m.bind fun v s => match v with
 | .ref i => match s.hp[i]? with
  | some (_, .list xs) => (zV s.hp xs).bind fun ps => some ((ps, i :: xs.map refIx), s)
  | some (_, .tuple xs) => (zV s.hp xs).bind fun ps => some ((ps, i :: xs.map refIx), s)
  | _ => none
 | _ => none
theorem zGe (K : XOK X) {e : Expr} {m : PM PV} (h : SndE X [] e m) : SndIP X e (pSrcP m) := by
 intro A P s ρ st st' xs fz Q E hA hI e0 hQ
 apply byC; intro kz; obtain ⟨v, st1, e1, ea⟩ := PM.bind_some e0; apply kz; clear kz
 refine h.run List.nil_prefix hA hI e1 fun rv s1 ρ1 hp1 I1 h1 => ?_
 cases h1 with
 | ref hi =>
  rename_i i a
  have hlt : a < s1.heap.objs.size := I1.lt (List.mem_of_getElem? hi)
  have hne : a ≠ s1.heap.objs.size := Nat.ne_of_lt hlt
  have fin : ∀ (ty : String) (ys : List PV) (vs : List Value) (ps : List (PV × PV)) (Ts : List (Addr × Value × Value)) (St : Nat → Heap → Prop), VRels ρ1 ys vs → vs = Ts.map (fun x => .ref x.1) → ps.length = ys.length → (∀ x ∈ Ts, s1.heap.IsTuple x.1 #[x.2.1, x.2.2] ∧ ∃ j ∈ ys.map refIx, ρ1[j]? = some x.1) →
    (∀ (i : Nat) x, Ts[i]? = some x → ∃ p, ps[i]? = some p ∧ VRel ρ1 p.1 x.2.1 ∧ VRel ρ1 p.2 x.2.2) → zV st1.hp ys = some ps → some ((ps, i :: ys.map refIx), st1) = some ((xs, fz), st') →
    Walks X.G.prog X.G.w A s1.heap.objs.size [s1.heap.objs.size, a] [s1.heap.objs.size] vs.toArray.size (fun i v => vs.toArray[i]? = some v) St →
    (∀ (elts : List Expr) (k : Nat) (pos : Pos) i v (s : Shared) (Q : Unit → Shared → Prop) (E : Value → Shared → Prop), St i s.heap → Q () s → wpAny (model X.G.prog X.G.w) A (letOwnedTupleGo (.Tuple elts k pos) (.ref s1.heap.objs.size) v) Q E s) →
    (∀ j h, St j h → h.get? s1.heap.objs.size ≠ none) →
    St 0 (s1.heap.push { cls := .type ty, data := .fields #[.ref a, .int 0 0] }) → Q (.ref s1.heap.objs.size) { s1 with heap := s1.heap.push { cls := .type ty, data := .fields #[.ref a, .int 0 0] } } := by
   intro ty ys vs ps Ts St hr hvs hps hT hx hpi ee W hgo hth hst
   cases ee
   subst hvs
   have hz : (Ts.map (fun x => Value.ref x.1)).toArray.size = xs.length := by rw [List.size_toArray, hr.length, hps]
   rw [hz] at W
   have key : ∀ x ∈ Ts, x.1 < s1.heap.objs.size := fun x hx => by
    apply byC; intro kz; obtain ⟨_, j, _, hj⟩ := hT x hx; apply kz; clear kz
    exact I1.lt (List.mem_of_getElem? hj)
   refine hQ _ _ ρ1 _ _ _ _ hp1 (I1.grow (tk := s1.toks) fun b o e => Heap.get?_push_of_some _ e)
    (zB8.ofW W hgo Ts (fun j v hj hv => ?_) fun x hx h => Nat.ne_of_lt (key x hx) (List.mem_singleton.mp h)) ⟨hst, fun x hx => ?_⟩ (zCe K I1 (Nat.le_refl _)) ?_ ?_ ?_
   ·rw [List.getElem?_toArray, List.getElem?_map] at hv
    apply byC; intro kz; obtain ⟨x, h1, h2⟩ := Option.map_eq_some_iff.mp hv; apply kz; clear kz
    exact ⟨x, h1, h2.symm⟩
   ·apply byC; intro kz; obtain ⟨⟨o, ho, r⟩, _⟩ := hT x hx; apply kz; clear kz
    exact ⟨o, Heap.get?_push_of_some _ ho, r⟩
   ·rintro j h ⟨hs, _⟩ b hb
    rw [List.mem_singleton] at hb
    rw [hb]
    exact hth j h hs
   ·intro b hb
    rcases List.mem_append.mp hb with hb | hb
    ·apply byC; intro kz; obtain ⟨x, hx, rfl⟩ := List.mem_map.mp hb; apply kz; clear kz
     apply byC; intro kz; obtain ⟨_, j, h2, h3⟩ := hT x hx; apply kz; clear kz
     exact .inr ⟨j, List.mem_cons_of_mem _ h2, h3⟩
    ·simp only [List.mem_cons, List.not_mem_nil, or_false] at hb
     rcases hb with rfl | rfl
     ·exact .inl (List.mem_singleton.mpr rfl)
     ·exact .inr ⟨i, List.mem_cons_self .., hi⟩
   ·rintro j va vb hj ⟨T, hT'⟩
    exact hx j _ hT'
  revert ea
  dsimp only
  cases g : st1.hp[i]? with
  | none => intro ea; exact zC ea
  | some q =>
   apply byC; intro kz; obtain ⟨f, o⟩ := q; apply kz; clear kz
   cases o with
   | list ys =>
    intro ea
    apply byC; intro kz; obtain ⟨ps, h2, ea⟩ := Option.bind_eq_some_iff.mp ea; apply kz; clear kz
    apply byC; intro kz; obtain ⟨vs, n, g1, r1⟩ := I1.ref_at hi g; apply kz; clear kz
    apply byC; intro kz; obtain ⟨Ts, h3, h4, h5, h6⟩ := zGd I1 r1 h2; apply kz; clear kz
    refine wpAny_pyIter_list (items := vs.toArray) ⟨_, g1, rfl, n, rfl⟩ ?_
    refine fin "list_iterator" ys vs ps Ts _ r1 h3 h4 h5 h6 h2 ea (Walks.list (prog := X.G.prog) (w := X.G.w) (A := A) hA.handled s1.heap.objs.size a hne vs.toArray) (fun elts k pos i v s Q E hs hq => ?_) (fun j h hs => ?_) ⟨⟨_, Heap.get?_push_size _ rfl, rfl, rfl⟩, _, Heap.get?_push_of_some _ g1, rfl, n, rfl⟩
    ·cases v with
     | ref T => exact wpAny_letOwnedTupleGo_listiter hs.1 hq
     | _ => exact wpAny_pure hq
    ·apply byC; intro kz; obtain ⟨⟨o, ho, _⟩, _⟩ := hs; apply kz; clear kz
     rw [ho]; simp
   | tuple ys =>
    intro ea
    apply byC; intro kz; obtain ⟨ps, h2, ea⟩ := Option.bind_eq_some_iff.mp ea; apply kz; clear kz
    apply byC; intro kz; obtain ⟨vs, n, g1, r1⟩ := I1.ref_at hi g; apply kz; clear kz
    apply byC; intro kz; obtain ⟨Ts, h3, h4, h5, h6⟩ := zGd I1 r1 h2; apply kz; clear kz
    refine wpAny_pyIter_tuple (items := vs.toArray) ⟨_, g1, rfl, n, rfl⟩ ?_
    refine fin "tuple_iterator" ys vs ps Ts _ r1 h3 h4 h5 h6 h2 ea (Walks.tuple (prog := X.G.prog) (w := X.G.w) (A := A) hA.handled s1.heap.objs.size a hne vs.toArray) (fun elts k pos i v s Q E hs hq => letGo_tupleiter hs.1 hq) (fun j h hs => ?_) ⟨⟨_, Heap.get?_push_size _ rfl, rfl, rfl⟩, _, Heap.get?_push_of_some _ g1, rfl, n, rfl⟩
    apply byC; intro kz; obtain ⟨⟨o, ho, _⟩, _⟩ := hs; apply kz; clear kz
    rw [ho]; simp
   | _ => intro ea; exact zC ea
 | _ => exact zC ea
end
noncomputable def pSet2 (i j : Nat) (p : PV × PV) : PM Unit := fun s => some ((), { s with vars := (s.vars.set i (some p.1)).set j (some p.2) })
noncomputable def pForQ (set : PV × PV → PM Unit) (b : PM PF) : List (PV × PV) → PM PF
 | [] => PM.ret .next
 | x :: xs => (set x).bind fun _ => b.bind fun f => match f with
  | .next => pForQ set b xs
  | .cont => pForQ set b xs
  | .brk => PM.ret .next
  | .ret v => PM.ret (.ret v)
noncomputable def zNk (mi : PM (List (PV × PV) × List Nat)) (set : PV × PV → PM Unit) (b : PM PF) : PM PF := mi.bind fun p s => match pForQ set b p.1 { s with hp := fzAt p.2 s.hp } with
 | some (f, s') => some (f, { s' with hp := restore s.hp s'.hp })
 | none => none
noncomputable def SetP (X : Stat) (target : Expr) (set : PV × PV → PM Unit) : Prop :=
 ∀ (A : Around) (P : Prot) (s : Shared) (ρ : List Addr) (st st' : PSt) (x : PV × PV) (va vb : Value) (T : Addr) (Q : Unit → Shared → Prop), AOK X.d A → Inv X P ρ st s → VRel ρ x.1 va → VRel ρ x.2 vb → s.heap.IsTuple T #[va, vb] → set x st = some ((), st') →
  (∀ s', Inv X P ρ st' s' → Q () s') → wpAny (model X.G.prog X.G.w) A (assign target X.env (.ref T)) Q (fun _ _ => False) s
section
variable {X : Stat} {P : Prot} {ρ ρ' : List Addr} {st st' : PSt} {s s' : Shared}
theorem setP (K : XOK X) {i j : Nat} {x y : Str} {p1 p2 pos : Pos} {k : Nat} (hx : X.ns[i]? = some x) (hy : X.ns[j]? = some y) (ox : X.env.kindOf x = some .cell → X.own = true) (oy : X.env.kindOf y = some .cell → X.own = true) :
  SetP X (.Tuple [.Name x p1, .Name y p2] k pos) (pSet2 i j) := fun A P s ρ st st' p va vb T Q hA hI ha hb hT e hQ => by
 cases e
 exact zDZ K hA.handled hI hx hy ox oy ha hb hT hQ
theorem zKA (I1 : Inv X P ρ st s) {fz : List Nat} {fp wr : List Addr} (hf : ∀ b ∈ fp, b ∈ wr ∨ ∃ i ∈ fz, ρ[i]? = some b) (vars : List (Option PV)) : FpOK ρ { vars := vars, hp := fzAt fz st.hp } fp wr := fun b hb => by
 rcases hf b hb with h | ⟨i, hi, hr⟩
 ·exact .inl h
 ·have hlt : i < st.hp.length := by rw [← I1.len]; exact (List.getElem?_eq_some_iff.mp hr).1
  refine .inr ⟨i, (true, st.hp[i].2), hr, ?_, rfl⟩
  show (fzAt fz st.hp)[i]? = _
  rw [zB5, List.getElem?_eq_getElem hlt]
  simp [hi]
theorem zKB {st1 st3 : PSt} {ρ1 ρ4 : List Addr} {s4 : Shared} {fp wr fp' wr' : List Addr} {s2 : Shared} (hf1 : FpOK ρ1 st1 fp wr) (I2 : Inv X P ρ1 st1 s2) (hp : ρ1 <+: ρ4) (hs : ∀ b ∈ fp, b ∈ fp') (J4 : Inv X (P.hold fp' wr' s2.heap) ρ4 st3 s4) : FpOK ρ4 st3 fp wr := fun b hb => by
 rcases hf1 b hb with h | ⟨i, c, h1, h2, h3⟩
 ·exact .inl h
 ·refine .inr ⟨i, ?_⟩
  have h4 := zi hp h1
  have hlt : i < st3.hp.length := by rw [← J4.len]; exact (List.getElem?_eq_some_iff.mp h4).1
  refine ⟨st3.hp[i], h4, List.getElem?_eq_getElem hlt, J4.fz i b _ h4 (List.getElem?_eq_getElem hlt) ?_⟩
  rw [zr (hs b hb)]
  obtain ⟨ob, ho⟩ := (I2.objs i b c h1 h2).there
  rw [ho]
  exact nofun
end
noncomputable def zAe (set : PV × PV → PM Unit) (test : PM Bool) (elt : PM PV) : List (PV × PV) → List PV → PM (List PV)
 | [], acc => PM.ret acc
 | x :: xs, acc => (set x).bind fun _ => test.bind fun b => if b then elt.bind fun v => zAe set test elt xs (acc ++ [v]) else zAe set test elt xs acc
noncomputable def zBH (nt : Nat) (caps : List Nat) (mi : PM (List (PV × PV) × List Nat)) (set : PV × PV → PM Unit) (test : PM Bool) (elt : PM PV) : PM PV := mi.bind fun p s =>
 if p.1.length ≤ zH then
  match zAe set test elt p.1 [] { vars := zAl nt caps s.vars, hp := fzAt p.2 s.hp } with
  | some (acc, s') => some (.ref s'.hp.length, { vars := s.vars, hp := restore s.hp s'.hp ++ [(false, .list acc)] })
  | none => none
 else none
theorem zKC {nt : Nat} {caps : List Nat} {mi : PM (List (PV × PV) × List Nat)} {set : PV × PV → PM Unit} {test : PM Bool} {elt : PM PV} {st st' : PSt} {v : PV} (e : zBH nt caps mi set test elt st = some (v, st')) :
  ∃ xs fz st1 acc s2, mi st = some ((xs, fz), st1) ∧ xs.length ≤ zH ∧ zAe set test elt xs [] { vars := zAl nt caps st1.vars, hp := fzAt fz st1.hp } = some (acc, s2) ∧ v = .ref s2.hp.length ∧ st' = { vars := st1.vars, hp := restore st1.hp s2.hp ++ [(false, .list acc)] } := by
 obtain ⟨⟨xs, fz⟩, st1, e1, ea⟩ := PM.bind_some e
 dsimp only at ea
 by_cases hc : xs.length ≤ zH
 ·have ea := (if_pos hc).symm.trans ea
  revert ea
  cases e2 : zAe set test elt xs [] { vars := zAl nt caps st1.vars, hp := fzAt fz st1.hp } with
  | none => intro ea; exact zC ea
  | some r =>
   obtain ⟨acc, s2⟩ := r
   intro ea
   cases ea
   exact ⟨xs, fz, st1, acc, s2, e1, hc, e2, rfl, rfl⟩
 ·exact nomatch (if_neg hc).symm.trans ea
theorem zKD {prog : Program} {w : World} {A : Around} {R : Result → Shared → Prop} {s : Shared} {elt target iter : Expr} {ifs : List Expr} {scope : Scope} {pos : Pos} {it acc : Value} {env : Env} (I : Nat → Shared → Prop)
  (turn : ∀ n s, I n s → wpAny (model prog w) A (pyNext it) (fun r s₁ => match r with
   | none => R (.ok .next) s₁
   | some v => wpAny (model prog w) A (letOwnedTupleGo target it v) (fun _ s₀ => wpAny (model prog w) A (assign target env v) (fun _ s₂ =>
     wpAny (model prog w) A (forIn ifs true fun c r => if r = true then do let ok ← isTrue c env (eval c env); pure (ForInStep.yield ok) else pure (ForInStep.yield r)) (fun ok s₃ =>
      if ok = true then wpAny (model prog w) A (eval elt env) (fun x s₄ =>
       wpAny (model prog w) A (call (.builtin "list.append") [acc, x]) (fun _ s₅ => ∃ m, m < n ∧ I m s₅) (fun _ _ => False) s₄) (fun _ _ => False) s₃
      else ∃ m, m < n ∧ I m s₃) (fun _ _ => False) s₂) (fun _ _ => False) s₀) (fun _ _ => False) s₁) (fun _ _ => False) s)
  (n : Nat) (h : I n s) : codeAny (model prog w) A (.compLoop (.ListComp elt [⟨target, iter, ifs, 0⟩] scope pos) 0 it acc env) R s := by
 refine codeAny_loop rfl I (fun n s hI => ?_) n h
 show wpAny _ _ ((compTurn (.ListComp elt [⟨target, iter, ifs, 0⟩] scope pos) 0 it acc env).onRaise (fun x => do noteFrame x env; theTreesLotGoes x)) _ _ s
 refine wpAny_noted ?_
 rw [compTurn_list]
 refine wpAny_bind (wpAny_standAt (wpAny_bind (wpAny_mono (turn n s hI) (fun r s₁ h₁ => ?_) fun _ _ h' => h'.elim)))
 cases r with
 | none => exact wpAny_pure h₁
 | some v =>
  refine wpAny_bind (wpAny_mono h₁ (fun _ s₀ h₀ => ?_) fun _ _ h' => h'.elim)
  refine wpAny_bind (wpAny_mono h₀ (fun _ s₂ h₂ => wpAny_bind (wpAny_mono h₂ (fun ok s₃ h₃ => ?_) fun _ _ h' => h'.elim)) fun _ _ h' => h'.elim)
  cases ok with
  | false => exact wpAny_pure ⟨rfl, h₃⟩
  | true =>
   exact wpAny_bind (wpAny_bind (wpAny_mono h₃ (fun x s₄ h₄ => wpAny_bind (wpAny_mono h₄ (fun _ s₅ h₅ => wpAny_pure (wpAny_pure ⟨rfl, h₅⟩)) fun _ _ h' => h'.elim)) fun _ _ h' => h'.elim))
section
variable {X : Stat} {P : Prot} {ρ ρ' : List Addr} {st st' : PSt} {s s' : Shared}
theorem zKE {X' : Stat} (K' : XOK X') {A : Around} (hA : AOK X'.d A) {elts : List Expr} {kt : Nat} {tp : Pos} {elt iter : Expr} {sc : Scope} {pos : Pos} {ifs : List Expr} {I D : Addr} {fp wr : List Addr} {xs : List (PV × PV)} {acc' acc0 : List PV} {vs0 : List Value} {n0 : Nat}
  {Pp : Nat → Value → Value → Prop} {St : Nat → Heap → Prop} {set : PV × PV → PM Unit} {mt : PM Bool} {me : PM PV} {R : Result → Shared → Prop}
  (W : zB8 X'.G.prog X'.G.w A I fp wr xs.length Pp St) (hI : Inv X' P ρ st s) (hst : St 0 s.heap) (hal : ∀ j h, St j h → ∀ b ∈ wr, h.get? b ≠ none) (hw : WrOK X' P ρ (D :: wr)) (hDf : D ∉ fp) (hf : FpOK ρ st fp wr)
  (hx : ∀ i va vb, i < xs.length → Pp i va vb → ∃ p, xs[i]? = some p ∧ VRel ρ p.1 va ∧ VRel ρ p.2 vb) (hsz : acc0.length + xs.length ≤ zH) (hD : s.heap.get? D = some { cls := .type "list", data := .seq (List.toArray vs0) n0 }) (hacc0 : VRels ρ acc0 vs0)
  (hset : SetP X' (.Tuple elts kt tp) set) (ht : SndTs X' ifs mt) (he : SndE X' [] elt me) (e : zAe set mt me xs acc0 st = some (acc', st'))
  (hR : ∀ s' ρ' vs n, ρ <+: ρ' → Inv X' P ρ' st' s' → WrOK X' P ρ' (D :: wr) → s'.heap.get? D = some { cls := .type "list", data := .seq (List.toArray vs) n } → VRels ρ' acc' vs → R (.ok .next) s') :
  codeAny (model X'.G.prog X'.G.w) A (.compLoop (.ListComp elt [⟨.Tuple elts kt tp, iter, ifs, 0⟩] sc pos) 0 (.ref I) (.ref D) X'.env) R s := by
 have hDw : D ∉ wr := fun h => hDf (W.sub _ h)
 refine zKD (CInv X' P ρ xs.length St fp wr D acc0.length fun j acc st1 => zAe set mt me (xs.drop j) acc st1 = some (acc', st')) ?_
  (xs.length + 1) ⟨0, ρ, st, acc0, vs0, n0, rfl, Nat.zero_le _, List.prefix_refl _, hI, hst, hw, hf, hD, hacc0, Nat.le_refl _, e⟩
 rintro k s1 ⟨j, ρ1, st1, acc, vs, n, hk, hjl, hp1, I1, hst1, hw1, hf1, hD1, hacc, hlen, e1⟩
 by_cases hj : j < xs.length
 ·rw [zDT hj] at e1
  apply byC; intro kz; obtain ⟨_, st2, e2, e3⟩ := PM.bind_some e1; apply kz; clear kz
  apply byC; intro kz; obtain ⟨c, st3, e4, e5⟩ := PM.bind_some e3; apply kz; clear kz
  refine wpAny_mono (W.item j s1 ?Q _ elts kt tp hj hst1 ?cont) ?up fun _ _ h => h
  case up =>
   intro r s2 h
   cases r with
   | none => exact h.elim
   | some v => exact h
  intro T va vb h' tk hv hT hst2 hkeep
  apply byC; intro kz; obtain ⟨x, hxj, hva, hvb⟩ := hx j va vb hj hv; apply kz; clear kz
  rw [List.getElem?_eq_getElem hj] at hxj
  cases hxj
  have I2 : Inv X' P ρ1 st1 { s1 with heap := h', toks := tk } := I1.wr wr hkeep (fun a h => (hw1 a (.tail _ h)).2.1) (fun a h => (hw1 a (.tail _ h)).1) (fun h => (hw1 _ (.tail _ h)).2.2.1 rfl) (fun x c hc h => (hw1 _ (.tail _ h)).2.2.2 x c hc rfl)
  have hD2 : h'.get? D = some { cls := .type "list", data := .seq (List.toArray vs) n } := hkeep _ _ hDw hD1
  have hfD : FpOK ρ1 st1 (D :: fp) (D :: wr) := fun b hb => by
   rcases List.mem_cons.mp hb with rfl | hb
   ·exact .inl (.head _)
   ·rcases hf1 b hb with h | h
    ·exact .inl (.tail _ h)
    ·exact .inr h
  have J2 := I2.hold K' (fp := D :: fp) (wr := D :: wr) (fun b hb => by
   rcases List.mem_cons.mp hb with rfl | hb
   ·exact .head _
   ·exact .tail _ (W.sub b hb)) hw1 hfD (fun b hb => by
   rcases List.mem_cons.mp hb with rfl | hb
   ·show h'.get? b ≠ none
    rw [hD2]; exact nofun
   ·exact hal _ _ hst2 b hb)
  refine hset _ _ _ _ _ _ _ va vb T _ hA J2 (hva.up hp1) (hvb.up hp1) hT e2 fun s3 J3 => ?_
  refine ht.run List.nil_prefix hA J3 e4 fun c' s4 ρ4 hp4 J4 hc => ?_
  obtain rfl : c = c' := hc
  have after : ∀ {st9 s9 ρ9}, ρ1 <+: ρ9 → Inv X' (P.hold (D :: fp) (D :: wr) h') ρ9 st9 s9 → Inv X' P ρ9 st9 s9 ∧ WrOK X' P ρ9 (D :: wr) ∧ FpOK ρ9 st9 fp wr ∧ St (j + 1) s9.heap ∧ s9.heap.get? D = some { cls := .type "list", data := .seq (List.toArray vs) n } := fun {st9 s9 ρ9} hp9 J9 =>
   ⟨I2.unhold J9, fun b hb => ⟨(J9.outs b (.inr hb)).2, (hw1 b hb).2⟩, zKB hf1 I2 hp9 (fun b h => .tail _ h) J9, W.frame _ _ _ hst2 fun b hb o e => J9.held b o (by rw [zr (.tail _ hb)]; exact e), J9.held D _ (by rw [zr (.head _)]; exact hD2)⟩
  cases c with
  | false =>
   apply byC; intro kz; obtain ⟨I4, hw4, hf4, hst4, hD4⟩ := after hp4 J4; apply kz; clear kz
   exact ⟨k - 1, by lia, j + 1, ρ4, st3, acc, vs, n, by lia, hj, hp1.trans hp4, I4, hst4, hw4, hf4, hD4, hacc.up hp4, by lia, e5⟩
  | true =>
   apply byC; intro kz; obtain ⟨y, st5, e6, e7⟩ := PM.bind_some e5; apply kz; clear kz
   refine he.run List.nil_prefix hA J4 e6 fun ry s5 ρ5 hp5 J5 hy => ?_
   apply byC; intro kz; obtain ⟨I5, hw5, hf5, hst5, hD5⟩ := after (hp4.trans hp5) J5; apply kz; clear kz
   refine wpAny_list_append_plain ⟨n, hD5⟩ (fun h9 hg hs9 => ?_) (by rw [List.size_toArray, hacc.length]; exact zAG (by lia))
   apply byC; intro kz; obtain ⟨n', hg⟩ := hg; apply kz; clear kz
   have hwD := hw5 D (.head _)
   refine ⟨k - 1, by lia, j + 1, ρ5, st5, acc ++ [y], vs ++ [ry], n', by lia, hj, hp1.trans (hp4.trans hp5), I5.sameBut (tk := s5.toks) hs9 hwD.2.1 hwD.1 hwD.2.2.1 hwD.2.2.2, ?_, hw5, hf5, ?_, (hacc.up (hp4.trans hp5)).append (.cons hy .nil), by rw [List.length_append, List.length_singleton]; lia, e7⟩
   ·exact W.frame _ _ _ hst5 fun b hb o e => (hs9.2 b (fun q => hDf (q ▸ hb))).trans e
   ·rw [hg, List.push_toArray]
 ·have hje : j = xs.length := by lia
  subst hje
  rw [List.drop_length] at e1
  cases e1
  refine W.done s1 _ _ hst1 fun h' tk hkeep => ?_
  refine hR _ ρ1 vs n hp1 ?_ hw1 (hkeep _ _ hDw hD1) hacc
  exact I1.wr wr hkeep (fun a h => (hw1 a (.tail _ h)).2.1) (fun a h => (hw1 a (.tail _ h)).1) (fun h => (hw1 _ (.tail _ h)).2.2.1 rfl) (fun x c hc h => (hw1 _ (.tail _ h)).2.2.2 x c hc rfl)
theorem zKF (K : XOK X) {sc : Scope} {caps : List Nat} (C : zBU X sc caps) {A : Around} (hA : AOK X.d A) {elts : List Expr} {kt : Nat} {tp : Pos} {iter elt : Expr} {ifs : List Expr} {pos p : Pos} {mi : PM (List (PV × PV) × List Nat)} {set : PV × PV → PM Unit} {mt : PM Bool} {me : PM PV} {v : PV}
  {use : Option (Value → Sem Unit)} {Q : Value → Shared → Prop} {E : Value → Shared → Prop} (hs : ∀ x, foldedSetIterable iter X.env x = Pure.pure x) (hi : SndIP X iter mi)
  (hset : ∀ X', InC X sc X' → SetP X' (.Tuple elts kt tp) set) (ht : ∀ X', InC X sc X' → SndTs X' ifs mt) (he : ∀ X', InC X sc X' → SndE X' [] elt me)
  (hI : Inv X P ρ st s) (e0 : zBH (zp sc).length caps mi set mt me st = some (v, st'))
  (hQ : ∀ D s' ρ' c m, ρ <+: ρ' → Inv X P ρ' st' s' → VRel ρ' v (.ref D) → s'.heap.Ns c m → WrOK X P ρ' [c] → compPost (model X.G.prog X.G.w) A E use Q (.ref D) c (.ok .next) s') :
  wpAny (model X.G.prog X.G.w) A (comprehension (.ListComp elt [⟨.Tuple elts kt tp, iter, ifs, 0⟩] sc pos) sc X.env p (newList []) false (eval iter X.env) use) Q E s := by
 apply byC; intro kz; obtain ⟨xs, fz, st1, acc, s2, e1, hsz, e2, rfl, rfl⟩ := zKC e0; apply kz; clear kz
 obtain ⟨cl, hcl, hcl1, hcl2⟩ := zGM (env := X.env) (sc := sc) fun x hx => by
  have hk := C.frees x hx
  have hm : x ∈ X.ns := by
   have e : some x ∈ caps.map (X.ns[·]?) := by rw [C.caps]; exact List.mem_map.mpr ⟨x, hx, rfl⟩
   apply byC; intro kz; obtain ⟨j, _, hj⟩ := List.mem_map.mp e; apply kz; clear kz
   exact List.mem_of_getElem? hj
  apply byC; intro kz; obtain ⟨i, hi⟩ := List.mem_iff_getElem?.mp hm; apply kz; clear kz
  apply byC; intro kz; obtain ⟨c, ov, h1, _⟩ := hI.fr.cell i x hi hk; apply kz; clear kz
  exact ⟨c, h1⟩
 refine wpAny_comprehension_free rfl hs hcl C.kind (fun x hx hk => zAr C.nd (by rw [← hk]; exact hx)) (hi A P s ρ st st1 xs fz _ _ hA hI e1 fun I s1 ρ1 fp wr Pp St hp1 I1 W hst hw hal hf hxx => ?_)
 refine wpAny_newObj_type (wpAny_newFunctionEnv C.noCell (fun y hy => nomatch hy) (fun h₁ hns₁ hsb₁ => ?_) C.kind)
 dsimp only at hns₁ hsb₁ ⊢
 generalize hH2 : s1.heap.push { cls := .type "list", dict := none, data := .seq ([] : List Value).toArray } = H2 at hns₁ hsb₁ ⊢
 have hC : H2.objs.size = s1.heap.objs.size + 1 := by rw [← hH2, Heap.size_push]
 have old2 : ∀ b o, s1.heap.get? b = some o → H2.get? b = some o := fun b o e => hH2 ▸ Heap.get?_push_of_some _ e
 have hDC : s1.heap.objs.size ≠ H2.objs.size := by rw [hC]; exact Nat.ne_of_lt (Nat.lt_succ_self _)
 have old1 : ∀ b o, H2.get? b = some o → h₁.get? b = some o := fun b o e => hsb₁.extBut b o (Nat.ne_of_lt (Heap.lt_size e)) (Heap.get?_push_of_some _ e)
 have hD2 : H2.get? s1.heap.objs.size = some { cls := .type "list", data := .seq #[] 0 } := hH2 ▸ Heap.get?_push_size _ rfl
 have I1f := I1.fzAt fz
 have I2 : Inv X P ρ1 { st1 with hp := fzAt fz st1.hp } { s1 with heap := H2, toks := s1.toks } := I1f.grow old2
 apply byC; intro kz; obtain ⟨X', henv, hInC, J⟩ := zGO K C I2 hcl1 hcl2 (a := H2.objs.size) (Nat.le_refl _) (h' := h₁) (tk := s1.toks + ([] : List (Str × Value)).length) old1 hns₁; apply kz; clear kz
 have hD1 : h₁.get? s1.heap.objs.size = some { cls := .type "list", data := .seq #[] 0 } := old1 _ _ hD2
 apply byC; intro kz; obtain ⟨d1, d2, d3, d4⟩ := I1.fresh K (Nat.le_refl s1.heap.objs.size); apply kz; clear kz
 have hfpb : ∀ b ∈ fp, b < s1.heap.objs.size := fun b hb => by
  rcases hf b hb with h | ⟨i, _, h⟩
  ·cases eq : s1.heap.get? b with
   | none => exact absurd eq (hal _ _ hst b h)
   | some o => exact Heap.lt_size eq
  ·exact I1.lt (List.mem_of_getElem? h)
 have hloc' : X'.env.locals = H2.objs.size := by rw [henv]; rfl
 have hcellsub : ∀ x c, X'.env.cells.lookup x = some c → X.env.cells.lookup x = some c := fun x c h => by
  rw [henv] at h
  exact (hcl2 x c (mem_of_lookup h)).2
 have subnone : ∀ b, P.B b = none → X.env.locals ≠ b → (∀ x c, X.env.cells.lookup x = some c → c ≠ b) → (P.sub X { s1 with heap := H2, toks := s1.toks }).B b = none := fun b h1 h2 h3 => by
  unfold Prot.sub
  dsimp only
  rw [if_neg, h1]
  rintro (q | ⟨x, q⟩)
  ·exact h2 q.symm
  ·exact h3 x b q rfl
 have hwX : WrOK X' (P.sub X { s1 with heap := H2, toks := s1.toks }) ρ1 (s1.heap.objs.size :: wr) := fun b hb => by
  rcases List.mem_cons.mp hb with rfl | hb
  ·exact ⟨d1, subnone _ d2 d3 d4, (by rw [hloc']; exact fun q => hDC q.symm), fun x c h => d4 x c (hcellsub x c h)⟩
  ·apply byC; intro kz; obtain ⟨w1, w2, w3, w4⟩ := hw b hb; apply kz; clear kz
   refine ⟨w1, subnone _ w2 w3 w4, ?_, fun x c h => w4 x c (hcellsub x c h)⟩
   rw [hloc', hC]
   exact Nat.ne_of_gt (Nat.lt_succ_of_lt (hfpb b (W.sub b hb)))
 have hst1 : St 0 h₁ := W.frame _ _ _ hst fun b _ o e => old1 b o (old2 b o e)
 have hffp : FpOK ρ1 { vars := zAl (zp sc).length caps st1.vars, hp := fzAt fz st1.hp } fp wr := zKA I1 hf _
 have hA' : AOK X'.d A := by rw [hInC.d]; exact hA
 have hG := hInC.g
 rw [← hG]
 have loop : codeAny (model X'.G.prog X'.G.w) A (.compLoop (.ListComp elt [⟨.Tuple elts kt tp, iter, ifs, 0⟩] sc pos) 0 (.ref I) (.ref s1.heap.objs.size) X'.env) (compPost (model X'.G.prog X'.G.w) A E use Q (.ref s1.heap.objs.size) H2.objs.size)
   { s1 with heap := h₁, toks := s1.toks + ([] : List (Str × Value)).length } := by
  refine zKE (fp := fp) (wr := wr) (acc0 := []) (vs0 := []) (n0 := 0) hInC.ok hA' (hG ▸ W) J hst1 hal hwX (fun h => Nat.lt_irrefl _ (hfpb _ h)) hffp hxx (by rw [List.length_nil, Nat.zero_add]; exact hsz) hD1 .nil (hset X' hInC) (ht X' hInC) (he X' hInC) e2 fun s9 ρ9 vs n hp9 J9 hw9 hD9 hacc => ?_
  have L := I2.leave J9 hG hp9
  have L2 := I1.restore L hp9
  have hDno := hw9 _ (.head _)
  have L3 := L2.push (o := .list acc) hDno.1 d2 d3 d4 (I1.fresh_out (Nat.le_refl _)) ⟨vs, n, hD9, hacc.up (List.prefix_append ..)⟩
  rw [hG]
  apply byC; intro kz; obtain ⟨m9, hm9, _⟩ := J9.fr.loc; apply kz; clear kz
  rw [hloc'] at hm9
  refine hQ _ s9 (ρ9 ++ [s1.heap.objs.size]) _ m9 (hp1.trans (hp9.trans (List.prefix_append ..))) L3 (.ref ?_) hm9 ?_
  ·have := L2.last s1.heap.objs.size
   rw [show s2.hp.length = (restore st1.hp s2.hp).length from (zCd _ _).symm]
   exact this
  ·intro b hb
   rw [List.mem_singleton] at hb
   subst hb
   apply byC; intro kz; obtain ⟨c1, c2, c3, c4⟩ := I2.fresh K (Nat.le_refl H2.objs.size); apply kz; clear kz
   refine ⟨fun hm => ?_, c2, c3, c4⟩
   rcases List.mem_append.mp hm with hm | hm
   ·have := J9.fr.locNot
    rw [hloc'] at this
    exact this hm
   ·exact hDC (List.mem_singleton.mp hm).symm
 have start := codeAny_compStart_list (prog := X'.G.prog) (w := X'.G.w) (A := A) loop ((hG ▸ W : zB8 X'.G.prog X'.G.w A I fp wr xs.length Pp St).self 0 _ _ _ hst1 loop)
 rw [henv] at start
 exact start
theorem zGf (K : XOK X) {sc : Scope} {caps : List Nat} (C : zBU X sc caps) {elts : List Expr} {kt : Nat} {tp : Pos} {iter elt : Expr} {ifs : List Expr} {pos : Pos} {mi : PM (List (PV × PV) × List Nat)} {set : PV × PV → PM Unit} {mt : PM Bool} {me : PM PV} {nt : Nat} (hnt : nt = (zp sc).length)
  (hs : ∀ x, foldedSetIterable iter X.env x = Pure.pure x) (hi : SndIP X iter mi) (hset : ∀ X', InC X sc X' → SetP X' (.Tuple elts kt tp) set) (ht : ∀ X', InC X sc X' → SndTs X' ifs mt) (he : ∀ X', InC X sc X' → SndE X' [] elt me) :
  SndE X [] (.ListComp elt [⟨.Tuple elts kt tp, iter, ifs, 0⟩] sc pos) (zBH nt caps mi set mt me) := by
 subst hnt
 intro A P s ρ st st' b hρ hA hI e0
 rw [eval_ListComp]
 refine zKF (use := none) K C hA hs hi hset ht he hI e0 fun D s' ρ' c m hp I' hv hn hw => ?_
 refine ⟨m, hn, fun h' hs' => ?_⟩
 apply byC; intro kz; obtain ⟨w1, w2, w3, w4⟩ := hw c (List.mem_singleton.mpr rfl); apply kz; clear kz
 exact ⟨ρ', hp, I'.sameBut (tk := s'.toks) hs' w2 w1 w3 w4, hv⟩
end
structure AOK1 (X : Stat) (A : Around) : Prop where
 ok : AOK X.d A
 fr : A.frames = some [X.env]
 lo : X.env.frame = some X.env.locals
noncomputable def SndR1 (X : Stat) {α β : Type} (ρ₀ : List Addr) (t : Sem α) (m : PM β) (VR : List Addr → β → α → Prop) : Prop :=
 ∀ (A : Around) (P : Prot) (s : Shared) (ρ : List Addr) (st st' : PSt) (b : β), ρ₀ <+: ρ → AOK1 X A → Inv X P ρ st s → 1 ≤ s.toks → m st = some (b, st') →
  wpAny (model X.G.prog X.G.w) A t (fun a s' => ∃ ρ', ρ <+: ρ' ∧ Inv X P ρ' st' s' ∧ VR ρ' b a) (fun _ _ => False) s
section
variable {X : Stat} {α β γ δ : Type} {ρ₀ : List Addr}
theorem SndR.to1 {t : Sem α} {m : PM β} {VR} (h : SndR X ρ₀ t m VR) : SndR1 X ρ₀ t m VR := fun A P s ρ st st' b h1 h2 h3 _ h4 => h A P s ρ st st' b h1 h2.ok h3 h4
theorem SndR1.run {t : Sem α} {m : PM β} {VR : List Addr → β → α → Prop} (h : SndR1 X ρ₀ t m VR) {A : Around} {P : Prot} {s : Shared} {ρ : List Addr} {st st' : PSt} {b : β} {Q : α → Shared → Prop} {E : Value → Shared → Prop}
  (hρ : ρ₀ <+: ρ) (hA : AOK1 X A) (hI : Inv X P ρ st s) (hT : 1 ≤ s.toks) (e : m st = some (b, st')) (hQ : ∀ a s' ρ', 1 ≤ s'.toks → ρ <+: ρ' → Inv X P ρ' st' s' → VR ρ' b a → Q a s') : wpAny (model X.G.prog X.G.w) A t Q E s :=
 wpAny_with_toks hT (wpAny_mono (h A P s ρ st st' b hρ hA hI hT e) (fun a s' ⟨ρ', h2, h3, h4⟩ hT' => hQ a s' ρ' hT' h2 h3 h4) fun _ _ x => x.elim)
theorem SndR1.lift {ρ₁ : List Addr} {t : Sem α} {m : PM β} {VR} (h : SndR1 X ρ₀ t m VR) (hp : ρ₀ <+: ρ₁) : SndR1 X ρ₁ t m VR :=
 fun A P s ρ st st' b h1 h2 h3 h4 => h A P s ρ st st' b (hp.trans h1) h2 h3 h4
theorem SndR1.bind {t : Sem α} {f : α → Sem γ} {m : PM β} {g : β → PM δ} {VR : List Addr → β → α → Prop} {VR2 : List Addr → δ → γ → Prop}
  (h1 : SndR1 X ρ₀ t m VR) (h2 : ∀ ρ b a, ρ₀ <+: ρ → VR ρ b a → SndR1 X ρ (f a) (g b) VR2) : SndR1 X ρ₀ (t >>= f) (m.bind g) VR2 := by
 intro A P s ρ st st2 c hρ hA hI hT e
 apply byC; intro kz; obtain ⟨b, st1, e1, e2⟩ := PM.bind_some e; apply kz; clear kz
 refine wpAny_bind (h1.run hρ hA hI hT e1 fun a s' ρ' hT' hp hI' hv => ?_)
 exact (h2 ρ' b a (hρ.trans hp) hv).run (List.prefix_refl _) hA hI' hT' e2 fun d s'' ρ2 _ hp2 hI2 hv2 => ⟨ρ2, hp.trans hp2, hI2, hv2⟩
theorem SndR1.at {p : Pos} {f : Unit → Sem α} {m : PM β} {VR} (h : SndR1 X ρ₀ (f ()) m VR) : SndR1 X ρ₀ (standAt p >>= f) m VR :=
 fun A P s ρ st st' b h1 h2 h3 h4 h5 => wpAny_bind (wpAny_standAt (h A P s ρ st st' b h1 h2 h3 h4 h5))
noncomputable abbrev SndE1 (X : Stat) (e : Expr) (m : PM PV) : Prop := SndR1 X [] (eval e X.env) m VRel
noncomputable abbrev SndS1 (X : Stat) (st : Stmt) (m : PM PF) : Prop := SndR1 X [] (exec st X.env) m FRel
noncomputable abbrev SndB1 (X : Stat) (b : List Stmt) (m : PM PF) : Prop := SndR1 X [] (execs b X.env) m FRel
noncomputable abbrev SndT1 (X : Stat) (e : Expr) (m : PM Bool) : Prop := SndR1 X [] (isTrue e X.env (eval e X.env)) m (fun _ b r => b = r)
noncomputable abbrev SndL1 (X : Stat) (es : List Expr) (m : PM (List PV)) : Prop := ∀ pos : Pos, SndR1 X [] (spliced (backTo pos (starEach es X.env))) m VRels
noncomputable def pRepl (mo : PM PV) (y z : Str) : PM PV := mo.bind fun o s => match o with
 | .str x => if x.length + (x.length + 1) * z.length ≤ 16777216 then some (.str (Txt.replace x y z), s) else none
 | _ => none
theorem zAf {st : Stmt} {rest : List Stmt} {m k : PM PF} (h : SndS1 X st m) (hk : SndB1 X rest k) : SndB1 X (st :: rest) (pSeq m k) := by
 show SndR1 _ _ (execs (st :: rest) X.env) _ _
 rw [execs_cons]
 refine SndR1.bind h fun ρ f rf hp hf => ?_
 cases hf with
 | next => exact hk.lift List.nil_prefix
 | brk => exact (SndR.pure fun _ _ => .brk).to1
 | cont => exact (SndR.pure fun _ _ => .cont).to1
 | ret hv => exact (SndR.pure fun _ hq => .ret (hv.up hq)).to1
end
theorem zKG {prog : Program} {w : World} {A : Around} {E : Value → Shared → Prop} {s : Shared} {it l : Addr} {i : Nat} {items : Array Value} {Q : Option Value → Shared → Prop} (hh : A.handled = none) (hit : s.heap.IsListIter it l i)
  (hl : s.heap.IsList l items) (hx : items[i]? = none) (hE : ∀ h1 h' e, Heap.SameBut it s.heap h1 → (∃ ob, h1.get? it = some ob) → Heap.MadeExcOf h1 h' e (.type "StopIteration") [] → E (.ref e) { s with heap := h' }) :
  wpAny (model prog w) A (callSpecial? (.ref it) (Str.ofString "__next__")) Q E s := by
 apply byC; intro kz; obtain ⟨o, ho, hc, hd⟩ := id hit; apply kz; clear kz
 apply byC; intro kz; obtain ⟨ol, hol, _, nl, hdl⟩ := hl; apply kz; clear kz
 refine wpAny_callSpecial?_slot (name := Str.ofString "__next__") hit.typeIs slot_listiter_next
  (wpAny_call_entry slot_listiter_next hit.typeIs entry_listiter_next ?_ (args_listiter_next _))
 show wpAny _ _ (field (.ref it) 0 >>= _) _ _ s
 refine wpAny_bind (wpAny_field ho hd (x := .ref l) rfl ?_)
 show wpAny _ _ (if (Value.ref l == Value.none) = true then _ else _) _ _ s
 rw [if_neg (show ¬ ((Value.ref l == Value.none) = true) from Bool.false_ne_true)]
 show wpAny _ _ (field (.ref it) 1 >>= _) _ _ s
 refine wpAny_bind (wpAny_field ho hd (x := .int i 0) rfl ?_)
 show wpAny _ _ (seqItems? (.ref l) >>= _) _ _ s
 refine wpAny_bind (wpAny_seqItems hol hdl ?_)
 simp only [Int.toNat_natCast, hx]
 refine wpAny_bind (wpAny_rule (wpAny_bind (wpAny_setField ho hd (by simp) ?_)))
 show wpAny _ _ (newExc (.type "StopIteration") [] >>= _) _ _ _
 refine wpAny_bind ?_
 simp only [newExc, newTuple]
 refine wpAny_bind (wpAny_newObj_type ?_ (by size_fits))
 refine wpAny_bind (m := firstArgMember _ _) (wpAny_of_eq (a := Value.none) (by first | rfl | (simp only [firstArgMember]; rfl)) ?_)
 refine wpAny_newObj_type ?_ (by size_fits)
 refine wpAny_bind (wpAny_handled ?_)
 first | rw [show A.in1.handled = none from hh] | rw [hh]
 refine wpAny_bind (wpAny_pure (wpAny_throw ?_))
 refine hE _ _ _ (Heap.SameBut.update ..) ⟨_, Heap.get?_update_self _ ho (Obj.isFreed_of_fields (Obj.data_mapFields hd _))⟩ ⟨fun b o hb => Heap.get?_push_of_some _ (Heap.get?_push_of_some _ hb), Heap.get?_none_of_le (by simp), ⟨_, ?_, Heap.get?_none_of_le (Nat.le_refl _), ?_⟩⟩
 ·exact Heap.get?_push_size _ rfl
 ·exact Heap.get?_push_of_some _ (Heap.get?_push_size _ rfl)
theorem zKH {prog : Program} {w : World} {A : Around} {E : Value → Shared → Prop} {s : Shared} {it l : Addr} {i : Nat} {items : Array Value} {Q : Value → Shared → Prop} (hh : A.handled = none) (hit : s.heap.IsListIter it l i)
  (hl : s.heap.IsList l items) (hx : items[i]? = none) (hE : ∀ h1 h' e, Heap.SameBut it s.heap h1 → (∃ ob, h1.get? it = some ob) → Heap.MadeExcOf h1 h' e (.type "StopIteration") [] → E (.ref e) { s with heap := h' }) :
  wpAny (model prog w) A (call (.builtin "next") [.ref it]) Q E s := by
 refine Calls.call_function_entry (by decide +kernel) (by decide +kernel) zGE (zGF _) ?_
 unfold Builtin.«next»
 refine wpAny_bind (m := someArgs "next" 1 2 _) (wpAny_of_eq (a := [Value.ref _]) (by first | rfl | kernel_rfl!) ?_)
 dsimp only
 refine wpAny_bind (wpAny_specialOf (name := Str.ofString "__next__") hit.typeIs slot_listiter_next.lookup ?_)
 refine wpAny_ite_split (fun hab => absurd hab (by decide)) (fun _ => ?_)
 exact wpAny_bind (zKG hh hit hl hx hE)
noncomputable def FrsIn (l : List Env) (h : Heap) : Prop := ∀ env ∈ l, env.scope.kind ≠ .module ∧ ∃ L o es n, env.frame = some L ∧ h.get? L = some o ∧ o.data = .dict es n
theorem FrsIn.fun {l : List Env} {h : Heap} {as : List Addr} (x : FrsIn l h) (ha : ∀ env ∈ l, ∀ a, env.frame = some a → a ∈ as) : h.FunFrames (hideAll h as) l := by
 induction l with
 | nil => trivial
 | cons env l ih =>
  obtain ⟨hk, L, o, es, n, hf, ho, hd⟩ := x env (.head _)
  exact ⟨hk, ⟨L, o, hf, hideAll_none _ (ha env (.head _) L hf), ho, fun vs q => by rw [hd] at q; cases q⟩, ih (fun e he => x e (.tail _ he)) fun e he => ha e (.tail _ he)⟩
theorem FrsIn.keeps {l : List Env} {h h' : Heap} (x : FrsIn l h) (k : ∀ b o, h.get? b = some o → h'.get? b = some o) : FrsIn l h' := fun env he => by
 apply byC; intro kz; obtain ⟨hk, L, o, es, n, hf, ho, hd⟩ := x env he; apply kz; clear kz
 exact ⟨hk, L, o, es, n, hf, k _ _ ho, hd⟩
theorem FrsIn.mem {l : List Env} {h : Heap} (x : FrsIn l h) {b : Addr} (hb : b ∈ l.filterMap (·.frame)) : ∃ o es n, h.get? b = some o ∧ o.data = .dict es n := by
 apply byC; intro kz; obtain ⟨env, he, hf⟩ := List.mem_filterMap.mp hb; apply kz; clear kz
 apply byC; intro kz; obtain ⟨hk, L, o, es, n, hf', ho, hd⟩ := x env he; apply kz; clear kz
 rw [hf] at hf'
 cases hf'
 exact ⟨o, es, n, ho, hd⟩
structure Fly (l : List Env) (F : List Addr) (s1 s' : Shared) (e : Addr) : Prop where
 fly : ∃ base t, Heap.FlyingW base l e (.type "StopIteration") (.ref t) s'.heap ∧ ∀ b o, s1.heap.get? b = some o → b ∉ F → base.get? b = some o
 up : s1.heap.UpToSlots s'.heap
 dict : ∀ b ∈ F, ∃ o es n, s1.heap.get? b = some o ∧ o.data = .dict es n
 gens : s'.gens = s1.gens
 os : s'.os = s1.os
structure Loose (F : List Addr) (s1 s' : Shared) : Prop where
 keep : ∀ b o, b ∉ F → s1.heap.get? b = some o → s'.heap.get? b = some o
 slot : ∀ b o, b ∈ F → s1.heap.get? b = some o → ∃ sl, s'.heap.get? b = some { o with slots := sl }
 dict : ∀ b ∈ F, ∃ o es n, s1.heap.get? b = some o ∧ o.data = .dict es n
 gens : s'.gens = s1.gens
 os : s'.os = s1.os
theorem Fly.loose {l : List Env} {F : List Addr} {s1 s' : Shared} {e : Addr} (x : Fly l F s1 s' e) : Loose F s1 s' := by
 obtain ⟨base, t, hf, hb⟩ := x.fly
 refine ⟨fun b o hn ho => hf.1 b o (hb b o ho hn), fun b o hm ho => ?_, x.dict, x.gens, x.os⟩
 obtain ⟨o', es, n, ho', hd⟩ := x.dict b hm
 rw [ho] at ho'
 cases ho'
 exact x.up b o ho fun vs q => by rw [hd] at q; cases q
section
variable {X : Stat} {P : Prot} {ρ : List Addr} {st : PSt} {s : Shared}
theorem Heap.Ns.slots {h h' : Heap} {a : Addr} {m : Str → Option Value} (hn : h.Ns a m) (k : ∀ o, h.get? a = some o → ∃ sl, h'.get? a = some { o with slots := sl }) : h'.Ns a m := by
 obtain ⟨o, es, ep, ho, hd, r⟩ := hn
 obtain ⟨sl, hs⟩ := k o ho
 exact ⟨_, es, ep, hs, hd, r⟩
theorem Inv.loose (I : Inv X P ρ st s) {s' : Shared} {F : List Addr} (x : Loose F s s') (hF : ∀ b ∈ F, b = X.env.locals ∨ (P.B b = none ∧ b ∉ ρ ∧ ∀ y c, X.env.cells.lookup y = some c → c ≠ b)) : Inv X P ρ st s' := by
 have notB : ∀ b o, P.B b = some o → b ∉ F := fun b o e hm => by
  rcases hF b hm with rfl | h
  ·rw [I.fr.locOut] at e; cases e
  ·rw [h.1] at e; cases e
 have notρ : ∀ b, b ∈ ρ → b ∉ F := fun b hb hm => by
  rcases hF b hm with rfl | h
  ·exact I.fr.locNot hb
  ·exact h.2.1 hb
 refine ⟨fun b o e => x.keep b o (notB b o e) (I.held b o e), I.old, I.outs, I.nd, I.len, fun i b c h1 h2 => (I.objs i b c h1 h2).at fun ob e => x.keep b ob (notρ b (List.mem_of_getElem? h1)) e, I.fz, by rw [x.gens]; exact I.bare, fun g y h => by rw [x.gens]; exact I.gheld g y h, by rw [x.os]; exact I.os, ?_⟩
 apply byC; intro kz; obtain ⟨m, hm, hv⟩ := I.fr.loc; apply kz; clear kz
 refine ⟨I.fr.locOut, I.fr.locNot, ⟨m, Heap.Ns.slots hm fun o ho => ?_, hv⟩, fun i y h1 h2 => ?_, I.fr.len⟩
 ·by_cases hb : X.env.locals ∈ F
  ·exact x.slot _ o hb ho
  ·exact ⟨o.slots, x.keep _ o hb ho⟩
 ·apply byC; intro kz; obtain ⟨c, ov, h3, h4, h5, h6, ⟨o, ho, hd⟩, h8⟩ := I.fr.cell i y h1 h2; apply kz; clear kz
  refine ⟨c, ov, h3, h4, h5, h6, ⟨o, x.keep c o (fun hm => ?_) ho, hd⟩, h8⟩
  rcases hF c hm with h | h
  ·exact h4 h
  ·exact h.2.2 y c h3 rfl
theorem zKI (K : XOK X) {xb xi : Str} {p1 p2 p3 p4 p5 : Pos} {rest : List Stmt} {A : Around} {l : Addr} {a : Addr} {items : Array Value} {Q : Flow → Shared → Prop} {E : Value → Shared → Prop} {q i : Nat}
  (hk : X.env.kindOf "next" = some .globalImplicit) (hv : X.G.mg "next" = none) (hi : X.ns[0]? = some xi) (hd : (xi == ("__debug__" : Str)) = false) (hA : AOK X.d A) (hI : Inv X P ρ st s) (hq : st.vars[0]? = some (some (.ref q))) (ha : ρ[q]? = some a)
  (hit : s.heap.IsListIter a l i) (hl : s.heap.IsList l items) (hx : items[i]? = none)
  (hE : ∀ h1 h' e, Heap.SameBut a s.heap h1 → (∃ ob, h1.get? a = some ob) → Heap.MadeExcOf h1 h' e (.type "StopIteration") [] → E (.ref e) { s with heap := h' }) :
  wpAny (model X.G.prog X.G.w) A (execs (.Assign [.Name xb p1] (.Call (.Name "next" p2) [.Name xi p3] [] p4) p5 :: rest) X.env) Q E s := by
 rw [execs_cons]
 refine wpAny_bind ?_
 rw [exec_Assign_Name _ _ _ _ _ (show swapsWith (.Call (.Name "next" p2) [.Name xi p3] [] p4) (some (.Name xb p1)) p5.line X.env = Pure.pure false from rfl)]
 refine wpAny_bind (wpAny_standAt (wpAny_bind ?_))
 refine wpAny_Call_NameR (zCb K hI hk hv boot_next (by decide) (by decide) ?_)
 rw [show starEach [Expr.Name xi p3] X.env = [(false, eval (.Name xi p3) X.env)] from rfl]
 refine callWith_builtin1 ?_
 rw [eval_Name X.env xi p3 hd]
 refine wpAny_bind (wpAny_standAt (zBv K hI hi hq fun rv hr => ?_))
 cases hr with | ref h => ?_
 rw [ha] at h
 cases h
 exact zKH hA.handled hit hl hx hE
theorem zKJ {G : Ctx} {d : DefRec} {af : Addr} (Fo : FnOK G d af) {ps : List Str} (D : DefOK d ps) (hps : ps.length = 1) {n : Nat} {xb xi : Str} {p1 p2 p3 p4 p5 : Pos} {rest : List Stmt} (hbody : d.body = .Assign [.Name xb p1] (.Call (.Name "next" p2) [.Name xi p3] [] p4) p5 :: rest)
  (hn : d.scope.names.lookup ("next" : Str) = some NameKind.globalImplicit) (h0 : (nsOf d.scope)[0]? = some xi) (hd0 : (xi == ("__debug__" : Str)) = false) (K : XOK X) (hX : X.G = G) (hv : G.mg "next" = none) (hd : n + 1 ≤ X.d) {A : Around} {l : List Env} (hl : A.frames = some l) (hfr : FrsIn l s.heap)
  (hA : AOK X.d A) (hI : Inv X P ρ st s) {q src pos : Nat} {f : Bool} {xs : List PV} (hq : st.hp[q]? = some (false, .iter src pos)) (hs : st.hp[src]? = some (f, .list xs)) (hp : xs.length ≤ pos) {ra : Addr} (hra : ρ[q]? = some ra) {Q : Value → Shared → Prop} {E : Value → Shared → Prop}
  (hE : ∀ s1 s' e F, Inv X P ρ { st with hp := st.hp.set q (false, .dead) } s1 → Fly l F s1 s' e → (∀ b ∈ F, b ∈ l.filterMap (·.frame) ∨ s.heap.objs.size ≤ b) → E (.ref e) s') :
  wpAny (model X.G.prog X.G.w) A (PySem.call (.ref af) [.ref ra] []) Q E s := by
 have ho : (nsOf d.scope).length = (nsOf d.scope).length := rfl
 refine zF9 Fo D K hX hd (args := [.ref q]) (.cons (.ref hra) .nil) hps.symm hA hI fun X' s₁ hIn hA' hfm hge keep J => ?_
 subst hX
 rw [hbody]
 have hkn : X'.env.kindOf "next" = some .globalImplicit := (hIn.kind _).trans hn
 have h0' : X'.ns[0]? = some xi := by rw [hIn.ns]; exact h0
 apply byC; intro kz; obtain ⟨lz, hlz, hit⟩ := J.ref_at hra hq; apply kz; clear kz
 apply byC; intro kz; obtain ⟨vs, k, g1, r1⟩ := J.ref_at hlz hs; apply kz; clear kz
 have hg : model X.G.prog X.G.w = model X'.G.prog X'.G.w := by rw [hIn.g]
 rw [hg]
 refine zKI hIn.ok hkn (by rw [hIn.g]; exact hv) h0' hd0 hA' J (q := q) rfl hra hit ⟨_, g1, rfl, k, rfl⟩ (by rw [List.getElem?_toArray, List.getElem?_eq_none]; rw [r1.length]; exact hp) fun h1 h' e hsb hth hm => ?_
 have J1 : Inv X' (P.sub X s) ρ { vars := zX (nsOf d.scope).length [.ref q], hp := st.hp.set q (false, .dead) } { s₁ with heap := h1 } := J.upd (o' := .dead) (tk := s₁.toks) hra hq hsb hth
 have I1 := hI.leave J1 hIn.g (List.prefix_refl _)
 have hsame : ∀ b o, s.heap.get? b = some o → b ≠ ra → h1.get? b = some o := fun b o hb hne => (hsb.2 b hne).trans (keep b o hb)
 apply byC; intro kz; obtain ⟨ob, hob, hobd⟩ := id hit; apply kz; clear kz
 apply byC; intro kz; obtain ⟨mm, ⟨oL, es, ep, hoL, hdL, _⟩, _⟩ := J1.fr.loc; apply kz; clear kz
 have hfrs : FrsIn (X'.env :: l) h1 := fun env he => by
  rcases List.mem_cons.mp he with rfl | he
  ·exact ⟨fun q => (by rw [hIn.ok.fn] at q; cases q), _, oL, es, ep, hfm, hoL, hdL⟩
  ·apply byC; intro kz; obtain ⟨hk, L, o, es', n', hf, ho, hd'⟩ := hfr env he; apply kz; clear kz
   refine ⟨hk, L, o, es', n', hf, hsame L o ho fun q => ?_, hd'⟩
   subst q
   have hit0 := hI.ref_at hra hq
   apply byC; intro kz; obtain ⟨_, _, o2, ho2, _, hd2⟩ := hit0; apply kz; clear kz
   rw [ho] at ho2
   cases ho2
   rw [hd'] at hd2
   cases hd2
 have hdict := fun b hb => hfrs.mem (b := b) hb
 refine wpAny_leaves_madeW (s := { s₁ with heap := h' }) (base := hideAll h1 ((X'.env :: l).filterMap (·.frame))) (h := h1) (outer := l) (L := X'.env.locals) ?_ hfm (fun b o hb => of_hideAll _ hb) (hfrs.fun fun env he a ha => List.mem_filterMap.mpr ⟨env, he, ha⟩) hm fun h2 t hfly _ _ hup => ?_
 ·show A.frames.map _ = _
  rw [hl]; rfl
 ·refine hE { s₁ with heap := h1 } { s₁ with heap := h2 } e ((X'.env :: l).filterMap (·.frame)) I1 ⟨⟨_, t, hfly, fun b o ho hn => hideAll_get _ ho hn⟩, (Heap.UpToSlots.of_keeps hm.keeps).trans hup, hdict, rfl, rfl⟩ fun b hb => ?_
  rw [List.filterMap_cons, hfm] at hb
  rcases List.mem_cons.mp hb with rfl | hb
  ·exact .inr hge
  ·exact .inl hb
end
structure zDb (d : DefRec) : Prop where
 sh : ∃ ps xb xi p1 p2 p3 p4 p5 rest, DefOK d ps ∧ ps.length = 1 ∧ d.body = .Assign [.Name xb p1] (.Call (.Name "next" p2) [.Name xi p3] [] p4) p5 :: rest ∧
  d.scope.names.lookup ("next" : Str) = some NameKind.globalImplicit ∧ (nsOf d.scope)[0]? = some xi ∧ (xi == ("__debug__" : Str)) = false
noncomputable def OutB (P : Prot) (outer : List Env) : Prop := ∀ env ∈ outer, env.scope.kind ≠ .module ∧ ∃ L o es n, env.frame = some L ∧ P.B L = some o ∧ o.data = .dict es n
noncomputable def endAt (inm iit : Nat) (st : PSt) : Option Nat := match st.vars[iit]?, st.vars[inm]? with
 | some (some (.ref q)), some (some (.ref i)) => match st.hp[q]?, st.hp[i]? with
  | some (false, .iter src pos), some (_, .list _) => match st.hp[src]? with
   | some (_, .list xs) => if xs.length ≤ pos then some q else none
   | _ => none
  | _, _ => none
 | _, _ => none
theorem zKK {inm iit q : Nat} {st : PSt} (h : endAt inm iit st = some q) : ∃ i src pos f ys g xs, st.vars[iit]? = some (some (.ref q)) ∧ st.vars[inm]? = some (some (.ref i)) ∧ st.hp[q]? = some (false, .iter src pos) ∧ st.hp[i]? = some (f, .list ys) ∧ st.hp[src]? = some (g, .list xs) ∧ xs.length ≤ pos := by
 revert h
 unfold endAt
 cases h1 : st.vars[iit]? with
 | none => intro e; exact zC e
 | some v1 =>
  cases v1 with
  | none => intro e; exact zC e
  | some v1 =>
   cases v1 with
   | ref q' =>
    cases h2 : st.vars[inm]? with
    | none => intro e; exact zC e
    | some v2 =>
     cases v2 with
     | none => intro e; exact zC e
     | some v2 =>
      cases v2 with
      | ref i =>
       dsimp only
       cases h3 : st.hp[q']? with
       | none => intro e; exact zC e
       | some o1 =>
        obtain ⟨f1, o1⟩ := o1
        cases f1 with
        | true => intro e; cases o1 <;> exact zC e
        | false =>
         cases o1 with
         | iter src pos =>
          cases h4 : st.hp[i]? with
          | none => intro e; exact zC e
          | some o2 =>
           obtain ⟨f2, o2⟩ := o2
           cases o2 with
           | list ys =>
            dsimp only
            cases h5 : st.hp[src]? with
            | none => intro e; exact zC e
            | some o3 =>
             obtain ⟨g, o3⟩ := o3
             cases o3 with
             | list xs =>
              intro e
              by_cases hc : xs.length ≤ pos
              ·cases (if_pos hc).symm.trans e
               exact ⟨i, src, pos, f2, ys, g, xs, rfl, rfl, h3, h4, h5, hc⟩
              ·exact nomatch (if_neg hc).symm.trans e
             | _ => intro e; exact zC e
           | _ => intro e; exact zC e
         | _ => intro e; exact zC e
      | _ => intro e; exact zC e
   | _ => intro e; exact zC e
noncomputable def zBW (inm iit : Nat) (step : PM PF) : Nat → PSt → Option PSt
 | 0, _ => none
 | n + 1, st => match endAt inm iit st with
  | some q => some { st with hp := st.hp.set q (false, .dead) }
  | none => match step st with
   | some (.next, st') => zBW inm iit step n st'
   | _ => none
theorem zEk {inm iit n : Nat} {step : PM PF} {st : PSt} : zBW inm iit step (n + 1) st = match endAt inm iit st with
  | some q => some { st with hp := st.hp.set q (false, .dead) }
  | none => match step st with
   | some (.next, st') => zBW inm iit step n st'
   | _ => none := rfl
section
variable {X : Stat} {P : Prot} {ρ : List Addr} {st : PSt} {s : Shared} {outer : List Env}
theorem frsIn (K : XOK X) (I : Inv X P ρ st s) (hfm : X.env.frame = some X.env.locals) (ho : OutB P outer) : FrsIn (X.env :: outer) s.heap := fun env he => by
 rcases List.mem_cons.mp he with rfl | he
 ·apply byC; intro kz; obtain ⟨mm, ⟨oL, es, ep, hoL, hdL, _⟩, _⟩ := I.fr.loc; apply kz; clear kz
  exact ⟨fun q => (by rw [K.fn] at q; cases q), _, oL, es, ep, hfm, hoL, hdL⟩
 ·apply byC; intro kz; obtain ⟨hk, L, o, es, n, hf, hB, hd⟩ := ho env he; apply kz; clear kz
  exact ⟨hk, L, o, es, n, hf, I.held L o hB, hd⟩
noncomputable def Left (X : Stat) (P : Prot) (outer : List Env) (ρ : List Addr) (st : PSt) (F : List Addr) (s1 : Shared) : Prop :=
 Inv X P ρ st s1 ∧ ∀ b ∈ F, b ∈ (X.env :: outer).filterMap (·.frame) ∨ (b ∉ ρ ∧ P.B b = none ∧ ∀ y c, X.env.cells.lookup y = some c → c ≠ b)
theorem zKL (K : XOK X) {A : Around} (hA : AOK X.d A) (hfs : A.frames = some (X.env :: outer)) (hfm : X.env.frame = some X.env.locals) (ho : OutB P outer) {xn xi f : Str} {d : DefRec} (F : FnN X.G f d) (S : zDb d) (hd : 1 ≤ X.d) (hv : X.G.mg "next" = none)
  (hk : X.env.kindOf f = some .globalImplicit) (hdb : (f == ("__debug__" : Str)) = false) {inm iit : Nat} (hn : X.ns[inm]? = some xn) (hi : X.ns[iit]? = some xi) (hdn : (xn == ("__debug__" : Str)) = false) (hdi : (xi == ("__debug__" : Str)) = false) (hin : interactive X.env = false)
  {pn pa pf pi pc pe px : Pos} (hline : (pa.endLine == pe.line) = true) (hI : Inv X P ρ st s) {q : Nat} (hq : endAt inm iit st = some q) {Q : Flow → Shared → Prop} {E : Value → Shared → Prop}
  (hE : ∀ s1 s' e F, Left X P outer ρ { st with hp := st.hp.set q (false, .dead) } F s1 → Fly (X.env :: outer) F s1 s' e → E (.ref e) s') :
  wpAny (model X.G.prog X.G.w) A (execs [.Expr (.Call (.Attribute (.Name xn pn) "append" pa) [.Call (.Name f pf) [.Name xi pi] [] pc] [] pe) px] X.env) Q E s := by
 apply byC; intro kz; obtain ⟨i, src, pos, f1, ys, g1, xs, h1, h2, h3, h4, h5, h6⟩ := zKK hq; apply kz; clear kz
 apply byC; intro kz; obtain ⟨af, hg, hF⟩ := F; apply kz; clear kz
 apply byC; intro kz; obtain ⟨ps, xb, xi', p1, p2, p3, p4, p5, rest, D, hps, hbody, hln, h0, hd0⟩ := S.sh; apply kz; clear kz
 rw [execs_cons]
 refine wpAny_bind ?_
 rw [exec_Expr _ _ _ hin (show swapsWith (.Call (.Attribute (.Name xn pn) "append" pa) [.Call (.Name f pf) [.Name xi pi] [] pc] [] pe) none px.line X.env = Pure.pure false from rfl)]
 refine wpAny_bind (wpAny_standAt (wpAny_bind ?_))
 refine Call_method1 (show attributeBase (.Name xn pn) "append" X.env (eval (.Name xn pn) X.env) = eval (.Name xn pn) X.env from rfl) (show starEach [Expr.Call (.Name f pf) [.Name xi pi] [] pc] X.env = [(false, eval (.Call (.Name f pf) [.Name xi pi] [] pc) X.env)] from rfl) hline ?_
 rw [eval_Name X.env xn pn hdn]
 refine wpAny_bind (wpAny_standAt (zBv K hI hn h2 fun rn hrn => ?_))
 cases hrn with | ref hri => ?_
 apply byC; intro kz; obtain ⟨vs0, k0, q0, r0⟩ := hI.ref_at hri h4; apply kz; clear kz
 refine ⟨"list", "list.append", F.plainAttrs_list, slot_list_append, type_list_append, ⟨_, q0, rfl⟩, (fun a e => by cases e; exact ⟨_, q0, rfl⟩), ?_⟩
 refine Calls.callWith_builtin rfl (Calls.evalArgs_plain (Calls.spliced_cons ?_))
 refine wpAny_Call_NameR (zB3 K hI hk hg hdb ?_)
 apply byC; intro kz; obtain ⟨pm, code, doc, hof, hc⟩ := id hF; apply kz; clear kz
 refine Calls.callWith_function (o := { cls := .type "function", data := .func (d.data pm (.ref code) doc) }) (fd := d.data pm (.ref code) doc) ?_
 rw [show starEach [Expr.Name xi pi] X.env = [(false, eval (.Name xi pi) X.env)] from rfl]
 refine Calls.evalArgs_plain (Calls.spliced_cons ?_)
 rw [eval_Name X.env xi pi hdi]
 refine wpAny_bind (wpAny_standAt (zBv K hI hi h1 fun ri hri2 => Calls.spliced_nil ?_))
 cases hri2 with | ref hra => ?_
 refine ⟨⟨hI.get hof, rfl⟩, ?_⟩
 exact zKJ hF D hps hbody hln h0 hd0 K rfl hv (n := 0) hd hfs (frsIn K hI hfm ho) hA hI h3 h5 h6 hra fun s1 s' e F I1 hfl hF => hE s1 s' e F ⟨I1, fun b hb => (hF b hb).imp id fun h => by
  apply byC; intro kz; obtain ⟨a1, a2, a3, a4⟩ := hI.fresh K h; apply kz; clear kz
  exact ⟨a1, a2, a4⟩⟩ hfl
end
theorem zKM {M : Model} {A : Around} {E : Value → Shared → Prop} {s : Shared} {base : Heap} {l : List Env} {e L : Addr} {cls a0 : Value} {env : Env} (hf : env.frame = some L) (hh : Heap.HeldW base l e cls a0 L s.heap)
  (hE : ∀ h', Heap.HeldW base l e cls a0 L h' → s.heap.UpToSlots h' → E (.ref e) { s with heap := h' }) : cameBackBy M A env E (.ref e) s := by
 apply byC; intro kz; obtain ⟨hkb, hen, hl, oe, vs, T, oT, ts, he, hcls, hd, h1, hnT, hTe, hT, hdT, h3⟩ := hh; apply kz; clear kz
 have hsz3 : 3 < ts.size := (Array.getElem?_eq_some_iff.mp h3).1
 have other : ∀ b, b ≠ T → (s.heap.update T (Obj.mapFields (·.setIfInBounds 3 ((some L : Option Addr).elim Value.none fun f => rawInt f)))).get? b = s.heap.get? b :=
  fun b hb => Heap.get?_update_other _ _ (Ne.symm hb)
 have noRecord : ∀ b o, s.heap.get? b = some o → (∀ vs, o.data ≠ .fields vs) → b ≠ T := fun b o hb hnf q => by
  rw [q, hT] at hb; injection hb with hb; subst hb; exact hnf ts hdT
 unfold cameBackBy
 refine wpAny_bind (wpAny_field he hd h1 ?_)
 rw [if_neg (show ¬ ((Value.ref T == Value.none) = true) from Bool.false_ne_true)]
 rw [hf]
 unfold setFlight
 refine wpAny_bind (wpAny_field he hd h1 ?_)
 rw [if_pos (show (Value.ref T != Value.none) = true from rfl)]
 refine wpAny_setField hT hdT hsz3 (hE _ ⟨fun b o hbo => (other b fun q => by rw [q, hnT] at hbo; cases hbo).trans (hkb b o hbo), hen, hl.of_keeps fun b o hb hnf => ⟨o, (other b (noRecord b o hb hnf)).trans hb, rfl⟩, ?_⟩ fun b o hb hnf => ⟨o.slots, (other b (noRecord b o hb hnf)).trans hb⟩)
 exact ⟨oe, vs, T, _, _, (other e (Ne.symm hTe)).trans he, hcls, hd, h1, hnT, hTe, Heap.get?_update_self _ hT (Obj.isFreed_of_fields (Obj.data_mapFields hdT _)), Obj.data_mapFields hdT _, by simp [hsz3]⟩
structure Held (l : List Env) (L : Addr) (F : List Addr) (s1 s' : Shared) (e : Addr) : Prop where
 fly : ∃ base t, Heap.HeldW base l e (.type "StopIteration") (.ref t) L s'.heap ∧ ∀ b o, s1.heap.get? b = some o → b ∉ F → base.get? b = some o
 up : s1.heap.UpToSlots s'.heap
 dict : ∀ b ∈ F, ∃ o es n, s1.heap.get? b = some o ∧ o.data = .dict es n
 gens : s'.gens = s1.gens
 os : s'.os = s1.os
section
variable {X : Stat} {P : Prot} {ρ : List Addr} {st : PSt} {s : Shared} {outer : List Env} {M : Model} {A : Around} {E : Value → Shared → Prop}
theorem zKN (hfs : A.frames = some (X.env :: outer)) (hfm : X.env.frame = some X.env.locals) {F : List Addr} {s1 : Shared} {e : Addr} (x : Fly (X.env :: outer) F s1 s e) {Q : Unit → Shared → Prop} (hQ : ∀ s', Held (X.env :: outer) X.env.locals F s1 s' e → Q () s') : wpAny M A (noteFrame (.ref e) X.env) Q E s := by
 obtain ⟨⟨base, t, hf, hb⟩, hu, hd, hg, ho⟩ := x
 exact wpAny_looks_onW hfs hfm hf fun h' hh hu2 => hQ _ ⟨⟨base, t, hh, hb⟩, hu.trans hu2, hd, hg, ho⟩
theorem zKO (hfm : X.env.frame = some X.env.locals) {l : List Env} {F : List Addr} {s1 : Shared} {e : Addr} (x : Held l X.env.locals F s1 s e) {Q : Unit → Shared → Prop} (hQ : Q () s) : wpAny M A (noteFrame (.ref e) X.env) Q E s := by
 obtain ⟨⟨base, t, hf, hb⟩, _⟩ := x
 exact wpAny_noteFrame_againW hfm hf.2.2.2 hQ
theorem zKP (hfm : X.env.frame = some X.env.locals) {l : List Env} {F : List Addr} {s1 : Shared} {e : Addr} (x : Held l X.env.locals F s1 s e) (hE : ∀ s', Held l X.env.locals F s1 s' e → E (.ref e) s') : cameBackBy M A X.env E (.ref e) s := by
 obtain ⟨⟨base, t, hf, hb⟩, hu, hd, hg, ho⟩ := x
 exact zKM hfm hf fun h' hh hu2 => hE _ ⟨⟨base, t, hh, hb⟩, hu.trans hu2, hd, hg, ho⟩
theorem zKQ {l : List Env} {L : Addr} {F : List Addr} {s1 : Shared} {e : Addr} (x : Held l L F s1 s e) {Q : Unit → Shared → Prop} (hQ : ∀ s', Fly l F s1 s' e → Q () s') : wpAny M A (setFlight (.ref e) none) Q E s := by
 obtain ⟨⟨base, t, hf, hb⟩, hu, hd, hg, ho⟩ := x
 exact wpAny_landsW hf fun h' hh hu2 => hQ _ ⟨⟨base, t, hh, hb⟩, hu.trans hu2, hd, hg, ho⟩
theorem zKR {l : List Env} {F : List Addr} {s1 : Shared} {e : Addr} (x : Fly l F s1 s e) {Q : Unit → Shared → Prop} (hQ : ∀ s', Fly l F s1 s' e → Q () s') : wpAny M A (setFlight (.ref e) none) Q E s := by
 obtain ⟨⟨base, t, hf, hb⟩, hu, hd, hg, ho⟩ := x
 exact lands_againW hf fun h' hh hu2 => hQ _ ⟨⟨base, t, hh, hb⟩, hu.trans hu2, hd, hg, ho⟩
theorem Loose.at {F : List Addr} {s1 s' : Shared} (x : Loose F s1 s') {a : Addr} {o : Obj} (h : s1.heap.get? a = some o) : ∃ sl, s'.heap.get? a = some { o with slots := sl } := by
 by_cases hb : a ∈ F
 ·exact x.slot _ o hb h
 ·exact ⟨o.slots, x.keep _ o hb h⟩
theorem zKS {A : Around} (K : XOK X) {s1 : Shared} (I : Inv X P ρ st s1) {F : List Addr} (x : Loose F s1 s) {y : Str} {p : Pos} {v : Value} {Q : Value → Shared → Prop} (hk : X.env.kindOf y = some .globalImplicit)
  (hv : X.G.mg y = none) (hb : bootBuiltins y = some v) (hn : y ≠ "__name__") (hd : (y == ("__debug__" : Str)) = false) (h : Q v s) : wpAny (model X.G.prog X.G.w) A (eval (.Name y p) X.env) Q E s :=
 Calls.Name_function_global K.fn hk (Calls.loadGlobal_builtin (K.glob ▸ Heap.Ns.slots (K.gok.g.at' fun o e => I.get e) fun o e => x.at e) hv (K.blt ▸ Heap.Ns.slots (K.gok.b.at' fun o e => I.get e) fun o e => x.at e) ((K.gok.mbs y hn).trans hb) h) hd
theorem zKT : bootBuiltins "StopIteration" = some (.type "StopIteration") := by kernel_rfl
theorem zKU : isSubtype (.type "StopIteration") (.type "BaseException") = pure true := by rw [isSubtype_type]; kernel_rfl
theorem zKV : isSubtype (.type ((Manifest.find? "StopIteration").elim "type" fun x => x.metatype)) (.type "tuple") = pure false := by
 rw [isSubtype_type]; kernel_rfl
theorem zKW (K : XOK X) {s1 : Shared} (I : Inv X P ρ st s1) {F : List Addr} {e : Addr} (x : Fly (X.env :: outer) F s1 s e) (hk : X.env.kindOf "StopIteration" = some .globalImplicit) (hv : X.G.mg "StopIteration" = none) {b0 : Stmt} {suite : List Stmt} {ph pos : Pos} {Q : Flow → Shared → Prop}
  (hQ : ∀ s', Loose F s1 s' → wpAny (model X.G.prog X.G.w) (A.mark (some (.ref e))) (execs (b0 :: suite) X.env) Q (fun _ _ => False) s') :
  wpAny (model X.G.prog X.G.w) A (handleBy (.ref e) X.env [.ExceptHandler (some (.Name "StopIteration" ph)) none (b0 :: suite) pos]) Q E s := by
 have hth : ∃ ob, s.heap.get? e = some ob ∧ ob.cls = .type "StopIteration" := by
  obtain ⟨⟨base, t, hf, hb⟩, _⟩ := x
  exact hf.there
 refine wpAny_handleBy_builtin (X := "StopIteration") (T := "StopIteration") (b := true) zKU zKV isSubtype_stop ?_
 refine zKS K I x.loose hk hv zKT (by decide) (by decide) ⟨rfl, hth, ?_⟩
 rw [if_pos rfl]
 exact zKR x fun s' x' => wpAny_mono (hQ s' x'.loose) (fun _ _ h => h) fun _ _ h => h.elim
end
section
variable {X : Stat} {P : Prot} {ρ : List Addr} {st st' : PSt} {s : Shared} {outer : List Env}
theorem zKX (K : XOK X) {A : Around} (hA : AOK X.d A) (hfs : A.frames = some (X.env :: outer)) (hfm : X.env.frame = some X.env.locals) (ho : OutB P outer) {xn xi f : Str} {d : DefRec} (F : FnN X.G f d) (S : zDb d) (hd : 1 ≤ X.d) (hv : X.G.mg "next" = none)
  (hvS : X.G.mg "StopIteration" = none) (hkS : X.env.kindOf "StopIteration" = some .globalImplicit)
  (hk : X.env.kindOf f = some .globalImplicit) (hdb : (f == ("__debug__" : Str)) = false) {inm iit : Nat} (hn : X.ns[inm]? = some xn) (hi : X.ns[iit]? = some xi) (hdn : (xn == ("__debug__" : Str)) = false) (hdi : (xi == ("__debug__" : Str)) = false) (hin : interactive X.env = false)
  {pn pa pf pi pc pe px pw pk ph phh pt : Pos} {kc : Nat} {b0 : Stmt} {suite : List Stmt} (hline : (pa.endLine == pe.line) = true) {step : PM PF} (hstep : SndB X [] [.Expr (.Call (.Attribute (.Name xn pn) "append" pa) [.Call (.Name f pf) [.Name xi pi] [] pc] [] pe) px] step)
  (hI : Inv X P ρ st s) {n : Nat} (e0 : zBW inm iit step n st = some st') {Q : Flow → Shared → Prop}
  (hQ : ∀ s1 s5 e F ρ', ρ <+: ρ' → Left X P outer ρ' st' F s1 → Loose F s1 s5 → wpAny (model X.G.prog X.G.w) (A.mark (some (.ref e))) (execs (b0 :: suite) X.env) Q (fun _ _ => False) s5) :
  wpAny (model X.G.prog X.G.w) A (exec (.Try [.While (.Constant (.bool true) kc pk) [.Expr (.Call (.Attribute (.Name xn pn) "append" pa) [.Call (.Name f pf) [.Name xi pi] [] pc] [] pe) px] [] pw] [.ExceptHandler (some (.Name "StopIteration" ph)) none (b0 :: suite) phh] [] [] pt) X.env) Q (fun _ _ => False) s := by
 refine wpAny_Try_except ?_
 rw [execs_cons]
 refine wpAny_bind (wpAny_While (codeAny_whileLoop (fun k s' => ∃ ρ' st1, ρ <+: ρ' ∧ Inv X P ρ' st1 s' ∧ zBW inm iit step k st1 = some st') ?_ n ⟨ρ, st, List.prefix_refl _, hI, e0⟩))
 rintro k s1 ⟨ρ1, st1, hp1, I1, e1⟩
 cases k with
 | zero => exact zC e1
 | succ k =>
  have hA' := hA.mark
  have hfs' : (A.mark none).frames = some (X.env :: outer) := hfs
  refine (zA1 (X := X) (m := PM.ret (.bool true)) (e := .Constant (.bool true) kc pk) (fun _ => rfl) zAV).run List.nil_prefix hA' I1 rfl fun c s2 ρ2 hp2 I2 hc => ?_
  cases hc
  rw [if_pos rfl]
  rw [zEk] at e1
  revert e1
  cases hq : endAt inm iit st1 with
  | some q =>
   intro e1
   cases e1
   refine zKL K hA' hfs' hfm ho F S hd hv hk hdb hn hi hdn hdi hin hline I2 hq fun s3 s4 e Fr hL hfl => ?_
   refine zKN hfs' hfm hfl fun s5 h5 => zKP hfm h5 fun s6 h6 => ?_
   refine zKO hfm h6 (zKQ h6 fun s7 h7 => ?_)
   exact zKW K hL.1 h7 hkS hvS fun s8 h8 => hQ s3 s8 e Fr ρ2 (hp1.trans hp2) hL h8
  | none =>
   dsimp only
   cases hs : step st1 with
   | none => intro e1; exact zC e1
   | some r =>
    obtain ⟨g, st3⟩ := r
    cases g with
    | next =>
     intro e1
     refine hstep.run List.nil_prefix hA' I2 hs fun g' s3 ρ3 hp3 I3 hg => ?_
     cases hg
     exact ⟨k, Nat.lt_succ_self k, ρ3, st3, hp1.trans (hp2.trans hp3), I3, e1⟩
    | _ => intro e1; exact zC e1
end
theorem zKY {prog : Program} {w : World} {A : Around} {s : Shared} {R : Result → Shared → Prop} {a : Addr} {o : Obj} {fd : FuncData} {body : List Stmt} {vals : List Value} {binds : List (Str × Value)} (hT : 1 ≤ s.toks)
  (hroom : A.depth < recursionLimit) (ho : s.heap.get? a = some o) (hdata : o.data = .func fd) (hlim : s.heap.NoLimit) (hcd : s.heap.CodeRec fd.code fd.qualname)
  (hbody : fd.body = .stmts body) (hbind : bindArgs fd ⟨vals, []⟩ = pure binds) (hclo : fd.closure = [])
  (hkind : ∀ x ∈ binds, fd.scope.names.lookup x.1 = some .local ∨ (fd.scope.names.lookup x.1 = some .cell ∧ ((cellsFrom (s.heap.objs.size + 1) fd.scope.names []).lookup x.1).isSome = true))
  (h : ∀ s₁, InCallC s (callEnvC fd s.heap.objs.size a).locals (bindL (callEnvC fd s.heap.objs.size a).kindOf binds fun _ => none) (callEnvC fd s.heap.objs.size a).cells
    (bindC (callEnvC fd s.heap.objs.size a).kindOf binds fun _ => none) s₁ → 1 ≤ s₁.toks →
   wpAny (model prog w) (A.deeper (callEnvC fd s.heap.objs.size a)) (execs body (callEnvC fd s.heap.objs.size a)) (fun f s' => R (.ok (.ret (match f with | .ret v => v | _ => .none))) s')
    (fun e s' => wpAny (model prog w) (A.deeper (callEnvC fd s.heap.objs.size a)) (leaving (callEnvC fd s.heap.objs.size a) e) (fun _ s'' => R (.error e) s'') (fun e' s'' => R (.error e') s'') s') s₁)
  (hco : fd.scope.isCoroutine = false) (hgen : fd.scope.isGenerator = false) (hk : fd.scope.kind = .function) :
  codeAny (model prog w) A (.call (.ref a) ⟨vals, []⟩) R s := by
 refine codeAny_call_function hroom ho hdata hco hgen hbody hcd ?_
 rw [hbind, hclo]
 refine wpAny_pure (wpAny_with_toks hT (wpAny_newFunctionEnv_cells hk hkind fun env he s' x ht => ?_))
 subst he
 exact ⟨hlim.keeps x.toInCall.keep, codeAny_func (h s' x ht)⟩
noncomputable def insZ (x : Int) : List Int → List Int
 | [] => [x]
 | y :: ys => if x ≤ y then x :: y :: ys else y :: insZ x ys
noncomputable def sortZ : List Int → List Int
 | [] => []
 | x :: xs => insZ x (sortZ xs)
theorem zEl (x : Int) : ∀ ys, (insZ x ys).Perm (x :: ys)
 | [] => List.Perm.refl _
 | y :: ys => by
  unfold insZ
  by_cases h : x ≤ y
  ·rw [if_pos h]
  ·rw [if_neg h]
   exact ((zEl x ys).cons y).trans (List.Perm.swap x y ys)
theorem zKZ (x : Int) (ys : List Int) (h : ys.Pairwise (· ≤ ·)) : (insZ x ys).Pairwise (· ≤ ·) := by
 induction ys with
 | nil => exact List.pairwise_singleton _ _
 | cons y ys ih =>
  have h0 := List.pairwise_cons.mp h
  unfold insZ
  by_cases q : x ≤ y
  ·rw [if_pos q]
   refine List.pairwise_cons.mpr ⟨fun z hz => ?_, h⟩
   rcases List.mem_cons.mp hz with rfl | hz
   ·exact q
   ·exact Int.le_trans q (h0.1 z hz)
  ·rw [if_neg q]
   refine List.pairwise_cons.mpr ⟨fun z hz => ?_, ih h0.2⟩
   rcases List.mem_cons.mp ((zEl x ys).subset hz) with rfl | hz
   ·lia
   ·exact h0.1 z hz
theorem zGg : ∀ xs, (sortZ xs).Perm xs
 | [] => List.Perm.refl _
 | x :: xs => (zEl x (sortZ xs)).trans ((zGg xs).cons x)
theorem zGh : ∀ xs, (sortZ xs).Pairwise (· ≤ ·)
 | [] => List.Pairwise.nil
 | x :: xs => zKZ x _ (zGh xs)
theorem zKa {ns ms : List Int} (hp : ms.Perm ns) (hs : ms.Pairwise (· ≤ ·)) : ms = sortZ ns :=
 List.Perm.eq_of_pairwise (le := (· ≤ ·)) (fun a b _ _ h1 h2 => Int.le_antisymm h1 h2) hs (zGh ns) (hp.trans (zGg ns).symm)
theorem zGi {ρ : List Addr} {vs : List Value} {ns : List Int} (h : IntsAre vs ns) : VRels ρ (ns.map .int) vs := by
 induction h with
 | nil => exact .nil
 | cons n t _ ih => exact .cons (.int n t) ih
noncomputable def zCh (v : PV) : PM PV := fun s => match v with
 | .ref i => match s.hp[i]? with
  | some (_, .list xs) => (zAd xs).bind fun ns => if ns.length < 64 then zu (.list ((sortZ ns).map .int)) s else none
  | _ => none
 | _ => none
theorem zGj {α : Type} {hp : List (Bool × PO)} {i : Nat} {F : List PV → Option α} {r : α} (e : (match hp[i]? with | some (_, .list xs) => F xs | _ => none) = some r) : ∃ f xs, hp[i]? = some (f, .list xs) ∧ F xs = some r := by
 revert e
 cases hp[i]? with
 | none => intro e; exact zC e
 | some c =>
  obtain ⟨f, o⟩ := c
  cases o with
  | list xs => intro e; exact ⟨f, xs, rfl, e⟩
  | _ => intro e; exact zC e
section
variable {X : Stat}
theorem zKb (K : XOK X) : Snd1 X (.builtin "sorted") zCh := by
 intro ρ v rv hv
 exact .of fun A P s ρ' st st' b Q E hρ hA I e h => by
  cases hv with
  | ref hi =>
   obtain ⟨f, xs, g, e⟩ := zGj (F := fun xs => (zAd xs).bind fun ns => if ns.length < 64 then zu (.list ((sortZ ns).map .int)) st else none) e
   obtain ⟨vs, n, g1, r1⟩ := I.ref_at (zi hρ hi) g
   obtain ⟨ns, hn, e⟩ := Option.bind_eq_some_iff.mp e
   by_cases hl : ns.length < 64
   ·rw [if_pos hl] at e
    cases e
    have hI := zEZ r1 hn
    refine sorted_ints ⟨_, g1, rfl, n, rfl⟩ hI (by rw [hI.length]; exact hl) fun out ns' a1 a2 a3 => ?_
    obtain ⟨ep, he⟩ := sortedAll_at s.heap vs out
    refine h _ _ _ (List.prefix_append ..) (I.made (tk := s.toks) K (Nat.le_succ _) (fun _ _ => sortedAll_old) ⟨out.toList, ep, ?_, ?_⟩) (.ref (I.last _))
    ·rw [Array.toArray_toList]; exact he
    ·rw [← zKa a2 a3]; exact zGi a1
   ·rw [if_neg hl] at e
    exact zC e
  | _ => cases e
noncomputable def zCi (m : PM PV) : PM PV := m.bind fun v s => match v with
 | .int i => if 0 ≤ i ∧ i ≤ 1000 then zu (.list ((List.range i.toNat).map fun (k : Nat) => .int (k : Int))) s else none
 | _ => none
theorem zKc {i : Int} (h : 0 ≤ i ∧ i ≤ 1000) : Builtin.Range.small 0 i 1 = true := small_one (by lia) (by lia) (by lia) (by lia)
theorem zKd {i : Int} (h : 0 ≤ i ∧ i ≤ 1000) : Builtin.Range.rangeSize 0 i 1 = (i.toNat : Int) := by
 unfold Builtin.Range.rangeSize
 rw [if_pos (by decide)]
 by_cases q : 0 < i
 ·rw [if_pos q, Int.ediv_one]; lia
 ·rw [if_neg q]; lia
theorem zKe : bootBuiltins "list" = some (.type "list") := by kernel_rfl
theorem zKf (K : XOK X) {p q pos pos2 : Pos} {e : Expr} {m : PM PV} (hk : X.env.kindOf "list" = some .globalImplicit) (hv : X.G.mg "list" = none) (hk2 : X.env.kindOf "range" = some .globalImplicit) (hv2 : X.G.mg "range" = none)
  (he : starEach [e] X.env = [(false, eval e X.env)]) (h : SndE X [] e m) : SndE X [] (.Call (.Name "list" p) [.Call (.Name "range" q) [e] [] pos2] [] pos) (zCi m) := by
 intro A P s ρ st st' b hρ hA hI e0
 apply byC; intro kz; obtain ⟨v, st1, e1, ea⟩ := PM.bind_some e0; apply kz; clear kz
 refine wpAny_Call_NameR (zCb K hI hk hv zKe (by decide) (by decide) ?_)
 rw [show starEach [Expr.Call (.Name "range" q) [e] [] pos2] X.env = [(false, eval (.Call (.Name "range" q) [e] [] pos2) X.env)] from rfl]
 refine callWith_type1 ?_
 refine wpAny_Call_NameR (zCb K hI hk2 hv2 zGL (by decide) (by decide) ?_)
 rw [he]
 refine callWith_type1 ?_
 refine h.run List.nil_prefix hA hI e1 fun rv s1 ρ1 hp1 I1 hr => ?_
 cases hr with
 | int i t =>
  by_cases hc : 0 ≤ i ∧ i ≤ 1000
  ·replace ea := (if_pos hc).symm.trans ea
   cases ea
   refine call_range_1 ?_
   refine call_list_range hA.handled (Heap.get?_push_size _ rfl) (zKc hc) (zKd hc) (by lia) fun h' tk' acc c' hk' hL hacc => ?_
   refine ⟨_, hp1.trans (List.prefix_append ..), I1.made (tk := tk') K (a := s1.heap.objs.size + 1) (Nat.le_succ _) (fun b o e => hk' b o (Heap.get?_push_of_some _ e)) ⟨acc.toList, c', ?_, ?_⟩, ?_⟩
   ·dsimp only at hL
    rw [Heap.size_push] at hL
    rw [Array.toArray_toList]; exact hL
   ·have hacc' : IntsAre acc.toList ((List.range i.toNat).map fun (j : Nat) => (0 : Int) + (j : Int)) := by
     rw [List.range_eq_range']
     refine zED i.toNat acc.toList (by rw [Array.length_toList]; exact hacc.1) 0 fun j v hj => ?_
     obtain ⟨t, e⟩ := hacc.2 j v (by rw [← Array.getElem?_toList]; exact hj)
     exact ⟨t, by rw [e]; congr 2; lia⟩
    have := zGi (ρ := ρ1 ++ [s1.heap.objs.size + 1]) hacc'
    rw [List.map_map] at this
    rw [show ((List.range i.toNat).map fun (k : Nat) => PV.int (k : Int)) = (List.range i.toNat).map (PV.int ∘ fun (j : Nat) => (0 : Int) + (j : Int)) from List.map_congr_left fun j _ => by show _ = PV.int (0 + (j : Int)); rw [Int.zero_add]]
    exact this
   ·dsimp only
    rw [Heap.size_push]
    exact .ref (I1.last _)
  ·exact zC ((if_neg hc).symm.trans ea)
 | _ => exact zC ea
theorem zKg {ns : List Int} {vs : List Value} (h : IntsAre vs ns) (k : Int) (j : Nat) : (vs[j]?).map (isInt k) = (ns[j]?).map (· == k) := by
 induction h generalizing j with
 | nil => rfl
 | cons n t _ ih =>
  cases j with
  | zero => rfl
  | succ j => exact ih j
noncomputable def zBh (mo me : PM PV) : PM PV := mo.bind fun o s => match o with
 | .ref i => match s.hp[i]? with
  | some (_, .list _) => (me.bind fun v s2 => match v with
   | .int k => match s2.hp[i]? with
    | some (false, .list xs) => (zAd xs).bind fun ns => if ns.length ≤ zH ∧ ns.idxOf k < ns.length then some (.none, { s2 with hp := s2.hp.set i (false, .list ((ns.eraseIdx (ns.idxOf k)).map .int)) }) else none
    | _ => none
   | _ => none) s
  | _ => none
 | _ => none
theorem zKh : ∀ {xs : List PV} {ns : List Int}, zAd xs = some ns → xs = ns.map .int := by
 intro xs
 induction xs with
 | nil => intro ns hn; cases hn; rfl
 | cons x xs ih =>
  intro ns hn
  cases x with
  | int y =>
   obtain ⟨l, h1, rfl⟩ := Option.map_eq_some_iff.mp hn
   rw [List.map_cons, ← ih h1]
  | _ => exact zC hn
theorem zKi {mo me : PM PV} {st st' : PSt} {r : PV} (e : zBh mo me st = some (r, st')) : ∃ (i : Nat) (st1 : PSt) (f : Bool) (ys : List PV) (k : Int) (st2 : PSt) (ns : List Int), mo st = some (.ref i, st1) ∧ st1.hp[i]? = some (f, .list ys) ∧ me st1 = some (.int k, st2) ∧
  st2.hp[i]? = some (false, .list (ns.map .int)) ∧ ns.length ≤ zH ∧ ns.idxOf k < ns.length ∧ r = .none ∧ st' = { st2 with hp := st2.hp.set i (false, .list ((ns.eraseIdx (ns.idxOf k)).map .int)) } := by
 apply byC; intro kz; obtain ⟨o, st1, e1, e⟩ := PM.bind_some e; apply kz; clear kz
 cases o with
 | ref i =>
  obtain ⟨f, ys, g, e⟩ := zGj (F := fun _ => (me.bind fun v s2 => match v with
   | .int k => match s2.hp[i]? with
    | some (false, .list xs) => (zAd xs).bind fun ns => if ns.length ≤ zH ∧ ns.idxOf k < ns.length then some (PV.none, ({ s2 with hp := s2.hp.set i (false, .list ((ns.eraseIdx (ns.idxOf k)).map .int)) } : PSt)) else none
    | _ => none
   | _ => none) st1) e
  apply byC; intro kz; obtain ⟨v, st2, e2, e⟩ := PM.bind_some e; apply kz; clear kz
  cases v with
  | int k =>
   revert e
   dsimp only
   cases hq : st2.hp[i]? with
   | none => intro e; exact zC e
   | some c =>
    apply byC; intro kz; obtain ⟨f2, o⟩ := c; apply kz; clear kz
    cases f2 with
    | true => intro e; cases o <;> exact zC e
    | false =>
     cases o with
     | list xs =>
      intro e
      apply byC; intro kz; obtain ⟨ns, hn, e⟩ := Option.bind_eq_some_iff.mp e; apply kz; clear kz
      by_cases hc : ns.length ≤ zH ∧ ns.idxOf k < ns.length
      ·rw [if_pos hc] at e
       cases e
       exact ⟨i, st1, f, ys, k, st2, ns, e1, g, e2, zKh hn ▸ hq, hc.1, hc.2, rfl, rfl⟩
      ·rw [if_neg hc] at e
       exact zC e
     | _ => intro e; exact zC e
  | _ => exact zC e
 | _ => exact zC e
theorem zDc {α β : Type} (f : α → β) : ∀ (l : List α) (k : Nat), (l.eraseIdx k).map f = (l.map f).eraseIdx k
 | [], _ => rfl
 | _ :: _, 0 => rfl
 | a :: l, k + 1 => congrArg (f a :: ·) (zDc f l k)
theorem zKj {ρ : List Addr} {ns : List Int} : ∀ {vs : List Value}, VRels ρ (ns.map .int) vs → IntsAre vs ns := by
 induction ns with
 | nil => intro vs h; cases h; exact .nil
 | cons n ns ih =>
  intro vs h
  cases h with
  | cons a r => cases a with | int _ t => exact .cons n t (ih r)
theorem zKk {o e : Expr} {apos pos : Pos} {mo me : PM PV} (hbase : attributeBase o "remove" X.env (eval o X.env) = eval o X.env) (hs : starEach [e] X.env = [(false, eval e X.env)]) (hline : (apos.endLine == pos.line) = true) (ho : SndE X [] o mo) (he : SndE X [] e me) :
  SndE X [] (.Call (.Attribute o "remove" apos) [e] [] pos) (zBh mo me) := by
 intro A P s ρ st st' b hρ hA hI e0
 apply byC; intro kz; obtain ⟨i, st1, f, ys, k, st2, ns, e1, g0, e2, g, hbig, hk, rfl, rfl⟩ := zKi e0; apply kz; clear kz
 refine Call_method1 hbase hs hline (ho.run List.nil_prefix hA hI e1 fun ro s1 ρ1 hp1 I1 h1 => ?_)
 cases h1 with | ref hi => ?_
 apply byC; intro kz; obtain ⟨vs0, k0, q0, r0⟩ := I1.ref_at hi g0; apply kz; clear kz
 refine ⟨"list", "list.remove", F.plainAttrs_list, F.slot_list_remove, F.type_list_remove, ⟨_, q0, rfl⟩, (fun a e => by cases e; exact ⟨_, q0, rfl⟩), ?_⟩
 refine PySem.P.remove_list (he.run List.nil_prefix hA I1 e2 fun rv s2 ρ2 hp2 I2 h2 => ?_)
 cases h2 with | int _ t => ?_
 apply byC; intro kz; obtain ⟨vs, n, g1, r1⟩ := I2.ref_at (zi hp2 hi) g; apply kz; clear kz
 have hI' := zKj r1
 have hlen := hI'.length
 have hj : ns.idxOf k < vs.length := by lia
 have hsz : vs.toArray.size = vs.length := List.size_toArray
 have hit : ∀ m (hm : m < vs.length), isInt k vs[m] = (ns[m]'(by lia) == k) := fun m hm => by
  have := zKg hI' k m
  rw [List.getElem?_eq_getElem hm, List.getElem?_eq_getElem (by lia : m < ns.length)] at this
  exact Option.some.inj this
 refine ⟨vs.toArray, n, isInt k, ns.idxOf k, by rw [hsz]; exact hj, by rw [hsz, hlen]; exact zAG hbig, g1, fun y hy => eq_isInt k t hI' y (by simpa using hy), ?_, ?_, ρ2, hp1.trans hp2, I2.upd (tk := s2.toks) (zi hp2 hi) g (Heap.SameBut.update ..) ?_, .none⟩
 ·rw [List.getElem_toArray, hit _ hj, List.getElem_idxOf hk]; exact beq_self_eq_true k
 ·intro m hm hlt
  rw [List.getElem_toArray, hit m (by lia)]
  exact List.not_of_lt_findIdx (p := (· == k)) hlt
 ·have hE : vs.toArray.eraseIdxIfInBounds (ns.idxOf k) = (vs.eraseIdx (ns.idxOf k)).toArray := by rw [List.eraseIdxIfInBounds_toArray]
  have e : ∃ n', Obj.mapSeq (fun xs => xs.eraseIdxIfInBounds (ns.idxOf k)) { cls := .type "list", data := .seq vs.toArray n } = ({ cls := .type "list", data := .seq (vs.eraseIdx (ns.idxOf k)).toArray n' } : Obj) :=
   ⟨if (vs.toArray.eraseIdxIfInBounds (ns.idxOf k)).size == vs.toArray.size then n else n + 1, by
    rw [← hE]
    rfl⟩
  apply byC; intro kz; obtain ⟨n', e⟩ := e; apply kz; clear kz
  refine ⟨vs.eraseIdx (ns.idxOf k), n', ?_, ?_⟩
  ·rw [Heap.get?_update_self _ g1 (by rw [e]; rfl), e]
  ·have := r1.erase (ns.idxOf k)
   rwa [show (ns.map PV.int).eraseIdx (ns.idxOf k) = (ns.eraseIdx (ns.idxOf k)).map PV.int from (zDc PV.int ns _).symm] at this
end
section
variable {X : Stat}
noncomputable def zB9 (mo me : PM PV) : PM PV := mo.bind fun o => me.bind fun v s => match o, v with
 | .str x, .str y => if x.length ≤ zH ∧ (Txt.charAt y 0).isSome = true then some (.str (Txt.replace x (Txt.item y 0) ""), s) else none
 | _, _ => none
theorem zKl {mo me : PM PV} {st st' : PSt} {r : PV} (e : zB9 mo me st = some (r, st')) : ∃ (x y : Str) (st1 : PSt), mo st = some (.str x, st1) ∧ me st1 = some (.str y, st') ∧ x.length ≤ zH ∧ (Txt.charAt y 0).isSome = true ∧ r = .str (Txt.replace x (Txt.item y 0) "") := by
 apply byC; intro kz; obtain ⟨o, st1, e1, e⟩ := PM.bind_some e; apply kz; clear kz
 apply byC; intro kz; obtain ⟨v, st2, e2, e⟩ := PM.bind_some e; apply kz; clear kz
 cases o with
 | str x =>
  cases v with
  | str y =>
   by_cases hc : x.length ≤ zH ∧ (Txt.charAt y 0).isSome = true
   ·cases (if_pos hc).symm.trans e
    exact ⟨x, y, st1, e1, e2, hc.1, hc.2, rfl⟩
   ·exact zC ((if_neg hc).symm.trans e)
  | _ => exact zC e
 | _ => exact zC e
theorem zGk : ("" : Str).length = 0 := by decide +kernel
theorem zKm {o e : Expr} {k1 k2 : Nat} {q1 q2 p2 apos pos : Pos} {mo me : PM PV}
  (hbase : attributeBase o "replace" X.env (eval o X.env) = eval o X.env) (hs : starEach [.Subscript e (.Constant (.int 0) k1 q1) p2, .Constant (.str "") k2 q2] X.env = [(false, eval (.Subscript e (.Constant (.int 0) k1 q1) p2) X.env), (false, eval (.Constant (.str "") k2 q2) X.env)])
  (hline : (apos.endLine == pos.line) = true) (hsub : ∀ o v, subscripted (.Constant (.int 0) k1 q1) false o v = operate [o, v] (getItem o v)) (ho : SndE X [] o mo) (he : SndE X [] e me) :
  SndE X [] (.Call (.Attribute o "replace" apos) [.Subscript e (.Constant (.int 0) k1 q1) p2, .Constant (.str "") k2 q2] [] pos) (zB9 mo me) := by
 intro A P s ρ st st' b hρ hA hI e0
 apply byC; intro kz; obtain ⟨x, y, st1, e1, e2, hx, hy, rfl⟩ := zKl e0; apply kz; clear kz
 refine Call_method2 hbase hs hline (ho.run List.nil_prefix hA hI e1 fun ro s1 ρ1 hp1 I1 h1 => ?_)
 cases h1 with | str _ t => ?_
 refine ⟨"str", "str.replace", F.plainAttrs_str, F.slot_str_replace, F.type_str_replace, typeIs_str _ _ _, (fun _ e => nomatch e), ?_⟩
 refine Calls.callWith_builtin rfl (Calls.evalArgs_plain (Calls.spliced_cons ?_))
 rw [eval_Subscript]
 refine wpAny_bind (he.run List.nil_prefix hA I1 e2 fun ry s2 ρ2 hp2 I2 h2 => ?_)
 cases h2 with | str _ u => ?_
 refine wpAny_bind (wpAny_holding (wpAny_Constant_int (k := k1) (pos := q1) ?_))
 have hit : ItemOn (model X.G.prog X.G.w) A (fun _ _ => False) (.str y u) (.int 0 s2.toks) (fun v s₁ => wpAny (model X.G.prog X.G.w) A (spliced [(false, eval (.Constant (.str "") k2 q2) X.env)]) (fun vs s₂ => wpAny (model X.G.prog X.G.w) A (call (.builtin "str.replace") (.str x t :: v :: vs)) (fun v s' => ∃ ρ', ρ <+: ρ' ∧ Inv X P ρ' st' s' ∧ VRel ρ' (.str (Txt.replace x (Txt.item y 0) "")) v) (fun _ _ => False) s₂) (fun _ _ => False) s₁) { s2 with toks := s2.toks + 1 } := by
  refine SB.item (by decide) hy ?_
  refine Calls.spliced_cons (Calls.Constant_str (Calls.spliced_nil ?_))
  refine SC.replace (Nat.succ_ne_zero _) (Nat.succ_ne_zero _) (Nat.ne_of_lt (Nat.lt_succ_self _)) ?_ ?_ fun t' k => ⟨ρ2, hp1.trans hp2, I2.tok k, .str _ _⟩
  ·refine beq_eq_false_iff_ne.mpr fun q => ?_
   have := congrArg Str.length q
   rw [len_item, zGk] at this
   cases this
  ·rw [zGk, Nat.mul_zero]
   exact Nat.le_trans hx (by decide)
 apply byC; intro kz; obtain ⟨Tn, id, hl, hT, hg⟩ := hit; apply kz; clear kz
 refine wpAny_bind (wpAny_standAt ?_)
 refine wpAny_bind ?_
 rw [getitemInPython_of_ne hT.not_modules]
 refine wpAny_bind (wpAny_specialOf hT hl ?_)
 refine wpAny_pure (wpAny_bind ?_)
 rw [hsub]
 exact wpAny_operating (wpAny_mono hg (fun r s₃ h₃ => wpAny_bind (wpAny_letTemporaryGo (wpAny_pure h₃))) fun _ _ x => x)
noncomputable def zCj (i j : Nat) (m : PM PV) : PM PF := m.bind fun v s => match pPair v s with
 | some (a, b) => some (.next, { s with vars := (s.vars.set i (some a)).set j (some b) })
 | none => none
theorem zKn {v : PV} {s : PSt} {a b : PV} (e : pPair v s = some (a, b)) : ∃ i f, v = .ref i ∧ s.hp[i]? = some (f, .tuple [a, b]) := by
 cases v with
 | ref i =>
  revert e
  unfold pPair
  dsimp only
  cases hq : s.hp[i]? with
  | none => intro e; exact zC e
  | some c =>
   obtain ⟨f, o⟩ := c
   cases o with
   | tuple xs =>
    cases xs with
    | nil => intro e; exact zC e
    | cons x xs =>
     cases xs with
     | nil => intro e; exact zC e
     | cons y xs =>
      cases xs with
      | nil => intro e; cases e; exact ⟨i, f, rfl, hq⟩
      | cons z xs => intro e; exact zC e
   | _ => intro e; exact zC e
 | _ => exact zC e
theorem zKo (K : XOK X) {i j : Nat} {x y : Str} {e : Expr} {p1 p2 p3 pos : Pos} {k : Nat} {m : PM PV} (hx : X.ns[i]? = some x) (hy : X.ns[j]? = some y) (ox : X.env.kindOf x = some .cell → X.own = true) (oy : X.env.kindOf y = some .cell → X.own = true)
  (hs : swapsWithSole [.Tuple [.Name x p1, .Name y p2] k p3] e pos.line X.env = Pure.pure false) (hw : swappedStores [.Tuple [.Name x p1, .Name y p2] k p3] e X.env = Pure.pure none) (h : SndE X [] e m) :
  SndS X [] (.Assign [.Tuple [.Name x p1, .Name y p2] k p3] e pos) (zCj i j m) := by
 intro A P s ρ st st' b hρ hA hI e0
 apply byC; intro kz; obtain ⟨v, st1, e1, ea⟩ := PM.bind_some e0; apply kz; clear kz
 cases hp : pPair v st1 with
 | none => rw [hp] at ea; exact zC ea
 | some ab =>
  apply byC; intro kz; obtain ⟨va, vb⟩ := ab; apply kz; clear kz
  rw [hp] at ea
  cases ea
  apply byC; intro kz; obtain ⟨l, f, rfl, g⟩ := zKn hp; apply kz; clear kz
  refine Assign_Tuple (h.run List.nil_prefix hA hI e1 fun rv s1 ρ1 hp1 I1 h1 => ?_) hs hw
  cases h1 with | ref hi => ?_
  apply byC; intro kz; obtain ⟨vs, n, g1, r1⟩ := I1.ref_at hi g; apply kz; clear kz
  cases r1 with | cons ha r1 => ?_
  cases r1 with | cons hb r1 => ?_
  cases r1
  exact zDZ K hA.handled I1 hx hy ox oy ha hb ⟨_, g1, rfl, n, rfl⟩ fun s' I' => ⟨ρ1, hp1, I', .next⟩
end
noncomputable def zEm (inm iit ic : Nat) (step : PM PF) (n : Nat) : PM PF := fun st => (zBW inm iit step n st).bind fun st' => pIf ((pBin pNe (pVar inm) (pVar ic)).bind zI) (pSeq (zO (PM.ret (.bool false))) (PM.ret .next)) (PM.ret .next) st'
theorem zGl {i : Nat} {v : PV} {st st' : PSt} (e : pVar i st = some (v, st')) : st.vars[i]? = some (some v) ∧ st' = st := by
 revert e
 unfold pVar
 cases hq : st.vars[i]? with
 | none => intro e; exact zC e
 | some w =>
  cases w with
  | none => intro e; exact zC e
  | some w => intro e; cases e; exact ⟨rfl, rfl⟩
theorem zKp {P : List Value → Prop} (h : P []) : ∀ vals : List Value, vals.length = 0 → P vals := fun vals e => by rw [List.length_eq_zero_iff.mp e]; exact h
theorem bindS {n : Nat} {P : List Value → Prop} (h : ∀ a, ∀ vals : List Value, vals.length = n → P (a :: vals)) : ∀ vals : List Value, vals.length = n + 1 → P vals := fun vals e => by
 cases vals with
 | nil => cases e
 | cons a vals => exact h a vals (Nat.succ.inj e)
theorem bind5 {P : List Value → Prop} (h : ∀ a b c d e, P [a, b, c, d, e]) : ∀ vals : List Value, vals.length = 5 → P vals := bindS fun a => bindS fun b => bindS fun c => bindS fun d => bindS fun e => zKp (h a b c d e)
section
variable {X : Stat}
theorem zKq (K : XOK X) {xn xi xc f : Str} {d : DefRec} (F : FnN X.G f d) (S : zDb d) (hd : 1 ≤ X.d) (hv : X.G.mg "next" = none)
  (hvS : X.G.mg "StopIteration" = none) (hkS : X.env.kindOf "StopIteration" = some .globalImplicit)
  (hk : X.env.kindOf f = some .globalImplicit) (hdb : (f == ("__debug__" : Str)) = false) (inm iit ic n : Nat) (hn : X.ns[inm]? = some xn) (hi : X.ns[iit]? = some xi) (hc : X.ns[ic]? = some xc) (hdn : (xn == ("__debug__" : Str)) = false) (hdi : (xi == ("__debug__" : Str)) = false) (hdc : (xc == ("__debug__" : Str)) = false) (hin : interactive X.env = false)
  {pn pa pf pi pc pe px pw pk ph phh pt pr prr pc2 pcmp pb pif : Pos} {kc kb : Nat} (hline : (pa.endLine == pe.line) = true) {step : PM PF} (hstep : SndB X [] [.Expr (.Call (.Attribute (.Name xn pn) "append" pa) [.Call (.Name f pf) [.Name xi pi] [] pc] [] pe) px] step) :
  SndS1 X (.Try [.While (.Constant (.bool true) kc pk) [.Expr (.Call (.Attribute (.Name xn pn) "append" pa) [.Call (.Name f pf) [.Name xi pi] [] pc] [] pe) px] [] pw] [.ExceptHandler (some (.Name "StopIteration" ph)) none [.If (.Compare (.Name xn pr) [.NotEq] [.Name xc pc2] pcmp) [.Return (some (.Constant (.bool false) kb pb)) prr] [] pif] phh] [] [] pt)
   (zEm inm iit ic step n) := by
 intro A P s ρ st st' b hρ hA hI hT e
 apply byC; intro kz; obtain ⟨st1, e1, e2⟩ := Option.bind_eq_some_iff.mp e; apply kz; clear kz
 refine zKX K hA.ok hA.fr hA.lo (fun env h => nomatch h) F S hd hv hvS hkS hk hdb hn hi hdn hdi hin hline hstep hI e1 fun s1 s5 ee Fr ρ1 hp1 hL hlo => ?_
 have I5 : Inv X P ρ1 st1 s5 := hL.1.loose hlo fun b hb => by
  rcases hL.2 b hb with h | h
  ·rw [List.filterMap_cons, hA.lo] at h
   rcases List.mem_cons.mp h with rfl | h
   ·exact .inl rfl
   ·cases h
  ·exact .inr ⟨h.2.1, h.1, h.2.2⟩
 apply byC; intro kz; obtain ⟨c, st2, e3, e4⟩ := PM.bind_some e2; apply kz; clear kz
 apply byC; intro kz; obtain ⟨kv, st3, e5, e6⟩ := PM.bind_some e3; apply kz; clear kz
 apply byC; intro kz; obtain ⟨va, st4, e7, e8⟩ := PM.bind_some e5; apply kz; clear kz
 apply byC; intro kz; obtain ⟨vb, st5, e9, e10⟩ := PM.bind_some e8; apply kz; clear kz
 apply byC; intro kz; obtain ⟨h7, rfl⟩ := zGl e7; apply kz; clear kz
 apply byC; intro kz; obtain ⟨h9, rfl⟩ := zGl e9; apply kz; clear kz
 apply byC; intro kz; obtain ⟨k, q, e11⟩ := Option.map_eq_some_iff.mp e10; apply kz; clear kz
 cases e11
 cases e6
 rw [execs_cons]
 refine wpAny_bind ?_
 rw [exec_If]
 refine wpAny_bind (wpAny_standAt (wpAny_bind ?_))
 rw [isTrue_Compare1, markedBehindIn_of_false (show behindInMarks .NotEq (Expr.Name xc pc2) = false from rfl)]
 refine wpAny_bind ?_
 rw [eval_Name X.env xn pr hdn]
 refine wpAny_bind (wpAny_standAt (zBv K I5 hn h7 fun ra hra => ?_))
 refine wpAny_bind (wpAny_holding ?_)
 rw [eval_Name X.env xc pc2 hdc]
 refine wpAny_bind (wpAny_standAt (zBv K I5 hc h9 fun rb hrb => ?_))
 refine wpAny_bind (wpAny_standAt (wpAny_bind (wpAny_operating ?_)))
 have hu : (A.mark (some (.ref ee))).units + 9 < cLine := by have := hA.ok.units; show A.units + 9 < 9900; lia
 refine (zEP I5 (by lia) (zDJ I5 3 (A.mark (some (.ref ee))).in1 (by show A.units + 1 + 3 < cLine; have : A.units + 9 < cLine := hu; lia)) hra hrb q).2 _ _ _ _ ?_
 refine wpAny_holding (wpAny_truthy_bool ?_)
 cases k with
 | true =>
  cases e4
  exact wpAny_execs_nil (env := X.env) (wpAny_execs_nil ⟨ρ1, hp1, I5, .next⟩)
 | false =>
  cases e4
  show wpAny _ _ (execs _ X.env) _ _ _
  rw [execs_cons]
  exact wpAny_bind (wpAny_Return_some (wpAny_pure (wpAny_pure (wpAny_pure ⟨ρ1, hp1, I5, .ret (.bool false)⟩))))
end
theorem zKr {prog : Program} {w : World} {A : Around} {E : Value → Shared → Prop} {s : Shared} {l : Addr} {vs : List Value} {n : Nat} {t : Tok} {v : Value} {Q : Unit → Shared → Prop}
  (ho : s.heap.get? l = some { cls := .type "list", data := .seq vs.toArray n }) (h0 : 0 < vs.length)
  (hQ : ∀ h' n', h'.get? l = some { cls := .type "list", data := .seq (vs.set (vs.length - 1) v).toArray n' } → Heap.SameBut l s.heap h' → Q () { s with heap := h' }) : wpAny (model prog w) A (setItem (.ref l) (.int (-1) t) v) Q E s := by
 have hl : s.heap.IsList l vs.toArray := ⟨_, ho, rfl, n, rfl⟩
 unfold setItem
 try with_reducible refine wpAny_holding ?_
 first | refine wpAny_bind (wpAny_pure ?_) | skip
 refine wpAny_bind (wpAny_sequenceKey hl.typeIs (by decide) ?_)
 refine wpAny_bind (wpAny_callSpecial?_slot (name := Str.ofString "__setitem__") hl.typeIs slot_list_setitem
  (wpAny_call_entry slot_list_setitem hl.typeIs entry_list_setitem ?_ (args_list_setitem _ _ _)))
 show wpAny _ _ (Builtin.List.listSubscript? (.int (-1) t) >>= _) _ _ s
 refine wpAny_bind (wpAny_listSubscript_int (fitsIndex_neg (by decide) (by decide)) ?_)
 have hidx : seqIndex? (-1) vs.toArray.size = some (vs.length - 1) := by
  rw [PySem.seqIndex_neg (by decide) (by rw [List.size_toArray]; lia), List.size_toArray]
  congr 1
  lia
 have hj : vs.length - 1 < vs.toArray.size := by rw [List.size_toArray]; lia
 have hx' : vs.toArray[vs.length - 1]? = some vs.toArray[vs.length - 1] := Array.getElem?_eq_getElem hj
 show wpAny _ _ ((Builtin.List.listItems (.ref l) >>= fun xs => pure ((seqIndex? (Int.negSucc 0) xs.size).bind fun i => xs[i]?.map (i, ·))) >>= _) _ _ s
 refine wpAny_bind (wpAny_bind ?_)
 show wpAny _ _ (seqItems? (.ref l) >>= _) _ _ s
 refine wpAny_bind (wpAny_seqItems ho rfl (wpAny_pure (wpAny_pure ?_)))
 rw [show (Int.negSucc 0) = (-1 : Int) from rfl, hidx]
 simp only [Option.bind_some, hx', Option.map_some]
 show wpAny _ _ (setSeqItemAt l (vs.length - 1) v >>= _) _ _ s
 have hfin : ∃ n', (s.heap.update l (Obj.mapSeq (·.setIfInBounds (vs.length - 1) v))).get? l = some { cls := .type "list", data := .seq (vs.set (vs.length - 1) v).toArray n' } := by
  have e : ∃ n', Obj.mapSeq (·.setIfInBounds (vs.length - 1) v) { cls := .type "list", data := .seq vs.toArray n } = ({ cls := .type "list", data := .seq (vs.set (vs.length - 1) v).toArray n' } : Obj) := by
   refine ⟨n, ?_⟩
   simp [Obj.mapSeq]
  obtain ⟨n', e⟩ := e
  exact ⟨n', by rw [Heap.get?_update_self _ ho (by rw [e]; rfl), e]⟩
 obtain ⟨n', hfin⟩ := hfin
 refine wpAny_bind (wpAny_setSeqItemAt ho rfl ?_)
 exact wpAny_bind (wpAny_pure (wpAny_pure ⟨.none, rfl, wpAny_pure (hQ _ n' hfin (Heap.SameBut.update ..))⟩))
noncomputable def zDd (mv mo : PM PV) : PM PF := mv.bind fun v => mo.bind fun o s => match o with
 | .ref l => match s.hp[l]? with
  | some (false, .list xs) => if 0 < xs.length then some (.next, { s with hp := s.hp.set l (false, .list (xs.set (xs.length - 1) v)) }) else none
  | _ => none
 | _ => none
theorem zKs {α : Type} {hp : List (Bool × PO)} {i : Nat} {F : List PV → Option α} {r : α} (e : (match hp[i]? with | some (false, .list xs) => F xs | _ => none) = some r) : ∃ xs, hp[i]? = some (false, .list xs) ∧ F xs = some r := by
 revert e
 cases hp[i]? with
 | none => intro e; exact zC e
 | some c =>
  obtain ⟨f, o⟩ := c
  cases f with
  | true => intro e; cases o <;> exact zC e
  | false =>
   cases o with
   | list xs => intro e; exact ⟨xs, rfl, e⟩
   | _ => intro e; exact zC e
section
variable {X : Stat}
theorem zKt {o e : Expr} {k : Nat} {q1 q2 p1 pos : Pos} {mo mv : PM PV} (hs : swapsWith e (some (.Subscript o (.UnaryOp .USub (.Constant (.int 1) k q1) q2) p1)) pos.line X.env = Pure.pure false) (hv : SndE X [] e mv) (ho : SndE X [] o mo) :
  SndS X [] (.Assign [.Subscript o (.UnaryOp .USub (.Constant (.int 1) k q1) q2) p1] e pos) (zDd mv mo) := by
 intro A P s ρ st st' b hρ hA hI e0
 apply byC; intro kz; obtain ⟨v, st1, e1, ea⟩ := PM.bind_some e0; apply kz; clear kz
 apply byC; intro kz; obtain ⟨ov, st2, e2, eb⟩ := PM.bind_some ea; apply kz; clear kz
 have hi : SndE X [] (.UnaryOp .USub (.Constant (.int 1) k q1) q2) (pNeg (PM.ret (.int 1))) := zAk zF
 refine wpAny_Assign_Subscript (hv.run List.nil_prefix hA hI e1 fun rv s1 ρ1 hp1 I1 h1 => ho.run List.nil_prefix hA I1 e2 fun ro s2 ρ2 hp2 I2 h2 => hi.run (st := st2) List.nil_prefix hA I2 rfl fun ri s3 ρ3 hp3 I3 h3 => ?_) hs
 replace h1 := h1.up (hp2.trans hp3)
 replace h2 := h2.up hp3
 have hp : ρ <+: ρ3 := hp1.trans (hp2.trans hp3)
 cases ov with
 | ref l =>
  obtain ⟨xs, g, ec⟩ := zKs (F := fun xs => if 0 < xs.length then some (PF.next, ({ st2 with hp := st2.hp.set l (false, .list (xs.set (xs.length - 1) v)) } : PSt)) else none) eb
  by_cases hc : 0 < xs.length
  ·cases (if_pos hc).symm.trans ec
   cases h2 with | ref hl => ?_
   cases h3 with | int _ t => ?_
   apply byC; intro kz; obtain ⟨vs, n, g1, r1⟩ := I3.ref_at hl g; apply kz; clear kz
   refine zKr g1 (by rw [r1.length]; exact hc) fun h' n' hg hs' => ⟨ρ3, hp, ?_, .next⟩
   rw [r1.length] at hg
   exact I3.upd (tk := s3.toks) hl g hs' ⟨_, n', hg, r1.set h1 _⟩
  ·exact zC ((if_neg hc).symm.trans ec)
 | _ => exact zC eb
end
noncomputable def stAt (p : Program) (i : Nat) : Stmt := match p.main.body[i]? with | some st => st | none => .Pass ⟨0, 0, 0, 0⟩
noncomputable def dOf : Stmt → DefRec
 | .FunctionDef name params body _ _ _ scope _ _ pos => ⟨name, params, body, scope, pos⟩
 | _ => ⟨"", ⟨[], [], none, [], [], none, []⟩, [], ⟨.module, [], false, false, []⟩, ⟨0, 0, 0, 0⟩⟩
noncomputable def dAt (p : Program) (i : Nat) : DefRec := dOf (stAt p i)
noncomputable def ksOf : Stmt → List (Option Expr)
 | .Assign _ (.Dict ks _ _) _ => ks
 | _ => []
noncomputable def vsOf : Stmt → List Expr
 | .Assign _ (.Dict _ vs _) _ => vs
 | _ => []
noncomputable def zEn : Stmt → Pos × Pos × Pos
 | .Assign [.Name _ p] (.Dict _ _ q) r => (p, q, r)
 | _ => (⟨0, 0, 0, 0⟩, ⟨0, 0, 0, 0⟩, ⟨0, 0, 0, 0⟩)
noncomputable def prsOf (st : Stmt) : List (Int × Str) := (zBs (ksOf st) (vsOf st)).getD []
noncomputable def prsAt (p : Program) (i : Nat) : List (Int × Str) := prsOf (stAt p i)
noncomputable def zCA (v : Str) : Fact := fun _ _ y => ∃ t, y = .str v t
noncomputable def ascB : List (Int × Str) → Bool
 | a :: b :: r => decide (a.1 < b.1) && ascB (b :: r)
 | _ => true
theorem zGm : ∀ (l : List (Int × Str)) (a : Int × Str), ascB (a :: l) = true → ∀ x ∈ l, a.1 < x.1
 | [], _, _, x, hx => nomatch hx
 | b :: l, a, h, x, hx => by
  obtain ⟨h1, h2⟩ := Bool.and_eq_true_iff.mp h
  have h1 := of_decide_eq_true h1
  rcases List.mem_cons.mp hx with rfl | hx
  ·exact h1
  ·exact Int.lt_trans h1 (zGm l b h2 x hx)
theorem zGn : ∀ (l : List (Int × Str)), ascB l = true → (l.map (·.1)).Nodup
 | [], _ => List.nodup_nil
 | a :: l, h => by
  rw [List.map_cons, List.nodup_cons]
  refine ⟨fun hm => ?_, zGn l ?_⟩
  ·obtain ⟨x, hx, e⟩ := List.mem_map.mp hm
   exact absurd (zGm l a h x hx) (by rw [e]; exact Int.lt_irrefl _)
  ·cases l with
   | nil => rfl
   | cons b l => exact (Bool.and_eq_true_iff.mp h).2
theorem zKu {prog : Program} {w : World} {names : List Str} {ps : List Pos} {x : Str} {i : Nat}
  (hloc : prog.main.scope.names.lookup x = some .local) (hmod : prog.main.scope.kind = .module) (hnb : x ≠ "__builtins__")
  (hst : stAt prog i = .Assign [.Name x (zEn (stAt prog i)).1] (.Dict (ksOf (stAt prog i)) (vsOf (stAt prog i)) (zEn (stAt prog i)).2.1) (zEn (stAt prog i)).2.2)
  (hi : (zBs (ksOf (stAt prog i)) (vsOf (stAt prog i))).isSome = true) (hne : prsAt prog i ≠ []) (hn : ascB (prsAt prog i) = true) (hz : (prsAt prog i).length ≤ 1000) :
  OkAt prog w names ps ⟨stAt prog i, x, zBt prog w (prsAt prog i), []⟩ := by
 obtain ⟨prs, hp⟩ := Option.isSome_iff_exists.mp hi
 have e : prsAt prog i = prs := by
  show (zBs _ _).getD [] = prs
  rw [hp]; rfl
 rw [e] at hne hn hz ⊢
 rw [hst]
 exact zIp hloc hmod hnb hp hne (zGn _ hn) hz
noncomputable def d1 : DefRec := dAt PySem.Challenge.pw_st0032_03 1
theorem zKv : d1.Plain PySem.Challenge.pw_st0032_03 := ⟨fun _ => rfl, by decide +kernel, by decide +kernel, by decide +kernel, by decide +kernel⟩
noncomputable def d2 : DefRec := dAt PySem.Challenge.pw_st0032_03 2
theorem zKw : d2.Plain PySem.Challenge.pw_st0032_03 := ⟨fun _ => rfl, by decide +kernel, by decide +kernel, by decide +kernel, by decide +kernel⟩
noncomputable def d3 : DefRec := dAt PySem.Challenge.pw_st0032_03 3
theorem zKx : d3.Plain PySem.Challenge.pw_st0032_03 := ⟨fun _ => rfl, by decide +kernel, by decide +kernel, by decide +kernel, by decide +kernel⟩
noncomputable def d5 : DefRec := dAt PySem.Challenge.pw_st0032_03 5
theorem zKy : d5.Plain PySem.Challenge.pw_st0032_03 := ⟨fun _ => rfl, by decide +kernel, by decide +kernel, by decide +kernel, by decide +kernel⟩
noncomputable def d8 : DefRec := dAt PySem.Challenge.pw_st0032_03 8
theorem zKz : d8.Plain PySem.Challenge.pw_st0032_03 := ⟨fun _ => rfl, by decide +kernel, by decide +kernel, by decide +kernel, by decide +kernel⟩
noncomputable def b1n : List Int := [173, 847, 6150, 6155, 6156, 6157, 8203, 8204, 8205, 8288, 65279]
noncomputable def d11 : DefRec := dAt PySem.Challenge.pw_st0032_03 11
theorem zK0 : d11.Plain PySem.Challenge.pw_st0032_03 := ⟨fun _ => rfl, by decide +kernel, by decide +kernel, by decide +kernel, by decide +kernel⟩
noncomputable def b3 : List (Int × PySem.Str) := prsAt PySem.Challenge.pw_st0032_03 12
noncomputable def d13 : DefRec := dAt PySem.Challenge.pw_st0032_03 13
theorem zK1 : d13.Plain PySem.Challenge.pw_st0032_03 := ⟨fun _ => rfl, by decide +kernel, by decide +kernel, by decide +kernel, by decide +kernel⟩
noncomputable def d15 : DefRec := dAt PySem.Challenge.pw_st0032_03 15
theorem zK2 : d15.Plain PySem.Challenge.pw_st0032_03 := ⟨fun _ => rfl, by decide +kernel, by decide +kernel, by decide +kernel, by decide +kernel⟩
noncomputable def d16 : DefRec := dAt PySem.Challenge.pw_st0032_03 16
theorem zK3 : d16.Plain PySem.Challenge.pw_st0032_03 := ⟨fun _ => rfl, by decide +kernel, by decide +kernel, by decide +kernel, by decide +kernel⟩
noncomputable def d17 : DefRec := dAt PySem.Challenge.pw_st0032_03 17
theorem zK4 : d17.Plain PySem.Challenge.pw_st0032_03 := ⟨fun _ => rfl, by decide +kernel, by decide +kernel, by decide +kernel, by decide +kernel⟩
noncomputable def d18 : DefRec := dAt PySem.Challenge.pw_st0032_03 18
theorem zK5 : d18.Plain PySem.Challenge.pw_st0032_03 := ⟨fun _ => rfl, by decide +kernel, by decide +kernel, by decide +kernel, by decide +kernel⟩
noncomputable def d19 : DefRec := dAt PySem.Challenge.pw_st0032_03 19
theorem zK6 : d19.Plain PySem.Challenge.pw_st0032_03 := ⟨fun _ => rfl, by decide +kernel, by decide +kernel, by decide +kernel, by decide +kernel⟩
noncomputable def d20 : DefRec := dAt PySem.Challenge.pw_st0032_03 20
theorem zK7 : d20.Plain PySem.Challenge.pw_st0032_03 := ⟨fun _ => rfl, by decide +kernel, by decide +kernel, by decide +kernel, by decide +kernel⟩
noncomputable def d21 : DefRec := dAt PySem.Challenge.pw_st0032_03 21
theorem zK8 : d21.Plain PySem.Challenge.pw_st0032_03 := ⟨fun _ => rfl, by decide +kernel, by decide +kernel, by decide +kernel, by decide +kernel⟩
noncomputable def d22 : DefRec := dAt PySem.Challenge.pw_st0032_03 22
theorem zK9 : d22.Plain PySem.Challenge.pw_st0032_03 := ⟨fun _ => rfl, by decide +kernel, by decide +kernel, by decide +kernel, by decide +kernel⟩
noncomputable def d23 : DefRec := dAt PySem.Challenge.pw_st0032_03 23
theorem zLA : d23.Plain PySem.Challenge.pw_st0032_03 := ⟨fun _ => rfl, by decide +kernel, by decide +kernel, by decide +kernel, by decide +kernel⟩
noncomputable def d24 : DefRec := dAt PySem.Challenge.pw_st0032_03 24
theorem zLB : d24.Plain PySem.Challenge.pw_st0032_03 := ⟨fun _ => rfl, by decide +kernel, by decide +kernel, by decide +kernel, by decide +kernel⟩
noncomputable def rs (w : World) : List SR := [
 ⟨stAt PySem.Challenge.pw_st0032_03 0, "__name__", zCA "cpy313.email.utils", []⟩,
 ⟨d1.stmt, d1.name, zm d1, [d1.pos]⟩,
 ⟨d2.stmt, d2.name, zm d2, [d2.pos]⟩,
 ⟨d3.stmt, d3.name, zm d3, [d3.pos]⟩,
 ⟨stAt PySem.Challenge.pw_st0032_03 4, "__name__", zCA "cpy313.dis", []⟩,
 ⟨d5.stmt, d5.name, zm d5, [d5.pos]⟩,
 ⟨stAt PySem.Challenge.pw_st0032_03 6, "__name__", zCA "cpy313.doctest", []⟩,
 ⟨stAt PySem.Challenge.pw_st0032_03 7, "ELLIPSIS_MARKER", zCA "...", []⟩,
 ⟨d8.stmt, d8.name, zm d8, [d8.pos]⟩,
 ⟨stAt PySem.Challenge.pw_st0032_03 9, "__name__", zCA "cpy313.stringprep", []⟩,
 ⟨stAt PySem.Challenge.pw_st0032_03 10, "b1_set", zCS PySem.Challenge.pw_st0032_03 w (zBc b1n 65024 16), []⟩,
 ⟨d11.stmt, d11.name, zm d11, [d11.pos]⟩,
 ⟨stAt PySem.Challenge.pw_st0032_03 12, "b3_exceptions", zBt PySem.Challenge.pw_st0032_03 w b3, []⟩,
 ⟨d13.stmt, d13.name, zm d13, [d13.pos]⟩,
 ⟨stAt PySem.Challenge.pw_st0032_03 14, "__name__", zCA "law_st0032_03", []⟩,
 ⟨d15.stmt, d15.name, zm d15, [d15.pos]⟩,
 ⟨d16.stmt, d16.name, zm d16, [d16.pos]⟩,
 ⟨d17.stmt, d17.name, zm d17, [d17.pos]⟩,
 ⟨d18.stmt, d18.name, zm d18, [d18.pos]⟩,
 ⟨d19.stmt, d19.name, zm d19, [d19.pos]⟩,
 ⟨d20.stmt, d20.name, zm d20, [d20.pos]⟩,
 ⟨d21.stmt, d21.name, zm d21, [d21.pos]⟩,
 ⟨d22.stmt, d22.name, zm d22, [d22.pos]⟩,
 ⟨d23.stmt, d23.name, zm d23, [d23.pos]⟩,
 ⟨d24.stmt, d24.name, zm d24, [d24.pos]⟩]
theorem chain (w : World) : Chain PySem.Challenge.pw_st0032_03 w (rs w) [] [] := ⟨
 zBr (by decide +kernel) rfl (by decide),
 zAJ zKv rfl (by kernel_rfl),
 zAJ zKw rfl (by kernel_rfl),
 zAJ zKx rfl (by kernel_rfl),
 zBr (by decide +kernel) rfl (by decide),
 zAJ zKy rfl (by kernel_rfl),
 zBr (by decide +kernel) rfl (by decide),
 zBr (by decide +kernel) rfl (by decide),
 zAJ zKz rfl (by kernel_rfl),
 zBr (by decide +kernel) rfl (by decide),
 zIs (by decide +kernel) rfl (by decide) rfl rfl (by decide) (by decide) (by decide) (by decide) (by kernel_rfl),
 zAJ zK0 rfl (by kernel_rfl),
 zKu (i := 12) (by decide +kernel) rfl (by decide) (by kernel_rfl) (by decide +kernel) (by decide +kernel) (by decide +kernel) (by decide +kernel),
 zAJ zK1 rfl (by kernel_rfl),
 zBr (by decide +kernel) rfl (by decide),
 zAJ zK2 rfl (by kernel_rfl),
 zAJ zK3 rfl (by kernel_rfl),
 zAJ zK4 rfl (by kernel_rfl),
 zAJ zK5 rfl (by kernel_rfl),
 zAJ zK6 rfl (by kernel_rfl),
 zAJ zK7 rfl (by kernel_rfl),
 zAJ zK8 rfl (by kernel_rfl),
 zAJ zK9 rfl (by kernel_rfl),
 zAJ zLA rfl (by kernel_rfl),
 zAJ zLB rfl (by kernel_rfl), trivial⟩
set_option maxHeartbeats 4000000
theorem zLC (w : World) : (PySem.Challenge.rw_st0032_03.name, zm d24) ∈ zAb (rs w) [] := by
 exact .head _
theorem zLD (w : World) : behindTheImports PySem.Challenge.pw_st0032_03 = (rs w).map (·.st) := by kernel_rfl
theorem zLE (w : World) : (zAQ (rs w) []).all (fun x => PySem.Challenge.pw_st0032_03.boundNames.contains x && !laidNames.contains x && x != "__builtins__") = true := by kernel_rfl
theorem t1 : opensWell PySem.Challenge.pw_st0032_03 = true := by decide +kernel
theorem t2 : PySem.Challenge.pw_st0032_03.bare := ⟨rfl, rfl, rfl, rfl, rfl, by decide +kernel⟩
theorem t3 : importedModules PySem.Challenge.pw_st0032_03.main.body = [] := by decide +kernel
theorem zLF : PySem.Challenge.rw_st0032_03.wellSaid = true := by decide +kernel
theorem zLG : PySem.Challenge.rw_st0032_03.row.toRowW.promised := by
 w_on
 w_witness2
theorem zLH (call : zEE PySem.Challenge.rw_st0032_03 rs) : PySem.Challenge.rw_st0032_03.Holds :=
 holds_law zLF fun said => zIv (d := d24) said zLG t2 t1 rfl zLD rfl rfl (fun _ => rfl) chain (by rfl) (by rfl) t3 zLE zLC (by rfl) (by kernel_rfl) rfl rfl call
structure OE (X : Stat) (e : Expr) (m : PM PV) : Prop where
 h : SndE X [] e m
structure OL (X : Stat) (es : List Expr) (m : PM (List PV)) : Prop where
 h : SndL X es m
theorem OE_eq {X : Stat} {e : Expr} {m : PM PV} : SndE X [] e m = OE X e m := propext ⟨OE.mk, OE.h⟩
theorem o_bin {X : Stat} {l r : Expr} {op : Operator} {pos : Pos} {ml mr : PM PV} {f : PV → PV → PM PV} (hl : OE X l ml) (hr : OE X r mr) (hf : SndOp X (binaryOp op) f) : OE X (.BinOp l op r pos) (pBin f ml mr) := ⟨zK hl.h hr.h hf⟩
theorem o_sub {X : Stat} {a i : Expr} {pos : Pos} {ma mi : PM PV} (hs : ∀ o v, subscripted i false o v = operate [o, v] (getItem o v)) (ha : OE X a ma) (hi : OE X i mi) : OE X (.Subscript a i pos) (pBin pItem ma mi) := ⟨zAA hs ha.h hi.h⟩
theorem zGo {X : Stat} : OL X [] pNil := ⟨zR⟩
theorem zv {X : Stat} {e : Expr} {es : List Expr} {m : PM PV} {ms : PM (List PV)} (he : starEach (e :: es) X.env = (false, eval e X.env) :: starEach es X.env) (h : OE X e m) (hs : OL X es ms) : OL X (e :: es) (pCons m ms) := ⟨zL he h.h hs.h⟩
theorem zGp {X : Stat} (K : XOK X) {es : List Expr} {k : Nat} {pos : Pos} {m : PM (List PV)} (h : OL X es m) : OE X (.Tuple es k pos) (zU m) := ⟨zAc K h.h⟩
theorem zj {c : Const} {k : Nat} {p : Pos} {es : List Expr} {env : Env} : starEach (.Constant c k p :: es) env = (false, eval (.Constant c k p) env) :: starEach es env := rfl
theorem zf {x : Str} {p : Pos} {es : List Expr} {env : Env} : starEach (.Name x p :: es) env = (false, eval (.Name x p) env) :: starEach es env := rfl
structure W1 (G : Ctx) : Prop where
 gok : GOK G
 f_iter_escaped_chars : FnN G "_iter_escaped_chars" d1
 f_strip_quoted_realnames : FnN G "_strip_quoted_realnames" d2
 f_check_parenthesis : FnN G "_check_parenthesis" d3
 f_parse_varint : FnN G "_parse_varint" d5
 f_ellipsis_match : FnN G "_ellipsis_match" d8
 fin_table_b1 : FnN G "in_table_b1" d11
 fmap_table_b3 : FnN G "map_table_b3" d13
 f_law_octets : FnN G "_law_octets" d15
 f_law_unseen : FnN G "_law_unseen" d16
 f_law_spelled : FnN G "_law_spelled" d17
 f_law_prepared : FnN G "_law_prepared" d18
 f_law_ties : FnN G "_law_ties" d19
 f_law_drawn : FnN G "_law_drawn" d20
 f_law_neighbours : FnN G "_law_neighbours" d21
 f_law_cut : FnN G "_law_cut" d22
 f_law_due : FnN G "_law_due" d23
 flaw : FnN G "law" d24
 n_StopIteration : G.mg "StopIteration" = none
 n_chr : G.mg "chr" = none
 n_enumerate : G.mg "enumerate" = none
 n_iter : G.mg "iter" = none
 n_len : G.mg "len" = none
 n_list : G.mg "list" = none
 n_min : G.mg "min" = none
 n_next : G.mg "next" = none
 n_ord : G.mg "ord" = none
 n_range : G.mg "range" = none
 n_sorted : G.mg "sorted" = none
 n_sum : G.mg "sum" = none
 s_ELLIPSIS_MARKER : ∃ t, G.mg "ELLIPSIS_MARKER" = some (.str "..." t)
 t_b3_exceptions : GDict G "b3_exceptions" b3
 t_b1_set : GSet G "b1_set" (zBc b1n 65024 16)
theorem zGq : zEf d1 := ⟨by kernel_rfl, by kernel_rfl, by kernel_rfl, by kernel_rfl, fun pm code doc v => rfl, by apply zCg.mk⟩
noncomputable def zGr : PM PF :=
 (pSeq (pIf ((pBin zAK (PM.ret (.str "\"")) (pVar 0)).bind zI) (pSeq (zO (pVar 0)) (PM.ret .next)) (PM.ret .next)) (pSeq (zG 1 (PM.ret (.int 0))) (pSeq (zG 2 (PM.ret .none)) (pSeq (zG 3 (pList pNil)) (pSeq (zB7 (pVar 0) 4 5 (pSeq (pIf ((pBin pEq (pVar 5) (PM.ret (.str "\""))).bind zI) (pSeq (pIf ((pBin pIs (pVar 2) (PM.ret .none)).bind zI) (pSeq (zG 2 (pVar 4)) (PM.ret .next)) (pSeq (pIf ((pBin pNe (pVar 1) (pVar 2)).bind zI) (pSeq (pExpr (zg (pVar 3) (pSl (pVar 0) (pVar 1) (pVar 2)))) (PM.ret .next)) (PM.ret .next)) (pSeq (zG 1 (pBin pAdd (pVar 4) (PM.ret (.int 1)))) (pSeq (zG 2 (PM.ret .none)) (PM.ret .next))))) (PM.ret .next)) (PM.ret .next)) (PM.ret .next))) (pSeq (pIf ((pBin pLt (pVar 1) (pApp1 (pVar 0) pLen)).bind zI) (pSeq (pExpr (zg (pVar 3) (pSl (pVar 0) (pVar 1) (PM.ret .none)))) (PM.ret .next)) (PM.ret .next)) (pSeq (zO (pM1 (PM.ret (.str "")) (pVar 3) pJoin)) (PM.ret .next))))))))
noncomputable def zBI : List PV → PM PV := zAC 6 zGr
theorem ns2 : nsOf d2.scope = (["addr", "start", "open_pos", "result", "pos", "ch"] : List Str) := by kernel_rfl
theorem dok2 : DefOK d2 (["addr"] : List Str) := ⟨by kernel_rfl, by kernel_rfl, by kernel_rfl, by decide +kernel, ⟨_, by rw [ns2]; rfl⟩, fun pm code doc => bind1 fun a => rfl⟩
theorem zLI {X : Stat} (W : W1 X.G) (h : InF X.G d2 (2) X) : SndB X [] d2.body zGr := by
 have K := h.ok
 have n_s : X.ns = (["addr", "start", "open_pos", "result", "pos", "ch"] : List Str) := h.ns.trans ns2
 have hd : 2 ≤ X.d := Nat.le_of_eq h.d.symm
 have n_0 : X.ns[0]? = some ("addr" : Str) := by rw [n_s]; rfl
 have n_1 : X.ns[1]? = some ("start" : Str) := by rw [n_s]; rfl
 have n_2 : X.ns[2]? = some ("open_pos" : Str) := by rw [n_s]; rfl
 have n_3 : X.ns[3]? = some ("result" : Str) := by rw [n_s]; rfl
 have n_4 : X.ns[4]? = some ("pos" : Str) := by rw [n_s]; rfl
 have n_5 : X.ns[5]? = some ("ch" : Str) := by rw [n_s]; rfl
 have own : ∀ x : Str, X.env.kindOf x = some .cell → X.own = true := fun _ _ => h.own
 have hi : interactive X.env = false := by unfold interactive; rw [K.fn]; rfl
 exact (zB (zd (zY zW (zA K 0 n_0 (by decide)) zCY rfl) (zB (zb (zA K 0 n_0 (by decide))) zJ) zJ) (zB (zN K 1 n_1 (own _) rfl zF) (zB (zN K 2 n_2 (own _) rfl zDG) (zB (zN K 3 n_3 (own _) rfl (zA4 K zR)) (zB (zGb K (Nat.le_trans (by decide) hd) ((h.kind _).trans (by kernel_rfl)) W.f_iter_escaped_chars (by decide) zGq W.n_enumerate n_4 n_5 (own _) (own _) rfl (zA K 0 n_0 (by decide)) (zB (zd (zY (zA K 5 n_5 (by decide)) zW op_eq rfl) (zB (zd (zY (zA K 2 n_2 (by decide)) zDG op_is rfl) (zB (zN K 2 n_2 (own _) rfl (zA K 4 n_4 (by decide))) zJ) (zB (zd (zY (zA K 1 n_1 (by decide)) (zA K 2 n_2 (by decide)) op_ne rfl) (zB (zAp hi rfl (zA6 rfl rfl rfl (zA K 3 n_3 (by decide)) (zAR K (zA K 0 n_0 (by decide)) (zAB (zA K 1 n_1 (by decide))) (zAB (zA K 2 n_2 (by decide)))))) zJ) zJ) (zB (zN K 1 n_1 (own _) rfl (zK (zA K 4 n_4 (by decide)) zF (zS K))) (zB (zN K 2 n_2 (own _) rfl zDG) zJ)))) zJ) zJ) zJ)) (zB (zd (zY (zA K 1 n_1 (by decide)) (zq K ((h.kind _).trans (by kernel_rfl)) W.n_len (by kernel_rfl) (by decide) (by decide) rfl (zA K 0 n_0 (by decide)) b_len) op_lt rfl) (zB (zAp hi rfl (zA6 rfl rfl rfl (zA K 3 n_3 (by decide)) (zAR K (zA K 0 n_0 (by decide)) (zAB (zA K 1 n_1 (by decide))) zAX))) zJ) zJ) (zB (zb (zA5 F.slot_str_join F.type_str_join rfl rfl rfl zW (zA K 3 n_3 (by decide)) zCc)) zJ)))))))
theorem zEo {G : Ctx} (W : W1 G) : CallN G "_strip_quoted_realnames" 3 1 zBI :=
 zAu (n := 2) W.gok W.f_strip_quoted_realnames dok2 (by simp only [ns2]; rfl) rfl fun X h => by
  obtain rfl := h.g
  exact zLI W h
noncomputable def zEp : PM PF :=
 (pSeq (zG 0 (pApp 1 (pCons (pVar 0) pNil) zBI)) (pSeq (zG 1 (PM.ret (.int 0))) (pSeq (zB7 (pVar 0) 2 3 (pSeq (pIf ((pBin pEq (pVar 3) (PM.ret (.str "("))).bind zI) (pSeq (pAug 1 pIAdd (PM.ret (.int 1))) (PM.ret .next)) (pSeq (pIf ((pBin pEq (pVar 3) (PM.ret (.str ")"))).bind zI) (pSeq (pAug 1 pSub (PM.ret (.int 1))) (pSeq (pIf ((pBin pLt (pVar 1) (PM.ret (.int 0))).bind zI) (pSeq (zO (PM.ret (.bool false))) (PM.ret .next)) (PM.ret .next)) (PM.ret .next))) (PM.ret .next)) (PM.ret .next))) (PM.ret .next))) (pSeq (zO (pBin pEq (pVar 1) (PM.ret (.int 0)))) (PM.ret .next)))))
noncomputable def zBX : List PV → PM PV := zAC 4 zEp
theorem ns3 : nsOf d3.scope = (["addr", "opens", "pos", "ch"] : List Str) := by kernel_rfl
theorem dok3 : DefOK d3 (["addr"] : List Str) := ⟨by kernel_rfl, by kernel_rfl, by kernel_rfl, by decide +kernel, ⟨_, by rw [ns3]; rfl⟩, fun pm code doc => bind1 fun a => rfl⟩
theorem zLJ {X : Stat} (W : W1 X.G) (h : InF X.G d3 (3) X) : SndB X [] d3.body zEp := by
 have K := h.ok
 have n_s : X.ns = (["addr", "opens", "pos", "ch"] : List Str) := h.ns.trans ns3
 have hd : 3 ≤ X.d := Nat.le_of_eq h.d.symm
 have n_0 : X.ns[0]? = some ("addr" : Str) := by rw [n_s]; rfl
 have n_1 : X.ns[1]? = some ("opens" : Str) := by rw [n_s]; rfl
 have n_2 : X.ns[2]? = some ("pos" : Str) := by rw [n_s]; rfl
 have n_3 : X.ns[3]? = some ("ch" : Str) := by rw [n_s]; rfl
 have own : ∀ x : Str, X.env.kindOf x = some .cell → X.own = true := fun _ _ => h.own
 have hi : interactive X.env = false := by unfold interactive; rw [K.fn]; rfl
 exact (zB (zN K 0 n_0 (own _) rfl (zAF K ((h.kind _).trans (by kernel_rfl)) W.f_strip_quoted_realnames (by decide) (zEo W) (Nat.le_trans (by decide) hd) (zL zf (zA K 0 n_0 (by decide)) zR) rfl)) (zB (zN K 1 n_1 (own _) rfl zF) (zB (zGb K (Nat.le_trans (by decide) hd) ((h.kind _).trans (by kernel_rfl)) W.f_iter_escaped_chars (by decide) zGq W.n_enumerate n_2 n_3 (own _) (own _) rfl (zA K 0 n_0 (by decide)) (zB (zd (zY (zA K 3 n_3 (by decide)) zW op_eq rfl) (zB (zBx K 1 n_1 (own _) zGZ zF) zJ) (zB (zd (zY (zA K 3 n_3 (by decide)) zW op_eq rfl) (zB (zBx K 1 n_1 (own _) zFw zF) (zB (zd (zY (zA K 1 n_1 (by decide)) zF op_lt rfl) (zB (zb zAV) zJ) zJ) zJ)) zJ) zJ)) zJ)) (zB (zb (zEG (zA K 1 n_1 (by decide)) zF op_eq rfl)) zJ))))
theorem zGs {G : Ctx} (W : W1 G) : CallN G "_check_parenthesis" 4 1 zBX :=
 zAu (n := 3) W.gok W.f_check_parenthesis dok3 (by simp only [ns3]; rfl) rfl fun X h => by
  obtain rfl := h.g
  exact zLJ W h
noncomputable def zDe : PM PF :=
 (pSeq (zG 1 (pApp1 (pVar 0) pNext)) (pSeq (zG 2 (pBin zBP (pVar 1) (PM.ret (.int 63)))) (pSeq (zAW 100 ((pBin zBP (pVar 1) (PM.ret (.int 64))).bind zI) (pSeq (pAug 2 pShl (PM.ret (.int 6))) (pSeq (zG 1 (pApp1 (pVar 0) pNext)) (pSeq (pAug 2 zCU (pBin zBP (pVar 1) (PM.ret (.int 63)))) (PM.ret .next))))) (pSeq (zO (pVar 2)) (PM.ret .next)))))
noncomputable def zCk : List PV → PM PV := pCall 3 zDe
theorem ns5 : nsOf d5.scope = (["iterator", "b", "val"] : List Str) := by kernel_rfl
theorem dok5 : DefOK d5 (["iterator"] : List Str) := ⟨by kernel_rfl, by kernel_rfl, by kernel_rfl, by decide +kernel, ⟨_, by rw [ns5]; rfl⟩, fun pm code doc => bind1 fun a => rfl⟩
theorem zLK {X : Stat} (W : W1 X.G) (h : InF X.G d5 (0) X) : SndB X [] d5.body zDe := by
 have K := h.ok
 have n_s : X.ns = (["iterator", "b", "val"] : List Str) := h.ns.trans ns5
 have hd : 0 ≤ X.d := Nat.le_of_eq h.d.symm
 have n_0 : X.ns[0]? = some ("iterator" : Str) := by rw [n_s]; rfl
 have n_1 : X.ns[1]? = some ("b" : Str) := by rw [n_s]; rfl
 have n_2 : X.ns[2]? = some ("val" : Str) := by rw [n_s]; rfl
 have own : ∀ x : Str, X.env.kindOf x = some .cell → X.own = true := fun _ _ => h.own
 have hi : interactive X.env = false := by unfold interactive; rw [K.fn]; rfl
 exact (zB (zN K 1 n_1 (own _) rfl (zq K ((h.kind _).trans (by kernel_rfl)) W.n_next (by kernel_rfl) (by decide) (by decide) rfl (zA K 0 n_0 (by decide)) zGG)) (zB (zN K 2 n_2 (own _) rfl (zK (zA K 1 n_1 (by decide)) zF zEN)) (zB (zFs 100 (zA1 (fun _ => rfl) (zK (zA K 1 n_1 (by decide)) zF zEN)) (zB (zBx K 2 n_2 (own _) zI2 zF) (zB (zN K 1 n_1 (own _) rfl (zq K ((h.kind _).trans (by kernel_rfl)) W.n_next (by kernel_rfl) (by decide) (by decide) rfl (zA K 0 n_0 (by decide)) zGG)) (zB (zBx K 2 n_2 (own _) zI3 (zK (zA K 1 n_1 (by decide)) zF zEN)) zJ)))) (zB (zb (zA K 2 n_2 (by decide))) zJ))))
theorem zLL {G : Ctx} (W : W1 G) : CallN G "_parse_varint" 1 1 zCk :=
 zDa (n := 0) W.gok W.f_parse_varint dok5 (by simp only [ns5]; rfl) rfl fun X h => by
  obtain rfl := h.g
  exact zLK W h
theorem zLM : zDb d5 := ⟨_, _, _, _, _, _, _, _, _, dok5, rfl, rfl, by kernel_rfl, by rw [ns5]; rfl, by decide⟩
noncomputable def zEq : PM PF :=
 (pSeq (pIf ((pBin zAK (PM.ret (.str "...")) (pVar 0)).bind zI) (pSeq (zO (pBin pEq (pVar 0) (pVar 1))) (PM.ret .next)) (PM.ret .next)) (pSeq (zG 2 (pM1 (pVar 0) (PM.ret (.str "...")) zDS)) (pSeq (zEJ ((pBin pGe (pApp1 (pVar 2) pLen) (PM.ret (.int 2))).bind zI)) (pSeq (zEg 3 4 (zU (pCons (PM.ret (.int 0)) (pCons (pApp1 (pVar 1) pLen) pNil)))) (pSeq (zG 5 (pBin pItem (pVar 2) (PM.ret (.int 0)))) (pSeq (pIf ((pVar 5).bind zI) (pSeq (pIf ((pM1 (pVar 1) (pVar 5) zGI).bind zI) (pSeq (zG 3 (pApp1 (pVar 5) pLen)) (pSeq (pDel (pVar 2) (PM.ret (.int 0))) (PM.ret .next))) (pSeq (zO (PM.ret (.bool false))) (PM.ret .next))) (PM.ret .next)) (PM.ret .next)) (pSeq (zG 5 (pBin pItem (pVar 2) (pNeg (PM.ret (.int 1))))) (pSeq (pIf ((pVar 5).bind zI) (pSeq (pIf ((pM1 (pVar 1) (pVar 5) pEnds).bind zI) (pSeq (pAug 4 pSub (pApp1 (pVar 5) pLen)) (pSeq (pDel (pVar 2) (pNeg (PM.ret (.int 1)))) (PM.ret .next))) (pSeq (zO (PM.ret (.bool false))) (PM.ret .next))) (PM.ret .next)) (PM.ret .next)) (pSeq (pIf ((pBin pGt (pVar 3) (pVar 4)).bind zI) (pSeq (zO (PM.ret (.bool false))) (PM.ret .next)) (PM.ret .next)) (pSeq (pForE (pSrc (pVar 2)) (pSet 5) (pSeq (zG 3 (pM3 (pVar 1) (pVar 5) (pVar 3) (pVar 4) zDQ)) (pSeq (pIf ((pBin pLt (pVar 3) (PM.ret (.int 0))).bind zI) (pSeq (zO (PM.ret (.bool false))) (PM.ret .next)) (PM.ret .next)) (pSeq (pAug 3 pIAdd (pApp1 (pVar 5) pLen)) (PM.ret .next))))) (pSeq (zO (PM.ret (.bool true))) (PM.ret .next))))))))))))
noncomputable def zDf : List PV → PM PV := zAC 6 zEq
theorem ns8 : nsOf d8.scope = (["want", "got", "ws", "startpos", "endpos", "w"] : List Str) := by kernel_rfl
theorem dok8 : DefOK d8 (["want", "got"] : List Str) := ⟨by kernel_rfl, by kernel_rfl, by kernel_rfl, by decide +kernel, ⟨_, by rw [ns8]; rfl⟩, fun pm code doc => bind2 fun a b => rfl⟩
theorem zLN {X : Stat} (W : W1 X.G) (h : InF X.G d8 (0) X) : SndB X [] d8.body zEq := by
 have K := h.ok
 have n_s : X.ns = (["want", "got", "ws", "startpos", "endpos", "w"] : List Str) := h.ns.trans ns8
 have hd : 0 ≤ X.d := Nat.le_of_eq h.d.symm
 have n_0 : X.ns[0]? = some ("want" : Str) := by rw [n_s]; rfl
 have n_1 : X.ns[1]? = some ("got" : Str) := by rw [n_s]; rfl
 have n_2 : X.ns[2]? = some ("ws" : Str) := by rw [n_s]; rfl
 have n_3 : X.ns[3]? = some ("startpos" : Str) := by rw [n_s]; rfl
 have n_4 : X.ns[4]? = some ("endpos" : Str) := by rw [n_s]; rfl
 have n_5 : X.ns[5]? = some ("w" : Str) := by rw [n_s]; rfl
 have own : ∀ x : Str, X.env.kindOf x = some .cell → X.own = true := fun _ _ => h.own
 have hi : interactive X.env = false := by unfold interactive; rw [K.fn]; rfl
 exact (zB (zd (zY (by obtain ⟨t, ht⟩ := W.s_ELLIPSIS_MARKER; exact zGA K ((h.kind _).trans (by kernel_rfl)) ht (by decide)) (zA K 0 n_0 (by decide)) zCY rfl) (zB (zb (zEG (zA K 0 n_0 (by decide)) (zA K 1 n_1 (by decide)) op_eq rfl)) zJ) zJ) (zB (zN K 2 n_2 (own _) rfl (zA5 F.slot_str_split F.type_str_split rfl rfl rfl (zA K 0 n_0 (by decide)) (by obtain ⟨t, ht⟩ := W.s_ELLIPSIS_MARKER; exact zGA K ((h.kind _).trans (by kernel_rfl)) ht (by decide)) (zJc K))) (zB (zI1 (zY (zq K ((h.kind _).trans (by kernel_rfl)) W.n_len (by kernel_rfl) (by decide) (by decide) rfl (zA K 2 n_2 (by decide)) b_len) zF op_ge rfl)) (zB (zJ4 K n_3 n_4 (own _) (own _) rfl (zJ6 h (by kernel_rfl) (by kernel_rfl) (by kernel_rfl) (by kernel_rfl)) (zAc K (zL zj zF (zL rfl (zq K ((h.kind _).trans (by kernel_rfl)) W.n_len (by kernel_rfl) (by decide) (by decide) rfl (zA K 1 n_1 (by decide)) b_len) zR)))) (zB (zN K 5 n_5 (own _) rfl (zAA (fun _ _ => rfl) (zA K 2 n_2 (by decide)) zF)) (zB (zd (zA1 (fun _ => rfl) (zA K 5 n_5 (by decide))) (zB (zd (zA1 (fun _ => rfl) (zA5 F.slot_str_startswith F.type_str_startswith rfl rfl rfl (zA K 1 n_1 (by decide)) (zA K 5 n_5 (by decide)) zJW)) (zB (zN K 3 n_3 (own _) rfl (zq K ((h.kind _).trans (by kernel_rfl)) W.n_len (by kernel_rfl) (by decide) (by decide) rfl (zA K 5 n_5 (by decide)) b_len)) (zB (zF5 (zA K 2 n_2 (by decide)) zF) zJ)) (zB (zb zAV) zJ)) zJ) zJ) (zB (zN K 5 n_5 (own _) rfl (zAA (fun _ _ => rfl) (zA K 2 n_2 (by decide)) (zAk zF))) (zB (zd (zA1 (fun _ => rfl) (zA K 5 n_5 (by decide))) (zB (zd (zA1 (fun _ => rfl) (zA5 F.slot_str_endswith F.type_str_endswith rfl rfl rfl (zA K 1 n_1 (by decide)) (zA K 5 n_5 (by decide)) zJX)) (zB (zBx K 4 n_4 (own _) zFw (zq K ((h.kind _).trans (by kernel_rfl)) W.n_len (by kernel_rfl) (by decide) (by decide) rfl (zA K 5 n_5 (by decide)) b_len)) (zB (zF5 (zA K 2 n_2 (by decide)) (zAk zF)) zJ)) (zB (zb zAV) zJ)) zJ) zJ) (zB (zd (zY (zA K 3 n_3 (by decide)) (zA K 4 n_4 (by decide)) op_gt rfl) (zB (zb zAV) zJ) zJ) (zB (zBS K 5 n_5 (own _) (fun _ => rfl) (zAs K (zA K 2 n_2 (by decide))) (zB (zN K 3 n_3 (own _) rfl (zJV F.slot_str_find F.type_str_find rfl rfl rfl (zA K 1 n_1 (by decide)) (zA K 5 n_5 (by decide)) (zA K 3 n_3 (by decide)) (zA K 4 n_4 (by decide)) zJa)) (zB (zd (zY (zA K 3 n_3 (by decide)) zF op_lt rfl) (zB (zb zAV) zJ) zJ) (zB (zBx K 3 n_3 (own _) zGZ (zq K ((h.kind _).trans (by kernel_rfl)) W.n_len (by kernel_rfl) (by decide) (by decide) rfl (zA K 5 n_5 (by decide)) b_len)) zJ)))) (zB (zb zAV) zJ)))))))))))
theorem zLO {G : Ctx} (W : W1 G) : CallN G "_ellipsis_match" 1 2 zDf :=
 zAu (n := 0) W.gok W.f_ellipsis_match dok8 (by simp only [ns8]; rfl) rfl fun X h => by
  obtain rfl := h.g
  exact zLN W h
noncomputable def zGt : PM PF :=
 (pSeq (zO (zEa (zBc b1n 65024 16) (pApp1 (pVar 0) pOrd))) (PM.ret .next))
noncomputable def zCl : List PV → PM PV := zAC 1 zGt
theorem ns11 : nsOf d11.scope = (["code"] : List Str) := by kernel_rfl
theorem dok11 : DefOK d11 (["code"] : List Str) := ⟨by kernel_rfl, by kernel_rfl, by kernel_rfl, by decide +kernel, ⟨_, by rw [ns11]; rfl⟩, fun pm code doc => bind1 fun a => rfl⟩
theorem zLP {X : Stat} (W : W1 X.G) (h : InF X.G d11 (0) X) : SndB X [] d11.body zGt := by
 have K := h.ok
 have n_s : X.ns = (["code"] : List Str) := h.ns.trans ns11
 have hd : 0 ≤ X.d := Nat.le_of_eq h.d.symm
 have n_0 : X.ns[0]? = some ("code" : Str) := by rw [n_s]; rfl
 have own : ∀ x : Str, X.env.kindOf x = some .cell → X.own = true := fun _ _ => h.own
 have hi : interactive X.env = false := by unfold interactive; rw [K.fn]; rfl
 exact (zB (zb (zJg K ((h.kind _).trans (by kernel_rfl)) W.t_b1_set (by decide) (zq K ((h.kind _).trans (by kernel_rfl)) W.n_ord (by kernel_rfl) (by decide) (by decide) rfl (zA K 0 n_0 (by decide)) b_ord))) zJ)
theorem zLQ {G : Ctx} (W : W1 G) : CallN G "in_table_b1" 1 1 zCl :=
 zAu (n := 0) W.gok W.fin_table_b1 dok11 (by simp only [ns11]; rfl) rfl fun X h => by
  obtain rfl := h.g
  exact zLP W h
noncomputable def zGu : PM PF :=
 (pSeq (zG 1 (pTab b3 (pApp1 (pVar 0) pOrd))) (pSeq (pIf ((pBin zBy (pVar 1) (PM.ret .none)).bind zI) (pSeq (zO (pVar 1)) (PM.ret .next)) (PM.ret .next)) (pSeq (zO (pM0 (pVar 0) zDR)) (PM.ret .next))))
noncomputable def zDg : List PV → PM PV := zAC 2 zGu
theorem ns13 : nsOf d13.scope = (["code", "r"] : List Str) := by kernel_rfl
theorem dok13 : DefOK d13 (["code"] : List Str) := ⟨by kernel_rfl, by kernel_rfl, by kernel_rfl, by decide +kernel, ⟨_, by rw [ns13]; rfl⟩, fun pm code doc => bind1 fun a => rfl⟩
theorem zLR {X : Stat} (W : W1 X.G) (h : InF X.G d13 (0) X) : SndB X [] d13.body zGu := by
 have K := h.ok
 have n_s : X.ns = (["code", "r"] : List Str) := h.ns.trans ns13
 have hd : 0 ≤ X.d := Nat.le_of_eq h.d.symm
 have n_0 : X.ns[0]? = some ("code" : Str) := by rw [n_s]; rfl
 have n_1 : X.ns[1]? = some ("r" : Str) := by rw [n_s]; rfl
 have own : ∀ x : Str, X.env.kindOf x = some .cell → X.own = true := fun _ _ => h.own
 have hi : interactive X.env = false := by unfold interactive; rw [K.fn]; rfl
 exact (zB (zN K 1 n_1 (own _) rfl (zJf K ((h.kind _).trans (by kernel_rfl)) W.t_b3_exceptions (by decide) rfl rfl rfl (zq K ((h.kind _).trans (by kernel_rfl)) W.n_ord (by kernel_rfl) (by decide) (by decide) rfl (zA K 0 n_0 (by decide)) b_ord))) (zB (zd (zY (zA K 1 n_1 (by decide)) zDG zFx rfl) (zB (zb (zA K 1 n_1 (by decide))) zJ) zJ) (zB (zb (zJU F.slot_str_lower F.type_str_lower rfl rfl (zA K 0 n_0 (by decide)) zJb)) zJ)))
theorem zLS {G : Ctx} (W : W1 G) : CallN G "map_table_b3" 1 1 zDg :=
 zAu (n := 0) W.gok W.fmap_table_b3 dok13 (by simp only [ns13]; rfl) rfl fun X h => by
  obtain rfl := h.g
  exact zLR W h
noncomputable def zGv : PM PF :=
 (pSeq (zG 1 (pList (pCons (pBin pMod (pVar 0) (PM.ret (.int 64))) pNil))) (pSeq (zG 2 (pBin pDiv (pVar 0) (PM.ret (.int 64)))) (pSeq (zAW 100 ((pBin pGt (pVar 2) (PM.ret (.int 0))).bind zI) (pSeq (pExpr (zg (pVar 1) (pBin pAdd (PM.ret (.int 64)) (pBin pMod (pVar 2) (PM.ret (.int 64)))))) (pSeq (zG 2 (pBin pDiv (pVar 2) (PM.ret (.int 64)))) (PM.ret .next)))) (pSeq (zDd (pBin pAdd (pBin pItem (pVar 1) (pNeg (PM.ret (.int 1)))) (pBin pMul (PM.ret (.int 128)) (pBin pMod (pVar 0) (PM.ret (.int 2))))) (pVar 1)) (pSeq (zO (pSl3 (pVar 1) (PM.ret .none) (PM.ret .none) (pNeg (PM.ret (.int 1))))) (PM.ret .next))))))
noncomputable def zDh : List PV → PM PV := zAC 3 zGv
theorem ns15 : nsOf d15.scope = (["number", "octets", "rest"] : List Str) := by kernel_rfl
theorem dok15 : DefOK d15 (["number"] : List Str) := ⟨by kernel_rfl, by kernel_rfl, by kernel_rfl, by decide +kernel, ⟨_, by rw [ns15]; rfl⟩, fun pm code doc => bind1 fun a => rfl⟩
theorem zLT {X : Stat} (W : W1 X.G) (h : InF X.G d15 (0) X) : SndB X [] d15.body zGv := by
 have K := h.ok
 have n_s : X.ns = (["number", "octets", "rest"] : List Str) := h.ns.trans ns15
 have hd : 0 ≤ X.d := Nat.le_of_eq h.d.symm
 have n_0 : X.ns[0]? = some ("number" : Str) := by rw [n_s]; rfl
 have n_1 : X.ns[1]? = some ("octets" : Str) := by rw [n_s]; rfl
 have n_2 : X.ns[2]? = some ("rest" : Str) := by rw [n_s]; rfl
 have own : ∀ x : Str, X.env.kindOf x = some .cell → X.own = true := fun _ _ => h.own
 have hi : interactive X.env = false := by unfold interactive; rw [K.fn]; rfl
 exact (zB (zN K 1 n_1 (own _) rfl (zA4 K (zL rfl (zK (zA K 0 n_0 (by decide)) zF zA3) zR))) (zB (zN K 2 n_2 (own _) rfl (zK (zA K 0 n_0 (by decide)) zF zCW)) (zB (zFs 100 (zY (zA K 2 n_2 (by decide)) zF op_gt rfl) (zB (zAp hi rfl (zA6 rfl rfl rfl (zA K 1 n_1 (by decide)) (zK zF (zK (zA K 2 n_2 (by decide)) zF zA3) (zS K)))) (zB (zN K 2 n_2 (own _) rfl (zK (zA K 2 n_2 (by decide)) zF zCW)) zJ))) (zB (zKt rfl (zK (zAA (fun _ _ => rfl) (zA K 1 n_1 (by decide)) (zAk zF)) (zK zF (zK (zA K 0 n_0 (by decide)) zF zA3) zEL) (zS K)) (zA K 1 n_1 (by decide))) (zB (zb (zGc K (zA K 1 n_1 (by decide)) zAX zAX (zAk zF))) zJ)))))
theorem zLU {G : Ctx} (W : W1 G) : CallN G "_law_octets" 1 1 zDh :=
 zAu (n := 0) W.gok W.f_law_octets dok15 (by simp only [ns15]; rfl) rfl fun X h => by
  obtain rfl := h.g
  exact zLT W h
noncomputable def zGw : PM PF :=
 (pSeq (zG 1 (pBin pMod (pVar 0) (PM.ret (.int 27)))) (pSeq (pIf ((pBin pLt (pVar 1) (PM.ret (.int 11))).bind zI) (pSeq (zO (pApp1 (pBin pItem (zU (pCons (PM.ret (.int 173)) (pCons (PM.ret (.int 847)) (pCons (PM.ret (.int 6150)) (pCons (PM.ret (.int 6155)) (pCons (PM.ret (.int 6156)) (pCons (PM.ret (.int 6157)) (pCons (PM.ret (.int 8203)) (pCons (PM.ret (.int 8204)) (pCons (PM.ret (.int 8205)) (pCons (PM.ret (.int 8288)) (pCons (PM.ret (.int 65279)) pNil)))))))))))) (pVar 1)) pChr)) (PM.ret .next)) (PM.ret .next)) (pSeq (zO (pApp1 (pBin pAdd (PM.ret (.int 65013)) (pVar 1)) pChr)) (PM.ret .next))))
noncomputable def zDi : List PV → PM PV := zAC 2 zGw
theorem ns16 : nsOf d16.scope = (["number", "k"] : List Str) := by kernel_rfl
theorem dok16 : DefOK d16 (["number"] : List Str) := ⟨by kernel_rfl, by kernel_rfl, by kernel_rfl, by decide +kernel, ⟨_, by rw [ns16]; rfl⟩, fun pm code doc => bind1 fun a => rfl⟩
theorem zLV {X : Stat} (W : W1 X.G) (h : InF X.G d16 (0) X) : SndB X [] d16.body zGw := by
 have K := h.ok
 have n_s : X.ns = (["number", "k"] : List Str) := h.ns.trans ns16
 have hd : 0 ≤ X.d := Nat.le_of_eq h.d.symm
 have n_0 : X.ns[0]? = some ("number" : Str) := by rw [n_s]; rfl
 have n_1 : X.ns[1]? = some ("k" : Str) := by rw [n_s]; rfl
 have own : ∀ x : Str, X.env.kindOf x = some .cell → X.own = true := fun _ _ => h.own
 have hi : interactive X.env = false := by unfold interactive; rw [K.fn]; rfl
 exact (zB (zN K 1 n_1 (own _) rfl (zK (zA K 0 n_0 (by decide)) zF zA3)) (zB (zd (zY (zA K 1 n_1 (by decide)) zF op_lt rfl) (zB (zb (zq K ((h.kind _).trans (by kernel_rfl)) W.n_chr (by kernel_rfl) (by decide) (by decide) rfl (by rw [OE_eq]; exact (o_sub (fun _ _ => rfl) (zGp K (zv zj (OE.mk zF) (zv zj (OE.mk zF) (zv zj (OE.mk zF) (zv zj (OE.mk zF) (zv zj (OE.mk zF) (zv zj (OE.mk zF) (zv zj (OE.mk zF) (zv zj (OE.mk zF) (zv zj (OE.mk zF) (zv zj (OE.mk zF) (zv zj (OE.mk zF) zGo)))))))))))) (OE.mk (zA K 1 n_1 (by decide))))) b_chr)) zJ) zJ) (zB (zb (zq K ((h.kind _).trans (by kernel_rfl)) W.n_chr (by kernel_rfl) (by decide) (by decide) rfl (zK zF (zA K 1 n_1 (by decide)) (zS K)) b_chr)) zJ)))
theorem zLW {G : Ctx} (W : W1 G) : CallN G "_law_unseen" 1 1 zDi :=
 zAu (n := 0) W.gok W.f_law_unseen dok16 (by simp only [ns16]; rfl) rfl fun X h => by
  obtain rfl := h.g
  exact zLV W h
noncomputable def zGx : PM PF :=
 (pSeq (zG 2 (pBin pMod (pVar 1) (PM.ret (.int 12)))) (pSeq (pIf ((pBin pEq (pVar 2) (PM.ret (.int 0))).bind zI) (pSeq (zO (pApp1 (pBin pAdd (PM.ret (.int 97)) (pVar 0)) pChr)) (PM.ret .next)) (PM.ret .next)) (pSeq (pIf ((pBin pEq (pVar 2) (PM.ret (.int 1))).bind zI) (pSeq (zO (pApp1 (pBin pAdd (PM.ret (.int 65)) (pVar 0)) pChr)) (PM.ret .next)) (PM.ret .next)) (pSeq (zO (pApp1 (pBin pAdd (pBin pAdd (PM.ret (.int 119808)) (pBin pMul (PM.ret (.int 52)) (pBin pItem (zU (pCons (PM.ret (.int 0)) (pCons (PM.ret (.int 1)) (pCons (PM.ret (.int 2)) (pCons (PM.ret (.int 4)) (pCons (PM.ret (.int 7)) (pCons (PM.ret (.int 8)) (pCons (PM.ret (.int 9)) (pCons (PM.ret (.int 10)) (pCons (PM.ret (.int 11)) (pCons (PM.ret (.int 12)) pNil))))))))))) (pBin pSub (pVar 2) (PM.ret (.int 2)))))) (pVar 0)) pChr)) (PM.ret .next)))))
noncomputable def zDj : List PV → PM PV := zAC 3 zGx
theorem ns17 : nsOf d17.scope = (["place", "number", "k"] : List Str) := by kernel_rfl
theorem dok17 : DefOK d17 (["place", "number"] : List Str) := ⟨by kernel_rfl, by kernel_rfl, by kernel_rfl, by decide +kernel, ⟨_, by rw [ns17]; rfl⟩, fun pm code doc => bind2 fun a b => rfl⟩
theorem zLX {X : Stat} (W : W1 X.G) (h : InF X.G d17 (0) X) : SndB X [] d17.body zGx := by
 have K := h.ok
 have n_s : X.ns = (["place", "number", "k"] : List Str) := h.ns.trans ns17
 have hd : 0 ≤ X.d := Nat.le_of_eq h.d.symm
 have n_0 : X.ns[0]? = some ("place" : Str) := by rw [n_s]; rfl
 have n_1 : X.ns[1]? = some ("number" : Str) := by rw [n_s]; rfl
 have n_2 : X.ns[2]? = some ("k" : Str) := by rw [n_s]; rfl
 have own : ∀ x : Str, X.env.kindOf x = some .cell → X.own = true := fun _ _ => h.own
 have hi : interactive X.env = false := by unfold interactive; rw [K.fn]; rfl
 exact (zB (zN K 2 n_2 (own _) rfl (zK (zA K 1 n_1 (by decide)) zF zA3)) (zB (zd (zY (zA K 2 n_2 (by decide)) zF op_eq rfl) (zB (zb (zq K ((h.kind _).trans (by kernel_rfl)) W.n_chr (by kernel_rfl) (by decide) (by decide) rfl (zK zF (zA K 0 n_0 (by decide)) (zS K)) b_chr)) zJ) zJ) (zB (zd (zY (zA K 2 n_2 (by decide)) zF op_eq rfl) (zB (zb (zq K ((h.kind _).trans (by kernel_rfl)) W.n_chr (by kernel_rfl) (by decide) (by decide) rfl (zK zF (zA K 0 n_0 (by decide)) (zS K)) b_chr)) zJ) zJ) (zB (zb (zq K ((h.kind _).trans (by kernel_rfl)) W.n_chr (by kernel_rfl) (by decide) (by decide) rfl (by rw [OE_eq]; exact (o_bin (o_bin (OE.mk zF) (o_bin (OE.mk zF) (o_sub (fun _ _ => rfl) (zGp K (zv zj (OE.mk zF) (zv zj (OE.mk zF) (zv zj (OE.mk zF) (zv zj (OE.mk zF) (zv zj (OE.mk zF) (zv zj (OE.mk zF) (zv zj (OE.mk zF) (zv zj (OE.mk zF) (zv zj (OE.mk zF) (zv zj (OE.mk zF) zGo))))))))))) (o_bin (OE.mk (zA K 2 n_2 (by decide))) (OE.mk zF) zBD)) zEL) (zS K)) (OE.mk (zA K 0 n_0 (by decide))) (zS K))) b_chr)) zJ))))
theorem zLY {G : Ctx} (W : W1 G) : CallN G "_law_spelled" 1 2 zDj :=
 zAu (n := 0) W.gok W.f_law_spelled dok17 (by simp only [ns17]; rfl) rfl fun X h => by
  obtain rfl := h.g
  exact zLX W h
noncomputable def zGy : PM PF :=
 (pSeq (zO (pM1 (PM.ret (.str "")) (pComp 1 [] (pSrc (pVar 0)) (pSet 0) (pNot ((pApp 1 (pCons (pVar 0) pNil) zCl).bind zI)) (pApp 1 (pCons (pVar 0) pNil) zDg)) pJoin)) (PM.ret .next))
noncomputable def zDk : List PV → PM PV := zAC 1 zGy
theorem ns18 : nsOf d18.scope = (["text"] : List Str) := by kernel_rfl
theorem dok18 : DefOK d18 (["text"] : List Str) := ⟨by kernel_rfl, by kernel_rfl, by kernel_rfl, by decide +kernel, ⟨_, by rw [ns18]; rfl⟩, fun pm code doc => bind1 fun a => rfl⟩
theorem zLZ {X : Stat} (W : W1 X.G) (h : InF X.G d18 (1) X) : SndB X [] d18.body zGy := by
 have K := h.ok
 have n_s : X.ns = (["text"] : List Str) := h.ns.trans ns18
 have hd : 1 ≤ X.d := Nat.le_of_eq h.d.symm
 have n_0 : X.ns[0]? = some ("text" : Str) := by rw [n_s]; rfl
 have own : ∀ x : Str, X.env.kindOf x = some .cell → X.own = true := fun _ _ => h.own
 have hi : interactive X.env = false := by unfold interactive; rw [K.fn]; rfl
 exact (zB (zb (zA5 F.slot_str_join F.type_str_join rfl rfl rfl zW (zDX K (caps := []) (zBG h n_s (by kernel_rfl) (by decide +kernel) (by kernel_rfl) (by kernel_rfl) (by kernel_rfl)) rfl (fun _ => rfl) (zAs K (zA K 0 n_0 (by decide))) (fun _ _ => rfl) (fun X2 h2 => have K2 := h2.ok; have W2 : W1 X2.G := h2.g.symm ▸ W; have hd2 := Nat.le_trans hd (Nat.le_of_eq h2.d.symm); have n2_s : X2.ns = (["sign"] : List Str) := h2.ns.trans (by kernel_rfl); have n2_0 : X2.ns[0]? = some ("sign" : Str) := (by rw [n2_s]; rfl); zBR K2 0 n2_0 (fun q => (nomatch (h2.loc (by kernel_rfl)).symm.trans q))) (fun X2 h2 => have K2 := h2.ok; have W2 : W1 X2.G := h2.g.symm ▸ W; have hd2 := Nat.le_trans hd (Nat.le_of_eq h2.d.symm); have n2_s : X2.ns = (["sign"] : List Str) := h2.ns.trans (by kernel_rfl); have n2_0 : X2.ns[0]? = some ("sign" : Str) := (by rw [n2_s]; rfl); zCf (zI0 (zA1 (fun _ => rfl) (zAF K2 (h2.glob (by kernel_rfl)) W2.fin_table_b1 (by decide) (zLQ W2) (Nat.le_trans (by decide) hd2) (zL zf (zA K2 0 n2_0 (by decide)) zR) rfl)))) (fun X2 h2 => have K2 := h2.ok; have W2 : W1 X2.G := h2.g.symm ▸ W; have hd2 := Nat.le_trans hd (Nat.le_of_eq h2.d.symm); have n2_s : X2.ns = (["sign"] : List Str) := h2.ns.trans (by kernel_rfl); have n2_0 : X2.ns[0]? = some ("sign" : Str) := (by rw [n2_s]; rfl); (zAF K2 (h2.glob (by kernel_rfl)) W2.fmap_table_b3 (by decide) (zLS W2) (Nat.le_trans (by decide) hd2) (zL zf (zA K2 0 n2_0 (by decide)) zR) rfl))) zCc)) zJ)
theorem zLa {G : Ctx} (W : W1 G) : CallN G "_law_prepared" 2 1 zDk :=
 zAu (n := 1) W.gok W.f_law_prepared dok18 (by simp only [ns18]; rfl) rfl fun X h => by
  obtain rfl := h.g
  exact zLZ W h
noncomputable def zEr : PM PF :=
 (pSeq (zG 2 (zCi (pVar 1))) (pSeq (zG 3 (pList pNil)) (pSeq (pForE (zAY (pBin pSub (pVar 1) (PM.ret (.int 2)))) (pSet 4) (pSeq (zG 5 (pApp1 (pComp 1 [4, 0] (pSrc (pVar 2)) (pSet 0) ((pBin zAK (pVar 0) (pSl (pVar 2) (pVar 1) (PM.ret .none))).bind zI) (pVar 0)) pMin)) (pSeq (pExpr (zg (pVar 3) (zU (pCons (pVar 5) (pCons (pBin pItem (pVar 0) (pVar 4)) pNil))))) (pSeq (pExpr (zBh (pVar 2) (pVar 5))) (PM.ret .next))))) (pSeq (pExpr (zg (pVar 3) (zU (pCons (pBin pItem (pVar 2) (PM.ret (.int 0))) (pCons (pBin pItem (pVar 2) (PM.ret (.int 1))) pNil))))) (pSeq (zO (pVar 3)) (PM.ret .next))))))
noncomputable def zCB : List PV → PM PV := pCall 6 zEr
theorem ns19 : nsOf d19.scope = (["row", "size", "rest", "ties", "k", "least"] : List Str) := by kernel_rfl
theorem dok19 : DefOK d19 (["row", "size"] : List Str) := ⟨by kernel_rfl, by kernel_rfl, by kernel_rfl, by decide +kernel, ⟨_, by rw [ns19]; rfl⟩, fun pm code doc => bind2 fun a b => rfl⟩
theorem zLb {X : Stat} (W : W1 X.G) (h : InF X.G d19 (0) X) : SndB X [] d19.body zEr := by
 have K := h.ok
 have n_s : X.ns = (["row", "size", "rest", "ties", "k", "least"] : List Str) := h.ns.trans ns19
 have hd : 0 ≤ X.d := Nat.le_of_eq h.d.symm
 have n_0 : X.ns[0]? = some ("row" : Str) := by rw [n_s]; rfl
 have n_1 : X.ns[1]? = some ("size" : Str) := by rw [n_s]; rfl
 have n_2 : X.ns[2]? = some ("rest" : Str) := by rw [n_s]; rfl
 have n_3 : X.ns[3]? = some ("ties" : Str) := by rw [n_s]; rfl
 have n_4 : X.ns[4]? = some ("k" : Str) := by rw [n_s]; rfl
 have n_5 : X.ns[5]? = some ("least" : Str) := by rw [n_s]; rfl
 have own : ∀ x : Str, X.env.kindOf x = some .cell → X.own = true := fun _ _ => h.own
 have hi : interactive X.env = false := by unfold interactive; rw [K.fn]; rfl
 exact (zB (zN K 2 n_2 (own _) rfl (zKf K ((h.kind _).trans (by kernel_rfl)) W.n_list ((h.kind _).trans (by kernel_rfl)) W.n_range rfl (zA K 1 n_1 (by decide)))) (zB (zN K 3 n_3 (own _) rfl (zA4 K zR)) (zB (zBS K 4 n_4 (own _) (fun _ => rfl) (zDU K ((h.kind _).trans (by kernel_rfl)) W.n_range rfl (zK (zA K 1 n_1 (by decide)) zF zBD)) (zB (zN K 5 n_5 (own _) rfl (zq K ((h.kind _).trans (by kernel_rfl)) W.n_min (by kernel_rfl) (by decide) (by decide) rfl (zDX K (caps := [4, 0]) (zBG h n_s (by kernel_rfl) (by decide +kernel) (by kernel_rfl) (by kernel_rfl) (by kernel_rfl)) rfl (fun _ => rfl) (zAs K (zA K 2 n_2 (by decide))) (fun _ _ => rfl) (fun X2 h2 => have K2 := h2.ok; have W2 : W1 X2.G := h2.g.symm ▸ W; have hd2 := Nat.le_trans hd (Nat.le_of_eq h2.d.symm); have n2_s : X2.ns = (["node", "k", "row"] : List Str) := h2.ns.trans (by kernel_rfl); have n2_0 : X2.ns[0]? = some ("node" : Str) := (by rw [n2_s]; rfl); have n2_1 : X2.ns[1]? = some ("k" : Str) := (by rw [n2_s]; rfl); have n2_2 : X2.ns[2]? = some ("row" : Str) := (by rw [n2_s]; rfl); zBR K2 0 n2_0 (fun q => (nomatch (h2.loc (by kernel_rfl)).symm.trans q))) (fun X2 h2 => have K2 := h2.ok; have W2 : W1 X2.G := h2.g.symm ▸ W; have hd2 := Nat.le_trans hd (Nat.le_of_eq h2.d.symm); have n2_s : X2.ns = (["node", "k", "row"] : List Str) := h2.ns.trans (by kernel_rfl); have n2_0 : X2.ns[0]? = some ("node" : Str) := (by rw [n2_s]; rfl); have n2_1 : X2.ns[1]? = some ("k" : Str) := (by rw [n2_s]; rfl); have n2_2 : X2.ns[2]? = some ("row" : Str) := (by rw [n2_s]; rfl); zCf (zY (zA K2 0 n2_0 (by decide)) (zAR K2 (zA K2 2 n2_2 (by decide)) (zAB (zA K2 1 n2_1 (by decide))) zAX) zCY rfl)) (fun X2 h2 => have K2 := h2.ok; have W2 : W1 X2.G := h2.g.symm ▸ W; have hd2 := Nat.le_trans hd (Nat.le_of_eq h2.d.symm); have n2_s : X2.ns = (["node", "k", "row"] : List Str) := h2.ns.trans (by kernel_rfl); have n2_0 : X2.ns[0]? = some ("node" : Str) := (by rw [n2_s]; rfl); have n2_1 : X2.ns[1]? = some ("k" : Str) := (by rw [n2_s]; rfl); have n2_2 : X2.ns[2]? = some ("row" : Str) := (by rw [n2_s]; rfl); (zA K2 0 n2_0 (by decide)))) b_min)) (zB (zAp hi rfl (zA6 rfl rfl rfl (zA K 3 n_3 (by decide)) (zAc K (zL zf (zA K 5 n_5 (by decide)) (zL rfl (zAA (fun _ _ => rfl) (zA K 0 n_0 (by decide)) (zA K 4 n_4 (by decide))) zR))))) (zB (zAp hi rfl (zKk rfl rfl rfl (zA K 2 n_2 (by decide)) (zA K 5 n_5 (by decide)))) zJ)))) (zB (zAp hi rfl (zA6 rfl rfl rfl (zA K 3 n_3 (by decide)) (zAc K (zL rfl (zAA (fun _ _ => rfl) (zA K 2 n_2 (by decide)) zF) (zL rfl (zAA (fun _ _ => rfl) (zA K 2 n_2 (by decide)) zF) zR))))) (zB (zb (zA K 3 n_3 (by decide))) zJ)))))
theorem zLc {G : Ctx} (W : W1 G) : CallN G "_law_ties" 1 2 zCB :=
 zDa (n := 0) W.gok W.f_law_ties dok19 (by simp only [ns19]; rfl) rfl fun X h => by
  obtain rfl := h.g
  exact zLb W h
noncomputable def zEs (rec : List PV → PM PV) : PM PF :=
 (pSeq (zG 5 (pApp1 (pBin pAdd (zBH 2 [1, 0] (pSrcP (pVar 2)) (pSet2 0 1) (pAnd ((pBin pEq (pVar 0) (pVar 3)).bind zI) (pAnd ((pBin pNe (pVar 1) (pVar 2)).bind zI) (PM.ret true))) (pVar 1)) (zBH 2 [1, 0] (pSrcP (pVar 2)) (pSet2 0 1) (pAnd ((pBin pEq (pVar 1) (pVar 3)).bind zI) (pAnd ((pBin pNe (pVar 0) (pVar 2)).bind zI) (PM.ret true))) (pVar 0))) zCh)) (pSeq (pIf ((pVar 3).bind zI) (pSeq (zG 5 (pSl3 (pVar 5) (PM.ret .none) (PM.ret .none) (pNeg (PM.ret (.int 1))))) (PM.ret .next)) (PM.ret .next)) (pSeq (zG 6 (pBin pDiv (pVar 4) (pBin pPow (PM.ret (.int 12)) (pVar 0)))) (pSeq (zG 7 (pComp 1 [0, 4, 2, 3] (pSrc (pVar 5)) (pSet 0) (PM.ret true) (pApp 5 (pCons (pVar 0) (pCons (pVar 1) (pCons (pVar 3) (pCons (pVar 4) (pCons (pVar 2) pNil))))) rec))) (pSeq (zO (pBin pAdd (pBin pAdd (pBin pAdd (pBin pAdd (PM.ret (.str "(")) (pApp 2 (pCons (pVar 0) (pCons (pVar 6) pNil)) zDj)) (pApp 1 (pCons (pVar 6) pNil) zDi)) (pM1 (PM.ret (.str "")) (pVar 7) pJoin)) (PM.ret (.str ")")))) (PM.ret .next))))))
noncomputable def zBi : Nat → List PV → PM PV
 | 0 => fun _ _ => none
 | k + 1 => zAC 8 (zEs (zBi k))
theorem ns20 : nsOf d20.scope = (["node", "behind", "ties", "turned", "number", "nexts", "own", "parts"] : List Str) := by kernel_rfl
theorem dok20 : DefOK d20 (["node", "behind", "ties", "turned", "number"] : List Str) := ⟨by kernel_rfl, by kernel_rfl, by kernel_rfl, by decide +kernel, ⟨_, by rw [ns20]; rfl⟩, fun pm code doc => bind5 fun a b c d e => rfl⟩
theorem zLd {X : Stat} (W : W1 X.G) {k : Nat} {rec : List PV → PM PV} (C : CallN X.G "_law_drawn" (k + 1) 5 rec) (h : InF X.G d20 (k + 1) X) : SndB X [] d20.body (zEs rec) := by
 have K := h.ok
 have n_s : X.ns = (["node", "behind", "ties", "turned", "number", "nexts", "own", "parts"] : List Str) := h.ns.trans ns20
 have hrec : k + 1 ≤ X.d := Nat.le_of_eq h.d.symm
 have hd : 1 ≤ X.d := Nat.le_trans (Nat.le_add_left _ _) hrec
 have n_0 : X.ns[0]? = some ("node" : Str) := by rw [n_s]; rfl
 have n_1 : X.ns[1]? = some ("behind" : Str) := by rw [n_s]; rfl
 have n_2 : X.ns[2]? = some ("ties" : Str) := by rw [n_s]; rfl
 have n_3 : X.ns[3]? = some ("turned" : Str) := by rw [n_s]; rfl
 have n_4 : X.ns[4]? = some ("number" : Str) := by rw [n_s]; rfl
 have n_5 : X.ns[5]? = some ("nexts" : Str) := by rw [n_s]; rfl
 have n_6 : X.ns[6]? = some ("own" : Str) := by rw [n_s]; rfl
 have n_7 : X.ns[7]? = some ("parts" : Str) := by rw [n_s]; rfl
 have own : ∀ x : Str, X.env.kindOf x = some .cell → X.own = true := fun _ _ => h.own
 have hi : interactive X.env = false := by unfold interactive; rw [K.fn]; rfl
 exact (zB (zN K 5 n_5 (own _) rfl (zq K ((h.kind _).trans (by kernel_rfl)) W.n_sorted (by kernel_rfl) (by decide) (by decide) rfl (zK (zGf K (caps := [1, 0]) (zBG h n_s (by kernel_rfl) (by decide +kernel) (by kernel_rfl) (by kernel_rfl) (by kernel_rfl)) rfl (fun _ => rfl) (zGe K (zA K 2 n_2 (by decide))) (fun X2 h2 => have K2 := h2.ok; have W2 : W1 X2.G := h2.g.symm ▸ W; have hd2 := Nat.le_trans hd (Nat.le_of_eq h2.d.symm); have hrec2 := Nat.le_trans hrec (Nat.le_of_eq h2.d.symm); have C2 : CallN X2.G _ _ _ rec := h2.g.symm ▸ C; have n2_s : X2.ns = (["a", "b", "behind", "node"] : List Str) := h2.ns.trans (by kernel_rfl); have n2_0 : X2.ns[0]? = some ("a" : Str) := (by rw [n2_s]; rfl); have n2_1 : X2.ns[1]? = some ("b" : Str) := (by rw [n2_s]; rfl); have n2_2 : X2.ns[2]? = some ("behind" : Str) := (by rw [n2_s]; rfl); have n2_3 : X2.ns[3]? = some ("node" : Str) := (by rw [n2_s]; rfl); setP K2 n2_0 n2_1 (fun q => (nomatch (h2.loc (by kernel_rfl)).symm.trans q)) (fun q => (nomatch (h2.loc (by kernel_rfl)).symm.trans q))) (fun X2 h2 => have K2 := h2.ok; have W2 : W1 X2.G := h2.g.symm ▸ W; have hd2 := Nat.le_trans hd (Nat.le_of_eq h2.d.symm); have hrec2 := Nat.le_trans hrec (Nat.le_of_eq h2.d.symm); have C2 : CallN X2.G _ _ _ rec := h2.g.symm ▸ C; have n2_s : X2.ns = (["a", "b", "behind", "node"] : List Str) := h2.ns.trans (by kernel_rfl); have n2_0 : X2.ns[0]? = some ("a" : Str) := (by rw [n2_s]; rfl); have n2_1 : X2.ns[1]? = some ("b" : Str) := (by rw [n2_s]; rfl); have n2_2 : X2.ns[2]? = some ("behind" : Str) := (by rw [n2_s]; rfl); have n2_3 : X2.ns[3]? = some ("node" : Str) := (by rw [n2_s]; rfl); zCf (zEI (zBw (zY (zA K2 0 n2_0 (by decide)) (zA K2 3 n2_3 (by decide)) op_eq rfl) (zBw (zY (zA K2 1 n2_1 (by decide)) (zA K2 2 n2_2 (by decide)) op_ne rfl) zEH)))) (fun X2 h2 => have K2 := h2.ok; have W2 : W1 X2.G := h2.g.symm ▸ W; have hd2 := Nat.le_trans hd (Nat.le_of_eq h2.d.symm); have hrec2 := Nat.le_trans hrec (Nat.le_of_eq h2.d.symm); have C2 : CallN X2.G _ _ _ rec := h2.g.symm ▸ C; have n2_s : X2.ns = (["a", "b", "behind", "node"] : List Str) := h2.ns.trans (by kernel_rfl); have n2_0 : X2.ns[0]? = some ("a" : Str) := (by rw [n2_s]; rfl); have n2_1 : X2.ns[1]? = some ("b" : Str) := (by rw [n2_s]; rfl); have n2_2 : X2.ns[2]? = some ("behind" : Str) := (by rw [n2_s]; rfl); have n2_3 : X2.ns[3]? = some ("node" : Str) := (by rw [n2_s]; rfl); (zA K2 1 n2_1 (by decide)))) (zGf K (caps := [1, 0]) (zBG h n_s (by kernel_rfl) (by decide +kernel) (by kernel_rfl) (by kernel_rfl) (by kernel_rfl)) rfl (fun _ => rfl) (zGe K (zA K 2 n_2 (by decide))) (fun X2 h2 => have K2 := h2.ok; have W2 : W1 X2.G := h2.g.symm ▸ W; have hd2 := Nat.le_trans hd (Nat.le_of_eq h2.d.symm); have hrec2 := Nat.le_trans hrec (Nat.le_of_eq h2.d.symm); have C2 : CallN X2.G _ _ _ rec := h2.g.symm ▸ C; have n2_s : X2.ns = (["a", "b", "behind", "node"] : List Str) := h2.ns.trans (by kernel_rfl); have n2_0 : X2.ns[0]? = some ("a" : Str) := (by rw [n2_s]; rfl); have n2_1 : X2.ns[1]? = some ("b" : Str) := (by rw [n2_s]; rfl); have n2_2 : X2.ns[2]? = some ("behind" : Str) := (by rw [n2_s]; rfl); have n2_3 : X2.ns[3]? = some ("node" : Str) := (by rw [n2_s]; rfl); setP K2 n2_0 n2_1 (fun q => (nomatch (h2.loc (by kernel_rfl)).symm.trans q)) (fun q => (nomatch (h2.loc (by kernel_rfl)).symm.trans q))) (fun X2 h2 => have K2 := h2.ok; have W2 : W1 X2.G := h2.g.symm ▸ W; have hd2 := Nat.le_trans hd (Nat.le_of_eq h2.d.symm); have hrec2 := Nat.le_trans hrec (Nat.le_of_eq h2.d.symm); have C2 : CallN X2.G _ _ _ rec := h2.g.symm ▸ C; have n2_s : X2.ns = (["a", "b", "behind", "node"] : List Str) := h2.ns.trans (by kernel_rfl); have n2_0 : X2.ns[0]? = some ("a" : Str) := (by rw [n2_s]; rfl); have n2_1 : X2.ns[1]? = some ("b" : Str) := (by rw [n2_s]; rfl); have n2_2 : X2.ns[2]? = some ("behind" : Str) := (by rw [n2_s]; rfl); have n2_3 : X2.ns[3]? = some ("node" : Str) := (by rw [n2_s]; rfl); zCf (zEI (zBw (zY (zA K2 1 n2_1 (by decide)) (zA K2 3 n2_3 (by decide)) op_eq rfl) (zBw (zY (zA K2 0 n2_0 (by decide)) (zA K2 2 n2_2 (by decide)) op_ne rfl) zEH)))) (fun X2 h2 => have K2 := h2.ok; have W2 : W1 X2.G := h2.g.symm ▸ W; have hd2 := Nat.le_trans hd (Nat.le_of_eq h2.d.symm); have hrec2 := Nat.le_trans hrec (Nat.le_of_eq h2.d.symm); have C2 : CallN X2.G _ _ _ rec := h2.g.symm ▸ C; have n2_s : X2.ns = (["a", "b", "behind", "node"] : List Str) := h2.ns.trans (by kernel_rfl); have n2_0 : X2.ns[0]? = some ("a" : Str) := (by rw [n2_s]; rfl); have n2_1 : X2.ns[1]? = some ("b" : Str) := (by rw [n2_s]; rfl); have n2_2 : X2.ns[2]? = some ("behind" : Str) := (by rw [n2_s]; rfl); have n2_3 : X2.ns[3]? = some ("node" : Str) := (by rw [n2_s]; rfl); (zA K2 0 n2_0 (by decide)))) (zS K)) (zKb K))) (zB (zd (zA1 (fun _ => rfl) (zA K 3 n_3 (by decide))) (zB (zN K 5 n_5 (own _) rfl (zGc K (zA K 5 n_5 (by decide)) zAX zAX (zAk zF))) zJ) zJ) (zB (zN K 6 n_6 (own _) rfl (zK (zA K 4 n_4 (by decide)) (zK zF (zA K 0 n_0 (by decide)) zEM) zCW)) (zB (zEd K 7 (caps := [0, 4, 2, 3]) (zBG h n_s (by kernel_rfl) (by decide +kernel) (by kernel_rfl) (by kernel_rfl) (by kernel_rfl)) rfl n_7 (own _) (zEh h (by kernel_rfl) (by kernel_rfl) (by kernel_rfl)) (fun _ => rfl) (zAs K (zA K 5 n_5 (by decide))) (fun _ _ => rfl) (fun X2 h2 => have K2 := h2.ok; have W2 : W1 X2.G := h2.g.symm ▸ W; have hd2 := Nat.le_trans hd (Nat.le_of_eq h2.d.symm); have hrec2 := Nat.le_trans hrec (Nat.le_of_eq h2.d.symm); have C2 : CallN X2.G _ _ _ rec := h2.g.symm ▸ C; have n2_s : X2.ns = (["other", "node", "number", "ties", "turned"] : List Str) := h2.ns.trans (by kernel_rfl); have n2_0 : X2.ns[0]? = some ("other" : Str) := (by rw [n2_s]; rfl); have n2_1 : X2.ns[1]? = some ("node" : Str) := (by rw [n2_s]; rfl); have n2_2 : X2.ns[2]? = some ("number" : Str) := (by rw [n2_s]; rfl); have n2_3 : X2.ns[3]? = some ("ties" : Str) := (by rw [n2_s]; rfl); have n2_4 : X2.ns[4]? = some ("turned" : Str) := (by rw [n2_s]; rfl); zBR K2 0 n2_0 (fun q => (nomatch (h2.loc (by kernel_rfl)).symm.trans q))) (fun _ _ => zDW) (fun X2 h2 => have K2 := h2.ok; have W2 : W1 X2.G := h2.g.symm ▸ W; have hd2 := Nat.le_trans hd (Nat.le_of_eq h2.d.symm); have hrec2 := Nat.le_trans hrec (Nat.le_of_eq h2.d.symm); have C2 : CallN X2.G _ _ _ rec := h2.g.symm ▸ C; have n2_s : X2.ns = (["other", "node", "number", "ties", "turned"] : List Str) := h2.ns.trans (by kernel_rfl); have n2_0 : X2.ns[0]? = some ("other" : Str) := (by rw [n2_s]; rfl); have n2_1 : X2.ns[1]? = some ("node" : Str) := (by rw [n2_s]; rfl); have n2_2 : X2.ns[2]? = some ("number" : Str) := (by rw [n2_s]; rfl); have n2_3 : X2.ns[3]? = some ("ties" : Str) := (by rw [n2_s]; rfl); have n2_4 : X2.ns[4]? = some ("turned" : Str) := (by rw [n2_s]; rfl); (zAF K2 (h2.glob (by kernel_rfl)) W2.f_law_drawn (by decide) C2 hrec2 (zL zf (zA K2 0 n2_0 (by decide)) (zL zf (zA K2 1 n2_1 (by decide)) (zL zf (zA K2 3 n2_3 (by decide)) (zL zf (zA K2 4 n2_4 (by decide)) (zL zf (zA K2 2 n2_2 (by decide)) zR))))) rfl))) (zB (zb (zK (zK (zK (zK zW (zAF K ((h.kind _).trans (by kernel_rfl)) W.f_law_spelled (by decide) (zLY W) (Nat.le_trans (by decide) hd) (zL zf (zA K 0 n_0 (by decide)) (zL zf (zA K 6 n_6 (by decide)) zR)) rfl) (zS K)) (zAF K ((h.kind _).trans (by kernel_rfl)) W.f_law_unseen (by decide) (zLW W) (Nat.le_trans (by decide) hd) (zL zf (zA K 6 n_6 (by decide)) zR) rfl) (zS K)) (zA5 F.slot_str_join F.type_str_join rfl rfl rfl zW (zA K 7 n_7 (by decide)) zCc) (zS K)) zW (zS K))) zJ)))))
theorem zGz {G : Ctx} (W : W1 G) : ∀ k, CallN G "_law_drawn" (k + 1) 5 (zBi k)
 | 0 => zJ7
 | k + 1 => by
  have ih := zGz W k
  have := zAu (n := k + 1) W.gok W.f_law_drawn dok20 (by simp only [ns20]; rfl) rfl fun X h => by
   obtain rfl := h.g
   exact zLd W ih h
  first | exact this | (rw [Nat.add_right_comm]; exact this)
noncomputable def zEt : PM PF :=
 (pSeq (zG 2 (PM.ret (.str ""))) (pSeq (pForE (pSrc (PM.ret (.str "abcdef"))) (pSet 3) (pSeq (zG 4 (pM1 (pVar 0) (pVar 3) pFind)) (pSeq (pIf (pAnd (zCT pLe pLt (PM.ret (.int 0)) (pVar 4) (pVar 1)) (pAnd ((pBin pIs (pApp 1 (pCons (pSl (pVar 0) (pBin pAdd (pVar 4) (PM.ret (.int 1))) (pBin pSub (pVar 1) (PM.ret (.int 1)))) pNil) zBX) (PM.ret (.bool true))).bind zI) (PM.ret true))) (pSeq (zG 2 (pBin pAdd (pVar 2) (pVar 3))) (PM.ret .next)) (PM.ret .next)) (PM.ret .next)))) (pSeq (zO (pVar 2)) (PM.ret .next))))
noncomputable def zCm : List PV → PM PV := zAC 5 zEt
theorem ns21 : nsOf d21.scope = (["text", "place", "near", "other", "spot"] : List Str) := by kernel_rfl
theorem dok21 : DefOK d21 (["text", "place"] : List Str) := ⟨by kernel_rfl, by kernel_rfl, by kernel_rfl, by decide +kernel, ⟨_, by rw [ns21]; rfl⟩, fun pm code doc => bind2 fun a b => rfl⟩
theorem zLe {X : Stat} (W : W1 X.G) (h : InF X.G d21 (4) X) : SndB X [] d21.body zEt := by
 have K := h.ok
 have n_s : X.ns = (["text", "place", "near", "other", "spot"] : List Str) := h.ns.trans ns21
 have hd : 4 ≤ X.d := Nat.le_of_eq h.d.symm
 have n_0 : X.ns[0]? = some ("text" : Str) := by rw [n_s]; rfl
 have n_1 : X.ns[1]? = some ("place" : Str) := by rw [n_s]; rfl
 have n_2 : X.ns[2]? = some ("near" : Str) := by rw [n_s]; rfl
 have n_3 : X.ns[3]? = some ("other" : Str) := by rw [n_s]; rfl
 have n_4 : X.ns[4]? = some ("spot" : Str) := by rw [n_s]; rfl
 have own : ∀ x : Str, X.env.kindOf x = some .cell → X.own = true := fun _ _ => h.own
 have hi : interactive X.env = false := by unfold interactive; rw [K.fn]; rfl
 exact (zB (zN K 2 n_2 (own _) rfl zW) (zB (zBS K 3 n_3 (own _) (fun _ => rfl) (zAs K zW) (zB (zN K 4 n_4 (own _) rfl (zA5 F.slot_str_find F.type_str_find rfl rfl rfl (zA K 0 n_0 (by decide)) (zA K 3 n_3 (by decide)) zGH)) (zB (zd (zEI (zBw (zIz zF (zA K 4 n_4 (by decide)) (zA K 1 n_1 (by decide)) op_le op_lt rfl) (zBw (zY (zAF K ((h.kind _).trans (by kernel_rfl)) W.f_check_parenthesis (by decide) (zGs W) (Nat.le_trans (by decide) hd) (zL rfl (zAR K (zA K 0 n_0 (by decide)) (zAB (zK (zA K 4 n_4 (by decide)) zF (zS K))) (zAB (zK (zA K 1 n_1 (by decide)) zF zBD))) zR) rfl) zAV op_is rfl) zEH))) (zB (zN K 2 n_2 (own _) rfl (zK (zA K 2 n_2 (by decide)) (zA K 3 n_3 (by decide)) (zS K))) zJ) zJ) zJ))) (zB (zb (zA K 2 n_2 (by decide))) zJ)))
theorem zLf {G : Ctx} (W : W1 G) : CallN G "_law_neighbours" 5 2 zCm :=
 zAu (n := 4) W.gok W.f_law_neighbours dok21 (by simp only [ns21]; rfl) rfl fun X h => by
  obtain rfl := h.g
  exact zLe W h
noncomputable def zDl : PM PF :=
 (pSeq (zG 2 (pList pNil)) (pSeq (pForE (zAY (pBin pSub (pVar 1) (PM.ret (.int 2)))) (pSet 3) (pSeq (pIf ((pBin pNe (pApp1 (pVar 0) pLen) (pBin pMul (PM.ret (.int 3)) (pBin pSub (pVar 1) (pVar 3)))).bind zI) (pSeq (zO (pList pNil)) (PM.ret .next)) (PM.ret .next)) (pSeq (zG 4 (PM.ret (.str ""))) (pSeq (pForE (pSrc (pSl (PM.ret (.str "abcdef")) (PM.ret .none) (pVar 1))) (pSet 5) (pSeq (pIf ((pBin pEq (pVar 5) (pBin pItem (pVar 0) (PM.ret (.int 1)))).bind zI) (pSeq (zG 6 (pApp 1 (pCons (pSl (pVar 0) (PM.ret (.int 3)) (pNeg (PM.ret (.int 2)))) pNil) zBX)) (PM.ret .next)) (pSeq (zG 6 (pApp 2 (pCons (pBin pAdd (pBin pAdd (PM.ret (.str "...(")) (pVar 5)) (PM.ret (.str ")..."))) (pCons (pVar 0) pNil)) zDf)) (PM.ret .next))) (pSeq (pIf ((pBin pIs (pVar 6) (PM.ret (.bool true))).bind zI) (pSeq (zG 4 (pBin pAdd (pVar 4) (pVar 5))) (PM.ret .next)) (pSeq (pIf ((pBin zBy (pVar 6) (PM.ret (.bool false))).bind zI) (pSeq (zO (pList pNil)) (PM.ret .next)) (PM.ret .next)) (PM.ret .next))) (PM.ret .next)))) (pSeq (pIf ((pBin pEq (pVar 4) (PM.ret (.str ""))).bind zI) (pSeq (zO (pList pNil)) (PM.ret .next)) (PM.ret .next)) (pSeq (zG 7 (pM1 (pVar 0) (pBin pItem (pVar 4) (PM.ret (.int 0))) pFind)) (pSeq (pIf ((pBin pEq (pVar 7) (PM.ret (.int 1))).bind zI) (pSeq (pExpr (zg (pVar 2) (zU (pCons (pVar 4) (pCons (pBin pItem (pVar 0) (PM.ret (.int 3))) pNil))))) (pSeq (zG 0 (pApp 1 (pCons (pBin pAdd (pBin pAdd (pBin pAdd (pBin pAdd (pBin pAdd (pBin pAdd (PM.ret (.str "\"")) (pSl (pVar 0) (PM.ret .none) (PM.ret (.int 2)))) (PM.ret (.str "\""))) (pSl (pVar 0) (PM.ret (.int 2)) (pNeg (PM.ret (.int 1))))) (PM.ret (.str "\""))) (pSl (pVar 0) (pNeg (PM.ret (.int 1))) (PM.ret .none))) (PM.ret (.str "\""))) pNil) zBI)) (PM.ret .next))) (pSeq (pExpr (zg (pVar 2) (zU (pCons (pVar 4) (pCons (pApp 2 (pCons (pVar 0) (pCons (pVar 7) pNil)) zCm) pNil))))) (pSeq (zG 0 (pApp 1 (pCons (pBin pAdd (pBin pAdd (pBin pAdd (pBin pAdd (pSl (pVar 0) (PM.ret .none) (pBin pSub (pVar 7) (PM.ret (.int 1)))) (PM.ret (.str "\""))) (pSl (pVar 0) (pBin pSub (pVar 7) (PM.ret (.int 1))) (pBin pAdd (pVar 7) (PM.ret (.int 2))))) (PM.ret (.str "\""))) (pSl (pVar 0) (pBin pAdd (pVar 7) (PM.ret (.int 2))) (PM.ret .none))) pNil) zBI)) (PM.ret .next)))) (PM.ret .next)))))))) (pSeq (pExpr (zg (pVar 2) (pVar 0))) (pSeq (zO (pVar 2)) (PM.ret .next)))))
noncomputable def zCC : List PV → PM PV := pCall 8 zDl
theorem ns22 : nsOf d22.scope = (["text", "size", "told", "step", "ends", "letter", "alone", "place"] : List Str) := by kernel_rfl
theorem dok22 : DefOK d22 (["text", "size"] : List Str) := ⟨by kernel_rfl, by kernel_rfl, by kernel_rfl, by decide +kernel, ⟨_, by rw [ns22]; rfl⟩, fun pm code doc => bind2 fun a b => rfl⟩
theorem zLg {X : Stat} (W : W1 X.G) (h : InF X.G d22 (5) X) : SndB X [] d22.body zDl := by
 have K := h.ok
 have n_s : X.ns = (["text", "size", "told", "step", "ends", "letter", "alone", "place"] : List Str) := h.ns.trans ns22
 have hd : 5 ≤ X.d := Nat.le_of_eq h.d.symm
 have n_0 : X.ns[0]? = some ("text" : Str) := by rw [n_s]; rfl
 have n_1 : X.ns[1]? = some ("size" : Str) := by rw [n_s]; rfl
 have n_2 : X.ns[2]? = some ("told" : Str) := by rw [n_s]; rfl
 have n_3 : X.ns[3]? = some ("step" : Str) := by rw [n_s]; rfl
 have n_4 : X.ns[4]? = some ("ends" : Str) := by rw [n_s]; rfl
 have n_5 : X.ns[5]? = some ("letter" : Str) := by rw [n_s]; rfl
 have n_6 : X.ns[6]? = some ("alone" : Str) := by rw [n_s]; rfl
 have n_7 : X.ns[7]? = some ("place" : Str) := by rw [n_s]; rfl
 have own : ∀ x : Str, X.env.kindOf x = some .cell → X.own = true := fun _ _ => h.own
 have hi : interactive X.env = false := by unfold interactive; rw [K.fn]; rfl
 exact (zB (zN K 2 n_2 (own _) rfl (zA4 K zR)) (zB (zBS K 3 n_3 (own _) (fun _ => rfl) (zDU K ((h.kind _).trans (by kernel_rfl)) W.n_range rfl (zK (zA K 1 n_1 (by decide)) zF zBD)) (zB (zd (zY (zq K ((h.kind _).trans (by kernel_rfl)) W.n_len (by kernel_rfl) (by decide) (by decide) rfl (zA K 0 n_0 (by decide)) b_len) (zK zF (zK (zA K 1 n_1 (by decide)) (zA K 3 n_3 (by decide)) zBD) zEL) op_ne rfl) (zB (zb (zA4 K zR)) zJ) zJ) (zB (zN K 4 n_4 (own _) rfl zW) (zB (zBS K 5 n_5 (own _) (fun _ => rfl) (zAs K (zAR K zW zAX (zAB (zA K 1 n_1 (by decide))))) (zB (zd (zY (zA K 5 n_5 (by decide)) (zAA (fun _ _ => rfl) (zA K 0 n_0 (by decide)) zF) op_eq rfl) (zB (zN K 6 n_6 (own _) rfl (zAF K ((h.kind _).trans (by kernel_rfl)) W.f_check_parenthesis (by decide) (zGs W) (Nat.le_trans (by decide) hd) (zL rfl (zAR K (zA K 0 n_0 (by decide)) (zAB zF) (zAB (zAk zF))) zR) rfl)) zJ) (zB (zN K 6 n_6 (own _) rfl (zAF K ((h.kind _).trans (by kernel_rfl)) W.f_ellipsis_match (by decide) (zLO W) (Nat.le_trans (by decide) hd) (zL rfl (zK (zK zW (zA K 5 n_5 (by decide)) (zS K)) zW (zS K)) (zL zf (zA K 0 n_0 (by decide)) zR)) rfl)) zJ)) (zB (zd (zY (zA K 6 n_6 (by decide)) zAV op_is rfl) (zB (zN K 4 n_4 (own _) rfl (zK (zA K 4 n_4 (by decide)) (zA K 5 n_5 (by decide)) (zS K))) zJ) (zB (zd (zY (zA K 6 n_6 (by decide)) zAV zFx rfl) (zB (zb (zA4 K zR)) zJ) zJ) zJ)) zJ))) (zB (zd (zY (zA K 4 n_4 (by decide)) zW op_eq rfl) (zB (zb (zA4 K zR)) zJ) zJ) (zB (zN K 7 n_7 (own _) rfl (zA5 F.slot_str_find F.type_str_find rfl rfl rfl (zA K 0 n_0 (by decide)) (zAA (fun _ _ => rfl) (zA K 4 n_4 (by decide)) zF) zGH)) (zB (zd (zY (zA K 7 n_7 (by decide)) zF op_eq rfl) (zB (zAp hi rfl (zA6 rfl rfl rfl (zA K 2 n_2 (by decide)) (zAc K (zL zf (zA K 4 n_4 (by decide)) (zL rfl (zAA (fun _ _ => rfl) (zA K 0 n_0 (by decide)) zF) zR))))) (zB (zN K 0 n_0 (own _) rfl (zAF K ((h.kind _).trans (by kernel_rfl)) W.f_strip_quoted_realnames (by decide) (zEo W) (Nat.le_trans (by decide) hd) (zL rfl (zK (zK (zK (zK (zK (zK zW (zAR K (zA K 0 n_0 (by decide)) zAX (zAB zF)) (zS K)) zW (zS K)) (zAR K (zA K 0 n_0 (by decide)) (zAB zF) (zAB (zAk zF))) (zS K)) zW (zS K)) (zAR K (zA K 0 n_0 (by decide)) (zAB (zAk zF)) zAX) (zS K)) zW (zS K)) zR) rfl)) zJ)) (zB (zAp hi rfl (zA6 rfl rfl rfl (zA K 2 n_2 (by decide)) (zAc K (zL zf (zA K 4 n_4 (by decide)) (zL rfl (zAF K ((h.kind _).trans (by kernel_rfl)) W.f_law_neighbours (by decide) (zLf W) (Nat.le_trans (by decide) hd) (zL zf (zA K 0 n_0 (by decide)) (zL zf (zA K 7 n_7 (by decide)) zR)) rfl) zR))))) (zB (zN K 0 n_0 (own _) rfl (zAF K ((h.kind _).trans (by kernel_rfl)) W.f_strip_quoted_realnames (by decide) (zEo W) (Nat.le_trans (by decide) hd) (zL rfl (zK (zK (zK (zK (zAR K (zA K 0 n_0 (by decide)) zAX (zAB (zK (zA K 7 n_7 (by decide)) zF zBD))) zW (zS K)) (zAR K (zA K 0 n_0 (by decide)) (zAB (zK (zA K 7 n_7 (by decide)) zF zBD)) (zAB (zK (zA K 7 n_7 (by decide)) zF (zS K)))) (zS K)) zW (zS K)) (zAR K (zA K 0 n_0 (by decide)) (zAB (zK (zA K 7 n_7 (by decide)) zF (zS K))) zAX) (zS K)) zR) rfl)) zJ))) zJ))))))) (zB (zAp hi rfl (zA6 rfl rfl rfl (zA K 2 n_2 (by decide)) (zA K 0 n_0 (by decide)))) (zB (zb (zA K 2 n_2 (by decide))) zJ))))
theorem zLh {G : Ctx} (W : W1 G) : CallN G "_law_cut" 6 2 zCC :=
 zDa (n := 5) W.gok W.f_law_cut dok22 (by simp only [ns22]; rfl) rfl fun X h => by
  obtain rfl := h.g
  exact zLg W h
noncomputable def zEu : PM PF :=
 (pSeq (zG 2 (pSl (PM.ret (.str "abcdef")) (PM.ret .none) (pVar 1))) (pSeq (zG 3 (pList pNil)) (pSeq (pForE (zAY (pBin pSub (pVar 1) (PM.ret (.int 2)))) (pSet 4) (pSeq (zG 5 (pM1 (PM.ret (.str "")) (pComp 1 [] (pSrc (pSl (pVar 0) (pVar 4) (PM.ret .none))) (pSet 0) (PM.ret true) (pBin pItem (PM.ret (.str "abcdef")) (pVar 0))) pJoin)) (pSeq (zG 6 (pM1 (PM.ret (.str "")) (pComp 1 [5] (pSrc (pVar 2)) (pSet 0) ((pBin zAK (pVar 0) (pVar 1)).bind zI) (pVar 0)) pJoin)) (pSeq (pExpr (zg (pVar 3) (zU (pCons (pVar 6) (pCons (pBin pItem (PM.ret (.str "abcdef")) (pBin pItem (pVar 0) (pVar 4))) pNil))))) (pSeq (zG 2 (zB9 (pVar 2) (pVar 6))) (PM.ret .next)))))) (pSeq (zO (zU (pCons (pVar 3) (pCons (pVar 2) pNil)))) (PM.ret .next)))))
noncomputable def zCD : List PV → PM PV := pCall 7 zEu
theorem ns23 : nsOf d23.scope = (["row", "size", "rest", "due", "k", "still", "ends"] : List Str) := by kernel_rfl
theorem dok23 : DefOK d23 (["row", "size"] : List Str) := ⟨by kernel_rfl, by kernel_rfl, by kernel_rfl, by decide +kernel, ⟨_, by rw [ns23]; rfl⟩, fun pm code doc => bind2 fun a b => rfl⟩
theorem zLi {X : Stat} (W : W1 X.G) (h : InF X.G d23 (0) X) : SndB X [] d23.body zEu := by
 have K := h.ok
 have n_s : X.ns = (["row", "size", "rest", "due", "k", "still", "ends"] : List Str) := h.ns.trans ns23
 have hd : 0 ≤ X.d := Nat.le_of_eq h.d.symm
 have n_0 : X.ns[0]? = some ("row" : Str) := by rw [n_s]; rfl
 have n_1 : X.ns[1]? = some ("size" : Str) := by rw [n_s]; rfl
 have n_2 : X.ns[2]? = some ("rest" : Str) := by rw [n_s]; rfl
 have n_3 : X.ns[3]? = some ("due" : Str) := by rw [n_s]; rfl
 have n_4 : X.ns[4]? = some ("k" : Str) := by rw [n_s]; rfl
 have n_5 : X.ns[5]? = some ("still" : Str) := by rw [n_s]; rfl
 have n_6 : X.ns[6]? = some ("ends" : Str) := by rw [n_s]; rfl
 have own : ∀ x : Str, X.env.kindOf x = some .cell → X.own = true := fun _ _ => h.own
 have hi : interactive X.env = false := by unfold interactive; rw [K.fn]; rfl
 exact (zB (zN K 2 n_2 (own _) rfl (zAR K zW zAX (zAB (zA K 1 n_1 (by decide))))) (zB (zN K 3 n_3 (own _) rfl (zA4 K zR)) (zB (zBS K 4 n_4 (own _) (fun _ => rfl) (zDU K ((h.kind _).trans (by kernel_rfl)) W.n_range rfl (zK (zA K 1 n_1 (by decide)) zF zBD)) (zB (zN K 5 n_5 (own _) rfl (zA5 F.slot_str_join F.type_str_join rfl rfl rfl zW (zDX K (caps := []) (zBG h n_s (by kernel_rfl) (by decide +kernel) (by kernel_rfl) (by kernel_rfl) (by kernel_rfl)) rfl (fun _ => rfl) (zAs K (zAR K (zA K 0 n_0 (by decide)) (zAB (zA K 4 n_4 (by decide))) zAX)) (fun _ _ => rfl) (fun X2 h2 => have K2 := h2.ok; have W2 : W1 X2.G := h2.g.symm ▸ W; have hd2 := Nat.le_trans hd (Nat.le_of_eq h2.d.symm); have n2_s : X2.ns = (["node"] : List Str) := h2.ns.trans (by kernel_rfl); have n2_0 : X2.ns[0]? = some ("node" : Str) := (by rw [n2_s]; rfl); zBR K2 0 n2_0 (fun q => (nomatch (h2.loc (by kernel_rfl)).symm.trans q))) (fun _ _ => zDW) (fun X2 h2 => have K2 := h2.ok; have W2 : W1 X2.G := h2.g.symm ▸ W; have hd2 := Nat.le_trans hd (Nat.le_of_eq h2.d.symm); have n2_s : X2.ns = (["node"] : List Str) := h2.ns.trans (by kernel_rfl); have n2_0 : X2.ns[0]? = some ("node" : Str) := (by rw [n2_s]; rfl); (zAA (fun _ _ => rfl) zW (zA K2 0 n2_0 (by decide))))) zCc)) (zB (zN K 6 n_6 (own _) rfl (zA5 F.slot_str_join F.type_str_join rfl rfl rfl zW (zDX K (caps := [5]) (zBG h n_s (by kernel_rfl) (by decide +kernel) (by kernel_rfl) (by kernel_rfl) (by kernel_rfl)) rfl (fun _ => rfl) (zAs K (zA K 2 n_2 (by decide))) (fun _ _ => rfl) (fun X2 h2 => have K2 := h2.ok; have W2 : W1 X2.G := h2.g.symm ▸ W; have hd2 := Nat.le_trans hd (Nat.le_of_eq h2.d.symm); have n2_s : X2.ns = (["letter", "still"] : List Str) := h2.ns.trans (by kernel_rfl); have n2_0 : X2.ns[0]? = some ("letter" : Str) := (by rw [n2_s]; rfl); have n2_1 : X2.ns[1]? = some ("still" : Str) := (by rw [n2_s]; rfl); zBR K2 0 n2_0 (fun q => (nomatch (h2.loc (by kernel_rfl)).symm.trans q))) (fun X2 h2 => have K2 := h2.ok; have W2 : W1 X2.G := h2.g.symm ▸ W; have hd2 := Nat.le_trans hd (Nat.le_of_eq h2.d.symm); have n2_s : X2.ns = (["letter", "still"] : List Str) := h2.ns.trans (by kernel_rfl); have n2_0 : X2.ns[0]? = some ("letter" : Str) := (by rw [n2_s]; rfl); have n2_1 : X2.ns[1]? = some ("still" : Str) := (by rw [n2_s]; rfl); zCf (zY (zA K2 0 n2_0 (by decide)) (zA K2 1 n2_1 (by decide)) zCY rfl)) (fun X2 h2 => have K2 := h2.ok; have W2 : W1 X2.G := h2.g.symm ▸ W; have hd2 := Nat.le_trans hd (Nat.le_of_eq h2.d.symm); have n2_s : X2.ns = (["letter", "still"] : List Str) := h2.ns.trans (by kernel_rfl); have n2_0 : X2.ns[0]? = some ("letter" : Str) := (by rw [n2_s]; rfl); have n2_1 : X2.ns[1]? = some ("still" : Str) := (by rw [n2_s]; rfl); (zA K2 0 n2_0 (by decide)))) zCc)) (zB (zAp hi rfl (zA6 rfl rfl rfl (zA K 3 n_3 (by decide)) (zAc K (zL zf (zA K 6 n_6 (by decide)) (zL rfl (zAA (fun _ _ => rfl) zW (zAA (fun _ _ => rfl) (zA K 0 n_0 (by decide)) (zA K 4 n_4 (by decide)))) zR))))) (zB (zN K 2 n_2 (own _) rfl (zKm rfl rfl rfl (fun _ _ => rfl) (zA K 2 n_2 (by decide)) (zA K 6 n_6 (by decide)))) zJ))))) (zB (zb (zAc K (zL zf (zA K 3 n_3 (by decide)) (zL zf (zA K 2 n_2 (by decide)) zR)))) zJ))))
theorem zLj {G : Ctx} (W : W1 G) : CallN G "_law_due" 1 2 zCD :=
 zDa (n := 0) W.gok W.f_law_due dok23 (by simp only [ns23]; rfl) rfl fun X h => by
  obtain rfl := h.g
  exact zLi W h
noncomputable def pblaw : PM PF :=
 (pSeq (zG 1 (pIfE ((pBin pLt (pApp1 (pVar 0) pLen) (PM.ret (.int 4))).bind zI) (PM.ret (.int 5)) (PM.ret (.int 6)))) (pSeq (zG 2 (pComp 1 [0] (zAY (pBin pSub (pVar 1) (PM.ret (.int 2)))) (pSet 0) (PM.ret true) (pIfE ((pBin pLt (pVar 0) (pApp1 (pVar 1) pLen)).bind zI) (pBin pMod (pBin pItem (pVar 1) (pVar 0)) (PM.ret (.int 262144))) (pBin pItem (zU (pCons (PM.ret (.int 6)) (pCons (PM.ret (.int 131)) (pCons (PM.ret (.int 12)) pNil)))) (pVar 0))))) (pSeq (zG 3 (pList pNil)) (pSeq (pForE (pSrc (pVar 2)) (pSet 4) (pSeq (zG 3 (pBin pAdd (pVar 3) (pApp 1 (pCons (pVar 4) pNil) zDh))) (PM.ret .next))) (pSeq (zG 5 (pApp1 (pVar 3) pIter)) (pSeq (zG 6 (pList pNil)) (pSeq (zEm 6 5 2 (pSeq (pExpr (zg (pVar 6) (pApp 1 (pCons (pVar 5) pNil) zCk))) (PM.ret .next)) 100) (pSeq (zG 7 (pComp 1 [1] (pSrc (pVar 6)) (pSet 0) (PM.ret true) (pBin pMod (pVar 0) (pVar 1)))) (pSeq (zG 8 (pApp 2 (pCons (pVar 7) (pCons (pVar 1) pNil)) zCB)) (pSeq (zG 9 (pBin pMod (pBin pAdd (pApp1 (pVar 0) pSum) (PM.ret (.int 271828))) (PM.ret (.int 2985984)))) (pSeq (zCj 10 11 (pApp 2 (pCons (pVar 7) (pCons (pVar 1) pNil)) zCD)) (pSeq (pForE (pSrc (zU (pCons (PM.ret (.int 0)) (pCons (PM.ret (.int 1)) pNil)))) (pSet 12) (pSeq (zG 13 (pApp 5 (pCons (pBin pMod (pBin pDiv (pVar 9) (pBin pPow (PM.ret (.int 36)) (pVar 12))) (pVar 1)) (pCons (pNeg (PM.ret (.int 1))) (pCons (pVar 8) (pCons (pBin pEq (pBin pMod (pBin pAdd (pVar 9) (pVar 12)) (PM.ret (.int 2))) (PM.ret (.int 1))) (pCons (pBin pDiv (pVar 9) (pBin pPow (PM.ret (.int 5)) (pVar 12))) pNil))))) (zBi 7))) (pSeq (zG 14 (pApp 2 (pCons (pApp 1 (pCons (pVar 13) pNil) zDk) (pCons (pVar 1) pNil)) zCC)) (pSeq (pIf ((pBin pNe (pSl (pVar 14) (PM.ret .none) (pNeg (PM.ret (.int 1)))) (pVar 10)).bind zI) (pSeq (zO (PM.ret (.bool false))) (PM.ret .next)) (PM.ret .next)) (pSeq (pIf ((pBin zAK (pBin pItem (pVar 14) (pNeg (PM.ret (.int 1)))) (zU (pCons (pBin pAdd (pBin pAdd (pBin pAdd (pBin pAdd (PM.ret (.str "(")) (pBin pItem (pVar 11) (PM.ret (.int 0)))) (PM.ret (.str "("))) (pBin pItem (pVar 11) (PM.ret (.int 1)))) (PM.ret (.str "))"))) (pCons (pBin pAdd (pBin pAdd (pBin pAdd (pBin pAdd (PM.ret (.str "(")) (pBin pItem (pVar 11) (PM.ret (.int 1)))) (PM.ret (.str "("))) (pBin pItem (pVar 11) (PM.ret (.int 0)))) (PM.ret (.str "))"))) pNil)))).bind zI) (pSeq (zO (PM.ret (.bool false))) (PM.ret .next)) (PM.ret .next)) (PM.ret .next)))))) (pSeq (zO (PM.ret (.bool true))) (PM.ret .next))))))))))))))
theorem ns24 : nsOf d24.scope = (["script", "size", "cells", "octets", "number", "stream", "read", "row", "ties", "tell", "due", "rest", "turn", "drawn", "told"] : List Str) := by kernel_rfl
theorem dok24 : DefOK d24 (["script"] : List Str) := ⟨by kernel_rfl, by kernel_rfl, by kernel_rfl, by decide +kernel, ⟨_, by rw [ns24]; rfl⟩, fun pm code doc => bind1 fun a => rfl⟩
theorem sblaw {X : Stat} (W : W1 X.G) (h : InF X.G d24 (8) X) : SndB1 X d24.body pblaw := by
 have K := h.ok
 have n_s : X.ns = (["script", "size", "cells", "octets", "number", "stream", "read", "row", "ties", "tell", "due", "rest", "turn", "drawn", "told"] : List Str) := h.ns.trans ns24
 have hd : 8 ≤ X.d := Nat.le_of_eq h.d.symm
 have n_0 : X.ns[0]? = some ("script" : Str) := by rw [n_s]; rfl
 have n_1 : X.ns[1]? = some ("size" : Str) := by rw [n_s]; rfl
 have n_2 : X.ns[2]? = some ("cells" : Str) := by rw [n_s]; rfl
 have n_3 : X.ns[3]? = some ("octets" : Str) := by rw [n_s]; rfl
 have n_4 : X.ns[4]? = some ("number" : Str) := by rw [n_s]; rfl
 have n_5 : X.ns[5]? = some ("stream" : Str) := by rw [n_s]; rfl
 have n_6 : X.ns[6]? = some ("read" : Str) := by rw [n_s]; rfl
 have n_7 : X.ns[7]? = some ("row" : Str) := by rw [n_s]; rfl
 have n_8 : X.ns[8]? = some ("ties" : Str) := by rw [n_s]; rfl
 have n_9 : X.ns[9]? = some ("tell" : Str) := by rw [n_s]; rfl
 have n_10 : X.ns[10]? = some ("due" : Str) := by rw [n_s]; rfl
 have n_11 : X.ns[11]? = some ("rest" : Str) := by rw [n_s]; rfl
 have n_12 : X.ns[12]? = some ("turn" : Str) := by rw [n_s]; rfl
 have n_13 : X.ns[13]? = some ("drawn" : Str) := by rw [n_s]; rfl
 have n_14 : X.ns[14]? = some ("told" : Str) := by rw [n_s]; rfl
 have own : ∀ x : Str, X.env.kindOf x = some .cell → X.own = true := fun _ _ => h.own
 have hi : interactive X.env = false := by unfold interactive; rw [K.fn]; rfl
 exact (zAf (SndR.to1 (zN K 1 n_1 (own _) rfl (zFr (zY (zq K ((h.kind _).trans (by kernel_rfl)) W.n_len (by kernel_rfl) (by decide) (by decide) rfl (zA K 0 n_0 (by decide)) b_len) zF op_lt rfl) zF zF))) (zAf (SndR.to1 (zEd K 2 (caps := [0]) (zBG h n_s (by kernel_rfl) (by decide +kernel) (by kernel_rfl) (by kernel_rfl) (by kernel_rfl)) rfl n_2 (own _) (zEh h (by kernel_rfl) (by kernel_rfl) (by kernel_rfl)) (fun _ => rfl) (zDU K ((h.kind _).trans (by kernel_rfl)) W.n_range rfl (zK (zA K 1 n_1 (by decide)) zF zBD)) (fun _ _ => rfl) (fun X2 h2 => have K2 := h2.ok; have W2 : W1 X2.G := h2.g.symm ▸ W; have hd2 := Nat.le_trans hd (Nat.le_of_eq h2.d.symm); have n2_s : X2.ns = (["k", "script"] : List Str) := h2.ns.trans (by kernel_rfl); have n2_0 : X2.ns[0]? = some ("k" : Str) := (by rw [n2_s]; rfl); have n2_1 : X2.ns[1]? = some ("script" : Str) := (by rw [n2_s]; rfl); zBR K2 0 n2_0 (fun q => (nomatch (h2.loc (by kernel_rfl)).symm.trans q))) (fun _ _ => zDW) (fun X2 h2 => have K2 := h2.ok; have W2 : W1 X2.G := h2.g.symm ▸ W; have hd2 := Nat.le_trans hd (Nat.le_of_eq h2.d.symm); have n2_s : X2.ns = (["k", "script"] : List Str) := h2.ns.trans (by kernel_rfl); have n2_0 : X2.ns[0]? = some ("k" : Str) := (by rw [n2_s]; rfl); have n2_1 : X2.ns[1]? = some ("script" : Str) := (by rw [n2_s]; rfl); (zFr (zY (zA K2 0 n2_0 (by decide)) (zq K2 (h2.glob (by kernel_rfl)) W2.n_len (by kernel_rfl) (by decide) (by decide) rfl (zA K2 1 n2_1 (by decide)) b_len) op_lt rfl) (zK (zAA (fun _ _ => rfl) (zA K2 1 n2_1 (by decide)) (zA K2 0 n2_0 (by decide))) zF zA3) (zAA (fun _ _ => rfl) (zAc K2 (zL zj zF (zL zj zF (zL zj zF zR)))) (zA K2 0 n2_0 (by decide))))))) (zAf (SndR.to1 (zN K 3 n_3 (own _) rfl (zA4 K zR))) (zAf (SndR.to1 (zBS K 4 n_4 (own _) (fun _ => rfl) (zAs K (zA K 2 n_2 (by decide))) (zB (zN K 3 n_3 (own _) rfl (zK (zA K 3 n_3 (by decide)) (zAF K ((h.kind _).trans (by kernel_rfl)) W.f_law_octets (by decide) (zLU W) (Nat.le_trans (by decide) hd) (zL zf (zA K 4 n_4 (by decide)) zR) rfl) (zS K))) zJ))) (zAf (SndR.to1 (zN K 5 n_5 (own _) rfl (zq K ((h.kind _).trans (by kernel_rfl)) W.n_iter (by kernel_rfl) (by decide) (by decide) rfl (zA K 3 n_3 (by decide)) (zJS K)))) (zAf (SndR.to1 (zN K 6 n_6 (own _) rfl (zA4 K zR))) (zAf (zKq K W.f_parse_varint zLM (Nat.le_trans (by decide) hd) W.n_next W.n_StopIteration ((h.kind _).trans (by kernel_rfl)) ((h.kind _).trans (by kernel_rfl)) (by decide) 6 5 2 100 n_6 n_5 n_2 (by decide) (by decide) (by decide) hi rfl (zB (zAp hi rfl (zA6 rfl rfl rfl (zA K 6 n_6 (by decide)) (zAF K ((h.kind _).trans (by kernel_rfl)) W.f_parse_varint (by decide) (zLL W) (Nat.le_trans (by decide) hd) (zL zf (zA K 5 n_5 (by decide)) zR) rfl))) zJ)) (zAf (SndR.to1 (zEd K 7 (caps := [1]) (zBG h n_s (by kernel_rfl) (by decide +kernel) (by kernel_rfl) (by kernel_rfl) (by kernel_rfl)) rfl n_7 (own _) (zEh h (by kernel_rfl) (by kernel_rfl) (by kernel_rfl)) (fun _ => rfl) (zAs K (zA K 6 n_6 (by decide))) (fun _ _ => rfl) (fun X2 h2 => have K2 := h2.ok; have W2 : W1 X2.G := h2.g.symm ▸ W; have hd2 := Nat.le_trans hd (Nat.le_of_eq h2.d.symm); have n2_s : X2.ns = (["number", "size"] : List Str) := h2.ns.trans (by kernel_rfl); have n2_0 : X2.ns[0]? = some ("number" : Str) := (by rw [n2_s]; rfl); have n2_1 : X2.ns[1]? = some ("size" : Str) := (by rw [n2_s]; rfl); zBR K2 0 n2_0 (fun q => (nomatch (h2.loc (by kernel_rfl)).symm.trans q))) (fun _ _ => zDW) (fun X2 h2 => have K2 := h2.ok; have W2 : W1 X2.G := h2.g.symm ▸ W; have hd2 := Nat.le_trans hd (Nat.le_of_eq h2.d.symm); have n2_s : X2.ns = (["number", "size"] : List Str) := h2.ns.trans (by kernel_rfl); have n2_0 : X2.ns[0]? = some ("number" : Str) := (by rw [n2_s]; rfl); have n2_1 : X2.ns[1]? = some ("size" : Str) := (by rw [n2_s]; rfl); (zK (zA K2 0 n2_0 (by decide)) (zA K2 1 n2_1 (by decide)) zA3)))) (zAf (SndR.to1 (zN K 8 n_8 (own _) rfl (zAF K ((h.kind _).trans (by kernel_rfl)) W.f_law_ties (by decide) (zLc W) (Nat.le_trans (by decide) hd) (zL zf (zA K 7 n_7 (by decide)) (zL zf (zA K 1 n_1 (by decide)) zR)) rfl))) (zAf (SndR.to1 (zN K 9 n_9 (own _) rfl (zK (zK (zq K ((h.kind _).trans (by kernel_rfl)) W.n_sum (by kernel_rfl) (by decide) (by decide) rfl (zA K 0 n_0 (by decide)) b_sum) zF (zS K)) zF zA3))) (zAf (SndR.to1 (zKo K n_10 n_11 (own _) (own _) rfl rfl (zAF K ((h.kind _).trans (by kernel_rfl)) W.f_law_due (by decide) (zLj W) (Nat.le_trans (by decide) hd) (zL zf (zA K 7 n_7 (by decide)) (zL zf (zA K 1 n_1 (by decide)) zR)) rfl))) (zAf (SndR.to1 (zBS K 12 n_12 (own _) (fun _ => rfl) (zAs K (zAc K (zL zj zF (zL zj zF zR)))) (zB (zN K 13 n_13 (own _) rfl (zAF K ((h.kind _).trans (by kernel_rfl)) W.f_law_drawn (by decide) (zGz W 7) (Nat.le_trans (by decide) hd) (zL rfl (zK (zK (zA K 9 n_9 (by decide)) (zK zF (zA K 12 n_12 (by decide)) zEM) zCW) (zA K 1 n_1 (by decide)) zA3) (zL rfl (zAk zF) (zL zf (zA K 8 n_8 (by decide)) (zL rfl (zEG (zK (zK (zA K 9 n_9 (by decide)) (zA K 12 n_12 (by decide)) (zS K)) zF zA3) zF op_eq rfl) (zL rfl (zK (zA K 9 n_9 (by decide)) (zK zF (zA K 12 n_12 (by decide)) zEM) zCW) zR))))) rfl)) (zB (zN K 14 n_14 (own _) rfl (zAF K ((h.kind _).trans (by kernel_rfl)) W.f_law_cut (by decide) (zLh W) (Nat.le_trans (by decide) hd) (zL rfl (zAF K ((h.kind _).trans (by kernel_rfl)) W.f_law_prepared (by decide) (zLa W) (Nat.le_trans (by decide) hd) (zL zf (zA K 13 n_13 (by decide)) zR) rfl) (zL zf (zA K 1 n_1 (by decide)) zR)) rfl)) (zB (zd (zY (zAR K (zA K 14 n_14 (by decide)) zAX (zAB (zAk zF))) (zA K 10 n_10 (by decide)) op_ne rfl) (zB (zb zAV) zJ) zJ) (zB (zd (zY (zAA (fun _ _ => rfl) (zA K 14 n_14 (by decide)) (zAk zF)) (zAc K (zL rfl (zK (zK (zK (zK zW (zAA (fun _ _ => rfl) (zA K 11 n_11 (by decide)) zF) (zS K)) zW (zS K)) (zAA (fun _ _ => rfl) (zA K 11 n_11 (by decide)) zF) (zS K)) zW (zS K)) (zL rfl (zK (zK (zK (zK zW (zAA (fun _ _ => rfl) (zA K 11 n_11 (by decide)) zF) (zS K)) zW (zS K)) (zAA (fun _ _ => rfl) (zA K 11 n_11 (by decide)) zF) (zS K)) zW (zS K)) zR))) zCY rfl) (zB (zb zAV) zJ) zJ) zJ)))))) (zAf (SndR.to1 (zb zAV)) (SndR.to1 zJ))))))))))))))
theorem zLk {G : Ctx} (hG : GOK G) {d : DefRec} {a : Addr} (F : FnOK G d a) {ps : List Str} (D : DefOK d ps) {n : Nat} {mb : PM PF} (hb : ∀ X', InF G d n X' → SndB1 X' d.body mb)
  (hd : 8 * (n + 1) ≤ 500 ∧ 100 * (n + 1) ≤ 8000) {A : Around} (hAh : A.handled = none) (hAf : A.frames = some []) (hdep : A.depth ≤ 400) (hun : A.units ≤ 1000) {s : Shared} {la : Addr} {xs : List PV} {rvs : List Value} {nn : Nat} {s2 : PSt} {f : PF} {Q : Value → Shared → Prop} {E : Value → Shared → Prop}
  (hT : 1 ≤ s.toks) (hh : ∀ a o, G.h₀.get? a = some o → s.heap.get? a = some o) (hbare : AllBare s.gens) (hla : s.heap.get? la = some { cls := .type "list", data := .seq (List.toArray rvs) nn }) (hxs : VRels [la] xs rvs) (hl : 1 = ps.length)
  (em : mb { vars := zX (nsOf d.scope).length [.ref 0], hp := [(true, .list xs)] } = some (f, s2))
  (hQ : ∀ rf s'' ρ'' , (∀ a o, s.heap.get? a = some o → s''.heap.get? a = some o) → AllBare s''.gens → s''.os = s.os → FRel ρ'' f rf → Q (match rf with | .ret v => v | _ => .none) s'') :
  wpAny (model G.prog G.w) A (PySem.call (.ref a) [.ref la] []) Q E s := by
 have hr : VRels [la] [.ref 0] [.ref la] := .cons (.ref rfl) .nil
 let args : List PV := [.ref 0]
 let rargs : List Value := [.ref la]
 let ρ : List Addr := [la]
 let P : Prot := ⟨s.heap.get?, fun _ => False, fun _ => none, s.os⟩
 obtain ⟨pm, code, doc, ho, hc⟩ := F
 have hl : args.length = ps.length := hl
 have hlv : rargs.length = ps.length := hl
 have hoS := hh _ _ ho
 have hcS : s.heap.CodeRec (.ref code) d.name := hc.at fun o e => hh _ _ e
 have hlim : s.heap.NoLimit := hG.nolim.at fun o e => hh _ _ e
 have hnames := D.nd
 have hpsn : ps.Nodup := by
  obtain ⟨t, ht⟩ := D.pre
  have := zDO D.nd
  rw [← ht] at this
  exact (List.nodup_append.mp this).1
 have hkind : ∀ x ∈ ps, d.scope.names.lookup x = some .local ∨ d.scope.names.lookup x = some .cell := fun x hx => by
  obtain ⟨k, h1, h2⟩ := zDN (D.pre.subset hx)
  rw [zAr D.nd h1]
  rcases h2 with rfl | rfl
  ·exact .inl rfl
  ·exact .inr rfl
 refine wpAny_call (zKY hT (fd := d.data pm (.ref code) doc) (body := d.body) (binds := ps.zip rargs) (by show A.depth < 1000; lia) hoS rfl hlim hcS rfl (D.bind _ _ _ rargs hlv) rfl ?_ ?_ D.co D.gen D.kind)
 ·intro x hx
  have hx1 : x.1 ∈ ps := (List.of_mem_zip hx).1
  rcases hkind x.1 hx1 with h | h
  ·exact .inl h
  ·refine .inr ⟨h, ?_⟩
   obtain ⟨c, hc⟩ := zB2 d.scope.names (s.heap.objs.size + 1) [] x.1 (.inl (mem_of_lookup h))
   show ((cellsFrom (s.heap.objs.size + 1) d.scope.names []).lookup x.1).isSome = true
   rw [hc]
   rfl
 ·intro s₁ C hT1
  have hsc : (callEnvC (d.data pm (.ref code) doc) s.heap.objs.size a).scope = d.scope := rfl
  have hloc : (callEnvC (d.data pm (.ref code) doc) s.heap.objs.size a).locals = s.heap.objs.size := rfl
  have hcells : (callEnvC (d.data pm (.ref code) doc) s.heap.objs.size a).cells = cellsFrom (s.heap.objs.size + 1) d.scope.names [] := rfl
  have hglob : (callEnvC (d.data pm (.ref code) doc) s.heap.objs.size a).globals = mainGlobals := rfl
  have hblt : (callEnvC (d.data pm (.ref code) doc) s.heap.objs.size a).builtins = builtinsNs := rfl
  have hfrm : (callEnvC (d.data pm (.ref code) doc) s.heap.objs.size a).frame = some (callEnvC (d.data pm (.ref code) doc) s.heap.objs.size a).locals := rfl
  generalize callEnvC (d.data pm (.ref code) doc) s.heap.objs.size a = env at *
  have kindOf : ∀ x, env.kindOf x = d.scope.names.lookup x := fun x => by unfold Env.kindOf; rw [hsc]
  have hfresh : ∀ c, s.heap.objs.size ≤ c → c ∉ ρ ∧ P.B c = none := fun c hc0 => by
   refine ⟨fun q => ?_, ?_⟩
   ·obtain rfl := List.mem_singleton.mp q
    exact absurd (Heap.lt_size hla) (Nat.not_lt.mpr hc0)
   ·cases e : s.heap.get? c with
    | none => exact e
    | some o => exact absurd (Heap.lt_size e) (Nat.not_lt.mpr hc0)
  have hcellmem : ∀ x c, env.cells.lookup x = some c → env.kindOf x = some .cell ∧ x ∈ nsOf d.scope ∧ s.heap.objs.size < c := fun x c h => by
   have h1 := mem_of_lookup h
   have h3 := C.above x c h1
   rw [hcells] at h1
   rcases zDM _ _ _ x c h1 with h2 | h2
   ·exact ⟨(kindOf x).trans (zAr D.nd h2), zF7 h2 (.inr rfl), hloc ▸ h3⟩
   ·cases h2
  let X' : Stat := ⟨G, env, nsOf d.scope, true, n⟩
  have K' : XOK X' := by
   refine ⟨hsc ▸ D.kind, hglob, hblt, zDO D.nd, hG, ?_, ?_, ?_⟩
   ·intro x y c h1 h2
    exact name_of_addr C.apart (mem_of_lookup h1) (mem_of_lookup h2)
   ·intro x hx
    obtain ⟨k, h1, h2⟩ := zDN hx
    rw [show X'.env.kindOf x = _ from (kindOf x).trans (zAr D.nd h1)]
    rcases h2 with rfl | rfl
    ·exact .inl rfl
    ·exact .inr rfl
   ·intro x c h
    obtain ⟨h1, h2, _⟩ := hcellmem x c h
    exact ⟨h2, h1⟩
  have fr : FrOK X' P.B ρ (args.map some ++ List.replicate ((nsOf d.scope).length - args.length) none) s₁.heap := by
   obtain ⟨f1, f2⟩ := hfresh _ (Nat.le_refl _)
   have hple : ps.length ≤ (nsOf d.scope).length := D.pre.length_le
   have argAt : ∀ (i : Nat) (x : Str) (v : PV), (nsOf d.scope)[i]? = some x → args[i]? = some v → ps[i]? = some x ∧ ∃ rv, rargs[i]? = some rv ∧ VRel ρ v rv := fun i x v h1 h3 => by
    have hi : i < ps.length := by
     rw [← hl]
     exact (List.getElem?_eq_some_iff.mp h3).1
    exact ⟨zF8 D.pre h1 hi, hr.get h3⟩
   refine ⟨by show P.B env.locals = none; rw [hloc]; exact f2, by show env.locals ∉ ρ; rw [hloc]; exact f1, ⟨_, C.toInCall.ns, fun i x v h1 h2 h3 => ?_⟩, fun i x h1 h2 => ?_, ?_⟩
   ·obtain ⟨h4, rv, h5, h6⟩ := argAt i x v h1 (zDP h3)
    exact ⟨rv, zEW h2 ps rargs _ i hpsn h4 h5, h6⟩
   ·have h2' : d.scope.names.lookup x = some .cell := (kindOf x).symm.trans h2
    obtain ⟨c, hc⟩ := zB2 d.scope.names (s.heap.objs.size + 1) [] x (.inl (mem_of_lookup h2'))
    rw [← hcells] at hc
    have hlt := (hcellmem x c hc).2.2
    obtain ⟨g1, g2⟩ := hfresh c (Nat.le_of_lt hlt)
    refine ⟨c, _, hc, ?_, g1, fun _ => g2, C.cell x c hc, fun v h3 => ?_⟩
    ·show c ≠ env.locals
     rw [hloc]
     exact Nat.ne_of_gt hlt
    ·obtain ⟨h4, rv, h5, h6⟩ := argAt i x v h1 (zDP h3)
     exact ⟨rv, zEX (by rw [h2]; decide) ps rargs _ i hpsn h4 h5, h6⟩
   ·show _ = (nsOf d.scope).length
    simp only [List.length_append, List.length_map, List.length_replicate]
    lia
  obtain ⟨h', tk, rfl, keep⟩ := C.done
  have I' : Inv X' P ρ { vars := args.map some ++ List.replicate ((nsOf d.scope).length - args.length) none, hp := [(true, .list xs)] } { s with heap := h', toks := tk } := by
   refine ⟨fun b o e => keep _ _ e, fun b o e => hh _ _ e, fun _ q => q.elim, by simp [ρ], rfl, ?_, ?_, hbare, fun _ _ e => (zC e), rfl, fr⟩
   ·intro i b c h1 h2
    cases i with
    | zero =>
     simp only [List.getElem?_cons_zero, Option.some.injEq, ρ] at h1 h2
     subst h1 h2
     exact ⟨rvs, nn, keep _ _ hla, hxs⟩
    | succ i => simp [ρ] at h1
   ·intro i b c h1 h2 _
    cases i with
    | zero =>
     simp only [List.getElem?_cons_zero, Option.some.injEq, ρ] at h1 h2
     subst h2
     rfl
    | succ i => simp [ρ] at h1
  have hA' : AOK X'.d (A.deeper env) := ⟨hAh, by show A.depth + 1 + 8 * n ≤ 950; lia, by show A.units + 3 + 100 * n ≤ 9000; lia⟩
  have hInF : InF G d n X' := ⟨rfl, hsc, rfl, rfl, rfl, K'⟩
  exact (hb X' hInF).run List.nil_prefix ⟨hA', by show A.frames.map _ = _; rw [hAf]; rfl, hfrm⟩ I' hT1 em fun f s'' ρ'' _ hp'' I'' hf => hQ f s'' ρ'' (fun b o e => I''.held b o e) I''.bare I''.os hf
theorem zG0 {R : WRecords} : ∀ {xs : List WData}, WShape.hasItems R xs .int = true → ∃ ns : List Int, xs = ns.map .int
 | [], _ => ⟨[], rfl⟩
 | x :: xs, h => by
  simp only [WShape.hasItems, Bool.and_eq_true] at h
  obtain ⟨i, rfl⟩ := hasW_int h.1
  obtain ⟨ns, rfl⟩ := zG0 h.2
  exact ⟨i :: ns, rfl⟩
theorem zG1 {R : WRecords} {cl : Str → Option Addr} {P : Params} {ord : List DictEntry → List DictEntry} {ρ : List Addr} : ∀ {ns : List Int} {s : Shared} {r : List Value × Shared}, layAllW R cl P ord (ns.map .int) s = some r → VRels ρ (ns.map .int) r.1
 | [], s, r, h => by
  simp [layAllW] at h
  subst h
  exact .nil
 | n :: ns, s, r, h => by
  obtain ⟨a, q, h1, h2, rfl⟩ := layAllW_cons h
  simp [layW] at h1
  subst h1
  exact .cons (.int n _) (zG1 h2)
theorem zLl {l : OpenLaw} {rs : World → List SR} {d : DefRec} {p : Str} {pb : PM PF} {n k : Nat} (hn : 8 * (n + 1) ≤ 500 ∧ 100 * (n + 1) ≤ 8000)
  (hw : ∀ (w : World) (s₀ s₁ s₂ : Shared) (mg : Str → Option Value) (c Pl : Addr) (mb : Str → Option Value), TS s₀ c Pl mb (zAQ (rs w) []) (zBC (rs w) []) mg s₁ → zBB (zAb (rs w) []) Pl mg s₁.heap → GOK ⟨l.prog, w, s₂.heap, mg, mb⟩ →
   (∀ b o, s₁.heap.get? b = some o → s₂.heap.get? b = some o) → FnN ⟨l.prog, w, s₂.heap, mg, mb⟩ l.name d ∧ ∀ X', InF ⟨l.prog, w, s₂.heap, mg, mb⟩ d n X' → SndB1 X' d.body pb)
  (D : DefOK d [p]) (hk : (nsOf d.scope).length = k) (hmost : l.most = some 63)
  (plain : ∀ ns : List Int, ns.length ≤ 63 → ∃ s', pb { vars := zX k [.ref 0], hp := [(true, .list (ns.map .int))] } = some (.ret (.bool true), s'))
  (hpost : ∀ args, l.row.claim.post args (.bool true) args = true) : zEE l rs := by
 intro w s₀ s₁ s₂ mg c Pl mb T H hnl args vs as hpre hlay L ht2
 obtain ⟨lp, m, _⟩ := T.main
 have hG : GOK ⟨l.prog, w, s₂.heap, mg, mb⟩ := ⟨m.g.keeps L.keeps, (T.mb0.at' fun o e => T.keep _ o (by decide) e).keeps L.keeps, T.mbs, hnl.at fun o e => L.keeps _ _ e⟩
 obtain ⟨⟨a, ha, F⟩, hb⟩ := hw w s₀ s₁ s₂ mg c Pl mb T H hG L.keeps
 refine ⟨.ref a, ha, ?_⟩
 obtain ⟨q1, q2⟩ := pre_splitW (r := l.row.toRowW) hpre
 obtain ⟨d1, r1, rfl, h1, h2⟩ := hasAllW_cons q1
 obtain rfl := hasAllW_nil h2
 obtain ⟨xs, rfl, h3⟩ := hasW_list h1
 obtain ⟨ns, rfl⟩ := zG0 h3
 obtain ⟨ord, hord, hl⟩ := L.laid
 obtain ⟨x, q, e1, e2, e3⟩ := layAllW_cons hl
 obtain ⟨r, e4, rfl⟩ := layW_list e1
 simp only [layAllW, Option.some.injEq] at e2
 subst e2
 obtain ⟨rfl, rfl⟩ := Prod.mk.inj e3
 have hlen : ns.length ≤ 63 := by
  have := q2
  show ns.length ≤ 63
  rw [← List.length_map (as := ns) (f := WData.int)]
  generalize ns.map WData.int = ds at this ⊢
  refine Nat.not_lt.mp fun hlt => ?_
  have h5 : Num.less? (WData.int 63) (WData.int ds.length) = some true := by
   show some (decide ((63 : Int) < ds.length)) = _
   rw [decide_eq_true (by lia)]
  simp [OpenLaw.row, OpenLaw.pre, hmost, WTm.holds, WTm.value, less?, h5] at this
 obtain ⟨s', es⟩ := plain ns hlen
 refine zLk hG F D hb hn rfl rfl (by decide) (by decide) ht2 (fun _ _ e => e) (AllBare.of_eq L.gens) (Heap.get?_push_size _ rfl) (zG1 (ρ := [r.2.heap.objs.size]) e4) rfl (by rw [hk]; exact es) fun rf s'' ρ'' keep bare os hf => ?_
 cases hf with
 | ret hv =>
  cases hv
  exact ⟨.inl ⟨_, _, [], rfl, fun _ => rfl, ReadsW.bool true, hpost _, fun _ => ⟨List.nodup_nil, fun _ hm => (nomatch hm)⟩⟩, .of_keep keep, os, bare⟩
theorem zAn {ns : List Str} {x : Str} (h : ns.contains x = false) : x ∉ ns := fun hm => by rw [List.contains_iff_mem.mpr hm] at h; cases h
theorem zG2 : ∀ (rs : List SR) (fs : List (Str × Fact)) (f : Str × Fact), f ∈ fs → (rs.all fun q => f.1 != q.x) = true → f ∈ zAb rs fs
 | [], _, _, h, _ => h
 | q :: rs, fs, f, h, hn => by
  rw [List.all_cons, Bool.and_eq_true] at hn
  exact zG2 rs _ f (.tail _ (List.mem_filter.mpr ⟨h, hn.1⟩)) hn.2
theorem zw : ∀ (i : Nat) (rs : List SR) (fs : List (Str × Fact)) (r : SR), rs[i]? = some r → ((rs.drop (i + 1)).all fun q => r.x != q.x) = true → (r.x, r.P) ∈ zAb rs fs
 | 0, q :: rs, fs, r, h, hn => by
  simp only [List.getElem?_cons_zero, Option.some.injEq] at h
  subst h
  exact zG2 rs _ _ (.head _) (by simpa using hn)
 | i + 1, q :: rs, fs, r, h, hn => by
  exact zw i rs _ r (by simpa using h) (by simpa using hn)
 | i, [], fs, r, h, hn => by simp at h
theorem zAL {G : Ctx} {d : DefRec} {Pl : Addr} {h : Heap} {v : Value} {x : Str} (keeps : ∀ b o, h.get? b = some o → G.h₀.get? b = some o) (e : G.mg x = some v) (F : zm d Pl h v) : FnN G x d := by
 obtain ⟨a, pm, code, doc, rfl, ho, hc, _, _⟩ := F
 exact ⟨a, e, pm, code, doc, keeps _ _ ho, hc.at fun o e => keeps _ _ e⟩
section
variable {w : World} {s₀ s₁ s₂ : Shared} {mg : Str → Option Value} {c Pl : Addr} {mb : Str → Option Value}
theorem mkW1 (T : TS s₀ c Pl mb (zAQ (rs w) []) (zBC (rs w) []) mg s₁) (H : zBB (zAb (rs w) []) Pl mg s₁.heap) (hG : GOK ⟨PySem.Challenge.pw_st0032_03, w, s₂.heap, mg, mb⟩)
  (keeps : ∀ b o, s₁.heap.get? b = some o → s₂.heap.get? b = some o) : W1 ⟨PySem.Challenge.pw_st0032_03, w, s₂.heap, mg, mb⟩ := by
 apply byC; intro kz; obtain ⟨_, m, _⟩ := T.main; apply kz; clear kz
 have hPl : sysModules < Pl := Nat.lt_of_lt_of_le T.low T.hP
 refine ⟨hG, ?_, ?_, ?_, ?_, ?_, ?_, ?_, ?_, ?_, ?_, ?_, ?_, ?_, ?_, ?_, ?_, ?_, ?_, ?_, ?_, ?_, ?_, ?_, ?_, ?_, ?_, ?_, ?_, ?_, ?_, ?_, ?_⟩
 ·apply byC; intro kz; obtain ⟨v, e, F⟩ := H _ (zw 1 (rs w) [] _ rfl (by kernel_rfl)); apply kz; clear kz
  exact zAL keeps e F
 ·apply byC; intro kz; obtain ⟨v, e, F⟩ := H _ (zw 2 (rs w) [] _ rfl (by kernel_rfl)); apply kz; clear kz
  exact zAL keeps e F
 ·apply byC; intro kz; obtain ⟨v, e, F⟩ := H _ (zw 3 (rs w) [] _ rfl (by kernel_rfl)); apply kz; clear kz
  exact zAL keeps e F
 ·apply byC; intro kz; obtain ⟨v, e, F⟩ := H _ (zw 5 (rs w) [] _ rfl (by kernel_rfl)); apply kz; clear kz
  exact zAL keeps e F
 ·apply byC; intro kz; obtain ⟨v, e, F⟩ := H _ (zw 8 (rs w) [] _ rfl (by kernel_rfl)); apply kz; clear kz
  exact zAL keeps e F
 ·apply byC; intro kz; obtain ⟨v, e, F⟩ := H _ (zw 11 (rs w) [] _ rfl (by kernel_rfl)); apply kz; clear kz
  exact zAL keeps e F
 ·apply byC; intro kz; obtain ⟨v, e, F⟩ := H _ (zw 13 (rs w) [] _ rfl (by kernel_rfl)); apply kz; clear kz
  exact zAL keeps e F
 ·apply byC; intro kz; obtain ⟨v, e, F⟩ := H _ (zw 15 (rs w) [] _ rfl (by kernel_rfl)); apply kz; clear kz
  exact zAL keeps e F
 ·apply byC; intro kz; obtain ⟨v, e, F⟩ := H _ (zw 16 (rs w) [] _ rfl (by kernel_rfl)); apply kz; clear kz
  exact zAL keeps e F
 ·apply byC; intro kz; obtain ⟨v, e, F⟩ := H _ (zw 17 (rs w) [] _ rfl (by kernel_rfl)); apply kz; clear kz
  exact zAL keeps e F
 ·apply byC; intro kz; obtain ⟨v, e, F⟩ := H _ (zw 18 (rs w) [] _ rfl (by kernel_rfl)); apply kz; clear kz
  exact zAL keeps e F
 ·apply byC; intro kz; obtain ⟨v, e, F⟩ := H _ (zw 19 (rs w) [] _ rfl (by kernel_rfl)); apply kz; clear kz
  exact zAL keeps e F
 ·apply byC; intro kz; obtain ⟨v, e, F⟩ := H _ (zw 20 (rs w) [] _ rfl (by kernel_rfl)); apply kz; clear kz
  exact zAL keeps e F
 ·apply byC; intro kz; obtain ⟨v, e, F⟩ := H _ (zw 21 (rs w) [] _ rfl (by kernel_rfl)); apply kz; clear kz
  exact zAL keeps e F
 ·apply byC; intro kz; obtain ⟨v, e, F⟩ := H _ (zw 22 (rs w) [] _ rfl (by kernel_rfl)); apply kz; clear kz
  exact zAL keeps e F
 ·apply byC; intro kz; obtain ⟨v, e, F⟩ := H _ (zw 23 (rs w) [] _ rfl (by kernel_rfl)); apply kz; clear kz
  exact zAL keeps e F
 ·apply byC; intro kz; obtain ⟨v, e, F⟩ := H _ (zw 24 (rs w) [] _ rfl (by kernel_rfl)); apply kz; clear kz
  exact zAL keeps e F
 ·exact T.dom _ (zAn (by kernel_rfl)) (by decide +kernel)
 ·exact T.dom _ (zAn (by kernel_rfl)) (by decide +kernel)
 ·exact T.dom _ (zAn (by kernel_rfl)) (by decide +kernel)
 ·exact T.dom _ (zAn (by kernel_rfl)) (by decide +kernel)
 ·exact T.dom _ (zAn (by kernel_rfl)) (by decide +kernel)
 ·exact T.dom _ (zAn (by kernel_rfl)) (by decide +kernel)
 ·exact T.dom _ (zAn (by kernel_rfl)) (by decide +kernel)
 ·exact T.dom _ (zAn (by kernel_rfl)) (by decide +kernel)
 ·exact T.dom _ (zAn (by kernel_rfl)) (by decide +kernel)
 ·exact T.dom _ (zAn (by kernel_rfl)) (by decide +kernel)
 ·exact T.dom _ (zAn (by kernel_rfl)) (by decide +kernel)
 ·exact T.dom _ (zAn (by kernel_rfl)) (by decide +kernel)
 ·apply byC; intro kz; obtain ⟨v, e, t, rfl⟩ := H _ (zw 7 (rs w) [] _ rfl (by kernel_rfl)); apply kz; clear kz
  exact ⟨t, e⟩
 ·apply byC; intro kz; obtain ⟨v, e, a, kvs, rfl, h1, h2, h3⟩ := H _ (zw 12 (rs w) [] _ rfl (by kernel_rfl)); apply kz; clear kz
  exact ⟨a, kvs, e, beq_false_of_ne (Nat.ne_of_gt (Nat.lt_trans hPl h1)), h2, h3.at fun o e => keeps _ _ e⟩
 ·apply byC; intro kz; obtain ⟨v, e, a, S, n, rfl, h1, h2, h3⟩ := H _ (zw 10 (rs w) [] _ rfl (by kernel_rfl)); apply kz; clear kz
  apply byC; intro kz; obtain ⟨o, es, ep, t, ho, r⟩ := h2; apply kz; clear kz
  exact ⟨a, S, n, e, ⟨o, es, ep, t, keeps _ _ ho, r⟩, h3⟩
end
theorem holds_of_plain (plain : ∀ ns : List Int, ns.length ≤ 63 → ∃ s', pblaw { vars := zX 15 [.ref 0], hp := [(true, .list (ns.map .int))] } = some (.ret (.bool true), s')) : PySem.Challenge.rw_st0032_03.Holds := by
 refine zLH (zLl (d := d24) (pb := pblaw) (n := 8) (by decide) (fun w s₀ s₁ s₂ mg c Pl mb T H hG keeps => ?_) dok24 (by rw [ns24]; rfl) rfl plain (fun args => ?_))
 ·have W := mkW1 T H hG keeps
  exact ⟨W.flaw, fun X h => sblaw (h.g ▸ W) ⟨rfl, h.sc, h.ns, h.own, h.d, h.ok⟩⟩
 ·kernel_rfl
section
open Builtin Builtin.Str
noncomputable def S (l : List Nat) : Str := ⟨l.toArray⟩
theorem S_cps (l : List Nat) : (S l).cps.toList = l := rfl
theorem S_len (l : List Nat) : (S l).length = l.length := by simp [S, Str.length]
theorem S_app (a b : List Nat) : S a ++ S b = S (a ++ b) := StrLaws.mk_of_toList (by rw [Str.cps_append, Array.toList_append]; rfl)
theorem S_eta (x : Str) : S x.cps.toList = x := rfl
theorem S_inj {a b : List Nat} (h : S a = S b) : a = b := by
 have := congrArg (fun x : Str => x.cps.toList) h
 exact this
theorem S_beq (a b : List Nat) : (S a == S b) = (a == b) := by
 by_cases h : a = b
 ·subst h; simp
 ·rw [beq_eq_false_iff_ne.mpr h, beq_eq_false_iff_ne.mpr fun e => h (S_inj e)]
theorem zCn (x y : List Nat) (i : Nat) : StrLaws.At (S x) (S y) (S x).length i ↔ i + y.length ≤ x.length ∧ y <+: x.drop i := by
 unfold StrLaws.At
 rw [StrLaws.subAt_eq, S_len, S_len, S_cps, S_cps, beq_iff_eq, List.prefix_iff_eq_take]
 constructor <;> rintro ⟨h1, h2⟩ <;> exact ⟨h1, h2.symm⟩
theorem zLm {x y : List Nat} (hy : y ≠ []) {i : Nat} (h : y <+: x.drop i) : i + y.length ≤ x.length := by
 have h1 := h.length_le
 rw [List.length_drop] at h1
 have : 0 < y.length := List.length_pos_iff.mpr hy
 lia
theorem zBj {x y : List Nat} (hy : y ≠ []) (i : Nat) : StrLaws.At (S x) (S y) (S x).length i ↔ y <+: x.drop i := by
 rw [zCn]
 exact ⟨fun h => h.2, fun h => ⟨zLm hy h, h⟩⟩
theorem zLn {x y : List Nat} {i : Nat} (hy : y ≠ []) (h : y <+: x.drop i) (hn : ∀ k, k < i → ¬ y <+: x.drop k) : Txt.find (S x) (S y) = i := by
 unfold Txt.find
 rcases StrLaws.occ_head (S x) (S y) 1 (Nat.le_refl _) with ⟨h1, h2⟩ | ⟨j, r, h1, h2, h3⟩
 ·exact absurd ((zBj hy i).mpr h) (h2 i)
 ·rw [h1]
  rw [zBj hy] at h2
  have a1 : ¬ j < i := fun q => hn j q h2
  have a2 : ¬ i < j := fun q => h3 i q ((zBj hy i).mpr h)
  have : j = i := by lia
  rw [this]
theorem zG3 (n k : Nat) : fromIndex n (k : Int) = k := by
 unfold fromIndex
 rw [if_neg (by lia)]
 lia
theorem zEv {x y : List Nat} : Txt.contains (S x) (S y) = true ↔ ∃ i, i + y.length ≤ x.length ∧ y <+: x.drop i := by
 unfold Txt.contains
 rw [StrLaws.found_iff]
 constructor
 ·rintro ⟨i, h1, h2⟩; exact ⟨i, (zCn x y i).mp ⟨h1, h2⟩⟩
 ·rintro ⟨i, h⟩; exact ⟨i, (zCn x y i).mpr h⟩
theorem zEw (x : List Nat) {a b : Nat} (hab : a ≤ b) (hb : b ≤ x.length) : Txt.slice (S x) (some (a : Int)) (some (b : Int)) = S ((x.drop a).take (b - a)) := by
 show StrLaws.sliceText _ _ _ = _
 rw [StrLaws.sliceText_nat _ hab (by rw [S_len]; exact hb)]
 rfl
theorem zG4 (x : List Nat) {a : Nat} (ha : a ≤ x.length) : Txt.slice (S x) (some (a : Int)) none = S (x.drop a) := by
 show StrLaws.sliceText _ _ _ = _
 rw [StrLaws.sliceText_from ⟨by lia, by rw [S_cps]; lia⟩, S_cps]
 have e1 : ((a : Nat) : Int).toNat = a := by lia
 have e2 : ((x.length : Int) - (a : Int)).toNat = (x.drop a).length := by rw [List.length_drop]; lia
 rw [e1, e2, List.take_length]
 rfl
theorem zLo (x : List Nat) {b : Nat} (hb : b ≤ x.length) : Txt.slice (S x) none (some (b : Int)) = S (x.take b) := by
 show StrLaws.sliceText _ _ _ = _
 rw [StrLaws.sliceText_to ⟨by lia, by rw [S_cps]; lia⟩, S_cps]
 have e2 : ((b : Int) - 0).toNat = b := by lia
 rw [e2, List.drop_zero]
 rfl
theorem zEx (sep : List Nat) : ∀ (ls : List (List Nat)), Txt.join (S sep) (ls.map S) = S (List.intercalate sep ls) := by
 intro ls
 show glued (S sep) (ls.map S) = _
 rw [StrLaws.glued_eq_join]
 induction ls with
 | nil => rfl
 | cons a r ih =>
  cases r with
  | nil => simp [List.intercalate, Str.join]
  | cons b t =>
   show S a ++ S sep ++ Str.join (S sep) ((b :: t).map S) = _
   rw [ih, S_app, S_app]
   simp [List.intercalate, List.append_assoc]
theorem zLp (ls : List (List Nat)) : Txt.join (S []) (ls.map S) = S ls.flatten := by
 rw [zEx]
 congr 1
 induction ls with
 | nil => rfl
 | cons a r ih =>
  cases r with
  | nil => simp [List.intercalate]
  | cons b t => 
   have : List.intercalate [] (a :: b :: t) = a ++ List.intercalate [] (b :: t) := by simp [List.intercalate]
   rw [this, ih]
   rfl
theorem zLq {sep : List Nat} {ls : List (List Nat)} (h : (ls.map List.length).sum + ls.length * sep.length ≤ 1000000) : JoinOk (S sep) (ls.map S) = true := by
 unfold JoinOk
 rw [StrLaws.joinTotal, List.map_map]
 have e : (Str.length ∘ S) = List.length := by funext l; exact S_len l
 rw [e, List.length_map, S_len, zGJ h]
 rfl
noncomputable def dots : List Nat := [46, 46, 46]
noncomputable def zBk : Nat → List (List Nat) → List Nat
 | a, p :: q :: r => (a + p.length) :: zBk (a + p.length + 3) (q :: r)
 | _, _ => []
theorem zCE (p q : List Nat) (r : List (List Nat)) : List.intercalate dots (p :: q :: r) = p ++ (dots ++ List.intercalate dots (q :: r)) := by simp [List.intercalate]
theorem zEy (p : List Nat) : List.intercalate dots [p] = p := by simp [List.intercalate]
theorem zG5 {x p t : List Nat} {a k : Nat} (hp : 46 ∉ p) (hx : x.drop a = p ++ t) (h1 : a ≤ k) (h2 : k < a + p.length) : ¬ dots <+: x.drop k := by
 intro h
 have h3 : (x.drop k)[0]? = some 46 := by
  obtain ⟨u, hu⟩ := h
  rw [← hu]
  rfl
 have h4 : (x.drop a)[k - a]? = some 46 := by
  rw [List.getElem?_drop] at h3 ⊢
  rw [← h3]
  congr 1
  lia
 rw [hx, List.getElem?_append_left (by lia)] at h4
 exact hp (List.mem_of_getElem? h4)
theorem zLr {x p : List Nat} {a k : Nat} (hp : 46 ∉ p) (hx : x.drop a = p) (h1 : a ≤ k) : ¬ dots <+: x.drop k := by
 by_cases h2 : k < a + p.length
 ·exact zG5 (t := []) hp (by rw [hx, List.append_nil]) h1 h2
 ·intro h
  have h3 := h.length_le
  have h4 := congrArg List.length hx
  rw [List.length_drop] at h3 h4
  simp [dots] at h3
  lia
theorem zG6 (x : List Nat) : ∀ (parts : List (List Nat)) (a : Nat) (cuts : List Nat) (f : Nat), parts ≠ [] → (∀ p ∈ parts, 46 ∉ p) → x.drop a = List.intercalate dots parts → StrLaws.ChainG (S x) (S dots) (S x).length a cuts f →
  (∀ k, f ≤ k → ¬ StrLaws.At (S x) (S dots) (S x).length k) → cuts = zBk a parts
 | [], _, _, _, h, _, _, _, _ => absurd rfl h
 | [p], a, cuts, f, _, hp, hx, hc, hf => by
  have hp := hp p (.head _)
  rw [zEy] at hx
  cases cuts with
  | nil => rfl
  | cons c r =>
   obtain ⟨h1, h2, _⟩ := hc
   exact absurd ((zBj (by decide) c).mp h2) (zLr hp hx h1)
 | p :: q :: r, a, cuts, f, _, hp, hx, hc, hf => by
  have hp0 := hp p (.head _)
  rw [zCE] at hx
  have hat : StrLaws.At (S x) (S dots) (S x).length (a + p.length) := by
   rw [zBj (by decide), ← List.drop_drop, hx, List.drop_left]
   exact List.prefix_append ..
  cases cuts with
  | nil =>
   have : f = a := hc
   exact absurd hat (hf _ (by lia))
  | cons c t =>
   obtain ⟨h1, h2, h3, h4⟩ := hc
   have h5 : ¬ c < a + p.length := fun q => zG5 hp0 hx h1 q ((zBj (by decide) c).mp h2)
   have h6 : ¬ a + p.length < c := fun q => h3 _ (by lia) q hat
   obtain rfl : c = a + p.length := by lia
   unfold zBk
   rw [zG6 x (q :: r) (a + p.length + 3) t f (by simp) (fun y hy => hp y (.tail _ hy)) ?_ h4 hf]
   have e : a + p.length + 3 = a + (p ++ dots).length := by simp [dots]; lia
   rw [e, ← List.drop_drop, hx, ← List.append_assoc, List.drop_left]
theorem zEz (x : List Nat) : ∀ (parts : List (List Nat)) (a : Nat), parts ≠ [] → x.drop a = List.intercalate dots parts → StrLaws.partsFrom (S x) 3 a (zBk a parts) = parts.map S
 | [], _, h, _ => absurd rfl h
 | [p], a, _, hx => by
  rw [zEy] at hx
  show [strSub (S x) a (S x).length] = [S p]
  have : strSub (S x) a (S x).length = S p := StrLaws.mk_of_toList (by
   rw [StrLaws.strSub_toList, S_cps, S_len, hx, ← hx, List.take_of_length_le (by rw [List.length_drop]; exact Nat.le_refl _)])
  rw [this]
 | p :: q :: r, a, _, hx => by
  rw [zCE] at hx
  show strSub (S x) a (a + p.length) :: StrLaws.partsFrom (S x) 3 (a + p.length + 3) (zBk (a + p.length + 3) (q :: r)) = S p :: (q :: r).map S
  have e : a + p.length + 3 = a + (p ++ dots).length := by simp [dots]; lia
  rw [zEz x (q :: r) (a + p.length + 3) (by simp) (by rw [e, ← List.drop_drop, hx, ← List.append_assoc, List.drop_left])]
  congr 1
  exact StrLaws.mk_of_toList (by
   rw [StrLaws.strSub_toList, S_cps, hx, Nat.add_sub_cancel_left, List.take_left])
theorem zLs (x : Str) : 1 ≤ Str.strKind x := by
 unfold Str.strKind
 split
 ·lia
 ·split <;> lia
theorem zG7 {parts : List (List Nat)} (h2 : 2 ≤ parts.length) (hp : ∀ p ∈ parts, 46 ∉ p) :
  occurrences (S (List.intercalate dots parts)) (S dots) 0 (S (List.intercalate dots parts)).length ((S (List.intercalate dots parts)).length + 1) = zBk 0 parts := by
 obtain ⟨f, h1, h3⟩ := StrLaws.occ_tight (S (List.intercalate dots parts)) (S dots) (by decide)
 exact zG6 _ parts 0 _ f (by rintro rfl; simp at h2) hp rfl h1 h3
theorem zLt {parts : List (List Nat)} (h2 : 2 ≤ parts.length) (hp : ∀ p ∈ parts, 46 ∉ p) : Txt.split (S (List.intercalate dots parts)) (S dots) = parts.map S := by
 unfold Txt.split
 obtain ⟨p, q, r, rfl⟩ : ∃ p q r, parts = p :: q :: r := by
  match parts, h2 with
  | p :: q :: r, _ => exact ⟨p, q, r, rfl⟩
 rw [if_neg, zG7 h2 hp, if_neg, StrLaws.partsBetween_eq]
 ·exact zEz _ _ 0 (by simp) rfl
 ·simp [zBk]
 ·have hk : Str.strKind (S dots) = 1 := by decide +kernel
  have hk2 := zLs (S (List.intercalate dots (p :: q :: r)))
  have hl : ¬ (S (List.intercalate dots (p :: q :: r))).length < (S dots).length := by
   rw [S_len, S_len, zCE]
   simp
   lia
  simp only [hk, Bool.or_eq_true, decide_eq_true_eq]
  lia
theorem zLu {p q : List Nat} {r : List (List Nat)} : Txt.contains (S (List.intercalate dots (p :: q :: r))) (S dots) = true := by
 rw [zEv]
 refine ⟨p.length, ?_, ?_⟩
 ·rw [zCE]; simp
 ·rw [zCE, List.drop_left]; exact List.prefix_append ..
end
section
variable {st st1 : PSt} {vs : List (Option PV)} {hp : List (Bool × PO)} {v : PV}
theorem zD {m k : PM PF} {R : Option (PF × PSt)} (h : m st = some (.next, st1)) (h2 : k st1 = R) : pSeq m k st = R := by
 unfold pSeq PM.bind; rw [h]; exact h2
theorem zZ {m k : PM PF} (h : m st = some (.ret v, st1)) : pSeq m k st = some (.ret v, st1) := by
 unfold pSeq PM.bind; rw [h]; rfl
theorem zM {i : Nat} {m : PM PV} (h : m st = some (v, ⟨vs, hp⟩)) : zG i m st = some (.next, ⟨vs.set i (some v), hp⟩) := by
 unfold zG PM.bind; rw [h]; rfl
theorem zx {m : PM PV} (h : m st = some (v, st1)) : zO m st = some (.ret v, st1) := by
 unfold zO PM.bind; rw [h]; rfl
theorem zP {t : PM Bool} {b o : PM PF} {c : Bool} {R : Option (PF × PSt)} (h : t st = some (c, st1)) (h2 : (if c then b else o) st1 = R) : pIf t b o st = R := by
 unfold pIf PM.bind; rw [h]; exact h2
theorem zE {f : PV → PV → PM PV} {l r : PM PV} {a b : PV} {st2 : PSt} {R : Option (PV × PSt)} (h1 : l st = some (a, st1)) (h2 : r st1 = some (b, st2)) (h3 : f a b st2 = R) : pBin f l r st = R := by
 unfold pBin PM.bind; rw [h1]; dsimp only; rw [h2]; exact h3
theorem zAD {f : PV → PM PV} {m : PM PV} {a : PV} {R : Option (PV × PSt)} (h1 : m st = some (a, st1)) (h2 : f a st1 = R) : pApp1 m f st = R := by
 unfold pApp1 PM.bind; rw [h1]; exact h2
theorem zQ {m : PM PV} {c : Bool} (h : m st = some (.bool c, st1)) : (m.bind zI) st = some (c, st1) := by
 unfold PM.bind; rw [h]; rfl
theorem zAM {k : Nat} {mb : PM PF} {args : List PV} {s' : PSt} (h : mb ⟨zX k args, frz st.hp⟩ = some (.ret v, s')) (hv : isSc v = true) : zAC k mb args st = some (v, st) := by
 unfold zAC; rw [h]
 cases v <;> first | rfl | cases hv
theorem zLv {k : Nat} {mb : PM PF} {args : List PV} {s' : PSt} {i : Nat} {xs : List PV} (h : mb ⟨zX k args, frz st.hp⟩ = some (.ret (.ref i), s')) (hi : s'.hp[i]? = some (false, .list xs)) (hx : xs.all isSc = true) (hl : st.hp.length ≤ i) :
  zAC k mb args st = some (.ref st.hp.length, ⟨st.vars, st.hp ++ [(false, .list xs)]⟩) := by
 unfold zAC; rw [h]
 simp only [hi]
 rw [if_pos ⟨hx, hl⟩]
 rfl
end
theorem zG8 {hp : List (Bool × PO)} {a : Nat} {b : Bool} {o : PO} (h : hp[a]? = some (b, o)) : (frz hp)[a]? = some (true, o) := by
 unfold frz
 rw [List.getElem?_map, h]
 rfl
theorem zLw (hp : List (Bool × PO)) : (frz hp).length = hp.length := by simp [frz]
theorem zE0 (i : Nat) (is : List Nat) (hp : List (Bool × PO)) : fzAt (i :: is) hp = fzAt is (hp.modify i fun c => (true, c.2)) := rfl
theorem zCF : ∀ (is : List Nat) (hp : List (Bool × PO)), (fzAt is hp).length = hp.length
 | [], _ => rfl
 | i :: is, hp => by rw [zE0, zCF is, List.length_modify]
theorem zE1 {a : Nat} {o : PO} : ∀ (is : List Nat) (hp : List (Bool × PO)) (b : Bool), hp[a]? = some (b, o) → ∃ b', (fzAt is hp)[a]? = some (b', o)
 | [], hp, b, h => ⟨b, h⟩
 | i :: is, hp, b, h => by
  rw [zE0]
  by_cases e : i = a
  ·subst e
   exact zE1 is _ true (by rw [List.getElem?_modify_eq, h]; rfl)
  ·exact zE1 is _ b (by rw [List.getElem?_modify_ne _ _ e, h])
theorem zE2 : ∀ (hp : List (Bool × PO)) (n : List (Bool × PO)), n.map (·.2) = hp.map (·.2) → ∀ t, restore hp (n ++ t) = hp ++ t
 | [], [], _, t => by cases t <;> rfl
 | [], _ :: _, h, _ => by simp at h
 | _ :: _, [], h, _ => by simp at h
 | (b, o) :: hp, (b', o') :: n, h, t => by
  simp only [List.map_cons, List.cons.injEq] at h
  obtain ⟨rfl, h2⟩ := h
  show (b, o') :: restore hp (n ++ t) = _
  rw [zE2 hp n h2 t]
  rfl
theorem zG9 : ∀ (is : List Nat) (hp : List (Bool × PO)), (fzAt is hp).map (·.2) = hp.map (·.2)
 | [], _ => rfl
 | i :: is, hp => by
  rw [zE0, zG9 is]
  apply List.ext_getElem?
  intro j
  rw [List.getElem?_map, List.getElem?_map]
  by_cases e : i = j
  ·subst e
   rw [List.getElem?_modify_eq]
   cases hp[i]? <;> rfl
  ·rw [List.getElem?_modify_ne _ _ e]
theorem zHA (is : List Nat) (hp t : List (Bool × PO)) : restore hp (fzAt is hp ++ t) = hp ++ t := zE2 _ _ (zG9 is hp) t
theorem zCo (is : List Nat) (hp : List (Bool × PO)) : restore hp (fzAt is hp) = hp := by
 have := zHA is hp []
 simpa using this
theorem zDm {set : PV → PM Unit} {test : PM Bool} {elt : PM PV} {x v : PV} {xs acc : List PV} {st st1 st2 st3 : PSt} {R : Option (List PV × PSt)} (h1 : set x st = some ((), st1)) (h2 : test st1 = some (true, st2)) (h3 : elt st2 = some (v, st3)) (h4 : zAZ set test elt xs (acc ++ [v]) st3 = R) : zAZ set test elt (x :: xs) acc st = R := by
 show PM.bind (set x) _ st = R
 unfold PM.bind; rw [h1]; dsimp only; rw [h2]; dsimp only; rw [if_pos rfl, h3]; exact h4
theorem zHB {set : PV → PM Unit} {test : PM Bool} {elt : PM PV} {x : PV} {xs acc : List PV} {st st1 st2 : PSt} {R : Option (List PV × PSt)} (h1 : set x st = some ((), st1)) (h2 : test st1 = some (false, st2)) (h4 : zAZ set test elt xs acc st2 = R) : zAZ set test elt (x :: xs) acc st = R := by
 show PM.bind (set x) _ st = R
 unfold PM.bind; rw [h1]; dsimp only; rw [h2]; exact h4
theorem zDn {rest : List (Option PV)} {hp : List (Bool × PO)} {test : PM Bool} {elt : PM PV} {t : PV → Bool} {f : PV → PV} : ∀ (xs : List PV) (u : Option PV) (acc : List PV),
  (∀ x ∈ xs, test ⟨some x :: rest, hp⟩ = some (t x, ⟨some x :: rest, hp⟩)) → (∀ x ∈ xs, t x = true → elt ⟨some x :: rest, hp⟩ = some (f x, ⟨some x :: rest, hp⟩)) →
  ∃ u', zAZ (pSet 0) test elt xs acc ⟨u :: rest, hp⟩ = some (acc ++ (xs.filter t).map f, ⟨u' :: rest, hp⟩)
 | [], u, acc, _, _ => ⟨u, congrArg (fun l => some (l, (⟨u :: rest, hp⟩ : PSt))) (List.append_nil acc).symm⟩
 | x :: xs, u, acc, ht, he => by
  have h1 := ht x (.head _)
  cases hx : t x with
  | false =>
   obtain ⟨u', h⟩ := zDn xs (some x) acc (fun y hy => ht y (.tail _ hy)) (fun y hy => he y (.tail _ hy))
   refine ⟨u', ?_⟩
   rw [hx] at h1
   exact zHB rfl h1 (h.trans (by rw [List.filter_cons, hx]; rfl))
  | true =>
   have h2 := he x (.head _) hx
   obtain ⟨u', h⟩ := zDn xs (some x) (acc ++ [f x]) (fun y hy => ht y (.tail _ hy)) (fun y hy => he y (.tail _ hy))
   refine ⟨u', ?_⟩
   rw [hx] at h1
   exact zDm rfl h1 h2 (h.trans (by rw [List.filter_cons, hx, if_pos rfl, List.append_assoc]; rfl))
theorem zE3 {caps : List Nat} {mi : PM (List PV × List Nat)} {test : PM Bool} {elt : PM PV} {s : PSt} {xs : List PV} {fz : List Nat} {rest : List (Option PV)} {t : PV → Bool} {f : PV → PV}
  (h0 : mi s = some ((xs, fz), s)) (hl : xs.length ≤ zH) (hv : zAl 1 caps s.vars = none :: rest)
  (ht : ∀ x ∈ xs, test ⟨some x :: rest, fzAt fz s.hp⟩ = some (t x, ⟨some x :: rest, fzAt fz s.hp⟩)) (he : ∀ x ∈ xs, t x = true → elt ⟨some x :: rest, fzAt fz s.hp⟩ = some (f x, ⟨some x :: rest, fzAt fz s.hp⟩)) :
  pComp 1 caps mi (pSet 0) test elt s = some (.ref s.hp.length, ⟨s.vars, s.hp ++ [(false, .list ((xs.filter t).map f))]⟩) := by
 obtain ⟨u', h⟩ := zDn xs none [] ht he
 simp only [pComp, PM.bind, h0, hl, if_true, hv, h, zCF, zCo, List.nil_append]
theorem zLx {caps : List Nat} {mi : PM (List PV × List Nat)} {elt : PM PV} {s : PSt} {xs : List PV} {fz : List Nat} {rest : List (Option PV)} {f : PV → PV}
  (h0 : mi s = some ((xs, fz), s)) (hl : xs.length ≤ zH) (hv : zAl 1 caps s.vars = none :: rest)
  (he : ∀ x ∈ xs, elt ⟨some x :: rest, fzAt fz s.hp⟩ = some (f x, ⟨some x :: rest, fzAt fz s.hp⟩)) :
  pComp 1 caps mi (pSet 0) (PM.ret true) elt s = some (.ref s.hp.length, ⟨s.vars, s.hp ++ [(false, .list (xs.map f))]⟩) := by
 have := zE3 (test := PM.ret true) (t := fun _ => true) (f := f) h0 hl hv (fun _ _ => rfl) (fun x hx _ => he x hx)
 rw [this, List.filter_eq_self.mpr (fun _ _ => rfl)]
theorem zE4 (k n : Nat) (h : k < n) : seqIndex? (k : Int) n = some k := by
 rw [StrLaws.seqIndex_nonneg (by lia) (by lia)]
 simp
theorem zHC (k : Nat) (h : k < 1000000000) : fitsSsize (k : Int) = true := by
 unfold fitsSsize
 simp
 lia
theorem zHD {xs : List PV} {k : Nat} {v : PV} {s : PSt} (hk : xs[k]? = some v) (hb : k < 1000000000) : (if fitsSsize (k : Int) = true then ((seqIndex? (k : Int) xs.length).bind fun k => xs[k]?).map fun v => (v, s) else none) = some (v, s) := by
 rw [if_pos (zHC k hb), zE4 k _ (List.getElem?_eq_some_iff.mp hk).1, Option.bind_some, hk]
 rfl
theorem zCG {hp : List (Bool × PO)} {vs : List (Option PV)} {a : Nat} {b : Bool} {xs : List PV} {k : Nat} {v : PV} (h : hp[a]? = some (b, .list xs)) (hk : xs[k]? = some v) (hb : k < 1000000000) : pItem (.ref a) (.int k) ⟨vs, hp⟩ = some (v, ⟨vs, hp⟩) := by
 rw [zDK, h]
 exact zHD hk hb
theorem zE5 {hp : List (Bool × PO)} {vs : List (Option PV)} {a : Nat} {b : Bool} {xs : List PV} {k : Nat} {v : PV} (h : hp[a]? = some (b, .tuple xs)) (hk : xs[k]? = some v) (hb : k < 1000000000) : pItem (.ref a) (.int k) ⟨vs, hp⟩ = some (v, ⟨vs, hp⟩) := by
 rw [zDK, h]
 exact zHD hk hb
theorem zBl {st : PSt} {l : List Nat} {k c : Nat} (hk : l[k]? = some c) (hb : k < 1000000000) : pItem (.str (S l)) (.int k) st = some (.str (S [c]), st) := by
 have hlt := (List.getElem?_eq_some_iff.mp hk).1
 have e : Txt.charAt (S l) k = some c := by
  unfold Txt.charAt
  rw [S_len, zE4 k _ hlt]
  show (S l).cps[k]? = _
  rw [← Array.getElem?_toList, S_cps, hk]
 have e2 : Txt.item (S l) k = S [c] := by
  unfold Txt.item
  rw [e]
  rfl
 exact (if_pos ⟨zHC k hb, by rw [e]; rfl⟩).trans (by rw [e2])
theorem b4 : 4 ≤ zH := by decide
theorem zDo (hp : List (Bool × PO)) (c : Bool × PO) : (hp ++ [c])[hp.length]? = some c := by simp
theorem zAv {m : PM (List PV)} {st : PSt} {vs : List (Option PV)} {hp : List (Bool × PO)} {xs : List PV} (h : m st = some (xs, ⟨vs, hp⟩)) (hl : xs.length ≤ zH) : zU m st = some (.ref hp.length, ⟨vs, hp ++ [(false, .tuple xs)]⟩) := by
 unfold zU PM.bind; rw [h]
 simp only [hl, if_true, zu]
theorem zBm {m : PM (List PV)} {st : PSt} {vs : List (Option PV)} {hp : List (Bool × PO)} {xs : List PV} (h : m st = some (xs, ⟨vs, hp⟩)) (hl : xs.length ≤ zH) : pList m st = some (.ref hp.length, ⟨vs, hp ++ [(false, .list xs)]⟩) := by
 unfold pList PM.bind; rw [h]
 simp only [hl, if_true, zu]
theorem L_nil : ("" : Str) = S [] := by decide +kernel
theorem zHE : ("..." : Str) = S dots := by decide +kernel
theorem zCp : ("(" : Str) = S [40] := by decide +kernel
theorem zE6 : (")" : Str) = S [41] := by decide +kernel
theorem zCH : ("\"" : Str) = S [34] := by decide +kernel
section
variable {st : PSt}
theorem zBY (n m : Nat) (hm : m ≠ 0) : pMod (.int n) (.int m) st = some (.int ((n % m : Nat) : Int), st) := by
 exact (if_neg (t := none) (c := (m : Int) = 0) (by lia)).trans (by rw [Int.fmod_eq_emod_of_nonneg _ (by lia)]; rfl)
theorem zCq (n m : Nat) (hm : m ≠ 0) (hb : m < 1073741824) : pDiv (.int n) (.int m) st = some (.int ((n / m : Nat) : Int), st) := by
 simp only [pDiv]
 rw [if_neg (by lia), Int.fdiv_eq_ediv_of_nonneg _ (by lia)]
 rfl
theorem zAw (n m : Nat) : pAdd (.int n) (.int m) st = some (.int ((n + m : Nat) : Int), st) := rfl
theorem zBn (a b : List Nat) (h : a.length + b.length ≤ zH) : pAdd (.str (S a)) (.str (S b)) st = some (.str (S (a ++ b)), st) := by
 exact (if_pos (e := none) (c := (S a).length + (S b).length ≤ zH) (by rw [S_len, S_len]; exact h)).trans (by rw [S_app])
theorem zHF (c : Nat) : pOrd (.str (S [c])) st = some (.int c, st) := by
 exact (if_pos (e := none) (c := (S [c]).length = 1) (by rw [S_len]; rfl)).trans rfl
theorem zCr (n : Nat) (h : n ≤ 1114111) : pChr (.int n) st = some (.str (S [n]), st) := by
 exact (if_pos (e := none) (c := (0 : Int) ≤ (n : Int) ∧ (n : Int) ≤ 1114111) ⟨by lia, by lia⟩).trans rfl
theorem zAS {mo ml mu : PM PV} {st1 st2 st3 : PSt} {o l u : PV} {R : Option (PV × PSt)} (h1 : mo st = some (o, st1)) (h2 : ml st1 = some (l, st2)) (h3 : mu st2 = some (u, st3)) (h : zAH o l u st3 = R) : pSl mo ml mu st = R := by
 unfold pSl PM.bind; rw [h1]; dsimp only; rw [h2]; dsimp only; rw [h3]; exact h
theorem zDp (x : List Nat) (b : Nat) (hb : b ≤ x.length) (hx : x.length ≤ zH) : zAH (.str (S x)) .none (.int b) st = some (.str (S (x.take b)), st) := by
 simp only [zAH, zAq, zBE, zBF, S_len, hx, if_true, zLo x hb]
theorem zHG (x : List Nat) (a : Nat) (ha : a ≤ x.length) (hx : x.length ≤ zH) : zAH (.str (S x)) (.int a) .none st = some (.str (S (x.drop a)), st) := by
 simp only [zAH, zAq, zBE, zBF, S_len, hx, if_true, zG4 x ha]
theorem zHH (x : List Nat) (a b : Nat) (hab : a ≤ b) (hb : b ≤ x.length) (hx : x.length ≤ zH) : zAH (.str (S x)) (.int a) (.int b) st = some (.str (S ((x.drop a).take (b - a))), st) := by
 simp only [zAH, zAq, zBE, zBF, S_len, hx, if_true, zEw x hab hb]
theorem zLy {m : PM PV} {st1 : PSt} {i : Nat} {b : Bool} {xs : List PV} (h : m st = some (.ref i, st1)) (hi : st1.hp[i]? = some (b, .tuple xs)) : pSrc m st = some ((xs, [i]), st1) := by
 unfold pSrc PM.bind; rw [h]; simp only [hi]
theorem zCI {m : PM PV} {st1 : PSt} {i : Nat} {b : Bool} {xs : List PV} (h : m st = some (.ref i, st1)) (hi : st1.hp[i]? = some (b, .list xs)) : pSrc m st = some ((xs, [i]), st1) := by
 unfold pSrc PM.bind; rw [h]; simp only [hi]
theorem zDq {m : PM PV} {st1 : PSt} {l : List Nat} (h : m st = some (.str (S l), st1)) : pSrc m st = some ((l.map fun c => .str (S [c]), []), st1) := by
 unfold pSrc PM.bind; rw [h]; rfl
theorem zCJ {mi : PM (List PV × List Nat)} {set : PV → PM Unit} {b : PM PF} {xs : List PV} {fz : List Nat} {vs vs' : List (Option PV)} {hp hp' : List (Bool × PO)} {f : PF} (h0 : mi st = some ((xs, fz), ⟨vs, hp⟩)) (h : pFor set b xs ⟨vs, fzAt fz hp⟩ = some (f, ⟨vs', hp'⟩)) :
  pForE mi set b st = some (f, ⟨vs', restore hp hp'⟩) := by
 unfold pForE PM.bind; rw [h0]; simp only [h]
theorem zDr {mi : PM (List PV × List Nat)} {set : PV → PM Unit} {b : PM PF} {xs : List PV} {fz : List Nat} {vs vs' : List (Option PV)} {hp : List (Bool × PO)} {f : PF} (h0 : mi st = some ((xs, fz), ⟨vs, hp⟩)) (h : pFor set b xs ⟨vs, fzAt fz hp⟩ = some (f, ⟨vs', fzAt fz hp⟩)) :
  pForE mi set b st = some (f, ⟨vs', hp⟩) := by
 rw [zCJ h0 h, zCo]
theorem zA7 {set : PV → PM Unit} {b : PM PF} {x : PV} {xs : List PV} {st1 st2 : PSt} {R : Option (PF × PSt)} (h1 : set x st = some ((), st1)) (h2 : b st1 = some (.next, st2)) (h3 : pFor set b xs st2 = R) : pFor set b (x :: xs) st = R := by
 show PM.bind (set x) _ st = R
 unfold PM.bind; rw [h1]; dsimp only; rw [h2]; exact h3
theorem zLz {set : PV → PM Unit} {b : PM PF} {x v : PV} {xs : List PV} {st1 st2 : PSt} (h1 : set x st = some ((), st1)) (h2 : b st1 = some (.ret v, st2)) : pFor set b (x :: xs) st = some (.ret v, st2) := by
 show PM.bind (set x) _ st = _
 unfold PM.bind; rw [h1]; dsimp only; rw [h2]; rfl
end
noncomputable def zCs : List Nat := [173, 847, 6150, 6155, 6156, 6157, 8203, 8204, 8205, 8288, 65279]
noncomputable def zA8 (k : Nat) : Nat := if k < 11 then zCs.getD k 0 else 65013 + k
noncomputable def zNl : List Nat := [0, 1, 2, 4, 7, 8, 9, 10, 11, 12]
theorem zCK {st : PSt} (a b : Nat) : pLt (.int a) (.int b) st = some (.bool (decide (a < b)), st) := by
 exact congrArg (fun b => some (PV.bool b, st)) (decide_eq_decide.mpr Int.ofNat_lt)
theorem zCt {st : PSt} (a b : Nat) : pEq (.int a) (.int b) st = some (.bool (a == b), st) := by
 show some (PV.bool ((a : Int) == (b : Int)), st) = _
 by_cases h : a = b
 ·subst h; simp
 ·rw [beq_eq_false_iff_ne.mpr h, beq_eq_false_iff_ne.mpr (by lia)]
theorem zL0 (st : PSt) (n : Nat) : zDi [.int n] st = some (.str (S [zA8 (n % 27)]), st) := by
 have hk : n % 27 < 27 := Nat.mod_lt _ (by decide)
 generalize hkk : n % 27 = k at hk
 have hm : ∀ s, pMod (.int n) (.int 27) s = some (.int k, s) := fun s => by rw [← hkk]; exact zBY n 27 (by decide)
 by_cases h : k < 11
 ·refine zAM (s' := ⟨[some (.int n), some (.int k)], frz st.hp ++ [(false, .tuple (zCs.map fun (c : Nat) => .int c))]⟩) ?_ rfl
  refine zD (zM (vs := [some (.int n), none]) (hp := frz st.hp) (zE rfl rfl (hm _))) ?_
  refine zZ (zP (c := true) (zQ (zE rfl rfl ((zCK k 11).trans (by first | (rw [decide_eq_true h]; done) | (rw [decide_eq_true h]; rfl))))) ?_)
  refine zZ (zx (zAD (zE (zAv rfl (by decide)) rfl (zE5 (k := k) (zDo _ _) (v := .int (zA8 k)) ?_ (by lia))) (zCr _ ?_)))
  ·show (zCs.map fun (c : Nat) => PV.int c)[k]? = _
   rw [List.getElem?_map]
   unfold zA8
   rw [if_pos h]
   have : k < zCs.length := h
   rw [List.getD_eq_getElem?_getD, List.getElem?_eq_getElem this]
   rfl
  ·unfold zA8
   rw [if_pos h]
   have : ∀ k, k < 11 → zCs.getD k 0 ≤ 1114111 := by decide
   exact this k h
 ·refine zAM (s' := ⟨[some (.int n), some (.int k)], frz st.hp⟩) ?_ rfl
  refine zD (zM (vs := [some (.int n), none]) (hp := frz st.hp) (zE rfl rfl (hm _))) ?_
  refine zD (st1 := ⟨[some (.int n), some (.int k)], frz st.hp⟩) (zP (c := false) (zQ (zE rfl rfl ((zCK k 11).trans (by first | (rw [decide_eq_false h]; done) | (rw [decide_eq_false h]; rfl))))) rfl) ?_
  refine zZ (zx (zAD (zE rfl rfl (zAw 65013 k)) ?_))
  unfold zA8
  rw [if_neg h]
  exact zCr _ (by lia)
noncomputable def isB1 (c : Nat) : Bool := (zBc b1n 65024 16).any (· == (c : Int))
noncomputable def zAx (c : Nat) : Str := match zBQ b3 c with
 | .str x => x
 | _ => Txt.lower (S [c])
theorem app1c {f : List PV → PM PV} {m : PM PV} {st st1 : PSt} {v : PV} {R : Option (PV × PSt)} (h : m st = some (v, st1)) (h2 : f [v] st1 = R) : pApp 1 (pCons m pNil) f st = R := by
 simp only [pApp, pCons, pNil, PM.bind, h, PM.ret, List.length_cons, List.length_nil, if_true, h2]
theorem app2c {f : List PV → PM PV} {m k : PM PV} {st st1 st2 : PSt} {v u : PV} {R : Option (PV × PSt)} (h : m st = some (v, st1)) (h1 : k st1 = some (u, st2)) (h2 : f [v, u] st2 = R) : pApp 2 (pCons m (pCons k pNil)) f st = R := by
 simp only [pApp, pCons, pNil, PM.bind, h, h1, PM.ret, List.length_cons, List.length_nil, if_true, h2]
theorem zL1 (st : PSt) (c : Nat) : zCl [.str (S [c])] st = some (.bool (isB1 c), st) := by
 refine zAM (s' := ⟨zX 1 [.str (S [c])], frz st.hp⟩) ?_ rfl
 refine zZ (zx ?_)
 unfold zEa PM.bind
 rw [zAD (f := pOrd) (a := .str (S [c])) (st1 := ⟨zX 1 [.str (S [c])], frz st.hp⟩) rfl (zHF c)]
 rfl
theorem zL2 (prs : List (Int × Str)) (k : Int) : zBQ prs k = .none ∨ ∃ x, zBQ prs k = .str x := by
 unfold zBQ
 split
 ·exact .inr ⟨_, rfl⟩
 ·exact .inl rfl
theorem r_b3 (st : PSt) (c : Nat) (h : (Txt.lower (S [c])).length ≤ zH) : zDg [.str (S [c])] st = some (.str (zAx c), st) := by
 have e1 : ∀ (s : PSt), s.vars[0]? = some (some (.str (S [c]))) → pTab b3 (pApp1 (pVar 0) pOrd) s = some (zBQ b3 c, s) := fun s hs => by
  unfold pTab PM.bind
  rw [zAD (f := pOrd) (a := .str (S [c])) (st1 := s) (by unfold pVar; rw [hs]) (zHF c)]
 rcases zL2 b3 c with h0 | ⟨x, h0⟩
 ·have e2 : zAx c = Txt.lower (S [c]) := by unfold zAx; rw [h0]
  refine zAM (s' := ⟨[some (.str (S [c])), some .none], frz st.hp⟩) ?_ rfl
  refine zD (zM (vs := [some (.str (S [c])), none]) (hp := frz st.hp) ((e1 _ rfl).trans (by rw [h0]; rfl))) ?_
  refine zD (st1 := ⟨[some (.str (S [c])), some .none], frz st.hp⟩) (zP (c := false) (st1 := ⟨[some (.str (S [c])), some .none], frz st.hp⟩) rfl rfl) ?_
  refine zZ (zx ?_)
  rw [e2]
  unfold pM0 PM.bind
  show zDR (S [c]) _ = _
  unfold zDR
  rw [if_pos h]
 ·have e2 : zAx c = x := by unfold zAx; rw [h0]
  refine zAM (s' := ⟨[some (.str (S [c])), some (.str x)], frz st.hp⟩) ?_ rfl
  refine zD (zM (vs := [some (.str (S [c])), none]) (hp := frz st.hp) ((e1 _ rfl).trans (by rw [h0]; rfl))) ?_
  rw [e2]
  exact zZ (zP (c := true) (st1 := ⟨[some (.str (S [c])), some (.str x)], frz st.hp⟩) rfl rfl)
theorem zHI : ∀ (ls : List (List Nat)), zB4 (ls.map fun l => .str (S l)) = some (ls.map S)
 | [] => rfl
 | l :: ls => by
  show (zB4 (ls.map fun l => .str (S l))).map _ = _
  rw [zHI ls]
  rfl
theorem zDs {st : PSt} {i : Nat} {b : Bool} {sep : List Nat} {ls : List (List Nat)} (h : st.hp[i]? = some (b, .list (ls.map fun l => .str (S l)))) (hz : (ls.map List.length).sum + ls.length * sep.length ≤ 1000000) :
  pJoin (S sep) (.ref i) st = some (.str (S (List.intercalate sep ls)), st) := by
 simp only [pJoin, h, zHI, zLq hz, if_true, zEx]
theorem zBJ {mo me : PM PV} {f : Str → PV → PM PV} {st st1 st2 : PSt} {x : Str} {v : PV} {R : Option (PV × PSt)} (h1 : mo st = some (.str x, st1)) (h2 : me st1 = some (v, st2)) (h : f x v st2 = R) : pM1 mo me f st = R := by
 unfold pM1 PM.bind; rw [h1]; dsimp only; rw [h2]; exact h
theorem zDt : ∀ (ls : List (List Nat)), List.intercalate [] ls = ls.flatten := by
 intro ls
 have := zLp ls
 rw [zEx] at this
 exact S_inj this
noncomputable def foldS (c : Nat) : List Nat := if isB1 c then [] else (zAx c).cps.toList
theorem zHJ (l : List Nat) : ((l.filter fun c => !isB1 c).map fun c => (zAx c).cps.toList).flatten = l.flatMap foldS := by
 induction l with
 | nil => rfl
 | cons c l ih =>
  rw [List.filter_cons, List.flatMap_cons]
  cases hc : isB1 c with
  | true =>
   have : foldS c = [] := by unfold foldS; rw [hc]; rfl
   rw [this]
   exact ih
  | false =>
   have : foldS c = (zAx c).cps.toList := by unfold foldS; rw [hc]; rfl
   rw [this, ← ih]
   rfl
theorem zDu (ls : List (List Nat)) : (ls.map List.length).sum = ls.flatten.length := by rw [List.length_flatten]
theorem zL3 (st : PSt) (l : List Nat) (hl : l.length ≤ 1000000) (h : ∀ c ∈ l, (Txt.lower (S [c])).length ≤ zH) (hz : (l.flatMap foldS).length ≤ 1000000) : zDk [.str (S l)] st = some (.str (S (l.flatMap foldS)), st) := by
 let t : PV → Bool := fun v => match v with | .str x => !isB1 (x.cps.toList.headD 0) | _ => false
 let f : PV → PV := fun v => match v with | .str x => .str (zAx (x.cps.toList.headD 0)) | _ => .none
 have hc := zE3 (caps := []) (mi := pSrc (pVar 0)) (s := ⟨[some (.str (S l))], frz st.hp⟩) (xs := l.map fun c => .str (S [c])) (fz := []) (rest := [])
  (test := pNot ((pApp 1 (pCons (pVar 0) pNil) zCl).bind zI)) (elt := pApp 1 (pCons (pVar 0) pNil) zDg) (t := t) (f := f)
  (zDq rfl) (by rw [List.length_map]; exact hl) rfl
  (fun x hx => by
   obtain ⟨c, hc, rfl⟩ := List.mem_map.mp hx
   have e1 := zQ (app1c (m := pVar 0) (f := zCl) (st := ⟨[some (.str (S [c]))], fzAt [] (frz st.hp)⟩) rfl (zL1 _ c))
   unfold pNot PM.bind
   unfold PM.bind at e1
   rw [e1]
   rfl)
  (fun x hx _ => by
   obtain ⟨c, hc, rfl⟩ := List.mem_map.mp hx
   exact app1c (m := pVar 0) rfl (r_b3 _ c (h c hc)))
 have e : ((l.map fun c => PV.str (S [c])).filter t).map f = ((l.filter fun c => !isB1 c).map fun c => (zAx c).cps.toList).map fun l => PV.str (S l) := by
  rw [List.filter_map, List.map_map, List.map_map]
  rfl
 rw [e] at hc
 refine zAM (s' := ⟨[some (.str (S l))], frz st.hp ++ [(false, .list (((l.filter fun c => !isB1 c).map fun c => (zAx c).cps.toList).map fun l => PV.str (S l)))]⟩) (zZ (zx (zBJ rfl hc ?_))) rfl
 rw [L_nil]
 refine (zDs (zDo _ _) ?_).trans ?_
 ·rw [zDu, zHJ, List.length_nil, Nat.mul_zero]
  exact hz
 ·rw [zDt, zHJ]
noncomputable def zCu (c : Nat) : Bool := decide ((Txt.lower (S [c])).length ≤ zH)
theorem zL4 : (List.range 27).all (fun k => zCu (zA8 k) && foldS (zA8 k) == []) = true := by decide +kernel
theorem zHK : ([40, 41, 92, 34].all fun c => zCu c && foldS c == [c]) = true := by decide +kernel
inductive Tk where
 | op
 | cl
 | ch (c : Nat)
 | esc (c : Nat)
 | quo (l : List Nat)
noncomputable def Tk.flat : Tk → List Nat
 | .op => [40]
 | .cl => [41]
 | .ch c => [c]
 | .esc c => [92, c]
 | .quo l => 34 :: (l ++ [34])
noncomputable def Tk.ok : Tk → Prop
 | .ch c => c ≠ 34 ∧ c ≠ 40 ∧ c ≠ 41 ∧ c ≠ 92
 | .quo l => 34 ∉ l ∧ 92 ∉ l
 | _ => True
noncomputable def Tk.isQuo : Tk → Bool
 | .quo _ => true
 | _ => false
noncomputable def flat (ts : List Tk) : List Nat := ts.flatMap Tk.flat
theorem zBZ (t : Tk) (ts : List Tk) : flat (t :: ts) = t.flat ++ flat ts := List.flatMap_cons
theorem zCv (a b : List Tk) : flat (a ++ b) = flat a ++ flat b := List.flatMap_append
noncomputable def zAo : Nat → List Nat → List (Int × Str)
 | _, [] => []
 | i, c :: l => ((i : Int), S [c]) :: zAo (i + 1) l
noncomputable def Tk.items (i : Nat) : Tk → List (Int × Str)
 | .op => [((i : Int), S [40])]
 | .cl => [((i : Int), S [41])]
 | .ch c => [((i : Int), S [c])]
 | .esc c => [((i + 1 : Nat), S [92, c])]
 | .quo l => ((i : Int), S [34]) :: (zAo (i + 1) l ++ [(((i + 1 + l.length : Nat) : Int), S [34])])
noncomputable def zt : Nat → List Tk → List (Int × Str)
 | _, [] => []
 | i, t :: ts => t.items i ++ zt (i + t.flat.length) ts
theorem zCw : ∀ (l : List Nat) (i : Nat) (last : Int) (rest : List Nat), 92 ∉ l → ∃ last', escGo i last false (l ++ rest) = zAo i l ++ escGo (i + l.length) last' false rest
 | [], i, last, rest, _ => ⟨last, rfl⟩
 | c :: l, i, last, rest, h => by
  obtain ⟨last', e⟩ := zCw l (i + 1) i rest fun hm => h (.tail _ hm)
  refine ⟨last', ?_⟩
  have hc : c ≠ 92 := fun q => h (q ▸ .head _)
  show (if c = 92 then escGo (i + 1) i true (l ++ rest) else ((i : Int), S [c]) :: escGo (i + 1) i false (l ++ rest)) = _
  rw [if_neg hc, e]
  have : i + (c :: l).length = i + 1 + l.length := by rw [List.length_cons]; lia
  rw [this]
  rfl
theorem zL5 (t : Tk) (ht : t.ok) (i : Nat) (last : Int) (rest : List Nat) : ∃ last', escGo i last false (t.flat ++ rest) = t.items i ++ escGo (i + t.flat.length) last' false rest := by
 cases t with
 | op => exact zCw [40] i last rest (by decide)
 | cl => exact zCw [41] i last rest (by decide)
 | ch c =>
  obtain ⟨_, _, _, h⟩ := ht
  exact zCw [c] i last rest (by simpa using fun q => h q.symm)
 | esc c =>
  refine ⟨((i + 1 : Nat) : Int), ?_⟩
  show (if 92 = 92 then _ else _) = _
  rw [if_pos rfl]
  rfl
 | quo l =>
  have h92 : 92 ∉ l ++ [34] := by
   intro hm
   rcases List.mem_append.mp hm with hm | hm
   ·exact ht.2 hm
   ·simp at hm
  obtain ⟨last', e⟩ := zCw (34 :: (l ++ [34])) i last rest (by
   intro hm
   rcases List.mem_cons.mp hm with hm | hm
   ·cases hm
   ·exact h92 hm)
  refine ⟨last', e.trans ?_⟩
  show _ = Tk.items i (.quo l) ++ escGo (i + (34 :: (l ++ [34])).length) last' false rest
  congr 1
  show ((i : Int), S [34]) :: zAo (i + 1) (l ++ [34]) = _ :: _
  congr 1
  have : ∀ (l : List Nat) (i : Nat), zAo i (l ++ [34]) = zAo i l ++ [(((i + l.length : Nat) : Int), S [34])] := by
   intro l
   induction l with
   | nil => intro i; rfl
   | cons c l ih =>
    intro i
    show _ :: zAo (i + 1) (l ++ [34]) = _ :: _
    rw [ih, List.length_cons]
    have : i + 1 + l.length = i + (l.length + 1) := by lia
    rw [this]
    rfl
  exact this l (i + 1)
theorem zHL : ∀ (ts : List Tk) (i : Nat) (last : Int), (∀ t ∈ ts, t.ok) → escGo i last false (flat ts) = zt i ts
 | [], _, _, _ => rfl
 | t :: ts, i, last, h => by
  obtain ⟨last', e⟩ := zL5 t (h t (.head _)) i last (flat ts)
  rw [zBZ, e, zHL ts _ last' fun q hq => h q (.tail _ hq)]
  rfl
theorem zHM {ts : List Tk} (h : ∀ t ∈ ts, t.ok) : ze (S (flat ts)) = zt 0 ts := zHL ts 0 0 h
noncomputable abbrev zBa := Int × Option Int × List Str
noncomputable def zk (x : Str) (z : zBa) (q : Int × Str) : zBa :=
 if q.2 == S [34] then (match z.2.1 with
  | none => (z.1, some q.1, z.2.2)
  | some o => (q.1 + 1, none, if z.1 == o then z.2.2 else z.2.2 ++ [Txt.slice x (some z.1) (some o)]))
 else z
theorem zCL {x y : Str} {z : zBa} {p : Int} (h : y ≠ S [34]) : zk x z (p, y) = z := by
 unfold zk
 rw [if_neg]
 simpa using h
theorem zHN (x : Str) (z : zBa) : ∀ (l : List Nat) (i : Nat), 34 ∉ l → (zAo i l).foldl (zk x) z = z
 | [], _, _ => rfl
 | c :: l, i, h => by
  show (zAo (i + 1) l).foldl (zk x) (zk x z (i, S [c])) = z
  rw [zCL]
  ·exact zHN x z l (i + 1) fun hm => h (.tail _ hm)
  ·intro q
   have := S_inj q
   simp at this
   exact h (this ▸ .head _)
theorem zL6 {X a t r : List Nat} {s i : Nat} (h : s ≤ i) (hX : X.drop i = t ++ r) : (X.drop s).take (i + t.length - s) = (X.drop s).take (i - s) ++ t := by
 have e : X.drop s = (X.drop s).take (i - s) ++ (t ++ r) := by
  rw [← hX]
  have : X.drop i = (X.drop s).drop (i - s) := by rw [List.drop_drop]; congr 1; lia
  rw [this, List.take_append_drop]
 by_cases hle : i ≤ X.length
 ·have hl : ((X.drop s).take (i - s)).length = i - s := by rw [List.length_take, List.length_drop]; lia
  conv => lhs; rw [e]
  have : i + t.length - s = ((X.drop s).take (i - s)).length + t.length := by rw [hl]; lia
  rw [this, List.take_length_add_append, List.take_left]
 ·have h0 : X.drop i = [] := List.drop_eq_nil_of_le (by lia)
  rw [h0] at hX
  obtain ⟨rfl, rfl⟩ := List.append_eq_nil_iff.mp hX.symm
  simp
theorem zL7 {X t r : List Nat} {i : Nat} (hX : X.drop i = t ++ r) : X.drop (i + t.length) = r := by
 rw [← List.drop_drop, hX, List.drop_left]
theorem zE7 (X : List Nat) : ∀ (ts : List Tk) (i s : Nat) (R : List (List Nat)), (∀ t ∈ ts, t.ok) → X.drop i = flat ts → s ≤ i → i ≤ X.length →
  ∃ (s' : Nat) (R' : List (List Nat)), (zt i ts).foldl (zk (S X)) ((s : Int), none, R.map S) = ((s' : Int), none, R'.map S) ∧ s' ≤ X.length ∧ R'.length ≤ R.length + ts.length ∧
   R'.flatten ++ X.drop s' = R.flatten ++ (X.drop s).take (i - s) ++ flat (ts.filter fun t => !t.isQuo)
 | [], i, s, R, _, hX, hs, hi => by
  refine ⟨s, R, rfl, Nat.le_trans hs hi, by simp, ?_⟩
  have h1 : X.length ≤ i := List.drop_eq_nil_iff.mp hX
  rw [List.take_of_length_le (by rw [List.length_drop]; lia)]
  simp [flat]
 | t :: ts, i, s, R, hok, hX, hs, hi => by
  rw [zBZ] at hX
  have hok' : ∀ q ∈ ts, q.ok := fun q hq => hok q (.tail _ hq)
  have ht := hok t (.head _)
  have hX' := zL7 hX
  have hlen : i + t.flat.length ≤ X.length := by
   have := congrArg List.length hX
   rw [List.length_drop, List.length_append] at this
   lia
  have other : (t.items i).foldl (zk (S X)) ((s : Int), none, R.map S) = ((s : Int), none, R.map S) → t.isQuo = false →
    ∃ (s' : Nat) (R' : List (List Nat)), (zt i (t :: ts)).foldl (zk (S X)) ((s : Int), none, R.map S) = ((s' : Int), none, R'.map S) ∧ s' ≤ X.length ∧ R'.length ≤ R.length + (t :: ts).length ∧
     R'.flatten ++ X.drop s' = R.flatten ++ (X.drop s).take (i - s) ++ flat ((t :: ts).filter fun t => !t.isQuo) := by
   intro h1 h2
   obtain ⟨s', R', e1, e2, e4, e3⟩ := zE7 X ts (i + t.flat.length) s R hok' hX' (by lia) hlen
   refine ⟨s', R', ?_, e2, by rw [List.length_cons]; lia, ?_⟩
   ·show (t.items i ++ zt (i + t.flat.length) ts).foldl _ _ = _
    rw [List.foldl_append, h1, e1]
   ·rw [e3, zL6 (a := []) hs hX, List.filter_cons, h2]
    simp only [Bool.not_false, if_true, zBZ, List.append_assoc]
  cases t with
  | op => exact other (show zk (S X) _ ((i : Int), S [40]) = _ from zCL (by intro q; have := S_inj q; simp at this)) rfl
  | cl => exact other (show zk (S X) _ ((i : Int), S [41]) = _ from zCL (by intro q; have := S_inj q; simp at this)) rfl
  | ch c => exact other (show zk (S X) _ ((i : Int), S [c]) = _ from zCL (by intro q; have := S_inj q; simp at this; exact ht.1 this)) rfl
  | esc c => exact other (show zk (S X) _ (((i + 1 : Nat) : Int), S [92, c]) = _ from zCL (by intro q; have := S_inj q; simp at this)) rfl
  | quo l =>
   have hl : (Tk.quo l).flat.length = l.length + 2 := by simp [Tk.flat]
   rw [hl] at hX' hlen
   let R1 : List (List Nat) := if s = i then R else R ++ [(X.drop s).take (i - s)]
   have hR1 : R1.flatten = R.flatten ++ (X.drop s).take (i - s) := by
    show (if s = i then R else R ++ [(X.drop s).take (i - s)]).flatten = _
    split
    ·rename_i h; subst h; simp
    ·simp
   obtain ⟨s', R', e1, e2, e4, e3⟩ := zE7 X ts (i + (l.length + 2)) (i + (l.length + 2)) R1 hok' hX' (Nat.le_refl _) hlen
   refine ⟨s', R', ?_, e2, ?_, ?_⟩
   ·show ((((i : Int), S [34]) :: (zAo (i + 1) l ++ [(((i + 1 + l.length : Nat) : Int), S [34])])) ++ zt (i + (Tk.quo l).flat.length) ts).foldl _ _ = _
    rw [List.foldl_append, List.foldl_cons, List.foldl_append, hl]
    have h1 : zk (S X) ((s : Int), none, R.map S) ((i : Int), S [34]) = ((s : Int), some (i : Int), R.map S) := by
     unfold zk
     rw [if_pos (by simp)]
    rw [h1, zHN _ _ _ _ ht.1, List.foldl_cons, List.foldl_nil]
    have h2 : zk (S X) ((s : Int), some (i : Int), R.map S) (((i + 1 + l.length : Nat) : Int), S [34]) = (((i + (l.length + 2) : Nat) : Int), none, R1.map S) := by
     unfold zk
     rw [if_pos (by simp)]
     dsimp only
     have a1 : (((i + 1 + l.length : Nat) : Int) + 1) = ((i + (l.length + 2) : Nat) : Int) := by lia
     rw [a1, zEw X hs hi]
     by_cases h : s = i
     ·subst h
      have : R1 = R := if_pos rfl
      rw [this]
      simp
     ·have : R1 = R ++ [(X.drop s).take (i - s)] := if_neg h
      rw [this, if_neg (by simpa using fun q => h (by lia))]
      simp
    rw [h2, e1]
   ·have : R1.length ≤ R.length + 1 := by
     show (if s = i then R else R ++ [(X.drop s).take (i - s)]).length ≤ _
     split <;> simp
    rw [List.length_cons]
    lia
   ·rw [e3, hR1, Nat.sub_self, List.take_zero, List.append_nil, List.filter_cons]
    rfl
theorem zA9 {m : PM PV} {st st1 : PSt} {v : PV} (h : m st = some (v, st1)) (hv : isSc v = true) : pExpr m st = some (.next, st1) := by
 unfold pExpr PM.bind; rw [h]
 cases v <;> first | rfl | cases hv
theorem zT (H : List (Bool × PO)) (c : Bool × PO) : (H ++ [c])[H.length]? = some c := by simp
theorem zDv (H : List (Bool × PO)) (c d : Bool × PO) : (H ++ [c]).set H.length d = H ++ [d] := by simp
theorem zDw {mo me : PM PV} {st : PSt} {vs : List (Option PV)} {hp : List (Bool × PO)} {i : Nat} {xs : List PV} {v : PV} (h1 : mo st = some (.ref i, ⟨vs, hp⟩)) (h2 : me ⟨vs, hp⟩ = some (v, ⟨vs, hp⟩)) (hi : hp[i]? = some (false, .list xs)) (hl : xs.length ≤ zH) :
  zg mo me st = some (.none, ⟨vs, hp.set i (false, .list (xs ++ [v]))⟩) := by
 unfold zg PM.bind; rw [h1]; simp only [hi, h2, hl, if_true]
theorem zAy {st : PSt} (a b : Str) : pEq (.str a) (.str b) st = some (.bool (a == b), st) := rfl
noncomputable def optV : Option Int → PV
 | none => .none
 | some o => .int o
noncomputable def zCx : PM PF := (pSeq (pIf ((pBin pEq (pVar 5) (PM.ret (.str "\""))).bind zI) (pSeq (pIf ((pBin pIs (pVar 2) (PM.ret .none)).bind zI) (pSeq (zG 2 (pVar 4)) (PM.ret .next)) (pSeq (pIf ((pBin pNe (pVar 1) (pVar 2)).bind zI) (pSeq (pExpr (zg (pVar 3) (pSl (pVar 0) (pVar 1) (pVar 2)))) (PM.ret .next)) (PM.ret .next)) (pSeq (zG 1 (pBin pAdd (pVar 4) (PM.ret (.int 1)))) (pSeq (zG 2 (PM.ret .none)) (PM.ret .next))))) (PM.ret .next)) (PM.ret .next)) (PM.ret .next))
noncomputable def zAa (x : Str) (r : Nat) (z : zBa) (p c : Option PV) (H : List (Bool × PO)) : PSt := ⟨[some (.str x), some (.int z.1), some (optV z.2.1), some (.ref r), p, c], H ++ [(false, .list (z.2.2.map .str))]⟩
theorem zL8 {x : Str} (hx : x.length ≤ zH) {H : List (Bool × PO)} (z : zBa) (hz : z.2.2.length ≤ zH) (q : Int × Str) : zCx (zAa x H.length z (some (.int q.1)) (some (.str q.2)) H) = some (.next, zAa x H.length (zk x z q) (some (.int q.1)) (some (.str q.2)) H) := by
 obtain ⟨s, o, R⟩ := z
 obtain ⟨p, y⟩ := q
 unfold zCx
 by_cases hy : y = S [34]
 ·subst hy
  have e0 : (S [34] == ("\"" : Str)) = true := by rw [zCH, S_beq]; rfl
  refine zD (st1 := zAa x H.length (zk x (s, o, R) (p, S [34])) (some (.int p)) (some (.str (S [34]))) H) (zP (c := true) (zQ (zE rfl rfl ((zAy _ _).trans (by rw [e0])))) ?_) rfl
  cases o with
  | none =>
   have e1 : zk x (s, none, R) (p, S [34]) = (s, some p, R) := by unfold zk; rw [if_pos (by simp)]
   rw [e1]
   exact zD (zP (c := true) (zQ (zE rfl rfl rfl)) rfl) rfl
  | some o =>
   have e1 : zk x (s, some o, R) (p, S [34]) = (p + 1, none, if s == o then R else R ++ [Txt.slice x (some s) (some o)]) := by unfold zk; rw [if_pos (by simp)]
   rw [e1]
   have e2 : pNe (.int s) (.int o) (zAa x H.length (s, some o, R) (some (.int p)) (some (.str (S [34]))) H) = some (.bool (!(s == o)), zAa x H.length (s, some o, R) (some (.int p)) (some (.str (S [34]))) H) := rfl
   refine zD (st1 := zAa x H.length (p + 1, none, if s == o then R else R ++ [Txt.slice x (some s) (some o)]) (some (.int p)) (some (.str (S [34]))) H) (zP (c := false) (zQ (zE rfl rfl rfl)) ?_) rfl
   refine zD (st1 := zAa x H.length (s, some o, if s == o then R else R ++ [Txt.slice x (some s) (some o)]) (some (.int p)) (some (.str (S [34]))) H) (zP (zQ (zE rfl rfl e2)) ?_) ?_
   ·cases h : s == o with
    | true => rfl
    | false =>
     refine zD (zA9 (zDw rfl (zAS rfl rfl rfl (R := some (.str (Txt.slice x (some s) (some o)), _)) ?_) (zT _ _) ?_) rfl) ?_
     ·show (if x.length ≤ zH then _ else _) = _
      rw [if_pos hx]
     ·rw [List.length_map]; exact hz
     ·rw [zDv]
      unfold zAa
      simp only [List.map_append, Bool.false_eq_true, if_false]
      rfl
   ·exact zD (zM (zE rfl rfl rfl)) (zD (zM rfl) rfl)
 ·have e0 : (y == ("\"" : Str)) = false := by rw [zCH]; exact beq_eq_false_iff_ne.mpr hy
  rw [zCL hy]
  exact zD (zP (c := false) (zQ (zE rfl rfl ((zAy _ _).trans (by rw [e0])))) rfl) rfl
theorem zL9 (x : Str) (z : zBa) (q : Int × Str) : (zk x z q).2.2.length ≤ z.2.2.length + 1 := by
 unfold zk
 split
 ·split
  ·simp
  ·dsimp only
   split <;> simp
 ·lia
theorem zHO {x : Str} (hx : x.length ≤ zH) {H : List (Bool × PO)} : ∀ (items : List (Int × Str)) (z : zBa) (p c : Option PV), z.2.2.length + items.length ≤ zH →
  ∃ p' c', pForP 4 5 zCx items (zAa x H.length z p c H) = some (.next, zAa x H.length (items.foldl (zk x) z) p' c' H)
 | [], z, p, c, _ => ⟨p, c, rfl⟩
 | q :: items, z, p, c, hz => by
  rw [List.length_cons] at hz
  have hb := zL8 hx (H := H) z (by lia) q
  have := zL9 x z q
  obtain ⟨p', c', e⟩ := zHO hx items (zk x z q) (some (.int q.1)) (some (.str q.2)) (by lia)
  refine ⟨p', c', ?_⟩
  rw [List.foldl_cons, ← e]
  show (zCx.bind _) (zAa x H.length z (some (.int q.1)) (some (.str q.2)) H) = _
  unfold PM.bind
  rw [hb]
theorem zDx {st : PSt} (a b : Str) : zAK (.str a) (.str b) st = some (.bool (!(Txt.contains b a)), st) := rfl
theorem zMA (ts : List Tk) : Txt.contains (S (flat ts)) (S [34]) = false → ts.filter (fun t => !t.isQuo) = ts := by
 intro h
 apply List.filter_eq_self.mpr
 intro t ht
 cases t with
 | quo l =>
  exfalso
  rw [← Bool.not_eq_true] at h
  apply h
  rw [zEv]
  have h34 : 34 ∈ flat ts := List.mem_flatMap.mpr ⟨_, ht, .head _⟩
  obtain ⟨i, hi⟩ := List.getElem?_of_mem h34
  obtain ⟨hlt, hi⟩ := List.getElem?_eq_some_iff.mp hi
  refine ⟨i, hlt, ?_⟩
  rw [List.drop_eq_getElem_cons hlt, hi]
  exact ⟨_, rfl⟩
 | _ => rfl
theorem zHP : ∀ (ts : List Tk) (i : Nat), (zt i ts).length ≤ (flat ts).length
 | [], _ => Nat.le_refl _
 | t :: ts, i => by
  rw [zBZ, List.length_append]
  show (t.items i ++ zt _ ts).length ≤ _
  rw [List.length_append]
  have h1 := zHP ts (i + t.flat.length)
  have h2 : (t.items i).length ≤ t.flat.length := by
   cases t with
   | quo l =>
    have : ∀ (l : List Nat) (i : Nat), (zAo i l).length = l.length := by
     intro l
     induction l with
     | nil => intro i; rfl
     | cons c l ih => intro i; show (zAo (i + 1) l).length + 1 = _; rw [ih]; rfl
    simp [Tk.items, Tk.flat, this]
   | _ => simp [Tk.items, Tk.flat]
  lia
theorem zE8 : ∀ (ts : List Tk), (flat (ts.filter fun t => !t.isQuo)).length ≤ (flat ts).length
 | [] => Nat.le_refl _
 | t :: ts => by
  have ih := zE8 ts
  rw [List.filter_cons, zBZ, List.length_append]
  split
  ·rw [zBZ, List.length_append]; lia
  ·lia
theorem zE9 (st : PSt) (ts : List Tk) (hok : ∀ t ∈ ts, t.ok) (hl : (flat ts).length ≤ 1000000) : zBI [.str (S (flat ts))] st = some (.str (S (flat (ts.filter fun t => !t.isQuo))), st) := by
 have hx : (S (flat ts)).length ≤ zH := by rw [S_len]; exact hl
 cases hc : Txt.contains (S (flat ts)) (S [34]) with
 | false =>
  rw [zMA ts hc]
  refine zAM (s' := ⟨zX 6 [.str (S (flat ts))], frz st.hp⟩) ?_ rfl
  exact zZ (zP (c := true) (zQ (zE rfl rfl ((zDx _ _).trans (by rw [zCH, hc]; rfl)))) (zZ (zx rfl)))
 | true =>
  apply byC; intro kz; obtain ⟨s', R', e1, e2, e4, e3⟩ := zE7 (flat ts) ts 0 0 [] hok rfl (Nat.le_refl _) (Nat.zero_le _); apply kz; clear kz
  obtain ⟨p', c', e⟩ := zHO hx (H := frz st.hp) (zt 0 ts) (0, none, []) none none (by have := zHP ts 0; simp; exact Nat.le_trans this hl)
  have e1' : (zt 0 ts).foldl (zk (S (flat ts))) (0, none, []) = ((s' : Int), none, R'.map S) := e1
  rw [e1'] at e
  have e3 : R'.flatten ++ (flat ts).drop s' = flat (ts.filter fun t => !t.isQuo) := by simpa using e3
  have hR : R'.length ≤ (flat ts).length := by
   have h1 : R'.length ≤ ts.length := by simpa using e4
   have h2 : ∀ (ts : List Tk), ts.length ≤ (flat ts).length := by
    intro ts
    induction ts with
    | nil => exact Nat.le_refl _
    | cons t ts ih =>
     rw [zBZ, List.length_append, List.length_cons]
     have : 1 ≤ t.flat.length := by cases t <;> simp [Tk.flat]
     lia
   exact Nat.le_trans h1 (h2 ts)
  have hz : (flat (ts.filter fun t => !t.isQuo)).length ≤ 1000000 := Nat.le_trans (zE8 ts) hl
  let Rf : List (List Nat) := if s' < (flat ts).length then R' ++ [(flat ts).drop s'] else R'
  have hRf : Rf.flatten = flat (ts.filter fun t => !t.isQuo) := by
   rw [← e3]
   show (if s' < (flat ts).length then R' ++ [(flat ts).drop s'] else R').flatten = _
   split
   ·simp
   ·rw [List.drop_eq_nil_of_le (by lia), List.append_nil]
  refine zAM (s' := ⟨[some (.str (S (flat ts))), some (.int s'), some .none, some (.ref (frz st.hp).length), p', c'], frz st.hp ++ [(false, .list ((Rf.map S).map .str))]⟩) ?_ rfl
  refine zD (zP (c := false) (zQ (zE rfl rfl ((zDx _ _).trans (by rw [zCH, hc]; rfl)))) rfl) ?_
  refine zD (zM rfl) (zD (zM rfl) (zD (zM (zBm (hp := frz st.hp) rfl (by decide))) ?_))
  refine zD (st1 := zAa (S (flat ts)) (frz st.hp).length ((s' : Int), none, R'.map S) p' c' (frz st.hp)) ?_ ?_
  ·show (if (S (flat ts)).length ≤ zH then pForP 4 5 zCx (ze (S (flat ts))) else PM.fail) (zAa (S (flat ts)) (frz st.hp).length (0, none, []) none none (frz st.hp)) = _
   rw [if_pos hx, zHM hok, e]
  have hlt : pLt (.int (s' : Nat)) (.int ((flat ts).length : Nat)) (zAa (S (flat ts)) (frz st.hp).length ((s' : Int), none, R'.map S) p' c' (frz st.hp)) = _ := zCK s' (flat ts).length
  refine zD (st1 := ⟨[some (.str (S (flat ts))), some (.int s'), some .none, some (.ref (frz st.hp).length), p', c'], frz st.hp ++ [(false, .list ((Rf.map S).map .str))]⟩) (zP (zQ (zE rfl (zAD rfl (?_ : pLen (.str (S (flat ts))) _ = some (.int ((flat ts).length : Nat), _))) hlt)) ?_) ?_
  ·exact (if_pos hx).trans (by rw [S_len])
  ·by_cases h : s' < (flat ts).length
   ·have eR : Rf = R' ++ [(flat ts).drop s'] := if_pos h
    rw [decide_eq_true h, eR]
    refine zD (zA9 (zDw rfl (zAS rfl rfl rfl (zHG _ s' e2 hl)) (zT _ _) ?_) rfl) ?_
    ·rw [List.length_map, List.length_map]; exact Nat.le_trans hR hl
    ·rw [zDv]
     simp only [List.map_append]
     rfl
   ·have eR : Rf = R' := if_neg h
    rw [decide_eq_false h, eR]
    rfl
  ·refine zZ (zx (zBJ rfl rfl ?_))
   rw [L_nil]
   have ej := zDs (st := ⟨[some (.str (S (flat ts))), some (.int s'), some .none, some (.ref (frz st.hp).length), p', c'], frz st.hp ++ [(false, .list ((Rf.map S).map .str))]⟩) (sep := []) (ls := Rf) (b := false) (i := (frz st.hp).length) (by rw [zT, List.map_map]; rfl) (by rw [zDu, hRf, List.length_nil, Nat.mul_zero]; exact hz)
   rw [ej, zDt, hRf]
noncomputable def bal : Int → List Tk → Bool
 | n, [] => n == 0
 | n, .op :: ts => bal (n + 1) ts
 | n, .cl :: ts => if n - 1 < 0 then false else bal (n - 1) ts
 | n, _ :: ts => bal n ts
theorem zCM : ∀ (ts : List Tk) (n : Int), bal n (ts.filter fun t => !t.isQuo) = bal n ts
 | [], _ => rfl
 | t :: ts, n => by
  cases t with
  | quo l => exact zCM ts n
  | op => exact zCM ts (n + 1)
  | cl =>
   show (if n - 1 < 0 then false else bal (n - 1) (ts.filter fun t => !t.isQuo)) = (if n - 1 < 0 then false else bal (n - 1) ts)
   rw [zCM ts (n - 1)]
  | ch c => exact zCM ts n
  | esc c => exact zCM ts n
noncomputable def zAz : PM PF := (pSeq (pIf ((pBin pEq (pVar 3) (PM.ret (.str "("))).bind zI) (pSeq (pAug 1 pIAdd (PM.ret (.int 1))) (PM.ret .next)) (pSeq (pIf ((pBin pEq (pVar 3) (PM.ret (.str ")"))).bind zI) (pSeq (pAug 1 pSub (PM.ret (.int 1))) (pSeq (pIf ((pBin pLt (pVar 1) (PM.ret (.int 0))).bind zI) (pSeq (zO (PM.ret (.bool false))) (PM.ret .next)) (PM.ret .next)) (PM.ret .next))) (PM.ret .next)) (PM.ret .next))) (PM.ret .next))
noncomputable def zAI (x : Str) (n : Int) (p c : Option PV) (H : List (Bool × PO)) : PSt := ⟨[some (.str x), some (.int n), p, c], H⟩
theorem zMB {x y : Str} {n p : Int} {H : List (Bool × PO)} (h1 : y ≠ S [40]) (h2 : y ≠ S [41]) : zAz (zAI x n (some (.int p)) (some (.str y)) H) = some (.next, zAI x n (some (.int p)) (some (.str y)) H) := by
 have e1 : (y == ("(" : Str)) = false := by rw [zCp]; exact beq_eq_false_iff_ne.mpr h1
 have e2 : (y == (")" : Str)) = false := by rw [zE6]; exact beq_eq_false_iff_ne.mpr h2
 exact zD (zP (c := false) (zQ (zE rfl rfl ((zAy _ _).trans (by rw [e1])))) (zD (zP (c := false) (zQ (zE rfl rfl ((zAy _ _).trans (by rw [e2])))) rfl) rfl)) rfl
theorem zMC {x : Str} {n p : Int} {H : List (Bool × PO)} : zAz (zAI x n (some (.int p)) (some (.str (S [40]))) H) = some (.next, zAI x (n + 1) (some (.int p)) (some (.str (S [40]))) H) := by
 have e1 : (S [40] == ("(" : Str)) = true := by rw [zCp, S_beq]; rfl
 exact zD (zP (c := true) (zQ (zE rfl rfl ((zAy _ _).trans (by rw [e1])))) (zD (m := pAug 1 pIAdd (PM.ret (.int 1))) rfl rfl)) rfl
theorem zHQ {x : Str} {n p : Int} {H : List (Bool × PO)} : zAz (zAI x n (some (.int p)) (some (.str (S [41]))) H) = if n - 1 < 0 then some (.ret (.bool false), zAI x (n - 1) (some (.int p)) (some (.str (S [41]))) H) else some (.next, zAI x (n - 1) (some (.int p)) (some (.str (S [41]))) H) := by
 have e1 : (S [41] == ("(" : Str)) = false := by rw [zCp, S_beq]; rfl
 have e2 : (S [41] == (")" : Str)) = true := by rw [zE6, S_beq]; rfl
 have e3 : pLt (.int (n - 1)) (.int 0) (zAI x (n - 1) (some (.int p)) (some (.str (S [41]))) H) = some (.bool (decide (n - 1 < 0)), zAI x (n - 1) (some (.int p)) (some (.str (S [41]))) H) := rfl
 by_cases h : n - 1 < 0
 ·rw [if_pos h]
  rw [decide_eq_true h] at e3
  refine zZ (zP (c := false) (zQ (zE rfl rfl ((zAy _ _).trans (by rw [e1])))) (zZ (zP (c := true) (zQ (zE rfl rfl ((zAy _ _).trans (by rw [e2])))) ?_)))
  exact zD (m := pAug 1 pSub (PM.ret (.int 1))) rfl (zZ (zP (c := true) (zQ (zE rfl rfl e3)) (zZ (zx rfl))))
 ·rw [if_neg h]
  rw [decide_eq_false h] at e3
  refine zD (zP (c := false) (zQ (zE rfl rfl ((zAy _ _).trans (by rw [e1])))) (zD (zP (c := true) (zQ (zE rfl rfl ((zAy _ _).trans (by rw [e2])))) ?_) rfl)) rfl
  exact zD (m := pAug 1 pSub (PM.ret (.int 1))) rfl (zD (zP (c := false) (zQ (zE rfl rfl e3)) rfl) rfl)
theorem zFA {i j : Nat} {b : PM PF} {q : Int × Str} {items : List (Int × Str)} {st st1 : PSt} (h : b ⟨(st.vars.set i (some (.int q.1))).set j (some (.str q.2)), st.hp⟩ = some (.next, st1)) : pForP i j b (q :: items) st = pForP i j b items st1 := by
 show (b.bind _) _ = _
 unfold PM.bind
 rw [h]
theorem zMD {i j : Nat} {b : PM PF} {q : Int × Str} {items : List (Int × Str)} {st st1 : PSt} {v : PV} (h : b ⟨(st.vars.set i (some (.int q.1))).set j (some (.str q.2)), st.hp⟩ = some (.ret v, st1)) : pForP i j b (q :: items) st = some (.ret v, st1) := by
 show (b.bind _) _ = _
 unfold PM.bind
 rw [h]
 rfl
theorem zDy {x : Str} {H : List (Bool × PO)} : ∀ (ts : List Tk) (i : Nat) (n : Int) (p c : Option PV), (∀ t ∈ ts, t.ok ∧ t.isQuo = false) →
  (∃ n' p' c', pForP 2 3 zAz (zt i ts) (zAI x n p c H) = some (.next, zAI x n' p' c' H) ∧ bal n ts = (n' == 0)) ∨ ∃ st', pForP 2 3 zAz (zt i ts) (zAI x n p c H) = some (.ret (.bool false), st') ∧ bal n ts = false
 | [], i, n, p, c, _ => .inl ⟨n, p, c, rfl, rfl⟩
 | t :: ts, i, n, p, c, h => by
  have h' : ∀ q ∈ ts, q.ok ∧ q.isQuo = false := fun q hq => h q (.tail _ hq)
  have ht := h t (.head _)
  have one : ∀ (k : Int) (y : Str), y ≠ S [40] → y ≠ S [41] → t.items i = [(k, y)] → bal n (t :: ts) = bal n ts →
    (∃ n' p' c', pForP 2 3 zAz (zt i (t :: ts)) (zAI x n p c H) = some (.next, zAI x n' p' c' H) ∧ bal n (t :: ts) = (n' == 0)) ∨ ∃ st', pForP 2 3 zAz (zt i (t :: ts)) (zAI x n p c H) = some (.ret (.bool false), st') ∧ bal n (t :: ts) = false := by
   intro k y h1 h2 e hb
   have ei : zt i (t :: ts) = (k, y) :: zt (i + t.flat.length) ts := by
    show t.items i ++ _ = _
    rw [e]; rfl
   rw [ei, hb, zFA (zMB (x := x) h1 h2)]
   exact zDy ts _ n _ _ h'
  cases t with
  | quo l => exact absurd ht.2 (by simp [Tk.isQuo])
  | ch c =>
   obtain ⟨⟨_, a, b, _⟩, _⟩ := ht
   exact one _ _ (fun q => a (by have := S_inj q; simpa using this)) (fun q => b (by have := S_inj q; simpa using this)) rfl rfl
  | esc c => exact one _ (S [92, c]) (fun q => by have := S_inj q; simp at this) (fun q => by have := S_inj q; simp at this) rfl rfl
  | op =>
   have ei : zt i (.op :: ts) = ((i : Int), S [40]) :: zt (i + 1) ts := rfl
   rw [ei, zFA zMC]
   exact zDy ts _ (n + 1) _ _ h'
  | cl =>
   have ei : zt i (.cl :: ts) = ((i : Int), S [41]) :: zt (i + 1) ts := rfl
   have eb : bal n (.cl :: ts) = if n - 1 < 0 then false else bal (n - 1) ts := rfl
   rw [ei, eb]
   by_cases hn : n - 1 < 0
   ·rw [if_pos hn]
    exact .inr ⟨_, zMD (zHQ.trans (if_pos hn)), rfl⟩
   ·rw [if_neg hn, zFA (zHQ.trans (if_neg hn))]
    exact zDy ts _ (n - 1) _ _ h'
theorem zME (st : PSt) (ts : List Tk) (hok : ∀ t ∈ ts, t.ok) (hl : (flat ts).length ≤ 1000000) : zBX [.str (S (flat ts))] st = some (.bool (bal 0 ts), st) := by
 have hf : ∀ t ∈ ts.filter (fun t => !t.isQuo), t.ok ∧ t.isQuo = false := fun t ht => by
  obtain ⟨h1, h2⟩ := List.mem_filter.mp ht
  exact ⟨hok t h1, by simpa using h2⟩
 have hx : (S (flat (ts.filter fun t => !t.isQuo))).length ≤ zH := by rw [S_len]; exact Nat.le_trans (zE8 ts) hl
 have e0 : ∀ {R : Option (PF × PSt)}, (pSeq (zB7 (pVar 0) 2 3 zAz) (pSeq (zO (pBin pEq (pVar 1) (PM.ret (.int 0)))) (PM.ret .next))) (zAI (S (flat (ts.filter fun t => !t.isQuo))) 0 none none (frz st.hp)) = R →
   zEp ⟨zX 4 [.str (S (flat ts))], frz st.hp⟩ = R := fun h =>
  zD (zM (app1c rfl (zE9 _ ts hok hl))) (zD (zM rfl) h)
 have e1 : zB7 (pVar 0) 2 3 zAz (zAI (S (flat (ts.filter fun t => !t.isQuo))) 0 none none (frz st.hp)) = pForP 2 3 zAz (zt 0 (ts.filter fun t => !t.isQuo)) (zAI (S (flat (ts.filter fun t => !t.isQuo))) 0 none none (frz st.hp)) := by
  show (if (S (flat (ts.filter fun t => !t.isQuo))).length ≤ zH then pForP 2 3 zAz (ze (S (flat (ts.filter fun t => !t.isQuo)))) else PM.fail) _ = _
  rw [if_pos hx, zHM fun t ht => (hf t ht).1]
 rw [← zCM]
 rcases zDy (x := S (flat (ts.filter fun t => !t.isQuo))) (H := frz st.hp) (ts.filter fun t => !t.isQuo) 0 0 none none hf with ⟨n', p', c', h1, h2⟩ | ⟨st', h1, h2⟩
 ·rw [h2]
  exact zAM (e0 (zD (e1.trans h1) (zZ (zx (zE rfl rfl rfl))))) rfl
 ·rw [h2]
  exact zAM (e0 (zZ (e1.trans h1))) rfl
theorem zBA {m k : PM Bool} {st st1 : PSt} {b : Bool} {R : Option (Bool × PSt)} (h : m st = some (b, st1)) (h2 : (if b then k else PM.ret false) st1 = R) : pAnd m k st = R := by
 unfold pAnd PM.bind; rw [h]; exact h2
theorem zCy {n : Nat} {t : PM Bool} {b : PM PF} {st st1 st2 : PSt} {R : Option (PF × PSt)} (h : t st = some (true, st1)) (h2 : b st1 = some (.next, st2)) (h3 : zAW n t b st2 = R) : zAW (n + 1) t b st = R := by
 unfold zAW PM.bind; rw [h]; simp only [if_true]; rw [h2]; exact h3
theorem zCN {n : Nat} {t : PM Bool} {b : PM PF} {st st1 : PSt} (h : t st = some (false, st1)) : zAW (n + 1) t b st = some (.next, st1) := by
 unfold zAW PM.bind; rw [h]; rfl
theorem zMF {st : PSt} (a b : Nat) : pLe (.int a) (.int b) st = some (.bool (decide (a ≤ b)), st) := by
 exact congrArg (fun b => some (PV.bool b, st)) (decide_eq_decide.mpr Int.ofNat_le)
theorem zMG {st : PSt} (a b : Nat) : pGt (.int a) (.int b) st = some (.bool (decide (b < a)), st) := by
 exact congrArg (fun b => some (PV.bool b, st)) (decide_eq_decide.mpr Int.ofNat_lt)
theorem zBK {st : PSt} (a b : Nat) (h : b ≤ a) : pSub (.int a) (.int b) st = some (.int ((a - b : Nat) : Int), st) := by
 exact congrArg (fun i => some (PV.int i, st)) (Int.ofNat_sub h).symm
theorem zAT {m : PM PV} {ms : PM (List PV)} {st st1 st2 : PSt} {v : PV} {vs : List PV} (h : m st = some (v, st1)) (h2 : ms st1 = some (vs, st2)) : pCons m ms st = some (v :: vs, st2) := by
 unfold pCons PM.bind; rw [h]; dsimp only; rw [h2]; rfl
theorem zAg {st : PSt} : pNil st = some ([], st) := rfl
theorem zFB {st : PSt} {l : List Nat} (h : l.length ≤ 1000000) : pLen (.str (S l)) st = some (.int (l.length : Nat), st) := by
 exact (if_pos (e := none) (c := (S l).length ≤ zH) (by rw [S_len]; exact h)).trans (by rw [S_len])
theorem zHR {xs : List PV} {a k : Nat} (h : a + k ≤ xs.length) : ((List.range k).map (a + ·)).filterMap (xs[·]?) = (xs.drop a).take k := by
 induction k generalizing a with
 | zero => simp
 | succ k ih =>
  rw [List.range_succ_eq_map, List.map_cons, List.map_map, List.filterMap_cons]
  have e : xs[a + 0]? = some xs[a] := by rw [Nat.add_zero]; exact List.getElem?_eq_getElem (by lia)
  rw [e]
  dsimp only
  have e2 : ((List.range k).map ((a + ·) ∘ Nat.succ)) = (List.range k).map ((a + 1) + ·) := by
   apply List.map_congr_left
   intro i _
   show a + (i + 1) = a + 1 + i
   lia
  rw [e2, ih (by lia), List.drop_eq_getElem_cons (by lia : a < xs.length), List.take_succ_cons]
noncomputable abbrev sL (ls : List (List Nat)) : List PV := ls.map fun l => .str (S l)
theorem zHS {st : PSt} {i : Nat} {b : Bool} {xs : List PV} (hi : st.hp[i]? = some (b, .list xs)) (h : xs.length ≤ 1000000) : pLen (.ref i) st = some (.int (xs.length : Nat), st) := by
 unfold pLen
 simp only [hi]
 rw [if_pos (show xs.length ≤ zH from h)]
noncomputable def ffrom (y w : List Nat) (lo : Nat) : Option Nat := (List.range' lo (w.length + 1 - lo)).find? fun i => decide (i + y.length ≤ w.length) && y.isPrefixOf (w.drop i)
theorem zFC (q : Nat → Bool) : ∀ (n lo i : Nat), (List.range' lo n).find? q = some i → q i = true ∧ lo ≤ i ∧ ∀ k, lo ≤ k → k < i → q k = false
 | 0, lo, i, h => by simp at h
 | n + 1, lo, i, h => by
  rw [List.range'_succ, List.find?_cons] at h
  cases hq : q lo with
  | true =>
   rw [hq] at h
   cases h
   exact ⟨hq, Nat.le_refl _, fun k h1 h2 => by lia⟩
  | false =>
   rw [hq] at h
   obtain ⟨h1, h2, h3⟩ := zFC q n (lo + 1) i h
   refine ⟨h1, by lia, fun k k1 k2 => ?_⟩
   by_cases e : k = lo
   ·rw [e]; exact hq
   ·exact h3 k (by lia) k2
theorem zHT (y w : List Nat) (lo : Nat) : find4 (S w) (S y) lo w.length = match ffrom y w lo with | some i => (i : Int) | none => -1 := by
 unfold find4
 have e : min (fromIndex (S w).length (w.length : Int)) (S w).length = (S w).length := by rw [zG3, S_len, Nat.min_self]
 rw [e, zG3]
 have key : ∀ i, StrLaws.At (S w) (S y) (S w).length i ↔ (decide (i + y.length ≤ w.length) && y.isPrefixOf (w.drop i)) = true := fun i => by
  rw [zCn, Bool.and_eq_true, decide_eq_true_eq, List.isPrefixOf_iff_prefix]
 cases hf : ffrom y w lo with
 | none =>
  have hn := List.find?_eq_none.mp hf
  rcases StrLaws.occ_head_from (S w) (S y) lo 1 (Nat.le_refl _) with ⟨h1, h2⟩ | ⟨j, r, h1, h0, h2, h3⟩
  ·rw [h1]
  ·have := (key j).mp h2
   have hle := ((zCn w y j).mp h2).1
   exact absurd this (hn j (List.mem_range'_1.mpr (by lia)))
 | some i =>
  obtain ⟨q1, q2, q3⟩ := zFC _ _ _ _ hf
  rcases StrLaws.occ_head_from (S w) (S y) lo 1 (Nat.le_refl _) with ⟨h1, h2⟩ | ⟨j, r, h1, h0, h2, h3⟩
  ·exact absurd ((key i).mpr q1) (h2 i q2)
  ·rw [h1]
   have a1 : ¬ j < i := fun q => by
    have := q3 j h0 q
    rw [(key j).mp h2] at this
    cases this
   have a2 : ¬ i < j := fun q => h3 i q2 q ((key i).mpr q1)
   have : j = i := by lia
   rw [this]
noncomputable def ell (w : List Nat) : Nat → List (List Nat) → Bool
 | _, [] => true
 | pos, y :: ys => match ffrom y w pos with
  | none => false
  | some i => ell w (i + y.length) ys
noncomputable def ellB : PM PF := (pSeq (zG 3 (pM3 (pVar 1) (pVar 5) (pVar 3) (pVar 4) zDQ)) (pSeq (pIf ((pBin pLt (pVar 3) (PM.ret (.int 0))).bind zI) (pSeq (zO (PM.ret (.bool false))) (PM.ret .next)) (PM.ret .next)) (pSeq (pAug 3 pIAdd (pApp1 (pVar 5) pLen)) (PM.ret .next))))
theorem zMH {st : PSt} (a : Int) : pLt (.int a) (.int 0) st = some (.bool (decide (a < 0)), st) := rfl
theorem zHU {w : List Nat} {x r : Option PV} {H : List (Bool × PO)} : ∀ (ys : List (List Nat)) (pos : Nat) (u : Option PV), (∀ y ∈ ys, y.length ≤ 1000000) →
  (ell w pos ys = true ∧ ∃ pos' u', pFor (pSet 5) ellB (sL ys) ⟨[x, some (.str (S w)), r, some (.int pos), some (.int w.length), u], H⟩ = some (.next, ⟨[x, some (.str (S w)), r, pos', some (.int w.length), u'], H⟩)) ∨
  (ell w pos ys = false ∧ ∃ vs, pFor (pSet 5) ellB (sL ys) ⟨[x, some (.str (S w)), r, some (.int pos), some (.int w.length), u], H⟩ = some (.ret (.bool false), ⟨vs, H⟩))
 | [], pos, u, _ => .inl ⟨rfl, _, u, rfl⟩
 | y :: ys, pos, u, h => by
  have hf := zHT y w pos
  have e0 : (pM3 (pVar 1) (pVar 5) (pVar 3) (pVar 4) zDQ) ⟨[x, some (.str (S w)), r, some (.int pos), some (.int w.length), some (.str (S y))], H⟩ = some (.int (find4 (S w) (S y) pos w.length), ⟨[x, some (.str (S w)), r, some (.int pos), some (.int w.length), some (.str (S y))], H⟩) := rfl
  have e1 : ell w pos (y :: ys) = match ffrom y w pos with | none => false | some i => ell w (i + y.length) ys := rfl
  rw [e1]
  cases hq : ffrom y w pos with
  | none =>
   rw [hq] at hf
   rw [hf] at e0
   refine .inr ⟨rfl, [x, some (.str (S w)), r, some (.int (-1)), some (.int w.length), some (.str (S y))], ?_⟩
   exact zLz (st1 := ⟨[x, some (.str (S w)), r, some (.int pos), some (.int w.length), some (.str (S y))], H⟩) rfl (zD (zM e0) (zZ (zP (c := true) (zQ (zE rfl rfl rfl)) (zZ (zx rfl)))))
  | some i =>
   have hf : find4 (S w) (S y) pos w.length = (i : Int) := by rw [zHT, hq]
   rw [hf] at e0
   have eb : ellB ⟨[x, some (.str (S w)), r, some (.int pos), some (.int w.length), some (.str (S y))], H⟩ = some (.next, ⟨[x, some (.str (S w)), r, some (.int (i + y.length : Nat)), some (.int w.length), some (.str (S y))], H⟩) := by
    refine zD (zM e0) (zD (zP (c := false) (zQ (zE rfl rfl ((zMH _).trans (by first | (rw [decide_eq_false (by lia)]; done) | (rw [decide_eq_false (by lia)]; rfl))))) rfl) ?_)
    refine zD ?_ rfl
    unfold pAug PM.bind
    have el : (pApp1 (pVar 5) pLen) ⟨[x, some (.str (S w)), r, some (.int i), some (.int w.length), some (.str (S y))], H⟩ = some (.int (y.length : Nat), ⟨[x, some (.str (S w)), r, some (.int i), some (.int w.length), some (.str (S y))], H⟩) := zAD rfl (zFB (h y (.head _)))
    have ev : pVar 3 ⟨[x, some (.str (S w)), r, some (.int i), some (.int w.length), some (.str (S y))], H⟩ = some (.int i, ⟨[x, some (.str (S w)), r, some (.int i), some (.int w.length), some (.str (S y))], H⟩) := rfl
    simp only [List.set_cons_succ, List.set_cons_zero]
    rw [ev]
    dsimp only
    rw [el]
    rfl
   rcases zHU ys (i + y.length) (some (.str (S y))) (fun q hq => h q (.tail _ hq)) (w := w) (x := x) (r := r) (H := H) with ⟨h1, p', u', h2⟩ | ⟨h1, vs, h2⟩
   ·exact .inl ⟨h1, p', u', zA7 rfl eb h2⟩
   ·exact .inr ⟨h1, vs, zA7 rfl eb h2⟩
theorem zHV {n : Nat} (h : 0 < n) : seqIndex? (-1) n = some (n - 1) := by
 rw [StrLaws.seqIndex_neg (by lia) (by lia)]
 congr 1
 lia
theorem zHW : ∀ (ys : List (List Nat)), (∀ y ∈ ys, y.length ≤ (List.intercalate dots ys).length) ∧ ys.length ≤ (List.intercalate dots ys).length + 1
 | [] => ⟨fun _ h => (nomatch h), Nat.zero_le _⟩
 | [p] => by
  rw [zEy]
  exact ⟨fun y hy => by simp at hy; rw [hy]; exact Nat.le_refl _, by simp⟩
 | p :: q :: r => by
  obtain ⟨h1, h2⟩ := zHW (q :: r)
  have e : (List.intercalate dots (p :: q :: r)).length = p.length + (3 + (List.intercalate dots (q :: r)).length) := by
   rw [zCE, List.length_append, List.length_append]; rfl
  refine ⟨fun y hy => ?_, ?_⟩
  ·rcases List.mem_cons.mp hy with rfl | hy
   ·lia
   ·have := h1 y hy; lia
  ·rw [List.length_cons]; lia
theorem r_ell (st : PSt) {ps : List (List Nat)} (w : List Nat) (hp : ∀ p ∈ ps, 46 ∉ p) (hl : (List.intercalate dots ([] :: (ps ++ [[]]))).length ≤ 100000) (hw : w.length ≤ 1000000) :
  zDf [.str (S (List.intercalate dots ([] :: (ps ++ [[]])))), .str (S w)] st = some (.bool (ell w 0 ([] :: (ps ++ [[]]))), st) := by
 obtain ⟨q, r, hqr⟩ : ∃ q r, ps ++ [[]] = q :: r := by
  cases ps with
  | nil => exact ⟨_, _, rfl⟩
  | cons a b => exact ⟨_, _, rfl⟩
 have hlast : ([] :: (ps ++ [[]]))[([] :: (ps ++ [[]])).length - 1]? = some ([] : List Nat) := by simp
 have hp' : ∀ p ∈ ([] :: (ps ++ [[]]) : List (List Nat)), 46 ∉ p := by
  intro p hm
  rcases List.mem_cons.mp hm with rfl | hm
  ·simp
  ·rcases List.mem_append.mp hm with hm | hm
   ·exact hp p hm
   ·simp at hm; rw [hm]; simp
 have h2 : 2 ≤ ([] :: (ps ++ [[]]) : List (List Nat)).length := by simp
 have hsplit := zLt h2 hp'
 have hocc := zG7 h2 hp'
 have hcont : Txt.contains (S (List.intercalate dots ([] :: (ps ++ [[]])))) (S dots) = true := by rw [hqr]; exact zLu
 have hne : ([] :: (ps ++ [[]]) : List (List Nat)) ≠ [] := by simp
 have h0 : ([] :: (ps ++ [[]]) : List (List Nat))[0]? = some [] := rfl
 obtain ⟨il1, il2⟩ := zHW ([] :: (ps ++ [[]]))
 generalize hys : ([] :: (ps ++ [[]]) : List (List Nat)) = ys at *
 generalize hX : List.intercalate dots ys = X at *
 let H : List (Bool × PO) := frz st.hp ++ [(false, .list (sL ys))]
 let H2 : List (Bool × PO) := H ++ [(false, .tuple [.int 0, .int w.length])]
 have hr : H2[(frz st.hp).length]? = some (false, .list (sL ys)) := by
  show (frz st.hp ++ [(false, PO.list (sL ys))] ++ _)[(frz st.hp).length]? = _
  rw [List.getElem?_append_left (by simp), zT]
 have e1 : (pM1 (pVar 0) (PM.ret (.str "...")) zDS) ⟨[some (.str (S X)), some (.str (S w)), none, none, none, none], frz st.hp⟩ = some (.ref (frz st.hp).length, ⟨[some (.str (S X)), some (.str (S w)), none, none, none, none], H⟩) := by
  refine zBJ rfl rfl ?_
  rw [zHE]
  unfold zDS
  dsimp only
  have hb1 : (S X).length ≤ zH := by rw [S_len]; exact Nat.le_trans hl (by decide : 100000 ≤ zH)
  have hb2 : (Builtin.Str.partsBetween (S X) (Builtin.Str.occurrences (S X) (S dots) 0 (S X).length ((S X).length + 1)) (S dots).length).length ≤ zH := by
   rw [hocc, StrLaws.partsBetween_eq]
   have e : (S dots).length = 3 := by rw [S_len]; rfl
   rw [e, zEz X ys 0 hne hX.symm, List.length_map]
   exact Nat.le_trans il2 (Nat.le_trans (by lia) (by decide : 1000000 ≤ zH))
  rw [if_pos ⟨hb1, hb2, by rw [S_len]; decide⟩, hsplit, List.map_map]
  rfl
 have elen : ∀ vs hp, (hp : List (Bool × PO))[(frz st.hp).length]? = some (false, .list (sL ys)) → pLen (.ref (frz st.hp).length) ⟨vs, hp⟩ = some (.int (ys.length : Nat), ⟨vs, hp⟩) := fun vs hp h => by
  have := zHS (st := ⟨vs, hp⟩) h (by rw [List.length_map]; lia)
  rw [this, List.length_map]
 have ege : ∀ st, pGe (.int (ys.length : Nat)) (.int 2) st = some (.bool true, st) := fun st => by
  exact congrArg (fun b => some (PV.bool b, st)) (decide_eq_true (by lia))
 have hsl0 : (sL ys)[0]? = some (.str (S [])) := by rw [List.getElem?_map, h0]; rfl
 have hsll : pItem (.ref (frz st.hp).length) (.int (-1)) ⟨[some (.str (S X)), some (.str (S w)), some (.ref (frz st.hp).length), some (.int 0), some (.int w.length), some (.str (S []))], H2⟩ = some (.str (S []), ⟨[some (.str (S X)), some (.str (S w)), some (.ref (frz st.hp).length), some (.int 0), some (.int w.length), some (.str (S []))], H2⟩) := by
  have e : (sL ys)[ys.length - 1]? = some (.str (S [])) := by rw [List.getElem?_map, hlast]; rfl
  have hsq : seqIndex? (-1) (sL ys).length = some (ys.length - 1) := by
   rw [zHV (by rw [List.length_map]; lia), List.length_map]
  have hfit : fitsSsize (-1) = true := by decide
  rw [zDK, hr]
  simp only [hfit, if_true, hsq, Option.bind_some, e, Option.map_some]
 have key : ∀ {R : Option (PF × PSt)}, (pSeq (pForE (pSrc (pVar 2)) (pSet 5) ellB) (pSeq (zO (PM.ret (.bool true))) (PM.ret .next))) ⟨[some (.str (S X)), some (.str (S w)), some (.ref (frz st.hp).length), some (.int 0), some (.int w.length), some (.str (S []))], H2⟩ = R →
   zEq ⟨zX 6 [.str (S X), .str (S w)], frz st.hp⟩ = R := fun {R} hR => by
  refine zD (st1 := ⟨[some (.str (S X)), some (.str (S w)), none, none, none, none], frz st.hp⟩) (zP (c := false) (zQ (zE rfl rfl ((zDx _ _).trans (by rw [zHE, hcont]; rfl)))) rfl) ?_
  refine zD (zM (vs := [some (.str (S X)), some (.str (S w)), none, none, none, none]) (hp := H) e1) ?_
  refine zD (st1 := ⟨[some (.str (S X)), some (.str (S w)), some (.ref (frz st.hp).length), none, none, none], H⟩) ?_ ?_
  ·unfold zEJ PM.bind
   have := zQ (zE (f := pGe) (l := pApp1 (pVar 2) pLen) (r := PM.ret (.int 2)) (st := ⟨[some (.str (S X)), some (.str (S w)), some (.ref (frz st.hp).length), none, none, none], H⟩) (zAD rfl (elen _ H (zT _ _))) rfl (ege _))
   unfold PM.bind at this
   simp only [List.set_cons_succ, List.set_cons_zero]
   rw [this]
   rfl
  refine zD (st1 := ⟨[some (.str (S X)), some (.str (S w)), some (.ref (frz st.hp).length), some (.int 0), some (.int w.length), none], H2⟩) ?_ ?_
  ·have et : zU (pCons (PM.ret (.int 0)) (pCons (pApp1 (pVar 1) pLen) pNil)) ⟨[some (.str (S X)), some (.str (S w)), some (.ref (frz st.hp).length), none, none, none], H⟩ = some (.ref H.length, ⟨[some (.str (S X)), some (.str (S w)), some (.ref (frz st.hp).length), none, none, none], H2⟩) := by
    refine zAv (hp := H) ?_ (by exact Nat.le_trans (by decide : 2 ≤ 4) b4)
    have el : (pApp1 (pVar 1) pLen) ⟨[some (.str (S X)), some (.str (S w)), some (.ref (frz st.hp).length), none, none, none], H⟩ = some (.int (w.length : Nat), ⟨[some (.str (S X)), some (.str (S w)), some (.ref (frz st.hp).length), none, none, none], H⟩) := zAD rfl (zFB hw)
    simp only [pCons, pNil, PM.bind, PM.ret, el]
   unfold zEg PM.bind
   rw [et]
   unfold pPair
   simp only [H2, zT]
   rfl
  refine zD (zM (vs := [some (.str (S X)), some (.str (S w)), some (.ref (frz st.hp).length), some (.int 0), some (.int w.length), none]) (hp := H2) (zE rfl rfl (zCG (k := 0) hr hsl0 (by decide)))) ?_
  refine zD (st1 := ⟨[some (.str (S X)), some (.str (S w)), some (.ref (frz st.hp).length), some (.int 0), some (.int w.length), some (.str (S []))], H2⟩) (zP (c := false) (st1 := ⟨[some (.str (S X)), some (.str (S w)), some (.ref (frz st.hp).length), some (.int 0), some (.int w.length), some (.str (S []))], H2⟩) rfl rfl) ?_
  refine zD (zM (vs := [some (.str (S X)), some (.str (S w)), some (.ref (frz st.hp).length), some (.int 0), some (.int w.length), some (.str (S []))]) (hp := H2) (zE rfl rfl hsll)) ?_
  refine zD (st1 := ⟨[some (.str (S X)), some (.str (S w)), some (.ref (frz st.hp).length), some (.int 0), some (.int w.length), some (.str (S []))], H2⟩) (zP (c := false) (st1 := ⟨[some (.str (S X)), some (.str (S w)), some (.ref (frz st.hp).length), some (.int 0), some (.int w.length), some (.str (S []))], H2⟩) rfl rfl) ?_
  have egt : pGt (.int 0) (.int w.length) ⟨[some (.str (S X)), some (.str (S w)), some (.ref (frz st.hp).length), some (.int 0), some (.int w.length), some (.str (S []))], H2⟩ = some (.bool false, ⟨[some (.str (S X)), some (.str (S w)), some (.ref (frz st.hp).length), some (.int 0), some (.int w.length), some (.str (S []))], H2⟩) := by
   exact congrArg (fun b => some (PV.bool b, _)) (decide_eq_false (by lia))
  exact zD (zP (c := false) (zQ (zE rfl rfl egt)) rfl) hR
 have es := zCI (m := pVar 2) (st := ⟨[some (.str (S X)), some (.str (S w)), some (.ref (frz st.hp).length), some (.int 0), some (.int w.length), some (.str (S []))], H2⟩) (st1 := ⟨[some (.str (S X)), some (.str (S w)), some (.ref (frz st.hp).length), some (.int 0), some (.int w.length), some (.str (S []))], H2⟩) rfl hr
 rcases zHU ys 0 (some (.str (S []))) (fun y hy => by have := il1 y hy; lia) (w := w) (x := some (.str (S X))) (r := some (.ref (frz st.hp).length)) (H := fzAt [(frz st.hp).length] H2) with ⟨h1, p', u', h2'⟩ | ⟨h1, vs, h2'⟩
 ·rw [h1]
  exact zAM (s' := ⟨[some (.str (S X)), some (.str (S w)), some (.ref (frz st.hp).length), p', some (.int w.length), u'], H2⟩) (key (zD (zDr es h2') (zZ (zx rfl)))) rfl
 ·rw [h1]
  exact zAM (s' := ⟨vs, H2⟩) (key (zZ (zDr es h2'))) rfl
noncomputable abbrev iL (l : List Nat) : List PV := l.map fun (n : Nat) => .int (n : Int)
noncomputable def octsR (x : Nat) : List Nat := if x < 64 then [x % 64] else if x < 4096 then [x % 64, 64 + x / 64 % 64] else [x % 64, 64 + x / 64 % 64, 64 + x / 64 / 64 % 64]
noncomputable def octs (x : Nat) : List Nat := if x < 64 then [x % 64 + 128 * (x % 2)] else if x < 4096 then [64 + x / 64 % 64 + 128 * (x % 2), x % 64] else [64 + x / 64 / 64 % 64 + 128 * (x % 2), 64 + x / 64 % 64, x % 64]
theorem zFD {st : PSt} (a b : Nat) (h : a < 1000000) : pMul (.int (a : Int)) (.int (b : Int)) st = some (.int ((a * b : Nat) : Int), st) := by
 have e64 : (2 : Nat) ^ 64 = 18446744073709551616 := by decide
 unfold pMul; dsimp only
 rw [if_pos (Or.inl (by lia))]
 rfl
theorem zBL {st : PSt} (a : Int) : pNeg (PM.ret (.int a)) st = some (.int (-a), st) := rfl
theorem zHX {hp : List (Bool × PO)} {vs : List (Option PV)} {a : Nat} {b : Bool} {xs : List PV} {v : PV} (h : hp[a]? = some (b, .list (xs ++ [v]))) : pItem (.ref a) (.int (-1)) ⟨vs, hp⟩ = some (v, ⟨vs, hp⟩) := by
 rw [zDK, h]
 dsimp only
 rw [if_pos (by decide), zHV (by simp)]
 simp
theorem zMI {mv mo : PM PV} {st : PSt} {vs : List (Option PV)} {hp : List (Bool × PO)} {a : Nat} {xs : List PV} {u v : PV} (h1 : mv st = some (v, ⟨vs, hp⟩)) (h2 : mo ⟨vs, hp⟩ = some (.ref a, ⟨vs, hp⟩)) (h : hp[a]? = some (false, .list (xs ++ [u]))) : zDd mv mo st = some (.next, ⟨vs, hp.set a (false, .list (xs ++ [v]))⟩) := by
 unfold zDd PM.bind
 rw [h1]; dsimp only; rw [h2]; dsimp only
 simp only [h]
 rw [if_pos (by simp)]
 have : (xs ++ [u]).set ((xs ++ [u]).length - 1) v = xs ++ [v] := by simp
 rw [this]
theorem zHY {mo ml mu mt : PM PV} {st st1 st2 st3 st4 : PSt} {o l u t : PV} {R : Option (PV × PSt)} (h1 : mo st = some (o, st1)) (h2 : ml st1 = some (l, st2)) (h3 : mu st2 = some (u, st3)) (h4 : mt st3 = some (t, st4)) (h : zBV o l u t st4 = R) : pSl3 mo ml mu mt st = R := by
 unfold pSl3 PM.bind; rw [h1]; dsimp only; rw [h2]; dsimp only; rw [h3]; dsimp only; rw [h4]; exact h
noncomputable def ocW : PM PF := (pSeq (pExpr (zg (pVar 1) (pBin pAdd (PM.ret (.int 64)) (pBin pMod (pVar 2) (PM.ret (.int 64)))))) (pSeq (zG 2 (pBin pDiv (pVar 2) (PM.ret (.int 64)))) (PM.ret .next)))
noncomputable def ocT : PM Bool := ((pBin pGt (pVar 2) (PM.ret (.int 0))).bind zI)
noncomputable def ocS (x r : Nat) (ys : List Nat) (H : List (Bool × PO)) : PSt := ⟨[some (.int (x : Int)), some (.ref H.length), some (.int (r : Int))], H ++ [(false, .list (iL ys))]⟩
theorem zCz (x r : Nat) (ys : List Nat) (H : List (Bool × PO)) : ocT (ocS x r ys H) = some (decide (0 < r), ocS x r ys H) := zQ (zE rfl rfl (zMG r 0))
theorem zHZ (x r : Nat) (ys : List Nat) (H : List (Bool × PO)) (hl : ys.length ≤ 10) : ocW (ocS x r ys H) = some (.next, ocS x (r / 64) (ys ++ [64 + r % 64]) H) := by
 refine zD (zA9 (v := .none) ((zDw (v := .int ((64 + r % 64 : Nat) : Int)) rfl (zE rfl (zE rfl rfl (zBY r 64 (by decide))) (zAw 64 (r % 64))) (zT _ _) (by rw [List.length_map]; exact Nat.le_trans hl (by decide))).trans (by rw [zDv])) rfl) ?_
 have e : iL ys ++ [PV.int ((64 + r % 64 : Nat) : Int)] = iL (ys ++ [64 + r % 64]) := by simp [iL]
 rw [e]
 exact zD (zM (zE rfl rfl (zCq r 64 (by decide) (by decide)))) rfl
theorem zMJ (x : Nat) (hx : x < 262144) (H : List (Bool × PO)) : zAW 100 ocT ocW (ocS x (x / 64) [x % 64] H) = some (.next, ocS x 0 (octsR x) H) := by
 by_cases h1 : x < 64
 ·have e : x / 64 = 0 := by lia
  rw [e]
  unfold octsR
  rw [if_pos h1]
  exact zCN ((zCz _ _ _ _).trans rfl)
 ·refine zCy ((zCz _ _ _ _).trans (by rw [decide_eq_true (by lia)])) (zHZ _ _ _ _ (by simp)) ?_
  by_cases h2 : x < 4096
  ·have e : x / 64 / 64 = 0 := by lia
   rw [e]
   unfold octsR
   rw [if_neg h1, if_pos h2]
   exact zCN ((zCz _ _ _ _).trans rfl)
  ·refine zCy ((zCz _ _ _ _).trans (by rw [decide_eq_true (by lia)])) (zHZ _ _ _ _ (by simp)) ?_
   have e : x / 64 / 64 / 64 = 0 := by lia
   rw [e]
   unfold octsR
   rw [if_neg h1, if_neg h2]
   exact zCN ((zCz _ _ _ _).trans rfl)
theorem zMK (x : Nat) : ∃ ys z, octsR x = ys ++ [z] ∧ octs x = (z + 128 * (x % 2)) :: ys.reverse ∧ ys.length ≤ 2 := by
 unfold octsR octs
 by_cases h1 : x < 64
 ·rw [if_pos h1, if_pos h1]; exact ⟨[], x % 64, rfl, rfl, by simp⟩
 ·rw [if_neg h1, if_neg h1]
  by_cases h2 : x < 4096
  ·rw [if_pos h2, if_pos h2]; exact ⟨[x % 64], 64 + x / 64 % 64, rfl, rfl, by simp⟩
  ·rw [if_neg h2, if_neg h2]; exact ⟨[x % 64, 64 + x / 64 % 64], _, rfl, rfl, by simp⟩
theorem rev3 {hp : List (Bool × PO)} {vs : List (Option PV)} {a : Nat} {b : Bool} {xs : List PV} (h : hp[a]? = some (b, .list xs)) (hl : xs.length ≤ 6) : zBV (.ref a) .none .none (.int (-1)) ⟨vs, hp⟩ = some (.ref hp.length, ⟨vs, hp ++ [(false, .list xs.reverse)]⟩) := by
 have e : pick3 none none (-1) xs = xs.reverse := by
  match xs, hl with
  | [], _ => kernel_rfl
  | [_], _ => kernel_rfl
  | [_, _], _ => kernel_rfl
  | [_, _, _], _ => kernel_rfl
  | [_, _, _, _], _ => kernel_rfl
  | [_, _, _, _, _], _ => kernel_rfl
  | [_, _, _, _, _, _], _ => kernel_rfl
  | _ :: _ :: _ :: _ :: _ :: _ :: _ :: _, hl => simp at hl
 unfold zBV
 simp only [zBE, zBF, Option.bind_some, h]
 rw [if_pos ⟨Nat.le_trans hl (by decide), by decide⟩, e]
 rfl
theorem zML (st : PSt) {x : Nat} (hx : x < 262144) : zDh [.int (x : Int)] st = some (.ref st.hp.length, ⟨st.vars, st.hp ++ [(false, .list (iL (octs x)))]⟩) := by
 apply byC; intro kz; obtain ⟨ys, z, e1, e2, e3⟩ := zMK x; apply kz; clear kz
 have hL := zLw st.hp
 generalize hH : frz st.hp = H at hL
 have el := zMJ x hx H
 rw [e1] at el
 have g1 : (H ++ [((false : Bool), PO.list (iL (ys ++ [z])))])[H.length]? = some (false, .list (iL ys ++ [.int (z : Int)])) := by
  rw [zT]
  simp [iL]
 refine zLv (i := H.length + 1) (s' := ⟨[some (.int (x : Int)), some (.ref H.length), some (.int ((0 : Nat) : Int))], H ++ [(false, .list (iL ys ++ [.int ((z + 128 * (x % 2) : Nat) : Int)]))] ++ [(false, .list (iL (octs x)))]⟩) ?_ ?_ ?_ (by lia)
 ·rw [hH]
  refine zD (zM (vs := [some (.int (x : Int)), none, none]) (zBm (zAT (zE rfl rfl (zBY x 64 (by decide))) zAg) (by show 1 ≤ zH; decide))) ?_
  refine zD (zM (zE rfl rfl (zCq x 64 (by decide) (by decide)))) ?_
  refine zD el ?_
  have e3' : (octs x) = ((ys ++ [z + 128 * (x % 2)])).reverse := by rw [e2]; simp
  have hm : ∀ s, pMul (.int 128) (.int ((x % 2 : Nat) : Int)) s = some (.int ((128 * (x % 2) : Nat) : Int), s) := fun s => zFD 128 (x % 2) (by lia)
  refine zD (zMI (v := .int ((z + 128 * (x % 2) : Nat) : Int)) (zE (zE rfl (zBL 1) (zHX g1)) (zE rfl (zE rfl rfl (zBY x 2 (by decide))) (hm _)) (zAw z (128 * (x % 2)))) rfl g1) ?_
  rw [zDv]
  refine zZ (zx (zHY rfl rfl rfl (zBL 1) ((rev3 (zT _ _) (by rw [List.length_append, List.length_map]; show _ + 1 ≤ 6; lia)).trans ?_)))
  rw [e3', show (iL ys ++ [PV.int ((z + 128 * (x % 2) : Nat) : Int)]) = iL (ys ++ [z + 128 * (x % 2)]) by simp [iL], ← List.map_reverse, List.length_append]
  rfl
 ·have := zT (H ++ [((false : Bool), PO.list (iL ys ++ [PV.int ((z + 128 * (x % 2) : Nat) : Int)]))]) ((false : Bool), PO.list (iL (octs x)))
  rwa [List.length_append] at this
 ·rw [List.all_map]
  exact List.all_eq_true.mpr fun _ _ => rfl
theorem zMM : ((List.range 256).all fun y => (Builtin.bitAnd (y : Nat) 63 == ((y % 64 : Nat) : Int)) && (Builtin.bitAnd (y : Nat) 64 == (if y / 64 % 2 = 1 then 64 else 0))) = true := by decide +kernel
theorem bits {y : Nat} (h : y < 256) : Builtin.bitAnd (y : Nat) 63 = ((y % 64 : Nat) : Int) ∧ Builtin.bitAnd (y : Nat) 64 = (if y / 64 % 2 = 1 then 64 else 0) := by
 have := List.all_eq_true.mp zMM y (List.mem_range.mpr h)
 simpa only [Bool.and_eq_true, beq_iff_eq] using this
theorem zMN (v d : Nat) (h : d < 64) : Builtin.bitOr ((v * 64 : Nat) : Int) (d : Nat) = ((v * 64 + d : Nat) : Int) := by
 have e : v * 64 + d = v * 64 ||| d := by
  have := Nat.two_pow_add_eq_or_of_lt (i := 6) (b := d) (by lia) v
  have h2 : 2 ^ 6 * v = v * 64 := by lia
  rw [h2] at this
  exact this
 rw [e]
 have n1 : decide (0 ≤ Builtin.bitNot ((v * 64 : Nat) : Int)) = false := decide_eq_false (by unfold Builtin.bitNot; lia)
 have n2 : decide (0 ≤ Builtin.bitNot ((d : Nat) : Int)) = false := decide_eq_false (by unfold Builtin.bitNot; lia)
 have nn : ∀ x : Int, Builtin.bitNot (Builtin.bitNot x) = x := fun x => by unfold Builtin.bitNot; lia
 unfold Builtin.bitOr Builtin.bitAnd
 rw [n1, n2]
 dsimp only
 rw [nn, nn, nn]
 rfl
theorem zHa {vs : List (Option PV)} {hp : List (Bool × PO)} {it li pos : Nat} {b : Bool} {xs : List PV} {x : PV} (h1 : hp[it]? = some (false, .iter li pos)) (h2 : hp[li]? = some (b, .list xs)) (h3 : xs[pos]? = some x) :
  pNext (.ref it) ⟨vs, hp⟩ = some (x, ⟨vs, hp.set it (false, .iter li (pos + 1))⟩) := by
 unfold pNext
 simp only [h1, h2, h3, Option.map_some]
theorem zHb {i : Nat} {f : PV → PV → PM PV} {m : PM PV} {vs : List (Option PV)} {hp : List (Bool × PO)} {a b r : PV} (h1 : vs[i]? = some (some a)) (h2 : m ⟨vs, hp⟩ = some (b, ⟨vs, hp⟩)) (h3 : f a b ⟨vs, hp⟩ = some (r, ⟨vs, hp⟩)) : pAug i f m ⟨vs, hp⟩ = some (.next, ⟨vs.set i (some r), hp⟩) := by
 unfold pAug PM.bind
 have : pVar i ⟨vs, hp⟩ = some (a, ⟨vs, hp⟩) := by unfold pVar; simp only [h1]
 rw [this]; dsimp only; rw [h2]; dsimp only; rw [h3]; rfl
theorem zFE {st : PSt} (a b : Int) : zBP (.int a) (.int b) st = some (.int (Builtin.bitAnd a b), st) := rfl
noncomputable def viT : PM Bool := ((pBin zBP (pVar 1) (PM.ret (.int 64))).bind zI)
noncomputable def viB : PM PF := (pSeq (pAug 2 pShl (PM.ret (.int 6))) (pSeq (zG 1 (pApp1 (pVar 0) pNext)) (pSeq (pAug 2 zCU (pBin zBP (pVar 1) (PM.ret (.int 63)))) (PM.ret .next))))
theorem zMO {m : PM PV} {st st1 : PSt} {i : Int} (h : m st = some (.int i, st1)) : (m.bind zI) st = some (i != 0, st1) := by
 unfold PM.bind; rw [h]; rfl
section
variable {K : List (Bool × PO)} {it li : Nat} {fb : Bool} {xs : List Nat}
noncomputable def viS (K : List (Bool × PO)) (it li pos y v : Nat) : PSt := ⟨[some (.ref it), some (.int (y : Int)), some (.int (v : Int))], K.set it (false, .iter li pos)⟩
theorem zCO {pos y v : Nat} (hy : y < 256) : viT (viS K it li pos y v) = some (decide (y / 64 % 2 = 1), viS K it li pos y v) := by
 have e := zMO (m := pBin zBP (pVar 1) (PM.ret (.int 64))) (zE (st := viS K it li pos y v) rfl rfl ((zFE (y : Int) 64).trans (by rw [(bits hy).2])))
 refine e.trans ?_
 by_cases h : y / 64 % 2 = 1
 ·rw [if_pos h, decide_eq_true h]; rfl
 ·rw [if_neg h, decide_eq_false h]; rfl
theorem zFF (hne : li ≠ it) (hit : it < K.length) (hli : K[li]? = some (fb, .list (iL xs))) {pos y z v : Nat} (hv : v < 2 ^ 60) (hz : z < 256) (hx : xs[pos]? = some z) :
  viB (viS K it li pos y v) = some (.next, viS K it li (pos + 1) z (v * 64 + z % 64)) := by
 have hs1 : (K.set it (false, .iter li pos))[it]? = some (false, .iter li pos) := List.getElem?_set_self hit
 have hs2 : (K.set it (false, .iter li pos))[li]? = some (fb, .list (iL xs)) := by rw [List.getElem?_set_ne (fun q => hne q.symm), hli]
 have hxi : (iL xs)[pos]? = some (.int z) := by rw [List.getElem?_map, hx]; rfl
 have e1 : pShl (.int v) (.int 6) (viS K it li pos y v) = some (.int (v * 64 : Nat), viS K it li pos y v) := by
  unfold pShl
  dsimp only
  have e60 : (2:Nat) ^ 60 < 2 ^ 64 := by decide
  rw [if_pos ⟨by decide, by decide, by lia⟩]
  rfl
 have e2 : zCU (.int (v * 64 : Nat)) (.int ((z % 64 : Nat) : Int)) (viS K it li (pos + 1) z (v * 64)) = some (.int (v * 64 + z % 64 : Nat), viS K it li (pos + 1) z (v * 64)) := by
  unfold zCU
  dsimp only
  rw [zMN v (z % 64) (Nat.mod_lt _ (by decide))]
 refine zD (zHb (a := .int v) rfl rfl e1) ?_
 have e3 := zHa (vs := [some (.ref it), some (.int (y : Int)), some (.int (v * 64 : Nat))]) hs1 hs2 hxi
 rw [List.set_set] at e3
 refine zD (zM (vs := [some (.ref it), some (.int (y : Int)), some (.int (v * 64 : Nat))]) (zAD rfl e3)) ?_
 exact zD (zHb (a := .int (v * 64 : Nat)) (b := .int ((z % 64 : Nat) : Int)) rfl (zE rfl rfl ((zFE _ _).trans (by rw [(bits hz).1]))) e2) rfl
theorem zFG (hk : ∃ p0, K[it]? = some (false, .iter li p0) ∧ xs[p0]? = some y0 ∧ p0 + 1 = pos) (hli : K[li]? = some (fb, .list (iL xs))) (hy : y0 < 256) {v : Nat} {p1 y1 : Nat} {vs : List (Option PV)}
  (hw : zAW 100 viT viB (viS K it li pos y0 (y0 % 64)) = some (.next, viS K it li p1 y1 v)) : zCk [.ref it] ⟨vs, K⟩ = some (.int (v : Int), ⟨vs, K.set it (false, .iter li p1)⟩) := by
 apply byC; intro kz; obtain ⟨p0, h1, h2, rfl⟩ := hk; apply kz; clear kz
 have hxi : (iL xs)[p0]? = some (.int y0) := by rw [List.getElem?_map, h2]; rfl
 have e : zDe ⟨[some (.ref it), none, none], K⟩ = some (.ret (.int (v : Int)), viS K it li p1 y1 v) := by
  refine zD (zM (vs := [some (.ref it), none, none]) (zAD rfl (zHa h1 hli hxi))) ?_
  refine zD (zM (v := .int ((y0 % 64 : Nat) : Int)) (vs := [some (.ref it), some (.int (y0 : Int)), none]) (zE rfl rfl ((zFE _ _).trans (by rw [(bits hy).1]; rfl)))) ?_
  exact zD hw (zZ (zx rfl))
 show (match zDe ⟨[some (.ref it), none, none], K⟩ with | some (.ret v, s') => _ | some (.next, s') => _ | _ => none) = _
 rw [e]
 rfl
theorem zMP : ((List.range 64).all fun d => (List.range 2).all fun p => decide (((d + 128 * p) / 64 % 2 ≠ 1 ∧ (d + 128 * p) % 64 = d ∧ d + 128 * p < 256) ∧ ((64 + d + 128 * p) / 64 % 2 = 1 ∧ (64 + d + 128 * p) % 64 = d ∧ 64 + d + 128 * p < 256))) = true := by decide +kernel
theorem zHc {d p : Nat} (hd : d < 64) (hp : p < 2) : ((d + 128 * p) / 64 % 2 ≠ 1 ∧ (d + 128 * p) % 64 = d ∧ d + 128 * p < 256) ∧ ((64 + d + 128 * p) / 64 % 2 = 1 ∧ (64 + d + 128 * p) % 64 = d ∧ 64 + d + 128 * p < 256) :=
 of_decide_eq_true (List.all_eq_true.mp (List.all_eq_true.mp zMP d (List.mem_range.mpr hd)) p (List.mem_range.mpr hp))
theorem zHd {d p : Nat} (hd : d < 64) (hp : p < 2) : (d + 128 * p) / 64 % 2 ≠ 1 ∧ (d + 128 * p) % 64 = d ∧ d + 128 * p < 256 := (zHc hd hp).1
theorem zFH {d p : Nat} (hd : d < 64) (hp : p < 2) : (64 + d + 128 * p) / 64 % 2 = 1 ∧ (64 + d + 128 * p) % 64 = d ∧ 64 + d + 128 * p < 256 := (zHc hd hp).2
theorem zFI (x : Nat) : x / 64 * 64 + x % 64 = x := by rw [Nat.mul_comm]; exact Nat.div_add_mod x 64
theorem lt60 {a b : Nat} (h : a < 64) (h2 : b < 64) : a * 64 + b < 2 ^ 60 := Nat.lt_of_lt_of_le (Nat.add_lt_add_of_lt_of_le (Nat.mul_lt_mul_of_pos_right h (by decide)) (Nat.le_of_lt h2)) (by decide)
theorem lt60' {a : Nat} (h : a < 64) : a < 2 ^ 60 := Nat.lt_trans h (by decide)
theorem zCP {xs r : List Nat} {pos k c : Nat} (h : xs.drop pos = r) (hk : r[k]? = some c) : xs[pos + k]? = some c := by
 rw [← h, List.getElem?_drop] at hk
 exact hk
theorem r_vi {vs : List (Option PV)} {pos : Nat} (hne : li ≠ it) (hk : K[it]? = some (false, .iter li pos)) (hli : K[li]? = some (fb, .list (iL xs))) {x : Nat} (hx : x < 262144) {tail : List Nat} (hd : xs.drop pos = octs x ++ tail) :
  zCk [.ref it] ⟨vs, K⟩ = some (.int (x : Int), ⟨vs, K.set it (false, .iter li (pos + (octs x).length))⟩) := by
 have hit := (List.getElem?_eq_some_iff.mp hk).1
 have hp2 : x % 2 < 2 := Nat.mod_lt _ (by decide)
 have h0 : x % 64 < 64 := Nat.mod_lt _ (by decide)
 have g0 : x % 64 < 256 := Nat.lt_trans h0 (by decide)
 have m1 : x / 64 % 64 < 64 := Nat.mod_lt _ (by decide)
 have m2 : x / 64 / 64 % 64 < 64 := Nat.mod_lt _ (by decide)
 apply byC; intro kz; obtain ⟨a1, a2, a3⟩ := zHd h0 hp2; apply kz; clear kz
 apply byC; intro kz; obtain ⟨b1, b2, b3⟩ := zFH m1 hp2; apply kz; clear kz
 apply byC; intro kz; obtain ⟨c1, c2, c3⟩ := zFH m2 hp2; apply kz; clear kz
 apply byC; intro kz; obtain ⟨d1, d2, d3⟩ := zHd (p := 0) h0 (by decide); apply kz; clear kz
 apply byC; intro kz; obtain ⟨e1, e2, e3⟩ := zFH (p := 0) m1 (by decide); apply kz; clear kz
 rw [Nat.mul_zero, Nat.add_zero] at d1 d2 d3 e1 e2 e3
 unfold octs at hd ⊢
 by_cases h1 : x < 64
 ·rw [if_pos h1] at hd ⊢
  have y0 := zCP (k := 0) hd rfl
  have hw : zAW 100 viT viB (viS K it li (pos + 1) (x % 64 + 128 * (x % 2)) ((x % 64 + 128 * (x % 2)) % 64)) = some (.next, viS K it li (pos + 1) (x % 64 + 128 * (x % 2)) ((x % 64 + 128 * (x % 2)) % 64)) :=
   zCN ((zCO a3).trans (by rw [decide_eq_false a1]))
  have := zFG (vs := vs) ⟨pos, hk, y0, rfl⟩ hli a3 hw
  rw [a2, Nat.mod_eq_of_lt h1] at this
  rw [Nat.mod_eq_of_lt h1]
  exact this
 ·rw [if_neg h1] at hd ⊢
  by_cases h2 : x < 4096
  ·rw [if_pos h2] at hd ⊢
   have y0 := zCP (k := 0) hd rfl
   have y1 := zCP (k := 1) hd rfl
   have q1 : x / 64 % 64 = x / 64 := Nat.mod_eq_of_lt (Nat.div_lt_of_lt_mul h2)
   have hw := zCy (n := 99) (zCO (K := K) (it := it) (li := li) (pos := pos + 1) (v := (64 + x / 64 % 64 + 128 * (x % 2)) % 64) b3 |>.trans (by rw [decide_eq_true b1])) (zFF hne hit hli (lt60' (Nat.mod_lt _ (by decide))) g0 y1) (zCN (n := 98) ((zCO g0).trans (by rw [decide_eq_false d1])))
   have := zFG (vs := vs) ⟨pos, hk, y0, rfl⟩ hli b3 hw
   rw [b2, d2, q1, zFI] at this
   rw [q1]
   exact this
  ·rw [if_neg h2] at hd ⊢
   have y0 := zCP (k := 0) hd rfl
   have y1 := zCP (k := 1) hd rfl
   have y2 := zCP (k := 2) hd rfl
   have q2 : x / 64 / 64 % 64 = x / 64 / 64 := Nat.mod_eq_of_lt (Nat.div_lt_of_lt_mul (Nat.div_lt_of_lt_mul hx))
   have hw := zCy (n := 99) (zCO (K := K) (it := it) (li := li) (pos := pos + 1) (v := (64 + x / 64 / 64 % 64 + 128 * (x % 2)) % 64) c3 |>.trans (by rw [decide_eq_true c1])) (zFF hne hit hli (lt60' (Nat.mod_lt _ (by decide))) e3 y1)
    (zCy (n := 98) ((zCO e3).trans (by rw [decide_eq_true e1])) (zFF hne hit hli (lt60 (Nat.mod_lt _ (by decide)) (Nat.mod_lt _ (by decide))) g0 y2) (zCN (n := 97) ((zCO g0).trans (by rw [decide_eq_false d1]))))
   have := zFG (vs := vs) ⟨pos, hk, y0, rfl⟩ hli c3 hw
   rw [c2, e2, d2, q2, zFI, zFI] at this
   rw [q2]
   exact this
end
theorem zDz {st : PSt} {m : PM PV} {n : Nat} (h : m st = some (.int (n : Int), st)) (hn : n ≤ 1000000) : zAY m st = some (((List.range n).map fun (k : Nat) => PV.int (k : Int), []), st) := by
 unfold zAY zEb PM.bind PM.ret
 dsimp only
 rw [h]
 dsimp only
 rw [if_pos (by lia)]
 unfold zBT
 simp
theorem zD0 {nt : Nat} {caps : List Nat} {mi : PM (List PV × List Nat)} {set : PV → PM Unit} {test : PM Bool} {elt : PM PV} {s s1 s' : PSt} {xs acc : List PV} {fz : List Nat}
  (h0 : mi s = some ((xs, fz), s1)) (hl : xs.length ≤ zH) (h : zAZ set test elt xs [] ⟨zAl nt caps s1.vars, fzAt fz s1.hp⟩ = some (acc, s')) :
  pComp nt caps mi set test elt s = some (.ref s'.hp.length, ⟨s1.vars, restore s1.hp s'.hp ++ [(false, .list acc)]⟩) := by
 simp only [pComp, PM.bind, h0, hl, if_true, h]
theorem zC0 : ∀ (ns : List Int), zAd (ns.map .int) = some ns
 | [] => rfl
 | n :: ns => by
  show (zAd (ns.map .int)).map _ = _
  rw [zC0 ns]
  rfl
theorem zHe (hp : List (Bool × PO)) (x : Str) : ∀ ss : List Str, anyEq (pEqV hp 3) (.str x) (ss.map .str) = some (ss.contains x)
 | [] => rfl
 | y :: ss => by
  have e : pEqV hp 3 (.str y) (.str x) = some (y == x) := rfl
  show (match pEqV hp 3 (.str y) (.str x), anyEq (pEqV hp 3) (.str x) (ss.map .str) with | some a, some b => some (a || b) | _, _ => none) = _
  rw [e, zHe hp x ss]
  show some (y == x || ss.contains x) = _
  rw [List.contains_cons, BEq.comm]
theorem zHf (f : PV → PV → Option Bool) (hf : ∀ i j, f (.int i) (.int j) = some (i == j)) : ∀ ns ms : List Int, ns.length = ms.length → eqAll f (ns.map .int) (ms.map .int) = some (ns == ms)
 | [], [], _ => rfl
 | n :: ns, m :: ms, h => by
  show (match f (.int n) (.int m), eqAll f (ns.map .int) (ms.map .int) with | some a, some b => some (a && b) | _, _ => none) = _
  rw [hf, zHf f hf ns ms (Nat.succ.inj h)]
  rfl
 | [], _ :: _, h => nomatch h
 | _ :: _, [], h => nomatch h
theorem zMQ {vs : List (Option PV)} {hp : List (Bool × PO)} {a c : Nat} {b d : Bool} {ns ms : List Int} (h : hp[a]? = some (b, .list (ns.map .int))) (h2 : hp[c]? = some (d, .list (ms.map .int))) : pEq (.ref a) (.ref c) ⟨vs, hp⟩ = some (.bool (ns == ms), ⟨vs, hp⟩) := by
 unfold pEq
 rw [zEO]
 simp only [h, h2, List.length_map]
 by_cases e : ns.length = ms.length
 ·rw [if_pos e, zHf _ (fun i j => rfl) ns ms e]
  rfl
 ·rw [if_neg e, show (ns == ms) = false from beq_eq_false_iff_ne.mpr fun q => e (q ▸ rfl)]
  rfl
theorem zHg (f : PV → PV → Option Bool) (hf : ∀ i, f (.str i) (.str i) = some true) : ∀ ss : List Str, eqAll f (ss.map .str) (ss.map .str) = some true
 | [] => rfl
 | n :: ns => by
  show (match f (.str n) (.str n), eqAll f (ns.map .str) (ns.map .str) with | some a, some b => some (a && b) | _, _ => none) = _
  rw [hf, zHg f hf ns]
  rfl
theorem zMR {vs : List (Option PV)} {hp : List (Bool × PO)} {a : Nat} {b : Bool} {n : Int} {ns : List Int} (h : hp[a]? = some (b, .list ((n :: ns).map .int))) : pMin (.ref a) ⟨vs, hp⟩ = some (.int (minOf n ns), ⟨vs, hp⟩) := by
 unfold pMin
 simp only [h, zC0]
noncomputable def Ext (hp hp' : List (Bool × PO)) : Prop := ∀ (j : Nat) (f : Bool) (o : PO), hp[j]? = some (f, o) → ∃ f', hp'[j]? = some (f', o)
theorem Ext.refl (hp : List (Bool × PO)) : Ext hp hp := fun j f o h => ⟨f, h⟩
theorem Ext.trans {a b c : List (Bool × PO)} (h : Ext a b) (k : Ext b c) : Ext a c := fun j f o e => by
 obtain ⟨f', e'⟩ := h j f o e
 exact k j f' o e'
theorem Ext.app (hp G : List (Bool × PO)) : Ext hp (hp ++ G) := fun j f o h => ⟨f, by rw [List.getElem?_append_left (List.getElem?_eq_some_iff.mp h).1]; exact h⟩
theorem Ext.fz (is : List Nat) (hp : List (Bool × PO)) : Ext hp (fzAt is hp) := fun j f o h => by
 obtain ⟨b, e⟩ := zE1 is hp f h
 exact ⟨b, e⟩
theorem Ext.restore {o hp n : List (Bool × PO)} (h : Ext hp n) : Ext hp (restore o n) := fun j f p e => by
 obtain ⟨f', e'⟩ := h j f p e
 rw [zB6, e']
 cases o[j]? with
 | none => exact ⟨f', rfl⟩
 | some d => exact ⟨d.1, rfl⟩
noncomputable def la0 : PM PF :=
 (zG 1 (pIfE ((pBin pLt (pApp1 (pVar 0) pLen) (PM.ret (.int 4))).bind zI) (PM.ret (.int 5)) (PM.ret (.int 6))))
noncomputable def lc1 : PM PV :=
 (pIfE ((pBin pLt (pVar 0) (pApp1 (pVar 1) pLen)).bind zI) (pBin pMod (pBin pItem (pVar 1) (pVar 0)) (PM.ret (.int 262144))) (pBin pItem (zU (pCons (PM.ret (.int 6)) (pCons (PM.ret (.int 131)) (pCons (PM.ret (.int 12)) pNil)))) (pVar 0)))
noncomputable def la1 : PM PF :=
 (zG 2 (pComp 1 [0] (zAY (pBin pSub (pVar 1) (PM.ret (.int 2)))) (pSet 0) (PM.ret true) lc1))
noncomputable def la2 : PM PF :=
 (zG 3 (pList pNil))
noncomputable def lb3 : PM PF :=
 (pSeq (zG 3 (pBin pAdd (pVar 3) (pApp 1 (pCons (pVar 4) pNil) zDh))) (PM.ret .next))
noncomputable def la3 : PM PF :=
 (pForE (pSrc (pVar 2)) (pSet 4) lb3)
noncomputable def la4 : PM PF :=
 (zG 5 (pApp1 (pVar 3) pIter))
noncomputable def la5 : PM PF :=
 (zG 6 (pList pNil))
noncomputable def lb6 : PM PF :=
 (pSeq (pExpr (zg (pVar 6) (pApp 1 (pCons (pVar 5) pNil) zCk))) (PM.ret .next))
noncomputable def la6 : PM PF :=
 (zEm 6 5 2 lb6 100)
noncomputable def la7 : PM PF :=
 (zG 7 (pComp 1 [1] (pSrc (pVar 6)) (pSet 0) (PM.ret true) (pBin pMod (pVar 0) (pVar 1))))
noncomputable def la8 : PM PF :=
 (zG 8 (pApp 2 (pCons (pVar 7) (pCons (pVar 1) pNil)) zCB))
noncomputable def la9 : PM PF :=
 (zG 9 (pBin pMod (pBin pAdd (pApp1 (pVar 0) pSum) (PM.ret (.int 271828))) (PM.ret (.int 2985984))))
noncomputable def la10 : PM PF :=
 (zCj 10 11 (pApp 2 (pCons (pVar 7) (pCons (pVar 1) pNil)) zCD))
noncomputable def lt0 : PM PF :=
 (zG 13 (pApp 5 (pCons (pBin pMod (pBin pDiv (pVar 9) (pBin pPow (PM.ret (.int 36)) (pVar 12))) (pVar 1)) (pCons (pNeg (PM.ret (.int 1))) (pCons (pVar 8) (pCons (pBin pEq (pBin pMod (pBin pAdd (pVar 9) (pVar 12)) (PM.ret (.int 2))) (PM.ret (.int 1))) (pCons (pBin pDiv (pVar 9) (pBin pPow (PM.ret (.int 5)) (pVar 12))) pNil))))) (zBi 7)))
noncomputable def lt1 : PM PF :=
 (zG 14 (pApp 2 (pCons (pApp 1 (pCons (pVar 13) pNil) zDk) (pCons (pVar 1) pNil)) zCC))
noncomputable def lt2 : PM PF :=
 (pIf ((pBin pNe (pSl (pVar 14) (PM.ret .none) (pNeg (PM.ret (.int 1)))) (pVar 10)).bind zI) (pSeq (zO (PM.ret (.bool false))) (PM.ret .next)) (PM.ret .next))
noncomputable def lt3 : PM PF :=
 (pIf ((pBin zAK (pBin pItem (pVar 14) (pNeg (PM.ret (.int 1)))) (zU (pCons (pBin pAdd (pBin pAdd (pBin pAdd (pBin pAdd (PM.ret (.str "(")) (pBin pItem (pVar 11) (PM.ret (.int 0)))) (PM.ret (.str "("))) (pBin pItem (pVar 11) (PM.ret (.int 1)))) (PM.ret (.str "))"))) (pCons (pBin pAdd (pBin pAdd (pBin pAdd (pBin pAdd (PM.ret (.str "(")) (pBin pItem (pVar 11) (PM.ret (.int 1)))) (PM.ret (.str "("))) (pBin pItem (pVar 11) (PM.ret (.int 0)))) (PM.ret (.str "))"))) pNil)))).bind zI) (pSeq (zO (PM.ret (.bool false))) (PM.ret .next)) (PM.ret .next))
noncomputable def lb11 : PM PF :=
 (pSeq lt0 (pSeq lt1 (pSeq lt2 (pSeq lt3 (PM.ret .next)))))
noncomputable def la11 : PM PF :=
 (pForE (pSrc (zU (pCons (PM.ret (.int 0)) (pCons (PM.ret (.int 1)) pNil)))) (pSet 12) lb11)
noncomputable def la12 : PM PF :=
 (zO (PM.ret (.bool true)))
theorem zMS : pblaw = (pSeq la0 (pSeq la1 (pSeq la2 (pSeq la3 (pSeq la4 (pSeq la5 (pSeq la6 (pSeq la7 (pSeq la8 (pSeq la9 (pSeq la10 (pSeq la11 (pSeq la12 (PM.ret .next)))))))))))))) := rfl
theorem zD1 {t : PM Bool} {b o : PM PV} {st st1 : PSt} {c : Bool} {R : Option (PV × PSt)} (h : t st = some (c, st1)) (h2 : (if c then b else o) st1 = R) : pIfE t b o st = R := by
 unfold pIfE PM.bind; rw [h]; exact h2
theorem zMT (z : Int) : ∃ t : Nat, (∀ s, pMod (.int z) (.int 262144) s = some (.int (t : Int), s)) ∧ t < 262144 := by
 obtain ⟨t, ht⟩ := Int.eq_ofNat_of_zero_le (Int.fmod_nonneg_of_pos z (by decide : (0 : Int) < 262144))
 have h2 := Int.fmod_lt_of_pos z (by decide : (0 : Int) < 262144)
 refine ⟨t, fun s => ?_, by lia⟩
 show (if (262144 : Int) = 0 then none else some (PV.int (z.fmod 262144), s)) = _
 rw [if_neg (by decide), ht]
theorem zHh {vs : List (Option PV)} {hp : List (Bool × PO)} {i : Nat} {b : Bool} {xs : List PV} (hi : hp[i]? = some (b, .list xs)) (h : xs.length ≤ 1000) : pLen (.ref i) ⟨vs, hp⟩ = some (.int (xs.length : Nat), ⟨vs, hp⟩) := zHS hi (by lia)
theorem zMU {ns : List Int} (hlen : ns.length ≤ 63) {k : Nat} (hk : k < 3 ∨ k < ns.length) {hp : List (Bool × PO)} {b : Bool} (h0 : hp[0]? = some (b, .list (ns.map .int))) :
  ∃ (t : Nat) (G : List (Bool × PO)), lc1 ⟨[some (.int (k : Int)), some (.ref 0)], hp⟩ = some (.int (t : Int), ⟨[some (.int (k : Int)), some (.ref 0)], hp ++ G⟩) ∧ t < 262144 := by
 have t0 : ((pBin pLt (pVar 0) (pApp1 (pVar 1) pLen)).bind zI) ⟨[some (.int (k : Int)), some (.ref 0)], hp⟩ = some (decide (k < ns.length), ⟨[some (.int (k : Int)), some (.ref 0)], hp⟩) :=
  zQ (zE rfl (zAD rfl ((zHh h0 (by rw [List.length_map]; lia)).trans (by rw [List.length_map]))) (zCK k ns.length))
 by_cases h : k < ns.length
 ·obtain ⟨t, e, ht⟩ := zMT ns[k]
  refine ⟨t, [], zD1 t0 ?_, ht⟩
  rw [decide_eq_true h, List.append_nil]
  exact zE (zE rfl rfl (zCG h0 (by rw [List.getElem?_map, List.getElem?_eq_getElem h]; rfl) (by lia))) rfl (e _)
 ·have h3 : k < 3 := by lia
  have hg : ∃ t : Nat, ([.int 6, .int 131, .int 12] : List PV)[k]? = some (.int (t : Int)) ∧ t < 262144 := by
   have : k = 0 ∨ k = 1 ∨ k = 2 := by lia
   rcases this with rfl | rfl | rfl
   ·exact ⟨6, rfl, by decide⟩
   ·exact ⟨131, rfl, by decide⟩
   ·exact ⟨12, rfl, by decide⟩
  obtain ⟨t, hg, ht⟩ := hg
  refine ⟨t, [(false, .tuple [.int 6, .int 131, .int 12])], zD1 t0 ?_, ht⟩
  rw [decide_eq_false h]
  exact zE (zAv (vs := [some (.int (k : Int)), some (.ref 0)]) (hp := hp) rfl (by show 3 ≤ zH; decide)) rfl (zE5 (zDo _ _) hg (by lia))
theorem zHi {ns : List Int} (hlen : ns.length ≤ 63) : ∀ (ks : List Nat) (u : Option PV) (acc : List PV) (hp : List (Bool × PO)) (b : Bool), (∀ k ∈ ks, k < 3 ∨ k < ns.length) → hp[0]? = some (b, .list (ns.map .int)) →
  ∃ (cs : List Nat) (u' : Option PV) (G : List (Bool × PO)), zAZ (pSet 0) (PM.ret true) lc1 (ks.map fun (k : Nat) => PV.int (k : Int)) acc ⟨[u, some (.ref 0)], hp⟩ = some (acc ++ iL cs, ⟨[u', some (.ref 0)], hp ++ G⟩) ∧ cs.length = ks.length ∧ ∀ c ∈ cs, c < 262144
 | [], u, acc, hp, b, _, _ => ⟨[], u, [], by rw [List.append_nil]; exact congrArg (fun l => some (l, _)) (List.append_nil acc).symm, rfl, fun c h => nomatch h⟩
 | k :: ks, u, acc, hp, b, h, h0 => by
  obtain ⟨t, G, e, ht⟩ := zMU hlen (h k (.head _)) h0
  have h0' : (hp ++ G)[0]? = some (b, .list (ns.map .int)) := by rw [List.getElem?_append_left (List.getElem?_eq_some_iff.mp h0).1]; exact h0
  obtain ⟨cs, u', G', e2, hl, hc⟩ := zHi hlen ks (some (.int (k : Int))) (acc ++ [.int (t : Int)]) (hp ++ G) b (fun k hk => h k (.tail _ hk)) h0'
  refine ⟨t :: cs, u', G ++ G', zDm rfl rfl e (e2.trans ?_), by simp [hl], fun c hc' => ?_⟩
  ·rw [List.append_assoc, List.append_assoc]
   rfl
  ·rcases List.mem_cons.mp hc' with rfl | hc'
   ·exact ht
   ·exact hc c hc'
theorem zMV (hp G : List (Bool × PO)) : restore hp (hp ++ G) = hp ++ G := zE2 hp hp rfl G
noncomputable def vsL (n : Nat) (c2 c3 c4 c5 c6 : Option PV) : List (Option PV) := [some (.ref 0), some (.int (n : Int)), c2, c3, c4, c5, c6] ++ List.replicate 8 none
theorem zMW {ns : List Int} (hlen : ns.length ≤ 63) : ∃ (n : Nat) (cs : List Nat) (G : List (Bool × PO)), (n = 5 ∨ n = 6) ∧ cs.length = n - 2 ∧ (∀ c ∈ cs, c < 262144) ∧ ∀ k : PM PF, (pSeq la0 (pSeq la1 k)) { vars := zX 15 [.ref 0], hp := [(true, .list (ns.map .int))] } =
  k ⟨vsL n (some (.ref (1 + G.length))) none none none none, [(true, .list (ns.map .int))] ++ G ++ [(false, .list (iL cs))]⟩ := by
 have t0 : ((pBin pLt (pApp1 (pVar 0) pLen) (PM.ret (.int 4))).bind zI) { vars := zX 15 [.ref 0], hp := [(true, .list (ns.map .int))] } = some (decide (ns.length < 4), { vars := zX 15 [.ref 0], hp := [(true, .list (ns.map .int))] }) :=
  zQ (zE (zAD rfl ((zHh (hp := [(true, .list (ns.map .int))]) (i := 0) rfl (by rw [List.length_map]; lia)).trans (by rw [List.length_map]))) rfl (zCK ns.length 4))
 have hn : ∃ n : Nat, (n = 5 ∨ n = 6) ∧ (∀ k ∈ List.range (n - 2), k < 3 ∨ k < ns.length) ∧ la0 { vars := zX 15 [.ref 0], hp := [(true, .list (ns.map .int))] } = some (.next, ⟨vsL n none none none none none, [(true, .list (ns.map .int))]⟩) := by
  by_cases h : ns.length < 4
  ·refine ⟨5, .inl rfl, fun k hk => .inl (by have := List.mem_range.mp hk; lia), (zM (i := 1) (v := .int ((5 : Nat) : Int)) (vs := zX 15 [.ref 0]) (hp := [(true, .list (ns.map .int))]) (zD1 t0 ?_)).trans rfl⟩
   rw [decide_eq_true h]; rfl
  ·refine ⟨6, .inr rfl, fun k hk => .inr (by have := List.mem_range.mp hk; lia), (zM (i := 1) (v := .int ((6 : Nat) : Int)) (vs := zX 15 [.ref 0]) (hp := [(true, .list (ns.map .int))]) (zD1 t0 ?_)).trans rfl⟩
   rw [decide_eq_false h]; rfl
 apply byC; intro kz; obtain ⟨n, hn, hks, e0⟩ := hn; apply kz; clear kz
 apply byC; intro kz; obtain ⟨cs, u', G, e1, hl, hc⟩ := zHi hlen (List.range (n - 2)) none [] [(true, .list (ns.map .int))] true hks rfl; apply kz; clear kz
 refine ⟨n, cs, G, hn, by rw [hl, List.length_range], hc, fun k => ?_⟩
 have e2 := zD0 (caps := [0]) (nt := 1) (s := ⟨vsL n none none none none none, [(true, .list (ns.map .int))]⟩) (mi := zAY (pBin pSub (pVar 1) (PM.ret (.int 2)))) (set := pSet 0) (test := PM.ret true) (elt := lc1) (zDz (zE rfl rfl (zBK n 2 (by lia))) (by lia)) (by rw [List.length_map, List.length_range]; exact Nat.le_trans (show n - 2 ≤ 1000 by lia) (by decide)) e1
 refine zD e0 (zD (zM (v := .ref (1 + G.length)) (vs := vsL n none none none none none) (hp := [(true, .list (ns.map .int))] ++ G ++ [(false, .list (iL cs))]) (e2.trans ?_)) rfl)
 dsimp only
 rw [zMV, List.length_append, List.nil_append]
 rfl
theorem zHj {vs : List (Option PV)} {hp : List (Bool × PO)} {i j : Nat} {b d : Bool} {xs ys : List PV} (h : hp[i]? = some (b, .list xs)) (h2 : hp[j]? = some (d, .list ys)) (hl : xs.length + ys.length ≤ 1000) :
  pAdd (.ref i) (.ref j) ⟨vs, hp⟩ = some (.ref hp.length, ⟨vs, hp ++ [(false, .list (xs ++ ys))]⟩) := by
 show (match hp[i]?, hp[j]? with | some (_, .list xs), some (_, .list ys) => if xs.length + ys.length ≤ zH then zu (.list (xs ++ ys)) ⟨vs, hp⟩ else none | _, _ => none) = _
 rw [h, h2]
 exact if_pos (Nat.le_trans hl (by decide))
theorem zHk (x : Nat) : 1 ≤ (octs x).length ∧ (octs x).length ≤ 3 := by
 unfold octs
 split
 ·simp
 ·split <;> simp
section
variable {n : Nat} {c2 c3 c4 : Option PV}
theorem zHl : ∀ (cs : List Nat) (v4 : Option PV) (a : Nat) (acc : List Nat) (H : List (Bool × PO)) (f : Bool), (∀ c ∈ cs, c < 262144) → H[a]? = some (f, .list (iL acc)) → acc.length + 3 * cs.length ≤ 900 →
  ∃ v4' a' H' f', pFor (pSet 4) lb3 (iL cs) ⟨vsL n c2 (some (.ref a)) v4 none none, H⟩ = some (.next, ⟨vsL n c2 (some (.ref a')) v4' none none, H'⟩) ∧ H'[a']? = some (f', .list (iL (acc ++ cs.flatMap octs))) ∧ Ext H H' ∧ a' < H'.length
 | [], v4, a, acc, H, f, _, h, _ => ⟨v4, a, H, f, rfl, by simpa using h, Ext.refl _, (List.getElem?_eq_some_iff.mp h).1⟩
 | c :: cs, v4, a, acc, H, f, hc, h, hl => by
  rw [List.length_cons] at hl
  have ho := zHk c
  have h1 : (H ++ [((false : Bool), PO.list (iL (octs c)))])[a]? = some (f, .list (iL acc)) := by rw [List.getElem?_append_left (List.getElem?_eq_some_iff.mp h).1]; exact h
  have eb : lb3 ⟨vsL n c2 (some (.ref a)) (some (.int (c : Int))) none none, H⟩ = some (.next, ⟨vsL n c2 (some (.ref (H ++ [((false : Bool), PO.list (iL (octs c)))]).length)) (some (.int (c : Int))) none none, H ++ [(false, .list (iL (octs c)))] ++ [(false, .list (iL (acc ++ octs c)))]⟩) := by
   refine zD (zM (zE rfl (app1c rfl (zML _ (hc c (.head _)))) ((zHj (vs := vsL n c2 (some (.ref a)) (some (.int (c : Int))) none none) h1 (zT _ _) (by rw [List.length_map, List.length_map]; lia)).trans (by rw [← List.map_append])))) rfl
  obtain ⟨v4', a', H', f', e2, g2, x2, l2⟩ := zHl cs (some (.int (c : Int))) _ (acc ++ octs c) _ false (fun x hx => hc x (.tail _ hx)) (zT (H ++ [((false : Bool), PO.list (iL (octs c)))]) ((false : Bool), PO.list (iL (acc ++ octs c)))) (by rw [List.length_append]; lia)
  refine ⟨v4', a', H', f', zA7 rfl eb e2, ?_, ?_, l2⟩
  ·rw [g2, List.flatMap_cons, List.append_assoc]
  ·refine Ext.trans ?_ x2
   rw [List.append_assoc]
   exact Ext.app _ _
theorem zC1 {mo me : PM PV} {st : PSt} {vs : List (Option PV)} {hp hp2 : List (Bool × PO)} {i : Nat} {f : Bool} {xs ys : List PV} {v : PV} (h1 : mo st = some (.ref i, ⟨vs, hp⟩)) (hi0 : hp[i]? = some (f, .list ys)) (h2 : me ⟨vs, hp⟩ = some (v, ⟨vs, hp2⟩)) (hi : hp2[i]? = some (false, .list xs)) (hl : xs.length ≤ 1000) :
  zg mo me st = some (.none, ⟨vs, hp2.set i (false, .list (xs ++ [v]))⟩) := by
 have hl' : xs.length ≤ zH := Nat.le_trans hl (by decide)
 unfold zg PM.bind; rw [h1]; simp only [hi0, h2, hi, hl', if_true]
theorem zHm {H : List (Bool × PO)} {q r a pos : Nat} {f g : Bool} {ys zs : List PV} (h1 : H[q]? = some (false, .iter a pos)) (h2 : H[r]? = some (f, .list ys)) (h3 : H[a]? = some (g, .list zs)) :
  endAt 6 5 ⟨vsL n c2 c3 c4 (some (.ref q)) (some (.ref r)), H⟩ = if zs.length ≤ pos then some q else none := by
 have : endAt 6 5 ⟨vsL n c2 c3 c4 (some (.ref q)) (some (.ref r)), H⟩ = (match H[q]?, H[r]? with
  | some (false, .iter src pos), some (_, .list _) => match H[src]? with
   | some (_, .list xs) => if xs.length ≤ pos then some q else none
   | _ => none
  | _, _ => none) := rfl
 rw [this, h1, h2]
 dsimp only
 rw [h3]
theorem zHn {q r a : Nat} {fb : Bool} {xs : List Nat} (hqr : q ≠ r) (haq : a ≠ q) (har : a ≠ r) : ∀ (cs done : List Nat) (pos fuel : Nat) (H : List (Bool × PO)), (∀ c ∈ cs, c < 262144) → cs.length < fuel → H[q]? = some (false, .iter a pos) → H[r]? = some (false, .list (iL done)) → H[a]? = some (fb, .list (iL xs)) →
  xs.drop pos = cs.flatMap octs → done.length + cs.length ≤ 900 →
  ∃ H', zBW 6 5 lb6 fuel ⟨vsL n c2 c3 c4 (some (.ref q)) (some (.ref r)), H⟩ = some ⟨vsL n c2 c3 c4 (some (.ref q)) (some (.ref r)), H'⟩ ∧ H'[r]? = some (false, .list (iL (done ++ cs))) ∧ ∀ j, j ≠ q → j ≠ r → H'[j]? = H[j]?
 | [], done, pos, fuel, H, _, hf, h1, h2, h3, hd, _ => by
  obtain ⟨fuel, rfl⟩ : ∃ f, fuel = f + 1 := ⟨fuel - 1, by simp at hf; lia⟩
  have hl : (iL xs).length ≤ pos := by
   rw [List.length_map]
   have : (xs.drop pos).length = 0 := by rw [hd]; rfl
   rw [List.length_drop] at this
   lia
  refine ⟨H.set q (false, .dead), ?_, ?_, fun j j1 j2 => List.getElem?_set_ne (fun e => j1 e.symm)⟩
  ·rw [zEk, zHm h1 h2 h3, if_pos hl]
  ·rw [List.getElem?_set_ne hqr, List.append_nil]; exact h2
 | c :: cs, done, pos, fuel, H, hc, hf, h1, h2, h3, hd, hl => by
  rw [List.length_cons] at hf hl
  obtain ⟨fuel, rfl⟩ : ∃ f, fuel = f + 1 := ⟨fuel - 1, by lia⟩
  have ho := zHk c
  have hlt : ¬ (iL xs).length ≤ pos := by
   rw [List.length_map]
   have : (xs.drop pos).length = (octs c ++ cs.flatMap octs).length := by rw [hd]; rfl
   rw [List.length_drop, List.length_append] at this
   lia
  have lq := (List.getElem?_eq_some_iff.mp h1).1
  have lr := (List.getElem?_eq_some_iff.mp h2).1
  have hv := r_vi (vs := vsL n c2 c3 c4 (some (.ref q)) (some (.ref r))) haq h1 h3 (hc c (.head _)) hd
  have g2 : (H.set q (false, .iter a (pos + (octs c).length)))[r]? = some (false, .list (iL done)) := by rw [List.getElem?_set_ne hqr]; exact h2
  have eb : lb6 ⟨vsL n c2 c3 c4 (some (.ref q)) (some (.ref r)), H⟩ = some (.next, ⟨vsL n c2 c3 c4 (some (.ref q)) (some (.ref r)), (H.set q (false, .iter a (pos + (octs c).length))).set r (false, .list (iL (done ++ [c])))⟩) := by
   refine zD (zA9 (v := .none) ((zC1 (v := .int (c : Int)) rfl h2 (app1c rfl hv) g2 (by rw [List.length_map]; lia)).trans ?_) rfl) rfl
   rw [show iL done ++ [PV.int (c : Int)] = iL (done ++ [c]) by simp [iL]]
  obtain ⟨H', e2, k2, x2⟩ := zHn hqr haq har cs (done ++ [c]) (pos + (octs c).length) fuel ((H.set q (false, .iter a (pos + (octs c).length))).set r (false, .list (iL (done ++ [c])))) (fun x hx => hc x (.tail _ hx)) (by lia)
   (by rw [List.getElem?_set_ne (fun e => hqr e.symm), List.getElem?_set_self lq]) (by rw [List.getElem?_set_self (by rw [List.length_set]; exact lr)]) (by rw [List.getElem?_set_ne (fun e => har e.symm), List.getElem?_set_ne (fun e => haq e.symm)]; exact h3)
   (by rw [← List.drop_drop, hd, List.flatMap_cons, List.drop_left]) (by rw [List.length_append, List.length_singleton]; lia)
  refine ⟨H', ?_, ?_, fun j j1 j2 => ?_⟩
  ·rw [zEk, zHm h1 h2 h3, if_neg hlt]
   dsimp only
   rw [eb]
   exact e2
  ·rw [k2, List.append_assoc]; rfl
  ·rw [x2 j j1 j2, List.getElem?_set_ne (fun e => j2 e.symm), List.getElem?_set_ne (fun e => j1 e.symm)]
theorem zMX {vs : List (Option PV)} {hp : List (Bool × PO)} {a c : Nat} {b d : Bool} {ns : List Int} (h : hp[a]? = some (b, .list (ns.map .int))) (h2 : hp[c]? = some (d, .list (ns.map .int))) : pNe (.ref a) (.ref c) ⟨vs, hp⟩ = some (.bool false, ⟨vs, hp⟩) := by
 have := zMQ (vs := vs) h h2
 unfold pEq at this
 unfold pNe
 obtain ⟨k, e1, e2⟩ := Option.map_eq_some_iff.mp this
 rw [e1]
 rw [beq_self_eq_true] at e2
 cases e2
 rfl
theorem zC2 (l : List Nat) : iL l = (l.map fun (x : Nat) => (x : Int)).map .int := by rw [List.map_map]; rfl
theorem zMY {cs : List Nat} {H2 : List (Bool × PO)} {C : Nat} {f2 f0 : Bool} {ns : List Int} (hC : H2[C]? = some (f2, .list (iL cs))) (h0 : H2[0]? = some (f0, .list (ns.map .int))) (hC0 : C ≠ 0) (hc : ∀ c ∈ cs, c < 262144) (hl : cs.length ≤ 10) :
  ∃ c3 c4 c5 r H6, (∀ k : PM PF, (pSeq la2 (pSeq la3 (pSeq la4 (pSeq la5 (pSeq la6 k))))) ⟨vsL n (some (.ref C)) none none none none, H2⟩ = k ⟨vsL n (some (.ref C)) c3 c4 c5 (some (.ref r)), H6⟩) ∧ (∃ f, H6[r]? = some (f, .list (iL cs))) ∧ ∃ f, H6[0]? = some (f, .list (ns.map .int)) := by
 have lC := (List.getElem?_eq_some_iff.mp hC).1
 have l0 := (List.getElem?_eq_some_iff.mp h0).1
 have e2 : la2 ⟨vsL n (some (.ref C)) none none none none, H2⟩ = some (.next, ⟨vsL n (some (.ref C)) (some (.ref H2.length)) none none none, H2 ++ [(false, .list (iL []))]⟩) := zM (zBm zAg (Nat.zero_le _))
 generalize hH3 : H2 ++ [((false : Bool), PO.list (iL []))] = H3 at e2
 have g3 : H3[H2.length]? = some (false, .list (iL [])) := by rw [← hH3]; exact zT _ _
 have x3 : Ext H2 H3 := by rw [← hH3]; exact Ext.app _ _
 apply byC; intro kz; obtain ⟨fc, hC3⟩ := x3 _ _ _ hC; apply kz; clear kz
 apply byC; intro kz; obtain ⟨fa, g3'⟩ := Ext.fz [C] H3 _ _ _ g3; apply kz; clear kz
 obtain ⟨v4, a, H', fa', e3, g4, x4, la⟩ := zHl (n := n) (c2 := some (.ref C)) cs none H2.length [] (fzAt [C] H3) fa hc g3' (by rw [List.length_nil]; lia)
 rw [List.nil_append] at g4
 have e3' := zCJ (set := pSet 4) (b := lb3) (mi := pSrc (pVar 2)) (st := ⟨vsL n (some (.ref C)) (some (.ref H2.length)) none none none, H3⟩) (zCI rfl hC3) e3
 have x5 : Ext H2 (restore H3 H') := x3.trans (Ext.restore ((Ext.fz [C] H3).trans x4))
 have g5 : ∃ f, (restore H3 H')[a]? = some (f, .list (iL (cs.flatMap octs))) := Ext.restore (Ext.refl H') _ _ _ g4
 have lx5 : a < (restore H3 H').length := by obtain ⟨f, g⟩ := g5; exact (List.getElem?_eq_some_iff.mp g).1
 generalize restore H3 H' = H5 at e3' x5 g5 lx5
 apply byC; intro kz; obtain ⟨f5, g5⟩ := g5; apply kz; clear kz
 apply byC; intro kz; obtain ⟨fc5, hC5⟩ := x5 _ _ _ hC; apply kz; clear kz
 apply byC; intro kz; obtain ⟨f05, h05⟩ := x5 _ _ _ h0; apply kz; clear kz
 have lC5 := (List.getElem?_eq_some_iff.mp hC5).1
 have l05 := (List.getElem?_eq_some_iff.mp h05).1
 have e4 : la4 ⟨vsL n (some (.ref C)) (some (.ref a)) v4 none none, H5⟩ = some (.next, ⟨vsL n (some (.ref C)) (some (.ref a)) v4 (some (.ref H5.length)) none, H5 ++ [(false, .iter a 0)]⟩) := by
  have ei : pIter (.ref a) ⟨vsL n (some (.ref C)) (some (.ref a)) v4 none none, H5⟩ = some (.ref H5.length, ⟨vsL n (some (.ref C)) (some (.ref a)) v4 none none, H5 ++ [(false, .iter a 0)]⟩) := by
   unfold pIter
   simp only [g5]
   rfl
  exact zM (zAD rfl ei)
 have e5 : la5 ⟨vsL n (some (.ref C)) (some (.ref a)) v4 (some (.ref H5.length)) none, H5 ++ [(false, .iter a 0)]⟩ = some (.next, ⟨vsL n (some (.ref C)) (some (.ref a)) v4 (some (.ref H5.length)) (some (.ref (H5.length + 1))), H5 ++ [(false, .iter a 0)] ++ [(false, .list (iL []))]⟩) :=
  (zM (zBm zAg (Nat.zero_le _))).trans (by rw [List.length_append]; rfl)
 generalize hH7 : H5 ++ [((false : Bool), PO.iter a 0)] ++ [((false : Bool), PO.list (iL []))] = H7 at e5
 have up : ∀ j, j < H5.length → H7[j]? = H5[j]? := fun j hj => by
  rw [← hH7, List.getElem?_append_left (by rw [List.length_append]; lia), List.getElem?_append_left hj]
 have q7 : H7[H5.length]? = some (false, .iter a 0) := by rw [← hH7, List.getElem?_append_left (by simp)]; exact zT _ _
 have r7 : H7[H5.length + 1]? = some (false, .list (iL [])) := by
  have := zT (H5 ++ [((false : Bool), PO.iter a 0)]) ((false : Bool), PO.list (iL []))
  rw [List.length_append, List.length_singleton] at this
  rw [← hH7]; exact this
 obtain ⟨H8, e6, k6, x6⟩ := zHn (n := n) (c2 := some (.ref C)) (c3 := some (.ref a)) (c4 := v4) (q := H5.length) (r := H5.length + 1) (a := a) (fb := f5) (xs := cs.flatMap octs) (by lia) (by lia) (by lia) cs [] 0 100 H7 hc (by lia) q7 r7 ((up a lx5).trans g5) rfl (by rw [List.length_nil]; lia)
 rw [List.nil_append] at k6
 have hC8 : H8[C]? = some (fc5, .list (iL cs)) := by rw [x6 C (by lia) (by lia), up C lC5]; exact hC5
 have h08 : H8[0]? = some (f05, .list (ns.map .int)) := by rw [x6 0 (by lia) (by lia), up 0 l05]; exact h05
 refine ⟨some (.ref a), v4, some (.ref H5.length), H5.length + 1, H8, fun k => ?_, ⟨_, k6⟩, ⟨_, h08⟩⟩
 refine zD e2 (zD e3' (zD e4 (zD e5 (zD (st1 := ⟨vsL n (some (.ref C)) (some (.ref a)) v4 (some (.ref H5.length)) (some (.ref (H5.length + 1))), H8⟩) ?_ rfl))))
 show (zBW 6 5 lb6 100 _).bind _ = _
 rw [e6, Option.bind_some]
 refine zP (c := false) (zQ (zE rfl rfl (zMX (by rw [← zC2]; exact k6) (by rw [← zC2]; exact hC8)))) rfl
end
noncomputable def zc (rest row : List Nat) : List Nat := rest.filter fun v => !row.contains v
noncomputable def dropL (rest : List Nat) (l : Nat) : List Nat := rest.eraseIdx (rest.idxOf l)
noncomputable def zl : List Nat → List Nat → List (Nat × Nat)
 | [], rest => [(rest.getD 0 0, rest.getD 1 0)]
 | p :: row, rest => ((zc rest (p :: row)).headD 0, p) :: zl row (dropL rest ((zc rest (p :: row)).headD 0))
theorem zD2 {p : Nat} {row rest : List Nat} : zl (p :: row) rest = ((zc rest (p :: row)).headD 0, p) :: zl row (dropL rest ((zc rest (p :: row)).headD 0)) := rfl
structure RowOk (rest row : List Nat) : Prop where
 asc : rest.Pairwise (· < ·)
 sub : ∀ x ∈ row, x ∈ rest
 len : rest.length = row.length + 2
theorem zAU {l : List Nat} (h : l.Pairwise (· < ·)) : l.Nodup := h.imp fun h => Nat.ne_of_lt h
theorem RowOk.ends {rest row : List Nat} (h : RowOk rest row) : ∃ l r, zc rest row = l :: r := by
 cases e : zc rest row with
 | cons l r => exact ⟨l, r, rfl⟩
 | nil =>
  exfalso
  have hs : ∀ x ∈ rest, x ∈ row := fun x hx => by
   have := List.filter_eq_nil_iff.mp e x hx
   simpa using this
  have := List.Nodup.length_le_of_subset (zAU h.asc) hs
  have := h.len
  lia
theorem RowOk.head {rest row : List Nat} (h : RowOk rest row) {l : Nat} {r : List Nat} (e : zc rest row = l :: r) : l ∈ rest ∧ l ∉ row ∧ ∀ x ∈ r, l < x := by
 have hm : l ∈ zc rest row := by rw [e]; exact .head _
 have hm := List.mem_filter.mp hm
 refine ⟨hm.1, by simpa using hm.2, ?_⟩
 have hp : (zc rest row).Pairwise (· < ·) := List.Pairwise.filter _ h.asc
 rw [e] at hp
 exact (List.pairwise_cons.mp hp).1
theorem zAO {rest : List Nat} {l x : Nat} (hn : rest.Nodup) : x ∈ dropL rest l ↔ x ∈ rest ∧ x ≠ l := by
 unfold dropL
 rw [← List.erase_eq_eraseIdx_of_idxOf rfl]
 exact List.Nodup.mem_erase_iff hn |>.trans ⟨fun h => ⟨h.2, h.1⟩, fun h => ⟨h.2, h.1⟩⟩
theorem zHo {rest : List Nat} {l : Nat} (h : l ∈ rest) : (dropL rest l).length = rest.length - 1 := by
 unfold dropL
 rw [List.length_eraseIdx, if_pos (List.idxOf_lt_length_of_mem h)]
theorem RowOk.next {rest row : List Nat} {p : Nat} (h : RowOk rest (p :: row)) {l : Nat} {r : List Nat} (e : zc rest (p :: row) = l :: r) : RowOk (dropL rest l) row := by
 obtain ⟨h1, h2, h3⟩ := h.head e
 refine ⟨List.Pairwise.sublist (List.eraseIdx_sublist _ _) h.asc, fun x hx => (zAO (zAU h.asc)).mpr ⟨h.sub x (.tail _ hx), fun q => h2 (q ▸ .tail _ hx)⟩, ?_⟩
 rw [zHo h1, h.len, List.length_cons]
 lia
noncomputable def pairV (E : List (Nat × Nat)) : List (PV × PV) := E.map fun e => (.int (e.1 : Int), .int (e.2 : Int))
noncomputable def ExtT (H H' : List (Bool × PO)) : Prop := ∀ (j : Nat) (f : Bool) (a b : PV), H[j]? = some (f, .tuple [a, b]) → ∃ f', H'[j]? = some (f', .tuple [a, b])
theorem zC3 {hp : List (Bool × PO)} {a : Nat} {f : Bool} {x y : PV} (h : hp[a]? = some (f, .tuple [x, y])) : zAm hp (.ref a) = some (x, y) := by
 unfold zAm
 simp only [h]
theorem zC4 {H H' : List (Bool × PO)} (x : ExtT H H') {v : PV} {p : PV × PV} (h : zAm H v = some p) : zAm H' v = some p := by
 obtain ⟨i, f, rfl, h2⟩ := zEj h
 obtain ⟨f', h3⟩ := x _ _ _ _ h2
 rw [zC3 h3]
theorem zAP {H H' : List (Bool × PO)} (x : ExtT H H') : ∀ {xs : List PV} {ps : List (PV × PV)}, zV H xs = some ps → zV H' xs = some ps
 | [], ps, h => h
 | v :: vs, ps, h => by
  obtain ⟨p, h1, h⟩ := Option.bind_eq_some_iff.mp h
  obtain ⟨qs, h2, h⟩ := Option.bind_eq_some_iff.mp h
  cases h
  show (zAm H' v).bind _ = _
  rw [zC4 x h1, Option.bind_some, zAP x h2]
  rfl
theorem Ext.t {H H' : List (Bool × PO)} (x : Ext H H') : ExtT H H' := fun j f a b h => x j f _ h
theorem ExtT.trans {a b c : List (Bool × PO)} (h : ExtT a b) (k : ExtT b c) : ExtT a c := fun j f x y e => by
 obtain ⟨f', e'⟩ := h j f x y e
 exact k j f' x y e'
theorem ExtT.set {H : List (Bool × PO)} {i : Nat} {f : Bool} {xs ys : List PV} (h : H[i]? = some (f, .list xs)) : ExtT H (H.set i (false, .list ys)) := fun j g a b e => by
 by_cases q : i = j
 ·subst q; rw [h] at e; cases e
 ·exact ⟨g, by rw [List.getElem?_set_ne q]; exact e⟩
theorem zC5 {H : List (Bool × PO)} {v : PV} {p : PV × PV} (h : zAm H v = some p) : ∀ {xs : List PV} {ps : List (PV × PV)}, zV H xs = some ps → zV H (xs ++ [v]) = some (ps ++ [p])
 | [], ps, e => by
  cases e
  show (zAm H v).bind _ = _
  rw [h]
  rfl
 | x :: xs, ps, e => by
  obtain ⟨p', h1, e⟩ := Option.bind_eq_some_iff.mp e
  obtain ⟨qs, h2, e⟩ := Option.bind_eq_some_iff.mp e
  cases e
  show ((zAm H x).bind fun p => (zV H (xs ++ [v])).bind fun ps => some (p :: ps)) = _
  rw [h1, Option.bind_some, zC5 h h2]
  rfl
theorem zHp (hp : List (Bool × PO)) (x : Nat) : ∀ l : List Nat, anyEq (pEqV hp 3) (.int (x : Int)) (iL l) = some (l.contains x)
 | [] => rfl
 | y :: l => by
  have e : pEqV hp 3 (.int (y : Int)) (.int (x : Int)) = some ((y : Int) == (x : Int)) := rfl
  show (match pEqV hp 3 (.int (y : Int)) (.int (x : Int)), anyEq (pEqV hp 3) (.int (x : Int)) (iL l) with | some a, some b => some (a || b) | _, _ => none) = _
  rw [e, zHp hp x l]
  show some ((y : Int) == (x : Int) || l.contains x) = _
  have e2 : ((y : Int) == (x : Int)) = (x == y) := by
   by_cases h : x = y
   ·rw [h, beq_self_eq_true, beq_self_eq_true]
   ·rw [beq_eq_false_iff_ne.mpr h, beq_eq_false_iff_ne (a := (y : Int)) (b := (x : Int)) |>.mpr (by lia)]
  rw [List.contains_cons, e2]
theorem zMZ {vs : List (Option PV)} {hp : List (Bool × PO)} {a : Nat} {b : Bool} {l : List Nat} (x : Nat) (h : hp[a]? = some (b, .list (iL l))) : zAK (.int (x : Int)) (.ref a) ⟨vs, hp⟩ = some (.bool (!l.contains x), ⟨vs, hp⟩) := by
 unfold zAK
 rw [zFy]
 simp only [h, zHp, Option.map_some]
theorem zHq {vs : List (Option PV)} {hp : List (Bool × PO)} {i : Nat} {f : Bool} {xs : List PV} (hi : hp[i]? = some (f, .list xs)) {a : Nat} (ha : a ≤ xs.length) (hx : xs.length ≤ 1000) :
  zAH (.ref i) (.int (a : Int)) .none ⟨vs, hp⟩ = some (.ref hp.length, ⟨vs, hp ++ [(false, .list (xs.drop a))]⟩) := by
 have hx' : xs.length ≤ zH := Nat.le_trans hx (by decide)
 have hb : sliceBounds (some (a : Int)) none none xs.length = ((a : Int), (xs.length : Int), 1) := by
  unfold sliceBounds
  simp
  lia
 simp only [zAH, zAq, zBE, zBF, hi, hx', if_true, hb, sliceRange_one, zu]
 rw [zHR (by lia), List.take_of_length_le (by rw [List.length_drop]; lia)]
theorem zFJ {rest : List (Option PV)} {test : PM Bool} {elt : PM PV} {t : PV → Bool} {f : PV → PV} {Pm : List (Bool × PO) → Prop} (hP : ∀ hp G, Pm hp → Pm (hp ++ G)) : ∀ (xs : List PV) (u : Option PV) (acc : List PV) (hp : List (Bool × PO)), Pm hp →
  (∀ x ∈ xs, ∀ hp, Pm hp → ∃ G, test ⟨some x :: rest, hp⟩ = some (t x, ⟨some x :: rest, hp ++ G⟩)) → (∀ x ∈ xs, t x = true → ∀ hp, Pm hp → elt ⟨some x :: rest, hp⟩ = some (f x, ⟨some x :: rest, hp⟩)) →
  ∃ u' G, zAZ (pSet 0) test elt xs acc ⟨u :: rest, hp⟩ = some (acc ++ (xs.filter t).map f, ⟨u' :: rest, hp ++ G⟩)
 | [], u, acc, hp, _, _, _ => ⟨u, [], by rw [List.append_nil]; exact congrArg (fun l => some (l, (⟨u :: rest, hp⟩ : PSt))) (List.append_nil acc).symm⟩
 | x :: xs, u, acc, hp, h0, ht, he => by
  obtain ⟨G, h1⟩ := ht x (.head _) hp h0
  cases hx : t x with
  | false =>
   obtain ⟨u', G', h⟩ := zFJ hP xs (some x) acc (hp ++ G) (hP _ _ h0) (fun y hy => ht y (.tail _ hy)) (fun y hy => he y (.tail _ hy))
   refine ⟨u', G ++ G', ?_⟩
   rw [hx] at h1
   exact zHB rfl h1 (h.trans (by rw [List.filter_cons, hx, List.append_assoc]; rfl))
  | true =>
   have h2 := he x (.head _) hx (hp ++ G) (hP _ _ h0)
   obtain ⟨u', G', h⟩ := zFJ hP xs (some x) (acc ++ [f x]) (hp ++ G) (hP _ _ h0) (fun y hy => ht y (.tail _ hy)) (fun y hy => he y (.tail _ hy))
   refine ⟨u', G ++ G', ?_⟩
   rw [hx] at h1
   exact zDm rfl h1 h2 (h.trans (by rw [List.filter_cons, hx, if_pos rfl, List.append_assoc, List.append_assoc]; rfl))
theorem zHr : ∀ (xs : List Int) (m : Int), (∀ x ∈ xs, m ≤ x) → minOf m xs = m
 | [], m, _ => rfl
 | x :: xs, m, h => by
  unfold minOf
  rw [if_neg (by have := h x (.head _); lia)]
  exact zHr xs m fun y hy => h y (.tail _ hy)
theorem zHs (x : Nat) : ∀ l : List Nat, (l.map fun (y : Nat) => (y : Int)).idxOf (x : Int) = l.idxOf x
 | [] => rfl
 | y :: l => by
  rw [List.map_cons, List.idxOf_cons, List.idxOf_cons, zHs x l]
  by_cases h : y = x
  ·rw [h, beq_self_eq_true, beq_self_eq_true]
  ·rw [beq_eq_false_iff_ne.mpr h, beq_eq_false_iff_ne (a := (y : Int)) (b := (x : Int)) |>.mpr (by lia)]
theorem zMa {mo me : PM PV} {st : PSt} {vs : List (Option PV)} {hp : List (Bool × PO)} {i x : Nat} {l : List Nat} (h1 : mo st = some (.ref i, ⟨vs, hp⟩)) (h2 : me ⟨vs, hp⟩ = some (.int (x : Int), ⟨vs, hp⟩)) (hi : hp[i]? = some (false, .list (iL l))) (hx : x ∈ l) (hl : l.length ≤ 1000) :
  zBh mo me st = some (.none, ⟨vs, hp.set i (false, .list (iL (dropL l x)))⟩) := by
 unfold zBh PM.bind
 rw [h1]; dsimp only; simp only [hi, h2]
 rw [show zAd (iL l) = some (l.map fun (y : Nat) => (y : Int)) by rw [zC2, zC0], Option.bind_some, zHs, List.length_map, if_pos ⟨Nat.le_trans hl (by decide), List.idxOf_lt_length_of_mem hx⟩]
 have : ((l.map fun (y : Nat) => (y : Int)).eraseIdx (l.idxOf x)).map PV.int = iL (dropL l x) := by
  rw [zDc, List.map_map]
  exact (zDc (fun (n : Nat) => PV.int (n : Int)) l _).symm
 rw [this]
noncomputable def ExtB (R T : Nat) (H H' : List (Bool × PO)) : Prop := ∀ j, j ≠ R → j ≠ T → ∀ (f : Bool) (o : PO), H[j]? = some (f, o) → ∃ f', H'[j]? = some (f', o)
theorem ExtB.trans {R T : Nat} {a b c : List (Bool × PO)} (h : ExtB R T a b) (k : ExtB R T b c) : ExtB R T a c := fun j h1 h2 f o e => by
 obtain ⟨f', e'⟩ := h j h1 h2 f o e
 exact k j h1 h2 f' o e'
theorem Ext.b {R T : Nat} {H H' : List (Bool × PO)} (x : Ext H H') : ExtB R T H H' := fun j _ _ f o e => x j f o e
theorem ExtB.setR {R T : Nat} {H : List (Bool × PO)} {c : Bool × PO} : ExtB R T H (H.set R c) := fun j h1 h2 f o e => ⟨f, by rw [List.getElem?_set_ne (fun q => h1 q.symm)]; exact e⟩
theorem ExtB.setT {R T : Nat} {H : List (Bool × PO)} {c : Bool × PO} : ExtB R T H (H.set T c) := fun j h1 h2 f o e => ⟨f, by rw [List.getElem?_set_ne (fun q => h2 q.symm)]; exact e⟩
noncomputable def tieT : PM Bool := ((pBin zAK (pVar 0) (pSl (pVar 2) (pVar 1) (PM.ret .none))).bind zI)
noncomputable def tieB : PM PF := (pSeq (zG 5 (pApp1 (pComp 1 [4, 0] (pSrc (pVar 2)) (pSet 0) tieT (pVar 0)) pMin)) (pSeq (pExpr (zg (pVar 3) (zU (pCons (pVar 5) (pCons (pBin pItem (pVar 0) (pVar 4)) pNil))))) (pSeq (pExpr (zBh (pVar 2) (pVar 5))) (PM.ret .next))))
noncomputable def tiV (ρ n R T : Nat) (k u : Option PV) : List (Option PV) := [some (.ref ρ), some (.int (n : Int)), some (.ref R), some (.ref T), k, u]
noncomputable def numOf (v : PV) : Nat := match v with
 | .int i => i.toNat
 | _ => 0
theorem zHt (p : Nat → Bool) : ∀ l : List Nat, (((iL l).filter fun v => p (numOf v)).map fun v => v) = iL (l.filter p)
 | [] => rfl
 | x :: l => by
  have ih := zHt p l
  rw [List.map_id'] at ih ⊢
  show ((PV.int (x : Int) :: iL l).filter fun v => p (numOf v)) = _
  rw [List.filter_cons, List.filter_cons]
  have e : numOf (PV.int (x : Int)) = x := rfl
  rw [e]
  cases p x with
  | true => rw [if_pos rfl, if_pos rfl, ih]; rfl
  | false => exact ih
inductive TieR (ρ n R T k p : Nat) (row rest : List Nat) (E : List (Nat × Nat)) (H : List (Bool × PO)) (xs : List PV) (u : Option PV) (l : Nat) : Prop
 | mk (u' : Option PV) (H' : List (Bool × PO)) (h1 : tieB ⟨tiV ρ n R T (some (.int (k : Int))) u, H⟩ = some (.next, ⟨tiV ρ n R T (some (.int (k : Int))) u', H'⟩)) (h2 : ExtB R T H H') (h3 : H'[R]? = some (false, .list (iL (dropL rest l)))) (xs' : List PV) (h4 : H'[T]? = some (false, .list xs')) (h5 : xs'.length = xs.length + 1) (h6 : zV H' xs' = some (pairV (E ++ [(l, p)]))) : TieR ρ n R T k p row rest E H xs u l
theorem zMb {ρ n R T k p : Nat} {row0 row rest : List Nat} {E : List (Nat × Nat)} {H : List (Bool × PO)} {fρ : Bool} {xs : List PV} {u : Option PV} (hρ : H[ρ]? = some (fρ, .list (iL row0))) (hR : H[R]? = some (false, .list (iL rest))) (hT : H[T]? = some (false, .list xs)) (hE : zV H xs = some (pairV E))
  (h1 : ρ ≠ R) (h2 : ρ ≠ T) (h3 : R ≠ T) (hk : row0.drop k = p :: row) (hok : RowOk rest (p :: row)) (hl : row0.length ≤ 10) (hx : xs.length ≤ 20) :
  TieR ρ n R T k p row rest E H xs u ((zc rest (p :: row)).headD 0) := by
 obtain ⟨l, r, e⟩ := hok.ends
 obtain ⟨m1, m2, m3⟩ := hok.head e
 have hkl : k < row0.length := by
  have := congrArg List.length hk
  rw [List.length_drop, List.length_cons] at this
  lia
 have hkp : row0[k]? = some p := by
  have : (row0.drop k)[0]? = some p := by rw [hk]; rfl
  rw [List.getElem?_drop] at this
  exact this
 have hrl : rest.length ≤ 20 := by
  have := hok.len
  have := congrArg List.length hk
  rw [List.length_drop] at this
  lia
 have cv : zAl 1 [4, 0] (tiV ρ n R T (some (.int (k : Int))) u) = none :: [some (.int (k : Int)), some (.ref ρ)] := rfl
 have hρf := Ext.fz [R] H _ _ _ hρ
 obtain ⟨u', G, ec⟩ := zFJ (rest := [some (.int (k : Int)), some (.ref ρ)]) (test := tieT) (elt := pVar 0) (t := fun v => (fun x => !(p :: row).contains x) (numOf v)) (f := fun v => v) (Pm := fun hp => ∃ f, hp[ρ]? = some (f, .list (iL row0)))
  (fun hp G ⟨f, h⟩ => Ext.app hp G _ _ _ h) (iL rest) none [] (fzAt [R] H) hρf (fun x hx hp ⟨f, h⟩ => by
   obtain ⟨y, hy, rfl⟩ := List.mem_map.mp hx
   have es := zHq (vs := some (PV.int (y : Int)) :: [some (.int (k : Int)), some (.ref ρ)]) h (a := k) (by rw [List.length_map]; lia) (by rw [List.length_map]; lia)
   rw [← List.map_drop, hk] at es
   refine ⟨[(false, .list (iL (p :: row)))], zQ (zE rfl (zAS rfl rfl rfl es) ((zMZ y (zT _ _)).trans ?_))⟩
   have e : numOf (PV.int (y : Int)) = y := rfl
   rw [e]) (fun x hx _ hp _ => rfl)
 have ef : List.map (fun v => v) (List.filter (fun v => (fun x => !(p :: row).contains x) (numOf v)) (iL rest)) = iL (zc rest (p :: row)) := zHt (fun x => !(p :: row).contains x) rest
 replace ec := ec.trans (congrArg (fun z => some ([] ++ z, (⟨u' :: [some (.int (k : Int)), some (.ref ρ)], fzAt [R] H ++ G⟩ : PSt))) ef)
 rw [e, List.nil_append] at ec
 have hsrc : pSrc (pVar 2) ⟨tiV ρ n R T (some (.int (k : Int))) u, H⟩ = some ((iL rest, [R]), ⟨tiV ρ n R T (some (.int (k : Int))) u, H⟩) := zCI rfl hR
 have ec2 := zD0 (caps := [4, 0]) (nt := 1) (test := tieT) (elt := pVar 0) hsrc (by rw [List.length_map]; exact Nat.le_trans hrl (by decide)) (by rw [cv]; exact ec)
 dsimp only at ec2
 rw [zHA] at ec2
 generalize hHc : H ++ G ++ [((false : Bool), PO.list (iL (l :: r)))] = Hc at ec2
 have xc : Ext H Hc := by rw [← hHc, List.append_assoc]; exact Ext.app _ _
 have gmin : ∃ i, i = (fzAt [R] H ++ G).length ∧ Hc[i]? = some (false, .list (((l : Int) :: r.map fun (y : Nat) => (y : Int)).map .int)) := by
  refine ⟨_, rfl, ?_⟩
  rw [← hHc, List.length_append, zCF, ← List.length_append, zT, zC2]
  rfl
 obtain ⟨im, em, gm⟩ := gmin
 rw [← em] at ec2
 have hmin := zMR (vs := tiV ρ n R T (some (.int (k : Int))) u) gm
 rw [zHr _ _ fun x hx => by
  obtain ⟨y, hy, rfl⟩ := List.mem_map.mp hx
  have := m3 y hy
  lia] at hmin
 have s1 : (zG 5 (pApp1 (pComp 1 [4, 0] (pSrc (pVar 2)) (pSet 0) tieT (pVar 0)) pMin)) ⟨tiV ρ n R T (some (.int (k : Int))) u, H⟩ = some (.next, ⟨tiV ρ n R T (some (.int (k : Int))) (some (.int (l : Int))), Hc⟩) := zM (zAD ec2 hmin)
 have keepR : ∀ j f o, H[j]? = some (f, o) → Hc[j]? = some (f, o) := fun j f o h => by
  rw [← hHc, List.append_assoc, List.getElem?_append_left (List.getElem?_eq_some_iff.mp h).1]; exact h
 have hT1 := keepR _ _ _ hT
 have hR1 := keepR _ _ _ hR
 have hρ1 := keepR _ _ _ hρ
 have lT := (List.getElem?_eq_some_iff.mp hT1).1
 have lR := (List.getElem?_eq_some_iff.mp hR1).1
 have et : zU (pCons (pVar 5) (pCons (pBin pItem (pVar 0) (pVar 4)) pNil)) ⟨tiV ρ n R T (some (.int (k : Int))) (some (.int (l : Int))), Hc⟩ = some (.ref Hc.length, ⟨tiV ρ n R T (some (.int (k : Int))) (some (.int (l : Int))), Hc ++ [(false, .tuple [.int (l : Int), .int (p : Int)])]⟩) :=
  zAv (zAT rfl (zAT (zE rfl rfl (zCG hρ1 (by rw [List.getElem?_map, hkp]; rfl) (by lia))) zAg)) (by show 2 ≤ zH; decide)
 generalize hH2 : Hc ++ [((false : Bool), PO.tuple [.int (l : Int), .int (p : Int)])] = H2 at et
 have up : ∀ j f o, Hc[j]? = some (f, o) → H2[j]? = some (f, o) := fun j f o h => by
  rw [← hH2, List.getElem?_append_left (List.getElem?_eq_some_iff.mp h).1]; exact h
 have hT2 := up _ _ _ hT1
 have g2 : H2[Hc.length]? = some (false, .tuple [.int (l : Int), .int (p : Int)]) := by rw [← hH2]; exact zT _ _
 have s2 : (pExpr (zg (pVar 3) (zU (pCons (pVar 5) (pCons (pBin pItem (pVar 0) (pVar 4)) pNil))))) ⟨tiV ρ n R T (some (.int (k : Int))) (some (.int (l : Int))), Hc⟩ = some (.next, ⟨tiV ρ n R T (some (.int (k : Int))) (some (.int (l : Int))), H2.set T (false, .list (xs ++ [.ref Hc.length]))⟩) :=
  zA9 (v := .none) (zC1 rfl hT1 et hT2 (by lia)) rfl
 have hR3 : (H2.set T (false, .list (xs ++ [.ref Hc.length])))[R]? = some (false, .list (iL rest)) := by rw [List.getElem?_set_ne (fun q => h3 q.symm)]; exact up _ _ _ hR1
 have s3 : (pExpr (zBh (pVar 2) (pVar 5))) ⟨tiV ρ n R T (some (.int (k : Int))) (some (.int (l : Int))), H2.set T (false, .list (xs ++ [.ref Hc.length]))⟩ = some (.next, ⟨tiV ρ n R T (some (.int (k : Int))) (some (.int (l : Int))), (H2.set T (false, .list (xs ++ [.ref Hc.length]))).set R (false, .list (iL (dropL rest l)))⟩) :=
  zA9 (v := .none) (zMa rfl rfl hR3 m1 (by lia)) rfl
 rw [e]
 have lT2 := (List.getElem?_eq_some_iff.mp hT2).1
 have lR3 := (List.getElem?_eq_some_iff.mp hR3).1
 have xt : ExtT H2 ((H2.set T (false, .list (xs ++ [.ref Hc.length]))).set R (false, .list (iL (dropL rest l)))) := (ExtT.set hT2).trans (ExtT.set hR3)
 have xt0 : ExtT H H2 := fun j f a b h => ⟨f, up _ _ _ (keepR _ _ _ h)⟩
 refine ⟨some (.int (l : Int)), _, zD s1 (zD s2 (zD s3 rfl)), ?_, ?_, xs ++ [.ref Hc.length], ?_, by simp, ?_⟩
 ·have xb : ExtB R T H H2 := fun j _ _ f o h => ⟨f, up _ _ _ (keepR _ _ _ h)⟩
  exact xb.trans (ExtB.setT.trans ExtB.setR)
 ·rw [List.getElem?_set_self lR3]
  rfl
 ·rw [List.getElem?_set_ne h3, List.getElem?_set_self lT2]
 ·show zV _ _ = some (pairV (E ++ [(l, p)]))
  have e1 : zAm ((H2.set T (false, .list (xs ++ [.ref Hc.length]))).set R (false, .list (iL (dropL rest l)))) (.ref Hc.length) = some (.int (l : Int), .int (p : Int)) := zC4 xt (zC3 g2)
  have := zC5 e1 (zAP (xt0.trans xt) hE)
  rw [this]
  simp [pairV]
noncomputable def zBM (H : List (Bool × PO)) (T : Nat) (E : List (Nat × Nat)) : Prop := ∃ (f : Bool) (xs : List PV), H[T]? = some (f, .list xs) ∧ zV H xs = some (pairV E)
theorem zBM.ext {H H' : List (Bool × PO)} {T : Nat} {E : List (Nat × Nat)} (h : zBM H T E) (x : Ext H H') : zBM H' T E := by
 obtain ⟨f, xs, h1, h2⟩ := h
 obtain ⟨f', h3⟩ := x _ _ _ h1
 exact ⟨f', xs, h3, zAP x.t h2⟩
inductive TiesR (ρ n R T k : Nat) (row rest : List Nat) (E : List (Nat × Nat)) (H : List (Bool × PO)) (k0 u : Option PV) : Prop
 | mk (k' u' : Option PV) (H' : List (Bool × PO)) (rest' : List Nat) (xs' : List PV) (E' : List (Nat × Nat)) (h1 : pFor (pSet 4) tieB ((List.range' k row.length).map fun (k : Nat) => .int (k : Int)) ⟨tiV ρ n R T k0 u, H⟩ = some (.next, ⟨tiV ρ n R T k' u', H'⟩)) (h2 : ExtB R T H H') (h3 : H'[R]? = some (false, .list (iL rest'))) (h4 : RowOk rest' []) (h5 : H'[T]? = some (false, .list xs')) (h6 : xs'.length ≤ 20) (h7 : zV H' xs' = some (pairV E')) (h8 : E ++ zl row rest = E' ++ [(rest'.getD 0 0, rest'.getD 1 0)]) : TiesR ρ n R T k row rest E H k0 u
theorem zHu {ρ n R T : Nat} {row0 : List Nat} (h1 : ρ ≠ R) (h2 : ρ ≠ T) (h3 : R ≠ T) (hl : row0.length ≤ 10) : ∀ (row rest : List Nat) (k : Nat) (E : List (Nat × Nat)) (xs : List PV) (k0 u : Option PV) (H : List (Bool × PO)) (fρ : Bool), H[ρ]? = some (fρ, .list (iL row0)) → H[R]? = some (false, .list (iL rest)) → H[T]? = some (false, .list xs) → zV H xs = some (pairV E) →
  row0.drop k = row → RowOk rest row → xs.length + row.length ≤ 20 →
  TiesR ρ n R T k row rest E H k0 u
 | [], rest, k, E, xs, k0, u, H, fρ, hρ, hR, hT, hE, hk, hok, hx => ⟨k0, u, H, rest, xs, E, rfl, fun j _ _ f o h => ⟨f, h⟩, hR, hok, hT, by lia, hE, rfl⟩
 | p :: row, rest, k, E, xs, k0, u, H, fρ, hρ, hR, hT, hE, hk, hok, hx => by
  rw [List.length_cons] at hx
  obtain ⟨u1, H1, e1, x1, r1, xs1, t1, l1, p1⟩ := zMb (n := n) (u := u) hρ hR hT hE h1 h2 h3 hk hok hl (by lia)
  obtain ⟨l, r, e⟩ := hok.ends
  rw [e] at r1 p1
  obtain ⟨fρ', hρ'⟩ := x1 ρ h1 h2 _ _ hρ
  have hk' : row0.drop (k + 1) = row := by rw [← List.drop_drop, hk]; rfl
  obtain ⟨k', u', H', rest', xs', E', e2, x2, r2, ok2, t2, l2, p2, q2⟩ := zHu h1 h2 h3 hl row (dropL rest l) (k + 1) (E ++ [(l, p)]) xs1 (some (.int (k : Int))) u1 H1 fρ' hρ' r1 t1 p1 hk' (hok.next e) (by lia)
  refine ⟨k', u', H', rest', xs', E', ?_, x1.trans x2, r2, ok2, t2, l2, p2, ?_⟩
  ·rw [List.length_cons, List.range'_succ, List.map_cons]
   exact zA7 rfl e1 e2
  ·rw [← q2, zD2, e, List.append_assoc]
   rfl
theorem zMc {vs : List (Option PV)} {hp : List (Bool × PO)} {m : PM PV} {n : Nat} (h : m ⟨vs, hp⟩ = some (.int (n : Int), ⟨vs, hp⟩)) (hn : n ≤ 1000) : zCi m ⟨vs, hp⟩ = some (.ref hp.length, ⟨vs, hp ++ [(false, .list (iL (List.range n)))]⟩) := by
 unfold zCi PM.bind
 rw [h]
 dsimp only
 rw [if_pos ⟨by lia, by lia⟩]
 rfl
theorem zFK {k : Nat} {mb : PM PF} {args : List PV} {st s' : PSt} {v : PV} (h : mb ⟨zX k args, st.hp⟩ = some (.ret v, s')) : pCall k mb args st = some (v, ⟨st.vars, s'.hp⟩) := by
 unfold pCall
 unfold zX at h
 rw [h]
theorem zMd {vs : List (Option PV)} {H : List (Bool × PO)} {ρ n : Nat} {row : List Nat} {fρ : Bool} (hρ : H[ρ]? = some (fρ, .list (iL row))) (hn : n ≤ 10) (hok : RowOk (List.range n) row) :
  ∃ T H', zCB [.ref ρ, .int (n : Int)] ⟨vs, H⟩ = some (.ref T, ⟨vs, H'⟩) ∧ Ext H H' ∧ zBM H' T (zl row (List.range n)) := by
 have hlen : n = row.length + 2 := by have := hok.len; rw [List.length_range] at this; exact this
 have lρ := (List.getElem?_eq_some_iff.mp hρ).1
 have e1 : (zG 2 (zCi (pVar 1))) ⟨zX 6 [.ref ρ, .int (n : Int)], H⟩ = some (.next, ⟨[some (.ref ρ), some (.int (n : Int)), some (.ref H.length), none, none, none], H ++ [(false, .list (iL (List.range n)))]⟩) := zM (vs := zX 6 [.ref ρ, .int (n : Int)]) (zMc rfl (by lia))
 have e2 : (zG 3 (pList pNil)) ⟨[some (.ref ρ), some (.int (n : Int)), some (.ref H.length), none, none, none], H ++ [(false, .list (iL (List.range n)))]⟩ = some (.next, ⟨tiV ρ n H.length (H.length + 1) none none, H ++ [(false, .list (iL (List.range n)))] ++ [(false, .list [])]⟩) :=
  (zM (zBm zAg (Nat.zero_le _))).trans (by rw [List.length_append]; rfl)
 generalize hH2 : H ++ [((false : Bool), PO.list (iL (List.range n)))] ++ [((false : Bool), PO.list [])] = H2 at e2
 have x2 : Ext H H2 := by rw [← hH2, List.append_assoc]; exact Ext.app _ _
 have gR : H2[H.length]? = some (false, .list (iL (List.range n))) := by rw [← hH2, List.getElem?_append_left (by simp)]; exact zT _ _
 have gT : H2[H.length + 1]? = some (false, .list []) := by
  have := zT (H ++ [((false : Bool), PO.list (iL (List.range n)))]) ((false : Bool), PO.list [])
  rw [List.length_append, List.length_singleton] at this
  rw [← hH2]; exact this
 obtain ⟨f2, hρ2⟩ := x2 _ _ _ hρ
 obtain ⟨k', u', H', rest', xs', E', e3, x3, r3, ok3, t3, l3, p3, q3⟩ := zHu (n := n) (row0 := row) (by lia) (by lia) (by lia) (by lia) row (List.range n) 0 [] [] none none H2 f2 hρ2 gR gT rfl rfl hok (by simp; lia)
 have hr : zAY (pBin pSub (pVar 1) (PM.ret (.int 2))) ⟨tiV ρ n H.length (H.length + 1) none none, H2⟩ = some ((((List.range' 0 row.length).map fun (k : Nat) => PV.int (k : Int)), []), ⟨tiV ρ n H.length (H.length + 1) none none, H2⟩) := by
  have := zDz (m := pBin pSub (pVar 1) (PM.ret (.int 2))) (st := ⟨tiV ρ n H.length (H.length + 1) none none, H2⟩) (zE rfl rfl (zBK n 2 (by lia))) (by lia)
  rw [this, List.range_eq_range', show n - 2 = row.length by lia]
 have e3' := zCJ (set := pSet 4) (b := tieB) hr e3
 have xr := Ext.restore (o := H2) (Ext.refl H')
 have fl : ∀ (j : Nat) (o o' : PO), H2[j]? = some (false, o') → H'[j]? = some (false, o) → (restore H2 H')[j]? = some (false, o) := fun j o o' h1 h2 => by
  rw [zB6, h2, h1]; rfl
 have r4 := fl _ _ _ gR r3
 have t4 := fl _ _ _ gT t3
 have p4 := zAP xr.t p3
 have x4 : ExtB H.length (H.length + 1) H2 (restore H2 H') := x3.trans xr.b
 generalize restore H2 H' = H4 at e3' r4 t4 p4 x4
 obtain ⟨a, b, hab⟩ : ∃ a b, rest' = [a, b] := by
  have := ok3.len
  match rest', this with
  | [a, b], _ => exact ⟨a, b, rfl⟩
 subst hab
 have et : zU (pCons (pBin pItem (pVar 2) (PM.ret (.int 0))) (pCons (pBin pItem (pVar 2) (PM.ret (.int 1))) pNil)) ⟨tiV ρ n H.length (H.length + 1) k' u', H4⟩ = some (.ref H4.length, ⟨tiV ρ n H.length (H.length + 1) k' u', H4 ++ [(false, .tuple [.int (a : Int), .int (b : Int)])]⟩) :=
  zAv (zAT (zE rfl rfl (zCG (k := 0) r4 rfl (by lia))) (zAT (zE rfl rfl (zCG (k := 1) r4 rfl (by lia))) zAg)) (by show 2 ≤ zH; decide)
 have t5 : (H4 ++ [((false : Bool), PO.tuple [.int (a : Int), .int (b : Int)])])[H.length + 1]? = some (false, .list xs') := by rw [List.getElem?_append_left (List.getElem?_eq_some_iff.mp t4).1]; exact t4
 have e5 : (pExpr (zg (pVar 3) (zU (pCons (pBin pItem (pVar 2) (PM.ret (.int 0))) (pCons (pBin pItem (pVar 2) (PM.ret (.int 1))) pNil))))) ⟨tiV ρ n H.length (H.length + 1) k' u', H4⟩ =
   some (.next, ⟨tiV ρ n H.length (H.length + 1) k' u', (H4 ++ [((false : Bool), PO.tuple [.int (a : Int), .int (b : Int)])]).set (H.length + 1) (false, .list (xs' ++ [.ref H4.length]))⟩) :=
  zA9 (v := .none) (zC1 (st := ⟨tiV ρ n H.length (H.length + 1) k' u', H4⟩) (mo := pVar 3) rfl t4 et t5 (by lia)) rfl
 have eb : zEr ⟨zX 6 [.ref ρ, .int (n : Int)], H⟩ = some (.ret (.ref (H.length + 1)), ⟨tiV ρ n H.length (H.length + 1) k' u', (H4 ++ [((false : Bool), PO.tuple [.int (a : Int), .int (b : Int)])]).set (H.length + 1) (false, .list (xs' ++ [.ref H4.length]))⟩) :=
  zD e1 (zD e2 (zD e3' (zD e5 (zZ (zx rfl)))))
 have ec : zCB [.ref ρ, .int (n : Int)] ⟨vs, H⟩ = some (.ref (H.length + 1), ⟨vs, (H4 ++ [((false : Bool), PO.tuple [.int (a : Int), .int (b : Int)])]).set (H.length + 1) (false, .list (xs' ++ [.ref H4.length]))⟩) := by
  unfold zCB
  exact zFK (st := ⟨vs, H⟩) eb
 refine ⟨H.length + 1, _, ec, ?_, ?_⟩
 ·intro j f o h
  have lj := (List.getElem?_eq_some_iff.mp h).1
  obtain ⟨f', h'⟩ := x2 _ _ _ h
  obtain ⟨f'', h''⟩ := x4 j (by lia) (by lia) _ _ h'
  refine ⟨f'', ?_⟩
  rw [List.getElem?_set_ne (by lia), List.getElem?_append_left (List.getElem?_eq_some_iff.mp h'').1]
  exact h''
 ·have xt : ExtT (H4 ++ [((false : Bool), PO.tuple [.int (a : Int), .int (b : Int)])]) ((H4 ++ [((false : Bool), PO.tuple [.int (a : Int), .int (b : Int)])]).set (H.length + 1) (false, .list (xs' ++ [.ref H4.length]))) := ExtT.set t5
  refine ⟨false, xs' ++ [.ref H4.length], List.getElem?_set_self (List.getElem?_eq_some_iff.mp t5).1, ?_⟩
  rw [zC5 (zC4 xt (zC3 (zT H4 _))) (zAP ((Ext.app H4 _).t.trans xt) p4)]
  rw [List.nil_append] at q3
  rw [q3]
  simp [pairV]
noncomputable def lt (l : List Nat) : List Nat := l.map (97 + ·)
noncomputable def abc : List Nat := lt [0, 1, 2, 3, 4, 5]
theorem L_abc : ("abcdef" : Str) = S abc := by decide +kernel
theorem zMe (w : List Nat) (c : Nat) : Txt.contains (S w) (S [c]) = w.contains c := by
 have h : Txt.contains (S w) (S [c]) = true ↔ w.contains c = true := by
  rw [zEv, List.contains_iff_mem]
  constructor
  ·rintro ⟨i, h1, t, h2⟩
   exact List.mem_of_mem_drop (h2 ▸ List.mem_append_left _ (.head _))
  ·intro h
   obtain ⟨i, hi⟩ := List.getElem?_of_mem h
   have hl := (List.getElem?_eq_some_iff.mp hi).1
   refine ⟨i, by simp; lia, w.drop (i + 1), ?_⟩
   rw [List.drop_eq_getElem_cons hl, (List.getElem?_eq_some_iff.mp hi).2]
   rfl
 cases h1 : Txt.contains (S w) (S [c]) with
 | true => rw [h.mp h1]
 | false =>
  cases h2 : w.contains c with
  | false => rfl
  | true => rw [h.mpr h2] at h1; cases h1
theorem zMf {l : List Nat} {x : Nat} : (lt l).contains (97 + x) = l.contains x := by
 unfold lt
 induction l with
 | nil => rfl
 | cons y l ih =>
  rw [List.map_cons, List.contains_cons, List.contains_cons, ih]
  congr 1
  by_cases h : x = y
  ·rw [h, beq_self_eq_true, beq_self_eq_true]
  ·rw [beq_eq_false_iff_ne.mpr h, beq_eq_false_iff_ne.mpr (by lia)]
theorem zHv {x : Nat} (h : x < 6) : abc[x]? = some (97 + x) := by
 have : x = 0 ∨ x = 1 ∨ x = 2 ∨ x = 3 ∨ x = 4 ∨ x = 5 := by lia
 rcases this with rfl | rfl | rfl | rfl | rfl | rfl <;> rfl
noncomputable def dueV (D : List (List Nat × Nat)) : List (PV × PV) := D.map fun d => (.str (S (lt d.1)), .str (S [97 + d.2]))
noncomputable def dueGo : List Nat → List Nat → List (List Nat × Nat)
 | [], _ => []
 | p :: row, rest => (zc rest (p :: row), p) :: dueGo row (dropL rest ((zc rest (p :: row)).headD 0))
noncomputable def zy : List Nat → List Nat → List Nat
 | [], rest => rest
 | p :: row, rest => zy row (dropL rest ((zc rest (p :: row)).headD 0))
theorem zHw {p : Nat} {row rest : List Nat} : dueGo (p :: row) rest = (zc rest (p :: row), p) :: dueGo row (dropL rest ((zc rest (p :: row)).headD 0)) := rfl
theorem zHx {p : Nat} {row rest : List Nat} : zy (p :: row) rest = zy row (dropL rest ((zc rest (p :: row)).headD 0)) := rfl
noncomputable def dueC1 : PM PV := (pM1 (PM.ret (.str "")) (pComp 1 [] (pSrc (pSl (pVar 0) (pVar 4) (PM.ret .none))) (pSet 0) (PM.ret true) (pBin pItem (PM.ret (.str "abcdef")) (pVar 0))) pJoin)
noncomputable def dueC2 : PM PV := (pM1 (PM.ret (.str "")) (pComp 1 [5] (pSrc (pVar 2)) (pSet 0) ((pBin zAK (pVar 0) (pVar 1)).bind zI) (pVar 0)) pJoin)
noncomputable def dueB : PM PF := (pSeq (zG 5 dueC1) (pSeq (zG 6 dueC2) (pSeq (pExpr (zg (pVar 3) (zU (pCons (pVar 6) (pCons (pBin pItem (PM.ret (.str "abcdef")) (pBin pItem (pVar 0) (pVar 4))) pNil))))) (pSeq (zG 2 (zB9 (pVar 2) (pVar 6))) (PM.ret .next)))))
noncomputable def duV (ρ n : Nat) (rest : List Nat) (T : Nat) (k a b : Option PV) : List (Option PV) := [some (.ref ρ), some (.int (n : Int)), some (.str (S (lt rest))), some (.ref T), k, a, b]
theorem zC6 (l : List Nat) : (lt l).length = l.length := List.length_map ..
theorem zFL : ∀ l : List Nat, (l.map fun c => [c]).flatten = l
 | [] => rfl
 | c :: l => by rw [List.map_cons, List.flatten_cons, zFL l]; rfl
theorem zHy {vs : List (Option PV)} {hp : List (Bool × PO)} {i : Nat} {b : Bool} {l : List Nat} (h : hp[i]? = some (b, .list (l.map fun c => .str (S [c])))) (hl : l.length ≤ 1000) : pJoin "" (.ref i) ⟨vs, hp⟩ = some (.str (S l), ⟨vs, hp⟩) := by
 rw [L_nil]
 refine (zDs (ls := l.map fun c => [c]) (by rw [List.map_map]; exact h) ?_).trans ?_
 ·rw [zDu, zFL, List.length_nil, Nat.mul_zero]; lia
 ·rw [zDt, zFL]
theorem zMg {ρ n k T : Nat} {row0 row rest : List Nat} {H : List (Bool × PO)} {fρ : Bool} {a b : Option PV} (hρ : H[ρ]? = some (fρ, .list (iL row0))) (hk : row0.drop k = row) (hkl : k ≤ row0.length) (hl : row0.length ≤ 10) (h6 : ∀ x ∈ row, x < 6) :
  ∃ G, dueC1 ⟨duV ρ n rest T (some (.int (k : Int))) a b, H⟩ = some (.str (S (lt row)), ⟨duV ρ n rest T (some (.int (k : Int))) a b, H ++ G⟩) := by
 have es := zHq (vs := duV ρ n rest T (some (.int (k : Int))) a b) hρ (a := k) (by rw [List.length_map]; exact hkl) (by rw [List.length_map]; lia)
 rw [← List.map_drop, hk] at es
 have hrl : row.length ≤ 10 := by rw [← hk, List.length_drop]; lia
 have hsrc : pSrc (pSl (pVar 0) (pVar 4) (PM.ret .none)) ⟨duV ρ n rest T (some (.int (k : Int))) a b, H⟩ = some ((iL row, [H.length]), ⟨duV ρ n rest T (some (.int (k : Int))) a b, H ++ [(false, .list (iL row))]⟩) := zCI (zAS rfl rfl rfl es) (zT _ _)
 obtain ⟨u', ec⟩ := zDn (rest := []) (hp := fzAt [H.length] (H ++ [((false : Bool), PO.list (iL row))])) (test := PM.ret true) (elt := pBin pItem (PM.ret (.str "abcdef")) (pVar 0)) (t := fun _ => true) (f := fun v => .str (S [97 + numOf v])) (iL row) none [] (fun _ _ => rfl) (fun x hx _ => by
  obtain ⟨y, hy, rfl⟩ := List.mem_map.mp hx
  rw [L_abc]
  have e : numOf (PV.int (y : Int)) = y := rfl
  rw [e]
  exact zE rfl rfl (zBl (zHv (h6 y hy)) (by have := h6 y hy; lia)))
 have ec2 := zD0 (caps := []) (nt := 1) (test := PM.ret true) (elt := pBin pItem (PM.ret (.str "abcdef")) (pVar 0)) hsrc (by rw [List.length_map]; exact Nat.le_trans hrl (by decide)) ec
 dsimp only at ec2
 rw [zCo, zCF, List.nil_append, List.filter_eq_self.mpr fun _ _ => rfl] at ec2
 have em : (iL row).map (fun v => PV.str (S [97 + numOf v])) = (lt row).map fun c => .str (S [c]) := by
  unfold lt
  rw [List.map_map, List.map_map]
  exact List.map_congr_left fun y _ => by show PV.str (S [97 + numOf (PV.int (y : Int))]) = _; rfl
 rw [em] at ec2
 refine ⟨[(false, .list (iL row))] ++ [(false, .list ((lt row).map fun c => .str (S [c])))], ?_⟩
 rw [← List.append_assoc]
 exact zBJ rfl ec2 (zHy (zT _ _) (by rw [zC6]; lia))
noncomputable def chOf : PV → Nat
 | .str x => x.cps.toList.headD 0
 | _ => 0
theorem zMh {ρ n T : Nat} {row rest : List Nat} {H : List (Bool × PO)} {k b : Option PV} (hl : rest.length ≤ 10) :
  ∃ G, dueC2 ⟨duV ρ n rest T k (some (.str (S (lt row)))) b, H⟩ = some (.str (S (lt (zc rest row))), ⟨duV ρ n rest T k (some (.str (S (lt row)))) b, H ++ G⟩) := by
 have hsrc : pSrc (pVar 2) ⟨duV ρ n rest T k (some (.str (S (lt row)))) b, H⟩ = some (((lt rest).map fun c => .str (S [c]), []), ⟨duV ρ n rest T k (some (.str (S (lt row)))) b, H⟩) := zDq rfl
 let t : PV → Bool := fun v => !(lt row).contains (chOf v)
 have ec := zE3 (caps := [5]) (test := (pBin zAK (pVar 0) (pVar 1)).bind zI) (elt := pVar 0) (rest := [some (.str (S (lt row)))]) (t := t) (f := fun v => v) hsrc (by rw [List.length_map, zC6]; exact Nat.le_trans hl (by decide)) rfl
  (fun x hx => by
   obtain ⟨c, hc, rfl⟩ := List.mem_map.mp hx
   refine zQ (zE rfl rfl ((zDx _ _).trans ?_))
   rw [zMe]
   rfl) (fun _ _ _ => rfl)
 have ef : (((lt rest).map fun c => PV.str (S [c])).filter t).map (fun v => v) = (lt (zc rest row)).map fun c => .str (S [c]) := by
  rw [List.map_id', List.filter_map]
  unfold zc lt
  rw [List.filter_map, List.map_map, List.map_map]
  congr 1
  refine List.filter_congr fun x _ => ?_
  show (!(lt row).contains (97 + x)) = _
  rw [zMf]
 rw [ef] at ec
 exact ⟨_, zBJ rfl ec (zHy (zT _ _) (by rw [zC6]; exact Nat.le_trans (List.length_filter_le _ _) (by lia)))⟩
theorem zHz (c : Nat) (l : List Nat) : Txt.charAt (S (c :: l)) 0 = some c := by
 unfold Txt.charAt
 have := zE4 0 (S (c :: l)).length (by rw [S_len]; simp)
 rw [show ((0 : Nat) : Int) = 0 from rfl] at this
 rw [this]
 rfl
theorem zMi (c : Nat) (l : List Nat) : Txt.item (S (c :: l)) 0 = S [c] := by
 unfold Txt.item
 rw [zHz]
 rfl
theorem zMj (w : List Nat) (c : Nat) : Txt.replace (S w) (S [c]) (S []) = S (w.filter (· != c)) := by
 rw [← S_eta (Txt.replace (S w) (S [c]) (S []))]
 congr 1
 exact replace_strikes (S w) c
theorem zMk {rest : List Nat} (h : rest.Nodup) (l : Nat) : (lt rest).filter (· != 97 + l) = lt (dropL rest l) := by
 have e : dropL rest l = rest.filter (· != l) := by
  unfold dropL
  rw [← List.erase_eq_eraseIdx_of_idxOf rfl, List.Nodup.erase_eq_filter h]
 rw [e]
 unfold lt
 rw [List.filter_map]
 congr 1
 refine List.filter_congr fun x _ => ?_
 show (97 + x != 97 + l) = (x != l)
 by_cases h : x = l
 ·rw [h, bne_self_eq_false, bne_self_eq_false]
 ·rw [bne_iff_ne.mpr h, bne_iff_ne (a := 97 + x) (b := 97 + l) |>.mpr (by lia)]
inductive DueR (ρ n T k p : Nat) (row rest : List Nat) (D : List (List Nat × Nat)) (H : List (Bool × PO)) (xs : List PV) (a b : Option PV) (es : List Nat) : Prop
 | mk (a' b' : Option PV) (H' : List (Bool × PO)) (h1 : dueB ⟨duV ρ n rest T (some (.int (k : Int))) a b, H⟩ = some (.next, ⟨duV ρ n (dropL rest (es.headD 0)) T (some (.int (k : Int))) a' b', H'⟩)) (h2 : ∀ j, j ≠ T → ∀ f o, H[j]? = some (f, o) → H'[j]? = some (f, o)) (xs' : List PV) (h3 : H'[T]? = some (false, .list xs')) (h4 : xs'.length = xs.length + 1) (h5 : zV H' xs' = some (dueV (D ++ [(es, p)]))) : DueR ρ n T k p row rest D H xs a b es
theorem zMl {ρ n T k p : Nat} {row0 row rest : List Nat} {D : List (List Nat × Nat)} {H : List (Bool × PO)} {fρ : Bool} {xs : List PV} {a b : Option PV} (hρ : H[ρ]? = some (fρ, .list (iL row0))) (hT : H[T]? = some (false, .list xs)) (hD : zV H xs = some (dueV D))
  (h2 : ρ ≠ T) (hk : row0.drop k = p :: row) (hok : RowOk rest (p :: row)) (hl : row0.length ≤ 6) (hx : xs.length ≤ 20) (h6 : ∀ x ∈ rest, x < 6) :
  DueR ρ n T k p row rest D H xs a b (zc rest (p :: row)) := by
 obtain ⟨l, r, e⟩ := hok.ends
 have hkl : k < row0.length := by
  have := congrArg List.length hk
  rw [List.length_drop, List.length_cons] at this
  lia
 have hkp : row0[k]? = some p := by
  have : (row0.drop k)[0]? = some p := by rw [hk]; rfl
  rw [List.getElem?_drop] at this
  exact this
 have hrl : rest.length ≤ 8 := by
  have := hok.len
  have := congrArg List.length hk
  rw [List.length_drop] at this
  lia
 have hp6 : p < 6 := h6 p (hok.sub p (.head _))
 obtain ⟨G1, e1⟩ := zMg (n := n) (T := T) (rest := rest) (a := a) (b := b) hρ hk (by lia) (by lia) fun x hx => h6 x (hok.sub x hx)
 obtain ⟨G2, e2⟩ := zMh (ρ := ρ) (n := n) (T := T) (row := p :: row) (rest := rest) (H := H ++ G1) (k := some (.int (k : Int))) (b := b) (by lia)
 generalize hH2 : H ++ G1 ++ G2 = H2 at e2
 have up : ∀ j f o, H[j]? = some (f, o) → H2[j]? = some (f, o) := fun j f o h => by
  rw [← hH2, List.append_assoc, List.getElem?_append_left (List.getElem?_eq_some_iff.mp h).1]; exact h
 have hρ2 := up _ _ _ hρ
 have hT2 := up _ _ _ hT
 generalize hends : lt (zc rest (p :: row)) = es at e2
 have et : zU (pCons (pVar 6) (pCons (pBin pItem (PM.ret (.str "abcdef")) (pBin pItem (pVar 0) (pVar 4))) pNil)) ⟨duV ρ n rest T (some (.int (k : Int))) (some (.str (S (lt (p :: row))))) (some (.str (S es))), H2⟩ = some (.ref H2.length, ⟨duV ρ n rest T (some (.int (k : Int))) (some (.str (S (lt (p :: row))))) (some (.str (S es))), H2 ++ [(false, .tuple [.str (S es), .str (S [97 + p])])]⟩) := by
  rw [L_abc]
  exact zAv (zAT rfl (zAT (zE rfl (zE rfl rfl (zCG hρ2 (by rw [List.getElem?_map, hkp]; rfl) (by lia))) (zBl (zHv hp6) (by lia))) zAg)) (by show 2 ≤ zH; decide)
 have up3 : ∀ j f o, H2[j]? = some (f, o) → (H2 ++ [((false : Bool), PO.tuple [.str (S es), .str (S [97 + p])])])[j]? = some (f, o) := fun j f o h => by
  rw [List.getElem?_append_left (List.getElem?_eq_some_iff.mp h).1]; exact h
 have hT3 := up3 _ _ _ hT2
 have s3 : (pExpr (zg (pVar 3) (zU (pCons (pVar 6) (pCons (pBin pItem (PM.ret (.str "abcdef")) (pBin pItem (pVar 0) (pVar 4))) pNil))))) ⟨duV ρ n rest T (some (.int (k : Int))) (some (.str (S (lt (p :: row))))) (some (.str (S es))), H2⟩ = some (.next, ⟨duV ρ n rest T (some (.int (k : Int))) (some (.str (S (lt (p :: row))))) (some (.str (S es))), (H2 ++ [((false : Bool), PO.tuple [.str (S es), .str (S [97 + p])])]).set T (false, .list (xs ++ [.ref H2.length]))⟩) :=
  zA9 (v := .none) (zC1 rfl hT2 et hT3 (by lia)) rfl
 have hes : es = (97 + l) :: lt r := by rw [← hends, e]; rfl
 have s4 : ∀ H, (zG 2 (zB9 (pVar 2) (pVar 6))) ⟨duV ρ n rest T (some (.int (k : Int))) (some (.str (S (lt (p :: row))))) (some (.str (S es))), H⟩ = some (.next, ⟨duV ρ n (dropL rest l) T (some (.int (k : Int))) (some (.str (S (lt (p :: row))))) (some (.str (S es))), H⟩) := fun H => by
  have er : zB9 (pVar 2) (pVar 6) ⟨duV ρ n rest T (some (.int (k : Int))) (some (.str (S (lt (p :: row))))) (some (.str (S es))), H⟩ = some (.str (S (lt (dropL rest l))), ⟨duV ρ n rest T (some (.int (k : Int))) (some (.str (S (lt (p :: row))))) (some (.str (S es))), H⟩) := by
   show (if (S (lt rest)).length ≤ zH ∧ (Txt.charAt (S es) 0).isSome = true then some (PV.str (Txt.replace (S (lt rest)) (Txt.item (S es) 0) ""), _) else none) = _
   rw [hes, zHz, zMi, if_pos ⟨by rw [S_len, zC6]; exact Nat.le_trans hrl (by decide), rfl⟩, L_nil, zMj, zMk (zAU hok.asc)]
  exact zM er
 rw [e]
 have xt : ExtT H2 ((H2 ++ [((false : Bool), PO.tuple [.str (S es), .str (S [97 + p])])]).set T (false, .list (xs ++ [.ref H2.length]))) := (Ext.app H2 _).t.trans (ExtT.set hT3)
 have xt0 : ExtT H H2 := fun j f a b h => ⟨f, up _ _ _ h⟩
 refine ⟨some (.str (S (lt (p :: row)))), some (.str (S es)), _, zD (zM e1) (zD (zM e2) (zD s3 (zD (s4 _) rfl))), fun j hj f o h => ?_, xs ++ [.ref H2.length], ?_, by simp, ?_⟩
 ·rw [List.getElem?_set_ne (fun q => hj q.symm)]
  exact up3 _ _ _ (up _ _ _ h)
 ·exact List.getElem?_set_self (List.getElem?_eq_some_iff.mp hT3).1
 ·have g := zT H2 ((false : Bool), PO.tuple [.str (S es), .str (S [97 + p])])
  have e1 := zC4 (ExtT.set hT3 (ys := xs ++ [.ref H2.length])) (zC3 g)
  rw [zC5 e1 (zAP (xt0.trans xt) hD), ← hends, e]
  simp [dueV]
inductive DuesR (ρ n T k : Nat) (row rest : List Nat) (D : List (List Nat × Nat)) (H : List (Bool × PO)) (k0 a b : Option PV) : Prop
 | mk (k' a' b' : Option PV) (H' : List (Bool × PO)) (xs' : List PV) (h1 : pFor (pSet 4) dueB ((List.range' k row.length).map fun (k : Nat) => .int (k : Int)) ⟨duV ρ n rest T k0 a b, H⟩ = some (.next, ⟨duV ρ n (zy row rest) T k' a' b', H'⟩)) (h2 : ∀ j, j ≠ T → ∀ f o, H[j]? = some (f, o) → H'[j]? = some (f, o)) (h3 : H'[T]? = some (false, .list xs')) (h4 : zV H' xs' = some (dueV (D ++ dueGo row rest))) : DuesR ρ n T k row rest D H k0 a b
theorem zH0 {ρ n T : Nat} {row0 : List Nat} (h2 : ρ ≠ T) (hl : row0.length ≤ 6) : ∀ (row rest : List Nat) (k : Nat) (D : List (List Nat × Nat)) (xs : List PV) (k0 a b : Option PV) (H : List (Bool × PO)) (fρ : Bool), H[ρ]? = some (fρ, .list (iL row0)) → H[T]? = some (false, .list xs) → zV H xs = some (dueV D) →
  row0.drop k = row → RowOk rest row → xs.length + row.length ≤ 20 → (∀ x ∈ rest, x < 6) →
  DuesR ρ n T k row rest D H k0 a b
 | [], rest, k, D, xs, k0, a, b, H, fρ, hρ, hT, hD, hk, hok, hx, h6 => ⟨k0, a, b, H, xs, rfl, fun j _ f o h => h, hT, by rw [hD]; exact congrArg (fun l => some (dueV l)) (List.append_nil D).symm⟩
 | p :: row, rest, k, D, xs, k0, a, b, H, fρ, hρ, hT, hD, hk, hok, hx, h6 => by
  rw [List.length_cons] at hx
  obtain ⟨a1, b1, H1, e1, x1, xs1, t1, l1, p1⟩ := zMl (n := n) (a := a) (b := b) hρ hT hD h2 hk hok hl (by lia) h6
  obtain ⟨l, r, e⟩ := hok.ends
  rw [e] at e1 p1
  have hρ' := x1 ρ h2 _ _ hρ
  have hk' : row0.drop (k + 1) = row := by rw [← List.drop_drop, hk]; rfl
  obtain ⟨k', a', b', H', xs', e2, x2, t2, p2⟩ := zH0 h2 hl row (dropL rest l) (k + 1) (D ++ [(l :: r, p)]) xs1 (some (.int (k : Int))) a1 b1 H1 fρ hρ' t1 p1 hk' (hok.next e) (by lia) (fun x hx => h6 x ((zAO (zAU hok.asc)).mp hx).1)
  refine ⟨k', a', b', H', xs', ?_, fun j hj f o h => x2 j hj _ _ (x1 j hj _ _ h), t2, ?_⟩
  ·rw [List.length_cons, List.range'_succ, List.map_cons]
   rw [zHx, e]
   exact zA7 rfl e1 e2
  ·rw [p2, zHw, e, List.append_assoc]
   rfl
theorem r_due {vs : List (Option PV)} {H : List (Bool × PO)} {ρ n : Nat} {row : List Nat} {fρ : Bool} (hρ : H[ρ]? = some (fρ, .list (iL row))) (hn : n ≤ 6) (hok : RowOk (List.range n) row) :
  ∃ D T H', zCD [.ref ρ, .int (n : Int)] ⟨vs, H⟩ = some (.ref D, ⟨vs, H'⟩) ∧ Ext H H' ∧ (∃ f, H'[D]? = some (f, .tuple [.ref T, .str (S (lt (zy row (List.range n))))])) ∧ ∃ f xs, H'[T]? = some (f, .list xs) ∧ zV H' xs = some (dueV (dueGo row (List.range n))) := by
 have hlen : n = row.length + 2 := by have := hok.len; rw [List.length_range] at this; exact this
 have lρ := (List.getElem?_eq_some_iff.mp hρ).1
 have habc : abc.take n = lt (List.range n) := by
  have : n = 2 ∨ n = 3 ∨ n = 4 ∨ n = 5 ∨ n = 6 := by lia
  rcases this with h | h | h | h | h <;> subst h <;> rfl
 have e1 : (zG 2 (pSl (PM.ret (.str "abcdef")) (PM.ret .none) (pVar 1))) ⟨zX 7 [.ref ρ, .int (n : Int)], H⟩ = some (.next, ⟨[some (.ref ρ), some (.int (n : Int)), some (.str (S (lt (List.range n)))), none, none, none, none], H⟩) := by
  rw [L_abc]
  have es := zDp (st := ⟨zX 7 [.ref ρ, .int (n : Int)], H⟩) abc n (by show n ≤ 6; exact hn) (by show 6 ≤ zH; decide)
  rw [habc] at es
  exact zM (vs := zX 7 [.ref ρ, .int (n : Int)]) (zAS rfl rfl rfl es)
 have e2 : (zG 3 (pList pNil)) ⟨[some (.ref ρ), some (.int (n : Int)), some (.str (S (lt (List.range n)))), none, none, none, none], H⟩ = some (.next, ⟨duV ρ n (List.range n) H.length none none none, H ++ [(false, .list [])]⟩) := zM (zBm zAg (Nat.zero_le _))
 generalize hH2 : H ++ [((false : Bool), PO.list [])] = H2 at e2
 have x2 : ∀ j f o, H[j]? = some (f, o) → H2[j]? = some (f, o) := fun j f o h => by rw [← hH2, List.getElem?_append_left (List.getElem?_eq_some_iff.mp h).1]; exact h
 have gT : H2[H.length]? = some (false, .list []) := by rw [← hH2]; exact zT _ _
 obtain ⟨k', a', b', H', xs', e3, x3, t3, p3⟩ := zH0 (n := n) (row0 := row) (by lia) (by lia) row (List.range n) 0 [] [] none none none H2 fρ (x2 _ _ _ hρ) gT rfl rfl hok (by simp; lia) (fun x hx => by have := List.mem_range.mp hx; lia)
 have hr : zAY (pBin pSub (pVar 1) (PM.ret (.int 2))) ⟨duV ρ n (List.range n) H.length none none none, H2⟩ = some ((((List.range' 0 row.length).map fun (k : Nat) => PV.int (k : Int)), []), ⟨duV ρ n (List.range n) H.length none none none, H2⟩) := by
  have := zDz (m := pBin pSub (pVar 1) (PM.ret (.int 2))) (st := ⟨duV ρ n (List.range n) H.length none none none, H2⟩) (zE rfl rfl (zBK n 2 (by lia))) (by lia)
  rw [this, List.range_eq_range', show n - 2 = row.length by lia]
 have e3' := zCJ (set := pSet 4) (b := dueB) hr e3
 have xr := Ext.restore (o := H2) (Ext.refl H')
 have t4 := xr _ _ _ t3
 have p4 := zAP xr.t p3
 have x4 : Ext H (restore H2 H') := fun j f o h => xr _ _ _ (x3 j (by have := (List.getElem?_eq_some_iff.mp h).1; lia) _ _ (x2 _ _ _ h))
 generalize restore H2 H' = H4 at e3' t4 p4 x4
 obtain ⟨f4, t4⟩ := t4
 have et : zU (pCons (pVar 3) (pCons (pVar 2) pNil)) ⟨duV ρ n (zy row (List.range n)) H.length k' a' b', H4⟩ = some (.ref H4.length, ⟨duV ρ n (zy row (List.range n)) H.length k' a' b', H4 ++ [(false, .tuple [.ref H.length, .str (S (lt (zy row (List.range n))))])]⟩) :=
  zAv (zAT rfl (zAT rfl zAg)) (by show 2 ≤ zH; decide)
 have eb : zEu ⟨zX 7 [.ref ρ, .int (n : Int)], H⟩ = some (.ret (.ref H4.length), ⟨duV ρ n (zy row (List.range n)) H.length k' a' b', H4 ++ [(false, .tuple [.ref H.length, .str (S (lt (zy row (List.range n))))])]⟩) :=
  zD e1 (zD e2 (zD e3' (zZ (zx et))))
 have ec : zCD [.ref ρ, .int (n : Int)] ⟨vs, H⟩ = some (.ref H4.length, ⟨vs, H4 ++ [(false, .tuple [.ref H.length, .str (S (lt (zy row (List.range n))))])]⟩) := by
  unfold zCD
  exact zFK (st := ⟨vs, H⟩) eb
 have x5 := Ext.app H4 [((false : Bool), PO.tuple [.ref H.length, .str (S (lt (zy row (List.range n))))])]
 obtain ⟨f5, t5⟩ := x5 _ _ _ t4
 rw [List.nil_append] at p4
 exact ⟨H4.length, H.length, _, ec, x4.trans x5, ⟨_, zT _ _⟩, f5, xs', t5, zAP x5.t p4⟩
structure Folds (add goal : List Nat) : Prop where
 eq : add.flatMap foldS = goal
 ok : ∀ c ∈ add, zCu c = true
theorem Folds.one {c : Nat} {g : List Nat} (h : (zCu c && foldS c == g) = true) : Folds [c] g := by
 rw [Bool.and_eq_true, beq_iff_eq] at h
 exact ⟨by simp [h.2], fun x hx => by rw [List.mem_singleton] at hx; subst hx; exact h.1⟩
theorem Folds.app {a b g h : List Nat} (x : Folds a g) (y : Folds b h) : Folds (a ++ b) (g ++ h) := by
 refine ⟨by rw [List.flatMap_append, x.eq, y.eq], fun c hc => ?_⟩
 rcases List.mem_append.mp hc with h | h
 ·exact x.ok c h
 ·exact y.ok c h
theorem Folds.nil : Folds [] [] := ⟨rfl, fun c h => nomatch h⟩
theorem zMm (n : Nat) : Folds [zA8 (n % 27)] [] := Folds.one (by
 have h := List.all_eq_true.mp zL4 (n % 27) (List.mem_range.mpr (Nat.mod_lt _ (by decide)))
 exact h)
theorem zMn : Folds [40] [40] := Folds.one (List.all_eq_true.mp zHK 40 (by decide))
theorem zMo : Folds [41] [41] := Folds.one (List.all_eq_true.mp zHK 41 (by decide))
noncomputable def zC7 : List Nat := [0, 1, 2, 4, 7, 8, 9, 10, 11, 12]
noncomputable def zC8 (place k : Nat) : Nat := if k = 0 then 97 + place else if k = 1 then 65 + place else 119808 + 52 * zC7.getD (k - 2) 0 + place
theorem zMp : (List.range 6).all (fun p => (List.range 12).all fun k => decide (zC8 p k ≤ 1114111) && (zCu (zC8 p k) && foldS (zC8 p k) == [97 + p])) = true := by decide +kernel
theorem zMq (st : PSt) {p : Nat} (hp : p < 6) (x : Nat) : ∃ c, zDj [.int (p : Int), .int (x : Int)] st = some (.str (S [c]), st) ∧ Folds [c] [97 + p] := by
 have hk : x % 12 < 12 := Nat.mod_lt _ (by decide)
 have hf := List.all_eq_true.mp (List.all_eq_true.mp zMp p (List.mem_range.mpr hp)) (x % 12) (List.mem_range.mpr hk)
 rw [Bool.and_eq_true, decide_eq_true_eq] at hf
 have hm : ∀ s, pMod (.int (x : Int)) (.int 12) s = some (.int ((x % 12 : Nat) : Int), s) := fun s => zBY x 12 (by decide)
 generalize x % 12 = k at hk hf hm
 refine ⟨zC8 p k, ?_, Folds.one hf.2⟩
 have hc := hf.1
 clear hf
 have s0 : (zG 2 (pBin pMod (pVar 1) (PM.ret (.int 12)))) ⟨zX 3 [.int (p : Int), .int (x : Int)], frz st.hp⟩ = some (.next, ⟨[some (.int (p : Int)), some (.int (x : Int)), some (.int (k : Int))], frz st.hp⟩) := zM (vs := zX 3 [.int (p : Int), .int (x : Int)]) (zE rfl rfl (hm _))
 have t0 : ∀ (j : Nat) H, ((pBin pEq (pVar 2) (PM.ret (.int (j : Int)))).bind zI) ⟨[some (.int (p : Int)), some (.int (x : Int)), some (.int (k : Int))], H⟩ = some (k == j, ⟨[some (.int (p : Int)), some (.int (x : Int)), some (.int (k : Int))], H⟩) := fun j H => zQ (zE rfl rfl (zCt k j))
 unfold zC8 at hc ⊢
 by_cases h0 : k = 0
 ·rw [if_pos h0] at hc ⊢
  refine zAM (s' := ⟨[some (.int (p : Int)), some (.int (x : Int)), some (.int (k : Int))], frz st.hp⟩) (zD s0 (zZ (zP (t0 0 _) ?_))) rfl
  rw [h0]
  exact zZ (zx (zAD (zE rfl rfl (zAw 97 p)) (zCr _ hc)))
 ·rw [if_neg h0] at hc ⊢
  have hb0 : (k == 0) = false := beq_eq_false_iff_ne.mpr h0
  by_cases h1 : k = 1
  ·rw [if_pos h1] at hc ⊢
   refine zAM (s' := ⟨[some (.int (p : Int)), some (.int (x : Int)), some (.int (k : Int))], frz st.hp⟩) (zD s0 (zD (st1 := ⟨[some (.int (p : Int)), some (.int (x : Int)), some (.int (k : Int))], frz st.hp⟩) (zP ((t0 0 _).trans (by rw [hb0])) rfl) (zZ (zP (t0 1 _) ?_)))) rfl
   rw [h1]
   exact zZ (zx (zAD (zE rfl rfl (zAw 65 p)) (zCr _ hc)))
  ·rw [if_neg h1] at hc ⊢
   have hb1 : (k == 1) = false := beq_eq_false_iff_ne.mpr h1
   have hg : (zC7.map fun (c : Nat) => PV.int (c : Int))[k - 2]? = some (.int ((zC7.getD (k - 2) 0 : Nat) : Int)) := by
    have : k - 2 < zC7.length := by show k - 2 < 10; lia
    rw [List.getElem?_map, List.getD_eq_getElem?_getD, List.getElem?_eq_getElem this]
    rfl
   have hmul : ∀ s a, pMul (.int 52) (.int ((a : Nat) : Int)) s = some (.int ((52 * a : Nat) : Int), s) := fun s a => zFD 52 a (by decide)
   refine zAM (s' := ⟨[some (.int (p : Int)), some (.int (x : Int)), some (.int (k : Int))], frz st.hp ++ [(false, .tuple (zC7.map fun (c : Nat) => PV.int (c : Int)))]⟩) (zD s0 (zD (st1 := ⟨[some (.int (p : Int)), some (.int (x : Int)), some (.int (k : Int))], frz st.hp⟩) (zP ((t0 0 _).trans (by rw [hb0])) rfl) (zD (st1 := ⟨[some (.int (p : Int)), some (.int (x : Int)), some (.int (k : Int))], frz st.hp⟩) (zP ((t0 1 _).trans (by rw [hb1])) rfl) (zZ (zx (zAD (zE (zE rfl (zE rfl (zE (zAv rfl (by show 10 ≤ zH; decide)) (zE rfl rfl (zBK k 2 (by lia))) (zE5 (zDo _ _) hg (by lia))) (hmul _ _)) (zAw 119808 _)) rfl (zAw _ p)) (zCr _ hc))))))) rfl
theorem zMr {set : PV × PV → PM Unit} {test : PM Bool} {elt : PM PV} {x : PV × PV} {v : PV} {xs : List (PV × PV)} {acc : List PV} {st st1 st2 st3 : PSt} {R : Option (List PV × PSt)} (h1 : set x st = some ((), st1)) (h2 : test st1 = some (true, st2)) (h3 : elt st2 = some (v, st3)) (h4 : zAe set test elt xs (acc ++ [v]) st3 = R) : zAe set test elt (x :: xs) acc st = R := by
 show PM.bind (set x) _ st = R
 unfold PM.bind; rw [h1]; dsimp only; rw [h2]; dsimp only; rw [if_pos rfl, h3]; exact h4
theorem zMs {set : PV × PV → PM Unit} {test : PM Bool} {elt : PM PV} {x : PV × PV} {xs : List (PV × PV)} {acc : List PV} {st st1 st2 : PSt} {R : Option (List PV × PSt)} (h1 : set x st = some ((), st1)) (h2 : test st1 = some (false, st2)) (h4 : zAe set test elt xs acc st2 = R) : zAe set test elt (x :: xs) acc st = R := by
 show PM.bind (set x) _ st = R
 unfold PM.bind; rw [h1]; dsimp only; rw [h2]; exact h4
theorem zFM {rest : List (Option PV)} {hp : List (Bool × PO)} {test : PM Bool} {elt : PM PV} {t : Nat × Nat → Bool} {f : Nat × Nat → Nat} : ∀ (E : List (Nat × Nat)) (u v : Option PV) (acc : List PV),
  (∀ e ∈ E, test ⟨some (.int (e.1 : Int)) :: some (.int (e.2 : Int)) :: rest, hp⟩ = some (t e, ⟨some (.int (e.1 : Int)) :: some (.int (e.2 : Int)) :: rest, hp⟩)) → (∀ e ∈ E, elt ⟨some (.int (e.1 : Int)) :: some (.int (e.2 : Int)) :: rest, hp⟩ = some (.int (f e : Int), ⟨some (.int (e.1 : Int)) :: some (.int (e.2 : Int)) :: rest, hp⟩)) →
  ∃ u' v', zAe (pSet2 0 1) test elt (pairV E) acc ⟨u :: v :: rest, hp⟩ = some (acc ++ iL ((E.filter t).map f), ⟨u' :: v' :: rest, hp⟩)
 | [], u, v, acc, _, _ => ⟨u, v, congrArg (fun l => some (l, (⟨u :: v :: rest, hp⟩ : PSt))) (List.append_nil acc).symm⟩
 | e :: E, u, v, acc, ht, he => by
  have h1 := ht e (.head _)
  have h2 := he e (.head _)
  show ∃ u' v', zAe (pSet2 0 1) test elt ((.int (e.1 : Int), .int (e.2 : Int)) :: pairV E) acc ⟨u :: v :: rest, hp⟩ = _
  cases hx : t e with
  | false =>
   obtain ⟨u', v', h⟩ := zFM E (some (.int (e.1 : Int))) (some (.int (e.2 : Int))) acc (fun y hy => ht y (.tail _ hy)) (fun y hy => he y (.tail _ hy))
   refine ⟨u', v', ?_⟩
   rw [hx] at h1
   exact zMs rfl h1 (h.trans (by rw [List.filter_cons, hx]; rfl))
  | true =>
   obtain ⟨u', v', h⟩ := zFM E (some (.int (e.1 : Int))) (some (.int (e.2 : Int))) (acc ++ [.int (f e : Int)]) (fun y hy => ht y (.tail _ hy)) (fun y hy => he y (.tail _ hy))
   refine ⟨u', v', ?_⟩
   rw [hx] at h1
   exact zMr rfl h1 h2 (h.trans (by rw [List.filter_cons, hx, if_pos rfl, List.append_assoc]; rfl))
theorem zH1 {caps : List Nat} {m : PM PV} {test : PM Bool} {elt : PM PV} {s : PSt} {τ : Nat} {E : List (Nat × Nat)} {rest : List (Option PV)} {t : Nat × Nat → Bool} {f : Nat × Nat → Nat} (hm : m s = some (.ref τ, s)) (hT : zBM s.hp τ E) (hl : E.length ≤ 20) (hv : zAl 2 caps s.vars = none :: none :: rest)
  (ht : ∀ hp, ∀ e ∈ E, test ⟨some (.int (e.1 : Int)) :: some (.int (e.2 : Int)) :: rest, hp⟩ = some (t e, ⟨some (.int (e.1 : Int)) :: some (.int (e.2 : Int)) :: rest, hp⟩)) (he : ∀ hp, ∀ e ∈ E, elt ⟨some (.int (e.1 : Int)) :: some (.int (e.2 : Int)) :: rest, hp⟩ = some (.int (f e : Int), ⟨some (.int (e.1 : Int)) :: some (.int (e.2 : Int)) :: rest, hp⟩)) :
  zBH 2 caps (pSrcP m) (pSet2 0 1) test elt s = some (.ref s.hp.length, ⟨s.vars, s.hp ++ [(false, .list (iL ((E.filter t).map f)))]⟩) := by
 apply byC; intro kz; obtain ⟨f0, xs, h1, h2⟩ := hT; apply kz; clear kz
 have hsrc : ∃ fz, pSrcP m s = some ((pairV E, fz), s) := by
  refine ⟨τ :: xs.map refIx, ?_⟩
  unfold pSrcP PM.bind
  rw [hm]
  simp only [h1, h2, Option.bind_some]
 apply byC; intro kz; obtain ⟨fz, hsrc⟩ := hsrc; apply kz; clear kz
 apply byC; intro kz; obtain ⟨u', v', e⟩ := zFM E none none [] (ht (fzAt fz s.hp)) (he (fzAt fz s.hp)); apply kz; clear kz
 have hl2 : (pairV E).length ≤ zH := by unfold pairV; rw [List.length_map]; exact Nat.le_trans hl (by decide)
 simp only [zBH, PM.bind, hsrc, hl2, if_true, hv, e, zCF, zCo, List.nil_append]
noncomputable def insN (x : Nat) : List Nat → List Nat
 | [] => [x]
 | y :: ys => if x ≤ y then x :: y :: ys else y :: insN x ys
noncomputable def sortN : List Nat → List Nat
 | [] => []
 | x :: xs => insN x (sortN xs)
theorem zH2 {x : Nat} {xs : List Nat} : sortN (x :: xs) = insN x (sortN xs) := rfl
theorem zH3 (x : Nat) : ∀ ys : List Nat, insZ (x : Int) (ys.map fun (y : Nat) => (y : Int)) = (insN x ys).map fun (y : Nat) => (y : Int)
 | [] => rfl
 | y :: ys => by
  rw [List.map_cons, insZ, insN]
  by_cases h : x ≤ y
  ·rw [if_pos h, if_pos (by lia)]; rfl
  ·rw [if_neg h, if_neg (by lia), zH3 x ys]; rfl
theorem zH4 : ∀ ys : List Nat, sortZ (ys.map fun (y : Nat) => (y : Int)) = (sortN ys).map fun (y : Nat) => (y : Int)
 | [] => rfl
 | y :: ys => by
  show insZ (y : Int) (sortZ (ys.map fun (y : Nat) => (y : Int))) = _
  rw [zH4 ys, zH3]; rfl
theorem zH5 (x : Nat) : ∀ ys, (insN x ys).length = ys.length + 1
 | [] => rfl
 | y :: ys => by
  unfold insN
  split
  ·rfl
  ·rw [List.length_cons, zH5 x ys, List.length_cons]
theorem zFN : ∀ ys, (sortN ys).length = ys.length
 | [] => rfl
 | y :: ys => by rw [zH2, zH5, zFN ys]; rfl
theorem zMt {vs : List (Option PV)} {hp : List (Bool × PO)} {i : Nat} {b : Bool} {l : List Nat} (h : hp[i]? = some (b, .list (iL l))) (hl : l.length < 64) : zCh (.ref i) ⟨vs, hp⟩ = some (.ref hp.length, ⟨vs, hp ++ [(false, .list (iL (sortN l)))]⟩) := by
 unfold zCh
 simp only [h]
 rw [show zAd (iL l) = some (l.map fun (y : Nat) => (y : Int)) by rw [zC2, zC0], Option.bind_some, if_pos (by rw [List.length_map]; exact hl), zH4, List.map_map]
 rfl
theorem rev10 {hp : List (Bool × PO)} {vs : List (Option PV)} {a : Nat} {b : Bool} {xs : List PV} (h : hp[a]? = some (b, .list xs)) (hl : xs.length ≤ 10) : zBV (.ref a) .none .none (.int (-1)) ⟨vs, hp⟩ = some (.ref hp.length, ⟨vs, hp ++ [(false, .list xs.reverse)]⟩) := by
 by_cases h6 : xs.length ≤ 6
 ·exact rev3 h h6
 ·have e : pick3 none none (-1) xs = xs.reverse := by
   match xs, hl, h6 with
   | [_, _, _, _, _, _, _], _, _ => kernel_rfl
   | [_, _, _, _, _, _, _, _], _, _ => kernel_rfl
   | [_, _, _, _, _, _, _, _, _], _, _ => kernel_rfl
   | [_, _, _, _, _, _, _, _, _, _], _, _ => kernel_rfl
   | _ :: _ :: _ :: _ :: _ :: _ :: _ :: _ :: _ :: _ :: _ :: _, hl, _ => simp at hl
   | [], _, h6 => simp at h6
   | [_], _, h6 => simp at h6
   | [_, _], _, h6 => simp at h6
   | [_, _, _], _, h6 => simp at h6
   | [_, _, _, _], _, h6 => simp at h6
   | [_, _, _, _, _], _, h6 => simp at h6
   | [_, _, _, _, _, _], _, h6 => simp at h6
  unfold zBV
  simp only [zBE, zBF, Option.bind_some, h]
  rw [if_pos ⟨Nat.le_trans hl (by decide), by decide⟩, e]
  rfl
noncomputable def nexts (E : List (Nat × Nat)) (t : Bool) (node : Nat) (bh : Int) : List Nat :=
 if t then (sortN ((E.filter fun e => e.1 == node && (e.2 : Int) != bh).map (·.2) ++ (E.filter fun e => e.2 == node && (e.1 : Int) != bh).map (·.1))).reverse
 else sortN ((E.filter fun e => e.1 == node && (e.2 : Int) != bh).map (·.2) ++ (E.filter fun e => e.2 == node && (e.1 : Int) != bh).map (·.1))
noncomputable def txtF (E : List (Nat × Nat)) (t : Bool) : Nat → Nat → Int → List Nat
 | 0, _, _ => []
 | k + 1, node, bh => [40] ++ [97 + node] ++ (nexts E t node bh).flatMap (fun o => txtF E t k o node) ++ [41]
noncomputable def okF (E : List (Nat × Nat)) (t : Bool) : Nat → Nat → Int → Prop
 | 0, _, _ => False
 | k + 1, node, bh => ∀ o ∈ nexts E t node bh, okF E t k o node
theorem zH6 {rest : List (Option PV)} {hp : List (Bool × PO)} {elt : PM PV} {g : Nat → List Nat} : ∀ (os : List Nat) (u : Option PV) (acc : List PV),
  (∀ o ∈ os, ∃ w, elt ⟨some (.int (o : Int)) :: rest, hp⟩ = some (.str (S w), ⟨some (.int (o : Int)) :: rest, hp⟩) ∧ Folds w (g o) ∧ w.length ≤ 2 * (g o).length) →
  ∃ (ws : List (List Nat)) (u' : Option PV), zAZ (pSet 0) (PM.ret true) elt (iL os) acc ⟨u :: rest, hp⟩ = some (acc ++ ws.map (fun l => .str (S l)), ⟨u' :: rest, hp⟩) ∧ Folds ws.flatten (os.flatMap g) ∧ ws.flatten.length ≤ 2 * (os.flatMap g).length
 | [], u, acc, _ => ⟨[], u, congrArg (fun l => some (l, _)) (List.append_nil acc).symm, Folds.nil, by simp⟩
 | o :: os, u, acc, h => by
  obtain ⟨w, e, f, l⟩ := h o (.head _)
  obtain ⟨ws, u', e2, f2, l2⟩ := zH6 os (some (.int (o : Int))) (acc ++ [.str (S w)]) (fun x hx => h x (.tail _ hx))
  refine ⟨w :: ws, u', zDm rfl rfl e (e2.trans (by simp)), ?_, ?_⟩
  ·rw [List.flatten_cons, List.flatMap_cons]; exact f.app f2
  ·rw [List.flatten_cons, List.flatMap_cons, List.length_append, List.length_append]; lia
theorem zH7 {g : Nat → List Nat} : ∀ {os : List Nat} {o : Nat}, o ∈ os → (g o).length ≤ (os.flatMap g).length
 | [], _, h => nomatch h
 | x :: os, o, h => by
  rw [List.flatMap_cons, List.length_append]
  rcases List.mem_cons.mp h with rfl | h
  ·lia
  ·have := zH7 (g := g) h; lia
theorem zFO (x y : Nat) : ∀ l, y ∈ insN x l ↔ y = x ∨ y ∈ l
 | [] => by simp [insN]
 | z :: l => by
  unfold insN
  split
  ·simp
  ·rw [List.mem_cons, zFO x y l, List.mem_cons]
   constructor
   ·rintro (h | h | h)
    ·exact .inr (.inl h)
    ·exact .inl h
    ·exact .inr (.inr h)
   ·rintro (h | h | h)
    ·exact .inr (.inl h)
    ·exact .inl h
    ·exact .inr (.inr h)
theorem zFP (y : Nat) : ∀ l, y ∈ sortN l ↔ y ∈ l
 | [] => Iff.rfl
 | x :: l => by rw [zH2, zFO, zFP y l, List.mem_cons]
theorem zC9 {E : List (Nat × Nat)} {t : Bool} {node : Nat} {bh : Int} {o : Nat} : o ∈ nexts E t node bh ↔ ((node, o) ∈ E ∨ (o, node) ∈ E) ∧ (o : Int) ≠ bh := by
 have h : o ∈ nexts E t node bh ↔ o ∈ (E.filter fun e => e.1 == node && (e.2 : Int) != bh).map (·.2) ++ (E.filter fun e => e.2 == node && (e.1 : Int) != bh).map (·.1) := by
  unfold nexts
  split
  ·rw [List.mem_reverse, zFP]
  ·rw [zFP]
 rw [h, List.mem_append, List.mem_map, List.mem_map]
 constructor
 ·rintro (⟨⟨a, b⟩, h1, rfl⟩ | ⟨⟨a, b⟩, h1, rfl⟩)
  ·obtain ⟨hm, h2⟩ := List.mem_filter.mp h1
   simp only [Bool.and_eq_true, beq_iff_eq, bne_iff_ne] at h2
   obtain ⟨rfl, h2⟩ := h2
   exact ⟨.inl hm, h2⟩
  ·obtain ⟨hm, h2⟩ := List.mem_filter.mp h1
   simp only [Bool.and_eq_true, beq_iff_eq, bne_iff_ne] at h2
   obtain ⟨rfl, h2⟩ := h2
   exact ⟨.inr hm, h2⟩
 ·rintro ⟨h1 | h1, h2⟩
  ·exact .inl ⟨(node, o), List.mem_filter.mpr ⟨h1, by simp [h2]⟩, rfl⟩
  ·exact .inr ⟨(o, node), List.mem_filter.mpr ⟨h1, by simp [h2]⟩, rfl⟩
noncomputable def drS (node : Nat) (bh : Int) (τ : Nat) (t : Bool) (x : Nat) (a b c : Option PV) : List (Option PV) := [some (.int (node : Int)), some (.int bh), some (.ref τ), some (.bool t), some (.int (x : Int)), a, b, c]
theorem pow12 {st : PSt} {node : Nat} (h : node < 6) : pPow (.int 12) (.int (node : Int)) st = some (.int ((12 ^ node : Nat) : Int), st) ∧ 12 ^ node ≠ 0 ∧ 12 ^ node < 1073741824 := by
 have h' : node = 0 ∨ node = 1 ∨ node = 2 ∨ node = 3 ∨ node = 4 ∨ node = 5 := by lia
 refine ⟨?_, ?_⟩
 ·unfold pPow
  dsimp only
  rw [if_pos ⟨by lia, by lia, by decide⟩]
  rcases h' with rfl | rfl | rfl | rfl | rfl | rfl <;> rfl
 ·rcases h' with rfl | rfl | rfl | rfl | rfl | rfl <;> decide
theorem zH8 {E : List (Nat × Nat)} {t : Bool} {τ : Nat} (hE : E.length ≤ 5) (h6 : ∀ e ∈ E, e.1 < 6 ∧ e.2 < 6) : ∀ (k node : Nat) (bh : Int) (x : Nat) (st : PSt), zBM st.hp τ E → node < 6 → okF E t k node bh → (txtF E t k node bh).length ≤ 3000 →
  ∃ w, zBi k [.int (node : Int), .int bh, .ref τ, .bool t, .int (x : Int)] st = some (.str (S w), st) ∧ Folds w (txtF E t k node bh) ∧ w.length ≤ 2 * (txtF E t k node bh).length
 | 0, node, bh, x, st, _, _, hok, _ => hok.elim
 | k + 1, node, bh, x, st, hT, hn, hok, hlen => by
  have hTf : zBM (frz st.hp) τ E := by
   obtain ⟨f, xs, h1, h2⟩ := hT
   refine ⟨true, xs, zG8 h1, zAP (fun j f a b h => ⟨true, zG8 h⟩) h2⟩
  generalize hH : frz st.hp = H at hTf
  let l1 := (E.filter fun e => e.1 == node && (e.2 : Int) != bh).map (·.2)
  let l2 := (E.filter fun e => e.2 == node && (e.1 : Int) != bh).map (·.1)
  have n1 : l1.length ≤ 5 := by rw [List.length_map]; exact Nat.le_trans (List.length_filter_le _ _) hE
  have n2 : l2.length ≤ 5 := by rw [List.length_map]; exact Nat.le_trans (List.length_filter_le _ _) hE
  have tb : ∀ (b : Bool) (c : Bool) (st : PSt), (if b then (if c then PM.ret true else PM.ret false) else PM.ret false) st = some (b && c, st) := fun b c st => by cases b <;> cases c <;> rfl
  have c1 := zH1 (caps := [1, 0]) (m := pVar 2) (s := ⟨drS node bh τ t x none none none, H⟩) (rest := [some (.int bh), some (.int (node : Int))]) (t := fun e => e.1 == node && (e.2 : Int) != bh) (f := (·.2))
   (test := pAnd ((pBin pEq (pVar 0) (pVar 3)).bind zI) (pAnd ((pBin pNe (pVar 1) (pVar 2)).bind zI) (PM.ret true))) (elt := pVar 1) rfl hTf (by lia) rfl
   (fun hp e he => by
    refine zBA (zQ (zE rfl rfl (zCt e.1 node))) ?_
    cases e.1 == node with
    | false => rfl
    | true =>
     refine zBA (b := ((e.2 : Int) != bh)) (zQ (zE rfl rfl rfl)) ?_
     cases (e.2 : Int) != bh <;> rfl) (fun hp e he => rfl)
  have hT1 := hTf.ext (Ext.app H [((false : Bool), PO.list (iL l1))])
  have c2 := zH1 (caps := [1, 0]) (m := pVar 2) (s := ⟨drS node bh τ t x none none none, H ++ [(false, .list (iL l1))]⟩) (rest := [some (.int bh), some (.int (node : Int))]) (t := fun e => e.2 == node && (e.1 : Int) != bh) (f := (·.1))
   (test := pAnd ((pBin pEq (pVar 1) (pVar 3)).bind zI) (pAnd ((pBin pNe (pVar 0) (pVar 2)).bind zI) (PM.ret true))) (elt := pVar 0) rfl hT1 (by lia) rfl
   (fun hp e he => by
    refine zBA (zQ (zE rfl rfl (zCt e.2 node))) ?_
    cases e.2 == node with
    | false => rfl
    | true =>
     refine zBA (b := ((e.1 : Int) != bh)) (zQ (zE rfl rfl rfl)) ?_
     cases (e.1 : Int) != bh <;> rfl) (fun hp e he => rfl)
  dsimp only at c1 c2
  have g1 : (H ++ [((false : Bool), PO.list (iL l1))] ++ [((false : Bool), PO.list (iL l2))])[H.length]? = some (false, .list (iL l1)) := by rw [List.getElem?_append_left (by simp)]; exact zT _ _
  have i1 : (iL l1).length = l1.length := List.length_map ..
  have i2 : (iL l2).length = l2.length := List.length_map ..
  have ea := zHj (vs := drS node bh τ t x none none none) g1 (zT _ _) (by lia)
  rw [← List.map_append] at ea
  have es := zMt (vs := drS node bh τ t x none none none) (zT (H ++ [((false : Bool), PO.list (iL l1))] ++ [((false : Bool), PO.list (iL l2))]) ((false : Bool), PO.list (iL (l1 ++ l2)))) (by rw [List.length_append]; lia)
  have s0 : (zG 5 (pApp1 (pBin pAdd (zBH 2 [1, 0] (pSrcP (pVar 2)) (pSet2 0 1) (pAnd ((pBin pEq (pVar 0) (pVar 3)).bind zI) (pAnd ((pBin pNe (pVar 1) (pVar 2)).bind zI) (PM.ret true))) (pVar 1)) (zBH 2 [1, 0] (pSrcP (pVar 2)) (pSet2 0 1) (pAnd ((pBin pEq (pVar 1) (pVar 3)).bind zI) (pAnd ((pBin pNe (pVar 0) (pVar 2)).bind zI) (PM.ret true))) (pVar 0))) zCh)) ⟨drS node bh τ t x none none none, H⟩ = _ := zM (zAD (zE c1 c2 ea) es)
  have s1 : ∃ j H', (pIf ((pVar 3).bind zI) (pSeq (zG 5 (pSl3 (pVar 5) (PM.ret .none) (PM.ret .none) (pNeg (PM.ret (.int 1))))) (PM.ret .next)) (PM.ret .next)) ⟨drS node bh τ t x (some (.ref (H ++ [((false : Bool), PO.list (iL l1))] ++ [((false : Bool), PO.list (iL l2))] ++ [((false : Bool), PO.list (iL (l1 ++ l2)))]).length)) none none, H ++ [((false : Bool), PO.list (iL l1))] ++ [((false : Bool), PO.list (iL l2))] ++ [((false : Bool), PO.list (iL (l1 ++ l2)))] ++ [((false : Bool), PO.list (iL (sortN (l1 ++ l2))))]⟩ =
    some (.next, ⟨drS node bh τ t x (some (.ref j)) none none, H'⟩) ∧ H'[j]? = some (false, .list (iL (nexts E t node bh))) ∧ Ext H H' := by
   have x0 : Ext H (H ++ [((false : Bool), PO.list (iL l1))] ++ [((false : Bool), PO.list (iL l2))] ++ [((false : Bool), PO.list (iL (l1 ++ l2)))] ++ [((false : Bool), PO.list (iL (sortN (l1 ++ l2))))]) := by
    rw [List.append_assoc, List.append_assoc, List.append_assoc]; exact Ext.app _ _
   have gs := zT (H ++ [((false : Bool), PO.list (iL l1))] ++ [((false : Bool), PO.list (iL l2))] ++ [((false : Bool), PO.list (iL (l1 ++ l2)))]) ((false : Bool), PO.list (iL (sortN (l1 ++ l2))))
   generalize (H ++ [((false : Bool), PO.list (iL l1))] ++ [((false : Bool), PO.list (iL l2))] ++ [((false : Bool), PO.list (iL (l1 ++ l2)))]).length = j0 at gs
   generalize H ++ [((false : Bool), PO.list (iL l1))] ++ [((false : Bool), PO.list (iL l2))] ++ [((false : Bool), PO.list (iL (l1 ++ l2)))] ++ [((false : Bool), PO.list (iL (sortN (l1 ++ l2))))] = H0 at gs x0
   cases t with
   | false => exact ⟨j0, H0, rfl, gs, x0⟩
   | true =>
    have er := rev10 (vs := drS node bh τ true x (some (.ref j0)) none none) gs (by rw [List.length_map, zFN, List.length_append]; lia)
    rw [← List.map_reverse] at er
    exact ⟨H0.length, _, zP (c := true) (zQ rfl) (zD (zM (zHY rfl rfl rfl (zBL 1) er)) rfl), zT _ _, x0.trans (Ext.app _ _)⟩
  obtain ⟨j, H', s1, gj, x1⟩ := s1
  obtain ⟨p1, p2, p3⟩ := pow12 (st := ⟨drS node bh τ t x (some (.ref j)) none none, H'⟩) hn
  have s2 : (zG 6 (pBin pDiv (pVar 4) (pBin pPow (PM.ret (.int 12)) (pVar 0)))) ⟨drS node bh τ t x (some (.ref j)) none none, H'⟩ = some (.next, ⟨drS node bh τ t x (some (.ref j)) (some (.int ((x / 12 ^ node : Nat) : Int))) none, H'⟩) := zM (zE rfl (zE rfl rfl p1) (zCq x (12 ^ node) p2 p3))
  have hT' := hTf.ext (x1.trans (Ext.fz [j] H'))
  have htx : txtF E t (k + 1) node bh = [40] ++ [97 + node] ++ (nexts E t node bh).flatMap (fun o => txtF E t k o node) ++ [41] := rfl
  have hl2 : ((nexts E t node bh).flatMap fun o => txtF E t k o node).length ≤ 2997 := by
   rw [htx] at hlen
   simp only [List.length_append, List.length_singleton] at hlen
   lia
  have hnl : (nexts E t node bh).length ≤ 10 := by
   have : (sortN (l1 ++ l2)).length ≤ 10 := by rw [zFN, List.length_append]; lia
   unfold nexts
   split
   ·rw [List.length_reverse]; exact this
   ·exact this
  obtain ⟨ws, u', ec, fw, lw⟩ := zH6 (rest := [some (.int (node : Int)), some (.int (x : Int)), some (.ref τ), some (.bool t)]) (hp := fzAt [j] H') (elt := pApp 5 (pCons (pVar 0) (pCons (pVar 1) (pCons (pVar 3) (pCons (pVar 4) (pCons (pVar 2) pNil))))) (zBi k)) (g := fun o => txtF E t k o node) (nexts E t node bh) none [] (fun o ho => by
   obtain ⟨w, e, f, l⟩ := zH8 hE h6 k o node x ⟨some (.int (o : Int)) :: [some (.int (node : Int)), some (.int (x : Int)), some (.ref τ), some (.bool t)], fzAt [j] H'⟩ hT' (by
    rcases (zC9.mp ho).1 with h | h
    ·exact (h6 _ h).2
    ·exact (h6 _ h).1) (hok o ho) (Nat.le_trans (zH7 (g := fun o => txtF E t k o node) ho) (by lia))
   exact ⟨w, e, f, l⟩)
  have ec2 := zD0 (caps := [0, 4, 2, 3]) (nt := 1) (test := PM.ret true) (s := ⟨drS node bh τ t x (some (.ref j)) (some (.int ((x / 12 ^ node : Nat) : Int))) none, H'⟩) (mi := pSrc (pVar 5)) (zCI rfl gj) (by rw [List.length_map]; exact Nat.le_trans hnl (by decide)) ec
  dsimp only at ec2
  rw [zCo, zCF, List.nil_append] at ec2
  have s3 := zM (i := 7) ec2
  obtain ⟨c, hc, fc⟩ := zMq ⟨drS node bh τ t x (some (.ref j)) (some (.int ((x / 12 ^ node : Nat) : Int))) (some (.ref H'.length)), H' ++ [((false : Bool), PO.list (ws.map fun l => .str (S l)))]⟩ hn (x / 12 ^ node)
  have hu := zL0 ⟨drS node bh τ t x (some (.ref j)) (some (.int ((x / 12 ^ node : Nat) : Int))) (some (.ref H'.length)), H' ++ [((false : Bool), PO.list (ws.map fun l => .str (S l)))]⟩ (x / 12 ^ node)
  have hlw : ws.flatten.length ≤ 5994 := by lia
  have ej := zDs (st := ⟨drS node bh τ t x (some (.ref j)) (some (.int ((x / 12 ^ node : Nat) : Int))) (some (.ref H'.length)), H' ++ [((false : Bool), PO.list (ws.map fun l => .str (S l)))]⟩) (sep := []) (zT _ _) (by rw [zDu, List.length_nil, Nat.mul_zero]; lia)
  rw [zDt] at ej
  have app : ∀ (s : PSt) (a b : List Nat), a.length + b.length ≤ 10000 → pAdd (.str (S a)) (.str (S b)) s = some (.str (S (a ++ b)), s) := fun s a b h => zBn a b (Nat.le_trans h (by decide))
  have s4 : (zO (pBin pAdd (pBin pAdd (pBin pAdd (pBin pAdd (PM.ret (.str "(")) (pApp 2 (pCons (pVar 0) (pCons (pVar 6) pNil)) zDj)) (pApp 1 (pCons (pVar 6) pNil) zDi)) (pM1 (PM.ret (.str "")) (pVar 7) pJoin)) (PM.ret (.str ")")))) ⟨drS node bh τ t x (some (.ref j)) (some (.int ((x / 12 ^ node : Nat) : Int))) (some (.ref H'.length)), H' ++ [((false : Bool), PO.list (ws.map fun l => .str (S l)))]⟩ =
    some (.ret (.str (S ([40] ++ [c] ++ [zA8 (x / 12 ^ node % 27)] ++ ws.flatten ++ [41]))), ⟨drS node bh τ t x (some (.ref j)) (some (.int ((x / 12 ^ node : Nat) : Int))) (some (.ref H'.length)), H' ++ [((false : Bool), PO.list (ws.map fun l => .str (S l)))]⟩) := by
   rw [zCp, zE6, L_nil]
   exact zx (zE (zE (zE (zE rfl (app2c rfl rfl hc) (app _ [40] [c] (by simp))) (app1c rfl hu) (app _ _ _ (by simp))) (zBJ rfl rfl ej) (app _ _ _ (by simp only [List.length_append, List.length_singleton]; lia))) rfl (app _ _ _ (by simp only [List.length_append, List.length_singleton]; lia)))
  refine ⟨[40] ++ [c] ++ [zA8 (x / 12 ^ node % 27)] ++ ws.flatten ++ [41], ?_, ?_, ?_⟩
  ·show zAC 8 (zEs (zBi k)) _ st = _
   refine zAM (s' := ⟨drS node bh τ t x (some (.ref j)) (some (.int ((x / 12 ^ node : Nat) : Int))) (some (.ref H'.length)), H' ++ [((false : Bool), PO.list (ws.map fun l => .str (S l)))]⟩) ?_ rfl
   rw [hH]
   exact zD s0 (zD s1 (zD s2 (zD s3 (zZ s4))))
  ·rw [htx]
   have := (((zMn.app fc).app (zMm (x / 12 ^ node))).app fw).app zMo
   rwa [List.append_nil] at this
  ·rw [htx]
   simp only [List.length_append, List.length_singleton]
   lia
noncomputable def tokC (c : Nat) : Tk := if c = 40 then .op else if c = 41 then .cl else .ch c
noncomputable def balC (l : List Nat) : Bool := bal 0 (l.map tokC)
noncomputable def zh (w : List Nat) : Prop := ∀ x ∈ w, x = 40 ∨ x = 41 ∨ (97 ≤ x ∧ x ≤ 102)
theorem zh.sub {w v : List Nat} (h : zh w) (s : ∀ x ∈ v, x ∈ w) : zh v := fun x hx => h x (s x hx)
theorem zh.drop {w : List Nat} (h : zh w) (k : Nat) : zh (w.drop k) := h.sub fun x hx => List.mem_of_mem_drop hx
theorem zh.take {w : List Nat} (h : zh w) (k : Nat) : zh (w.take k) := h.sub fun x hx => List.mem_of_mem_take hx
theorem zMu (c : Nat) : (tokC c).flat = [c] := by
 unfold tokC
 by_cases h : c = 40
 ·rw [if_pos h, h]; rfl
 ·rw [if_neg h]
  by_cases h2 : c = 41
  ·rw [if_pos h2, h2]; rfl
  ·rw [if_neg h2]; rfl
theorem zBN : ∀ w : List Nat, flat (w.map tokC) = w
 | [] => rfl
 | c :: w => by rw [List.map_cons, zBZ, zMu, zBN w]; rfl
theorem zDA {w : List Nat} (h : zh w) : ∀ t ∈ w.map tokC, t.ok ∧ t.isQuo = false := fun t ht => by
 obtain ⟨c, hc, rfl⟩ := List.mem_map.mp ht
 unfold tokC
 by_cases h1 : c = 40
 ·rw [if_pos h1]; exact ⟨trivial, rfl⟩
 ·rw [if_neg h1]
  by_cases h2 : c = 41
  ·rw [if_pos h2]; exact ⟨trivial, rfl⟩
  ·rw [if_neg h2]
   have := h c hc
   exact ⟨⟨by lia, h1, h2, by lia⟩, rfl⟩
theorem zH9 (st : PSt) {w : List Nat} (h : zh w) (hl : w.length ≤ 1000) : zBX [.str (S w)] st = some (.bool (balC w), st) := by
 have := zME st (w.map tokC) (fun t ht => (zDA h t ht).1) (by rw [zBN]; lia)
 rwa [zBN] at this
theorem zFQ {w : List Nat} (h : zh w) : (w.map tokC).filter (fun t => !t.isQuo) = w.map tokC := List.filter_eq_self.mpr fun t ht => by rw [(zDA h t ht).2]; rfl
noncomputable def quoT (w : List Nat) : Tk := .quo w
theorem zFR {w : List Nat} (h : zh w) : (quoT w).ok := ⟨fun hm => by have := h 34 hm; lia, fun hm => by have := h 92 hm; lia⟩
theorem zMv (st : PSt) {a q b : List Nat} (ha : zh a) (hq : zh q) (hb : zh b) (hl : a.length + q.length + b.length ≤ 1000) : zBI [.str (S (a ++ [34] ++ q ++ [34] ++ b))] st = some (.str (S (a ++ b)), st) := by
 have e : a ++ [34] ++ q ++ [34] ++ b = flat (a.map tokC ++ [quoT q] ++ b.map tokC) := by
  rw [zCv, zCv, zBN, zBN]
  show _ = a ++ (34 :: (q ++ [34]) ++ []) ++ b
  simp
 have := zE9 st (a.map tokC ++ [quoT q] ++ b.map tokC) (fun t ht => by
  rcases List.mem_append.mp ht with ht | ht
  ·rcases List.mem_append.mp ht with ht | ht
   ·exact (zDA ha t ht).1
   ·rw [List.mem_singleton.mp ht]; exact zFR hq
  ·exact (zDA hb t ht).1) (by rw [← e]; simp only [List.length_append, List.length_singleton]; lia)
 rw [e, this, List.filter_append, List.filter_append, zFQ ha, zFQ hb]
 have e2 : [quoT q].filter (fun t => !t.isQuo) = [] := rfl
 rw [e2, List.append_nil, zCv, zBN, zBN]
theorem zMw (st : PSt) {q a r : List Nat} (ha : zh a) (hq : zh q) (hr : zh r) (hl : a.length + q.length + r.length ≤ 1000) : zBI [.str (S ([34] ++ q ++ [34] ++ a ++ [34] ++ r ++ [34]))] st = some (.str (S a), st) := by
 have e : [34] ++ q ++ [34] ++ a ++ [34] ++ r ++ [34] = flat ([quoT q] ++ a.map tokC ++ [quoT r]) := by
  rw [zCv, zCv, zBN]
  show _ = (34 :: (q ++ [34]) ++ []) ++ a ++ (34 :: (r ++ [34]) ++ [])
  simp
 have := zE9 st ([quoT q] ++ a.map tokC ++ [quoT r]) (fun t ht => by
  rcases List.mem_append.mp ht with ht | ht
  ·rcases List.mem_append.mp ht with ht | ht
   ·rw [List.mem_singleton.mp ht]; exact zFR hq
   ·exact (zDA ha t ht).1
  ·rw [List.mem_singleton.mp ht]; exact zFR hr) (by rw [← e]; simp only [List.length_append, List.length_singleton]; lia)
 rw [e, this, List.filter_append, List.filter_append, zFQ ha]
 have e2 : ∀ q, [quoT q].filter (fun t => !t.isQuo) = [] := fun _ => rfl
 rw [e2, e2, List.append_nil, List.nil_append, zBN]
theorem zMx (w : List Nat) (l : Option Int) {k : Nat} (h0 : 0 < k) (h : k ≤ w.length) : Txt.slice (S w) l (some (-(k : Int))) = Txt.slice (S w) l (some ((w.length - k : Nat) : Int)) := by
 have := StrLaws.sliceText_neg_hi (S w) l (j := -(k : Int)) (by lia) (by rw [S_len]; lia)
 rw [S_len, show -(k : Int) + (w.length : Int) = ((w.length - k : Nat) : Int) by lia] at this
 exact this
theorem zMy (w : List Nat) (u : Option Int) {k : Nat} (h0 : 0 < k) (h : k ≤ w.length) : Txt.slice (S w) (some (-(k : Int))) u = Txt.slice (S w) (some ((w.length - k : Nat) : Int)) u := by
 have := StrLaws.sliceText_neg_lo (S w) u (i := -(k : Int)) (by lia) (by rw [S_len]; lia)
 rw [S_len, show -(k : Int) + (w.length : Int) = ((w.length - k : Nat) : Int) by lia] at this
 exact this
theorem zIA {st : PSt} (w : List Nat) {a k : Nat} (h0 : 0 < k) (hak : a + k ≤ w.length) (hx : w.length ≤ 1000) : zAH (.str (S w)) (.int (a : Int)) (.int (-(k : Int))) st = some (.str (S ((w.drop a).take (w.length - k - a))), st) := by
 have hx' : w.length ≤ zH := Nat.le_trans hx (by decide)
 simp only [zAH, zAq, zBE, zBF, S_len, hx', if_true, zMx w _ h0 (by lia), zEw w (a := a) (b := w.length - k) (by lia) (by lia)]
theorem zMz {st : PSt} (w : List Nat) {k : Nat} (h0 : 0 < k) (hk : k ≤ w.length) (hx : w.length ≤ 1000) : zAH (.str (S w)) (.int (-(k : Int))) .none st = some (.str (S (w.drop (w.length - k))), st) := by
 have hx' : w.length ≤ zH := Nat.le_trans hx (by decide)
 simp only [zAH, zAq, zBE, zBF, S_len, hx', if_true, zMy w _ h0 hk, zG4 w (a := w.length - k) (by lia)]
theorem zFS {w : List Nat} {c i : Nat} : [c] <+: w.drop i ↔ w[i]? = some c := by
 constructor
 ·rintro ⟨t, h⟩
  have : (w.drop i)[0]? = some c := by rw [← h]; rfl
  rw [List.getElem?_drop] at this
  exact this
 ·intro h
  have hl := (List.getElem?_eq_some_iff.mp h).1
  refine ⟨w.drop (i + 1), ?_⟩
  rw [List.drop_eq_getElem_cons hl, (List.getElem?_eq_some_iff.mp h).2]
  rfl
theorem zM0 {w : List Nat} {c k : Nat} (h : k < w.idxOf c) : w[k]? ≠ some c := fun e => by
 have hl := (List.getElem?_eq_some_iff.mp e).1
 have := List.not_of_lt_findIdx (p := (· == c)) (xs := w) h
 rw [(List.getElem?_eq_some_iff.mp e).2, beq_self_eq_true] at this
 cases this
theorem zIB {w : List Nat} {c : Nat} (h : c ∈ w) : Txt.find (S w) (S [c]) = (w.idxOf c : Nat) := by
 have hl := List.idxOf_lt_length_of_mem h
 refine zLn (by simp) (zFS.mpr ?_) fun k hk hp => zM0 hk (zFS.mp hp)
 rw [List.getElem?_eq_getElem hl, List.getElem_idxOf]
theorem zM1 {w : List Nat} {c : Nat} (h : c ∉ w) : Txt.find (S w) (S [c]) = -1 := by
 unfold Txt.find
 rcases StrLaws.occ_head (S w) (S [c]) 1 (Nat.le_refl _) with ⟨h1, h2⟩ | ⟨j, r, h1, h2, h3⟩
 ·rw [h1]
 ·rw [zBj (by simp)] at h2
  exact absurd (List.mem_of_getElem? (zFS.mp h2)) h
theorem zM2 {f g : PV → PV → PM PV} {l m r : PM PV} {st : PSt} {a b d : PV} {c e : Bool} (h1 : l st = some (a, st)) (h2 : m st = some (b, st)) (h3 : r st = some (d, st)) (h4 : f a b st = some (.bool c, st)) (h5 : g b d st = some (.bool e, st)) : zCT f g l m r st = some (c && e, st) := by
 unfold zCT PM.bind
 rw [h1]; dsimp only; rw [h2]; dsimp only; rw [h4]; dsimp only [zI]
 cases c with
 | true => rw [if_pos rfl, h3]; dsimp only; rw [h5]; rfl
 | false => rfl
theorem zIC {st : PSt} (b : Bool) : pIs (.bool b) (.bool true) st = some (.bool b, st) := by cases b <;> rfl
noncomputable def zAh (w : List Nat) (place o : Nat) : Bool := w.contains o && (decide (w.idxOf o < place) && balC ((w.drop (w.idxOf o + 1)).take (place - 1 - (w.idxOf o + 1))))
noncomputable def nearB : PM PF := (pSeq (zG 4 (pM1 (pVar 0) (pVar 3) pFind)) (pSeq (pIf (pAnd (zCT pLe pLt (PM.ret (.int 0)) (pVar 4) (pVar 1)) (pAnd ((pBin pIs (pApp 1 (pCons (pSl (pVar 0) (pBin pAdd (pVar 4) (PM.ret (.int 1))) (pBin pSub (pVar 1) (PM.ret (.int 1)))) pNil) zBX) (PM.ret (.bool true))).bind zI) (PM.ret true))) (pSeq (zG 2 (pBin pAdd (pVar 2) (pVar 3))) (PM.ret .next)) (PM.ret .next)) (PM.ret .next)))
noncomputable def neS (w : List Nat) (place : Nat) (near : List Nat) (o s : Option PV) : List (Option PV) := [some (.str (S w)), some (.int (place : Int)), some (.str (S near)), o, s]
theorem zM3 {w : List Nat} {place : Nat} (hw : zh w) (hl : w.length ≤ 100) (h40 : w[place - 1]? = some 40) (hp : 1 ≤ place) (near : List Nat) (hn : near.length ≤ 20) {o : Nat} (ho : 97 ≤ o) (s : Option PV) (H : List (Bool × PO)) :
  ∃ s', nearB ⟨neS w place near (some (.str (S [o]))) s, H⟩ = some (.next, ⟨neS w place (if zAh w place o then near ++ [o] else near) (some (.str (S [o]))) s', H⟩) := by
 have hb : ∀ k, k ≤ 1000 → k ≤ zH := fun k h => Nat.le_trans h (by decide)
 unfold zAh
 by_cases hm : o ∈ w
 ·have hi := List.idxOf_lt_length_of_mem hm
  have hwi : w[w.idxOf o]? = some o := by rw [List.getElem?_eq_getElem hi, List.getElem_idxOf]
  refine ⟨some (.int ((w.idxOf o : Nat) : Int)), ?_⟩
  have s0 : (zG 4 (pM1 (pVar 0) (pVar 3) pFind)) ⟨neS w place near (some (.str (S [o]))) s, H⟩ = some (.next, ⟨neS w place near (some (.str (S [o]))) (some (.int ((w.idxOf o : Nat) : Int))), H⟩) := by
   have ef : pFind (S w) (.str (S [o])) ⟨neS w place near (some (.str (S [o]))) s, H⟩ = some (.int ((w.idxOf o : Nat) : Int), ⟨neS w place near (some (.str (S [o]))) s, H⟩) := by
    show some (PV.int (Txt.find (S w) (S [o])), _) = _
    rw [zIB hm]
   exact zM (zBJ rfl rfl ef)
  have c0 := zM2 (f := pLe) (g := pLt) (l := PM.ret (.int 0)) (m := pVar 4) (r := pVar 1) (st := ⟨neS w place near (some (.str (S [o]))) (some (.int ((w.idxOf o : Nat) : Int))), H⟩) rfl rfl rfl (zMF 0 (w.idxOf o)) (zCK (w.idxOf o) place)
  rw [List.contains_iff_mem.mpr hm, Bool.true_and]
  rw [decide_eq_true (Nat.zero_le _), Bool.true_and] at c0
  refine zD s0 ?_
  by_cases hlt : w.idxOf o < place
  ·have h2 : w.idxOf o + 1 ≤ place - 1 := by
    have : w.idxOf o ≠ place - 1 := fun q => by rw [q, h40] at hwi; cases hwi; lia
    lia
   have hpl : place - 1 < w.length := (List.getElem?_eq_some_iff.mp h40).1
   have es : zAH (.str (S w)) (.int ((w.idxOf o + 1 : Nat) : Int)) (.int ((place - 1 : Nat) : Int)) ⟨neS w place near (some (.str (S [o]))) (some (.int ((w.idxOf o : Nat) : Int))), H⟩ = _ := zHH w (w.idxOf o + 1) (place - 1) h2 (by lia) (hb _ (by lia))
   have ec := zH9 ⟨neS w place near (some (.str (S [o]))) (some (.int ((w.idxOf o : Nat) : Int))), H⟩ ((hw.drop (w.idxOf o + 1)).take (place - 1 - (w.idxOf o + 1))) (by rw [List.length_take, List.length_drop]; lia)
   rw [decide_eq_true hlt, Bool.true_and]
   rw [decide_eq_true hlt] at c0
   have t1 : ((pBin pIs (pApp 1 (pCons (pSl (pVar 0) (pBin pAdd (pVar 4) (PM.ret (.int 1))) (pBin pSub (pVar 1) (PM.ret (.int 1)))) pNil) zBX) (PM.ret (.bool true))).bind zI) ⟨neS w place near (some (.str (S [o]))) (some (.int ((w.idxOf o : Nat) : Int))), H⟩ = some (balC ((w.drop (w.idxOf o + 1)).take (place - 1 - (w.idxOf o + 1))), ⟨neS w place near (some (.str (S [o]))) (some (.int ((w.idxOf o : Nat) : Int))), H⟩) :=
    zQ (zE (app1c (zAS rfl (zE rfl rfl (zAw _ 1)) (zE rfl rfl (zBK place 1 hp)) es) ec) rfl (zIC _))
   cases hbal : balC ((w.drop (w.idxOf o + 1)).take (place - 1 - (w.idxOf o + 1))) with
   | true =>
    rw [hbal] at t1
    rw [if_pos rfl]
    exact zD (zP (zBA c0 (zBA t1 rfl)) (zD (zM (zE rfl rfl (zBn near [o] (hb _ (by simp; lia))))) rfl)) rfl
   | false =>
    rw [hbal] at t1
    rw [if_neg (fun h => nomatch h)]
    exact zD (zP (zBA c0 (zBA t1 rfl)) rfl) rfl
  ·rw [decide_eq_false hlt, Bool.false_and, if_neg (fun h => nomatch h)]
   rw [decide_eq_false hlt] at c0
   exact zD (zP (zBA c0 rfl) rfl) rfl
 ·refine ⟨some (.int (-1)), ?_⟩
  have s0 : (zG 4 (pM1 (pVar 0) (pVar 3) pFind)) ⟨neS w place near (some (.str (S [o]))) s, H⟩ = some (.next, ⟨neS w place near (some (.str (S [o]))) (some (.int (-1))), H⟩) := by
   have ef : pFind (S w) (.str (S [o])) ⟨neS w place near (some (.str (S [o]))) s, H⟩ = some (.int (-1), ⟨neS w place near (some (.str (S [o]))) s, H⟩) := by
    show some (PV.int (Txt.find (S w) (S [o])), _) = _
    rw [zM1 hm]
   exact zM (zBJ rfl rfl ef)
  have hc : w.contains o = false := by
   cases h : w.contains o with
   | false => rfl
   | true => exact absurd (List.contains_iff_mem.mp h) hm
  rw [hc, Bool.false_and, if_neg (fun h => nomatch h)]
  exact zD s0 (zD (zP (zBA (b := false) rfl rfl) rfl) rfl)
theorem zID {w : List Nat} {place : Nat} (hw : zh w) (hl : w.length ≤ 100) (h40 : w[place - 1]? = some 40) (hp : 1 ≤ place) {H : List (Bool × PO)} : ∀ (os near : List Nat) (o s : Option PV), (∀ x ∈ os, 97 ≤ x) → near.length + os.length ≤ 15 →
  ∃ o' s', pFor (pSet 3) nearB (os.map fun c => .str (S [c])) ⟨neS w place near o s, H⟩ = some (.next, ⟨neS w place (near ++ os.filter (zAh w place)) o' s', H⟩)
 | [], near, o, s, _, _ => ⟨o, s, by rw [List.filter_nil, List.append_nil]; rfl⟩
 | x :: os, near, o, s, h, hn => by
  rw [List.length_cons] at hn
  obtain ⟨s1, e1⟩ := zM3 hw hl h40 hp near (by lia) (h x (.head _)) s H
  obtain ⟨o', s', e2⟩ := zID hw hl h40 hp (H := H) os (if zAh w place x then near ++ [x] else near) (some (.str (S [x]))) s1 (fun y hy => h y (.tail _ hy)) (by
   have : (if zAh w place x then near ++ [x] else near).length ≤ near.length + 1 := by split <;> simp
   lia)
  refine ⟨o', s', zA7 rfl e1 (e2.trans ?_)⟩
  rw [List.filter_cons]
  cases zAh w place x <;> simp
theorem zM4 (st : PSt) {w : List Nat} {place : Nat} (hw : zh w) (hl : w.length ≤ 100) (h40 : w[place - 1]? = some 40) (hp : 1 ≤ place) : zCm [.str (S w), .int (place : Int)] st = some (.str (S (abc.filter (zAh w place))), st) := by
 obtain ⟨o', s', e⟩ := zID hw hl h40 hp (H := frz st.hp) abc [] none none (by decide) (by decide)
 rw [List.nil_append] at e
 refine zAM (s' := ⟨neS w place (abc.filter (zAh w place)) o' s', frz st.hp⟩) ?_ rfl
 unfold zEt
 rw [L_nil, L_abc]
 exact zD (zM (vs := zX 5 [.str (S w), .int (place : Int)]) rfl) (zD (zDr (zDq rfl) e) (zZ (zx rfl)))
noncomputable def cuE0 : PM PF :=
 (pIf ((pBin pEq (pVar 5) (pBin pItem (pVar 0) (PM.ret (.int 1)))).bind zI) (pSeq (zG 6 (pApp 1 (pCons (pSl (pVar 0) (PM.ret (.int 3)) (pNeg (PM.ret (.int 2)))) pNil) zBX)) (PM.ret .next)) (pSeq (zG 6 (pApp 2 (pCons (pBin pAdd (pBin pAdd (PM.ret (.str "...(")) (pVar 5)) (PM.ret (.str ")..."))) (pCons (pVar 0) pNil)) zDf)) (PM.ret .next)))
noncomputable def cuE1 : PM PF :=
 (pIf ((pBin pIs (pVar 6) (PM.ret (.bool true))).bind zI) (pSeq (zG 4 (pBin pAdd (pVar 4) (pVar 5))) (PM.ret .next)) (pSeq (pIf ((pBin zBy (pVar 6) (PM.ret (.bool false))).bind zI) (pSeq (zO (pList pNil)) (PM.ret .next)) (PM.ret .next)) (PM.ret .next)))
noncomputable def cuE : PM PF := (pSeq cuE0 (pSeq cuE1 (PM.ret .next)))
noncomputable def cu0 : PM PF :=
 (pIf ((pBin pNe (pApp1 (pVar 0) pLen) (pBin pMul (PM.ret (.int 3)) (pBin pSub (pVar 1) (pVar 3)))).bind zI) (pSeq (zO (pList pNil)) (PM.ret .next)) (PM.ret .next))
noncomputable def cu1 : PM PF :=
 (zG 4 (PM.ret (.str "")))
noncomputable def cu2 : PM PF :=
 (pForE (pSrc (pSl (PM.ret (.str "abcdef")) (PM.ret .none) (pVar 1))) (pSet 5) cuE)
noncomputable def cu3 : PM PF :=
 (pIf ((pBin pEq (pVar 4) (PM.ret (.str ""))).bind zI) (pSeq (zO (pList pNil)) (PM.ret .next)) (PM.ret .next))
noncomputable def cu4 : PM PF :=
 (zG 7 (pM1 (pVar 0) (pBin pItem (pVar 4) (PM.ret (.int 0))) pFind))
noncomputable def cuA0 : PM PF :=
 (pExpr (zg (pVar 2) (zU (pCons (pVar 4) (pCons (pBin pItem (pVar 0) (PM.ret (.int 3))) pNil)))))
noncomputable def cuA1 : PM PF :=
 (zG 0 (pApp 1 (pCons (pBin pAdd (pBin pAdd (pBin pAdd (pBin pAdd (pBin pAdd (pBin pAdd (PM.ret (.str "\"")) (pSl (pVar 0) (PM.ret .none) (PM.ret (.int 2)))) (PM.ret (.str "\""))) (pSl (pVar 0) (PM.ret (.int 2)) (pNeg (PM.ret (.int 1))))) (PM.ret (.str "\""))) (pSl (pVar 0) (pNeg (PM.ret (.int 1))) (PM.ret .none))) (PM.ret (.str "\""))) pNil) zBI))
noncomputable def cuC0 : PM PF :=
 (pExpr (zg (pVar 2) (zU (pCons (pVar 4) (pCons (pApp 2 (pCons (pVar 0) (pCons (pVar 7) pNil)) zCm) pNil)))))
noncomputable def cuC1 : PM PF :=
 (zG 0 (pApp 1 (pCons (pBin pAdd (pBin pAdd (pBin pAdd (pBin pAdd (pSl (pVar 0) (PM.ret .none) (pBin pSub (pVar 7) (PM.ret (.int 1)))) (PM.ret (.str "\""))) (pSl (pVar 0) (pBin pSub (pVar 7) (PM.ret (.int 1))) (pBin pAdd (pVar 7) (PM.ret (.int 2))))) (PM.ret (.str "\""))) (pSl (pVar 0) (pBin pAdd (pVar 7) (PM.ret (.int 2))) (PM.ret .none))) pNil) zBI))
noncomputable def cu5 : PM PF := (pIf ((pBin pEq (pVar 7) (PM.ret (.int 1))).bind zI) (pSeq cuA0 (pSeq cuA1 (PM.ret .next))) (pSeq cuC0 (pSeq cuC1 (PM.ret .next))))
noncomputable def cuB : PM PF := (pSeq cu0 (pSeq cu1 (pSeq cu2 (pSeq cu3 (pSeq cu4 (pSeq cu5 (PM.ret .next)))))))
theorem zM5 : zDl = (pSeq (zG 2 (pList pNil)) (pSeq (pForE (zAY (pBin pSub (pVar 1) (PM.ret (.int 2)))) (pSet 3) cuB) (pSeq (pExpr (zg (pVar 2) (pVar 0))) (pSeq (zO (pVar 2)) (PM.ret .next))))) := rfl
noncomputable def cuV (w : List Nat) (n T : Nat) (k e l a p : Option PV) : List (Option PV) := [some (.str (S w)), some (.int (n : Int)), some (.ref T), k, e, l, a, p]
noncomputable def za (w : List Nat) (c : Nat) : Bool := if c = w.getD 1 0 then balC ((w.drop 3).take (w.length - 2 - 3)) else ell w 0 [[], [40, c, 41], []]
theorem L_d1 : ("...(" : Str) = S [46, 46, 46, 40] := by decide +kernel
theorem L_d2 : (")..." : Str) = S [41, 46, 46, 46] := by decide +kernel
theorem zM6 {st : PSt} (b : Bool) : zBy (.bool b) (.bool false) st = some (.bool b, st) := by cases b <;> rfl
theorem zM7 {st : PSt} (a : Int) : pNe (.int a) (.int a) st = some (.bool false, st) := by
 show some (PV.bool (!(a == a)), st) = _
 rw [beq_self_eq_true]
 rfl
theorem eq_ch {st : PSt} (a b : Nat) : pEq (.str (S [a])) (.str (S [b])) st = some (.bool (a == b), st) := by
 refine (zAy _ _).trans ?_
 rw [S_beq, show ([a] == [b]) = (a == b) by by_cases h : a = b <;> simp [h]]
theorem zM8 {w : List Nat} (hw : zh w) (h9 : 9 ≤ w.length) (hl : w.length ≤ 100) {n T : Nat} (es : List Nat) (he : es.length ≤ 20) {c : Nat} (hc : 97 ≤ c) (k a p : Option PV) (H : List (Bool × PO)) :
  cuE ⟨cuV w n T k (some (.str (S es))) (some (.str (S [c]))) a p, H⟩ = some (.next, ⟨cuV w n T k (some (.str (S (if za w c then es ++ [c] else es)))) (some (.str (S [c]))) (some (.bool (za w c))) p, H⟩) := by
 have hw1 : w[1]? = some (w.getD 1 0) := by rw [List.getD_eq_getElem?_getD, List.getElem?_eq_getElem (Nat.lt_of_lt_of_le (by decide) h9)]; rfl
 have t0 : ((pBin pEq (pVar 5) (pBin pItem (pVar 0) (PM.ret (.int 1)))).bind zI) ⟨cuV w n T k (some (.str (S es))) (some (.str (S [c]))) a p, H⟩ = some (c == w.getD 1 0, ⟨cuV w n T k (some (.str (S es))) (some (.str (S [c]))) a p, H⟩) :=
  zQ (zE rfl (zE rfl rfl (zBl (k := 1) hw1 (by decide))) (eq_ch _ _))
 have s0 : cuE0 ⟨cuV w n T k (some (.str (S es))) (some (.str (S [c]))) a p, H⟩ = some (.next, ⟨cuV w n T k (some (.str (S es))) (some (.str (S [c]))) (some (.bool (za w c))) p, H⟩) := by
  refine zP t0 ?_
  unfold za
  by_cases h : c = w.getD 1 0
  ·rw [if_pos h, beq_iff_eq.mpr h, if_pos rfl]
   have es1 := zIA (st := ⟨cuV w n T k (some (.str (S es))) (some (.str (S [c]))) a p, H⟩) w (a := 3) (k := 2) (by decide) (Nat.le_trans (by decide) h9) (Nat.le_trans hl (by decide))
   have ec := zH9 ⟨cuV w n T k (some (.str (S es))) (some (.str (S [c]))) a p, H⟩ ((hw.drop 3).take (w.length - 2 - 3)) (Nat.le_trans (List.length_take_le' _ _) (by rw [List.length_drop]; exact Nat.le_trans (Nat.sub_le _ _) (Nat.le_trans hl (by decide))))
   exact zD (zM (app1c (zAS rfl rfl (zBL 2) es1) ec)) rfl
  ·rw [if_neg h, beq_eq_false_iff_ne.mpr h, if_neg (fun h => nomatch h)]
   have e3 : [46, 46, 46, 40] ++ [c] ++ [41, 46, 46, 46] = List.intercalate dots ([] :: ([[40, c, 41]] ++ [[]])) := rfl
   have el := r_ell ⟨cuV w n T k (some (.str (S es))) (some (.str (S [c]))) a p, H⟩ (ps := [[40, c, 41]]) w (fun q hq => by rw [List.mem_singleton.mp hq]; simp; lia) (by rw [← e3]; simp) (Nat.le_trans hl (by decide))
   rw [← e3] at el
   rw [L_d1, L_d2]
   have hb : ∀ k, k ≤ 1000 → k ≤ zH := fun k h => Nat.le_trans h (by decide)
   exact zD (zM (app2c (zE (zE rfl rfl (zBn _ _ (hb _ (by simp)))) rfl (zBn _ _ (hb _ (by simp)))) rfl el)) rfl
 refine zD s0 ?_
 have t1 : ((pBin pIs (pVar 6) (PM.ret (.bool true))).bind zI) ⟨cuV w n T k (some (.str (S es))) (some (.str (S [c]))) (some (.bool (za w c))) p, H⟩ = some (za w c, ⟨cuV w n T k (some (.str (S es))) (some (.str (S [c]))) (some (.bool (za w c))) p, H⟩) := zQ (zE rfl rfl (zIC _))
 have t2 : ((pBin zBy (pVar 6) (PM.ret (.bool false))).bind zI) ⟨cuV w n T k (some (.str (S es))) (some (.str (S [c]))) (some (.bool (za w c))) p, H⟩ = some (za w c, ⟨cuV w n T k (some (.str (S es))) (some (.str (S [c]))) (some (.bool (za w c))) p, H⟩) := zQ (zE rfl rfl (zM6 _))
 have s1 : cuE1 ⟨cuV w n T k (some (.str (S es))) (some (.str (S [c]))) (some (.bool (za w c))) p, H⟩ = some (.next, ⟨cuV w n T k (some (.str (S (if za w c then es ++ [c] else es)))) (some (.str (S [c]))) (some (.bool (za w c))) p, H⟩) := by
  refine zP t1 ?_
  cases h : za w c with
  | true =>
   rw [if_pos rfl, if_pos rfl]
   exact zD (zM (zE rfl rfl (zBn es [c] (Nat.le_trans (Nat.add_le_add_right he 1) (by decide))))) rfl
  | false =>
   rw [if_neg (fun h => nomatch h), if_neg (fun h => nomatch h)]
   rw [h] at t2
   exact zD (zP t2 rfl) rfl
 exact zD s1 rfl
theorem zIE {w : List Nat} (hw : zh w) (h9 : 9 ≤ w.length) (hl : w.length ≤ 100) {n T : Nat} {k p : Option PV} {H : List (Bool × PO)} : ∀ (cs es : List Nat) (l a : Option PV), (∀ c ∈ cs, 97 ≤ c) → es.length + cs.length ≤ 15 →
  ∃ l' a', pFor (pSet 5) cuE (cs.map fun c => .str (S [c])) ⟨cuV w n T k (some (.str (S es))) l a p, H⟩ = some (.next, ⟨cuV w n T k (some (.str (S (es ++ cs.filter (za w))))) l' a' p, H⟩)
 | [], es, l, a, _, _ => ⟨l, a, by rw [List.filter_nil, List.append_nil]; rfl⟩
 | c :: cs, es, l, a, h, hn => by
  rw [List.length_cons] at hn
  have e1 := zM8 hw h9 hl (n := n) (T := T) es (by lia) (h c (.head _)) k a p H
  obtain ⟨l', a', e2⟩ := zIE hw h9 hl (n := n) (T := T) (k := k) (p := p) (H := H) cs (if za w c then es ++ [c] else es) (some (.str (S [c]))) (some (.bool (za w c))) (fun y hy => h y (.tail _ hy)) (by
   have : (if za w c then es ++ [c] else es).length ≤ es.length + 1 := by split <;> simp
   lia)
  refine ⟨l', a', zA7 rfl e1 (e2.trans ?_)⟩
  rw [List.filter_cons]
  cases za w c <;> simp
structure zFT (n m : Nat) (w es near w' : List Nat) : Prop where
 plain : zh w
 len : w.length = 3 * m
 m3 : 3 ≤ m
 m6 : m ≤ 6
 ends : (lt (List.range n)).filter (za w) = es
 cut : ∃ c t, es = c :: t ∧ c ∈ w ∧ ((w.idxOf c = 1 ∧ near = [w.getD 3 0] ∧ w' = (w.drop 2).take (w.length - 1 - 2)) ∨
  (w.idxOf c ≠ 1 ∧ 1 ≤ w.idxOf c ∧ w[w.idxOf c - 1]? = some 40 ∧ w.idxOf c + 2 ≤ w.length ∧ near = abc.filter (zAh w (w.idxOf c)) ∧ w' = w.take (w.idxOf c - 1) ++ w.drop (w.idxOf c + 2)))
noncomputable def cutV (D : List (List Nat × List Nat)) : List (PV × PV) := D.map fun d => (.str (S d.1), .str (S d.2))
structure Adds (m : PM PV) (st : PSt) (l : List Nat) (k : Nat) : Prop where
 run : m st = some (.str (S l), st)
 len : l.length ≤ k
theorem Adds.add {m m' : PM PV} {st : PSt} {a b : List Nat} {j k : Nat} (x : Adds m st a j) (y : Adds m' st b k) (h : j + k ≤ 1000) : Adds (pBin pAdd m m') st (a ++ b) (j + k) :=
 ⟨zE x.run y.run (zBn a b (Nat.le_trans (Nat.add_le_add x.len y.len) (Nat.le_trans h (by decide)))), by rw [List.length_append]; exact Nat.add_le_add x.len y.len⟩
theorem Adds.q {st : PSt} : Adds (PM.ret (.str (S [34]))) st [34] 1 := ⟨rfl, Nat.le_refl _⟩
theorem zD3 {w : List Nat} (h : w.length ≤ 18) (k : Nat) : (w.take k).length ≤ 18 := Nat.le_trans (List.length_take_le' _ _) h
theorem zD4 {w : List Nat} (h : w.length ≤ 18) (k : Nat) : (w.drop k).length ≤ 18 := by rw [List.length_drop]; exact Nat.le_trans (Nat.sub_le _ _) h
theorem le18 {a b c : Nat} (h1 : a ≤ 18) (h2 : b ≤ 18) (h3 : c ≤ 18) : a + b + c ≤ 1000 := Nat.le_trans (Nat.add_le_add (Nat.add_le_add h1 h2) h3) (by decide)
theorem zM9 {n T : Nat} {w : List Nat} (hw : zh w) (h9 : 9 ≤ w.length) (l18 : w.length ≤ 18) (k e l a p : Option PV) (H : List (Bool × PO)) :
  cuA1 ⟨cuV w n T k e l a p, H⟩ = some (.next, ⟨cuV ((w.drop 2).take (w.length - 1 - 2)) n T k e l a p, H⟩) := by
 have l1 : w.length ≤ 1000 := Nat.le_trans l18 (by decide)
 have h3 : 3 ≤ w.length := Nat.le_trans (by decide) h9
 unfold cuA1
 rw [zCH]
 have q1 : Adds (pSl (pVar 0) (PM.ret .none) (PM.ret (.int 2))) ⟨cuV w n T k e l a p, H⟩ (w.take 2) 18 := ⟨zAS rfl rfl rfl (zDp w 2 (Nat.le_trans (by decide) h9) (Nat.le_trans l18 (by decide))), zD3 l18 2⟩
 have q2 : Adds (pSl (pVar 0) (PM.ret (.int 2)) (pNeg (PM.ret (.int 1)))) ⟨cuV w n T k e l a p, H⟩ ((w.drop 2).take (w.length - 1 - 2)) 18 := ⟨zAS rfl rfl (zBL 1) (zIA w (a := 2) (k := 1) (by decide) h3 l1), zD3 (zD4 l18 2) _⟩
 have q3 : Adds (pSl (pVar 0) (pNeg (PM.ret (.int 1))) (PM.ret .none)) ⟨cuV w n T k e l a p, H⟩ (w.drop (w.length - 1)) 18 := ⟨zAS rfl (zBL 1) rfl (zMz w (k := 1) (by decide) (Nat.le_trans (by decide) h9) l1), zD4 l18 _⟩
 exact zM (app1c ((((((Adds.q.add q1 (by decide)).add Adds.q (by decide)).add q2 (by decide)).add Adds.q (by decide)).add q3 (by decide)).add Adds.q (by decide)).run (zMw _ ((hw.drop 2).take _) (hw.take 2) (hw.drop _) (le18 q2.len q1.len q3.len)))
theorem zNA {n T i : Nat} {w : List Nat} (hw : zh w) (l18 : w.length ≤ 18) (h2 : 1 ≤ i) (h3 : i + 2 ≤ w.length) (k e l a : Option PV) (H : List (Bool × PO)) :
  cuC1 ⟨cuV w n T k e l a (some (.int (i : Int))), H⟩ = some (.next, ⟨cuV (w.take (i - 1) ++ w.drop (i + 2)) n T k e l a (some (.int (i : Int))), H⟩) := by
 have l1 : w.length ≤ zH := Nat.le_trans l18 (by decide)
 have hi : i - 1 ≤ i + 2 := Nat.le_trans (Nat.sub_le i 1) (Nat.le_add_right i 2)
 unfold cuC1
 rw [zCH]
 have q1 : Adds (pSl (pVar 0) (PM.ret .none) (pBin pSub (pVar 7) (PM.ret (.int 1)))) ⟨cuV w n T k e l a (some (.int (i : Int))), H⟩ (w.take (i - 1)) 18 := ⟨zAS rfl rfl (zE rfl rfl (zBK i 1 h2)) (zDp w (i - 1) (Nat.le_trans hi h3) l1), zD3 l18 _⟩
 have q2 : Adds (pSl (pVar 0) (pBin pSub (pVar 7) (PM.ret (.int 1))) (pBin pAdd (pVar 7) (PM.ret (.int 2)))) ⟨cuV w n T k e l a (some (.int (i : Int))), H⟩ ((w.drop (i - 1)).take (i + 2 - (i - 1))) 18 := ⟨zAS rfl (zE rfl rfl (zBK i 1 h2)) (zE rfl rfl (zAw i 2)) (zHH w (i - 1) (i + 2) hi h3 l1), zD3 (zD4 l18 _) _⟩
 have q3 : Adds (pSl (pVar 0) (pBin pAdd (pVar 7) (PM.ret (.int 2))) (PM.ret .none)) ⟨cuV w n T k e l a (some (.int (i : Int))), H⟩ (w.drop (i + 2)) 18 := ⟨zAS rfl (zE rfl rfl (zAw i 2)) rfl (zHG w (i + 2) h3 l1), zD4 l18 _⟩
 exact zM (app1c ((((q1.add Adds.q (by decide)).add q2 (by decide)).add Adds.q (by decide)).add q3 (by decide)).run (zMv _ (hw.take _) ((hw.drop _).take _) (hw.drop _) (le18 q1.len q2.len q3.len)))
inductive ToldR (n T i : Nat) (w es near : List Nat) (k l a : Option PV) (H : List (Bool × PO)) (xs : List PV) (D : List (List Nat × List Nat)) (me : PM PV) : Prop
 | mk (H' : List (Bool × PO)) (xs' : List PV) (h1 : pExpr (zg (pVar 2) (zU (pCons (pVar 4) (pCons me pNil)))) ⟨cuV w n T k (some (.str (S es))) l a (some (.int (i : Int))), H⟩ = some (.next, ⟨cuV w n T k (some (.str (S es))) l a (some (.int (i : Int))), H'⟩)) (h2 : ∀ j, j ≠ T → ∀ f o, H[j]? = some (f, o) → H'[j]? = some (f, o)) (h3 : H'[T]? = some (false, .list xs')) (h4 : xs'.length = xs.length + 1) (h5 : zV H' xs' = some (cutV (D ++ [(es, near)]))) : ToldR n T i w es near k l a H xs D me
theorem zIF {n T i : Nat} {w es near : List Nat} {k l a : Option PV} {H : List (Bool × PO)} {xs : List PV} {D : List (List Nat × List Nat)} (hT : H[T]? = some (false, .list xs)) (hD : zV H xs = some (cutV D)) (hx : xs.length ≤ 20) {me : PM PV}
  (hme : me ⟨cuV w n T k (some (.str (S es))) l a (some (.int (i : Int))), H⟩ = some (.str (S near), ⟨cuV w n T k (some (.str (S es))) l a (some (.int (i : Int))), H⟩)) :
  ToldR n T i w es near k l a H xs D me := by
 have et := zAv (zAT (st := ⟨cuV w n T k (some (.str (S es))) l a (some (.int (i : Int))), H⟩) (m := pVar 4) (v := .str (S es)) rfl (zAT hme zAg)) (show 2 ≤ zH by decide)
 have up : ∀ j f o, H[j]? = some (f, o) → (H ++ [((false : Bool), PO.tuple [.str (S es), .str (S near)])])[j]? = some (f, o) := fun j f o h => by rw [List.getElem?_append_left (List.getElem?_eq_some_iff.mp h).1]; exact h
 have hT2 := up _ _ _ hT
 refine ⟨_, xs ++ [.ref H.length], zA9 (v := .none) (zC1 rfl hT et hT2 (Nat.le_trans hx (by decide))) rfl, fun j hj f o h => ?_, List.getElem?_set_self (List.getElem?_eq_some_iff.mp hT2).1, List.length_append, ?_⟩
 ·rw [List.getElem?_set_ne (fun q => hj q.symm)]; exact up _ _ _ h
 ·rw [zC5 (zC4 (ExtT.set hT2) (zC3 (zT H _))) (zAP ((Ext.app H _).t.trans (ExtT.set hT2)) hD)]
  unfold cutV
  rw [List.map_append]
  rfl
theorem zNB {n : Nat} (hn : n ≤ 6) : abc.take n = lt (List.range n) := by
 have h : ((List.range 7).all fun n => abc.take n == lt (List.range n)) = true := by decide
 exact eq_of_beq (List.all_eq_true.mp h n (List.mem_range.mpr (Nat.lt_succ_of_le hn)))
theorem lt_97 {l : List Nat} : ∀ x ∈ lt l, 97 ≤ x := fun x hx => by
 obtain ⟨y, _, rfl⟩ := List.mem_map.mp hx
 exact Nat.le_add_right 97 y
inductive CutR (n T k : Nat) (w es near w' : List Nat) (e l a p : Option PV) (H : List (Bool × PO)) (xs : List PV) (D : List (List Nat × List Nat)) : Prop
 | mk (e' l' a' p' : Option PV) (H' : List (Bool × PO)) (xs' : List PV) (h1 : cuB ⟨cuV w n T (some (.int (k : Int))) e l a p, H⟩ = some (.next, ⟨cuV w' n T (some (.int (k : Int))) e' l' a' p', H'⟩)) (h2 : ∀ j, j ≠ T → ∀ f o, H[j]? = some (f, o) → H'[j]? = some (f, o)) (h3 : H'[T]? = some (false, .list xs')) (h4 : xs'.length = xs.length + 1) (h5 : zV H' xs' = some (cutV (D ++ [(es, near)]))) : CutR n T k w es near w' e l a p H xs D
theorem zNC {n m k T : Nat} {w es near w' : List Nat} (K : zFT n m w es near w') (hn : n ≤ 6) (hk : k + m = n) {H : List (Bool × PO)} {xs : List PV} {D : List (List Nat × List Nat)} (hT : H[T]? = some (false, .list xs)) (hD : zV H xs = some (cutV D)) (hx : xs.length ≤ 20) (e l a p : Option PV) :
  CutR n T k w es near w' e l a p H xs D := by
 have h9 : 9 ≤ w.length := by rw [K.len]; exact Nat.mul_le_mul_left 3 K.m3
 have l18 : w.length ≤ 18 := by rw [K.len]; exact Nat.mul_le_mul_left 3 K.m6
 have l100 : w.length ≤ 100 := Nat.le_trans l18 (by decide)
 obtain ⟨c, t, hes, hcw, hcase⟩ := K.cut
 have s0 : cu0 ⟨cuV w n T (some (.int (k : Int))) e l a p, H⟩ = some (.next, ⟨cuV w n T (some (.int (k : Int))) e l a p, H⟩) := by
  have e1 : pLen (.str (S w)) ⟨cuV w n T (some (.int (k : Int))) e l a p, H⟩ = some (.int ((3 * (n - k) : Nat) : Int), ⟨cuV w n T (some (.int (k : Int))) e l a p, H⟩) := by
   rw [zFB (Nat.le_trans l18 (by decide)), K.len, Nat.sub_eq_of_eq_add' hk.symm]
  exact zP (c := false) (zQ (zE (zAD rfl e1) (zE rfl (zE rfl rfl (zBK n k (hk ▸ Nat.le_add_right k m))) (zFD 3 (n - k) (by decide))) (zM7 _))) rfl
 have s1 : cu1 ⟨cuV w n T (some (.int (k : Int))) e l a p, H⟩ = some (.next, ⟨cuV w n T (some (.int (k : Int))) (some (.str (S []))) l a p, H⟩) := by
  unfold cu1
  rw [L_nil]
  exact zM (m := PM.ret (.str (S []))) (vs := cuV w n T (some (.int (k : Int))) e l a p) (hp := H) rfl
 obtain ⟨l', a', e2⟩ := zIE K.plain h9 l100 (n := n) (T := T) (k := some (.int (k : Int))) (p := p) (H := H) (lt (List.range n)) [] l a lt_97 (by rw [zC6, List.length_range]; exact Nat.le_trans (Nat.add_le_add_left hn 0) (by decide))
 rw [List.nil_append, K.ends] at e2
 have s2 : cu2 ⟨cuV w n T (some (.int (k : Int))) (some (.str (S []))) l a p, H⟩ = some (.next, ⟨cuV w n T (some (.int (k : Int))) (some (.str (S es))) l' a' p, H⟩) := by
  unfold cu2
  rw [L_abc]
  have ess := zDp (st := ⟨cuV w n T (some (.int (k : Int))) (some (.str (S []))) l a p, H⟩) abc n hn (show 6 ≤ zH by decide)
  rw [zNB hn] at ess
  exact zDr (zDq (zAS rfl rfl rfl ess)) e2
 have s3 : cu3 ⟨cuV w n T (some (.int (k : Int))) (some (.str (S es))) l' a' p, H⟩ = some (.next, ⟨cuV w n T (some (.int (k : Int))) (some (.str (S es))) l' a' p, H⟩) := by
  unfold cu3
  rw [L_nil]
  refine zP (c := false) (zQ (zE rfl rfl ((zAy _ _).trans ?_))) rfl
  rw [S_beq, hes]
  rfl
 have s4 : cu4 ⟨cuV w n T (some (.int (k : Int))) (some (.str (S es))) l' a' p, H⟩ = some (.next, ⟨cuV w n T (some (.int (k : Int))) (some (.str (S es))) l' a' (some (.int ((w.idxOf c : Nat) : Int))), H⟩) := by
  have ef : pFind (S w) (.str (S [c])) ⟨cuV w n T (some (.int (k : Int))) (some (.str (S es))) l' a' p, H⟩ = some (.int ((w.idxOf c : Nat) : Int), ⟨cuV w n T (some (.int (k : Int))) (some (.str (S es))) l' a' p, H⟩) := by
   show some (PV.int (Txt.find (S w) (S [c])), _) = _
   rw [zIB hcw]
  exact zM (zBJ rfl (zE rfl rfl (zBl (k := 0) (by rw [hes]; rfl) (by decide))) ef)
 generalize w.idxOf c = i at s4 hcase
 have t5 : ((pBin pEq (pVar 7) (PM.ret (.int 1))).bind zI) ⟨cuV w n T (some (.int (k : Int))) (some (.str (S es))) l' a' (some (.int (i : Int))), H⟩ = some (i == 1, ⟨cuV w n T (some (.int (k : Int))) (some (.str (S es))) l' a' (some (.int (i : Int))), H⟩) := zQ (zE rfl rfl (zCt _ 1))
 have pre : ∀ {R}, cu5 ⟨cuV w n T (some (.int (k : Int))) (some (.str (S es))) l' a' (some (.int (i : Int))), H⟩ = some (.next, R) → cuB ⟨cuV w n T (some (.int (k : Int))) e l a p, H⟩ = some (.next, R) := fun s5 => zD s0 (zD s1 (zD s2 (zD s3 (zD s4 (zD s5 rfl)))))
 rcases hcase with ⟨h1, hnear, hw'⟩ | ⟨h1, h2, h40, h3, hnear, hw'⟩
 ·obtain ⟨H', xs', s5, r2, r3, r4, r5⟩ := zIF (near := near) (n := n) (i := i) (w := w) (es := es) (k := some (.int (k : Int))) (l := l') (a := a') hT hD hx (me := pBin pItem (pVar 0) (PM.ret (.int 3))) (by
   rw [hnear]
   exact zE rfl rfl (zBl (k := 3) (by rw [List.getD_eq_getElem?_getD, List.getElem?_eq_getElem (Nat.lt_of_lt_of_le (by decide) h9)]; rfl) (by decide)))
  refine ⟨some (.str (S es)), l', a', some (.int (i : Int)), H', xs', pre (zP t5 ?_), r2, r3, r4, r5⟩
  rw [beq_iff_eq.mpr h1, if_pos rfl, hw']
  exact zD s5 (zD (zM9 K.plain h9 l18 _ _ _ _ _ H') rfl)
 ·obtain ⟨H', xs', s5, r2, r3, r4, r5⟩ := zIF (near := near) (n := n) (i := i) (w := w) (es := es) (k := some (.int (k : Int))) (l := l') (a := a') hT hD hx (me := pApp 2 (pCons (pVar 0) (pCons (pVar 7) pNil)) zCm) (by
   rw [hnear]
   exact app2c rfl rfl (zM4 _ K.plain l100 h40 h2))
  refine ⟨some (.str (S es)), l', a', some (.int (i : Int)), H', xs', pre (zP t5 ?_), r2, r3, r4, r5⟩
  rw [beq_eq_false_iff_ne.mpr h1, if_neg (fun h => nomatch h), hw']
  exact zD s5 (zD (zNA K.plain l18 h2 h3 _ _ _ _ H') rfl)
inductive zCQ (n : Nat) : Nat → List Nat → List (List Nat × List Nat) → List Nat → Prop
 | done {w : List Nat} : zCQ n 0 w [] w
 | step {j : Nat} {w es near w' : List Nat} {D : List (List Nat × List Nat)} {f : List Nat} : zFT n (j + 3) w es near w' → zCQ n j w' D f → zCQ n (j + 1) w ((es, near) :: D) f
inductive CutsR (n T j k : Nat) (w : List Nat) (D : List (List Nat × List Nat)) (f : List Nat) (H : List (Bool × PO)) (D0 : List (List Nat × List Nat)) (k0 e l a p : Option PV) : Prop
 | mk (k' e' l' a' p' : Option PV) (H' : List (Bool × PO)) (xs' : List PV) (h1 : pFor (pSet 3) cuB ((List.range' k j).map fun (k : Nat) => .int (k : Int)) ⟨cuV w n T k0 e l a p, H⟩ = some (.next, ⟨cuV f n T k' e' l' a' p', H'⟩)) (h2 : ∀ j, j ≠ T → ∀ f o, H[j]? = some (f, o) → H'[j]? = some (f, o)) (h3 : H'[T]? = some (false, .list xs')) (h4 : xs'.length ≤ 15) (h5 : zV H' xs' = some (cutV (D0 ++ D))) : CutsR n T j k w D f H D0 k0 e l a p
theorem zND {n T : Nat} (hn : n ≤ 6) (hn2 : 2 ≤ n) {j : Nat} {w : List Nat} {D : List (List Nat × List Nat)} {f : List Nat} (R : zCQ n j w D f) : ∀ (k : Nat) (H : List (Bool × PO)) (xs : List PV) (D0 : List (List Nat × List Nat)) (k0 e l a p : Option PV), k + j + 2 = n → H[T]? = some (false, .list xs) → zV H xs = some (cutV D0) → xs.length + j ≤ 15 →
  CutsR n T j k w D f H D0 k0 e l a p := by
 induction R with
 | done =>
  intro k H xs D0 k0 e l a p hk hT hD hx
  exact ⟨k0, e, l, a, p, H, xs, rfl, fun _ _ _ _ h => h, hT, by lia, by rw [List.append_nil]; exact hD⟩
 | @step j w es near w' D f K R ih =>
  intro k H xs D0 k0 e l a p hk hT hD hx
  obtain ⟨e1, l1, a1, p1, H1, xs1, s1, x1, t1, n1, q1⟩ := zNC K hn (by lia : k + (j + 3) = n) hT hD (by lia) e l a p
  obtain ⟨k', e', l', a', p', H', xs', s2, x2, t2, n2, q2⟩ := ih (k + 1) H1 xs1 (D0 ++ [(es, near)]) (some (.int (k : Int))) e1 l1 a1 p1 (by lia) t1 q1 (by lia)
  refine ⟨k', e', l', a', p', H', xs', ?_, fun j hj f o h => x2 j hj _ _ (x1 j hj _ _ h), t2, n2, by rw [q2, List.append_assoc]; rfl⟩
  rw [List.range'_succ, List.map_cons]
  exact zA7 rfl s1 s2
theorem r_cut {vs : List (Option PV)} {H : List (Bool × PO)} {n : Nat} {w : List Nat} {D : List (List Nat × List Nat)} {f : List Nat} (hn : n ≤ 6) (hn2 : 2 ≤ n) (R : zCQ n (n - 2) w D f) :
  ∃ T H', zCC [.str (S w), .int (n : Int)] ⟨vs, H⟩ = some (.ref T, ⟨vs, H'⟩) ∧ Ext H H' ∧ ∃ fl xs, H'[T]? = some (fl, .list (xs ++ [.str (S f)])) ∧ xs.length ≤ 15 ∧ zV H' xs = some (cutV D) := by
 have e1 : (zG 2 (pList pNil)) ⟨zX 8 [.str (S w), .int (n : Int)], H⟩ = some (.next, ⟨cuV w n H.length none none none none none, H ++ [(false, .list [])]⟩) := zM (vs := zX 8 [.str (S w), .int (n : Int)]) (zBm zAg (Nat.zero_le _))
 generalize hH2 : H ++ [((false : Bool), PO.list [])] = H2 at e1
 have x2 : ∀ j f o, H[j]? = some (f, o) → H2[j]? = some (f, o) := fun j f o h => by rw [← hH2, List.getElem?_append_left (List.getElem?_eq_some_iff.mp h).1]; exact h
 have gT : H2[H.length]? = some (false, .list []) := by rw [← hH2]; exact zT _ _
 obtain ⟨k', e', l', a', p', H', xs', s2, x3, t3, n3, q3⟩ := zND (T := H.length) hn hn2 R 0 H2 [] [] none none none none none (by lia) gT rfl (by simp; lia)
 have hr : zAY (pBin pSub (pVar 1) (PM.ret (.int 2))) ⟨cuV w n H.length none none none none none, H2⟩ = some ((((List.range' 0 (n - 2)).map fun (k : Nat) => PV.int (k : Int)), []), ⟨cuV w n H.length none none none none none, H2⟩) := by
  have := zDz (m := pBin pSub (pVar 1) (PM.ret (.int 2))) (st := ⟨cuV w n H.length none none none none none, H2⟩) (zE rfl rfl (zBK n 2 (by lia))) (by lia)
  rw [this, List.range_eq_range']
 have s2' := zCJ (set := pSet 3) (b := cuB) hr s2
 have xr := Ext.restore (o := H2) (Ext.refl H')
 have t4 : (restore H2 H')[H.length]? = some (false, .list xs') := by rw [zB6, t3, gT]; rfl
 have p4 := zAP xr.t q3
 have x4 : Ext H (restore H2 H') := fun j f o h => xr _ _ _ (x3 j (by have := (List.getElem?_eq_some_iff.mp h).1; lia) _ _ (x2 _ _ _ h))
 generalize restore H2 H' = H4 at s2' t4 p4 x4
 have s5 : (pExpr (zg (pVar 2) (pVar 0))) ⟨cuV f n H.length k' e' l' a' p', H4⟩ = some (.next, ⟨cuV f n H.length k' e' l' a' p', H4.set H.length (false, .list (xs' ++ [.str (S f)]))⟩) :=
  zA9 (v := .none) (zDw rfl rfl t4 (Nat.le_trans (show xs'.length ≤ 1000 by lia) (by decide))) rfl
 have eb : zDl ⟨zX 8 [.str (S w), .int (n : Int)], H⟩ = some (.ret (.ref H.length), ⟨cuV f n H.length k' e' l' a' p', H4.set H.length (false, .list (xs' ++ [.str (S f)]))⟩) := by
  rw [zM5]
  exact zD e1 (zD s2' (zD s5 (zZ (zx rfl))))
 have ec : zCC [.str (S w), .int (n : Int)] ⟨vs, H⟩ = some (.ref H.length, ⟨vs, H4.set H.length (false, .list (xs' ++ [.str (S f)]))⟩) := by
  unfold zCC
  exact zFK (st := ⟨vs, H⟩) eb
 refine ⟨H.length, _, ec, fun j g o h => ?_, false, xs', List.getElem?_set_self (List.getElem?_eq_some_iff.mp t4).1, n3, ?_⟩
 ·obtain ⟨g', h'⟩ := x4 _ _ _ h
  exact ⟨g', by rw [List.getElem?_set_ne (by have := (List.getElem?_eq_some_iff.mp h).1; lia)]; exact h'⟩
 ·rw [List.nil_append] at p4
  exact zAP (ExtT.set t4) p4
noncomputable def run : Nat → List Nat → Option Nat
 | d, [] => some d
 | d, c :: r => if c = 40 then run (d + 1) r else if c = 41 then (if d = 0 then none else run (d - 1) r) else run d r
theorem zAi : ∀ (a b : List Nat) (d : Nat), run d (a ++ b) = (run d a).bind fun e => run e b
 | [], b, d => rfl
 | c :: a, b, d => by
  show (if c = 40 then run (d + 1) (a ++ b) else if c = 41 then (if d = 0 then none else run (d - 1) (a ++ b)) else run d (a ++ b)) = (if c = 40 then run (d + 1) a else if c = 41 then (if d = 0 then none else run (d - 1) a) else run d a).bind _
  by_cases h : c = 40
  ·rw [if_pos h, if_pos h, zAi a b]
  ·rw [if_neg h, if_neg h]
   by_cases h2 : c = 41
   ·rw [if_pos h2, if_pos h2]
    by_cases h3 : d = 0
    ·rw [if_pos h3, if_pos h3]; rfl
    ·rw [if_neg h3, if_neg h3, zAi a b]
   ·rw [if_neg h2, if_neg h2, zAi a b]
theorem zD5 : ∀ (w : List Nat) (d : Nat), bal (d : Int) (w.map tokC) = (run d w == some 0)
 | [], d => by
  show ((d : Int) == 0) = (some d == some 0)
  by_cases h : d = 0
  ·subst h; rfl
  ·rw [beq_eq_false_iff_ne.mpr (by lia : (d : Int) ≠ 0), beq_eq_false_iff_ne.mpr (by simpa using h)]
 | c :: w, d => by
  rw [List.map_cons]
  unfold tokC run
  by_cases h : c = 40
  ·rw [if_pos h, if_pos h]
   exact zD5 w (d + 1)
  ·rw [if_neg h, if_neg h]
   by_cases h2 : c = 41
   ·rw [if_pos h2, if_pos h2]
    show (if (d : Int) - 1 < 0 then false else bal ((d : Int) - 1) (w.map tokC)) = _
    by_cases h3 : d = 0
    ·rw [if_pos (by lia), if_pos h3]; rfl
    ·rw [if_neg (by lia), if_neg h3, show (d : Int) - 1 = ((d - 1 : Nat) : Int) by lia]
     exact zD5 w (d - 1)
   ·rw [if_neg h2, if_neg h2]
    exact zD5 w d
theorem zIG (w : List Nat) : balC w = (run 0 w == some 0) := zD5 w 0
theorem zBo {o : Nat} (h : o ≠ 40 ∧ o ≠ 41) (d : Nat) (r : List Nat) : run d (o :: r) = run d r := by
 show (if o = 40 then _ else if o = 41 then _ else run d r) = _
 rw [if_neg h.1, if_neg h.2]
noncomputable def Lt (o : Nat) : Prop := o ≠ 40 ∧ o ≠ 41
structure GF (s : List Nat) : Prop where
 flat : ∀ d, run d s = some d
 hole : ∀ U o V, s = U ++ o :: V → Lt o → run 0 V = none
theorem GF.nil : GF [] := ⟨fun _ => rfl, fun U o V h => by cases U <;> cases h⟩
theorem GF.app {a b : List Nat} (x : GF a) (y : GF b) : GF (a ++ b) := by
 refine ⟨fun d => by rw [zAi, x.flat]; exact y.flat d, fun U o V h ho => ?_⟩
 rcases List.append_eq_append_iff.mp h with ⟨as, h1, h2⟩ | ⟨bs, h1, h2⟩
 ·exact y.hole as o V h2 ho
 ·cases bs with
  | nil =>
   rw [List.nil_append] at h2
   exact y.hole [] o V h2.symm ho
  | cons c bs =>
   obtain ⟨e1, e2⟩ := List.cons.inj h2
   have e2 : V = bs ++ b := e2
   rw [← e1] at h1
   rw [e2, zAi, x.hole U o bs h1 ho]
   rfl
theorem GF.node {x : Nat} {ks : List Nat} (hx : Lt x) (h : GF ks) : GF ([40] ++ [x] ++ ks ++ [41]) := by
 have e : ∀ d, run d (ks ++ [41]) = run d [41] := fun d => by rw [zAi, h.flat]; rfl
 refine ⟨fun d => ?_, fun U o V hs ho => ?_⟩
 ·show run (d + 1) (x :: (ks ++ [41])) = _
  rw [zBo hx, e]
  rfl
 ·match U, hs with
  | [], hs => exact absurd (List.cons.inj hs).1.symm ho.1
  | [u], hs =>
   obtain ⟨_, hs⟩ := List.cons.inj hs
   obtain ⟨_, hs⟩ := List.cons.inj hs
   have hs : ks ++ [41] = V := hs
   rw [← hs, e]
   rfl
  | u :: v :: U, hs =>
   obtain ⟨_, hs⟩ := List.cons.inj hs
   obtain ⟨_, hs⟩ := List.cons.inj hs
   have hs : ks ++ [41] = U ++ o :: V := hs
   rcases List.append_eq_append_iff.mp hs with ⟨as, h1, h2⟩ | ⟨bs, h1, h2⟩
   ·cases as with
    | nil => exact absurd (List.cons.inj h2).1.symm ho.2
    | cons a as =>
     obtain ⟨_, h2⟩ := List.cons.inj h2
     cases as <;> cases h2
   ·cases bs with
    | nil => exact absurd (List.cons.inj h2).1 ho.2
    | cons c bs =>
     obtain ⟨e1, e2⟩ := List.cons.inj h2
     have e2 : V = bs ++ [41] := e2
     rw [← e1] at h1
     rw [e2, zAi, h.hole U o bs h1 ho]
     rfl
theorem lt97 (x : Nat) : Lt (97 + x) := ⟨by lia, by lia⟩
theorem zD6 {g : Nat → List Nat} : ∀ os : List Nat, (∀ o ∈ os, GF (g o)) → GF (os.flatMap g)
 | [], _ => GF.nil
 | o :: os, h => by
  rw [List.flatMap_cons]
  exact (h o (.head _)).app (zD6 os fun x hx => h x (.tail _ hx))
theorem zFU (E : List (Nat × Nat)) (t : Bool) : ∀ (k v : Nat) (b : Int), GF (txtF E t k v b)
 | 0, v, b => GF.nil
 | k + 1, v, b => GF.node (lt97 v) (zD6 _ fun o _ => zFU E t k o v)
theorem zD7 {a b : List Nat} {c : Nat} (h : c ∉ a) : (a ++ b).idxOf c = a.length + b.idxOf c := by
 rw [List.idxOf_append, if_neg h, Nat.add_comm]
theorem zNE {A0 Ts B : List Nat} {p l : Nat} (hT : GF Ts) (hc : ∀ o, Lt o → (A0 ++ [40] ++ [p] ++ Ts ++ [40] ++ [l] ++ [41] ++ B).count o ≤ 1) (hp : Lt p) (hl : Lt l) {o : Nat} (ho : Lt o) :
  zAh (A0 ++ [40] ++ [p] ++ Ts ++ [40] ++ [l] ++ [41] ++ B) ((A0 ++ [40] ++ [p] ++ Ts).length + 1) o = (o == p) := by
 generalize hw : A0 ++ [40] ++ [p] ++ Ts ++ [40] ++ [l] ++ [41] ++ B = w at hc
 generalize hA : A0 ++ [40] ++ [p] ++ Ts = A
 have hwA : w = A ++ ([40] ++ [l] ++ [41] ++ B) := by rw [← hw, ← hA]; simp
 unfold zAh
 by_cases hm : o ∈ A
 ·-- o stands in A
  obtain ⟨U, V, hUV⟩ := List.append_of_mem hm
  have hcA : A.count o ≤ 1 := by
   have := hc o ho
   rw [hwA, List.count_append] at this
   lia
  have hU : o ∉ U := fun h => by
   rw [hUV, List.count_append, List.count_cons_self] at hcA
   have := List.count_pos_iff.mpr h
   lia
  have hi : w.idxOf o = U.length := by
   rw [hwA, hUV, List.append_assoc, zD7 hU, List.cons_append, List.idxOf_cons_self]
   rfl
  have hAl : A.length = U.length + 1 + V.length := by rw [hUV]; simp; lia
  have hsl : (w.drop (U.length + 1)).take (A.length + 1 - 1 - (U.length + 1)) = V := by
   have h1 : w.drop (U.length + 1) = V ++ ([40] ++ [l] ++ [41] ++ B) := by
    rw [hwA, hUV, List.append_assoc, ← List.drop_drop, List.drop_left, List.cons_append]
    rfl
   rw [h1, show A.length + 1 - 1 - (U.length + 1) = V.length by lia, List.take_left]
  rw [List.contains_iff_mem.mpr (show o ∈ w from by rw [hwA]; exact List.mem_append_left _ hm), hi, hsl, decide_eq_true (by lia : U.length < A.length + 1), Bool.true_and, Bool.true_and, zIG]
  have key : run 0 V = some 0 ↔ o = p := by
   rw [← hA, List.append_assoc, List.append_assoc] at hUV
   rcases List.append_eq_append_iff.mp hUV with ⟨as, h1, h2⟩ | ⟨bs, h1, h2⟩
   ·-- behind A0
    match as, h2 with
    | [], h2 => exact absurd (List.cons.inj h2).1.symm ho.1
    | [a], h2 =>
     obtain ⟨_, h3⟩ := List.cons.inj h2
     obtain ⟨e1, h4⟩ := List.cons.inj h3
     have h4 : Ts = V := h4
     exact ⟨fun _ => e1.symm, fun _ => by rw [← h4]; exact hT.flat 0⟩
    | a :: b :: as, h2 =>
     obtain ⟨_, h3⟩ := List.cons.inj h2
     obtain ⟨e1, h4⟩ := List.cons.inj h3
     have h4 : Ts = as ++ o :: V := h4
     rw [hT.hole as o V h4 ho]
     refine ⟨fun h => (nomatch h), fun h => ?_⟩
     exfalso
     exact hU (by rw [h1, h, e1]; simp)
   ·cases bs with
    | nil =>
     rw [List.nil_append] at h2
     exact absurd (List.cons.inj h2).1 ho.1
    | cons c bs =>
     obtain ⟨e1, e2⟩ := List.cons.inj h2
     have e2 : V = bs ++ ([40] ++ ([p] ++ Ts)) := e2
     constructor
     ·intro h
      exfalso
      rw [e2, zAi] at h
      cases hb : run 0 bs with
      | none => rw [hb] at h; exact nomatch h
      | some d =>
       rw [hb] at h
       have h : run (d + 1) (p :: Ts) = some 0 := h
       rw [zBo hp, hT.flat] at h
       exact nomatch h
     ·intro hop
      exfalso
      have h3 : 0 < V.count o := List.count_pos_iff.mpr (by rw [e2, hop]; simp)
      rw [← hA, List.append_assoc, List.append_assoc, hUV, List.count_append, List.count_cons_self] at hcA
      lia
  by_cases h : o = p
  ·rw [key.mpr h, beq_iff_eq.mpr h]; rfl
  ·rw [beq_eq_false_iff_ne.mpr h]
   exact beq_eq_false_iff_ne.mpr fun q => h (key.mp q)
 ·-- o does not stand in A
  have hne : (o == p) = false := beq_eq_false_iff_ne.mpr fun q => hm (by rw [← hA, q]; simp)
  rw [hne]
  by_cases hw2 : o ∈ w
  ·have hi : A.length + 1 ≤ w.idxOf o := by
    rw [hwA, zD7 hm]
    have : ([40] ++ [l] ++ [41] ++ B).idxOf o ≠ 0 := fun q => by
     rw [show [40] ++ [l] ++ [41] ++ B = 40 :: ([l] ++ [41] ++ B) from rfl, List.idxOf_cons] at q
     rw [beq_eq_false_iff_ne.mpr (fun h => ho.1 h.symm)] at q
     simp at q
    lia
   rw [decide_eq_false (by lia), Bool.false_and, Bool.and_false]
  ·have : w.contains o = false := by
    cases h : w.contains o with
    | false => rfl
    | true => exact absurd (List.contains_iff_mem.mp h) hw2
   rw [this, Bool.false_and]
theorem zIH (x : Nat) : ∀ ys : List Nat, ys.Pairwise (· ≤ ·) → (insN x ys).Pairwise (· ≤ ·)
 | [], _ => List.pairwise_singleton _ _
 | y :: ys, h => by
  have h0 := List.pairwise_cons.mp h
  unfold insN
  by_cases q : x ≤ y
  ·rw [if_pos q]
   refine List.pairwise_cons.mpr ⟨fun z hz => ?_, h⟩
   rcases List.mem_cons.mp hz with rfl | hz
   ·exact q
   ·exact Nat.le_trans q (h0.1 z hz)
  ·rw [if_neg q]
   refine List.pairwise_cons.mpr ⟨fun z hz => ?_, zIH x ys h0.2⟩
   rcases (zFO x z ys).mp hz with rfl | hz
   ·lia
   ·exact h0.1 z hz
theorem zII : ∀ l : List Nat, (sortN l).Pairwise (· ≤ ·)
 | [] => List.Pairwise.nil
 | x :: l => zIH x _ (zII l)
theorem zIJ (l : Nat) : ∀ s : List Nat, ∃ X Y, s = X ++ Y ∧ insN l s = X ++ l :: Y
 | [] => ⟨[], [], rfl, rfl⟩
 | y :: s => by
  unfold insN
  by_cases h : l ≤ y
  ·rw [if_pos h]; exact ⟨[], y :: s, rfl, rfl⟩
  ·rw [if_neg h]
   obtain ⟨X, Y, h1, h2⟩ := zIJ l s
   exact ⟨y :: X, Y, by rw [h1]; rfl, by rw [h2]; rfl⟩
theorem zIK (x l : Nat) (Y : List Nat) : ∀ X : List Nat, (X ++ l :: Y).Pairwise (· ≤ ·) → ∃ X' Y', insN x (X ++ Y) = X' ++ Y' ∧ insN x (X ++ l :: Y) = X' ++ l :: Y'
 | [], h => by
  have h0 := List.pairwise_cons.mp h
  show ∃ X' Y', insN x Y = X' ++ Y' ∧ (if x ≤ l then x :: l :: Y else l :: insN x Y) = X' ++ l :: Y'
  by_cases q : x ≤ l
  ·rw [if_pos q]
   refine ⟨[x], Y, ?_, rfl⟩
   cases Y with
   | nil => rfl
   | cons y Y =>
    show (if x ≤ y then x :: y :: Y else y :: insN x Y) = _
    rw [if_pos (Nat.le_trans q (h0.1 y (.head _)))]
    rfl
  ·rw [if_neg q]; exact ⟨[], insN x Y, rfl, rfl⟩
 | y :: X, h => by
  have h0 := List.pairwise_cons.mp h
  show ∃ X' Y', (if x ≤ y then x :: y :: (X ++ Y) else y :: insN x (X ++ Y)) = X' ++ Y' ∧ (if x ≤ y then x :: y :: (X ++ l :: Y) else y :: insN x (X ++ l :: Y)) = X' ++ l :: Y'
  by_cases q : x ≤ y
  ·rw [if_pos q, if_pos q]; exact ⟨x :: y :: X, Y, rfl, rfl⟩
  ·rw [if_neg q, if_neg q]
   obtain ⟨X', Y', h1, h2⟩ := zIK x l Y X h0.2
   exact ⟨y :: X', Y', by rw [h1]; rfl, by rw [h2]; rfl⟩
theorem zIL (l : Nat) (L2 : List Nat) : ∀ L1 : List Nat, ∃ X Y, sortN (L1 ++ L2) = X ++ Y ∧ sortN (L1 ++ l :: L2) = X ++ l :: Y
 | [] => zIJ l (sortN L2)
 | x :: L1 => by
  obtain ⟨X, Y, h1, h2⟩ := zIL l L2 L1
  have hs := zII (L1 ++ l :: L2)
  rw [h2] at hs
  obtain ⟨X', Y', h3, h4⟩ := zIK x l Y X hs
  refine ⟨X', Y', ?_, ?_⟩
  ·show insN x (sortN (L1 ++ L2)) = _
   rw [h1, h3]
  ·show insN x (sortN (L1 ++ l :: L2)) = _
   rw [h2, h4]
noncomputable def list0 (E : List (Nat × Nat)) (v : Nat) (b : Int) : List Nat := (E.filter fun e => e.1 == v && (e.2 : Int) != b).map (·.2) ++ (E.filter fun e => e.2 == v && (e.1 : Int) != b).map (·.1)
theorem zBO (E : List (Nat × Nat)) (t : Bool) (v : Nat) (b : Int) : nexts E t v b = if t then (sortN (list0 E v b)).reverse else sortN (list0 E v b) := rfl
structure Fresh (l p : Nat) (E : List (Nat × Nat)) : Prop where
 ne : l ≠ p
 out : ∀ e ∈ E, e.1 ≠ l ∧ e.2 ≠ l
section
variable {l p : Nat} {E : List (Nat × Nat)} {t : Bool}
theorem n1 (h : Fresh l p E) {v : Nat} {b : Int} (h1 : v ≠ p) (h2 : v ≠ l) : nexts ((l, p) :: E) t v b = nexts E t v b := by
 have : list0 ((l, p) :: E) v b = list0 E v b := by
  unfold list0
  rw [List.filter_cons, List.filter_cons, beq_eq_false_iff_ne.mpr (fun q : l = v => h2 q.symm), beq_eq_false_iff_ne.mpr (fun q : p = v => h1 q.symm)]
  rfl
 rw [zBO, zBO, this]
theorem n2 (h : Fresh l p E) {b : Int} (hb : (l : Int) ≠ b) : ∃ X Y, nexts E t p b = X ++ Y ∧ nexts ((l, p) :: E) t p b = X ++ l :: Y := by
 have e : list0 ((l, p) :: E) p b = (E.filter fun e => e.1 == p && (e.2 : Int) != b).map (·.2) ++ l :: (E.filter fun e => e.2 == p && (e.1 : Int) != b).map (·.1) := by
  unfold list0
  rw [List.filter_cons, List.filter_cons, beq_eq_false_iff_ne.mpr h.ne, beq_self_eq_true, bne_iff_ne.mpr hb]
  rfl
 obtain ⟨X, Y, h1, h2⟩ := zIL l ((E.filter fun e => e.2 == p && (e.1 : Int) != b).map (·.1)) ((E.filter fun e => e.1 == p && (e.2 : Int) != b).map (·.2))
 rw [zBO, zBO, e]
 cases t with
 | false => exact ⟨X, Y, h1, h2⟩
 | true =>
  refine ⟨Y.reverse, X.reverse, ?_, ?_⟩
  ·show (sortN (list0 E p b)).reverse = _
   rw [show sortN (list0 E p b) = X ++ Y from h1, List.reverse_append]
  ·show (sortN _).reverse = _
   rw [h2]
   simp
theorem n3 (h : Fresh l p E) : nexts ((l, p) :: E) t p (l : Int) = nexts E t p (-1) := by
 have : list0 ((l, p) :: E) p (l : Int) = list0 E p (-1) := by
  unfold list0
  rw [List.filter_cons, List.filter_cons, beq_eq_false_iff_ne.mpr h.ne, beq_self_eq_true, bne_self_eq_false]
  have f1 : ∀ e ∈ E, (e.1 == p && (e.2 : Int) != (l : Int)) = (e.1 == p && (e.2 : Int) != -1) := fun e he => by
   rw [bne_iff_ne.mpr (by have := (h.out e he).2; lia : (e.2 : Int) ≠ (l : Int)), bne_iff_ne.mpr (by lia : (e.2 : Int) ≠ -1)]
  have f2 : ∀ e ∈ E, (e.2 == p && (e.1 : Int) != (l : Int)) = (e.2 == p && (e.1 : Int) != -1) := fun e he => by
   rw [bne_iff_ne.mpr (by have := (h.out e he).1; lia : (e.1 : Int) ≠ (l : Int)), bne_iff_ne.mpr (by lia : (e.1 : Int) ≠ -1)]
  simp only [Bool.false_and, Bool.and_false, Bool.false_eq_true, if_false]
  rw [List.filter_congr f1, List.filter_congr f2]
 rw [zBO, zBO, this]
theorem zNF (h : Fresh l p E) (b : Int) : list0 E l b = [] := by
 unfold list0
 have f1 : E.filter (fun e => e.1 == l && (e.2 : Int) != b) = [] := List.filter_eq_nil_iff.mpr fun e he => by
  rw [beq_eq_false_iff_ne.mpr (h.out e he).1]; simp
 have f2 : E.filter (fun e => e.2 == l && (e.1 : Int) != b) = [] := List.filter_eq_nil_iff.mpr fun e he => by
  rw [beq_eq_false_iff_ne.mpr (h.out e he).2]; simp
 rw [f1, f2]
 rfl
theorem n45 (h : Fresh l p E) (b : Int) : nexts ((l, p) :: E) t l b = if (p : Int) = b then [] else [p] := by
 have h0 := zNF h b
 unfold list0 at h0
 have e1 := (List.append_eq_nil_iff.mp h0).1
 have e2 := (List.append_eq_nil_iff.mp h0).2
 have : list0 ((l, p) :: E) l b = if (p : Int) = b then [] else [p] := by
  unfold list0
  rw [List.filter_cons, List.filter_cons, beq_self_eq_true, beq_eq_false_iff_ne.mpr (fun q : p = l => h.ne q.symm)]
  by_cases hb : (p : Int) = b
  ·rw [if_pos hb, bne_eq_false_iff_eq.mpr hb]
   simp only [Bool.and_false, Bool.false_and, Bool.false_eq_true, if_false]
   rw [e1, e2]; rfl
  ·rw [if_neg hb, bne_iff_ne.mpr hb]
   simp only [Bool.and_true, Bool.false_and, Bool.false_eq_true, if_false, if_true, List.map_cons]
   rw [e1, e2]; rfl
 rw [zBO, this]
 by_cases hb : (p : Int) = b
 ·rw [if_pos hb]; cases t <;> rfl
 ·rw [if_neg hb]; cases t <;> rfl
theorem zNG {v o : Nat} {b : Int} (h : o ∈ nexts E t v b) : ∃ e ∈ E, e.1 = o ∨ e.2 = o := by
 rcases (zC9.mp h).1 with h | h
 ·exact ⟨_, h, .inr rfl⟩
 ·exact ⟨_, h, .inl rfl⟩
theorem zBp (h : Fresh l p E) {v o : Nat} {b : Int} (ho : o ∈ nexts E t v b) : o ≠ l := by
 obtain ⟨e, he, h1 | h1⟩ := zNG ho
 ·exact h1 ▸ (h.out e he).1
 ·exact h1 ▸ (h.out e he).2
theorem zz (E : List (Nat × Nat)) (t : Bool) (k v : Nat) (b : Int) : txtF E t (k + 1) v b = [40] ++ [97 + v] ++ (nexts E t v b).flatMap (fun o => txtF E t k o v) ++ [41] := rfl
theorem zBb {g g' : Nat → List Nat} : ∀ os : List Nat, (∀ o ∈ os, g o = g' o) → os.flatMap g = os.flatMap g'
 | [], _ => rfl
 | o :: os, h => by rw [List.flatMap_cons, List.flatMap_cons, h o (.head _), zBb os fun x hx => h x (.tail _ hx)]
theorem zDB (h : Fresh l p E) : ∀ (k v : Nat) (b : Int), 97 + p ∉ txtF E t k v b → v ≠ l → txtF ((l, p) :: E) t k v b = txtF E t k v b ∧ (okF E t k v b → okF ((l, p) :: E) t k v b)
 | 0, v, b, _, _ => ⟨rfl, fun h => h⟩
 | k + 1, v, b, hp, hv => by
  rw [zz] at hp
  have hvp : v ≠ p := fun q => hp (by rw [q]; simp)
  have hs : ∀ o ∈ nexts E t v b, 97 + p ∉ txtF E t k o v := fun o ho hm => hp (List.mem_append_left _ (List.mem_append_right _ (List.mem_flatMap.mpr ⟨o, ho, hm⟩)))
  have ih := fun o (ho : o ∈ nexts E t v b) => zDB h k o v (hs o ho) (zBp h ho)
  refine ⟨?_, fun hok => ?_⟩
  ·rw [zz, zz, n1 h hvp hv, zBb _ fun o ho => (ih o ho).1]
  ·show ∀ o ∈ nexts ((l, p) :: E) t v b, okF ((l, p) :: E) t k o v
   rw [n1 h hvp hv]
   exact fun o ho => (ih o ho).2 (hok o ho)
theorem zFV : ∀ (k v : Nat) (b : Int), okF E t k v b → txtF E t (k + 1) v b = txtF E t k v b ∧ okF E t (k + 1) v b
 | 0, v, b, h => h.elim
 | k + 1, v, b, h => by
  have ih := fun o (ho : o ∈ nexts E t v b) => zFV k o v (h o ho)
  refine ⟨?_, fun o ho => (ih o ho).2⟩
  rw [zz E t (k + 1), zz E t k, zBb _ fun o ho => (ih o ho).1]
theorem zIM {g : Nat → List Nat} {c : Nat} : ∀ os : List Nat, (os.flatMap g).count c = 1 → ∃ N1 o N2, os = N1 ++ o :: N2 ∧ (g o).count c = 1 ∧ (∀ x ∈ N1, c ∉ g x) ∧ ∀ x ∈ N2, c ∉ g x
 | [], h => by simp at h
 | x :: os, h => by
  rw [List.flatMap_cons, List.count_append] at h
  by_cases h0 : (g x).count c = 0
  ·have h5 : (os.flatMap g).count c = 1 := by lia
   obtain ⟨N1, o, N2, h1, h2, h3, h4⟩ := zIM os h5
   refine ⟨x :: N1, o, N2, by rw [h1]; rfl, h2, fun y hy => ?_, h4⟩
   rcases List.mem_cons.mp hy with rfl | hy
   ·exact List.count_eq_zero.mp h0
   ·exact h3 y hy
  ·have h2 : (os.flatMap g).count c = 0 := by lia
   have h3 : (g x).count c = 1 := by lia
   exact ⟨[], x, os, rfl, h3, fun y hy => (nomatch hy), fun y hy hm => List.count_eq_zero.mp h2 (List.mem_flatMap.mpr ⟨y, hy, hm⟩)⟩
theorem zIN {g : Nat → List Nat} {c : Nat} {os : List Nat} (h : (os.flatMap g).count c = 0) : ∀ x ∈ os, c ∉ g x := fun x hx hm => List.count_eq_zero.mp h (List.mem_flatMap.mpr ⟨x, hx, hm⟩)
theorem zIO (h : Fresh l p E) : ∀ (k v : Nat) (b : Int), (txtF E t k v b).count (97 + p) = 1 → v ≠ l → b ≠ (l : Int) → okF ((l, p) :: E) t k v b →
  ∃ A0 Ts B, txtF ((l, p) :: E) t k v b = A0 ++ [40] ++ [97 + p] ++ Ts ++ [40] ++ [97 + l] ++ [41] ++ B ∧ txtF E t k v b = A0 ++ [40] ++ [97 + p] ++ Ts ++ B ∧ GF Ts
 | 0, v, b, hc, _, _, _ => nomatch hc
 | k + 1, v, b, hc, hv, hb, hok => by
  rw [zz] at hc
  by_cases hvp : v = p
  ·subst hvp
   obtain ⟨X, Y, e1, e2⟩ := n2 (t := t) h (b := b) (fun q => hb q.symm)
   have hz : ((nexts E t v b).flatMap fun o => txtF E t k o v).count (97 + v) = 0 := by
    simp only [List.count_append, List.count_singleton] at hc
    simp at hc
    lia
   have hs := zIN hz
   have ih := fun o (ho : o ∈ nexts E t v b) => (zDB h k o v (hs o ho) (zBp h ho)).1
   have okl : okF ((l, v) :: E) t k l v := hok l (by rw [e2]; simp)
   have tl : txtF ((l, v) :: E) t k l v = [40] ++ [97 + l] ++ [41] := by
    cases k with
    | zero => exact okl.elim
    | succ k => rw [zz, n45 h, if_pos rfl]; rfl
   have ihX : X.flatMap (fun o => txtF ((l, v) :: E) t k o v) = X.flatMap fun o => txtF E t k o v := zBb _ fun o ho => ih o (by rw [e1]; exact List.mem_append_left _ ho)
   have ihY : Y.flatMap (fun o => txtF ((l, v) :: E) t k o v) = Y.flatMap fun o => txtF E t k o v := zBb _ fun o ho => ih o (by rw [e1]; exact List.mem_append_right _ ho)
   refine ⟨[], X.flatMap fun o => txtF E t k o v, (Y.flatMap fun o => txtF E t k o v) ++ [41], ?_, ?_, zD6 _ fun o _ => zFU E t k o v⟩
   ·rw [zz, e2, List.flatMap_append, List.flatMap_cons, ihX, ihY, tl]
    simp
   ·rw [zz, e1, List.flatMap_append]
    simp
  ·have hN := n1 (t := t) (b := b) h hvp hv
   have hz : ((nexts E t v b).flatMap fun o => txtF E t k o v).count (97 + p) = 1 := by
    simp only [List.count_append, List.count_singleton] at hc
    rw [beq_eq_false_iff_ne.mpr (by lia : (40 : Nat) ≠ 97 + p), beq_eq_false_iff_ne.mpr (by lia : (41 : Nat) ≠ 97 + p), beq_eq_false_iff_ne.mpr (by lia : 97 + v ≠ 97 + p)] at hc
    simp at hc
    simpa using hc
   obtain ⟨N1, o, N2, e1, c1, c2, c3⟩ := zIM _ hz
   have ho : o ∈ nexts E t v b := by rw [e1]; simp
   have i1 : N1.flatMap (fun o => txtF ((l, p) :: E) t k o v) = N1.flatMap fun o => txtF E t k o v := zBb _ fun x hx => (zDB h k x v (c2 x hx) (zBp h (by rw [e1]; exact List.mem_append_left _ hx))).1
   have i2 : N2.flatMap (fun o => txtF ((l, p) :: E) t k o v) = N2.flatMap fun o => txtF E t k o v := zBb _ fun x hx => (zDB h k x v (c3 x hx) (zBp h (by rw [e1]; exact List.mem_append_right _ (.tail _ hx)))).1
   obtain ⟨A0, Ts, B, f1, f2, f3⟩ := zIO h k o v c1 (zBp h ho) (by lia) (hok o (by rw [hN]; exact ho))
   refine ⟨[40] ++ [97 + v] ++ (N1.flatMap fun o => txtF E t k o v) ++ A0, Ts, B ++ (N2.flatMap fun o => txtF E t k o v) ++ [41], ?_, ?_, f3⟩
   ·rw [zz, hN, e1, List.flatMap_append, List.flatMap_cons, i1, i2, f1]
    simp
   ·rw [zz, e1, List.flatMap_append, List.flatMap_cons, f2]
    simp
theorem zNH (h : Fresh l p E) {k : Nat} (hc : (txtF E t k p (-1)).count (97 + p) ≤ 1) (hok : okF E t k p (-1)) : txtF ((l, p) :: E) t k p (l : Int) = txtF E t k p (-1) ∧ okF ((l, p) :: E) t k p (l : Int) := by
 cases k with
 | zero => exact hok.elim
 | succ k =>
  rw [zz] at hc
  have hz : ((nexts E t p (-1)).flatMap fun o => txtF E t k o p).count (97 + p) = 0 := by
   simp only [List.count_append, List.count_singleton] at hc
   simp at hc
   lia
  have hs := zIN hz
  have ih := fun o (ho : o ∈ nexts E t p (-1)) => zDB h k o p (hs o ho) (zBp h ho)
  refine ⟨?_, ?_⟩
  ·rw [zz, zz, n3 h, zBb _ fun o ho => (ih o ho).1]
  ·show ∀ o ∈ nexts ((l, p) :: E) t p (l : Int), okF ((l, p) :: E) t k o p
   rw [n3 h]
   exact fun o ho => (ih o ho).2 (hok o ho)
theorem zIP (h : Fresh l p E) : ∀ (k v : Nat) (b : Int), okF E t k v b → v ≠ l → okF ((l, p) :: E) t (k + 1) v b
 | 0, v, b, hok, _ => hok.elim
 | k + 1, v, b, hok, hv => by
  have hold : ∀ o ∈ nexts E t v b, okF ((l, p) :: E) t (k + 1) o v := fun o ho => zIP h k o v (hok o ho) (zBp h ho)
  show ∀ o ∈ nexts ((l, p) :: E) t v b, okF ((l, p) :: E) t (k + 1) o v
  intro o ho
  by_cases hol : o = l
  ·subst hol
   have := (zC9.mp ho).1
   have hvp : v = p := by
    rcases this with h1 | h1
    ·rcases List.mem_cons.mp h1 with q | q
     ·exact absurd (Prod.mk.inj q).1 hv
     ·exact absurd rfl (h.out _ q).2
    ·rcases List.mem_cons.mp h1 with q | q
     ·exact (Prod.mk.inj q).2
     ·exact absurd rfl (h.out _ q).1
   subst hvp
   show ∀ x ∈ nexts ((o, v) :: E) t o v, okF ((o, v) :: E) t k x o
   rw [n45 h, if_pos rfl]
   exact fun x hx => nomatch hx
  ·refine hold o ?_
   obtain ⟨h1, h2⟩ := zC9.mp ho
   refine zC9.mpr ⟨?_, h2⟩
   rcases h1 with h1 | h1
   ·rcases List.mem_cons.mp h1 with q | q
    ·exact absurd (Prod.mk.inj q).1 hv
    ·exact .inl q
   ·rcases List.mem_cons.mp h1 with q | q
    ·exact absurd (Prod.mk.inj q).1 hol
    ·exact .inr q
end
theorem zFW : ∀ (row rest : List Nat), RowOk rest row → ∀ e ∈ zl row rest, e.1 ∈ rest ∧ e.2 ∈ rest
 | [], rest, h, e, he => by
  obtain ⟨a, b, rfl⟩ : ∃ a b, rest = [a, b] := by
   have := h.len
   match rest, this with
   | [a, b], _ => exact ⟨a, b, rfl⟩
  rw [List.mem_singleton.mp (show e ∈ [(a, b)] from he)]
  exact ⟨.head _, .tail _ (.head _)⟩
 | p :: row, rest, h, e, he => by
  obtain ⟨l, r, hl⟩ := h.ends
  obtain ⟨m1, m2, m3⟩ := h.head hl
  rw [zD2, hl] at he
  rcases List.mem_cons.mp he with rfl | he
  ·exact ⟨m1, h.sub p (.head _)⟩
  ·have := zFW row _ (h.next hl) e he
   exact ⟨((zAO (zAU h.asc)).mp this.1).1, ((zAO (zAU h.asc)).mp this.2).1⟩
theorem zIQ {p : Nat} {row rest : List Nat} (h : RowOk rest (p :: row)) {l : Nat} {r : List Nat} (hl : zc rest (p :: row) = l :: r) : Fresh l p (zl row (dropL rest l)) := by
 obtain ⟨m1, m2, m3⟩ := h.head hl
 refine ⟨fun q => m2 (q ▸ .head _), fun e he => ?_⟩
 have := zFW row _ (h.next hl) e he
 exact ⟨((zAO (zAU h.asc)).mp this.1).2, ((zAO (zAU h.asc)).mp this.2).2⟩
theorem zNI {p : Nat} {row rest : List Nat} {l : Nat} {r : List Nat} (hl : zc rest (p :: row) = l :: r) : zl (p :: row) rest = (l, p) :: zl row (dropL rest l) := by
 rw [zD2, hl]
 rfl
noncomputable def W (row rest : List Nat) (t : Bool) (r : Nat) : List Nat := txtF (zl row rest) t (row.length + 2) r (-1)
structure WOk (row rest : List Nat) (t : Bool) (r : Nat) : Prop where
 ok : okF (zl row rest) t (row.length + 2) r (-1)
 one : ∀ c ∈ rest, (W row rest t r).count (97 + c) = 1
 out : ∀ c, c ∉ rest → (W row rest t r).count (97 + c) = 0
 len : (W row rest t r).length = 3 * rest.length
 sign : ∀ x ∈ W row rest t r, x = 40 ∨ x = 41 ∨ ∃ c ∈ rest, x = 97 + c
theorem zNJ {a b : Nat} {t : Bool} (h : a ≠ b) : nexts [(a, b)] t b (-1) = [a] := by
 have e : list0 [(a, b)] b (-1) = [a] := by
  unfold list0
  simp [h]
 rw [zBO, e]
 cases t <;> rfl
theorem zFX {a b : Nat} {t : Bool} (h : a ≠ b) : W [] [a, b] t a = [40, 97 + a, 40, 97 + b, 41, 41] ∧ W [] [a, b] t b = [40, 97 + b, 40, 97 + a, 41, 41] ∧ okF [(a, b)] t 2 a (-1) ∧ okF [(a, b)] t 2 b (-1) := by
 have hf : Fresh a b [] := ⟨h, fun e he => nomatch he⟩
 have e1 : nexts [(a, b)] t a (-1) = [b] := by rw [n45 hf, if_neg (by lia)]
 have e2 : nexts [(a, b)] t b (a : Int) = [] := by
  rw [n3 hf, zBO]
  cases t <;> rfl
 have e3 := zNJ (t := t) h
 have e4 : nexts [(a, b)] t a (b : Int) = [] := by rw [n45 hf, if_pos rfl]
 refine ⟨?_, ?_, ?_, ?_⟩
 ·show txtF [(a, b)] t 2 a (-1) = _
  rw [zz, e1]
  show [40] ++ [97 + a] ++ (txtF [(a, b)] t 1 b a ++ []) ++ [41] = _
  rw [zz, e2]
  rfl
 ·show txtF [(a, b)] t 2 b (-1) = _
  rw [zz, e3]
  show [40] ++ [97 + b] ++ (txtF [(a, b)] t 1 a b ++ []) ++ [41] = _
  rw [zz, e4]
  rfl
 ·show ∀ o ∈ nexts [(a, b)] t a (-1), ∀ x ∈ nexts [(a, b)] t o a, okF [(a, b)] t 0 x o
  rw [e1]
  intro o ho
  rw [List.mem_singleton.mp ho, e2]
  exact fun x hx => nomatch hx
 ·show ∀ o ∈ nexts [(a, b)] t b (-1), ∀ x ∈ nexts [(a, b)] t o b, okF [(a, b)] t 0 x o
  rw [e3]
  intro o ho
  rw [List.mem_singleton.mp ho, e4]
  exact fun x hx => nomatch hx
inductive zA0 (W W' : List Nat) (l p : Nat) : Prop
 | leaf (A0 Ts B : List Nat) (h1 : W = A0 ++ [40] ++ [97 + p] ++ Ts ++ [40] ++ [97 + l] ++ [41] ++ B) (h2 : W' = A0 ++ [40] ++ [97 + p] ++ Ts ++ B) (h3 : GF Ts) : zA0 W W' l p
 | root (K : List Nat) (h1 : W = [40] ++ [97 + l] ++ W' ++ [41]) (h2 : W' = [40] ++ [97 + p] ++ K) : zA0 W W' l p
theorem zFY {p : Nat} {row rest : List Nat} {t : Bool} (h : RowOk rest (p :: row)) {l : Nat} {q : List Nat} (hl : zc rest (p :: row) = l :: q) {r : Nat} (hr : r ∈ rest) (ih : ∀ r ∈ dropL rest l, WOk row (dropL rest l) t r) :
  (if r = l then p else r) ∈ dropL rest l ∧ okF (zl (p :: row) rest) t ((p :: row).length + 2) r (-1) ∧ zA0 (W (p :: row) rest t r) (W row (dropL rest l) t (if r = l then p else r)) l p := by
 have hF := zIQ h hl
 apply byC; intro kz; obtain ⟨m1, m2, m3⟩ := h.head hl; apply kz; clear kz
 have hnd := zAU h.asc
 have hp : p ∈ dropL rest l := (zAO hnd).mpr ⟨h.sub p (.head _), hF.ne.symm⟩
 have hE := zNI (row := row) hl
 by_cases hrl : r = l
 ·rw [if_pos hrl]
  have I := ih p hp
  apply byC; intro kz; obtain ⟨e1, e2⟩ := zNH hF (Nat.le_of_eq (I.one p hp)) I.ok; apply kz; clear kz
  have hn : nexts ((l, p) :: zl row (dropL rest l)) t l (-1) = [p] := by rw [n45 hF, if_neg (by lia)]
  refine ⟨hp, ?_, ?_⟩
  ·rw [hE, hrl]
   show ∀ o ∈ nexts ((l, p) :: zl row (dropL rest l)) t l (-1), okF _ t (row.length + 2) o l
   rw [hn]
   intro o ho
   rw [List.mem_singleton.mp ho]
   exact e2
  ·refine .root ((nexts (zl row (dropL rest l)) t p (-1)).flatMap (fun o => txtF (zl row (dropL rest l)) t (row.length + 1) o p) ++ [41]) ?_ (by simp [W, zz])
   show txtF (zl (p :: row) rest) t (row.length + 2 + 1) r (-1) = _
   rw [hE, hrl, zz, hn]
   show [40] ++ [97 + l] ++ (txtF ((l, p) :: zl row (dropL rest l)) t (row.length + 2) p l ++ []) ++ [41] = _
   rw [e1, List.append_nil]
   rfl
 ·rw [if_neg hrl]
  have hr' : r ∈ dropL rest l := (zAO hnd).mpr ⟨hr, hrl⟩
  have I := ih r hr'
  have ok1 : okF ((l, p) :: zl row (dropL rest l)) t (row.length + 2 + 1) r (-1) := zIP hF _ _ _ I.ok hrl
  have f1 := (zFV _ _ _ I.ok).1
  obtain ⟨A0, Ts, B, g1, g2, g3⟩ := zIO hF (row.length + 2 + 1) r (-1) (by rw [f1]; exact I.one p hp) hrl (by lia) ok1
  rw [f1] at g2
  refine ⟨hr', by rw [hE]; exact ok1, .leaf A0 Ts B ?_ g2 g3⟩
  show txtF (zl (p :: row) rest) t (row.length + 2 + 1) r (-1) = _
  rw [hE]
  exact g1
theorem zCR (x c : Nat) (h : x = 40 ∨ x = 41) : List.count (97 + c) [x] = 0 := by
 rw [List.count_singleton, beq_eq_false_iff_ne.mpr (by lia)]
 rfl
theorem zFZ (l c : Nat) : List.count (97 + c) [97 + l] = if c = l then 1 else 0 := by
 rw [List.count_singleton]
 by_cases h : c = l
 ·rw [h, if_pos rfl, beq_self_eq_true]; rfl
 ·rw [if_neg h, beq_eq_false_iff_ne.mpr (by lia)]; rfl
theorem zA0.count {W W' : List Nat} {l p : Nat} (h : zA0 W W' l p) (c : Nat) : W.count (97 + c) = W'.count (97 + c) + if c = l then 1 else 0 := by
 cases h with
 | leaf A0 Ts B h1 h2 h3 =>
  rw [h1, h2]
  simp only [List.count_append, zCR 40 c (.inl rfl), zCR 41 c (.inr rfl), zFZ]
  lia
 | root K h1 h2 =>
  rw [h1]
  simp only [List.count_append, zCR 40 c (.inl rfl), zCR 41 c (.inr rfl), zFZ]
  lia
theorem zA0.length {W W' : List Nat} {l p : Nat} (h : zA0 W W' l p) : W.length = W'.length + 3 := by
 cases h with
 | leaf A0 Ts B h1 h2 h3 =>
  rw [h1, h2]
  simp only [List.length_append, List.length_singleton]
  lia
 | root K h1 h2 =>
  rw [h1]
  simp only [List.length_append, List.length_singleton]
  lia
theorem zA0.mem {W W' : List Nat} {l p x : Nat} (h : zA0 W W' l p) (hx : x ∈ W) : x = 40 ∨ x = 41 ∨ x = 97 + l ∨ x ∈ W' := by
 cases h with
 | leaf A0 Ts B h1 h2 h3 =>
  rw [h1] at hx
  rw [h2]
  simp only [List.mem_append, List.mem_singleton] at hx ⊢
  rcases hx with ((((((hx | hx) | hx) | hx) | hx) | hx) | hx) | hx
  ·exact .inr (.inr (.inr (.inl (.inl (.inl (.inl hx))))))
  ·exact .inl hx
  ·exact .inr (.inr (.inr (.inl (.inl (.inr hx)))))
  ·exact .inr (.inr (.inr (.inl (.inr hx))))
  ·exact .inl hx
  ·exact .inr (.inr (.inl hx))
  ·exact .inr (.inl hx)
  ·exact .inr (.inr (.inr (.inr hx)))
 | root K h1 h2 =>
  rw [h1] at hx
  simp only [List.mem_append, List.mem_singleton] at hx
  rcases hx with ((hx | hx) | hx) | hx
  ·exact .inl hx
  ·exact .inr (.inr (.inl hx))
  ·exact .inr (.inr (.inr hx))
  ·exact .inr (.inl hx)
theorem w_ok (t : Bool) : ∀ (row rest : List Nat), RowOk rest row → ∀ r ∈ rest, WOk row rest t r
 | [], rest, h, r, hr => by
  obtain ⟨a, b, rfl⟩ : ∃ a b, rest = [a, b] := by
   have := h.len
   match rest, this with
   | [a, b], _ => exact ⟨a, b, rfl⟩
  have hab : a ≠ b := fun q => by
   have := zAU h.asc
   rw [q] at this
   simp at this
  obtain ⟨w1, w2, o1, o2⟩ := zFX (t := t) hab
  have cs : ∀ (x y : Nat), x ≠ y → ∀ c, List.count (97 + c) [40, 97 + x, 40, 97 + y, 41, 41] = if c = x ∨ c = y then 1 else 0 := fun x y hxy c => by
   show List.count (97 + c) ([40] ++ [97 + x] ++ [40] ++ [97 + y] ++ [41] ++ [41]) = _
   simp only [List.count_append, zCR 40 c (.inl rfl), zCR 41 c (.inr rfl), zFZ]
   by_cases h1 : c = x
   ·have : c ≠ y := fun q => hxy (h1 ▸ q)
    rw [if_pos h1, if_neg this, if_pos (.inl h1)]
   ·rw [if_neg h1]
    by_cases h2 : c = y
    ·rw [if_pos h2, if_pos (.inr h2)]
    ·rw [if_neg h2, if_neg (fun q => q.elim h1 h2)]
  have fin : ∀ (x y : Nat), x ≠ y → (∀ c, (c = x ∨ c = y) ↔ c ∈ [a, b]) → okF [(a, b)] t 2 x (-1) → W [] [a, b] t x = [40, 97 + x, 40, 97 + y, 41, 41] → WOk [] [a, b] t x := fun x y hxy hm ho hw => by
   refine ⟨ho, fun c hc => ?_, fun c hc => ?_, by rw [hw]; rfl, fun z hz => ?_⟩
   ·rw [hw, cs x y hxy, if_pos ((hm c).mpr hc)]
   ·rw [hw, cs x y hxy, if_neg fun q => hc ((hm c).mp q)]
   ·rw [hw] at hz
    simp only [List.mem_cons, List.not_mem_nil, or_false] at hz
    rcases hz with h | h | h | h | h | h
    ·exact .inl h
    ·exact .inr (.inr ⟨x, (hm x).mp (.inl rfl), h⟩)
    ·exact .inl h
    ·exact .inr (.inr ⟨y, (hm y).mp (.inr rfl), h⟩)
    ·exact .inr (.inl h)
    ·exact .inr (.inl h)
  rcases List.mem_cons.mp hr with rfl | hr
  ·exact fin r b hab (fun c => by simp) o1 w1
  ·obtain rfl := List.mem_singleton.mp hr
   exact fin r a (fun q => hab q.symm) (fun c => by simp [or_comm]) o2 w2
 | p :: row, rest, h, r, hr => by
  obtain ⟨l, q, hl⟩ := h.ends
  obtain ⟨m1, m2, m3⟩ := h.head hl
  have hnd := zAU h.asc
  have ih := w_ok t row _ (h.next hl)
  obtain ⟨hr', hok, hC⟩ := zFY (t := t) h hl hr ih
  have I := ih _ hr'
  refine ⟨hok, fun c hc => ?_, fun c hc => ?_, ?_, fun x hx => ?_⟩
  ·rw [hC.count c]
   by_cases hcl : c = l
   ·rw [if_pos hcl, I.out c fun hm => ((zAO hnd).mp hm).2 hcl]
   ·rw [if_neg hcl, I.one c ((zAO hnd).mpr ⟨hc, hcl⟩)]
  ·rw [hC.count c, if_neg (fun q : c = l => hc (q ▸ m1)), I.out c fun hm => hc ((zAO hnd).mp hm).1]
  ·rw [hC.length, I.len, zHo m1]
   have : 0 < rest.length := List.length_pos_of_mem m1
   lia
  ·rcases hC.mem hx with h | h | h | h
   ·exact .inl h
   ·exact .inr (.inl h)
   ·exact .inr (.inr ⟨l, m1, h⟩)
   ·rcases I.sign x h with h | h | ⟨c, hc, h⟩
    ·exact .inl h
    ·exact .inr (.inl h)
    ·exact .inr (.inr ⟨c, ((zAO hnd).mp hc).1, h⟩)
noncomputable def Lone (c : Nat) (w : List Nat) : Prop := ∃ U V, w = U ++ (40 :: c :: 41 :: V)
theorem zIR {w : List Nat} {p : Nat} (h : p ≤ w.length) : ffrom [] w p = some p := by
 unfold ffrom
 rw [Nat.sub_add_comm h, List.range'_succ, List.find?_cons, decide_eq_true (show p + ([] : List Nat).length ≤ w.length from h)]
 rfl
theorem zNK (w : List Nat) (c : Nat) : ell w 0 [[], [40, c, 41], []] = true ↔ Lone c w := by
 have e0 : ell w 0 [[], [40, c, 41], []] = (match ffrom [] w 0 with | none => false | some i => ell w (i + 0) [[40, c, 41], []]) := rfl
 rw [e0, zIR (Nat.zero_le _)]
 show (match ffrom [40, c, 41] w 0 with | none => false | some i => ell w (i + 3) [[]]) = true ↔ _
 cases hf : ffrom [40, c, 41] w 0 with
 | none =>
  refine ⟨fun h => (nomatch h), fun ⟨U, V, h⟩ => ?_⟩
  exfalso
  have hl : w.length = U.length + (V.length + 3) := by rw [h]; simp
  refine List.find?_eq_none.mp hf U.length (List.mem_range'_1.mpr (by lia)) ?_
  rw [Bool.and_eq_true, decide_eq_true_eq, List.isPrefixOf_iff_prefix]
  refine ⟨by rw [hl]; simp, V, ?_⟩
  rw [h, List.drop_left]
  rfl
 | some i =>
  obtain ⟨q1, q2, q3⟩ := zFC _ _ _ _ hf
  rw [Bool.and_eq_true, decide_eq_true_eq, List.isPrefixOf_iff_prefix] at q1
  obtain ⟨q1, t, ht⟩ := q1
  refine ⟨fun _ => ⟨w.take i, t, ?_⟩, fun _ => ?_⟩
  ·have := List.take_append_drop i w
   rw [← ht] at this
   exact this.symm
  ·show (match ffrom [] w (i + 3) with | none => false | some i => true) = true
   rw [zIR (show i + 3 ≤ w.length from q1)]
theorem zFa {X U : List Nat} {z y : Nat} (h : X ++ [z] = U ++ [y]) : z = y := by simpa using congrArg List.getLast? h
theorem zDC {X Y : List Nat} {z c : Nat} (h1 : z ≠ 40) (h2 : z ≠ c) : Lone c (X ++ [z] ++ Y) ↔ Lone c (X ++ [z]) ∨ Lone c Y := by
 constructor
 ·rintro ⟨U, V, h⟩
  rcases List.append_eq_append_iff.mp h with ⟨as, e1, e2⟩ | ⟨bs, e1, e2⟩
  ·exact .inr ⟨as, V, e2⟩
  ·match bs, e2 with
   | [], e2 => exact .inr ⟨[], V, e2.symm⟩
   | [a], e2 =>
    obtain ⟨ea, _⟩ := List.cons.inj e2
    rw [← ea] at e1
    exact absurd (zFa e1) h1
   | [a, b], e2 =>
    obtain ⟨_, e3⟩ := List.cons.inj e2
    obtain ⟨eb, _⟩ := List.cons.inj e3
    rw [← eb, show U ++ [a, c] = (U ++ [a]) ++ [c] by simp] at e1
    exact absurd (zFa e1) h2
   | a :: b :: d :: bs, e2 =>
    obtain ⟨ea, e3⟩ := List.cons.inj e2
    obtain ⟨eb, e4⟩ := List.cons.inj e3
    obtain ⟨ed, _⟩ := List.cons.inj e4
    rw [← ea, ← eb, ← ed] at e1
    exact .inl ⟨U, bs, e1⟩
 ·rintro (⟨U, V, h⟩ | ⟨U, V, h⟩)
  ·exact ⟨U, V ++ Y, by rw [h]; simp⟩
  ·exact ⟨X ++ [z] ++ U, V, by rw [h]; simp⟩
theorem zD8 : ∀ (s : List Nat) (d : Nat), run (d + 1) s = some 0 → run d s = none
 | [], d, h => by cases h
 | c :: s, d, h => by
  have h : (if c = 40 then run (d + 1 + 1) s else if c = 41 then (if d + 1 = 0 then none else run (d + 1 - 1) s) else run (d + 1) s) = some 0 := h
  show (if c = 40 then run (d + 1) s else if c = 41 then (if d = 0 then none else run (d - 1) s) else run d s) = none
  by_cases h1 : c = 40
  ·rw [if_pos h1] at h ⊢
   exact zD8 s (d + 1) h
  ·rw [if_neg h1] at h ⊢
   by_cases h2 : c = 41
   ·rw [if_pos h2] at h ⊢
    rw [if_neg (Nat.succ_ne_zero d)] at h
    cases d with
    | zero => rfl
    | succ d =>
     rw [if_neg (Nat.succ_ne_zero d)]
     exact zD8 s d h
   ·rw [if_neg h2] at h ⊢
    exact zD8 s d h
theorem zFb {s : List Nat} (h : GF s) : s = [] ∨ ∃ s', s = 40 :: s' ∧ ∀ X, run 0 (s' ++ X) = none := by
 cases s with
 | nil => exact .inl rfl
 | cons c s =>
  right
  by_cases h1 : c = 40
  ·refine ⟨s, by rw [h1], fun X => ?_⟩
   have := h.flat 0
   rw [h1] at this
   rw [zAi, zD8 s 0 this]
   rfl
  ·exfalso
   by_cases h2 : c = 41
   ·have := h.flat 0
    rw [h2] at this
    exact nomatch this
   ·have := h.flat 0
    rw [zBo ⟨h1, h2⟩, h.hole [] c s rfl ⟨h1, h2⟩] at this
    exact nomatch this
theorem zNL {s : List Nat} (h : GF s) : s = [] ∨ ∃ s', s = s' ++ [41] := by
 rcases List.eq_nil_or_concat s with rfl | ⟨s', z, rfl⟩
 ·exact .inl rfl
 ·right
  by_cases h2 : z = 41
  ·exact ⟨s', by rw [h2]; simp⟩
  ·exfalso
   by_cases h1 : z = 40
   ·have := h.flat 0
    rw [List.concat_eq_append, zAi, h1] at this
    cases hr : run 0 s' with
    | none => rw [hr] at this; exact nomatch this
    | some d => rw [hr] at this; exact nomatch this
   ·have := h.hole s' z [] (by simp) ⟨h1, h2⟩
    exact nomatch this
noncomputable def mid (w : List Nat) : List Nat := (w.drop 3).take (w.length - 2 - 3)
theorem zFc {Y M Z : List Nat} {x y : Nat} (h : 3 ≤ Y.length) : mid (Y ++ M ++ (Z ++ [x, y])) = Y.drop 3 ++ M ++ Z := by
 have e : (Y ++ M ++ (Z ++ [x, y])).drop 3 = (Y.drop 3 ++ M ++ Z) ++ [x, y] := by
  rw [List.append_assoc, List.drop_append_of_le_length h]
  simp
 unfold mid
 rw [e, List.take_left' (by simp; lia)]
theorem zDD {w : List Nat} {c : Nat} (h : c = w.getD 1 0) : za w c = true ↔ run 0 (mid w) = some 0 := by
 unfold za
 rw [if_pos h, zIG]
 exact beq_iff_eq
theorem zBq {w : List Nat} {c : Nat} (h : c ≠ w.getD 1 0) : za w c = true ↔ Lone c w := by
 unfold za
 rw [if_neg h]
 exact zNK w c
theorem uniq {U V U' V' : List Nat} {x : Nat} (h : U ++ x :: V = U' ++ x :: V') (hc : (U ++ x :: V).count x ≤ 1) : U = U' ∧ V = V' := by
 have key : ∀ {U V : List Nat}, (U ++ x :: V).count x ≤ 1 → (U ++ x :: V).idxOf x = U.length := fun {U V} hc => by
  have a1 : x ∉ U := fun q => by
   have := List.count_pos_iff.mpr q
   rw [List.count_append, List.count_cons_self] at hc
   lia
  rw [zD7 a1, List.idxOf_cons_self]
  rfl
 have i1 := key hc
 have i2 := key (h ▸ hc)
 rw [h, i2] at i1
 have := List.append_inj h i1.symm
 exact ⟨this.1, (List.cons.inj this.2).2⟩
theorem ne97 {a b : Nat} (h : a ≠ b) : 97 + a ≠ 97 + b := fun q => h (Nat.add_left_cancel q)
theorem zNM {c : Nat} {w : List Nat} (h : Lone c w) : c ∈ w := by
 obtain ⟨U, V, h⟩ := h
 rw [h]
 exact List.mem_append_right _ (.tail _ (.head _))
theorem zFd {c : Nat} {x : List Nat} (h : ∀ y ∈ x, y ≠ 97 + c) : ¬ Lone (97 + c) x := fun q => h _ (zNM q) rfl
theorem zIS {Y s X : List Nat} (hY : Y.length = 3) (hX : 2 ≤ X.length) (hd : ∀ Z, run 0 (s ++ Z) = none) : run 0 (mid (Y ++ (s ++ X))) = none := by
 have e : (Y ++ (s ++ X)).drop 3 = s ++ X := by rw [← hY, List.drop_left]
 have l : s.length ≤ (Y ++ (s ++ X)).length - 2 - 3 := by rw [List.length_append, List.length_append, hY]; lia
 unfold mid
 rw [e, List.take_append, List.take_of_length_le l]
 exact hd _
theorem zIT {c l p : Nat} (hl : c ≠ l) (hp : c ≠ p) {q : Prop} : (c = l ∨ (c ≠ p ∧ q)) ↔ q := ⟨fun h => h.elim (fun q => absurd q hl) (·.2), fun h => .inr ⟨hp, h⟩⟩
theorem zNN {l : Nat} (Z : List Nat) : run 0 ([97 + l, 41] ++ Z) = none := by
 show run 0 ((97 + l) :: 41 :: Z) = none
 rw [zBo (lt97 l)]
 rfl
theorem zNO (l d : Nat) : run d ([40] ++ [97 + l] ++ [41]) = some d := by
 show run (d + 1) ((97 + l) :: [41]) = some d
 rw [zBo (lt97 l)]
 rfl
theorem zNP {A0 Ts B K' : List Nat} {p r : Nat} (h2 : A0 ++ [40] ++ [97 + p] ++ Ts ++ B = [40] ++ [97 + r] ++ K' ++ [41]) (hK : GF K') (hT : GF Ts) (hA : A0 ≠ []) : ∃ B' y, B = B' ++ [y, 41] := by
 rcases List.eq_nil_or_concat B with hB | ⟨B1, y, hB⟩
 ·have := (GF.node (lt97 r) hK).hole (A0 ++ [40]) (97 + p) Ts (by rw [← h2, hB]; simp) (lt97 p)
  rw [hT.flat] at this
  exact nomatch this
 ·rw [List.concat_eq_append] at hB
  rw [hB, ← List.append_assoc] at h2
  have ey : y = 41 := zFa h2
  rw [ey] at hB h2
  rcases List.eq_nil_or_concat B1 with hB1 | ⟨B2, x, hB1⟩
  ·exfalso
   rw [hB1, List.append_nil] at h2
   have h6 := List.append_cancel_right h2
   match A0, hA, h6 with
   | [a], _, h6 =>
    obtain ⟨_, h6⟩ := List.cons.inj h6
    exact (lt97 r).1 (List.cons.inj h6).1.symm
   | a :: b :: A, _, h6 =>
    obtain ⟨_, h6⟩ := List.cons.inj h6
    obtain ⟨_, h6⟩ := List.cons.inj h6
    have := hK.hole (A ++ [40]) (97 + p) Ts (h6.symm.trans (by simp)) (lt97 p)
    rw [hT.flat] at this
    exact nomatch this
  ·exact ⟨B2, x, by rw [hB, hB1]; simp⟩
theorem zNQ {W W' K' A0 Ts B : List Nat} {l p r : Nat} (h1 : W = A0 ++ [40] ++ [97 + p] ++ Ts ++ [40] ++ [97 + l] ++ [41] ++ B) (h2 : W' = A0 ++ [40] ++ [97 + p] ++ Ts ++ B) (h3 : GF Ts) (hcp : W.count (97 + p) ≤ 1) (hW : W' = [40] ++ [97 + r] ++ K' ++ [41]) (hK : GF K') (h6 : 6 ≤ W'.length) (hlp : l ≠ p) (hrl : r ≠ l) (c : Nat) :
  za W (97 + c) = true ↔ c = l ∨ (c ≠ p ∧ za W' (97 + c) = true) := by
 have r1 : W'.getD 1 0 = 97 + r := by rw [hW]; rfl
 have r0 : W.getD 1 0 = 97 + r := by
  rw [← r1, h1, h2]
  match A0 with
  | [] => rfl
  | [a] => rfl
  | a :: b :: A0 => rfl
 have e1 : W = (A0 ++ [40]) ++ (97 + p) :: (Ts ++ ([40] ++ [97 + l] ++ [41] ++ B)) := by rw [h1]; simp
 obtain ⟨X0, z, hX, hz⟩ : ∃ X0 z, A0 ++ [40] ++ [97 + p] ++ Ts = X0 ++ [z] ∧ (z = 97 + p ∨ z = 41) := by
  rcases zNL h3 with h | ⟨s, h⟩
  ·exact ⟨A0 ++ [40], 97 + p, by rw [h, List.append_nil], .inl rfl⟩
  ·exact ⟨A0 ++ [40] ++ [97 + p] ++ s, 41, by rw [h, ← List.append_assoc], .inr rfl⟩
 have hWX : W = X0 ++ [z] ++ ([40] ++ [97 + l] ++ [41] ++ B) := by rw [h1, ← hX]; simp
 by_cases hcl : c = l
 ·refine ⟨fun _ => .inl hcl, fun _ => (zBq (by rw [r0, hcl]; exact ne97 hrl.symm)).mpr ⟨X0 ++ [z], B, ?_⟩⟩
  rw [hWX, hcl]
  rfl
 ·by_cases hcp' : c = p
  ·refine ⟨fun h => ?_, fun h => h.elim (fun q => absurd q hcl) (fun q => absurd hcp' q.1)⟩
   exfalso
   by_cases hrp : r = p
   ·-- p is the root
    have hA : A0 = [] := by
     have e2 : W' = [40] ++ (97 + p) :: (K' ++ [41]) := by rw [hW, hrp]; rfl
     have e3 : W' = (A0 ++ [40]) ++ (97 + p) :: (Ts ++ B) := by rw [h2]; simp
     have hc' : W'.count (97 + p) ≤ 1 := by
      refine Nat.le_trans ?_ hcp
      rw [h1, h2]
      simp only [List.count_append]
      lia
     have := (uniq (e2.symm.trans e3) (e2 ▸ hc')).1
     cases A0 with
     | nil => rfl
     | cons a A =>
      have := (List.cons.inj this).2
      cases A <;> cases this
    have hm := (zDD (by rw [r0, hcp', hrp])).mp h
    rw [hA] at h1 h2
    rcases zFb h3 with hT | ⟨s, hT, hdip⟩
    ·rw [hT] at h1 h2
     have e4 : W = [40, 97 + p, 40] ++ ([97 + l, 41] ++ B) := h1
     have hB : 2 ≤ B.length := by
      have h7 : 6 ≤ B.length + 1 + 1 := by rw [h2] at h6; exact h6
      lia
     rw [e4, zIS rfl hB zNN] at hm
     exact nomatch hm
    ·have e4 : W = [40, 97 + p, 40] ++ (s ++ (40 :: (97 + l) :: 41 :: B)) := by rw [h1, hT]; simp
     rw [e4, zIS rfl (Nat.le_trans (by decide) (Nat.le_add_left 3 B.length)) hdip] at hm
     exact nomatch hm
   ·obtain ⟨U, V, hU⟩ := (zBq (by rw [r0, hcp']; exact ne97 fun q => hrp q.symm)).mp h
    rw [hcp'] at hU
    have e2 : W = (U ++ [40]) ++ (97 + p) :: (41 :: V) := by rw [hU, List.append_assoc]; rfl
    have := (uniq (e1.symm.trans e2) (e1 ▸ hcp)).2
    rcases zFb h3 with hT | ⟨s, hT, _⟩
    ·rw [hT] at this; exact nomatch (List.cons.inj this).1
    ·rw [hT] at this; exact nomatch (List.cons.inj this).1
  ·rw [zIT hcl hcp']
   by_cases hrc : r = c
   ·rw [zDD (by rw [r0, hrc]), zDD (by rw [r1, hrc])]
    have hA : A0 ≠ [] := fun q => by
     rw [q] at h2
     obtain ⟨_, h5⟩ := List.cons.inj (hW.symm.trans h2)
     exact hcp' (hrc.symm.trans (Nat.add_left_cancel (List.cons.inj h5).1))
    obtain ⟨B', y, hB⟩ := zNP (h2.symm.trans hW) hK h3 hA
    have hY : 3 ≤ (A0 ++ [40] ++ [97 + p] ++ Ts).length := by
     have := List.length_pos_iff.mpr hA
     rw [List.length_append, List.length_append, List.length_append]
     exact Nat.le_trans (Nat.add_le_add_right (Nat.add_le_add_right this 1) 1) (Nat.le_add_right _ _)
    have m1 : mid W = (A0 ++ [40] ++ [97 + p] ++ Ts).drop 3 ++ ([40] ++ [97 + l] ++ [41]) ++ B' := by
     rw [← zFc hY, ← hB, h1]
     simp
    have m2 : mid W' = (A0 ++ [40] ++ [97 + p] ++ Ts).drop 3 ++ [] ++ B' := by
     rw [← zFc hY, ← hB, h2, List.append_nil]
    rw [m1, m2, List.append_nil, zAi, zAi, zAi]
    cases run 0 ((A0 ++ [40] ++ [97 + p] ++ Ts).drop 3) with
    | none => exact Iff.rfl
    | some d =>
     show ((run d ([40] ++ [97 + l] ++ [41])).bind fun e => run e B') = some 0 ↔ _
     rw [zNO]
   ·have z1 : z ≠ 40 := fun q => hz.elim (fun h => (lt97 p).1 (h.symm.trans q)) (fun h => nomatch h.symm.trans q)
    have z2 : z ≠ 97 + c := fun q => hz.elim (fun h => hcp' (Nat.add_left_cancel (q.symm.trans h))) (fun h => (lt97 c).2 (q.symm.trans h))
    have z4 : (41 : Nat) ≠ 97 + c := fun q => (lt97 c).2 q.symm
    have hrc' : 97 + c ≠ 97 + r := ne97 fun q => hrc q.symm
    rw [zBq (by rw [r0]; exact hrc'), zBq (by rw [r1]; exact hrc'), hWX, h2.trans (by rw [hX])]
    rw [zDC z1 z2, zDC z1 z2, zDC (X := [40] ++ [97 + l]) (by decide) z4]
    have : ¬ Lone (97 + c) ([40] ++ [97 + l] ++ [41]) := zFd fun y hy => by
     simp only [List.mem_append, List.mem_singleton] at hy
     rcases hy with (rfl | rfl) | rfl
     ·exact (lt97 c).1.symm
     ·exact ne97 fun q => hcl q.symm
     ·exact z4
    exact ⟨fun h => h.elim .inl (fun h => h.elim (fun q => absurd q this) .inr), fun h => h.elim .inl (fun h => .inr (.inr h))⟩
theorem zNR {W W' K' : List Nat} {l p : Nat} (h1 : W = [40] ++ [97 + l] ++ W' ++ [41]) (hW : W' = [40] ++ [97 + p] ++ K' ++ [41]) (hcp : W.count (97 + p) ≤ 1) (hK : GF K') (h6 : 6 ≤ W'.length) (hlp : l ≠ p) (c : Nat) :
  za W (97 + c) = true ↔ c = l ∨ (c ≠ p ∧ za W' (97 + c) = true) := by
 have r0 : W.getD 1 0 = 97 + l := by rw [h1]; rfl
 have r1 : W'.getD 1 0 = 97 + p := by rw [hW]; rfl
 by_cases hcl : c = l
 ·refine ⟨fun _ => .inl hcl, fun _ => (zDD (by rw [r0, hcl])).mpr ?_⟩
  have e : W = [40, 97 + l, 40] ++ ((97 + p) :: K') ++ ([] ++ [41, 41]) := by rw [h1, hW]; simp
  rw [e, zFc (Y := [40, 97 + l, 40]) (Nat.le_refl 3), List.append_nil]
  show run 0 ((97 + p) :: K') = some 0
  rw [zBo (lt97 p)]
  exact hK.flat 0
 ·rw [zBq (by rw [r0]; exact ne97 hcl)]
  by_cases hcp' : c = p
  ·refine ⟨fun h => ?_, fun h => h.elim (fun q => absurd q hcl) (fun q => absurd hcp' q.1)⟩
   exfalso
   obtain ⟨U, V, hU⟩ := h
   rw [hcp'] at hU
   have e1 : W = ([40] ++ [97 + l] ++ [40]) ++ (97 + p) :: (K' ++ [41] ++ [41]) := by rw [h1, hW]; simp
   have e2 : W = (U ++ [40]) ++ (97 + p) :: (41 :: V) := by rw [hU, List.append_assoc]; rfl
   have := (uniq (e1.symm.trans e2) (e1 ▸ hcp)).2
   rcases zFb hK with hT | ⟨s, hT, _⟩
   ·rw [hW, hT] at h6
    exact absurd h6 (by show ¬ 6 ≤ 3; decide)
   ·rw [hT] at this; exact nomatch (List.cons.inj this).1
  ·rw [zIT hcl hcp', zBq (by rw [r1]; exact ne97 hcp')]
   have z1 : 97 + l ≠ 40 := (lt97 l).1
   have z2 : 97 + l ≠ 97 + c := ne97 fun q => hcl q.symm
   have z4 : (41 : Nat) ≠ 97 + c := fun q => (lt97 c).2 q.symm
   have n1 : ¬ Lone (97 + c) ([40] ++ [97 + l]) := zFd fun y hy => by
    simp only [List.mem_append, List.mem_singleton] at hy
    rcases hy with rfl | rfl
    ·exact (lt97 c).1.symm
    ·exact z2
   have n2 : ¬ Lone (97 + c) [41] := zFd fun y hy => by rw [List.mem_singleton.mp hy]; exact z4
   rw [h1, List.append_assoc, zDC (X := [40]) z1 z2, hW, zDC (X := [40] ++ [97 + p] ++ K') (Y := [41]) (by decide) z4]
   exact ⟨fun h => h.elim (fun q => absurd q n1) (fun h => h.elim id (fun q => absurd q n2)), fun h => .inr (.inl h)⟩
theorem zNS {W W' K' : List Nat} {l p r : Nat} (hC : zA0 W W' l p) (hW : W' = [40] ++ [97 + r] ++ K' ++ [41]) (hK : GF K') (hl0 : W'.count (97 + l) = 0) (hp1 : W'.count (97 + p) ≤ 1) (h6 : 6 ≤ W'.length) (hlp : l ≠ p) (c : Nat) :
  za W (97 + c) = true ↔ c = l ∨ (c ≠ p ∧ za W' (97 + c) = true) := by
 have hcp : W.count (97 + p) ≤ 1 := by
  rw [hC.count, if_neg (fun q => hlp q.symm)]
  exact hp1
 have hrl : r ≠ l := fun q => List.count_eq_zero.mp hl0 (by rw [hW, q]; exact .tail _ (.head _))
 cases hC with
 | leaf A0 Ts B h1 h2 h3 => exact zNQ h1 h2 h3 hcp hW hK h6 hlp hrl c
 | root K h1 h2 =>
  have h5 := h2.symm.trans hW
  obtain ⟨_, h5⟩ := List.cons.inj h5
  obtain ⟨h5, _⟩ := List.cons.inj h5
  rw [← Nat.add_left_cancel h5] at hW
  exact zNR h1 hW hcp hK h6 hlp c
theorem zIU {x y : Nat} (c : Nat) : za [40, 97 + x, 40, 97 + y, 41, 41] (97 + c) = true ↔ c = x ∨ c = y := by
 by_cases h : c = x
 ·refine ⟨fun _ => .inl h, fun _ => (zDD (by rw [h]; rfl)).mpr ?_⟩
  show run 0 ((97 + y) :: []) = some 0
  rw [zBo (lt97 y)]
  rfl
 ·rw [zBq (show 97 + c ≠ 97 + x by lia)]
  refine ⟨fun ⟨U, V, e⟩ => .inr ?_, fun q => ⟨[40, 97 + x], [41], by rw [q.resolve_left h]; rfl⟩⟩
  have hm : 97 + c ∈ [40, 97 + x, 40, 97 + y, 41, 41] := by rw [e]; simp
  simp only [List.mem_cons, List.not_mem_nil, or_false] at hm
  lia
theorem zNT (row rest : List Nat) (t : Bool) (r : Nat) : ∃ K, W row rest t r = [40] ++ [97 + r] ++ K ++ [41] ∧ GF K :=
 ⟨_, zz _ _ (row.length + 1) _ _, zD6 _ fun o _ => zFU _ _ _ o _⟩
theorem zIV (t : Bool) : ∀ (row rest : List Nat), RowOk rest row → ∀ r ∈ rest, ∀ c, za (W row rest t r) (97 + c) = true ↔ c ∈ rest ∧ c ∉ row
 | [], rest, h, r, hr, c => by
  obtain ⟨a, b, rfl⟩ : ∃ a b, rest = [a, b] := by
   have := h.len
   match rest, this with
   | [a, b], _ => exact ⟨a, b, rfl⟩
  have hab : a ≠ b := fun q => by
   have := zAU h.asc
   rw [q] at this
   simp at this
  obtain ⟨w1, w2, o1, o2⟩ := zFX (t := t) hab
  rcases List.mem_cons.mp hr with rfl | hr
  ·rw [w1, zIU]
   simp
  ·obtain rfl := List.mem_singleton.mp hr
   rw [w2, zIU]
   simp [or_comm]
 | p :: row, rest, h, r, hr, c => by
  obtain ⟨l, q, hl⟩ := h.ends
  obtain ⟨m1, m2, m3⟩ := h.head hl
  have hnd := zAU h.asc
  have hF := zIQ h hl
  have hN := h.next hl
  obtain ⟨hr', hok, hC⟩ := zFY (t := t) h hl hr (w_ok t row _ hN)
  have ih := zIV t row _ hN _ hr' c
  have I := w_ok t row _ hN _ hr'
  obtain ⟨K, hW, hK⟩ := zNT row (dropL rest l) t (if r = l then p else r)
  have hp : p ∈ dropL rest l := (zAO hnd).mpr ⟨h.sub p (.head _), hF.ne.symm⟩
  rw [zNS hC hW hK (I.out l fun q => ((zAO hnd).mp q).2 rfl) (Nat.le_of_eq (I.one p hp)) (by rw [I.len, hN.len]; lia) hF.ne c, ih, zAO hnd]
  constructor
  ·rintro (q | ⟨q, ⟨q1, q2⟩, q3⟩)
   ·rw [q]; exact ⟨m1, m2⟩
   ·exact ⟨q1, fun hm => (List.mem_cons.mp hm).elim q q3⟩
  ·rintro ⟨q1, q2⟩
   by_cases e : c = l
   ·exact .inl e
   ·exact .inr ⟨fun q => q2 (q ▸ .head _), ⟨q1, e⟩, fun q => q2 (.tail _ q)⟩
theorem zIW : ∀ {a b : List Nat}, a.Pairwise (· < ·) → b.Pairwise (· < ·) → (∀ x, x ∈ a ↔ x ∈ b) → a = b
 | [], [], _, _, _ => rfl
 | [], y :: b, _, _, h => nomatch (h y).mpr (.head _)
 | x :: a, [], _, _, h => nomatch (h x).mp (.head _)
 | x :: a, y :: b, ha, hb, h => by
  have ha0 := List.pairwise_cons.mp ha
  have hb0 := List.pairwise_cons.mp hb
  have hxy : x = y := by
   rcases List.mem_cons.mp ((h x).mp (.head _)) with q | q
   ·exact q
   ·rcases List.mem_cons.mp ((h y).mpr (.head _)) with q2 | q2
    ·exact q2.symm
    ·have := hb0.1 x q
     have := ha0.1 y q2
     lia
  rw [hxy] at ha0 h ⊢
  rw [zIW ha0.2 hb0.2 fun z => ?_]
  have hz := h z
  rw [List.mem_cons, List.mem_cons] at hz
  constructor
  ·intro q
   rcases hz.mp (.inr q) with q2 | q2
   ·have := ha0.1 z q; lia
   ·exact q2
  ·intro q
   rcases hz.mpr (.inr q) with q2 | q2
   ·have := hb0.1 z q; lia
   ·exact q2
theorem zNU {p : Nat} (h : p < 6) : abc.filter (· == 97 + p) = [97 + p] := by
 have : p = 0 ∨ p = 1 ∨ p = 2 ∨ p = 3 ∨ p = 4 ∨ p = 5 := by lia
 rcases this with rfl | rfl | rfl | rfl | rfl | rfl <;> rfl
theorem zNV {o : Nat} (h : o ∈ abc) : Lt o := by
 obtain ⟨x, _, rfl⟩ := List.mem_map.mp h
 exact lt97 x
theorem zNW {w w' : List Nat} {l p : Nat} (hC : zA0 w w' l p) (hc : ∀ o, Lt o → w.count o ≤ 1) (hp : p < 6) :
  97 + l ∈ w ∧ ((w.idxOf (97 + l) = 1 ∧ [97 + p] = [w.getD 3 0] ∧ w' = (w.drop 2).take (w.length - 1 - 2)) ∨
  (w.idxOf (97 + l) ≠ 1 ∧ 1 ≤ w.idxOf (97 + l) ∧ w[w.idxOf (97 + l) - 1]? = some 40 ∧ w.idxOf (97 + l) + 2 ≤ w.length ∧ [97 + p] = abc.filter (zAh w (w.idxOf (97 + l))) ∧ w' = w.take (w.idxOf (97 + l) - 1) ++ w.drop (w.idxOf (97 + l) + 2))) := by
 cases hC with
 | leaf A0 Ts B h1 h2 h3 =>
  have hnear : ∀ o ∈ abc, zAh w ((A0 ++ [40] ++ [97 + p] ++ Ts).length + 1) o = (o == 97 + p) := fun o ho => by
   rw [h1] at hc ⊢
   exact zNE h3 hc (lt97 p) (lt97 l) (zNV ho)
  have hX2 : 2 ≤ (A0 ++ [40] ++ [97 + p] ++ Ts).length := by simp; lia
  have hw : w = (A0 ++ [40] ++ [97 + p] ++ Ts) ++ (40 :: (97 + l) :: 41 :: B) := by rw [h1]; simp
  rw [h2]
  generalize A0 ++ [40] ++ [97 + p] ++ Ts = X at hnear hX2 hw
  have hn : 97 + l ∉ X := fun q => by
   have h5 := hc (97 + l) (lt97 l)
   have := List.count_pos_iff.mpr q
   rw [hw, List.count_append, show (40 :: (97 + l) :: 41 :: B) = [40] ++ ((97 + l) :: 41 :: B) from rfl, List.count_append, List.count_cons_self] at h5
   lia
  have hi : w.idxOf (97 + l) = X.length + 1 := by
   rw [hw, zD7 hn, List.idxOf_cons, beq_eq_false_iff_ne.mpr (show (40 : Nat) ≠ 97 + l by lia), List.idxOf_cons_self]
   rfl
  refine ⟨by rw [hw]; simp, .inr ?_⟩
  rw [hi]
  refine ⟨by lia, by lia, ?_, by rw [hw]; simp; lia, ?_, ?_⟩
  ·rw [hw, Nat.add_sub_cancel, List.getElem?_append_right (Nat.le_refl _), Nat.sub_self]
   rfl
  ·rw [List.filter_congr hnear, zNU hp]
  ·rw [Nat.add_sub_cancel]
   have e1 : w.take X.length = X := by rw [hw, List.take_left]
   have e2 : w.drop (X.length + 1 + 2) = B := by
    rw [hw, show X.length + 1 + 2 = X.length + 3 by lia, ← List.drop_drop, List.drop_left]
    rfl
   rw [e1, e2]
 | root K h1 h2 =>
  have hi : w.idxOf (97 + l) = 1 := by
   rw [h1]
   show (40 :: (97 + l) :: (w' ++ [41])).idxOf (97 + l) = 1
   rw [List.idxOf_cons, beq_eq_false_iff_ne.mpr (show (40 : Nat) ≠ 97 + l by lia), List.idxOf_cons_self]
   rfl
  refine ⟨by rw [h1]; simp, .inl ⟨hi, ?_, ?_⟩⟩
  ·rw [h1, h2]
   rfl
  ·have e1 : w.drop 2 = w' ++ [41] := by rw [h1]; rfl
   have e2 : w.length - 1 - 2 = w'.length := by rw [h1]; simp
   rw [e1, e2, List.take_left]
theorem zNX {n p r l : Nat} {row rest q : List Nat} {t : Bool} (h : RowOk rest (p :: row)) (hl : zc rest (p :: row) = l :: q) (hr : r ∈ rest) (hx : ∀ x ∈ rest, x < n) (hn : n ≤ 6) (hm : row.length + 3 ≤ 6) :
  (if r = l then p else r) ∈ dropL rest l ∧ zFT n (row.length + 3) (W (p :: row) rest t r) (lt (zc rest (p :: row))) [97 + p] (W row (dropL rest l) t (if r = l then p else r)) := by
 obtain ⟨hr', hok, hC⟩ := zFY (t := t) h hl hr (w_ok t row _ (h.next hl))
 have I := w_ok t (p :: row) rest h r hr
 have hA := zIV t (p :: row) rest h r hr
 have hp : p < 6 := Nat.lt_of_lt_of_le (hx p (h.sub p (.head _))) hn
 refine ⟨hr', ?_⟩
 have i1 := I.one
 have i2 := I.len
 have i3 := I.sign
 clear I
 generalize W (p :: row) rest t r = w at hC i1 i2 i3 hA ⊢
 have hc : ∀ o, Lt o → w.count o ≤ 1 := fun o ho => by
  by_cases hm : o ∈ w
  ·rcases i3 o hm with q | q | ⟨c, hc, q⟩
   ·exact absurd q ho.1
   ·exact absurd q ho.2
   ·rw [q]; exact Nat.le_of_eq (i1 c hc)
  ·rw [List.count_eq_zero.mpr hm]; exact Nat.zero_le _
 obtain ⟨c1, c2⟩ := zNW hC hc hp
 refine ⟨fun x hm => ?_, by rw [i2, h.len]; rfl, by lia, hm, ?_, 97 + l, lt q, by rw [hl]; rfl, c1, c2⟩
 ·rcases i3 x hm with q | q | ⟨c, hc, q⟩
  ·exact .inl q
  ·exact .inr (.inl q)
  ·have := hx c hc
   exact .inr (.inr (by lia))
 ·unfold lt
  rw [List.filter_map]
  congr 1
  refine zIW (List.Pairwise.filter _ List.pairwise_lt_range) (List.Pairwise.filter _ h.asc) fun x => ?_
  rw [List.mem_filter, List.mem_range]
  show x < n ∧ za w (97 + x) = true ↔ x ∈ zc rest (p :: row)
  rw [hA, zc, List.mem_filter]
  constructor
  ·rintro ⟨_, a, b⟩
   exact ⟨a, by simpa using b⟩
  ·rintro ⟨a, b⟩
   exact ⟨hx x a, a, by simpa using b⟩
theorem zIX {n : Nat} (t : Bool) (hn : n ≤ 6) : ∀ (row rest : List Nat), RowOk rest row → ∀ r ∈ rest, (∀ x ∈ rest, x < n) → row.length ≤ 4 →
  ∃ f a b, zCQ n row.length (W row rest t r) ((dueGo row rest).map fun d => (lt d.1, [97 + d.2])) f ∧ zy row rest = [a, b] ∧ (f = [40, 97 + a, 40, 97 + b, 41, 41] ∨ f = [40, 97 + b, 40, 97 + a, 41, 41])
 | [], rest, h, r, hr, _, _ => by
  obtain ⟨a, b, rfl⟩ : ∃ a b, rest = [a, b] := by
   have := h.len
   match rest, this with
   | [a, b], _ => exact ⟨a, b, rfl⟩
  have hab : a ≠ b := fun q => by
   have := zAU h.asc
   rw [q] at this
   simp at this
  obtain ⟨w1, w2, o1, o2⟩ := zFX (t := t) hab
  refine ⟨_, a, b, .done, rfl, ?_⟩
  rcases List.mem_cons.mp hr with rfl | hr
  ·exact .inl w1
  ·obtain rfl := List.mem_singleton.mp hr
   exact .inr w2
 | p :: row, rest, h, r, hr, hx, hlen => by
  rw [List.length_cons] at hlen
  obtain ⟨l, q, hl⟩ := h.ends
  obtain ⟨hr', S⟩ := zNX (t := t) h hl hr hx hn (by lia)
  obtain ⟨f, a, b, R, e1, e2⟩ := zIX t hn row _ (h.next hl) _ hr' (fun x hm => hx x ((zAO (zAU h.asc)).mp hm).1) (by lia)
  refine ⟨f, a, b, ?_, ?_, e2⟩
  ·have hd : (zc rest (p :: row)).headD 0 = l := by rw [hl]; rfl
   rw [zHw, hd, List.map_cons]
   exact .step S R
  ·rw [zHx, hl]
   exact e1
theorem zIY {E : List (Nat × Nat)} {t : Bool} {k v : Nat} {b : Int} (h : okF E t k v b) : ∀ j, txtF E t (k + j) v b = txtF E t k v b ∧ okF E t (k + j) v b
 | 0 => ⟨rfl, h⟩
 | j + 1 => by
  obtain ⟨e, o⟩ := zIY h j
  obtain ⟨e2, o2⟩ := zFV (k + j) v b o
  exact ⟨e2.trans e, o2⟩
theorem zIZ : ∀ row rest, (zl row rest).length = row.length + 1
 | [], _ => rfl
 | p :: row, rest => by rw [zD2, List.length_cons, zIZ row]; rfl
theorem zNY {row : List Nat} {n r : Nat} (t : Bool) (h : RowOk (List.range n) row) (hn : n ≤ 6) (hr : r < n) :
  okF (zl row (List.range n)) t 7 r (-1) ∧ txtF (zl row (List.range n)) t 7 r (-1) = W row (List.range n) t r ∧ (W row (List.range n) t r).length ≤ 18 ∧ zh (W row (List.range n) t r) ∧ (zl row (List.range n)).length ≤ 5 ∧ (∀ e ∈ zl row (List.range n), e.1 < 6 ∧ e.2 < 6) := by
 have I := w_ok t row _ h r (List.mem_range.mpr hr)
 have hl := h.len
 rw [List.length_range] at hl
 obtain ⟨e, o⟩ := zIY I.ok (7 - (row.length + 2))
 rw [show row.length + 2 + (7 - (row.length + 2)) = 7 by lia] at e o
 refine ⟨o, e, by rw [I.len, List.length_range]; lia, fun x hx => ?_, by rw [zIZ]; lia, fun e he => ?_⟩
 ·rcases I.sign x hx with q | q | ⟨c, hc, q⟩
  ·exact .inl q
  ·exact .inr (.inl q)
  ·have := List.mem_range.mp hc
   exact .inr (.inr (by lia))
 ·obtain ⟨q1, q2⟩ := zFW row _ h e he
  have := List.mem_range.mp q1
  have := List.mem_range.mp q2
  lia
noncomputable def vsF (n : Nat) (c2 c3 c4 c5 c6 c7 c8 c9 c10 c11 c12 c13 c14 : Option PV) : List (Option PV) := [some (.ref 0), some (.int (n : Int)), c2, c3, c4, c5, c6, c7, c8, c9, c10, c11, c12, c13, c14]
theorem zNZ (z : Int) : ∃ t : Nat, ∀ s, pMod (.int z) (.int 2985984) s = some (.int (t : Int), s) := by
 obtain ⟨t, ht⟩ := Int.eq_ofNat_of_zero_le (Int.fmod_nonneg_of_pos z (by decide : (0 : Int) < 2985984))
 refine ⟨t, fun s => ?_⟩
 show (if (2985984 : Int) = 0 then none else some (PV.int (z.fmod 2985984), s)) = _
 rw [if_neg (by decide), ht]
theorem zNa {vs : List (Option PV)} {hp : List (Bool × PO)} {a : Nat} {b : Bool} {ns : List Int} (h : hp[a]? = some (b, .list (ns.map .int))) : pSum (.ref a) ⟨vs, hp⟩ = some (.int ns.sum, ⟨vs, hp⟩) := by
 unfold pSum
 simp only [h]
 rw [zC0]
 rfl
theorem zNb {i j : Nat} {m : PM PV} {st : PSt} {vs : List (Option PV)} {hp : List (Bool × PO)} {a b : PV} {d : Nat} {f : Bool} (h : m st = some (.ref d, ⟨vs, hp⟩)) (hd : hp[d]? = some (f, .tuple [a, b])) : zCj i j m st = some (.next, ⟨(vs.set i (some a)).set j (some b), hp⟩) := by
 unfold zCj PM.bind
 rw [h]
 have : pPair (.ref d) ⟨vs, hp⟩ = some (a, b) := by
  unfold pPair
  simp only [hd]
 simp only [this]
theorem zNc {n r : Nat} {cs : List Nat} {ns : List Int} {H6 : List (Bool × PO)} {fr f0 : Bool} {c2 c3 c4 c5 : Option PV} (hn : n = 5 ∨ n = 6) (hl : cs.length = n - 2) (hr : H6[r]? = some (fr, .list (iL cs))) (h0 : H6[0]? = some (f0, .list (ns.map .int))) :
  ∃ (row : List Nat) (ρ τ tell T : Nat) (H : List (Bool × PO)), RowOk (List.range n) row ∧
   (∀ k : PM PF, (pSeq la7 (pSeq la8 (pSeq la9 (pSeq la10 k)))) ⟨vsL n c2 c3 c4 c5 (some (.ref r)), H6⟩ =
    k ⟨vsF n c2 c3 c4 c5 (some (.ref r)) (some (.ref ρ)) (some (.ref τ)) (some (.int (tell : Int))) (some (.ref T)) (some (.str (S (lt (zy row (List.range n)))))) none none none, H⟩) ∧
   zBM H τ (zl row (List.range n)) ∧ ∃ f xs, H[T]? = some (f, .list xs) ∧ zV H xs = some (dueV (dueGo row (List.range n))) := by
 have hnp : n ≠ 0 := by lia
 have e7 : (pComp 1 [1] (pSrc (pVar 6)) (pSet 0) (PM.ret true) (pBin pMod (pVar 0) (pVar 1))) ⟨vsL n c2 c3 c4 c5 (some (.ref r)), H6⟩ = some (.ref H6.length, ⟨vsL n c2 c3 c4 c5 (some (.ref r)), H6 ++ [(false, .list ((iL cs).map fun v => .int ((numOf v % n : Nat) : Int)))]⟩) :=
  zLx (caps := [1]) (mi := pSrc (pVar 6)) (s := ⟨vsL n c2 c3 c4 c5 (some (.ref r)), H6⟩) (f := fun v => .int ((numOf v % n : Nat) : Int)) (rest := [some (.int (n : Int))]) (zCI rfl hr) (by rw [List.length_map, hl]; exact Nat.le_trans (show n - 2 ≤ 1000 by lia) (by decide)) rfl (fun x hx => by
   apply byC; intro kz; obtain ⟨c, _, rfl⟩ := List.mem_map.mp hx; apply kz; clear kz
   exact zE rfl rfl (zBY c n hnp))
 have erow : ((iL cs).map fun v => PV.int ((numOf v % n : Nat) : Int)) = iL (cs.map (· % n)) := by
  rw [List.map_map]
  show _ = List.map _ (List.map _ cs)
  rw [List.map_map]
  rfl
 rw [erow] at e7
 have hok : RowOk (List.range n) (cs.map (· % n)) := ⟨List.pairwise_lt_range, fun x hx => by
  apply byC; intro kz; obtain ⟨c, _, rfl⟩ := List.mem_map.mp hx; apply kz; clear kz
  exact List.mem_range.mpr (Nat.mod_lt _ (by lia)), by rw [List.length_range, List.length_map, hl]; lia⟩
 have s7 : la7 ⟨vsL n c2 c3 c4 c5 (some (.ref r)), H6⟩ = some (.next, ⟨vsF n c2 c3 c4 c5 (some (.ref r)) (some (.ref H6.length)) none none none none none none none, H6 ++ [(false, .list (iL (cs.map (· % n))))]⟩) := zM e7
 have g7 := zT H6 ((false : Bool), PO.list (iL (cs.map (· % n))))
 have x7 := Ext.app H6 [((false : Bool), PO.list (iL (cs.map (· % n))))]
 generalize H6 ++ [((false : Bool), PO.list (iL (cs.map (· % n))))] = H7 at s7 g7 x7
 generalize H6.length = ρ at s7 g7
 generalize cs.map (· % n) = row at s7 g7 hok
 apply byC; intro kz; obtain ⟨τ, H8, e8, x8, t8⟩ := zMd (vs := vsF n c2 c3 c4 c5 (some (.ref r)) (some (.ref ρ)) none none none none none none none) g7 (by lia) hok; apply kz; clear kz
 have s8 : la8 ⟨vsF n c2 c3 c4 c5 (some (.ref r)) (some (.ref ρ)) none none none none none none none, H7⟩ = some (.next, ⟨vsF n c2 c3 c4 c5 (some (.ref r)) (some (.ref ρ)) (some (.ref τ)) none none none none none none, H8⟩) := zM (app2c rfl rfl e8)
 apply byC; intro kz; obtain ⟨f8, h8⟩ := (x7.trans x8) _ _ _ h0; apply kz; clear kz
 apply byC; intro kz; obtain ⟨fρ, g8⟩ := x8 _ _ _ g7; apply kz; clear kz
 apply byC; intro kz; obtain ⟨tell, ht⟩ := zNZ (ns.sum + 271828); apply kz; clear kz
 have s9 : la9 ⟨vsF n c2 c3 c4 c5 (some (.ref r)) (some (.ref ρ)) (some (.ref τ)) none none none none none none, H8⟩ = some (.next, ⟨vsF n c2 c3 c4 c5 (some (.ref r)) (some (.ref ρ)) (some (.ref τ)) (some (.int (tell : Int))) none none none none none, H8⟩) := by
  have e9 : (pBin pAdd (pApp1 (pVar 0) pSum) (PM.ret (.int 271828))) ⟨vsF n c2 c3 c4 c5 (some (.ref r)) (some (.ref ρ)) (some (.ref τ)) none none none none none none, H8⟩ = some (.int (ns.sum + 271828), ⟨vsF n c2 c3 c4 c5 (some (.ref r)) (some (.ref ρ)) (some (.ref τ)) none none none none none none, H8⟩) := zE (zAD rfl (zNa h8)) rfl rfl
  have e10 : (pBin pMod (pBin pAdd (pApp1 (pVar 0) pSum) (PM.ret (.int 271828))) (PM.ret (.int 2985984))) ⟨vsF n c2 c3 c4 c5 (some (.ref r)) (some (.ref ρ)) (some (.ref τ)) none none none none none none, H8⟩ = some (.int (tell : Int), ⟨vsF n c2 c3 c4 c5 (some (.ref r)) (some (.ref ρ)) (some (.ref τ)) none none none none none none, H8⟩) := zE e9 rfl (ht _)
  exact zM e10
 apply byC; intro kz; obtain ⟨D, T, H9, e9, x9, ⟨fd, gd⟩, fT, xs, gT, pT⟩ := r_due (vs := vsF n c2 c3 c4 c5 (some (.ref r)) (some (.ref ρ)) (some (.ref τ)) (some (.int (tell : Int))) none none none none none) g8 (by lia) hok; apply kz; clear kz
 have s10 : la10 ⟨vsF n c2 c3 c4 c5 (some (.ref r)) (some (.ref ρ)) (some (.ref τ)) (some (.int (tell : Int))) none none none none none, H8⟩ = some (.next, ⟨vsF n c2 c3 c4 c5 (some (.ref r)) (some (.ref ρ)) (some (.ref τ)) (some (.int (tell : Int))) (some (.ref T)) (some (.str (S (lt (zy row (List.range n)))))) none none none, H9⟩) := zNb (app2c rfl rfl e9) gd
 exact ⟨row, ρ, τ, tell, T, H9, hok, fun k => zD s7 (zD s8 (zD s9 (zD s10 rfl))), t8.ext x9, fT, xs, gT, pT⟩
theorem zNd {vs : List (Option PV)} {hp : List (Bool × PO)} {i : Nat} {f : Bool} {xs : List PV} {v : PV} (hi : hp[i]? = some (f, .list (xs ++ [v]))) (hx : xs.length ≤ 100) :
  zAH (.ref i) .none (.int (-1)) ⟨vs, hp⟩ = some (.ref hp.length, ⟨vs, hp ++ [(false, .list xs)]⟩) := by
 have hx' : (xs ++ [v]).length ≤ zH := by rw [List.length_append]; exact Nat.le_trans (show xs.length + 1 ≤ 1000 by lia) (by decide)
 have hb : sliceBounds none (some (-1 : Int)) none (xs ++ [v]).length = (((0 : Nat) : Int), (xs.length : Int), 1) := by
  rw [List.length_append, List.length_singleton]
  unfold sliceBounds
  simp
  lia
 simp only [zAH, zAq, zBE, zBF, hi, hx', if_true, hb, sliceRange_one, zu]
 rw [zHR (by simp), List.drop_zero, Nat.sub_zero, List.take_left]
theorem app5c {f : List PV → PM PV} {m1 m2 m3 m4 m5 : PM PV} {st : PSt} {v1 v2 v3 v4 v5 : PV} {R : Option (PV × PSt)} (h1 : m1 st = some (v1, st)) (h2 : m2 st = some (v2, st)) (h3 : m3 st = some (v3, st)) (h4 : m4 st = some (v4, st)) (h5 : m5 st = some (v5, st)) (h : f [v1, v2, v3, v4, v5] st = R) :
  pApp 5 (pCons m1 (pCons m2 (pCons m3 (pCons m4 (pCons m5 pNil))))) f st = R := by
 simp only [pApp, pCons, pNil, PM.bind, h1, h2, h3, h4, h5, PM.ret, List.length_cons, List.length_nil, if_true, h]
theorem zIa {st : PSt} {b k : Nat} (hb : b < 100) (hk : k < 2) : pPow (.int (b : Int)) (.int (k : Int)) st = some (.int ((b ^ k : Nat) : Int), st) := by
 unfold pPow
 dsimp only
 rw [if_pos ⟨by lia, by lia, by lia⟩]
 have : k = 0 ∨ k = 1 := by lia
 rcases this with rfl | rfl
 ·rfl
 ·show some (PV.int ((b : Int) ^ 1), st) = _
  rw [Int.pow_one, Nat.pow_one]
theorem zIb {H : List (Bool × PO)} : ∀ {xs : List PV}, zV H xs = some [] → xs = []
 | [], _ => rfl
 | v :: vs, h => by
  obtain ⟨p, _, h⟩ := Option.bind_eq_some_iff.mp h
  obtain ⟨qs, _, h⟩ := Option.bind_eq_some_iff.mp h
  cases h
theorem zIc {H : List (Bool × PO)} {p : PV × PV} {ps : List (PV × PV)} : ∀ {xs : List PV}, zV H xs = some (p :: ps) → ∃ i f vs, xs = .ref i :: vs ∧ H[i]? = some (f, .tuple [p.1, p.2]) ∧ zV H vs = some ps
 | [], h => by cases h
 | v :: vs, h => by
  obtain ⟨q, h1, h⟩ := Option.bind_eq_some_iff.mp h
  obtain ⟨qs, h2, h⟩ := Option.bind_eq_some_iff.mp h
  cases h
  obtain ⟨i, f, e, h3⟩ := zEj h1
  exact ⟨i, f, vs, by rw [e], h3, h2⟩
theorem zNe {H : List (Bool × PO)} {i j : Nat} {f g : Bool} {a b : Str} (hi : H[i]? = some (f, .tuple [.str a, .str b])) (hj : H[j]? = some (g, .tuple [.str a, .str b])) : pEqV H 3 (.ref i) (.ref j) = some true := by
 show (if i = j then some true else eqTop H (pEqV H 2) (.ref i) (.ref j)) = some true
 by_cases h : i = j
 ·rw [if_pos h]
 ·rw [if_neg h]
  rw [zEO]
  simp only [hi, hj]
  exact zHg (pEqV H 2) (fun x => by show some (x == x) = some true; rw [beq_self_eq_true]) [a, b]
theorem zId {H : List (Bool × PO)} : ∀ (D : List (List Nat × Nat)) (xs ys : List PV), zV H xs = some (dueV D) → zV H ys = some (dueV D) → xs.length = ys.length ∧ eqAll (pEqV H 3) xs ys = some true
 | [], xs, ys, h1, h2 => by
  rw [zIb h1, zIb h2]
  exact ⟨rfl, rfl⟩
 | d :: D, xs, ys, h1, h2 => by
  obtain ⟨i, f, vs, e1, a1, b1⟩ := zIc h1
  obtain ⟨j, g, us, e2, a2, b2⟩ := zIc h2
  obtain ⟨l, q⟩ := zId D vs us b1 b2
  rw [e1, e2]
  refine ⟨by rw [List.length_cons, List.length_cons, l], ?_⟩
  show (match pEqV H 3 (.ref i) (.ref j), eqAll (pEqV H 3) vs us with | some a, some b => some (a && b) | _, _ => none) = some true
  rw [zNe a1 a2, q]
  rfl
theorem zNf {vs : List (Option PV)} {H : List (Bool × PO)} {i j : Nat} {f g : Bool} {xs ys : List PV} {D : List (List Nat × Nat)} (hi : H[i]? = some (f, .list xs)) (hj : H[j]? = some (g, .list ys)) (h1 : zV H xs = some (dueV D)) (h2 : zV H ys = some (dueV D)) : pNe (.ref i) (.ref j) ⟨vs, H⟩ = some (.bool false, ⟨vs, H⟩) := by
 obtain ⟨l, q⟩ := zId D xs ys h1 h2
 unfold pNe
 rw [zEO]
 simp only [hi, hj]
 rw [if_pos l, q]
 rfl
theorem zNg {vs : List (Option PV)} {hp : List (Bool × PO)} {a : Nat} {b : Bool} {ss : List Str} (x : Str) (h : hp[a]? = some (b, .tuple (ss.map .str))) : zAK (.str x) (.ref a) ⟨vs, hp⟩ = some (.bool (!ss.contains x), ⟨vs, hp⟩) := by
 unfold zAK
 rw [zFy]
 simp only [h, zHe, Option.map_some]
theorem zNh : ("))" : Str) = S [41, 41] := by decide +kernel
noncomputable def lastT (a b : Nat) : List Nat := [40, 97 + a, 40, 97 + b, 41, 41]
theorem zIe {m k : PM PV} {st : PSt} {x y : Nat} (hm : m st = some (.str (S [x]), st)) (hk : k st = some (.str (S [y]), st)) :
  (pBin pAdd (pBin pAdd (pBin pAdd (pBin pAdd (PM.ret (.str "(")) m) (PM.ret (.str "("))) k) (PM.ret (.str "))"))) st = some (.str (S [40, x, 40, y, 41, 41]), st) := by
 have ap : ∀ (a b : List Nat), a.length + b.length ≤ 1000 → pAdd (.str (S a)) (.str (S b)) st = some (.str (S (a ++ b)), st) := fun a b h => zBn a b (Nat.le_trans h (by decide))
 rw [zCp, zNh]
 exact zE (zE (zE (zE rfl hm (ap [40] [x] (by simp))) rfl (ap [40, x] [40] (by simp))) hk (ap [40, x, 40] [y] (by simp))) rfl (ap [40, x, 40, y] [41, 41] (by simp))
noncomputable def vsT (n : Nat) (c2 c3 c4 c5 c6 c7 : Option PV) (τ tell T : Nat) (last : List Nat) (c12 c13 c14 : Option PV) : List (Option PV) := vsF n c2 c3 c4 c5 c6 c7 (some (.ref τ)) (some (.int (tell : Int))) (some (.ref T)) (some (.str (S last))) c12 c13 c14
theorem zIf {n : Nat} {row : List Nat} {c2 c3 c4 c5 c6 c7 : Option PV} {τ tell T : Nat} (hn : n = 5 ∨ n = 6) (hok : RowOk (List.range n) row) {k : Nat} (hk : k < 2) {H : List (Bool × PO)} (hT : zBM H τ (zl row (List.range n))) {fT : Bool} {ys : List PV} (hD : H[T]? = some (fT, .list ys)) (pD : zV H ys = some (dueV (dueGo row (List.range n)))) (c13 c14 : Option PV) :
  ∃ c13' c14' H', lb11 ⟨vsT n c2 c3 c4 c5 c6 c7 τ tell T (lt (zy row (List.range n))) (some (.int (k : Int))) c13 c14, H⟩ = some (.next, ⟨vsT n c2 c3 c4 c5 c6 c7 τ tell T (lt (zy row (List.range n))) (some (.int (k : Int))) c13' c14', H'⟩) ∧ Ext H H' := by
 have hlen : row.length + 2 = n := by have := hok.len; rw [List.length_range] at this; exact this.symm
 have hnp : n ≠ 0 := by lia
 have hn6 : n ≤ 6 := by lia
 have hr : tell / 36 ^ k % n < n := Nat.mod_lt _ (by lia)
 have p36 : 36 ^ k ≠ 0 ∧ 36 ^ k < 1073741824 := by
  have : k = 0 ∨ k = 1 := by lia
  rcases this with rfl | rfl <;> decide
 have p5 : 5 ^ k ≠ 0 ∧ 5 ^ k < 1073741824 := by
  have : k = 0 ∨ k = 1 := by lia
  rcases this with rfl | rfl <;> decide
 apply byC; intro kz; obtain ⟨o, e, l18, pl, l5, h6⟩ := zNY ((tell + k) % 2 == 1) hok hn6 hr; apply kz; clear kz
 obtain ⟨f, a, b, R, el, hf⟩ := zIX ((tell + k) % 2 == 1) hn6 row (List.range n) hok (tell / 36 ^ k % n) (List.mem_range.mpr hr) (fun x hx => List.mem_range.mp hx) (by lia)
 rw [el]
 have q36 : ∀ st, pPow (.int 36) (.int (k : Int)) st = some (.int ((36 ^ k : Nat) : Int), st) := fun st => zIa (b := 36) (by decide) hk
 have q5 : ∀ st, pPow (.int 5) (.int (k : Int)) st = some (.int ((5 ^ k : Nat) : Int), st) := fun st => zIa (b := 5) (by decide) hk
 obtain ⟨w, ed, fw, lw⟩ := zH8 l5 h6 7 (tell / 36 ^ k % n) (-1) (tell / 5 ^ k) ⟨vsT n c2 c3 c4 c5 c6 c7 τ tell T (lt [a, b]) (some (.int (k : Int))) c13 c14, H⟩ hT (by lia) o (by rw [e]; lia)
 rw [e] at fw lw
 have a1 : (pBin pMod (pBin pDiv (pVar 9) (pBin pPow (PM.ret (.int 36)) (pVar 12))) (pVar 1)) ⟨vsT n c2 c3 c4 c5 c6 c7 τ tell T (lt [a, b]) (some (.int (k : Int))) c13 c14, H⟩ = some (.int ((tell / 36 ^ k % n : Nat) : Int), ⟨vsT n c2 c3 c4 c5 c6 c7 τ tell T (lt [a, b]) (some (.int (k : Int))) c13 c14, H⟩) :=
  zE (zE rfl (zE rfl rfl (q36 _)) (zCq tell (36 ^ k) p36.1 p36.2)) rfl (zBY _ n hnp)
 have a4 : (pBin pEq (pBin pMod (pBin pAdd (pVar 9) (pVar 12)) (PM.ret (.int 2))) (PM.ret (.int 1))) ⟨vsT n c2 c3 c4 c5 c6 c7 τ tell T (lt [a, b]) (some (.int (k : Int))) c13 c14, H⟩ = some (.bool ((tell + k) % 2 == 1), ⟨vsT n c2 c3 c4 c5 c6 c7 τ tell T (lt [a, b]) (some (.int (k : Int))) c13 c14, H⟩) :=
  zE (zE (zE rfl rfl (zAw tell k)) rfl (zBY (tell + k) 2 (by decide))) rfl (zCt ((tell + k) % 2) 1)
 have a5 : (pBin pDiv (pVar 9) (pBin pPow (PM.ret (.int 5)) (pVar 12))) ⟨vsT n c2 c3 c4 c5 c6 c7 τ tell T (lt [a, b]) (some (.int (k : Int))) c13 c14, H⟩ = some (.int ((tell / 5 ^ k : Nat) : Int), ⟨vsT n c2 c3 c4 c5 c6 c7 τ tell T (lt [a, b]) (some (.int (k : Int))) c13 c14, H⟩) :=
  zE rfl (zE rfl rfl (q5 _)) (zCq tell (5 ^ k) p5.1 p5.2)
 have s0 : lt0 ⟨vsT n c2 c3 c4 c5 c6 c7 τ tell T (lt [a, b]) (some (.int (k : Int))) c13 c14, H⟩ = some (.next, ⟨vsT n c2 c3 c4 c5 c6 c7 τ tell T (lt [a, b]) (some (.int (k : Int))) (some (.str (S w))) c14, H⟩) :=
  zM (app5c a1 (zBL 1) rfl a4 a5 ed)
 clear a1 a4 a5
 generalize tell / 36 ^ k % n = root at *
 have ep := zL3 ⟨vsT n c2 c3 c4 c5 c6 c7 τ tell T (lt [a, b]) (some (.int (k : Int))) (some (.str (S w))) c14, H⟩ w (by lia) (fun c hc => of_decide_eq_true (fw.ok c hc)) (by rw [fw.eq]; lia)
 rw [fw.eq] at ep
 rw [show row.length = n - 2 by lia] at R
 apply byC; intro kz; obtain ⟨T2, H', ec, x2, fl, xs, g2, l15, q2⟩ := r_cut (vs := vsT n c2 c3 c4 c5 c6 c7 τ tell T (lt [a, b]) (some (.int (k : Int))) (some (.str (S w))) c14) (H := H) hn6 (by lia) R; apply kz; clear kz
 have s1 : lt1 ⟨vsT n c2 c3 c4 c5 c6 c7 τ tell T (lt [a, b]) (some (.int (k : Int))) (some (.str (S w))) c14, H⟩ = some (.next, ⟨vsT n c2 c3 c4 c5 c6 c7 τ tell T (lt [a, b]) (some (.int (k : Int))) (some (.str (S w))) (some (.ref T2)), H'⟩) :=
  zM (app2c (app1c rfl ep) rfl ec)
 have eq2 : cutV ((dueGo row (List.range n)).map fun d => (lt d.1, [97 + d.2])) = dueV (dueGo row (List.range n)) := by
  unfold cutV dueV
  rw [List.map_map]
  rfl
 rw [eq2] at q2
 have el1 := zNd (vs := vsT n c2 c3 c4 c5 c6 c7 τ tell T (lt [a, b]) (some (.int (k : Int))) (some (.str (S w))) (some (.ref T2))) g2 (by lia)
 have x3 := Ext.app H' [((false : Bool), PO.list xs)]
 have g3 := zT H' ((false : Bool), PO.list xs)
 apply byC; intro kz; obtain ⟨f5, g5⟩ := (x2.trans x3) _ _ _ hD; apply kz; clear kz
 apply byC; intro kz; obtain ⟨f6, g6⟩ := x3 _ _ _ g2; apply kz; clear kz
 have en := zNf (vs := vsT n c2 c3 c4 c5 c6 c7 τ tell T (lt [a, b]) (some (.int (k : Int))) (some (.str (S w))) (some (.ref T2))) g3 g5 (zAP x3.t q2) (zAP (x2.trans x3).t pD)
 have x4 := x2.trans x3
 generalize H' ++ [((false : Bool), PO.list xs)] = H3 at el1 g3 g5 g6 en x4
 have s2 : lt2 ⟨vsT n c2 c3 c4 c5 c6 c7 τ tell T (lt [a, b]) (some (.int (k : Int))) (some (.str (S w))) (some (.ref T2)), H'⟩ = some (.next, ⟨vsT n c2 c3 c4 c5 c6 c7 τ tell T (lt [a, b]) (some (.int (k : Int))) (some (.str (S w))) (some (.ref T2)), H3⟩) :=
  zP (c := false) (zQ (zE (zAS rfl rfl (zBL 1) el1) rfl en)) rfl
 have i0 : (pBin pItem (pVar 11) (PM.ret (.int 0))) ⟨vsT n c2 c3 c4 c5 c6 c7 τ tell T (lt [a, b]) (some (.int (k : Int))) (some (.str (S w))) (some (.ref T2)), H3⟩ = some (.str (S [97 + a]), ⟨vsT n c2 c3 c4 c5 c6 c7 τ tell T (lt [a, b]) (some (.int (k : Int))) (some (.str (S w))) (some (.ref T2)), H3⟩) := zE rfl rfl (zBl (k := 0) rfl (by lia))
 have i1 : (pBin pItem (pVar 11) (PM.ret (.int 1))) ⟨vsT n c2 c3 c4 c5 c6 c7 τ tell T (lt [a, b]) (some (.int (k : Int))) (some (.str (S w))) (some (.ref T2)), H3⟩ = some (.str (S [97 + b]), ⟨vsT n c2 c3 c4 c5 c6 c7 τ tell T (lt [a, b]) (some (.int (k : Int))) (some (.str (S w))) (some (.ref T2)), H3⟩) := zE rfl rfl (zBl (k := 1) rfl (by lia))
 have t1 := zIe i0 i1
 have t2 := zIe i1 i0
 have ei : pItem (.ref T2) (.int (-1)) ⟨vsT n c2 c3 c4 c5 c6 c7 τ tell T (lt [a, b]) (some (.int (k : Int))) (some (.str (S w))) (some (.ref T2)), H3⟩ = _ := zHX g6
 have et := zAv (zAT t1 (zAT t2 zAg)) (show 2 ≤ zH by decide)
 have eno := zNg (vs := vsT n c2 c3 c4 c5 c6 c7 τ tell T (lt [a, b]) (some (.int (k : Int))) (some (.str (S w))) (some (.ref T2))) (ss := [S (lastT a b), S (lastT b a)]) (S f) (zT H3 ((false : Bool), PO.tuple [.str (S (lastT a b)), .str (S (lastT b a))]))
 have hcon : [S (lastT a b), S (lastT b a)].contains (S f) = true := List.contains_iff_mem.mpr (by
  rcases hf with rfl | rfl
  ·exact .head _
  ·exact .tail _ (.head _))
 rw [hcon] at eno
 have s3 : lt3 ⟨vsT n c2 c3 c4 c5 c6 c7 τ tell T (lt [a, b]) (some (.int (k : Int))) (some (.str (S w))) (some (.ref T2)), H3⟩ = some (.next, ⟨vsT n c2 c3 c4 c5 c6 c7 τ tell T (lt [a, b]) (some (.int (k : Int))) (some (.str (S w))) (some (.ref T2)), H3 ++ [((false : Bool), PO.tuple [.str (S (lastT a b)), .str (S (lastT b a))])]⟩) :=
  zP (c := false) (zQ (zE (zE rfl (zBL 1) ei) et eno)) rfl
 exact ⟨_, _, _, zD s0 (zD s1 (zD s2 (zD s3 rfl))), x4.trans (Ext.app _ _)⟩
theorem plain (ns : List Int) (hlen : ns.length ≤ 63) : ∃ s', pblaw { vars := zX 15 [.ref 0], hp := [(true, .list (ns.map .int))] } = some (.ret (.bool true), s') := by
 apply byC; intro kz; obtain ⟨n, cs, G, hn, hl, hc, k01⟩ := zMW hlen; apply kz; clear kz
 have gC : ([((true : Bool), PO.list (ns.map .int))] ++ G ++ [((false : Bool), PO.list (iL cs))])[1 + G.length]? = some (false, .list (iL cs)) := by
  have := zT ([((true : Bool), PO.list (ns.map .int))] ++ G) ((false : Bool), PO.list (iL cs))
  rwa [List.length_append, List.length_singleton] at this
 apply byC; intro kz; obtain ⟨c3, c4, c5, r, H6, k26, ⟨fr, gr⟩, f0, g0⟩ := zMY (n := n) (H2 := [((true : Bool), PO.list (ns.map .int))] ++ G ++ [((false : Bool), PO.list (iL cs))]) (C := 1 + G.length) (f0 := true) (ns := ns) gC rfl (by lia) hc (by lia); apply kz; clear kz
 apply byC; intro kz; obtain ⟨row, ρ, τ, tell, T, H, hok, k710, hT, fT, ys, hD, pD⟩ := zNc (c2 := some (.ref (1 + G.length))) (c3 := c3) (c4 := c4) (c5 := c5) hn hl gr g0; apply kz; clear kz
 have hstate : ∀ c12 c13 c14, vsF n (some (.ref (1 + G.length))) c3 c4 c5 (some (.ref r)) (some (.ref ρ)) (some (.ref τ)) (some (.int (tell : Int))) (some (.ref T)) (some (.str (S (lt (zy row (List.range n)))))) c12 c13 c14 = vsT n (some (.ref (1 + G.length))) c3 c4 c5 (some (.ref r)) (some (.ref ρ)) τ tell T (lt (zy row (List.range n))) c12 c13 c14 := fun _ _ _ => rfl
 rw [zMS, k01, k26, k710, hstate]
 have et : zU (pCons (PM.ret (.int 0)) (pCons (PM.ret (.int 1)) pNil)) ⟨vsT n (some (.ref (1 + G.length))) c3 c4 c5 (some (.ref r)) (some (.ref ρ)) τ tell T (lt (zy row (List.range n))) none none none, H⟩ = some (.ref H.length, ⟨vsT n (some (.ref (1 + G.length))) c3 c4 c5 (some (.ref r)) (some (.ref ρ)) τ tell T (lt (zy row (List.range n))) none none none, H ++ [((false : Bool), PO.tuple [.int 0, .int 1])]⟩) := zAv (zAT rfl (zAT rfl zAg)) (show 2 ≤ zH by decide)
 have gt := zT H ((false : Bool), PO.tuple [.int 0, .int 1])
 have x1 := (Ext.app H [((false : Bool), PO.tuple [.int 0, .int 1])]).trans (Ext.fz [H.length] _)
 have es := zLy et gt
 apply byC; intro kz; obtain ⟨f1, h1⟩ := x1 _ _ _ hD; apply kz; clear kz
 obtain ⟨a13, a14, H1, e1, y1⟩ := zIf (c2 := some (.ref (1 + G.length))) (c3 := c3) (c4 := c4) (c5 := c5) (c6 := some (.ref r)) (c7 := some (.ref ρ)) (tell := tell) hn hok (show 0 < 2 by decide) (hT.ext x1) h1 (zAP x1.t pD) none none
 have x2 := x1.trans y1
 apply byC; intro kz; obtain ⟨f2, h2⟩ := x2 _ _ _ hD; apply kz; clear kz
 obtain ⟨b13, b14, H2, e2, y2⟩ := zIf (c2 := some (.ref (1 + G.length))) (c3 := c3) (c4 := c4) (c5 := c5) (c6 := some (.ref r)) (c7 := some (.ref ρ)) (tell := tell) hn hok (show 1 < 2 by decide) (hT.ext x2) h2 (zAP x2.t pD) a13 a14
 have s11 := zCJ (set := pSet 12) (b := lb11) es (zA7 rfl e1 (zA7 rfl e2 rfl))
 exact ⟨_, zD s11 (zZ rfl)⟩
end Mine
theorem PySem.Challenge.cw_st0032_03_holds : PySem.Challenge.rw_st0032_03.Holds :=
  Mine.holds_of_plain Mine.plain
