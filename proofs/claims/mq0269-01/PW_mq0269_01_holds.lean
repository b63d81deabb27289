import PyProof.Rows.All
import Wide.All
import OpenK.AllK
import Wide.FinOn
import Lean
import PySem.Challenge.RW_mq0269_01
set_option Elab.async false

section
open PySem PySem.W PyProof.Rows
namespace Mine

theorem run_last {den : Code → Sem Fin} {p : Program} {w : World} {o : Outcome} {s' : Shared} : ∀ (n : Nat) (s : Shared) (t : Thread), runN den p w n s t = .halted o s' →
    ∃ k s₁ t₁, k < n ∧ runN den p w k s t = .running s₁ t₁ ∧ step den p w s₁ t₁ = .halt o s'
  | 0, s, t, h => by cases h
  | n + 1, s, t, h => by
    simp only [runN] at h
    cases hs : step den p w s t with
    | go s₁ t₁ =>
      rw [hs] at h
      obtain ⟨k, s₂, t₂, hk, hr, e⟩ := run_last n s₁ t₁ h
      exact ⟨k + 1, s₂, t₂, Nat.succ_lt_succ hk, by simp only [runN, hs]; exact hr, e⟩
    | halt o' s₁ =>
      rw [hs] at h
      obtain ⟨rfl, rfl⟩ : o' = o ∧ s₁ = s' := by simpa using h
      exact ⟨0, s, t, Nat.succ_pos _, rfl, hs⟩

theorem run_det {den : Code → Sem Fin} {p : Program} {w : World} {o o' : Outcome} {s' s'' : Shared} : ∀ (n m : Nat) (s : Shared) (t : Thread), runN den p w n s t = .halted o s' → runN den p w m s t = .halted o' s'' → o = o'
  | 0, _, _, _, h, _ => by cases h
  | _, 0, _, _, _, h => by cases h
  | n + 1, m + 1, s, t, h, h' => by
    simp only [runN] at h h'
    cases hs : step den p w s t with
    | go s₁ t₁ => rw [hs] at h h'; exact run_det n m s₁ t₁ h h'
    | halt o₁ s₁ =>
      rw [hs] at h h'
      simp only [Run.halted.injEq] at h h'
      exact h.1.symm.trans h'.1

theorem step_done {den : Code → Sem Fin} {p : Program} {w : World} {s s' : Shared} {t : Thread} {f : Flow} (h : step den p w s t = .halt (.done f) s') : through t = true ∧ s' = s := by
  obtain ⟨heap, gens, drawn, toks, os⟩ := s
  obtain ⟨cur, code, pos, stack⟩ := t
  cases cur <;> simp only [step, finish] at h <;> (repeat' split at h) <;> simp_all [through]
  all_goals (subst h; rfl)

theorem run_snoc {den : Code → Sem Fin} {p : Program} {w : World} {o : Outcome} {s' s'' : Shared} {t' : Thread} : ∀ (k : Nat) (s : Shared) (t : Thread), runN den p w k s t = .running s' t' → step den p w s' t' = .halt o s'' →
    runN den p w (k + 1) s t = .halted o s''
  | 0, s, t, h, hx => by simp only [runN, Run.running.injEq] at h; obtain ⟨rfl, rfl⟩ := h; simp only [runN, hx]
  | k + 1, s, t, h, hx => by
    rw [runN] at h ⊢
    cases hs : step den p w s t with
    | go s₁ t₁ => rw [hs] at h; exact run_snoc k s₁ t₁ h hx
    | halt o s₁ => rw [hs] at h; cases h

theorem ran_of_wp {prog : Program} {w : World} {t : Sem Fin} {s : Shared} {P : Shared → Prop} (hz : s.asleep)
    (h : wpAny (model prog w) callerA t (fun fin s' => (∃ v, fin = .done (.ret v)) ∧ P s' ∧ s'.gens = #[]) (fun _ _ => False) s) :
    ∃ n s' t', schedN (denote table) prog w n (.single s ⟨t, .builtin "claim.caller" {}, default, []⟩) = .running (.single s' t') ∧ through t' = true ∧ P s' ∧ s'.gens = #[] ∧ s'.heap.life = s.heap.life := by
  have h' := wp_of_wpAny_done (R := fun r s' => ((∃ f, r = .ok f) ∧ P s' ∧ s'.gens = #[]) ∧ leftWithCleanup s'.gens = false) caller_in
    (wpAny_mono h (fun fin s' ⟨⟨v, e⟩, hp, hg⟩ => ⟨_, e, ⟨⟨_, rfl⟩, hp, hg⟩, by rw [hg]; simp [leftWithCleanup]⟩) fun _ _ x => x.elim) default
  obtain ⟨n, r, s', hn, ⟨f, rfl⟩, hP, hg⟩ := (wp_iff_halts (M := model prog w) t (fun r s' => (∃ f, r = .ok f) ∧ P s' ∧ s'.gens = #[]) default s).mp h'
  obtain ⟨s'', hr, hf, hc⟩ := runNI_real (model prog w).den (model prog w).prog (model prog w).w hn (outcomeOf_ends (.ok f))
  have hss := Shared.eq_of_forget_eq hf hg
  subst hss
  obtain ⟨k, s₁, t₁, hk, hrk, hst⟩ := run_last n _ _ hr
  obtain ⟨hth, rfl⟩ := step_done hst
  refine ⟨k, _, t₁, ?_, hth, hP, hg, runN_life_running hrk⟩
  have e := schedN_prefix (denote table) prog w k s ⟨t, .builtin "claim.caller" {}, default, []⟩ hz fun j s₂ t₂ hj hrj => ⟨hc j s₂ t₂ hrj, fun hx =>
    absurd (run_det _ _ _ _ hr (run_snoc j _ _ hrj hx)) (by intro e; cases e)⟩
  rw [e, show runN (denote table) prog w k s ⟨t, .builtin "claim.caller" {}, default, []⟩ = _ from hrk]
  rfl
end Mine
end

section
open PySem PySem.W PyProof.Rows
namespace Mine
abbrev pw : Program := PySem.Challenge.pw_mq0269_01

theorem pw_open : opening pw = plainProg pw.main.scope.names := rfl
theorem pw_fence (s : Shared) : fenceModules? pw s = some s := rfl
theorem pw_behind : behindTheImports pw = pw.main.body := rfl

theorem boot_gns (P : Params) : (boot_heap P).isNs mainGlobals = true := by kernel_rfl
theorem boot_bns (P : Params) : (boot_heap P).isNs builtinsNs = true := by kernel_rfl
theorem boot_cns (P : Params) : (boot_heap P).isNs cStatics = true := by kernel_rfl
theorem boot_size (P : Params) : (boot_heap P).objs.size = 11 := rfl
theorem boot_stat (P : Params) (x : Str) : staticOf (boot_heap P) x = none := rfl
theorem boot_ckeys (P : Params) : (boot_heap P).nsKeys cStatics = [] := rfl
theorem boot_gkeys (P : Params) : (boot_heap P).nsKeys mainGlobals = startupNames := rfl
theorem boot_bltin (P : Params) : (boot_heap P).nsMap mainGlobals "__builtins__" = some (.ref 4) := rfl
theorem boot_4 (P : Params) : (boot_heap P).get? 4 = some { cls := .type "module", dict := some builtinsNs } := rfl
theorem boot_life (P : Params) : (boot_heap P).life = {} := rfl
theorem boot_blt (P : Params) : (boot_heap P).bltView = bltViewBooted := by kernel_rfl

theorem code_rec {h h' : Heap} {c Pl : Addr} {ps : Array Value} (x : h.IsCode c Pl ps) (hk : ∀ b o, h.get? b = some o → h'.get? b = some o) : h'.IsCode c Pl ps := x.keeps hk

/-- what stands while the top runs -/
structure TopSt (P : Params) (c Pl : Addr) (mg : Str → Option Value) (ps : Array Value) (h : Heap) : Prop where
  main : h.Main mg c Pl ps
  keep : ∀ b o, b ≠ mainGlobals → (boot_heap P).get? b = some o → h.get? b = some o
  high : 11 ≤ c ∧ 11 ≤ Pl

theorem TopSt.more {P : Params} {c Pl : Addr} {mg mg' : Str → Option Value} {ps ps' : Array Value} {h h' : Heap} (T : TopSt P c Pl mg ps h) (m : h'.Main mg' c Pl ps')
    (k : ∀ b o, b ≠ Pl → b ≠ mainGlobals → h.get? b = some o → h'.get? b = some o) : TopSt P c Pl mg' ps' h' :=
  ⟨m, fun b o hb e => k b o (fun q => by subst q; have := Heap.lt_size e; rw [boot_size] at this; exact absurd T.high.2 (Nat.not_le.mpr this)) hb (T.keep b o hb e), T.high⟩

theorem top_stub {w : World} {os : OsState} {Q : Shared → Prop}
    (h : ∀ c Pl F h tk, TopSt w.params c Pl ((boot_heap w.params).nsMap mainGlobals) #[] h →
      wpAny (model pw w) (callerA.deeper (mainEnv pw c F)) (execs pw.main.body (mainEnv pw c F)) (fun _ s' => Q s') (fun _ _ => False) ⟨h, #[], boot_drawn, tk, os⟩) :
    wpAny (model pw w) callerA (topStub pw).cur (fun fin s' => (∃ v, fin = .done (.ret v)) ∧ Q s') (fun _ _ => False) ⟨boot_heap w.params, #[], boot_drawn, boot_toks, os⟩ := by
  unfold topStub
  dsimp only
  rw [pw_behind]
  have hg := Heap.Ns.of_isNs (boot_gns w.params)
  refine wpAny_bind (wpAny_moduleCode fun c Pl h₁ tk₁ hk₁ hc hPl hcode => ?_)
  dsimp only at hk₁ hc hPl
  rw [boot_size] at hc hPl
  unfold newBodyFrame
  refine wpAny_bind (wpAny_bind (wpAny_nsGet (hg.keeps hk₁) (wpAny_alloc ?_)))
  refine wpAny_bind (wpAny_run (codeAny_body rfl rfl (wpAny_mono (h c Pl _ _ _ ⟨⟨?_, ?_, ⟨?_, ?_⟩, ?_⟩, ?_, hc, hPl⟩) (fun f s' q => wpAny_pure ⟨⟨_, rfl⟩, q⟩) fun _ _ x => x.elim)))
  · exact (hg.keeps hk₁).push _
  · exact hcode.push _
  · exact Nat.lt_of_lt_of_le (by decide) hc
  · exact Nat.lt_of_lt_of_le (by decide) hPl
  · exact ⟨4, _, boot_bltin _, by decide, by decide, Nat.ne_of_lt (Nat.lt_of_lt_of_le (by decide) hPl), Heap.get?_push_of_some _ (hk₁ _ _ (boot_4 _)), rfl, rfl, rfl⟩
  · exact fun b o _ e => Heap.get?_push_of_some _ (hk₁ b o e)
end Mine
end

section
open PySem PySem.W PyProof.Rows
namespace Mine

/-- a def of the text, as the top leaves it -/
def FnAt (h : Heap) (a : Addr) (name : Str) (params : Arguments) (body : List Stmt) (scope : Scope) : Prop :=
  ∃ pm c doc, h.get? a = some { cls := .type "function", data := .func (Calls.docDef name params body scope pm (.ref c) doc) } ∧ h.CodeRec (.ref c) name

theorem FnAt.keeps {h h' : Heap} {a : Addr} {name : Str} {params : Arguments} {body : List Stmt} {scope : Scope} (F : FnAt h a name params body scope) (k : ∀ b o, h.get? b = some o → h'.get? b = some o) : FnAt h' a name params body scope :=
  let ⟨pm, c, doc, x, y⟩ := F; ⟨pm, c, doc, k _ _ x, y.at fun o e => k _ o e⟩

/-- the same, with what is needed to keep it while the top runs -/
def FnTop (Pl : Addr) (h : Heap) (a : Addr) (name : Str) (params : Arguments) (body : List Stmt) (scope : Scope) : Prop :=
  ∃ pm c doc, (a ≠ Pl ∧ a ≠ mainGlobals ∧ c ≠ Pl ∧ c ≠ mainGlobals) ∧ h.get? a = some { cls := .type "function", data := .func (Calls.docDef name params body scope pm (.ref c) doc) } ∧ h.CodeRec (.ref c) name
theorem FnTop.at {Pl : Addr} {h : Heap} {a : Addr} {name : Str} {params : Arguments} {body : List Stmt} {scope : Scope} (F : FnTop Pl h a name params body scope) : FnAt h a name params body scope :=
  let ⟨pm, c, doc, _, x, y⟩ := F; ⟨pm, c, doc, x, y⟩
abbrev OldT (Pl : Addr) (h h' : Heap) : Prop := ∀ b o, b ≠ Pl → b ≠ mainGlobals → h.get? b = some o → h'.get? b = some o
theorem FnTop.keeps {Pl : Addr} {h h' : Heap} {a : Addr} {name : Str} {params : Arguments} {body : List Stmt} {scope : Scope} (F : FnTop Pl h a name params body scope) (k : OldT Pl h h') : FnTop Pl h' a name params body scope :=
  let ⟨pm, c, doc, n, x, y⟩ := F; ⟨pm, c, doc, n, k _ _ n.1 n.2.1 x, y.at fun o e => k _ o n.2.2.1 n.2.2.2 e⟩

section
variable {M : Model} {A : Around} {E : Value → Shared → Prop} {s : Shared} {P : Params} {c Pl F : Addr} {mg : Str → Option Value} {ps : Array Value} {Q : Flow → Shared → Prop}

theorem top_def {name : Str} {params : Arguments} {body : List Stmt} {scope : Scope} {pos : Pos} (T : TopSt P c Pl mg ps s.heap)
    (h : ∀ a c' h' tk, TopSt P c Pl (fun x => if x = name then some (.ref a) else mg x) (ps ++ #[rawInt pos.line, rawInt pos.col, .ref c']) h' → FnTop Pl h' a name params body scope → OldT Pl s.heap h' → Q .next { s with heap := h', toks := tk })
    (hdf : params.defaults = []) (hkw : params.kwonlyargs = []) (hkd : params.kw_defaults = []) (hann0 : ∀ c F, annTrees params none (mainEnv pw c F) = [])
    (hfree : ∀ x ∈ scope.names, x.2 ≠ .free) (hloc : pw.main.scope.names.lookup name = some .local)
    (hq : qualnameIn { scope := pw.main.scope, locals := mainGlobals, globals := mainGlobals, cells := [] } name name = name) (hnb : name ≠ "__builtins__") (hnf : codeAmong pos ps.toList = none) :
    wpAny M A (exec (.FunctionDef name params body [] none [] scope none name pos) (mainEnv pw c F)) Q E s := by
  refine wpAny_defStmt0N hkw hkd (by rw [hdf]; intro e he; cases he) (hann0 _ _) hfree hloc hq T.main (fun a c' doc dV vs h' tk ha hm hfo hvs hdef hcr _ hk => ?_) hnb rfl hnf
  have hvs' : vs = [] := by
    rw [hdf] at hvs
    cases vs with
    | nil => rfl
    | cons _ _ => exact hvs.elim
  subst hvs'
  have hdV : dV = .none := hdef.elim (fun e => e.2) fun e => absurd rfl e.1
  subst hdV
  have hPl := T.main.code.lt.2
  have hG := T.main.g.lt
  have e := h a c' h' tk (T.more hm hk) ⟨_, c', doc, ⟨Nat.ne_of_gt (Nat.lt_of_lt_of_le hPl ha), Nat.ne_of_gt (Nat.lt_of_lt_of_le hG ha), Nat.ne_of_gt (Nat.lt_of_lt_of_le hPl hcr.1), Nat.ne_of_gt (Nat.lt_of_lt_of_le hG hcr.1)⟩, hfo, hcr.2⟩ hk
  exact e
end
end Mine
end

section
open PySem PySem.W PyProof.Rows
namespace Mine

theorem fresh_at {α : Type} {l : List α} (h : l.Nodup) {i : Nat} {x : α} (hx : l[i]? = some x) : x ∉ l.take i := by
  intro hm
  rw [← List.take_append_drop i l] at h
  refine (List.nodup_append.mp h).2.2 x hm x ?_ rfl
  exact List.mem_of_getElem? (i := 0) (by rw [List.getElem?_drop]; exact hx)

section
variable {prog : Program} {w : World} {A : Around} {E : Value → Shared → Prop} {s : Shared}

/-- a loop over 0 .. n-1 by what holds ahead of each turn -/
theorem each_index {n : Nat} {f : Nat → PUnit → Sem (ForInStep PUnit)} {I : Nat → Shared → Prop} {Q : PUnit → Shared → Prop}
    (turn : ∀ i u s', i < n → I i s' → wpAny (model prog w) A (f i u) (fun r s'' => r = .yield ⟨⟩ ∧ I (i + 1) s'') E s')
    (fin : ∀ u s', I n s' → Q u s') (h : I 0 s) : wpAny (model prog w) A (forIn (List.range n) ⟨⟩ f) Q E s := by
  refine wpAny_forIn_list f (fun todo _ s' => ∃ i, I i s' ∧ i ≤ n ∧ todo = (List.range n).drop i) Q ?_ ?_ _ _ ⟨0, h, Nat.zero_le n, rfl⟩
  · rintro x todo u s' ⟨i, hi, hle, e⟩
    by_cases hlt : i < n
    · rw [List.drop_eq_getElem_cons (by simpa using hlt), List.getElem_range] at e
      cases e
      refine wpAny_mono (turn x u s' hlt hi) (fun r s'' hr => ?_) fun _ _ y => y
      rw [hr.1]
      exact ⟨x + 1, hr.2, hlt, rfl⟩
    · rw [List.drop_eq_nil_of_le (by simp; omega)] at e
      cases e
  · rintro u s' ⟨i, hi, hle, e⟩
    have : n ≤ i := by simpa using List.drop_eq_nil_iff.mp e.symm
    exact fin u s' (Nat.le_antisymm hle this ▸ hi)

variable {K : Type} [DecidableEq K] {knd : KeyKind prog w K}

theorem absent {es : Array DictEntry} {kvs : List (K × Value)} {k : K} (hp : Pairs knd es.toList kvs) (h : k ∉ kvs.map (·.1)) : (es.findIdx? fun e => knd.is k e.key) = none := by
  have e := hp.findIdx k
  have none_has : ∀ x ∈ kvs, decide (x.1 = k) = false := fun x hx => decide_eq_false fun hk => h (List.mem_map.mpr ⟨x, hx, hk⟩)
  rw [List.findIdx?_eq_none_iff.mpr none_has] at e
  cases es
  simpa using e

theorem put_fresh {d : Addr} {kvs : List (K × Value)} {k : K} {key v : Value} {Q : Unit → Shared → Prop} (hkey : knd.is k key = true) (hm : s.heap.DictOf knd d kvs) (hfr : k ∉ kvs.map (·.1)) (hsz : kvs.length ≤ sizeLine)
    (hQ : ∀ h', h'.DictOf knd d (kvs ++ [(k, v)]) → Heap.SameBut d s.heap h' → Q () { s with heap := h' }) :
    wpAny (model prog w) A (dictPut d (knd.hash k) key v) Q E s := by
  rcases hm with ⟨ob, es, ep, hget, hcls, hdat, hkeys, hpairs, hnod⟩
  have small : es.size ≤ sizeLine := by rw [← Array.length_toList, hpairs.length]; exact hsz
  have pairs' := hpairs.append hkey (knd.hash k) v
  have nod' : ((kvs ++ [(k, v)]).map (·.1)).Nodup := by
    rw [List.map_append]
    exact (List.perm_append_singleton k _).nodup_iff.mpr (List.nodup_cons.mpr ⟨hfr, hnod⟩)
  rw [dictPut]
  refine wpAny_bind (wpAny_dictFind_of hkey hget hdat hkeys ?_)
  rw [absent hpairs hfr]
  apply wpAny_updateDictKeys (hz := small) hget hdat
  have dat' := Obj.data_mapDictKeys hdat fun l => l.push ⟨knd.hash k, key, v⟩
  refine hQ _ ⟨_, es.push ⟨knd.hash k, key, v⟩, ep + 1, ?_, hcls.mapDictKeys _, dat', hkeys.push hkey _, ?_, nod'⟩ (Heap.SameBut.update ..)
  · exact Heap.get?_update_self _ hget (Obj.isFreed_of_dict dat')
  · rw [Array.toList_push]; exact pairs'

/-- a dict whose keys are all new, put into one that isn't empty -/
theorem merge_fresh {d o : Addr} {kvs more : List (K × Value)} {Q : Unit → Shared → Prop} (hdo : d ≠ o) (hoS : (o == sysModules) = false) (hd : s.heap.DictOf knd d kvs) (ho : s.heap.DictOf knd o more)
    (h0 : kvs ≠ []) (hnd : ((kvs ++ more).map (·.1)).Nodup) (hQ : ∀ h', h'.DictOf knd d (kvs ++ more) → Heap.SameBut d s.heap h' → Q () { s with heap := h' }) (hsz : kvs.length + more.length ≤ sizeLine) :
    wpAny (model prog w) A (mergeMapping d (.ref o) false) Q E s := by
  generalize hall : kvs ++ more = all at hnd hQ
  have first : all.take kvs.length = kvs := by rw [← hall]; exact List.take_left
  rw [mergeMapping]
  refine wpAny_bind (wpAny_isInstance ho.typeIs F.sub_dict_dict ?_)
  simp only [if_true]
  refine wpAny_bind (wpAny_specialOf ho.typeIs F.slot_dict_iter.lookup (wpAny_bind (wpAny_pure ?_)))
  have iter_is : (some (Value.builtin "dict.__iter__") == some (Value.builtin "dict.__iter__")) = true := rfl
  try rw [iter_is]
  dsimp only
  simp only [hoS, Bool.false_eq_true, if_false]
  rcases id hd with ⟨od, esd, epd, hod, -, hdd, -, hpd, -⟩
  rcases ho with ⟨oo, eso, epo, hoo, hco, hdo', hko, hpo, hno⟩
  have filled : esd.isEmpty = false := by
    rw [Bool.eq_false_iff]
    intro he
    have z := hpd.length
    rw [Array.isEmpty_iff.mp he] at z
    exact h0 (List.length_eq_zero_iff.mp z.symm)
  have count : eso.size = more.length := by rw [← Array.length_toList]; exact hpo.length
  refine wpAny_bind (wpAny_dictEntries hod hdd ?_)
  simp only [filled, Bool.false_eq_true, if_false]
  refine wpAny_bind (wpAny_dictEntries hoo hdo' (wpAny_bind (wpAny_dictEpoch hoo hdo' (wpAny_bind ?_))))
  refine each_index (I := fun i s' => ∃ h', s' = { s with heap := h' } ∧ h'.DictOf knd d (all.take (kvs.length + i)) ∧ Heap.SameBut d s.heap h') ?_ ?_ ⟨s.heap, rfl, by rw [Nat.add_zero, first]; exact hd, Heap.SameBut.refl _ _⟩
  · rintro i u s' hi ⟨h', rfl, hd', same⟩
    have still : h'.get? o = some oo := (same.2 o (Ne.symm hdo)).trans hoo
    have hm : i < more.length := count ▸ hi
    have here : all[kvs.length + i]? = some more[i] := by
      rw [← hall, List.getElem?_append_right (Nat.le_add_right _ _), Nat.add_sub_cancel_left, List.getElem?_eq_getElem hm]
    obtain ⟨his, hval⟩ := hpo.get? (i := i) (e := eso[i]) (k := more[i].1) (v := more[i].2) (by simp [hi]) (List.getElem?_eq_getElem hm)
    have hhash : eso[i].hash = knd.hash more[i].1 := by
      rcases hko eso[i] (Array.getElem_mem hi) with ⟨k', hk', e⟩
      rw [e, knd.inj _ _ _ hk' his]
    refine wpAny_bind (wpAny_dictEntries still hdo' ?_)
    rw [Array.getElem?_eq_getElem hi]
    dsimp only
    refine wpAny_bind (wpAny_holding ?_)
    rw [hhash, hval]
    refine put_fresh his hd' ?_ ?_ fun h'' hd'' same' => ?_
    · rw [List.map_take]
      exact fresh_at hnd (by rw [List.getElem?_map, here]; rfl)
    · rw [List.length_take]
      have : all.length = kvs.length + more.length := by rw [← hall, List.length_append]
      omega
    · refine wpAny_bind (wpAny_dictEpoch ((same'.2 o (Ne.symm hdo)).trans still) hdo' ?_)
      rw [if_neg (by simp)]
      refine wpAny_pure ⟨rfl, h'', rfl, ?_, same.trans same'⟩
      rw [← Nat.add_assoc, List.take_add_one, here]
      exact hd''
  · rintro u s' ⟨h', rfl, hd', same⟩
    refine wpAny_pure (hQ h' ?_ same)
    rw [count, ← List.length_append, hall, List.take_length] at hd'
    exact hd'
end
end Mine
end

section
open PySem PySem.W PyProof.Rows
namespace Mine

inductive All2 {α β : Type} (R : α → β → Prop) : List α → List β → Prop
  | nil : All2 R [] []
  | cons {a : α} {b : β} {as : List α} {bs : List β} : R a b → All2 R as bs → All2 R (a :: as) (b :: bs)
theorem All2.append {α β : Type} {R : α → β → Prop} {as as' : List α} {bs bs' : List β} (h : All2 R as bs) (h' : All2 R as' bs') : All2 R (as ++ as') (bs ++ bs') := by
  induction h with
  | nil => exact h'
  | cons r _ ih => exact .cons r ih
theorem All2.length {α β : Type} {R : α → β → Prop} {as : List α} {bs : List β} (h : All2 R as bs) : as.length = bs.length := by
  induction h with
  | nil => rfl
  | cons _ _ ih => simp [ih]

def IsC (p : Sem Value × Sem Value) (q : Int × Str) : Prop :=
  (∃ k pos env, p.1 = eval (.Constant (.int q.1) k pos) env) ∧ ∃ k pos pos' env, p.2 = (do let x ← eval (.Constant (.str q.2) k pos) env; standAt pos'; pure x)
def KV (kv : Int × Value) (q : Int × Str) : Prop := kv.1 = q.1 ∧ ∃ t, kv.2 = .str q.2 t
theorem KV.keys {kvs : List (Int × Value)} {qs : List (Int × Str)} (h : All2 KV kvs qs) : kvs.map (·.1) = qs.map (·.1) := by
  induction h with
  | nil => rfl
  | cons r _ ih => simp [ih, r.1]

theorem Keeps.refl (s : Shared) : Keeps s s := ⟨s.heap, s.toks, rfl, fun _ _ e => e⟩
theorem Keeps.trans {a b c : Shared} (h : Keeps a b) (h' : Keeps b c) : Keeps a c := by
  obtain ⟨h1, t1, rfl, k1⟩ := h
  obtain ⟨h2, t2, rfl, k2⟩ := h'
  exact ⟨h2, t2, rfl, fun b o e => k2 b o (k1 b o e)⟩

section
variable {prog : Program} {w : World} {A : Around} {E : Value → Shared → Prop} {s : Shared}

theorem isC_key {p : Sem Value × Sem Value} {q : Int × Str} (h : IsC p q) {Q : Value → Shared → Prop} (hQ : ∀ t tk, Q (.int q.1 t) { s with toks := tk }) : wpAny (model prog w) A p.1 Q E s := by
  obtain ⟨⟨k, pos, env, e⟩, _⟩ := h
  rw [e]
  exact wpAny_Constant_int (hQ _ _)
theorem isC_val {p : Sem Value × Sem Value} {q : Int × Str} (h : IsC p q) {Q : Value → Shared → Prop} (hQ : ∀ t tk, Q (.str q.2 t) { s with toks := tk }) : wpAny (model prog w) A p.2 Q E s := by
  obtain ⟨_, k, pos, pos', env, e⟩ := h
  rw [e]
  exact wpAny_bind (wpAny_Constant_str (wpAny_bind (wpAny_standAt (wpAny_pure (hQ _ _)))))

theorem evalPairs_c : ∀ (run : List (Sem Value × Sem Value)) (qs : List (Int × Str)) (s : Shared) (Q : List (Value × Value) → Shared → Prop), All2 IsC run qs →
    (∀ vs kvs tk, Carries (intKind prog w) vs kvs → All2 KV kvs qs → Q vs { s with toks := tk }) → wpAny (model prog w) A (evalPairs run) Q E s
  | [], [], s, Q, _, hQ => evalPairs_nil (hQ [] [] s.toks trivial .nil)
  | (k, v) :: run, q :: qs, s, Q, h, hQ => by
    cases h with
    | cons r h =>
      refine evalPairs_cons (isC_key r fun t tk => isC_val r fun t' tk' => ?_)
      exact evalPairs_c run qs _ _ h fun vs kvs tk'' hc hk => hQ _ ((q.1, .str q.2 t') :: kvs) tk'' ⟨intKind_is _ _ _ _, rfl, hc⟩ (.cons ⟨rfl, _, rfl⟩ hk)
  | [], _ :: _, _, _, h, _ => nomatch h
  | _ :: _, [], _, _, h, _ => nomatch h

theorem sub_c {run : List (Sem Value × Sem Value)} {qs : List (Int × Str)} {Q : Addr → Shared → Prop} (h : All2 IsC run qs) (hnd : (qs.map (·.1)).Nodup) (hlen : run.length ≤ 1000)
    (hQ : ∀ kvs h' tk, h'.DictOf (intKind prog w) s.heap.objs.size kvs → All2 KV kvs qs → (∀ b o, s.heap.get? b = some o → h'.get? b = some o) → Q s.heap.objs.size { s with heap := h', toks := tk }) :
    wpAny (model prog w) A (subDict run) Q E s := by
  by_cases hl : run.length ≤ 15
  · refine wpAny_subDict (knd := intKind prog w) hl (evalPairs_c run qs _ _ h fun vs kvs tk hc hk => ?_)
    refine ⟨kvs, hc, Heap.DictOf.new s.heap, fun h' hd hs => ?_⟩
    rw [merged_nil_of_nodup kvs (by rw [KV.keys hk]; exact hnd)] at hd
    exact hQ kvs h' _ hd hk fun b o e => hs.extBut b o (Nat.ne_of_lt (Heap.lt_size e)) (Heap.get?_push_of_some _ e)
  · unfold subDict
    refine wpAny_bind (wpAny_alloc ?_)
    refine wpAny_bind (wpAny_holding ?_)
    rw [if_neg hl]
    refine wpAny_bind (wpAny_rule ?_)
    refine wpAny_bind ?_
    refine wpAny_forIn_list _ (fun rest _ s' => ∃ h' tk done dq rq kvs, s' = { s with heap := h', toks := tk } ∧ run = done ++ rest ∧ qs = dq ++ rq ∧ All2 IsC rest rq ∧ h'.DictOf (intKind prog w) s.heap.objs.size kvs ∧ All2 KV kvs dq ∧
      (∀ b o, s.heap.get? b = some o → h'.get? b = some o)) _ ?_ ?_ _ _ ⟨_, s.toks, [], [], qs, [], rfl, rfl, rfl, h, Heap.DictOf.new s.heap, .nil, fun b o e => Heap.get?_push_of_some _ e⟩
    · rintro x rest b s' ⟨h', tk, done, dq, rq, kvs, rfl, e1, e2, hr, hd, hk, hkp⟩
      cases hr with
      | @cons _ q _ rq r hr =>
        refine wpAny_bind (isC_key r fun t tk1 => ?_)
        refine wpAny_bind (wpAny_holding (isC_val r fun t' tk2 => ?_))
        refine wpAny_bind (wpAny_holding ?_)
        have hfr : q.1 ∉ kvs.map (·.1) := by
          rw [KV.keys hk]
          intro hm
          rw [e2, List.map_append, List.nodup_append] at hnd
          exact hnd.2.2 _ hm _ (by simp) rfl
        have hks : kvs.length ≤ sizeLine := by
          have := hk.length
          have l1 : dq.length ≤ qs.length := by rw [e2, List.length_append]; omega
          have l2 := h.length
          rw [sizeLine_eq]; omega
        refine wpAny_dictSet_pairs (knd := intKind prog w) (k := q.1) (intKind_is _ _ _ _) hd (fun h'' hd'' hs'' => wpAny_pure ?_) hks
        refine ⟨h'', _, done ++ [x], dq ++ [q], rq, kvs ++ [(q.1, .str q.2 t')], rfl, by simp [e1], by simp [e2], hr, ?_, hk.append (.cons ⟨rfl, _, rfl⟩ .nil), fun b o e => hs''.extBut b o (Nat.ne_of_lt (Heap.lt_size e)) (hkp b o e)⟩
        have hany : ¬ (kvs.any fun kv => decide (kv.1 = q.1)) = true := by
          rw [List.any_eq_true]
          rintro ⟨kv, hkv, he⟩
          exact hfr (List.mem_map.mpr ⟨kv, hkv, of_decide_eq_true he⟩)
        rw [stored, if_neg hany] at hd''
        exact hd''
    · rintro b s' ⟨h', tk, done, dq, rq, kvs, rfl, e1, e2, hr, hd, hk, hkp⟩
      cases hr
      rw [List.append_nil] at e2
      subst e2
      exact wpAny_pure (wpAny_pure (hQ kvs h' tk hd hk hkp))
end
end Mine
end

section
open PySem PySem.W PyProof.Rows
namespace Mine

section
variable {prog : Program} {w : World} {A : Around} {E : Value → Shared → Prop}

def MainOk (prog : Program) (w : World) (n : Nat) (h : Heap) (main : Option Addr) (dq : List (Int × Str)) : Prop :=
  match main with
  | none => dq = []
  | some d => n ≤ d ∧ dq ≠ [] ∧ ∃ kvs, h.DictOf (intKind prog w) d kvs ∧ All2 KV kvs dq

/-- what a flush of the gathered pairs is to do -/
def Flushes (prog : Program) (w : World) (A : Around) (E : Value → Shared → Prop) (s₀ : Shared) (flush : List (Sem Value × Sem Value) → Option Addr → Sem (Option Addr)) : Prop :=
  ∀ {h : Heap} {tk : Nat} {run : List (Sem Value × Sem Value)} {dq rq : List (Int × Str)} {main : Option Addr} {Q : Option Addr → Shared → Prop},
    s₀.heap.objs.size ≤ h.objs.size → All2 IsC run rq → MainOk prog w s₀.heap.objs.size h main dq → ((dq ++ rq).map (·.1)).Nodup → run.length ≤ 17 → dq.length ≤ 100000 →
    (∀ main' h' tk', h.objs.size ≤ h'.objs.size → MainOk prog w s₀.heap.objs.size h' main' (dq ++ rq) → (∀ b o, s₀.heap.get? b = some o → h.get? b = some o → h'.get? b = some o) → Q main' { s₀ with heap := h', toks := tk' }) →
    wpAny (model prog w) A (flush run main) Q E { s₀ with heap := h, toks := tk }

theorem display_c {s₀ : Shared} {items : List (Sem Value × Sem Value)} {qs : List (Int × Str)} {Q : Value → Shared → Prop} (hn : 2 ≤ s₀.heap.objs.size) (h2 : All2 IsC items qs) (hnd : (qs.map (·.1)).Nodup) (hne : items ≠ []) (hlen : items.length ≤ 100000)
    (hQ : ∀ d kvs h' tk, s₀.heap.objs.size ≤ d → h'.DictOf (intKind prog w) d kvs → All2 KV kvs qs → (∀ b o, s₀.heap.get? b = some o → h'.get? b = some o) → Q (.ref d) { s₀ with heap := h', toks := tk }) :
    wpAny (model prog w) A (dictDisplay (items.map fun p => (some p.1, p.2))) Q E s₀ := by
  unfold dictDisplay
  extract_lets +lift flush main₀ run₀
  have flush_c : Flushes prog w A E s₀ flush := by
    intro h tk run dq rq main Q hsz hr hm hnd hl hl' hQ
    dsimp only [flush]
    cases hr with
    | nil =>
      rw [if_pos (by rfl)]
      rw [List.append_nil] at hQ
      exact wpAny_pure (hQ main h tk (Nat.le_refl _) hm fun _ _ _ e => e)
    | @cons x q run rq r hr =>
      rw [if_neg (by simp)]
      have hnd2 : ((q :: rq).map (·.1)).Nodup := by rw [List.map_append, List.nodup_append] at hnd; exact hnd.2.1
      cases main with
      | none =>
        obtain rfl : dq = [] := hm
        refine wpAny_bind (sub_c (.cons r hr) hnd2 (by omega) fun kvs h' tk' hd hk hkp => wpAny_pure ?_)
        exact hQ _ h' tk' (by obtain ⟨o, _, _, ho, _⟩ := hd; exact Nat.le_of_lt (Heap.lt_size ho)) ⟨hsz, by simp, kvs, hd, hk⟩ fun b o _ e => hkp b o e
      | some d =>
        obtain ⟨hd0, hne, kvs₀, hD, hK⟩ := hm
        refine wpAny_bind (wpAny_holding (sub_c (.cons r hr) hnd2 (by omega) fun kvs h' tk' hd hk hkp => ?_))
        dsimp only at hd hk hkp ⊢
        have hlt : d < h.objs.size := by obtain ⟨o, _, _, ho, _⟩ := hD; exact Heap.lt_size ho
        have hD' : h'.DictOf (intKind prog w) d kvs₀ := by
          obtain ⟨o, es, ep, ho, rest⟩ := hD
          exact ⟨o, es, ep, hkp _ _ ho, rest⟩
        refine wpAny_bind (wpAny_onRaise (wpAny_holding (merge_fresh (Nat.ne_of_lt hlt) ?_ hD' hd ?_ ?_ (fun h'' hd'' hs'' => wpAny_pure ?_) ?_)))
        · have : h.objs.size ≠ 1 := by omega
          simpa [sysModules] using this
        · intro e; subst e; cases hK; exact hne rfl
        · rw [KV.keys (hK.append hk)]; exact hnd
        · refine hQ _ h'' tk' ?_ ⟨hd0, by simp, _, hd'', hK.append hk⟩ fun b o e0 e => ?_
          · rw [hs''.1]; obtain ⟨o, _, _, ho, _⟩ := hd; exact Nat.le_of_lt (Heap.lt_size ho)
          · exact hs''.extBut b o (Nat.ne_of_lt (Nat.lt_of_lt_of_le (Heap.lt_size e0) hd0)) (hkp b o e)
        · have e1 := hK.length
          have e2 := hk.length
          have e3 := hr.length
          simp only [List.length_cons] at e2 hl
          rw [sizeLine_eq]; omega
  clear_value flush
  dsimp only [main₀, run₀]
  refine wpAny_bind ?_
  refine wpAny_forIn_list _ (fun rest (st : Option Addr × List (Sem Value × Sem Value)) s' => ∃ h' tk rest' dq runq restq, s' = { s₀ with heap := h', toks := tk } ∧ rest = rest'.map (fun p => (some p.1, p.2)) ∧ qs = dq ++ runq ++ restq ∧ All2 IsC st.2 runq ∧ All2 IsC rest' restq ∧ st.2.length < 17 ∧
      MainOk prog w s₀.heap.objs.size h' st.1 dq ∧ s₀.heap.objs.size ≤ h'.objs.size ∧ (∀ b o, s₀.heap.get? b = some o → h'.get? b = some o)) _ ?_ ?_ _ _ ⟨s₀.heap, s₀.toks, items, [], [], qs, rfl, rfl, by simp, .nil, h2, (by decide), (show MainOk prog w _ _ none [] from rfl), Nat.le_refl _, fun _ _ e => e⟩
  · rintro ⟨k, v⟩ rest ⟨main, run⟩ s' ⟨h', tk, rest', dq, runq, restq, rfl, er, eq, hrun, hrest, hl, hm, hsz, hkp⟩
    cases hrest with
    | nil => simp at er
    | @cons p q rest' restq r hrest =>
      simp only [List.map_cons, List.cons.injEq, Prod.mk.injEq] at er
      obtain ⟨⟨rfl, rfl⟩, rfl⟩ := er
      dsimp only at hrun hm hl ⊢
      by_cases h17 : run.length + 1 = 17
      · rw [if_pos (by simp [h17])]
        have hlq : dq.length ≤ 100000 := by
          have := h2.length
          rw [eq] at this
          simp only [List.length_append, List.length_cons] at this
          omega
        refine wpAny_bind (flush_c (rq := runq ++ [q]) hsz (hrun.append (.cons r .nil)) hm ?_ (by simp [h17]) hlq fun main' h'' tk'' hsz'' hm'' hkp'' => wpAny_pure ?_)
        · rw [eq, List.append_assoc, List.map_append, List.map_append, List.map_cons, List.nodup_append] at hnd
          rw [List.map_append, List.map_append, List.nodup_append]
          refine ⟨hnd.1, ?_, fun a ha b hb => hnd.2.2 a ha b ?_⟩
          · have := hnd.2.1
            rw [List.nodup_append] at this ⊢
            refine ⟨this.1, by simp, fun a ha b hb => this.2.2 a ha b ?_⟩
            simp only [List.map_cons, List.map_nil, List.mem_singleton] at hb
            subst hb; exact List.mem_cons_self
          · rcases List.mem_append.mp hb with hb | hb
            · exact List.mem_append_left _ hb
            · simp only [List.map_cons, List.map_nil, List.mem_singleton] at hb
              subst hb; exact List.mem_append_right _ List.mem_cons_self
        · exact ⟨h'', tk'', rest', dq ++ (runq ++ [q]), [], restq, rfl, rfl, by simp [eq], .nil, hrest, (by show 0 < 17; decide), hm'', Nat.le_trans hsz hsz'', fun b o e => hkp'' b o e (hkp b o e)⟩
      · rw [if_neg (by simp; omega)]
        refine wpAny_pure ⟨h', tk, rest', dq, runq ++ [q], restq, rfl, rfl, by simp [eq], hrun.append (.cons r .nil), hrest, by simp; omega, hm, hsz, hkp⟩
  · rintro ⟨main, run⟩ s' ⟨h', tk, rest', dq, runq, restq, rfl, er, eq, hrun, hrest, hl, hm, hsz, hkp⟩
    have hr0 : rest' = [] := by simpa using er.symm
    subst hr0
    cases hrest
    rw [List.append_nil] at eq
    subst eq
    have hlq : dq.length ≤ 100000 := by
      have := h2.length
      simp only [List.length_append] at this
      omega
    refine wpAny_bind (flush_c hsz hrun hm hnd (Nat.le_of_lt hl) hlq fun main' h'' tk'' hsz'' hm'' hkp'' => ?_)
    cases main' with
    | none =>
      exfalso
      have e : dq ++ runq = [] := hm''
      rw [e] at h2
      cases h2
      exact hne rfl
    | some d =>
      obtain ⟨hd, _, kvs, hD, hK⟩ := hm''
      exact wpAny_pure (hQ d kvs h'' tk'' hd hD hK fun b o e => hkp'' b o e (hkp b o e))
end
end Mine
end

section
open PySem PySem.W PyProof.Rows
namespace Mine

@[irreducible] def st (i : Nat) : Stmt := (pw.main.body[i]?).getD (.Pass default)
def noArgs : Arguments := { posonlyargs := [], args := [], vararg := none, kwonlyargs := [], kw_defaults := [], kwarg := none, defaults := [] }
def fnParams : Stmt → Arguments
  | .FunctionDef _ a .. => a
  | _ => noArgs
def fnBody : Stmt → List Stmt
  | .FunctionDef _ _ b .. => b
  | _ => []
def fnScope : Stmt → Scope
  | .FunctionDef _ _ _ _ _ _ s .. => s
  | _ => { kind := .function, names := [], isGenerator := false, isCoroutine := false, more := [] }
def fnPos : Stmt → Pos
  | .FunctionDef _ _ _ _ _ _ _ _ _ p => p
  | _ => default

theorem body_eq : pw.main.body = [st 0, st 1, st 2, st 3, st 4, st 5, st 6, st 7, st 8, st 9, st 10, st 11, st 12, st 13, st 14, st 15, st 16, st 17] := by unfold st; rfl
abbrev IsDef (i : Nat) (name : Str) : Prop := st i = .FunctionDef name (fnParams (st i)) (fnBody (st i)) [] none [] (fnScope (st i)) none name (fnPos (st i))
theorem st1 : IsDef 1 "splitdoc" := by unfold IsDef st; rfl
theorem st4 : IsDef 4 "in_table_b1" := by unfold IsDef st; rfl
theorem st6 : IsDef 6 "map_table_b3" := by unfold IsDef st; rfl
theorem st8 : IsDef 8 "_law_whites" := by unfold IsDef st; rfl
theorem st9 : IsDef 9 "_law_strands" := by unfold IsDef st; rfl
theorem st10 : IsDef 10 "_law_figures" := by unfold IsDef st; rfl
theorem st11 : IsDef 11 "_law_rows" := by unfold IsDef st; rfl
theorem st12 : IsDef 12 "_law_front" := by unfold IsDef st; rfl
theorem st13 : IsDef 13 "_law_back" := by unfold IsDef st; rfl
theorem st14 : IsDef 14 "_law_told" := by unfold IsDef st; rfl
theorem st15 : IsDef 15 "_law_chain" := by unfold IsDef st; rfl
theorem st16 : IsDef 16 "_law_prepared" := by unfold IsDef st; rfl
theorem st17 : IsDef 17 "law" := by unfold IsDef st; rfl

/-- the written int of an expression -/
def intLit : Expr → Option Int
  | .Constant (.int i) _ _ => some i
  | _ => none
def strLit : Expr → Option Str
  | .Constant (.str x) _ _ => some x
  | _ => none
theorem intLit_is {e : Expr} {i : Int} (h : intLit e = some i) : ∃ k p, e = .Constant (.int i) k p := by
  unfold intLit at h
  split at h
  · cases h; exact ⟨_, _, rfl⟩
  · cases h
theorem strLit_is {e : Expr} {x : Str} (h : strLit e = some x) : ∃ k p, e = .Constant (.str x) k p := by
  unfold strLit at h
  split at h
  · cases h; exact ⟨_, _, rfl⟩
  · cases h
def cpairs : List (Option Expr) → List Expr → Option (List (Int × Str))
  | [], [] => some []
  | k :: ks, v :: vs => (k.bind intLit).bind fun i => (strLit v).bind fun x => (cpairs ks vs).map ((i, x) :: ·)
  | _, _ => none
theorem cpairs_spec (env : Env) (pos : Pos) : ∀ (ks : List (Option Expr)) (vs : List Expr) (qs : List (Int × Str)), cpairs ks vs = some qs → ks.all (·.isSome) = true ∧ ks.length = vs.length ∧ All2 IsC (pairTrees ks vs env pos) qs
  | [], [], qs, h => by obtain rfl : [] = qs := by simpa [cpairs] using h
                        exact ⟨rfl, rfl, .nil⟩
  | k :: ks, v :: vs, qs, h => by
    simp only [cpairs, Option.bind_eq_some_iff, Option.map_eq_some_iff] at h
    obtain ⟨i, ⟨e, rfl, he⟩, x, hx, qs', h, rfl⟩ := h
    obtain ⟨a, b, rfl⟩ := intLit_is he
    obtain ⟨c, d, rfl⟩ := strLit_is hx
    obtain ⟨h1, h2, h3⟩ := cpairs_spec env pos ks vs qs' h
    exact ⟨by simpa using h1, by simpa using h2, .cons ⟨⟨a, b, env, rfl⟩, c, d, pos, env, rfl⟩ h3⟩
  | [], _ :: _, _, h => nomatch h
  | _ :: _, [], _, h => nomatch h
def dictKeys : Stmt → List (Option Expr)
  | .Assign _ (.Dict ks _ _) _ => ks
  | _ => []
def dictVals : Stmt → List Expr
  | .Assign _ (.Dict _ vs _) _ => vs
  | _ => []
def dictPos : Stmt → Pos
  | .Assign _ (.Dict _ _ p) _ => p
  | _ => default
def asgPos : Stmt → Pos
  | .Assign _ _ p => p
  | _ => default
def tgtPos : Stmt → Pos
  | .Assign [.Name _ p] _ _ => p
  | _ => default
/-- the pairs of b3_exceptions, as the text writes them -/
def b3 : List (Int × Str) := (cpairs (dictKeys (st 5)) (dictVals (st 5))).getD []
theorem st5 : st 5 = .Assign [.Name "b3_exceptions" (tgtPos (st 5))] (.Dict (dictKeys (st 5)) (dictVals (st 5)) (dictPos (st 5))) (asgPos (st 5)) := by unfold st; rfl
theorem b3_is : cpairs (dictKeys (st 5)) (dictVals (st 5)) = some b3 := by kernel_rfl
def rising : List Int → Bool
  | [] => true
  | [_] => true
  | a :: b :: r => decide (a < b) && rising (b :: r)
theorem rising_lt : ∀ (l : List Int) (a : Int), rising (a :: l) = true → ∀ b ∈ l, a < b
  | [], _, _, _, h => nomatch h
  | c :: r, a, h, b, hb => by
    simp only [rising, Bool.and_eq_true, decide_eq_true_eq] at h
    rcases List.mem_cons.mp hb with rfl | hb
    · exact h.1
    · exact Int.lt_trans h.1 (rising_lt r c h.2 b hb)
theorem rising_nodup : ∀ l : List Int, rising l = true → l.Nodup
  | [], _ => .nil
  | a :: l, h => by
    refine List.nodup_cons.mpr ⟨fun hm => absurd (rising_lt l a h a hm) (Int.lt_irrefl a), rising_nodup l ?_⟩
    cases l with
    | nil => rfl
    | cons b r => simp only [rising, Bool.and_eq_true] at h; exact h.2
theorem b3_rising : rising (b3.map (·.1)) = true := by decide +kernel
theorem b3_nodup : (b3.map (·.1)).Nodup := rising_nodup _ b3_rising
theorem b3_len : b3.length = 650 := by decide +kernel
end Mine
end

section
open PySem PySem.W PyProof.Rows
namespace Mine
section
variable {prog : Program} {w : World} {A : Around} {E : Value → Shared → Prop} {s : Shared}

/-- a heap that holds all that another holds -/
abbrev Ext (h h' : Heap) : Prop := ∀ b o, h.get? b = some o → h'.get? b = some o
theorem ext_push (h : Heap) (o : Obj) : Ext h (h.push o) := fun _ _ e => Heap.get?_push_of_some _ e

theorem add_ll {l b : Addr} {us vs : Array Value} {Q : Value → Shared → Prop} (hl : s.heap.IsList l us) (hb : s.heap.IsList b vs) (hsz : us.size + vs.size ≤ sizeLine)
    (h : Q (.ref s.heap.objs.size) { s with heap := s.heap.push { cls := .type "list", data := .seq (us ++ vs) } }) :
    wpAny (model prog w) A (binaryOp .Add (.ref l) (.ref b)) Q E s := by
  obtain ⟨⟨c1, d1, t1, l1⟩, ho, e1, n, e2⟩ := hl
  obtain ⟨⟨c2, d2, t2, l2⟩, ho2, e3, n2, e4⟩ := hb
  simp only at e1 e2 e3 e4
  subst e1 e2 e3 e4
  exact concat_meets ⟨_, ho, rfl⟩ ⟨_, ho2, rfl⟩ noFill_list_add seq_list_add F.slot_list_add F.entry_list_add (F.args_list_add_2 _ _) (list_addW l b us vs n n2 d1 d2 l1 l2 hsz) ⟨ho, ho2, h⟩
end
end Mine
end

section
open PySem PySem.W PyProof.Rows
namespace Mine
def asgVal : Stmt → Expr
  | .Assign _ v _ => v
  | _ => .Constant .none 0 default
def conPos : Expr → Pos
  | .Constant _ _ p => p
  | _ => default
theorem st0 : st 0 = .Assign [.Name "__name__" (tgtPos (st 0))] (.Constant (.str "cpy313.pydoc") 0 (conPos (asgVal (st 0)))) (asgPos (st 0)) := by unfold st; rfl
theorem st2 : st 2 = .Assign [.Name "__name__" (tgtPos (st 2))] (.Constant (.str "cpy313.stringprep") 0 (conPos (asgVal (st 2)))) (asgPos (st 2)) := by unfold st; rfl
theorem st7 : st 7 = .Assign [.Name "__name__" (tgtPos (st 7))] (.Constant (.str "law_mq0269_01") 0 (conPos (asgVal (st 7)))) (asgPos (st 7)) := by unfold st; rfl

section
variable {prog : Program} {w : World} {A : Around} {E : Value → Shared → Prop} {s : Shared} {P : Params} {c Pl F : Addr} {mg : Str → Option Value} {ps : Array Value} {Q : Flow → Shared → Prop}

theorem top_store {x : Str} {v : Value} {Q : Unit → Shared → Prop} (T : TopSt P c Pl mg ps s.heap)
    (h : ∀ h' tk, TopSt P c Pl (fun y => if y = x then some v else mg y) ps h' → OldT Pl s.heap h' → Q () { s with heap := h', toks := tk })
    (hloc : pw.main.scope.names.lookup x = some .local) (hnb : x ≠ "__builtins__") : wpAny (model prog w) A (storeName (mainEnv pw c F) x v) Q E s := by
  refine wpAny_storeName_local (env := mainEnv pw c F) hloc T.main.g (fun h' hn hs => h h' _ (T.more ⟨hn, ?_, T.main.low, ?_⟩ fun b o _ hb e => hs.extBut b o hb e) fun b o _ hb e => hs.extBut b o hb e) rfl
  · exact T.main.code.sameBut hs (Nat.ne_of_gt T.main.low.1) (Nat.ne_of_gt T.main.low.2)
  · obtain ⟨bm, o, hbm, hne0, hneG, hneP, hbo, hrest⟩ := T.main.bmod
    exact ⟨bm, o, by simp only [Ne.symm hnb, if_false]; exact hbm, hne0, hneG, hneP, hs.extBut _ _ hneG hbo, hrest⟩

theorem top_name {x y : Str} {k : Nat} {p1 p2 p3 : Pos} (T : TopSt P c Pl mg ps s.heap)
    (h : ∀ v h' tk, TopSt P c Pl (fun z => if z = x then some v else mg z) ps h' → OldT Pl s.heap h' → Q .next { s with heap := h', toks := tk })
    (hloc : pw.main.scope.names.lookup x = some .local) (hnb : x ≠ "__builtins__") :
    wpAny (model prog w) A (exec (.Assign [.Name x p1] (.Constant (.str y) k p2) p3) (mainEnv pw c F)) Q E s := by
  refine wpAny_Assign_Name (wpAny_Constant_str (top_store (s := { s with toks := _ }) T (fun h' tk T' o => h _ h' tk T' o) hloc hnb)) ?_
  rfl

theorem top_b3_aux {items : List (Sem Value × Sem Value)} {qs : List (Int × Str)} {p1 p3 : Pos} (T : TopSt P c Pl mg ps s.heap) (h3 : All2 IsC items qs) (hnd : (qs.map (·.1)).Nodup) (hl : qs.length = 650)
    (h : ∀ d kvs h' tk, TopSt P c Pl (fun z => if z = "b3_exceptions" then some (.ref d) else mg z) ps h' → (d ≠ Pl ∧ d ≠ mainGlobals) → (d == sysModules) = false → h'.DictOf (intKind prog w) d kvs → All2 KV kvs qs → OldT Pl s.heap h' → Q .next { s with heap := h', toks := tk }) :
    wpAny (model prog w) A (dictDisplay (items.map fun p => (some p.1, p.2))) (fun v s₁ => wpAny (model prog w) A (storeName (mainEnv pw c F) "b3_exceptions" v) (fun _ => Q .next) E s₁) E s := by
  have hl' := h3.length
  have hPl := T.main.code.lt.2
  have hG := T.main.g.lt
  have hhi := T.high.2
  refine display_c (Nat.le_trans (by decide) (Nat.le_of_lt (Nat.lt_of_le_of_lt hhi hPl))) h3 hnd (by intro e; subst e; simp at hl'; omega) (by omega) fun d kvs h' tk hd hD hK hkp => ?_
  have T' : TopSt P c Pl mg ps h' := T.more ⟨T.main.g.keeps hkp, T.main.code.keeps hkp, T.main.low, T.main.bmod.keeps hkp⟩ fun b o _ _ e => hkp b o e
  refine top_store (s := { s with heap := h', toks := tk }) T' (fun h'' tk'' T'' o => ?_) (by decide +kernel) (by decide +kernel)
  have n1 : d ≠ Pl := Nat.ne_of_gt (Nat.lt_of_lt_of_le hPl hd)
  have n2 : d ≠ mainGlobals := Nat.ne_of_gt (Nat.lt_of_lt_of_le hG hd)
  refine h d kvs h'' tk'' T'' ⟨n1, n2⟩ (beq_eq_false_iff_ne.mpr (show d ≠ 1 from Nat.ne_of_gt (Nat.lt_of_lt_of_le (Nat.lt_of_lt_of_le (by decide) hhi) (Nat.le_trans (Nat.le_of_lt hPl) hd)))) ?_ hK fun b ob hb1 hb2 e => o b ob hb1 hb2 (hkp b ob e)
  obtain ⟨ob, es, ep, ho, rest⟩ := hD
  exact ⟨ob, es, ep, o _ _ n1 n2 ho, rest⟩

theorem top_b3_any {ks : List (Option Expr)} {vs : List Expr} {qs : List (Int × Str)} {p1 p2 p3 : Pos} (hc : cpairs ks vs = some qs) (hnd : (qs.map (·.1)).Nodup) (hl : qs.length = 650) (T : TopSt P c Pl mg ps s.heap)
    (h : ∀ d kvs h' tk, TopSt P c Pl (fun z => if z = "b3_exceptions" then some (.ref d) else mg z) ps h' → (d ≠ Pl ∧ d ≠ mainGlobals) → (d == sysModules) = false → h'.DictOf (intKind prog w) d kvs → All2 KV kvs qs → OldT Pl s.heap h' → Q .next { s with heap := h', toks := tk }) :
    wpAny (model prog w) A (exec (.Assign [.Name "b3_exceptions" p1] (.Dict ks vs p2) p3) (mainEnv pw c F)) Q E s := by
  obtain ⟨h1, h2, h3⟩ := cpairs_spec (mainEnv pw c F) p2 _ _ _ hc
  refine wpAny_Assign_Name ?_ ?_
  · rw [arm_eval_Dict, zip_pairTrees _ _ _ _ h1 h2]
    exact wpAny_bind (wpAny_standAt (top_b3_aux (p1 := p1) (p3 := p3) T h3 hnd hl h))
  · rfl

theorem top_b3 (T : TopSt P c Pl mg ps s.heap)
    (h : ∀ d kvs h' tk, TopSt P c Pl (fun z => if z = "b3_exceptions" then some (.ref d) else mg z) ps h' → (d ≠ Pl ∧ d ≠ mainGlobals) → (d == sysModules) = false → h'.DictOf (intKind prog w) d kvs → All2 KV kvs b3 → OldT Pl s.heap h' → Q .next { s with heap := h', toks := tk }) :
    wpAny (model prog w) A (exec (st 5) (mainEnv pw c F)) Q E s := by
  refine Eq.mpr (congrArg (fun x => wpAny (model prog w) A (exec x (mainEnv pw c F)) Q E s) st5) ?_
  exact top_b3_any b3_is b3_nodup b3_len T h
end
end Mine
end

section
open PySem PySem.W PyProof.Rows
namespace Mine

def IsInt (e : Expr) (n : Int) : Prop := ∃ k p, e = .Constant (.int n) k p
def litInts : List Expr → Option (List Int)
  | [] => some []
  | e :: r => (intLit e).bind fun i => (litInts r).map (i :: ·)
theorem litInts_spec : ∀ (es : List Expr) (ns : List Int), litInts es = some ns → All2 IsInt es ns
  | [], ns, h => by obtain rfl : [] = ns := by simpa [litInts] using h
                    exact .nil
  | e :: r, ns, h => by
    simp only [litInts, Option.bind_eq_some_iff, Option.map_eq_some_iff] at h
    obtain ⟨i, hi, ns', h, rfl⟩ := h
    exact .cons (intLit_is hi) (litInts_spec r ns' h)

def b1Elts : Stmt → List Expr
  | .Assign _ (.Call _ [.BinOp (.List es _) _ _ _] _ _) _ => es
  | _ => []
theorem st3 : ∃ p1 p2 p3 p4 p5 p6 p7 p8 p9 p10 p11 p12, st 3 = .Assign [.Name "b1_set" p1] (.Call (.Name "set" p2) [.BinOp (.List (b1Elts (st 3)) p3) .Add
    (.Call (.Name "list" p4) [.Call (.Name "range" p5) [.Constant (.int 65024) 0 p6, .Constant (.int 65040) 0 p7] [] p8] [] p9) p10] [] p11) p12 := by
  unfold st
  exact ⟨_, _, _, _, _, _, _, _, _, _, _, _, rfl⟩
def b1a : List Int := [173, 847, 6150, 6155, 6156, 6157, 8203, 8204, 8205, 8288, 65279]
theorem b1Elts_is : litInts (b1Elts (st 3)) = some b1a := by kernel_rfl
def b1 : List Int := b1a ++ rangeInts 65024 1 16

section
variable {prog : Program} {w : World} {A : Around} {E : Value → Shared → Prop} {s : Shared} {P : Params} {c Pl F : Addr} {mg : Str → Option Value} {ps : Array Value} {Q : Flow → Shared → Prop}

theorem ints_display {env : Env} {pos : Pos} : ∀ (es : List Expr) (ns : List Int) (s : Shared) (Q : List Value → Shared → Prop), All2 IsInt es ns → (∀ vs tk, IntsAre vs ns → Q vs { s with toks := tk }) →
    wpAny (model prog w) A (spliced (backTo pos (starEach es env))) Q E s
  | [], [], s, Q, _, h => wpAny_items_nil (h [] s.toks .nil)
  | e :: es, n :: ns, s, Q, h2, h => by
    cases h2 with
    | cons r h2 =>
      obtain ⟨k, p, rfl⟩ := r
      exact wpAny_items_cons (wpAny_Constant_int (ints_display es ns _ _ h2 fun vs tk hv => h _ tk (.cons n _ hv)))
  | [], _ :: _, _, _, h, _ => nomatch h
  | _ :: _, [], _, _, h, _ => nomatch h

theorem top_builtin {x : Str} {v : Value} {pos : Pos} {Q : Value → Shared → Prop} (T : TopSt w.params c Pl mg ps s.heap) (hm : mg x = none) (hv : bootBuiltins x = some v) (hn : x ≠ "__name__") (h : Q v s) (hd : (x == ("__debug__" : Str)) = false) :
    wpAny (model prog w) A (eval (.Name x pos) (mainEnv pw c F)) Q E s := by
  refine Calls.Name_module rfl rfl (Calls.loadGlobal_builtin (env := mainEnv pw c F) T.main.g hm (mb := (boot_heap w.params).nsMap builtinsNs) ?_ ?_ h) hd
  · have hb := Heap.Ns.of_isNs (boot_bns w.params)
    obtain ⟨o, es, ep, ho, r⟩ := hb
    exact ⟨o, es, ep, T.keep _ _ (show builtinsNs ≠ mainGlobals by decide) ho, r⟩
  · rw [Heap.of_bltView (boot_bns _) (boot_blt _) x hn]; exact hv

theorem ints_of_get : ∀ (vs : List Value) (ns : List Int), vs.length = ns.length → (∀ (i : Nat) (v : Value), vs[i]? = some v → ∃ (n : Int) (t : Tok), ns[i]? = some n ∧ v = Value.int n t) → IntsAre vs ns
  | [], [], _, _ => .nil
  | v :: vs, n :: ns, hl, h => by
    obtain ⟨n', t, e1, rfl⟩ := h 0 v rfl
    obtain rfl : n = n' := by simpa using e1
    exact .cons n t (ints_of_get vs ns (by simpa using hl) fun i v hv => by simpa using h (i + 1) v (by simpa using hv))
  | [], _ :: _, hl, _ => by cases hl
  | _ :: _, [], hl, _ => by cases hl

theorem ints_ext {vs : List Value} {ns : List Int} : ∀ {xs : List Value} {ms : List Int}, IntsAre vs ns → IntsAre xs ms → IntsAre (vs ++ xs) (ns ++ ms) := fun h h' => h.append h'


theorem top_b1 (hh : A.handled = none) (T : TopSt w.params c Pl mg ps s.heap) (m1 : mg "set" = none) (m2 : mg "list" = none) (m3 : mg "range" = none)
    (h : ∀ d n h' tk, TopSt w.params c Pl (fun z => if z = "b1_set" then some (.ref d) else mg z) ps h' → (d ≠ Pl ∧ d ≠ mainGlobals) → h'.SetOf (intKind prog w) d (fun k => b1.any (· == k)) n → OldT Pl s.heap h' → Q .next { s with heap := h', toks := tk }) :
    wpAny (model prog w) A (exec (st 3) (mainEnv pw c F)) Q E s := by
  obtain ⟨p1, p2, p3, p4, p5, p6, p7, p8, p9, p10, p11, p12, e⟩ := st3
  have hel := litInts_spec _ _ b1Elts_is
  rw [e]
  generalize b1Elts (st 3) = es at hel
  have more : ∀ {h' : Heap}, Ext s.heap h' → TopSt w.params c Pl mg ps h' := fun hk => T.more ⟨T.main.g.keeps hk, T.main.code.keeps hk, T.main.low, T.main.bmod.keeps hk⟩ fun b o _ _ e => hk b o e
  refine wpAny_Assign_Name (Call_ (top_builtin T m1 Pv.boot_set (by decide +kernel) (Pv.callWith_type1 (args_cons ?_)) (by decide +kernel))) rfl
  refine wpAny_BinOp (wpAny_List (ints_display es b1a _ _ hel fun us tk hu => ⟨?_, ?_⟩))
  · rw [hu.length]; decide +kernel
  have k1 : Ext s.heap (s.heap.push { cls := .type "list", data := .seq us.toArray }) := ext_push _ _
  refine Call_ (top_builtin (s := { s with heap := _, toks := tk }) (more k1) m2 Pv.boot_list (by decide +kernel) (Pv.callWith_type1 (args_cons ?_)) (by decide +kernel))
  refine Call_ (top_builtin (s := { s with heap := _, toks := tk }) (more k1) m3 boot_range (by decide +kernel) (Pv.callWith_type1 (args_cons (wpAny_Constant_int (args_cons (wpAny_Constant_int (args_nil ?_)))))) (by decide +kernel))
  refine call_range_2 ?_
  refine args_nil ?_
  refine call_list_range (n := 16) hh (IsRange.new ..) (by decide +kernel) (by decide +kernel) (by decide) fun h₃ tk₃ acc cc k3 hS hacc => ?_
  dsimp only at k3 hS ⊢
  have hl1 : h₃.IsList s.heap.objs.size us.toArray := ⟨_, k3 _ _ (Heap.get?_push_of_some _ (Heap.get?_push_size _ rfl)), rfl, _, rfl⟩
  have hl2 : h₃.IsList _ acc := ⟨_, hS, rfl, _, rfl⟩
  have ha : IntsAre acc.toList (rangeInts 65024 1 16) := by
    refine ints_of_get _ _ (by rw [Array.length_toList, hacc.1]; rfl) fun i v hv => ?_
    have hi : i < 16 := by
      have := (List.getElem?_eq_some_iff.mp hv).1
      rw [Array.length_toList, hacc.1] at this
      exact this
    obtain ⟨t, e⟩ := hacc.2 i v (by rw [← hv, Array.getElem?_toList])
    exact ⟨_, t, rangeInts_get hi, e⟩
  have hsz1 : us.toArray.size = 11 := by rw [List.size_toArray, hu.length]; rfl
  refine add_ll hl1 hl2 (by rw [hsz1, hacc.1, sizeLine_eq]; decide) ?_
  refine args_nil ?_
  have k4 : Ext s.heap (h₃.push { cls := .type "list", data := .seq (us.toArray ++ acc) }) := fun b o e => Heap.get?_push_of_some _ (k3 _ _ (Heap.get?_push_of_some _ (Heap.get?_push_of_some _ e)))
  have hi : IntsAre (us.toArray ++ acc).toList b1 := by
    rw [Array.toList_append]
    exact hu.append ha
  have hs27 : (us.toArray ++ acc).size = 27 := by rw [Array.size_append, hsz1, hacc.1]
  refine call_set_list (ns := b1) hh ⟨_, Heap.get?_push_size _ rfl, rfl, _, rfl⟩ hi (by rw [hs27]; decide) fun h₅ tk₅ hSet k5 => ?_
  rw [hs27] at hSet
  dsimp only at hSet k5 ⊢
  have hfm : firstMet (fun i => b1.getD i 0) 27 = b1 := by decide +kernel
  rw [hfm] at hSet
  have k6 : Ext s.heap h₅ := fun b o e => k5 b o (Heap.lt_size (k4 b o e)) (k4 b o e)
  have hd0 : s.heap.objs.size ≤ (h₃.push { cls := .type "list", data := .seq (us.toArray ++ acc) }).objs.size := by
    rw [Heap.size_push]
    obtain ⟨o, ho, _⟩ := hl1
    exact Nat.le_succ_of_le (Nat.le_of_lt (Heap.lt_size ho))
  have hPl := T.main.code.lt.2
  have hG := T.main.g.lt
  have n1 := Nat.ne_of_gt (Nat.lt_of_lt_of_le hPl hd0)
  have n2 := Nat.ne_of_gt (Nat.lt_of_lt_of_le hG hd0)
  refine top_store (s := { s with heap := h₅, toks := tk₅ }) (more k6) (fun h'' tk'' T'' o => ?_) (by decide +kernel) (by decide +kernel)
  refine h _ b1.length h'' tk'' T'' ⟨n1, n2⟩ ?_ fun b ob hb1 hb2 e => o b ob hb1 hb2 (k6 b ob e)
  obtain ⟨ob, es', ep, t, ho, rest⟩ := hSet
  exact ⟨ob, es', ep, t, o _ _ n1 n2 ho, rest⟩
end
end Mine
end

section
open PySem PySem.W PyProof.Rows
namespace Mine

def fnTable : List (Nat × Str) := [(1, "splitdoc"), (4, "in_table_b1"), (6, "map_table_b3"), (8, "_law_whites"), (9, "_law_strands"), (10, "_law_figures"), (11, "_law_rows"), (12, "_law_front"), (13, "_law_back"), (14, "_law_told"), (15, "_law_chain"), (16, "_law_prepared"), (17, "law")]
abbrev FnI (h : Heap) (a : Addr) (i : Nat) (name : Str) : Prop := FnAt h a name (fnParams (st i)) (fnBody (st i)) (fnScope (st i))

/-- what the calls need of the top -/
structure TF (w : World) (mg : Str → Option Value) (h : Heap) : Prop where
  g : h.Ns mainGlobals mg
  b : h.Ns builtinsNs ((boot_heap w.params).nsMap builtinsNs)
  lim : h.NoLimit
  fn : ∀ p ∈ fnTable, ∃ a, mg p.2 = some (.ref a) ∧ FnI h a p.1 p.2
  set : ∃ a n, mg "b1_set" = some (.ref a) ∧ h.SetOf (intKind pw w) a (fun k => b1.any (· == k)) n
  dict : ∃ a kvs, mg "b3_exceptions" = some (.ref a) ∧ (a == sysModules) = false ∧ h.DictOf (intKind pw w) a kvs ∧ All2 KV kvs b3
  miss : ∀ x ∈ (["len", "ord", "chr", "range", "sum"] : List Str), mg x = none

theorem TF.keeps {w : World} {mg : Str → Option Value} {h h' : Heap} (T : TF w mg h) (k : Ext h h') : TF w mg h' where
  g := T.g.keeps k
  b := T.b.keeps k
  lim := T.lim.keeps k
  fn := fun p hp => let ⟨a, e, f⟩ := T.fn p hp; ⟨a, e, f.keeps k⟩
  set := let ⟨a, n, e, o, es, ep, t, ho, r⟩ := T.set; ⟨a, n, e, o, es, ep, t, k _ _ ho, r⟩
  dict := let ⟨a, kvs, e, ne, ⟨o, es, ep, ho, r⟩, q⟩ := T.dict; ⟨a, kvs, e, ne, ⟨o, es, ep, k _ _ ho, r⟩, q⟩
  miss := T.miss

def NamesOk (mg : Str → Option Value) : Prop := ∀ x v, mg x = some v → x ∈ startupNames ∨ x ∈ pw.boundNames
theorem NamesOk.step {mg : Str → Option Value} {name : Str} {v : Value} (h : NamesOk mg) (hn : pw.boundNames.contains name = true) : NamesOk (fun x => if x = name then some v else mg x) := fun x u e => by
  by_cases hx : x = name
  · subst hx; exact .inr (List.contains_iff_mem.mp hn)
  · simp only [hx, if_false] at e; exact h x u e
def LaidOk (P : Params) (mg : Str → Option Value) : Prop := ∀ x ∈ ("__builtins__" : Str) :: laidNames, mg x = (boot_heap P).nsMap mainGlobals x
theorem LaidOk.step {P : Params} {mg : Str → Option Value} {name : Str} {v : Value} (h : LaidOk P mg) (hn : (("__builtins__" : Str) :: laidNames).contains name = false) : LaidOk P (fun x => if x = name then some v else mg x) := fun x hx => by
  have : x ≠ name := by rintro rfl; rw [List.contains_iff_mem.mpr hx] at hn; cases hn
  simp only [this, if_false]
  exact h x hx

/-- how the top ends -/
structure TopEnd (w : World) (mg : Str → Option Value) (h : Heap) : Prop where
  tf : TF w mg h
  keep : ∀ b o, b ≠ mainGlobals → (boot_heap w.params).get? b = some o → h.get? b = some o
  names : NamesOk mg
  laid : LaidOk w.params mg

theorem boot_names (P : Params) : NamesOk ((boot_heap P).nsMap mainGlobals) := fun x v e => by
  by_cases hk : x ∈ (boot_heap P).nsKeys mainGlobals
  · rw [boot_gkeys] at hk; exact .inl hk
  · rw [Heap.nsMap_none hk] at e; cases e

section
variable {w : World} {A : Around} {s : Shared} {P : Params} {c Pl F : Addr} {mg : Str → Option Value} {ps : Array Value} {Q : Flow → Shared → Prop}
abbrev NoE : Value → Shared → Prop := fun _ _ => False

theorem top_fn {i : Nat} {name : Str} {rest : List Stmt} (hst : IsDef i name) (T : TopSt P c Pl mg ps s.heap)
    (hdf : (fnParams (st i)).defaults = []) (hkw : (fnParams (st i)).kwonlyargs = []) (hkd : (fnParams (st i)).kw_defaults = []) (hann0 : ∀ c F, annTrees (fnParams (st i)) none (mainEnv pw c F) = [])
    (hfree : ((fnScope (st i)).names.all fun x => x.2 != .free) = true) (hloc : pw.main.scope.names.lookup name = some .local)
    (hq : qualnameIn { scope := pw.main.scope, locals := mainGlobals, globals := mainGlobals, cells := [] } name name = name) (hnb : name ≠ "__builtins__") (hnf : codeAmong (fnPos (st i)) ps.toList = none)
    (h : ∀ a c' h' tk, TopSt P c Pl (fun x => if x = name then some (.ref a) else mg x) (ps ++ #[rawInt (fnPos (st i)).line, rawInt (fnPos (st i)).col, .ref c']) h' → FnTop Pl h' a name (fnParams (st i)) (fnBody (st i)) (fnScope (st i)) → OldT Pl s.heap h' →
      wpAny (model pw w) A (execs rest (mainEnv pw c F)) Q NoE { s with heap := h', toks := tk }) :
    wpAny (model pw w) A (execs (st i :: rest) (mainEnv pw c F)) Q NoE s := by
  rw [hst]
  refine wpAny_execs_cons (top_def T (fun a c' h' tk T' f o => h a c' h' tk T' f o) hdf hkw hkd hann0 (fun x hx e => ?_) hloc hq hnb hnf)
  have := List.all_eq_true.mp hfree x hx
  rw [e] at this
  exact absurd this (by decide)
end

theorem set_old {w : World} {Pl a : Addr} {n : Nat} {h h' : Heap} {S : Int → Bool} (x : h.SetOf (intKind pw w) a S n) (q : a ≠ Pl ∧ a ≠ mainGlobals) (o : OldT Pl h h') : h'.SetOf (intKind pw w) a S n :=
  let ⟨ob, es, ep, t, ho, r⟩ := x; ⟨ob, es, ep, t, o _ _ q.1 q.2 ho, r⟩
theorem dict_old {w : World} {Pl a : Addr} {kvs : List (Int × Value)} {h h' : Heap} (x : h.DictOf (intKind pw w) a kvs) (q : a ≠ Pl ∧ a ≠ mainGlobals) (o : OldT Pl h h') : h'.DictOf (intKind pw w) a kvs :=
  let ⟨ob, es, ep, ho, r⟩ := x; ⟨ob, es, ep, o _ _ q.1 q.2 ho, r⟩

theorem top_all {w : World} {os : OsState} : wpAny (model pw w) callerA (topStub pw).cur (fun fin s' => (∃ v, fin = .done (.ret v)) ∧ ((∃ mg, TopEnd w mg s'.heap) ∧ s'.os = os) ∧ s'.gens = #[]) (fun _ _ => False) ⟨boot_heap w.params, #[], boot_drawn, boot_toks, os⟩ := by
  refine wpAny_mono (top_stub (Q := fun s' => ((∃ mg, TopEnd w mg s'.heap) ∧ s'.os = os) ∧ s'.gens = #[]) fun c Pl Fr h tk T => ?_) (fun _ _ x => x) fun _ _ x => x
  rw [body_eq]
  refine wpAny_execs_cons ?_
  rw [st0]
  refine top_name T (fun v0 h0 tk0 T0 o0 => ?_) (by decide +kernel) (by decide +kernel)
  refine top_fn st1 T0 (by kernel_rfl) (by kernel_rfl) (by kernel_rfl) (fun _ _ => by kernel_rfl) (by kernel_rfl) (by decide +kernel) (by kernel_rfl) (by decide +kernel) (by kernel_rfl) fun a1 c1 h1 tk1 T1 f1 o1 => ?_
  refine wpAny_execs_cons ?_
  rw [st2]
  refine top_name T1 (fun v2 h2 tk2 T2 o2 => ?_) (by decide +kernel) (by decide +kernel)
  replace f1 := f1.keeps o2
  refine wpAny_execs_cons (top_b1 rfl T2 (by kernel_rfl) (by kernel_rfl) (by kernel_rfl) fun a3 n3 h3 tk3 T3 q3 f3 o3 => ?_)
  replace f1 := f1.keeps o3
  refine top_fn st4 T3 (by kernel_rfl) (by kernel_rfl) (by kernel_rfl) (fun _ _ => by kernel_rfl) (by kernel_rfl) (by decide +kernel) (by kernel_rfl) (by decide +kernel) (by kernel_rfl) fun a4 c4 h4 tk4 T4 f4 o4 => ?_
  replace f1 := f1.keeps o4
  replace f3 := set_old f3 q3 o4
  refine wpAny_execs_cons (top_b3 T4 fun a5 kv5 h5 tk5 T5 q5 n5 f5 K5 o5 => ?_)
  replace f1 := f1.keeps o5
  replace f3 := set_old f3 q3 o5
  replace f4 := f4.keeps o5
  refine top_fn st6 T5 (by kernel_rfl) (by kernel_rfl) (by kernel_rfl) (fun _ _ => by kernel_rfl) (by kernel_rfl) (by decide +kernel) (by kernel_rfl) (by decide +kernel) (by kernel_rfl) fun a6 c6 h6 tk6 T6 f6 o6 => ?_
  replace f1 := f1.keeps o6
  replace f3 := set_old f3 q3 o6
  replace f4 := f4.keeps o6
  replace f5 := dict_old f5 q5 o6
  refine wpAny_execs_cons ?_
  rw [st7]
  refine top_name T6 (fun v7 h7 tk7 T7 o7 => ?_) (by decide +kernel) (by decide +kernel)
  replace f1 := f1.keeps o7
  replace f3 := set_old f3 q3 o7
  replace f4 := f4.keeps o7
  replace f5 := dict_old f5 q5 o7
  replace f6 := f6.keeps o7
  refine top_fn st8 T7 (by kernel_rfl) (by kernel_rfl) (by kernel_rfl) (fun _ _ => by kernel_rfl) (by kernel_rfl) (by decide +kernel) (by kernel_rfl) (by decide +kernel) (by kernel_rfl) fun a8 c8 h8 tk8 T8 f8 o8 => ?_
  replace f1 := f1.keeps o8
  replace f3 := set_old f3 q3 o8
  replace f4 := f4.keeps o8
  replace f5 := dict_old f5 q5 o8
  replace f6 := f6.keeps o8
  refine top_fn st9 T8 (by kernel_rfl) (by kernel_rfl) (by kernel_rfl) (fun _ _ => by kernel_rfl) (by kernel_rfl) (by decide +kernel) (by kernel_rfl) (by decide +kernel) (by kernel_rfl) fun a9 c9 h9 tk9 T9 f9 o9 => ?_
  replace f1 := f1.keeps o9
  replace f3 := set_old f3 q3 o9
  replace f4 := f4.keeps o9
  replace f5 := dict_old f5 q5 o9
  replace f6 := f6.keeps o9
  replace f8 := f8.keeps o9
  refine top_fn st10 T9 (by kernel_rfl) (by kernel_rfl) (by kernel_rfl) (fun _ _ => by kernel_rfl) (by kernel_rfl) (by decide +kernel) (by kernel_rfl) (by decide +kernel) (by kernel_rfl) fun a10 c10 h10 tk10 T10 f10 o10 => ?_
  replace f1 := f1.keeps o10
  replace f3 := set_old f3 q3 o10
  replace f4 := f4.keeps o10
  replace f5 := dict_old f5 q5 o10
  replace f6 := f6.keeps o10
  replace f8 := f8.keeps o10
  replace f9 := f9.keeps o10
  refine top_fn st11 T10 (by kernel_rfl) (by kernel_rfl) (by kernel_rfl) (fun _ _ => by kernel_rfl) (by kernel_rfl) (by decide +kernel) (by kernel_rfl) (by decide +kernel) (by kernel_rfl) fun a11 c11 h11 tk11 T11 f11 o11 => ?_
  replace f1 := f1.keeps o11
  replace f3 := set_old f3 q3 o11
  replace f4 := f4.keeps o11
  replace f5 := dict_old f5 q5 o11
  replace f6 := f6.keeps o11
  replace f8 := f8.keeps o11
  replace f9 := f9.keeps o11
  replace f10 := f10.keeps o11
  refine top_fn st12 T11 (by kernel_rfl) (by kernel_rfl) (by kernel_rfl) (fun _ _ => by kernel_rfl) (by kernel_rfl) (by decide +kernel) (by kernel_rfl) (by decide +kernel) (by kernel_rfl) fun a12 c12 h12 tk12 T12 f12 o12 => ?_
  replace f1 := f1.keeps o12
  replace f3 := set_old f3 q3 o12
  replace f4 := f4.keeps o12
  replace f5 := dict_old f5 q5 o12
  replace f6 := f6.keeps o12
  replace f8 := f8.keeps o12
  replace f9 := f9.keeps o12
  replace f10 := f10.keeps o12
  replace f11 := f11.keeps o12
  refine top_fn st13 T12 (by kernel_rfl) (by kernel_rfl) (by kernel_rfl) (fun _ _ => by kernel_rfl) (by kernel_rfl) (by decide +kernel) (by kernel_rfl) (by decide +kernel) (by kernel_rfl) fun a13 c13 h13 tk13 T13 f13 o13 => ?_
  replace f1 := f1.keeps o13
  replace f3 := set_old f3 q3 o13
  replace f4 := f4.keeps o13
  replace f5 := dict_old f5 q5 o13
  replace f6 := f6.keeps o13
  replace f8 := f8.keeps o13
  replace f9 := f9.keeps o13
  replace f10 := f10.keeps o13
  replace f11 := f11.keeps o13
  replace f12 := f12.keeps o13
  refine top_fn st14 T13 (by kernel_rfl) (by kernel_rfl) (by kernel_rfl) (fun _ _ => by kernel_rfl) (by kernel_rfl) (by decide +kernel) (by kernel_rfl) (by decide +kernel) (by kernel_rfl) fun a14 c14 h14 tk14 T14 f14 o14 => ?_
  replace f1 := f1.keeps o14
  replace f3 := set_old f3 q3 o14
  replace f4 := f4.keeps o14
  replace f5 := dict_old f5 q5 o14
  replace f6 := f6.keeps o14
  replace f8 := f8.keeps o14
  replace f9 := f9.keeps o14
  replace f10 := f10.keeps o14
  replace f11 := f11.keeps o14
  replace f12 := f12.keeps o14
  replace f13 := f13.keeps o14
  refine top_fn st15 T14 (by kernel_rfl) (by kernel_rfl) (by kernel_rfl) (fun _ _ => by kernel_rfl) (by kernel_rfl) (by decide +kernel) (by kernel_rfl) (by decide +kernel) (by kernel_rfl) fun a15 c15 h15 tk15 T15 f15 o15 => ?_
  replace f1 := f1.keeps o15
  replace f3 := set_old f3 q3 o15
  replace f4 := f4.keeps o15
  replace f5 := dict_old f5 q5 o15
  replace f6 := f6.keeps o15
  replace f8 := f8.keeps o15
  replace f9 := f9.keeps o15
  replace f10 := f10.keeps o15
  replace f11 := f11.keeps o15
  replace f12 := f12.keeps o15
  replace f13 := f13.keeps o15
  replace f14 := f14.keeps o15
  refine top_fn st16 T15 (by kernel_rfl) (by kernel_rfl) (by kernel_rfl) (fun _ _ => by kernel_rfl) (by kernel_rfl) (by decide +kernel) (by kernel_rfl) (by decide +kernel) (by kernel_rfl) fun a16 c16 h16 tk16 T16 f16 o16 => ?_
  replace f1 := f1.keeps o16
  replace f3 := set_old f3 q3 o16
  replace f4 := f4.keeps o16
  replace f5 := dict_old f5 q5 o16
  replace f6 := f6.keeps o16
  replace f8 := f8.keeps o16
  replace f9 := f9.keeps o16
  replace f10 := f10.keeps o16
  replace f11 := f11.keeps o16
  replace f12 := f12.keeps o16
  replace f13 := f13.keeps o16
  replace f14 := f14.keeps o16
  replace f15 := f15.keeps o16
  refine top_fn st17 T16 (by kernel_rfl) (by kernel_rfl) (by kernel_rfl) (fun _ _ => by kernel_rfl) (by kernel_rfl) (by decide +kernel) (by kernel_rfl) (by decide +kernel) (by kernel_rfl) fun a17 c17 h17 tk17 T17 f17 o17 => ?_
  replace f1 := f1.keeps o17
  replace f3 := set_old f3 q3 o17
  replace f4 := f4.keeps o17
  replace f5 := dict_old f5 q5 o17
  replace f6 := f6.keeps o17
  replace f8 := f8.keeps o17
  replace f9 := f9.keeps o17
  replace f10 := f10.keeps o17
  replace f11 := f11.keeps o17
  replace f12 := f12.keeps o17
  replace f13 := f13.keeps o17
  replace f14 := f14.keeps o17
  replace f15 := f15.keeps o17
  replace f16 := f16.keeps o17
  refine wpAny_execs_nil ⟨⟨⟨_, ⟨T17.main.g, ?_, ?_, ?_, ?_, ?_, ?_⟩, T17.keep, ?_, ?_⟩, rfl⟩, rfl⟩
  · have hb := Heap.Ns.of_isNs (boot_bns w.params)
    obtain ⟨o, es, ep, ho, r⟩ := hb
    exact ⟨o, es, ep, T17.keep _ _ (by decide) ho, r⟩
  · have hb := Heap.Ns.of_isNs (boot_cns w.params)
    obtain ⟨o, es, ep, ho, r⟩ := hb
    exact ⟨_, ⟨o, es, ep, T17.keep _ _ (by decide) ho, r⟩, by kernel_rfl⟩
  · intro p hp
    simp only [fnTable, List.mem_cons, List.not_mem_nil, or_false] at hp
    rcases hp with rfl | rfl | rfl | rfl | rfl | rfl | rfl | rfl | rfl | rfl | rfl | rfl | rfl
    · exact ⟨a1, by kernel_rfl, f1.at⟩
    · exact ⟨a4, by kernel_rfl, f4.at⟩
    · exact ⟨a6, by kernel_rfl, f6.at⟩
    · exact ⟨a8, by kernel_rfl, f8.at⟩
    · exact ⟨a9, by kernel_rfl, f9.at⟩
    · exact ⟨a10, by kernel_rfl, f10.at⟩
    · exact ⟨a11, by kernel_rfl, f11.at⟩
    · exact ⟨a12, by kernel_rfl, f12.at⟩
    · exact ⟨a13, by kernel_rfl, f13.at⟩
    · exact ⟨a14, by kernel_rfl, f14.at⟩
    · exact ⟨a15, by kernel_rfl, f15.at⟩
    · exact ⟨a16, by kernel_rfl, f16.at⟩
    · exact ⟨a17, by kernel_rfl, f17.at⟩
  · exact ⟨a3, n3, by kernel_rfl, f3⟩
  · exact ⟨a5, kv5, by kernel_rfl, n5, f5, K5⟩
  · intro x hx
    simp only [List.mem_cons, List.not_mem_nil, or_false] at hx
    rcases hx with rfl | rfl | rfl | rfl | rfl <;> kernel_rfl
  · exact NamesOk.step (NamesOk.step (NamesOk.step (NamesOk.step (NamesOk.step (NamesOk.step (NamesOk.step (NamesOk.step (NamesOk.step (NamesOk.step (NamesOk.step (NamesOk.step (NamesOk.step (NamesOk.step (NamesOk.step (NamesOk.step (NamesOk.step (NamesOk.step (boot_names _) (by decide +kernel)) (by decide +kernel)) (by decide +kernel)) (by decide +kernel)) (by decide +kernel)) (by decide +kernel)) (by decide +kernel)) (by decide +kernel)) (by decide +kernel)) (by decide +kernel)) (by decide +kernel)) (by decide +kernel)) (by decide +kernel)) (by decide +kernel)) (by decide +kernel)) (by decide +kernel)) (by decide +kernel)) (by decide +kernel)
  · exact LaidOk.step (LaidOk.step (LaidOk.step (LaidOk.step (LaidOk.step (LaidOk.step (LaidOk.step (LaidOk.step (LaidOk.step (LaidOk.step (LaidOk.step (LaidOk.step (LaidOk.step (LaidOk.step (LaidOk.step (LaidOk.step (LaidOk.step (LaidOk.step (fun _ _ => rfl) (by decide +kernel)) (by decide +kernel)) (by decide +kernel)) (by decide +kernel)) (by decide +kernel)) (by decide +kernel)) (by decide +kernel)) (by decide +kernel)) (by decide +kernel)) (by decide +kernel)) (by decide +kernel)) (by decide +kernel)) (by decide +kernel)) (by decide +kernel)) (by decide +kernel)) (by decide +kernel)) (by decide +kernel)) (by decide +kernel)
end Mine
end

section
open PySem PySem.W PyProof.Rows
namespace Mine

theorem ns_global {h : Heap} {mg : Str → Option Value} (n : h.Ns mainGlobals mg) (x : Str) : globalOf h x = mg x := by
  obtain ⟨o, es, ep, ho, hd, hk, hm⟩ := n
  have ho' : h.get? mainNs = some o := ho
  unfold globalOf
  rw [ho']
  dsimp only
  rw [hd]
  exact hm x

theorem top_ran (w : World) (os : OsState) : ∃ s₁ mg, TopRan pw w ⟨boot_heap w.params, #[], boot_drawn, boot_toks, os⟩ s₁ ∧ TopEnd w mg s₁.heap ∧ s₁.gens = #[] ∧ s₁.os = os := by
  obtain ⟨n, s', t', hr, ht, ⟨⟨mg, T⟩, hos⟩, hg, hl⟩ := ran_of_wp (P := fun s' => (∃ mg, TopEnd w mg s'.heap) ∧ s'.os = os) (show Shared.asleep ⟨boot_heap w.params, #[], boot_drawn, boot_toks, os⟩ from ⟨rfl, rfl⟩) (top_all (w := w) (os := os))
  have hst : ∀ k, staticOf s'.heap k = staticOf (boot_heap w.params) k := fun k => by
    unfold staticOf
    have : (boot_heap w.params).get? cStatics = some (boot_o_2 w.params) := rfl
    rw [this, T.keep _ _ (by decide) this]
  refine ⟨s', mg, ⟨⟨n, t', hr, ht⟩, hl, Shared.rest_eq hos, fun b o e hn => T.keep b o (fun q => hn (.inl q)) e, fun k v e => ?_, fun k => .inl (hst k), ?_, fun x hx => ?_, ?_, ?_, fun x v e => T.names x v ((ns_global T.tf.g x).symm.trans e), fun x hx => ?_⟩, T, hg, hos⟩
  · rw [hst, boot_stat] at e; cases e
  · obtain ⟨o, es, ep, ho, hd, hk, _⟩ := T.tf.g
    exact ⟨o, es, ep, ho, hd, hk⟩
  · have hb : builtinOf s'.heap x = builtinOf (boot_heap w.params) x := by
      unfold builtinOf
      have : (boot_heap w.params).get? builtinsNs = some (boot_o_0 w.params) := rfl
      rw [this, T.keep _ _ (by decide) this]
    rw [hb]
    exact (Pin.builtinOf_eq (boot_bns _) x).trans (Heap.of_bltView (boot_bns _) (boot_blt _) x hx)
  · refine ⟨4, _, ?_, T.keep _ _ (by decide) (boot_4 _), rfl, rfl⟩
    rw [ns_global T.tf.g, T.laid _ (List.mem_cons_self), boot_bltin]
  · rw [hg]; intro g hg'; simp at hg'
  · rw [ns_global T.tf.g, T.laid x (List.mem_cons_of_mem _ hx)]
    exact (Pin.globalOf_eq (boot_gns _) x).symm

theorem ints_of_shape : ∀ (ds : List WData), WShape.hasItems [] ds .int = true → ∃ ns : List Int, ds = ns.map .int
  | [], _ => ⟨[], rfl⟩
  | d :: ds, h => by
    simp only [WShape.hasItems, Bool.and_eq_true] at h
    obtain ⟨ns, rfl⟩ := ints_of_shape ds h.2
    cases d <;> first | exact ⟨_ :: ns, rfl⟩ | (simp [WShape.has, WShape.arms] at h)

theorem reads_ints {R : WRecords} {cl : Str → Option Addr} {h : Heap} : ∀ (ns : List Int) (vs : List Value) (as : List Addr), ReadsAllW R cl h vs (ns.map .int) as → IntsAre vs ns
  | [], vs, as, r => by cases r; exact .nil
  | n :: ns, vs, as, r => by
    cases r with
    | cons r1 r2 =>
      cases r1
      exact .cons _ _ (reads_ints ns _ _ r2)
end Mine
end

section
open PySem PySem.W PyProof.Rows
namespace Mine
abbrev rw : OpenLaw := PySem.Challenge.rw_mq0269_01

abbrev Walk : Prop := ∀ (w : World) (mg : Str → Option Value) (s₁ : Shared) (a l : Addr) (vs : List Value) (ns : List Int), TF w mg s₁.heap → mg "law" = some (.ref a) → s₁.heap.IsList l vs.toArray → IntsAre vs ns → ns.length ≤ 63 → WData.layable (.list (ns.map .int)) = true →
  wpAny (model pw w) callerA (call (.ref a) [.ref l]) (fun v s' => v = .bool true ∧ Keeps s₁ s') (fun _ _ => False) s₁

theorem boot_after (w : World) : ∃ os, AfterRun (opening pw) w ⟨boot_heap w.params, #[], boot_drawn, boot_toks, os⟩ := by
  have h := boot_open (p := pw) (N := 600) pw_open (by decide) pw_fence w
  rw [← table_eq_tree] at h
  obtain ⟨s, hs, e⟩ := Option.map_eq_some_iff.mp h
  obtain ⟨s', h4, h5⟩ := Option.bind_eq_some_iff.mp hs
  rw [pw_fence] at h5
  obtain rfl : s' = s := by simpa using h5
  obtain ⟨hp, g, d, t, os⟩ := s'
  simp only [Prod.mk.injEq] at e
  obtain ⟨rfl, rfl, rfl, rfl⟩ := e
  exact ⟨os, AfterImport.of_importEnds h4⟩

theorem law_def {w : World} {mg : Str → Option Value} {h : Heap} (T : TF w mg h) : isTheDefsW pw h "law" := by
  obtain ⟨a, hm, pm, c, doc, hf, _⟩ := T.fn (17, "law") (by simp [fnTable])
  refine ⟨a, _, _, fnParams (st 17), fnBody (st 17), fnScope (st 17), (ns_global T.g _).trans hm, hf, rfl, ?_, rfl, rfl, rfl, rfl, rfl, rfl, rfl, rfl, .inl ⟨?_, rfl⟩, [], ?_, .inl ⟨rfl, rfl⟩⟩
  · unfold st; kernel_rfl
  · kernel_rfl
  · kernel_rfl

theorem args_ints {args : List WData} (h : WShape.hasAll [] args [.list .int] = true) (hp : rw.row.pre.holds [] { args := args } = true) : ∃ ns : List Int, args = [.list (ns.map .int)] ∧ ns.length ≤ 63 := by
  obtain ⟨d, r, rfl, h1, h2⟩ := hasAllW_cons h
  obtain rfl := hasAllW_nil h2
  have : ∃ ds, d = .list ds ∧ WShape.hasItems [] ds .int = true := by
    cases d <;> first | (simp [WShape.has, WShape.arms] at h1; done) | exact ⟨_, rfl, by simpa [WShape.has, WShape.arms] using h1⟩
  obtain ⟨ds, rfl, hi⟩ := this
  obtain ⟨ns, rfl⟩ := ints_of_shape ds hi
  refine ⟨ns, rfl, ?_⟩
  have e : rw.row.pre.value [] { args := [.list (ns.map .int)] } = some (.bool (!decide ((63 : Int) < ((ns.map WData.int).length : Int)) && true)) :=
    w_and (w_not (w_lt w_lit (w_len_list (w_arg rfl)))) w_lit
  unfold WTm.holds at hp
  rw [e] at hp
  rw [List.length_map] at hp
  by_cases hq : (63 : Int) < (ns.length : Int)
  · simp [hq] at hp
  · omega

theorem script_of {R : WRecords} {cl : Str → Option Addr} {h : Heap} {vs : List Value} {ns : List Int} {as : List Addr} (r : ReadsAllW R cl h vs [.list (ns.map .int)] as) : ∃ l us, vs = [.ref l] ∧ h.IsList l (List.toArray us) ∧ IntsAre us ns := by
  cases r with
  | cons r1 r2 =>
    cases r2
    cases r1 with
    | @list a o us n xs as ho hc hd hr =>
      exact ⟨a, us.toList, rfl, ⟨o, ho, hc, n, by simpa using hd⟩, reads_ints _ _ _ hr⟩

theorem holds_of_walk (walk : Walk) : rw.row.toRowW.claim.HoldsOpenBy (callStub rw.row.name) (if rw.row.pinned then [rw.row.name] else []) rw.row.keeps rw.row.writes := by
  refine ⟨⟨⟨rfl, rfl, rfl, rfl, rfl, by decide +kernel⟩, by decide +kernel, rfl⟩, ⟨[.list []], by decide +kernel, by decide +kernel⟩, fun w => ?_⟩
  obtain ⟨os, hA⟩ := boot_after w
  refine ⟨⟨_, hA⟩, fun s hs => ?_⟩
  obtain rfl : s = _ := AfterImport.unique hs hA
  obtain ⟨s₁, mg, hT, TE, hg, hos⟩ := top_ran w os
  refine ⟨_, pw_fence _, rfl, s₁, hT, fun n hn => ?_, fun x hx => (nomatch hx), fun x hx => (nomatch hx), ?_⟩
  · have hn' : n ∈ ([("law" : Str)] : List Str) := hn
    obtain rfl : n = "law" := by simpa using hn'
    exact law_def TE.tf
  have hz : s₁.asleep := Shared.asleep_of_life hT.2.1 (AfterImport.life hs)
  refine ClaimW.callFrom_of_specG (c := rw.row.toRowW.claim) hz hg fun args hpre hlay ord hord => ?_
  obtain ⟨hsh, hpr⟩ := pre_splitW (r := rw.row.toRowW) hpre
  obtain ⟨ns, rfl, hlen⟩ := args_ints hsh hpr
  have hlay' : WData.layable (.list (ns.map .int)) = true := by simpa [WData.layableAll] using hlay
  obtain ⟨⟨vs, s₂⟩, hlaid⟩ := Option.isSome_iff_exists.mp (layAllW_isSome (R := []) (cl := classAt s₁.heap) (P := w.params) (ord := ord) (fun c hc => nomatch hc) [.list (ns.map .int)] rw.row.args s₁ hsh)
  have keeps := layAllW_keeps _ _ _ hlaid
  have hal := layAllW_rest _ _ _ hlaid
  obtain ⟨as, hrd, hin, hold⟩ := reads_layAllW hord _ _ _ hlaid hlay s₂.heap (fun _ _ e => e)
  have L : Laid rw.row.claim.records w s₁ s₂ [.list (ns.map .int)] vs as := ⟨⟨ord, hord, hlaid⟩, hrd, hin, hold, keeps, hal.1.trans hg, hal.2.2.1⟩
  refine ⟨vs, s₂, hlaid, ?_⟩
  obtain ⟨l, us, rfl, hl, hi⟩ := script_of hrd
  have T2 : TF w mg s₂.heap := TE.tf.keeps keeps
  obtain ⟨a, ha, _⟩ := T2.fn (17, "law") (by simp [fnTable])
  refine wpAny_bind (wpAny_nsGet T2.g ?_)
  rw [show mg rw.row.name = some (.ref a) from ha]
  refine wpAny_bind (wpAny_mono (walk w mg s₂ a l us ns T2 ha hl hi hlen hlay') (fun v s' h => wpAny_pure ?_) fun _ _ x => x.elim)
  obtain ⟨rfl, h', tk, rfl, hk⟩ := h
  have g : GoodW rw.row.claim (classAt s₁.heap) (ExcName.means s₁.heap) [.list (ns.map .int)] s₂ (.ok (.ret (.bool true))) { s₂ with heap := h', toks := tk } :=
    ⟨.inl ⟨_, .bool true, [], rfl, fun cls => rfl, .bool true, by kernel_rfl, fun _ => ⟨.nil, fun a ha => nomatch ha⟩⟩, hk, rfl, hal.1.trans hg⟩
  have z := g.toG.laid (c := rw.row.claim) rfl rfl (fun _ _ => ident_freeW rfl rfl rfl _ _) L
  exact ⟨_, rfl, z.1, z.2.1, z.2.2, fun q => nomatch q⟩

theorem law_holds (walk : Walk) : rw.Holds := by
  o_law
  exact ⟨by assumption, ⟨[.list []], by decide +kernel, by decide +kernel⟩, holds_of_walk walk⟩
end Mine
end

section
open PySem PySem.W PyProof.Rows
namespace Mine

/-- room for n calls one in the other -/
structure Rm (n : Nat) (A : Around) : Prop where
  hh : A.handled = none
  dp : A.depth + n < recursionLimit
  un : A.units + 16 * n + 100 < cLine
theorem Rm.deeper {n : Nat} {A : Around} (r : Rm (n + 1) A) (env : Env) : Rm n (A.deeper env) := ⟨r.hh, by have := r.dp; show A.depth + 1 + n < _; omega, by have := r.un; show A.units + 3 + 16 * n + 100 < _; omega⟩
theorem Rm.in1 {n : Nat} {A : Around} (r : Rm (n + 1) A) : Rm n A.in1 := ⟨r.hh, by have := r.dp; show A.depth + n < _; omega, by have := r.un; show A.units + 1 + 16 * n + 100 < _; omega⟩
theorem Rm.less {n m : Nat} {A : Around} (r : Rm n A) (h : m ≤ n) : Rm m A := ⟨r.hh, by have := r.dp; omega, by have := r.un; omega⟩

section
variable {w : World} {mg : Str → Option Value} {A : Around} {E : Value → Shared → Prop} {s : Shared}

theorem enter {i : Nat} {name : Str} {a : Addr} {args : List Value} {binds : List (Str × Value)} {Q : Value → Shared → Prop} (T : TF w mg s.heap) (hf : FnI s.heap a i name) (hA : A.depth < recursionLimit)
    (hbind : ∀ pm cd doc, bindArgs (Calls.docDef name (fnParams (st i)) (fnBody (st i)) (fnScope (st i)) pm cd doc) ⟨args, []⟩ = pure binds)
    (hloc : (binds.all fun x => decide ((fnScope (st i)).names.lookup x.1 = some .local)) = true)
    (h : ∀ L cd h₁ tk, Fr s.heap L h₁ (fun x => binds.reverse.lookup x) → wpAny (model pw w) (A.deeper (envOf name (fnScope (st i)) L a cd)) (execs (fnBody (st i)) (envOf name (fnScope (st i)) L a cd))
      (fun f s' => Q (match f with | .ret v => v | _ => .none) s') (fun _ _ => False) { s with heap := h₁, toks := tk })
    (hco : (fnScope (st i)).isCoroutine = false) (hgen : (fnScope (st i)).isGenerator = false) (hk : (fnScope (st i)).kind = .function)
    (hcell : ((fnScope (st i)).names.all fun x => x.2 != .cell) = true) : wpAny (model pw w) A (call (.ref a) args) Q E s := by
  obtain ⟨pm, c, doc, ho, hcd⟩ := hf
  refine wpAny_call (call_plain_ret hA ho rfl T.lim hcd (hbind _ _ _) (locs hloc) (fun h₁ F => h _ _ h₁ _ F) hco hgen hk fun x hx e => ?_)
  have := List.all_eq_true.mp hcell x hx
  rw [e] at this
  exact absurd this (by decide)

def whites : Str := "\t\x0b\x0c\r\x1c\x1d\x1e\x1f \u0085\u00a0\u1680\u2000\u2001\u2002\u2003\u2004\u2005\u2006\u2007\u2008\u2009\u200a\u2028\u2029\u202f\u205f\u3000"

theorem c_whites {a : Addr} {Q : Value → Shared → Prop} (T : TF w mg s.heap) (hf : FnI s.heap a 8 "_law_whites") (r : Rm 1 A)
    (hQ : ∀ t h' tk, Ext s.heap h' → Q (.str whites t) { s with heap := h', toks := tk }) : wpAny (model pw w) A (call (.ref a) []) Q E s := by
  refine enter (binds := []) T hf (by have := r.dp; omega) (fun _ _ _ => by unfold st; kernel_rfl) (by kernel_rfl) (fun L cd h₁ tk F => ?_) (by kernel_rfl) (by kernel_rfl) (by kernel_rfl) (by kernel_rfl)
  unfold st
  refine wpAny_execs_cons (wpAny_Return_some (wpAny_Constant_str ?_))
  exact hQ _ h₁ _ F.keep
end
end Mine
end

section
open PySem PySem.W PyProof.Rows
namespace Mine

/-- all that is no dict stays -/
def Kp (h h' : Heap) : Prop := ∀ b o, h.get? b = some o → (∀ es ep, o.data ≠ .dict es ep) → h'.get? b = some o
theorem Kp.of {h h' : Heap} (k : Ext h h') : Kp h h' := fun b o e _ => k b o e
theorem Kp.refl (h : Heap) : Kp h h := fun _ _ e _ => e
theorem Kp.trans {a b c : Heap} (k : Kp a b) (k' : Kp b c) : Kp a c := fun x o e n => k' x o (k x o e n) n
theorem Ext.trans {a b c : Heap} (k : Ext a b) (k' : Ext b c) : Ext a c := fun x o e => k' x o (k x o e)
theorem Kp.ns {h h' : Heap} {L : Addr} {m : Str → Option Value} (n : h.Ns L m) (s : Heap.SameBut L h h') : Kp h h' := fun b o e nd => by
  refine (s.2 b fun q => ?_).trans e
  subst q
  obtain ⟨o', es, ep, ho, hd, _⟩ := n
  rw [ho] at e
  cases e
  exact nd _ _ hd
theorem Kp.list {h h' : Heap} (k : Kp h h') {a : Addr} {vs : Array Value} (l : h.IsList a vs) : h'.IsList a vs :=
  let ⟨o, ho, hc, n, hd⟩ := l; ⟨o, k _ _ ho (fun es ep e => by rw [hd] at e; cases e), hc, n, hd⟩

section
variable {M : Model} {w : World} {mg : Str → Option Value} {A : Around} {E : Value → Shared → Prop} {s : Shared} {name : Str} {scope : Scope} {L a : Addr} {cd : Value} {g : Heap} {m : Str → Option Value}

theorem sto {x : Str} {v : Value} {Q : Unit → Shared → Prop} (F : Fr g L s.heap m)
    (h : ∀ h' tk, Fr g L h' (fun y => if y = x then some v else m y) → Kp s.heap h' → Q () { s with heap := h', toks := tk })
    (hk : scope.kind = .function := by rfl) (hl : (envOf name scope L a cd).kindOf x = some .local := by rfl) : wpAny M A (storeName (envOf name scope L a cd) x v) Q E s :=
  wpAny_storeName_local hl F.ns (fun h' hn hs => h h' _ (F.set hn hs) (Kp.ns F.ns hs)) (by show (scope.kind == .class || (scope.kind == .module && L != mainGlobals)) = false; rw [hk]; rfl)

theorem fr_ext {h' : Heap} (F : Fr g L s.heap m) (k : Ext s.heap h') : Fr g L h' m := ⟨F.ns.keeps k, fun b o e => k b o (F.keep b o e), F.above⟩

/-- a def's name -/
theorem gn {x : Str} {pos : Pos} {v : Value} {Q : Value → Shared → Prop} (T : TF w mg s.heap) (hm : mg x = some v) (h : Q v s) {env : Env} (hg : env.globals = mainGlobals)
    (hk : env.scope.kind = .function) (hx : env.kindOf x = some .globalImplicit) (hd : (x == ("__debug__" : Str)) = false := by decide) : wpAny M A (eval (.Name x pos) env) Q E s :=
  Calls.Name_function_global hk hx (Calls.loadGlobal_global (by rw [hg]; exact T.g) hm h) hd
/-- a built-in's name -/
theorem bn {x : Str} {pos : Pos} {v : Value} {Q : Value → Shared → Prop} (T : TF w mg s.heap) (hx' : x ∈ (["len", "ord", "chr", "range", "sum"] : List Str)) (hv : bootBuiltins x = some v) (h : Q v s) {env : Env} (hg : env.globals = mainGlobals) (hb : env.builtins = builtinsNs)
    (hk : env.scope.kind = .function) (hx : env.kindOf x = some .globalImplicit) (hd : (x == ("__debug__" : Str)) = false := by decide) (hn : x ≠ "__name__" := by decide) : wpAny M A (eval (.Name x pos) env) Q E s :=
  Calls.Name_function_global hk hx (Calls.loadGlobal_builtin (by rw [hg]; exact T.g) (T.miss x hx') (by rw [hb]; exact T.b) (by rw [Heap.of_bltView (boot_bns _) (boot_blt _) x hn]; exact hv) h) hd

end

section
variable {w : World} {mg : Str → Option Value} {A : Around} {E : Value → Shared → Prop} {s : Shared}

/-- a call of a def without arguments -/
theorem call0 {f : Str} {i : Nat} {p pos : Pos} {env : Env} {Q : Value → Shared → Prop} {a : Addr} (T : TF w mg s.heap) (hm : mg f = some (.ref a)) (hf : FnI s.heap a i f) (hg : env.globals = mainGlobals)
    (hk : env.scope.kind = .function) (hx : env.kindOf f = some .globalImplicit) (h : wpAny (model pw w) A (call (.ref a) []) Q E s) (hd : (f == ("__debug__" : Str)) = false := by decide) :
    wpAny (model pw w) A (eval (.Call (.Name f p) [] [] pos) env) Q E s := by
  refine Call_ (gn T hm ?_ hg hk hx hd)
  obtain ⟨pm, c, doc, ho, _⟩ := hf
  exact Calls.callWith_function (PySem.evalArgs_none ⟨⟨ho, rfl⟩, h⟩)
/-- a call of a def with one argument -/
theorem call1 {f : Str} {i : Nat} {p pos : Pos} {e : Expr} {env : Env} {Q : Value → Shared → Prop} {a : Addr} (T : TF w mg s.heap) (hm : mg f = some (.ref a)) (hf : FnI s.heap a i f) (hg : env.globals = mainGlobals)
    (hk : env.scope.kind = .function) (hx : env.kindOf f = some .globalImplicit) (he : starEach [e] env = [(false, eval e env)])
    (h : wpAny (model pw w) A (eval e env) (fun v s₁ => Kp s.heap s₁.heap ∧ wpAny (model pw w) A (call (.ref a) [v]) Q E s₁) E s) (hd : (f == ("__debug__" : Str)) = false := by decide) :
    wpAny (model pw w) A (eval (.Call (.Name f p) [e] [] pos) env) Q E s := by
  refine Call_ (gn T hm ?_ hg hk hx hd)
  obtain ⟨pm, c, doc, ho, _⟩ := hf
  exact callWith_def (o := _) rfl (args_cons (wpAny_mono h (fun v s₁ h₁ => args_nil ⟨h₁.1 _ _ ho (fun _ _ e => by cases e), h₁.2⟩) fun _ _ x => x) he) he
end
end Mine
end

section
open PySem PySem.W PyProof.Rows PySem.Builtin PySem.Builtin.Str
namespace Mine

/-- the text of these code points -/
abbrev S (l : List Nat) : Str := ⟨l.toArray⟩
theorem S_len (l : List Nat) : (S l).length = l.length := rfl
theorem S_of (x : Str) : x = S x.cps.toList := rfl
theorem S_inj {l k : List Nat} (h : S l = S k) : l = k := by
  have := congrArg (fun x => x.cps.toList) h
  exact this
theorem S_eq {l k : List Nat} : S l = S k ↔ l = k := ⟨S_inj, fun h => by rw [h]⟩

theorem slice_from (l : List Nat) (k : Nat) : Txt.slice (S l) (some (k : Int)) none = S (l.drop k) := by
  by_cases h : k ≤ l.length
  · rw [slice_from_eq (b := (l.length : Int)) (by omega) (by show (k : Int) ≤ (l.length : Int); omega) rfl]
    show S _ = S _
    congr 1
    rw [List.take_of_length_le]
    · rfl
    · show (l.drop _).length ≤ _
      rw [List.length_drop]; omega
  · rw [slice_beyond (by show (l.length : Int) ≤ _; omega), List.drop_of_length_le (by omega)]; rfl

theorem filterMap_range (l : List Nat) : (List.range l.length).filterMap (fun k => l[l.length - 1 - k]?) = l.reverse := by
  apply List.ext_getElem?
  intro i
  have e : (List.range l.length).filterMap (fun k => l[l.length - 1 - k]?) = (List.range l.length).map (fun k => l[l.length - 1 - k]?.getD 0) := by
    have g : ∀ r : List Nat, (∀ k ∈ r, k < l.length) → r.filterMap (fun k => l[l.length - 1 - k]?) = r.map (fun k => l[l.length - 1 - k]?.getD 0) := by
      intro r
      induction r with
      | nil => intro _; rfl
      | cons a r ih =>
        intro hr
        have ha := hr a List.mem_cons_self
        have hk' : l.length - 1 - a < l.length := by omega
        rw [List.filterMap_cons, List.map_cons, ih (fun k hk => hr k (List.mem_cons_of_mem _ hk)), List.getElem?_eq_getElem hk']
        rfl
    exact g _ fun k hk => List.mem_range.mp hk
  rw [e]
  by_cases hi : i < l.length
  · rw [List.getElem?_reverse hi, List.getElem?_map, List.getElem?_range hi]
    have hk' : l.length - 1 - i < l.length := by omega
    simp [List.getElem?_eq_getElem hk']
  · rw [List.getElem?_eq_none (by simpa using hi), List.getElem?_eq_none (by simpa using hi)]

theorem slice_back (l : List Nat) (t : Tok) : Txt.sliceBy (S l) none none ((-1 : Int), t) = S l.reverse := by
  unfold Txt.sliceBy
  rw [if_neg (by simp)]
  congr 1
  congr 1
  rw [← filterMap_range l]
  have e : slicePicked (S l) none none (some ((-1 : Int), t)) = (List.range l.length).map (fun k => l.length - 1 - k) := by
    show strSliceIndices none none (-1) l.length = _
    unfold strSliceIndices sliceRange
    simp only [show ¬ ((-1 : Int) > 0) by decide, if_false]
    by_cases hl : l.length = 0
    · simp [hl]
    · rw [if_pos (by omega)]
      have : (((l.length : Int) - 1 - -1 - -1 - 1) / - -1).toNat = l.length := by
        rw [show (- -1 : Int) = 1 by decide, Int.ediv_one]; omega
      rw [this]
      refine List.map_congr_left fun k hk => ?_
      omega
  rw [e, List.filterMap_map]
  congr 1
  funext k
  simp

section
variable {w : World} {A : Around} {E : Value → Shared → Prop} {s : Shared}
end
section
variable {w : World} {A : Around} {E : Value → Shared → Prop} {s : Shared}

/-- one sign of a text -/
theorem str_at {value slice : Expr} {l : List Nat} {k : Nat} {t u : Tok} {Q : Value → Shared → Prop} (hk : k < l.length) (hf : l.length ≤ 1000000) (h : ∀ t' tk, Q (.str (S [l[k]]) t') { s with toks := tk })
    (hs : ∃ ops, subscripted slice false (.str (S l) t) (.int k u) = operate ops (getItem (.str (S l) t) (.int k u))) : wpAny (model pw w) A (subscriptTail value slice (.str (S l) t) (.int k u)) Q E s := by
  obtain ⟨ops, hs⟩ := hs
  refine tail_any (typeIs_str _ _ _) F.slot_str_getitem.lookup (PyProof.Rows.getItem_str (c := l[k]) ?_ ?_ (h _ _)) hs
  · simp; omega
  · have : seqIndex? (k : Int) (S l).length = some k := by
      unfold seqIndex?
      have h0 : ¬ ((k : Int) < 0) := by omega
      simp [S_len, h0]
      omega
    rw [this]
    simp [hk]
/-- a text from a place on -/
theorem str_from {value slice : Expr} {l : List Nat} {k : Nat} {t u : Tok} {Q : Value → Shared → Prop} (hf : l.length ≤ 1000000) (h : ∀ t' h' tk, Ext s.heap h' → Q (.str (S (l.drop k)) t') { s with heap := h', toks := tk })
    (hs : ∃ ops, subscripted slice false (.str (S l) t) (.ref s.heap.objs.size) = operate ops (getItem (.str (S l) t) (.ref s.heap.objs.size))) :
    wpAny (model pw w) A (subscriptTail value slice (.str (S l) t) (.ref s.heap.objs.size)) Q E { s with heap := s.heap.push { cls := .type "slice", data := .fields #[.int (k : Int) u, .none, .none] } } := by
  obtain ⟨ops, hs⟩ := hs
  obtain ⟨T, id, hl, hT, hg⟩ := SBH.sliceItem_sn (prog := pw) (w := w) (A := A) (E := E) (P := fun h' => Ext s.heap h') (s := s) (x := S l) (t := t) (Q := Q) (i := (k : Int)) (ui := u) (fun h ob p b o e => Heap.get?_push_of_some ob (p b o e)) (fun _ _ e => e)
    (fun h' t' c p => by rw [slice_from]; exact h t' h' c p) (by simp only [S_len, sizeLine_eq]; omega)
  exact tail_any hT hl hg hs
/-- a text back to front -/
theorem str_rev {value slice : Expr} {l : List Nat} {t u : Tok} {Q : Value → Shared → Prop} (hf : l.length ≤ 1000000) (h : ∀ t' h' tk, Ext s.heap h' → Q (.str (S l.reverse) t') { s with heap := h', toks := tk })
    (hs : ∃ ops, subscripted slice false (.str (S l) t) (.ref s.heap.objs.size) = operate ops (getItem (.str (S l) t) (.ref s.heap.objs.size))) :
    wpAny (model pw w) A (subscriptTail value slice (.str (S l) t) (.ref s.heap.objs.size)) Q E { s with heap := s.heap.push { cls := .type "slice", data := .fields #[.none, .none, .int (-1) u] } } := by
  obtain ⟨ops, hs⟩ := hs
  refine tail_any (typeIs_str _ _ _) F.slot_str_getitem.lookup (wpAny_getItem_str_slice (l := none) (u := none) (st := some (-1, u)) ⟨_, Heap.get?_push_size _ rfl, rfl, rfl⟩ rfl
    (post_val_or_str ⟨Nat.le_trans (Txt.sliceBy_le (S l) _ _ (-1, u) (by show (-1 : Int) ≠ 0; decide)) (by simp only [S_len, sizeLine_eq]; omega), fun t' c => ?_⟩)) hs
  have := h t' _ c (fun b o e => Heap.get?_push_of_some { cls := .type "slice", data := .fields #[.none, .none, .int (-1) u] } e)
  rw [← slice_back l u] at this
  exact this
theorem str_in {l : List Nat} {c : Nat} {t u : Tok} {Q : Value → Shared → Prop} (h : Q (.bool (decide (c ∈ l))) s) : wpAny (model pw w) A (compareOp .In (.str (S [c]) u) (.str (S l) t)) Q E s := by
  refine SB.contains ?_
  have : Txt.contains (S l) (S [c]) = decide (c ∈ l) := StrLaws.found_one (S l) c
  rw [this]; exact h
end
end Mine
end

section
open PySem PySem.W PyProof.Rows PySem.Builtin PySem.Builtin.Str
namespace Mine

def ws : List Nat := whites.cps.toList
def wh (c : Nat) : Bool := decide (c ∈ ws)
def front (l : List Nat) : List Nat := l.dropWhile wh
def back (l : List Nat) : List Nat := (front l.reverse).reverse

section
variable {w : World} {mg : Str → Option Value} {A : Around} {E : Value → Shared → Prop} {s : Shared}

/-- a store into a local name, the others as they were -/
theorem stx {M : Model} {name : Str} {scope : Scope} {L a : Addr} {cd : Value} {g : Heap} {m : Str → Option Value} {x : Str} {v : Value} {Q : Unit → Shared → Prop} (F : Fr g L s.heap m)
    (h : ∀ h' tk m', Fr g L h' m' → m' x = some v → (∀ y, y ≠ x → m' y = m y) → Kp s.heap h' → Q () { s with heap := h', toks := tk })
    (hk : scope.kind = .function := by rfl) (hl : (envOf name scope L a cd).kindOf x = some .local := by rfl) : wpAny M A (storeName (envOf name scope L a cd) x v) Q E s :=
  sto F (fun h' tk F' k => h h' tk _ F' (if_pos rfl) (fun _ hy => if_neg hy) k) hk hl

theorem entr {n i : Nat} {name : Str} {a : Addr} {args : List Value} {binds : List (Str × Value)} {Q : Value → Shared → Prop} (T : TF w mg s.heap) (hf : FnI s.heap a i name) (r : Rm (n + 1) A)
    (hbind : ∀ pm cd doc, bindArgs (Calls.docDef name (fnParams (st i)) (fnBody (st i)) (fnScope (st i)) pm cd doc) ⟨args, []⟩ = pure binds)
    (hloc : (binds.all fun x => decide ((fnScope (st i)).names.lookup x.1 = some .local)) = true)
    (h : ∀ L cd h₁ tk m A', Rm n A' → Fr s.heap L h₁ m → (∀ x v, binds.reverse.lookup x = some v → m x = some v) → TF w mg h₁ → wpAny (model pw w) A' (execs (fnBody (st i)) (envOf name (fnScope (st i)) L a cd))
      (fun f s' => Q (match f with | .ret v => v | _ => .none) s') (fun _ _ => False) { s with heap := h₁, toks := tk })
    (hco : (fnScope (st i)).isCoroutine = false) (hgen : (fnScope (st i)).isGenerator = false) (hk : (fnScope (st i)).kind = .function)
    (hcell : ((fnScope (st i)).names.all fun x => x.2 != .cell) = true) : wpAny (model pw w) A (call (.ref a) args) Q E s :=
  enter T hf (by have := r.dp; omega) hbind hloc (fun L cd h₁ tk F => h L cd h₁ tk _ _ (r.deeper _) F (fun _ _ e => e) (T.keeps F.keep)) hco hgen hk hcell

theorem c_front {a : Addr} {l : List Nat} {t : Tok} {Q : Value → Shared → Prop} (T : TF w mg s.heap) (hf : FnI s.heap a 12 "_law_front") (r : Rm 2 A) (hl : l.length ≤ 100000)
    (hQ : ∀ t h' tk, Ext s.heap h' → Q (.str (S (front l)) t) { s with heap := h', toks := tk }) : wpAny (model pw w) A (call (.ref a) [.str (S l) t]) Q E s := by
  refine entr (binds := [("row", .str (S l) t)]) T hf r (fun _ _ _ => by unfold st; kernel_rfl) (by kernel_rfl) (fun L cd h₁ tk m₁ A' r' F hm T₁ => ?_) (by kernel_rfl) (by kernel_rfl) (by kernel_rfl) (by kernel_rfl)
  have hrow := hm "row" (.str (S l) t) (by kernel_rfl)
  obtain ⟨aw, mw, fw⟩ := T.fn (8, "_law_whites") (by decide)
  unfold st
  refine wpAny_execs_cons (wpAny_Assign_Name (call0 T₁ mw (fw.keeps F.keep) rfl (by kernel_rfl) (by kernel_rfl) (c_whites T₁ (fw.keeps F.keep) r' fun tw h₂ tk k₂ => ?_)) rfl)
  refine stx (fr_ext F k₂) fun h₃ tk m₃ F₃ hw o₃ _ => ?_
  have hrow₃ := (o₃ "row" (by decide)).trans hrow
  refine wpAny_execs_cons (wpAny_Assign_Name (wpAny_Constant_int ?_) rfl)
  refine stx F₃ fun h₄ tk m₄ F₄ hk o₄ _ => ?_
  have hrow₄ := (o₄ "row" (by decide)).trans hrow₃
  have hw₄ := (o₄ "whites" (by decide)).trans hw
  refine wpAny_execs_cons (wpAny_While (codeAny_whileLoop (fun n s' => ∃ h' tk m' k t', s' = { s with heap := h', toks := tk } ∧ Fr s.heap L h' m' ∧ m' "row" = some (.str (S l) t) ∧ m' "whites" = some (.str whites tw)
    ∧ m' "k" = some (.int (k : Nat) t') ∧ n = l.length - k ∧ k ≤ l.length ∧ front l = front (l.drop k)) ?_ l.length ⟨h₄, _, m₄, 0, _, rfl, F₄, hrow₄, hw₄, hk, by omega, by omega, rfl⟩))
  rintro n s' ⟨h', tk', m', k, t', rfl, F', hr, hw', hk', hn, hle, hfr⟩
  have T' := T.keeps F'.keep
  refine wpAny_isTrue_BoolOp (wpAny_allTrue_And_cons (wpAny_isTrue_Compare1 (ld F' hk' (Call_ (bn T' (by decide) boot_len ?_ rfl rfl (by kernel_rfl) (by kernel_rfl))))))
  refine PyProof.Rows.callWith_builtin1 (args_cons (ld F' hr (args_nil (PyProof.Rows.len_str (by rw [S_len]; omega) (wpAny_lt_int (wpAny_truthy_bool ?_))))))
  rw [S_len]
  by_cases hlt : k < l.length
  · rw [if_pos (by simpa using hlt)]
    refine wpAny_allTrue_And_cons (wpAny_isTrue_Compare1 (Subscript_ (ld F' hr (ld F' hk' (str_at hlt (by omega) (fun t2 tk2 => ld F' hw' (str_in (l := ws) (wpAny_truthy_bool ?_))) ⟨_, rfl⟩)))))
    by_cases hin : l[k] ∈ ws
    · rw [if_pos (by simpa using hin)]
      refine wpAny_allTrue_And_nil ?_
      rw [if_pos rfl]
      refine wpAny_execs_cons (wpAny_AugAssign_Name (ldn F' hk' (wpAny_Constant_int (PyProof.Rows.iadd_int ?_))))
      refine stx F' fun h₅ tk₅ m₅ F₅ hk₅ o₅ _ => wpAny_execs_nil ⟨n - 1, by omega, h₅, _, m₅, k + 1, _, rfl, F₅, (o₅ "row" (by decide)).trans hr, (o₅ "whites" (by decide)).trans hw', hk₅, by omega, by omega, ?_⟩
      rw [hfr, List.drop_eq_getElem_cons hlt]
      exact List.dropWhile_cons_of_pos (by simpa [wh] using hin)
    · rw [if_neg (by simpa using hin), if_neg (by simp)]
      refine wpAny_execs_nil ?_
      refine wpAny_execs_cons (wpAny_Return_some (Subscript_ (ld F' hr (wpAny_Slice (ld F' hk' (wpAny_evalPart_none (wpAny_evalPart_none (str_from (by omega) (fun t2 h2 tk2 k2 => ?_) ⟨_, rfl⟩))))))))
      have : front l = l.drop k := by
        rw [hfr, List.drop_eq_getElem_cons hlt]
        exact List.dropWhile_cons_of_neg (by simpa [wh] using hin)
      rw [← this]
      exact hQ _ _ _ (fun b o e => k2 b o (F'.keep b o e))
  · rw [if_neg (by simpa using hlt), if_neg (by simp)]
    refine wpAny_execs_nil ?_
    refine wpAny_execs_cons (wpAny_Return_some (Subscript_ (ld F' hr (wpAny_Slice (ld F' hk' (wpAny_evalPart_none (wpAny_evalPart_none (str_from (by omega) (fun t2 h2 tk2 k2 => ?_) ⟨_, rfl⟩))))))))
    have : front l = l.drop k := by
      rw [hfr, List.drop_eq_nil_of_le (by omega)]; rfl
    rw [← this]
    exact hQ _ _ _ (fun b o e => k2 b o (F'.keep b o e))
end
end Mine
end

section
open PySem PySem.W PyProof.Rows PySem.Builtin PySem.Builtin.Str
namespace Mine

section
variable {w : World} {mg : Str → Option Value} {A : Around} {E : Value → Shared → Prop} {s : Shared}

theorem front_len (l : List Nat) : (front l).length ≤ l.length := (List.dropWhile_sublist _).length_le

theorem c_back {a : Addr} {l : List Nat} {t : Tok} {Q : Value → Shared → Prop} (T : TF w mg s.heap) (hf : FnI s.heap a 13 "_law_back") (r : Rm 3 A) (hl : l.length ≤ 100000)
    (hQ : ∀ t h' tk, Ext s.heap h' → Q (.str (S (back l)) t) { s with heap := h', toks := tk }) : wpAny (model pw w) A (call (.ref a) [.str (S l) t]) Q E s := by
  refine entr (binds := [("row", .str (S l) t)]) T hf r (fun _ _ _ => by unfold st; kernel_rfl) (by kernel_rfl) (fun L cd h₁ tk m₁ A' r' F hm T₁ => ?_) (by kernel_rfl) (by kernel_rfl) (by kernel_rfl) (by kernel_rfl)
  have hrow := hm "row" (.str (S l) t) (by kernel_rfl)
  obtain ⟨aw, mw, fw⟩ := T.fn (12, "_law_front") (by decide)
  unfold st
  refine wpAny_execs_cons (wpAny_Return_some (Subscript_ (call1 T₁ mw (fw.keeps F.keep) rfl (by kernel_rfl) (by kernel_rfl) rfl ?_)))
  refine Subscript_ (ld F hrow (wpAny_Slice (wpAny_evalPart_none (wpAny_evalPart_none (wpAny_evalPart_some (wpAny_UnaryOp (wpAny_Constant_int (PySem.P.neg_int ?_))))))))
  refine str_rev (s := { s with heap := h₁, toks := _ }) (by omega) (fun t2 h2 tk2 k2 => ⟨Kp.of k2, ?_⟩) ⟨_, rfl⟩
  refine c_front (T₁.keeps k2) ((fw.keeps F.keep).keeps k2) r' (by simpa using hl) fun t3 h3 tk3 k3 => ?_
  refine wpAny_Slice (wpAny_evalPart_none (wpAny_evalPart_none (wpAny_evalPart_some (wpAny_UnaryOp (wpAny_Constant_int (PySem.P.neg_int ?_))))))
  refine str_rev (s := { s with heap := h3, toks := _ }) (by have := front_len l.reverse; rw [List.length_reverse] at this; omega) (fun t4 h4 tk4 k4 => ?_) ⟨_, rfl⟩
  exact hQ _ _ _ fun b o e => k4 b o (k3 b o (k2 b o (F.keep b o e)))

def isB1 (c : Nat) : Bool := b1.any (· == (c : Int))

theorem c_b1 {a : Addr} {c : Nat} {t : Tok} {Q : Value → Shared → Prop} (T : TF w mg s.heap) (hf : FnI s.heap a 4 "in_table_b1") (r : Rm 1 A)
    (hQ : ∀ h' tk, Ext s.heap h' → Q (.bool (isB1 c)) { s with heap := h', toks := tk }) : wpAny (model pw w) A (call (.ref a) [.str (S [c]) t]) Q E s := by
  refine entr (binds := [("code", .str (S [c]) t)]) T hf r (fun _ _ _ => by unfold st; kernel_rfl) (by kernel_rfl) (fun L cd h₁ tk m₁ A' r' F hm T₁ => ?_) (by kernel_rfl) (by kernel_rfl) (by kernel_rfl) (by kernel_rfl)
  have hrow := hm "code" (.str (S [c]) t) (by kernel_rfl)
  obtain ⟨as, n, ms, fs⟩ := T₁.set
  unfold st
  refine wpAny_execs_cons (wpAny_Return_some (wpAny_Compare1 (Call_ (bn T₁ (by decide) boot_ord ?_ rfl rfl (by kernel_rfl) (by kernel_rfl)))))
  refine PyProof.Rows.callWith_builtin1 (args_cons (ld F hrow (args_nil (PySem.P.ord_of_char ?_))))
  refine gn T₁ ms (wpAny_inSet_of (k := (c : Int)) (intKind_is _ _ _ _) rfl fs ?_) rfl (by kernel_rfl) (by kernel_rfl)
  exact hQ _ _ F.keep

def at3 (c : Nat) : Option Str := (b3.find? fun kv => kv.1 = (c : Int)).map (·.2)
theorem at3_of {kvs : List (Int × Value)} {qs : List (Int × Str)} (h : All2 KV kvs qs) (c : Int) :
    (valueAt kvs c = none ∧ (qs.find? fun kv => kv.1 = c) = none) ∨ ∃ q t, (qs.find? fun kv => kv.1 = c) = some q ∧ valueAt kvs c = some (.str q.2 t) := by
  unfold valueAt
  induction h with
  | nil => exact .inl ⟨rfl, rfl⟩
  | @cons kv q kvs qs hk _ ih =>
    obtain ⟨e, t, ev⟩ := hk
    by_cases hc : kv.1 = c
    · refine .inr ⟨q, t, ?_, ?_⟩
      · rw [List.find?_cons_of_pos (by simpa using e ▸ hc)]
      · rw [List.find?_cons_of_pos (by simpa using hc)]; simp [ev]
    · rw [List.find?_cons_of_neg (by simpa using hc), List.find?_cons_of_neg (by simpa using e ▸ hc)]
      exact ih

def fold (c : Nat) : Str := (at3 c).getD (Txt.lower (S [c]))

theorem c_b3 {a : Addr} {c : Nat} {t : Tok} {Q : Value → Shared → Prop} (T : TF w mg s.heap) (hf : FnI s.heap a 6 "map_table_b3") (r : Rm 1 A)
    (hQ : ∀ t h' tk, Ext s.heap h' → Q (.str (fold c) t) { s with heap := h', toks := tk }) : wpAny (model pw w) A (call (.ref a) [.str (S [c]) t]) Q E s := by
  refine entr (binds := [("code", .str (S [c]) t)]) T hf r (fun _ _ _ => by unfold st; kernel_rfl) (by kernel_rfl) (fun L cd h₁ tk m₁ A' r' F hm T₁ => ?_) (by kernel_rfl) (by kernel_rfl) (by kernel_rfl) (by kernel_rfl)
  have hrow := hm "code" (.str (S [c]) t) (by kernel_rfl)
  obtain ⟨d, kvs, md, nd, fd, kd⟩ := T₁.dict
  unfold st
  refine wpAny_execs_cons (wpAny_Assign_Name (Call_method1 (by rfl) rfl rfl (gn T₁ md ?_ rfl (by kernel_rfl) (by kernel_rfl))) rfl)
  refine ⟨"dict", "dict.get", PySem.F.plainAttrs_dict, PySem.F.slot_dict_get, PySem.F.type_dict_get, fd.typeIs, fd.mapOf.noDict, wpAny_dict_get1 (knd := intKind pw w) nd ?_⟩
  refine Call_ (bn T₁ (by decide) boot_ord ?_ rfl rfl (by kernel_rfl) (by kernel_rfl))
  refine PyProof.Rows.callWith_builtin1 (args_cons (ld F hrow (args_nil (PySem.P.ord_of_char ⟨(c : Int), _, intKind_is _ _ _ _, fd.mapOf, ?_⟩))))
  refine stx F fun h₃ tk m₃ F₃ hr o₃ _ => ?_
  have hrow₃ := (o₃ "code" (by decide)).trans hrow
  rcases at3_of kd c with ⟨e1, e2⟩ | ⟨q, t, e1, e2⟩
  · rw [e1] at hr
    refine wpAny_execs_cons (wpAny_If (wpAny_isTrue_Compare1 (ld F₃ hr (wpAny_Constant_none (wpAny_isNot_self rfl (wpAny_truthy_bool ?_))))))
    rw [if_neg (by simp)]
    refine wpAny_execs_nil (wpAny_execs_cons (wpAny_Return_some (Call_method0 (by rfl) rfl (ld F₃ hrow₃ (PySem.SB.lower ?_ ?_)))))
    · exact fit_lower (by show 1 ≤ 5592405; decide)
    have : Txt.lower (S [c]) = fold c := by unfold fold at3; rw [e2]; rfl
    rw [this]
    exact hQ _ _ _ F₃.keep
  · rw [e2] at hr
    refine wpAny_execs_cons (wpAny_If (wpAny_isTrue_Compare1 (ld F₃ hr (wpAny_Constant_none (wpAny_isNot_other rfl (by intro h; cases h) (wpAny_truthy_bool ?_))))))
    rw [if_pos rfl]
    refine wpAny_execs_cons (wpAny_Return_some (ld F₃ hr ?_))
    have : q.2 = fold c := by unfold fold at3; rw [e1]; rfl
    rw [this]
    exact hQ _ _ _ F₃.keep
end
end Mine
end

section
open PySem PySem.W PyProof.Rows PySem.Builtin PySem.Builtin.Str
namespace Mine

/-- what may be walked: the values for these items in turn -/
def Src {α : Type} (w : World) (A : Around) (h : Heap) (xv : Value) (xs : List α) (V : α → Value → Prop) : Prop :=
  ∀ (s : Shared) (Q : Value → Shared → Prop) (E : Value → Shared → Prop), s.heap = h →
    (∀ I fp wr St h' tk, Walks pw w A I fp wr xs.length (fun i v => ∃ x, xs[i]? = some x ∧ V x v) St → St 0 h' → (∀ b ∈ fp, b < h'.objs.size) → (∀ i h, St i h → ∀ b ∈ wr, ∃ o, h.get? b = some o) → Ext h h' → (∀ b ∈ wr, h.get? b = none) →
      Q (.ref I) { s with heap := h', toks := tk }) → wpAny (model pw w) A (pyIter xv) Q E s

theorem Walks.weaken {w : World} {A : Around} {I : Addr} {fp wr : List Addr} {n : Nat} {P P' : Nat → Value → Prop} {St : Nat → Heap → Prop} (W : Walks pw w A I fp wr n P St) (h : ∀ i v, i < n → P i v → P' i v) : Walks pw w A I fp wr n P' St where
  sub := W.sub
  frame := W.frame
  item := fun i s Q E hi st hQ => W.item i s Q E hi st fun v h' tk hp => hQ v h' tk (h i v hi hp)
  done := W.done
  self := W.self

theorem get_new (h : Heap) : h.get? h.objs.size = none := Heap.get?_none_of_le (Nat.le_refl _)

theorem All2.get {α β : Type} {R : α → β → Prop} {as : List α} {bs : List β} (h : All2 R as bs) : ∀ {i : Nat} {a : α}, as[i]? = some a → ∃ b, bs[i]? = some b ∧ R a b := by
  induction h with
  | nil => intro i a e; simp at e
  | cons r _ ih =>
    intro i a e
    cases i with
    | zero => simp at e; subst e; exact ⟨_, rfl, r⟩
    | succ i => simp at e; simpa using ih e

theorem src_list {α : Type} {w : World} {A : Around} {h : Heap} {l : Addr} {vs : List Value} {xs : List α} {V : α → Value → Prop} (hh : A.handled = none) (hl : h.IsList l vs.toArray) (hv : All2 (fun v x => V x v) vs xs) : Src w A h (.ref l) xs V := by
  rintro s Q E rfl hQ
  refine wpAny_pyIter_list hl ?_
  have hne : l ≠ s.heap.objs.size := by
    obtain ⟨o, ho, _⟩ := hl
    exact Nat.ne_of_lt (Heap.lt_size ho)
  have hlen := hv.length
  have W := Walks.weaken (P' := fun i v => ∃ x, xs[i]? = some x ∧ V x v) (Walks.list (prog := pw) (w := w) (A := A) hh s.heap.objs.size l hne vs.toArray) (fun i v _ e => hv.get (by simpa using e))
  have e : vs.toArray.size = xs.length := hlen
  rw [e] at W
  refine hQ _ _ _ _ _ _ W ⟨⟨_, Heap.get?_push_size _ rfl, rfl, rfl⟩, ?_⟩ ?_ ?_ (fun b o e => Heap.get?_push_of_some _ e) (fun b hb => ?_)
  · obtain ⟨o, ho, r⟩ := hl; exact ⟨o, Heap.get?_push_of_some _ ho, r⟩
  · intro b hb
    rw [Heap.size_push]
    simp at hb
    rcases hb with rfl | rfl
    · exact Nat.lt_succ_self _
    · obtain ⟨o, ho, _⟩ := hl
      exact Nat.lt_succ_of_lt (Heap.lt_size ho)
  · rintro i h ⟨⟨o, ho, _⟩, _⟩ b hb
    simp at hb; subst hb; exact ⟨o, ho⟩
  · simp at hb; subst hb; exact get_new _

theorem src_str {w : World} {A : Around} {h : Heap} {l : List Nat} {t : Tok} (hh : A.handled = none) : Src w A h (.str (S l) t) l (fun c v => ∃ u, v = .str (S [c]) u) := by
  rintro s Q E rfl hQ
  cases ha : (S l).cps.all (· < 128)
  · refine wpAny_pyIter_wide ha (hQ _ _ _ _ _ _ (Walks.weaken (Walks.strWide hh _ (S l) t) (fun i v _ ⟨c, u, e, hv⟩ => ⟨c, by simpa using e, u, hv⟩)) ⟨_, Heap.get?_push_size _ rfl, rfl, rfl⟩ ?_ ?_ (fun b o e => Heap.get?_push_of_some _ e) (fun b hb => ?_))
    · intro b hb; simp at hb; subst hb; rw [Heap.size_push]; exact Nat.lt_succ_self _
    · rintro i h ⟨o, ho, _⟩ b hb; simp at hb; subst hb; exact ⟨o, ho⟩
    · simp at hb; subst hb; exact get_new _
  · refine wpAny_pyIter_ascii ha (hQ _ _ _ _ _ _ (Walks.weaken (Walks.strAscii hh _ (S l) t) (fun i v _ ⟨c, u, e, hv⟩ => ⟨c, by simpa using e, u, hv⟩)) ⟨_, Heap.get?_push_size _ rfl, rfl, rfl⟩ ?_ ?_ (fun b o e => Heap.get?_push_of_some _ e) (fun b hb => ?_))
    · intro b hb; simp at hb; subst hb; rw [Heap.size_push]; exact Nat.lt_succ_self _
    · rintro i h ⟨o, ho, _⟩ b hb; simp at hb; subst hb; exact ⟨o, ho⟩
    · simp at hb; subst hb; exact get_new _

theorem src_range {w : World} {A : Around} {h : Heap} {r : Addr} {n : Nat} {t u v : Tok} (hh : A.handled = none) (hn : n ≤ 1000000) (hr : IsRange h r 0 n 1 t u v) : Src w A h (.ref r) (List.range n) (fun k v => ∃ t, v = .int (k : Nat) t) := by
  rintro s Q E rfl hQ
  have hz : Builtin.Range.rangeSize 0 n 1 = n := by
    unfold Builtin.Range.rangeSize
    simp only [show (1 : Int) > 0 by decide, if_true, Int.ediv_one]
    split <;> omega
  refine wpAny_pyIter_range hr ?_ ?_
  · unfold Builtin.Range.small
    rw [hz]
    simp [Builtin.Range.rangeFitsLong]
    omega
  · have W := Walks.weaken (P' := fun i v => ∃ x, (List.range n)[i]? = some x ∧ ∃ t, v = .int (x : Nat) t) (Walks.range (prog := pw) (w := w) (A := A) hh s.heap.objs.size 0 1 n) (fun i v hi ⟨t, e⟩ => ⟨i, List.getElem?_range hi, t, by rw [e]; congr 1; omega⟩)
    have e : (List.range n).length = n := List.length_range
    rw [← e] at W
    rw [e] at W
    refine hQ _ _ _ _ _ _ (by rw [e]; exact W) ?_ ?_ ?_ (fun b o e => Heap.get?_push_of_some _ e) (fun b hb => ?_)
    · show IsRangeIter _ _ _ _ _
      rw [hz]
      exact Heap.get?_push_size _ rfl
    · intro b hb; simp at hb; subst hb; rw [Heap.size_push]; exact Nat.lt_succ_self _
    · rintro i h st b hb; simp at hb; subst hb; exact ⟨_, st⟩
    · simp at hb; subst hb; exact get_new _

section
variable {w : World} {A : Around} {E : Value → Shared → Prop} {s : Shared} {env : Env} {α β : Type}

theorem All2.imp {γ δ : Type} {R R' : γ → δ → Prop} {as : List γ} {bs : List δ} (h : All2 R as bs) (f : ∀ a b, R a b → R' a b) : All2 R' as bs := by
  induction h with
  | nil => exact .nil
  | cons r _ ih => exact .cons (f _ _ r) ih

theorem lcomp {xs : List α} {V : α → Value → Prop} {p : α → Bool} {f : α → β} {R : Heap → Value → β → List Addr → Prop}
    {elt iter : Expr} {x : Str} {px : Pos} {ifs : List Expr} {scope : Scope} {cl : List (Str × Addr)} {pos : Pos} {Q : Value → Shared → Prop}
    (hR : ∀ h h' y b as, R h y b as → (∀ z ∈ as, ∀ o, h.get? z = some o → h'.get? z = some o) → R h' y b as)
    (hclos : closureFor scope env = pure cl) (hcell : ∀ y ∈ scope.names, y.2 ≠ .cell) (hkind : scope.kind = .function)
    (hnames : ∀ y ∈ scope.names, y.2 = .local → scope.names.lookup y.1 = some .local) (hx : scope.names.lookup x = some .local) (hlen : xs.length ≤ 1000000)
    (h : wpAny (model pw w) A (eval iter env) (fun xv s₁ => Src w A s₁.heap xv xs V ∧
      (∀ C a v s₃ m₃ E' Q', a ∈ xs → V a v → s₃.heap.Ns C m₃ → m₃ x = some v → Ext s₁.heap s₃.heap → (∀ h' tk, Ext s₃.heap h' → Q' (p a) { s₃ with heap := h', toks := tk }) →
        wpAny (model pw w) A (forIn ifs true fun c r => if r = true then do let ok ← isTrue c (compEnvC scope cl C env) (eval c (compEnvC scope cl C env)); pure (ForInStep.yield ok) else pure (ForInStep.yield r)) Q' E' s₃) ∧
      (∀ C a v s₃ m₃ E' Q', a ∈ xs → p a = true → V a v → s₃.heap.Ns C m₃ → m₃ x = some v → Ext s₁.heap s₃.heap →
        (∀ y h' tk as, Ext s₃.heap h' → R h' y (f a) as → (∀ z ∈ as, s₃.heap.get? z = none) → Q' y { s₃ with heap := h', toks := tk }) → wpAny (model pw w) A (eval elt (compEnvC scope cl C env)) Q' E' s₃) ∧
      (∀ D h' tk ys, Ext s₁.heap h' → s₁.heap.get? D = none → h'.PlainList D ys → All2 (fun y b => ∃ as, R h' y b as ∧ ∀ z ∈ as, s₁.heap.get? z = none ∧ z ≠ D) ys.toList ((xs.filter p).map f) → Q (.ref D) { s₁ with heap := h', toks := tk })) E s)
    (hs : ∀ x, foldedSetIterable iter env x = pure x := by intro _; rfl) :
    wpAny (model pw w) A (eval (.ListComp elt [⟨.Name x px, iter, ifs, 0⟩] scope pos) env) Q E s := by
  rw [eval_ListComp]
  refine wpAny_comprehension_free (use := none) rfl hs hclos hkind hnames (wpAny_mono h (fun xv s₁ h₁ => ?_) fun _ _ e => e)
  obtain ⟨hsrc, htest, helt, hfin⟩ := h₁
  refine hsrc s₁ _ _ rfl fun I fp wr St h₂ tk₂ W hst hfp hlive k₁₂ hwr => ?_
  refine wpAny_newObj_type (wpAny_newFunctionEnv hcell (by intro y hy; simp at hy) (fun h₄ hns₄ hsb₄ => ?_) hkind)
  dsimp only at hns₄ hsb₄ ⊢
  generalize hH3 : h₂.push { cls := .type "list", dict := none, data := .seq ([] : List Value).toArray } = H3 at hns₄ hsb₄ ⊢
  have hC : H3.objs.size = h₂.objs.size + 1 := by rw [← hH3, Heap.size_push]
  generalize hCe : H3.objs.size = C at hns₄ hsb₄ hC ⊢
  generalize hDe : h₂.objs.size = D at hC ⊢
  have hDC : D ≠ C := by omega
  have below : ∀ b, b < h₂.objs.size → b ≠ D ∧ b ≠ C := fun b hb => by
    rw [hDe] at hb
    exact ⟨Nat.ne_of_lt hb, Nat.ne_of_lt (by rw [hC]; exact Nat.lt_succ_of_lt hb)⟩
  have hDf : D ∉ fp := fun hm => (below _ (hfp _ hm)).1 rfl
  have hCf : C ∉ fp := fun hm => (below _ (hfp _ hm)).2 rfl
  have hDw : D ∉ wr := fun hm => hDf (W.sub _ hm)
  have hCw : C ∉ wr := fun hm => hCf (W.sub _ hm)
  have k₂₄ : Ext h₂ h₄ := fun b o e => by
    have hb := Heap.lt_size e
    refine hsb₄.extBut b o (below b hb).2 (Heap.get?_push_of_some _ (hH3 ▸ Heap.get?_push_of_some _ e))
  have hacc : h₄.PlainList D #[] := ⟨_, hsb₄.extBut _ _ hDC (Heap.get?_push_of_some _ (by rw [← hH3, ← hDe]; exact Heap.get?_push_size _ rfl))⟩
  have hst₄ : St 0 h₄ := W.frame _ _ _ hst fun b _ o e => k₂₄ b o e
  have newC : s₁.heap.get? C = none := by
    cases e : s₁.heap.get? C with
    | none => rfl
    | some o => exact absurd rfl (below _ (Heap.lt_size (k₁₂ _ _ e))).2
  have newD : s₁.heap.get? D = none := by
    cases e : s₁.heap.get? D with
    | none => rfl
    | some o => exact absurd rfl (below _ (Heap.lt_size (k₁₂ _ _ e))).1
  have loop : ∀ s₃ : Shared, s₃ = { s₁ with heap := h₄, toks := tk₂ + ([] : List (Str × Value)).length } →
      codeAny (model pw w) A (.compLoop (.ListComp elt [⟨.Name x px, iter, ifs, 0⟩] scope pos) 0 (.ref I) (.ref D) (compEnvC scope cl C env)) (compPost (model pw w) A E none Q (.ref D) C) s₃ := by
    rintro s₃ rfl
    refine codeAny_compLoop_tests (fun k s' => ∃ h' tk m' ys done rest, s' = { s₁ with heap := h', toks := tk } ∧ xs = done ++ rest ∧ St done.length h' ∧ h'.PlainList D ys ∧ h'.Ns C m' ∧ k = rest.length + 1 ∧ Ext s₁.heap h' ∧ ys.size ≤ done.length ∧
      All2 (fun y b => ∃ as, R h' y b as ∧ ∀ z ∈ as, z ≠ C ∧ z ≠ D ∧ z ∉ wr ∧ s₁.heap.get? z = none) ys.toList ((done.filter p).map f)) ?_ (xs.length + 1)
      ⟨h₄, _, _, #[], [], xs, rfl, rfl, hst₄, hacc, hns₄, rfl, Ext.trans k₁₂ k₂₄, Nat.le_refl _, .nil⟩
    rintro k s' ⟨h', tk, m', ys, done, rest, rfl, hxs, hst', hacc', hn', rfl, hk', hsz, hall⟩
    cases rest with
    | nil =>
      have hd : xs.length = done.length := by rw [hxs]; simp
      refine W.done _ _ _ (hd ▸ hst') fun h₅ tk₅ hk₅ => ?_
      refine ⟨m', hn'.at' fun o e => hk₅ _ o hCw e, fun h₆ hs₆ => ?_⟩
      refine hfin D h₆ tk₅ ys (fun b o e => ?_) newD ((hacc'.at fun o e => hk₅ _ o hDw e).at fun o e => hs₆.extBut _ _ hDC e) ?_
      · refine hs₆.extBut b o (fun q => by subst q; rw [newC] at e; cases e) (hk₅ b o (fun q => by rw [hwr b q] at e; cases e) (hk' b o e))
      · have : xs = done := by rw [hxs]; simp
        rw [this]
        refine hall.imp fun y b ⟨as, r, ha⟩ => ⟨as, hR _ _ _ _ _ r fun z hz o e => hs₆.extBut _ _ (ha z hz).1 (hk₅ _ o (ha z hz).2.2.1 e), fun z hz => ⟨(ha z hz).2.2.2, (ha z hz).2.1⟩⟩
    | cons a rest =>
      have hlt : done.length < xs.length := by rw [hxs]; simp
      have hget : xs[done.length]? = some a := by rw [hxs]; simp
      have hmem : a ∈ xs := by rw [hxs]; simp
      refine W.item done.length _ _ _ hlt hst' fun v h₅ tk₅ ⟨a', ha', hVa⟩ hst₅ hk₅ => ?_
      rw [hget] at ha'
      cases ha'
      refine wpAny_assign_Name (wpAny_storeName_local (lookup_relabel_local hx) (hn'.at' fun o e => hk₅ _ o hCw e) (fun h₆ hn₆ hs₆ => ?_) (by simp [compEnvC, relabel, hkind]))
      have up₆ : ∀ b o, b ≠ C → b ∉ wr → h'.get? b = some o → h₆.get? b = some o := fun b o hbC hbf e => hs₆.extBut b o hbC (hk₅ b o hbf e)
      have hst₆ : St (done.length + 1) h₆ := W.frame _ _ _ hst₅ fun b hb o e => hs₆.extBut b o (fun h => hCf ((show b = C from h) ▸ hb)) e
      have hk₆ : Ext s₁.heap h₆ := fun b o e => up₆ b o (fun q => by subst q; rw [newC] at e; cases e) (fun q => by rw [hwr b q] at e; cases e) (hk' b o e)
      have hacc₆ : h₆.PlainList D ys := hacc'.at fun o e => up₆ D o hDC hDw e
      have hall₆ := hall.imp (R' := fun y b => ∃ as, R h₆ y b as ∧ ∀ z ∈ as, z ≠ C ∧ z ≠ D ∧ z ∉ wr ∧ s₁.heap.get? z = none) fun y b ⟨as, r, ha⟩ => ⟨as, hR _ _ _ _ _ r fun z hz o e => up₆ _ _ (ha z hz).1 (ha z hz).2.2.1 e, ha⟩
      refine htest C a v _ _ _ _ hmem hVa hn₆ (by simp) hk₆ fun h₇ tk₇ k₇ => ?_
      cases hp : p a with
      | false =>
        rw [if_neg (by simp)]
        refine ⟨rest.length + 1, by simp, h₇, tk₇, _, ys, done ++ [a], rest, rfl, by rw [hxs]; simp, ?_, hacc₆.at fun o e => k₇ _ _ e, hn₆.keeps k₇, rfl, Ext.trans hk₆ k₇, by simp; omega, ?_⟩
        · rw [List.length_append]; exact W.frame _ _ _ hst₆ fun b _ o e => k₇ b o e
        · rw [List.filter_append]
          simp only [List.filter_cons, hp, List.filter_nil, Bool.false_eq_true, if_false, List.append_nil]
          exact hall₆.imp fun y b ⟨as, r, ha⟩ => ⟨as, hR _ _ _ _ _ r fun z _ o e => k₇ _ _ e, ha⟩
      | true =>
        rw [if_pos rfl]
        refine helt C a v _ _ _ _ hmem hp hVa (hn₆.keeps k₇) (by simp) (Ext.trans hk₆ k₇) fun y h₈ tk₈ as k₈ hr hfr => ?_
        refine wpAny_list_append_plain (hsz := by simp only [sizeLine_eq]; omega) ((hacc₆.at fun o e => k₇ _ _ e).at fun o e => k₈ _ _ e) fun h₉ hl₉ hs₉ => ?_
        have fz : ∀ z ∈ as, z ≠ C ∧ z ≠ D ∧ z ∉ wr ∧ s₁.heap.get? z = none := fun z hz => by
          have hz' := hfr z hz
          refine ⟨fun q => ?_, fun q => ?_, fun q => ?_, ?_⟩
          · subst q
            obtain ⟨o, _, _, ho, _⟩ := hn₆.keeps k₇
            dsimp only at hz'
            have ho' : h₇.get? z = some o := ho
            rw [ho'] at hz'; cases hz'
          · subst q
            obtain ⟨n, ho⟩ := hacc₆.at fun o e => k₇ _ _ e
            rw [ho] at hz'; cases hz'
          · obtain ⟨o, ho⟩ := hlive _ _ hst₆ z q
            have := k₇ _ _ ho
            dsimp only at hz'
            rw [this] at hz'; cases hz'
          · cases e : s₁.heap.get? z with
            | none => rfl
            | some o =>
              have := Ext.trans hk₆ k₇ _ _ e
              dsimp only at hz'
              rw [this] at hz'; cases hz'
        refine ⟨rest.length + 1, by simp, h₉, tk₈, _, ys.push y, done ++ [a], rest, rfl, by rw [hxs]; simp, ?_, hl₉, ((hn₆.keeps k₇).keeps k₈).sameBut hs₉ (Ne.symm hDC), rfl, ?_, by simp; omega, ?_⟩
        · rw [List.length_append]; exact W.frame _ _ _ hst₆ fun b hb o e => hs₉.extBut b o (fun h => hDf (h ▸ hb)) (k₈ b o (k₇ b o e))
        · intro b o e
          exact hs₉.extBut b o (fun q => by subst q; rw [newD] at e; cases e) (k₈ b o (k₇ b o (hk₆ b o e)))
        · rw [List.filter_append]
          simp only [List.filter_cons, hp, if_true, List.filter_nil, List.map_append, List.map_cons, List.map_nil, Array.toList_push]
          refine All2.append (hall₆.imp fun y b ⟨as, r, ha⟩ => ⟨as, hR _ _ _ _ _ r fun z hz o e => hs₉.extBut _ _ (ha z hz).2.1 (k₈ _ _ (k₇ _ _ e)), ha⟩) (.cons ⟨as, hR _ _ _ _ _ hr fun z hz o e => hs₉.extBut _ _ (fz z hz).2.1 e, fz⟩ .nil)
  exact codeAny_compStart_list (loop _ rfl) (W.self 0 _ _ _ hst₄ (loop _ rfl))
end
end Mine
end

section
open PySem PySem.W PyProof.Rows PySem.Builtin PySem.Builtin.Str
namespace Mine

def IsS (v : Value) (l : List Nat) : Prop := ∃ t, v = .str (S l) t
def IsI (v : Value) (n : Nat) : Prop := ∃ t, v = .int n t
/-- the texts of these values -/
abbrev Ss (vs : List Value) (ls : List (List Nat)) : Prop := All2 IsS vs ls

theorem Ss.are {vs : List Value} {ls : List (List Nat)} (h : Ss vs ls) : StrsAre vs (ls.map S) := by
  induction h with
  | nil => exact .nil
  | cons r _ ih => obtain ⟨t, rfl⟩ := r; exact .cons _ t ih

def joinL (sep : List Nat) : List (List Nat) → List Nat
  | [] => []
  | [x] => x
  | x :: y :: r => x ++ sep ++ joinL sep (y :: r)

theorem joinL_len (sep : List Nat) : ∀ ls, (joinL sep ls).length ≤ (ls.map (·.length)).sum + ls.length * sep.length
  | [] => by simp [joinL]
  | [x] => by simp [joinL]
  | x :: y :: r => by
    have := joinL_len sep (y :: r)
    have e : (r.length + 1 + 1) * sep.length = (r.length + 1) * sep.length + sep.length := by rw [Nat.add_mul, Nat.one_mul]
    simp only [joinL, List.length_append, List.map_cons, List.sum_cons, List.length_cons] at this ⊢
    omega

theorem join_S (sep : List Nat) (ls : List (List Nat)) : Txt.join (S sep) (ls.map S) = S (joinL sep ls) := by
  show glued _ _ = _
  rw [StrLaws.glued_eq_join]
  match ls with
  | [] => rfl
  | [x] => rfl
  | x :: y :: r =>
    have ih := join_S sep (y :: r)
    unfold Txt.join at ih
    rw [StrLaws.glued_eq_join] at ih
    have e : Str.join (S sep) ((x :: y :: r).map S) = S x ++ S sep ++ Str.join (S sep) ((y :: r).map S) := rfl
    rw [e, ih]
    have e1 : ∀ p q : List Nat, S p ++ S q = S (p ++ q) := fun p q => by
      show (⟨_⟩ : Str) = _
      congr 1
      simp
    rw [e1, e1]
    rfl

section
variable {w : World} {mg : Str → Option Value} {A : Around} {E : Value → Shared → Prop} {s : Shared}

theorem join_on {sep : List Nat} {t : Tok} {pos : Pos} {a : Sem Value} {Q : Value → Shared → Prop}
    (h : wpAny (model pw w) A a (fun v s₁ => ∃ D vs ls, v = .ref D ∧ s₁.heap.IsList D vs ∧ Ss vs.toList ls ∧ (ls.map (·.length)).sum + ls.length * sep.length ≤ 16777216 ∧ ∀ t' k, Q (.str (S (joinL sep ls)) t') { s₁ with toks := k }) E s) :
    MethodOnS pw w A E "join" (.str (S sep) t) pos [(false, a)] Q s := by
  refine SB.join (wpAny_mono h (fun v s₁ ⟨D, vs, ls, e, hl, hs, hok, hq⟩ => ?_) fun _ _ x => x)
  obtain ⟨l, hv, ht⟩ := strsAre_values hs.are
  have e' : vs = (strValues l).toArray := by rw [← hv]
  subst e'
  refine ⟨D, l, e, hl, ls.map S, ht, joinOk_of ?_, fun t' k => ?_⟩
  · rw [List.map_map, List.length_map]; exact hok
  · rw [join_S]; exact hq t' k

/-- elements that are texts -/
def RS (_ : Heap) (y : Value) (b : List Nat) (_ : List Addr) : Prop := IsS y b
/-- elements that are numbers -/
def RI (_ : Heap) (y : Value) (b : Nat) (_ : List Addr) : Prop := IsI y b

theorem All2.left {γ δ : Type} {R R' : γ → δ → Prop} {as : List γ} {bs : List δ} (h : All2 R as bs) (f : ∀ a b, R a b → R' a b) : All2 R' as bs := h.imp f

theorem all2_map_same {γ δ : Type} {R : γ → δ → Prop} {xs : List γ} {f : γ → δ} (h : ∀ x ∈ xs, R x (f x)) : All2 R xs (xs.map f) := by
  induction xs with
  | nil => exact .nil
  | cons x xs ih => exact .cons (h x List.mem_cons_self) (ih fun y hy => h y (List.mem_cons_of_mem _ hy))

def foldL (c : Nat) : List Nat := (fold c).cps.toList
def prep (l : List Nat) : List Nat := joinL [] ((l.filter fun c => !isB1 c).map foldL)

theorem at3_len : ∀ q ∈ b3, q.2.length ≤ 10 := by
  have : (b3.all fun q => decide (q.2.length ≤ 10)) = true := by decide +kernel
  intro q hq
  exact of_decide_eq_true (List.all_eq_true.mp this q hq)
theorem foldL_len (c : Nat) : (foldL c).length ≤ 10 := by
  show (fold c).length ≤ 10
  unfold fold at3
  cases e : b3.find? fun kv => kv.1 = (c : Int) with
  | none =>
    show (Txt.lower (S [c])).length ≤ 10
    have := len_lower (S [c])
    have e : (S [c]).length = 1 := rfl
    omega
  | some q => exact at3_len q (List.mem_of_find?_eq_some e)
theorem fold_S (c : Nat) : fold c = S (foldL c) := rfl

theorem sum_le (ls : List (List Nat)) (k : Nat) (h : ∀ l ∈ ls, l.length ≤ k) : (ls.map (·.length)).sum ≤ k * ls.length := by
  induction ls with
  | nil => simp
  | cons l ls ih =>
    have := ih fun x hx => h x (List.mem_cons_of_mem _ hx)
    have h0 := h l List.mem_cons_self
    simp only [List.map_cons, List.sum_cons, List.length_cons, Nat.mul_add]
    omega

theorem prep_len (l : List Nat) : (prep l).length ≤ 10 * l.length := by
  unfold prep
  have h1 := joinL_len [] ((l.filter fun c => !isB1 c).map foldL)
  have h2 := sum_le ((l.filter fun c => !isB1 c).map foldL) 10 (fun x hx => by obtain ⟨c, _, rfl⟩ := List.mem_map.mp hx; exact foldL_len c)
  have h3 := List.length_filter_le (fun c => !isB1 c) l
  rw [List.length_map] at h2
  simp only [List.length_nil, Nat.mul_zero, Nat.add_zero] at h1
  have : 10 * (List.filter (fun c => !isB1 c) l).length ≤ 10 * l.length := Nat.mul_le_mul_left _ h3
  omega

/-- a name of the comprehension's own -/
theorem ldc {M : Model} {sc : Scope} {cl : List (Str × Addr)} {C : Addr} {env : Env} {m : Str → Option Value} {n : Str} {pos : Pos} {v : Value} {Q : Value → Shared → Prop} (hn : s.heap.Ns C m) (hv : m n = some v) (h : Q v s)
    (hk : (compEnvC sc cl C env).scope.kind = .function) (hl : (compEnvC sc cl C env).kindOf n = some .local) (hd : (n == ("__debug__" : Str)) = false := by decide) : wpAny M A (eval (.Name n pos) (compEnvC sc cl C env)) Q E s :=
  wpAny_Name (wpAny_loadName_local hk hl hn hv h) hd

theorem ofs_empty : Str.ofString "" = S [] := by decide +kernel
theorem ofs_nl : Str.ofString "\n" = S [10] := by decide +kernel

theorem c_prepared {a : Addr} {l : List Nat} {t : Tok} {Q : Value → Shared → Prop} (T : TF w mg s.heap) (hf : FnI s.heap a 16 "_law_prepared") (r : Rm 3 A) (hl : l.length ≤ 10000)
    (hQ : ∀ t h' tk, Ext s.heap h' → Q (.str (S (prep l)) t) { s with heap := h', toks := tk }) : wpAny (model pw w) A (call (.ref a) [.str (S l) t]) Q E s := by
  refine entr (binds := [("text", .str (S l) t)]) T hf r (fun _ _ _ => by unfold st; kernel_rfl) (by kernel_rfl) (fun L cd h₁ tk m₁ A' r' F hm T₁ => ?_) (by kernel_rfl) (by kernel_rfl) (by kernel_rfl) (by kernel_rfl)
  have hrow := hm "text" (.str (S l) t) (by kernel_rfl)
  obtain ⟨a1, m1, f1⟩ := T.fn (4, "in_table_b1") (by decide)
  obtain ⟨a3, m3, f3⟩ := T.fn (6, "map_table_b3") (by decide)
  unfold st
  refine wpAny_execs_cons ?_
  refine wpAny_Return_some ?_
  refine Call_method1 ?_ ?_ ?_ ?_
  · rfl
  · rfl
  · rfl
  refine wpAny_Constant_str ?_
  rw [ofs_empty]
  refine join_on (sep := []) ?_
  refine lcomp (xs := l) (V := fun c v => ∃ u, v = .str (S [c]) u) (p := fun c => !isB1 c) (f := foldL) (R := RS) (fun _ _ _ _ _ h _ => h) (cl := []) (by rfl) (by decide +kernel) (by kernel_rfl) (by decide +kernel) (by decide +kernel) (by omega)
    (ld F hrow ⟨src_str r'.hh, ?_, ?_, ?_⟩)
  · rintro C c v s₃ m₃ E' Q' hc ⟨u, rfl⟩ hn hx k₃ hq
    have T₃ := T₁.keeps k₃
    refine wpAny_tests_one (wpAny_isTrue_Not (wpAny_isTrue_value ?_))
    refine call1 T₃ m1 (f1.keeps (Ext.trans F.keep k₃)) rfl (by kernel_rfl) (by kernel_rfl) rfl ?_
    refine ldc hn hx ⟨Kp.refl _, ?_⟩ (by kernel_rfl) (by kernel_rfl)
    exact c_b1 T₃ (f1.keeps (Ext.trans F.keep k₃)) (r'.less (by omega)) fun h' tk k => wpAny_truthy_bool (hq _ _ k)
  · rintro C c v s₃ m₃ E' Q' hc hp ⟨u, rfl⟩ hn hx k₃ hq
    have T₃ := T₁.keeps k₃
    refine call1 T₃ m3 (f3.keeps (Ext.trans F.keep k₃)) rfl (by kernel_rfl) (by kernel_rfl) rfl ?_
    refine ldc hn hx ⟨Kp.refl _, ?_⟩ (by kernel_rfl) (by kernel_rfl)
    exact c_b3 T₃ (f3.keeps (Ext.trans F.keep k₃)) (r'.less (by omega)) fun t h' tk k => hq _ _ _ [] k ⟨t, rfl⟩ (by simp)
  · rintro D h' tk ys k' hD hpl hall
    refine ⟨D, ys, (l.filter fun c => !isB1 c).map foldL, rfl, hpl.isList, hall.imp fun y b ⟨_, r, _⟩ => r, ?_, fun t' k => hQ _ _ _ (Ext.trans F.keep k')⟩
    have h2 := sum_le ((l.filter fun c => !isB1 c).map foldL) 10 (fun x hx => by obtain ⟨c, _, rfl⟩ := List.mem_map.mp hx; exact foldL_len c)
    have h3 := List.length_filter_le (fun c => !isB1 c) l
    rw [List.length_map] at h2
    have h4 : 10 * (List.filter (fun c => !isB1 c) l).length ≤ 10 * l.length := Nat.mul_le_mul_left _ h3
    simp only [List.length_nil, Nat.mul_zero, Nat.add_zero]
    omega
end
end Mine
end

section
open PySem PySem.W PyProof.Rows PySem.Builtin PySem.Builtin.Str
namespace Mine

section
variable {w : World} {mg : Str → Option Value} {A : Around} {E : Value → Shared → Prop} {s : Shared}

theorem lst_at {value slice : Expr} {l : Addr} {vs : List Value} {k : Nat} {u : Tok} {v : Value} {Q : Value → Shared → Prop} (hl : s.heap.IsList l vs.toArray) (hv : vs[k]? = some v) (hk : k ≤ 1000000) (h : Q v s)
    (hs : ∃ ops, subscripted slice false (.ref l) (.int (k : Int) u) = operate ops (getItem (.ref l) (.int (k : Int) u))) : wpAny (model pw w) A (subscriptTail value slice (.ref l) (.int (k : Int) u)) Q E s := by
  obtain ⟨ops, hs⟩ := hs
  exact tail_any hl.typeIs slot_list_getitem.lookup (wpAny_getItem_list hl (by omega) (by omega) (by simpa using hv) h) hs

theorem lst_last {value slice : Expr} {l : Addr} {vs : List Value} {u : Tok} {v : Value} {Q : Value → Shared → Prop} (hl : s.heap.IsList l vs.toArray) (hv : vs.getLast? = some v) (hk : vs.length ≤ 1000000) (h : Q v s)
    (hs : ∃ ops, subscripted slice false (.ref l) (.int (-1) u) = operate ops (getItem (.ref l) (.int (-1) u))) : wpAny (model pw w) A (subscriptTail value slice (.ref l) (.int (-1) u)) Q E s := by
  obtain ⟨ops, hs⟩ := hs
  have hne : 0 < vs.length := by cases vs with | nil => simp at hv | cons => simp
  refine tail_any hl.typeIs slot_list_getitem.lookup (wpAny_getItem_list_neg hl (by omega) (by simp; omega) (by omega) ?_ h) hs
  rw [List.getLast?_eq_getElem?] at hv
  have : ((-1 : Int) + (vs.toArray.size : Nat)).toNat = vs.length - 1 := by simp; omega
  rw [this]
  simpa using hv

theorem lst_slice {value slice : Expr} {l : Addr} {vs : List Value} {vl vu : Value} {lo hi : Option Int} {Q : Value → Shared → Prop} (hl : s.heap.IsList l vs.toArray) (pl : IsPart vl lo) (pu : IsPart vu hi) (hsz : vs.length ≤ 1000000)
    (h : ∀ D h', Ext s.heap h' → s.heap.get? D = none → h'.PlainList D (slicePick vs.toArray lo hi none) → Q (.ref D) { s with heap := h' })
    (hs : ∃ ops, subscripted slice false (.ref l) (.ref s.heap.objs.size) = operate ops (getItem (.ref l) (.ref s.heap.objs.size))) :
    wpAny (model pw w) A (subscriptTail value slice (.ref l) (.ref s.heap.objs.size)) Q E { s with heap := s.heap.push { cls := .type "slice", data := .fields #[vl, vu, .none] } } := by
  obtain ⟨ops, hs⟩ := hs
  have hl' : (s.heap.push { cls := .type "slice", data := .fields #[vl, vu, .none] }).IsList l vs.toArray := by obtain ⟨o, ho, r⟩ := hl; exact ⟨o, Heap.get?_push_of_some _ ho, r⟩
  refine tail_any (s := { s with heap := _ }) hl'.typeIs slot_list_getitem.lookup (wpAny_getItem_list_slice hl' (Heap.IsSliceOf.new _ _ _ _) pl pu .none (by simp) ?_ (by simp only [sizeLine_eq, List.size_toArray]; omega)) hs
  refine h _ _ (fun b o e => Heap.get?_push_of_some _ (Heap.get?_push_of_some _ e)) (Heap.get?_none_of_le ?_) ⟨_, Heap.get?_push_size _ rfl⟩
  show s.heap.objs.size ≤ (s.heap.push _).objs.size
  rw [Heap.size_push]
  exact Nat.le_succ _

theorem k_nl {M : Model} {env : Env} {k : Nat} {pos : Pos} {Q : Value → Shared → Prop} (h : ∀ t tk, Q (.str (S [10]) t) { s with toks := tk }) : wpAny M A (eval (.Constant (.str (Str.ofString "\n")) k pos) env) Q E s :=
  wpAny_Constant_str (by rw [ofs_nl]; exact h _ _)
theorem k_empty {M : Model} {env : Env} {k : Nat} {pos : Pos} {Q : Value → Shared → Prop} (h : ∀ t tk, Q (.str (S []) t) { s with toks := tk }) : wpAny M A (eval (.Constant (.str (Str.ofString "")) k pos) env) Q E s :=
  wpAny_Constant_str (by rw [ofs_empty]; exact h _ _)


theorem ite_ff {a b : Prop} (h : b) : if false = true then a else b := h
theorem ite_tt {a b : Prop} (h : a) : if true = true then a else b := h

/-- the lines of a text -/
def lns (l : List Nat) : List (List Nat) := (Txt.split (Txt.strip (S l)) (S [10])).map (·.cps.toList)
def rwhite (l : List Nat) : Bool := (Txt.rstrip (S l)).length == 0
def splitP (l : List Nat) : List Nat × List Nat :=
  match lns l with
  | [] => ([], [])
  | [x] => (x, [])
  | x :: y :: r => if rwhite y then (x, joinL [10] r) else ([], joinL [10] (x :: y :: r))

theorem lns_len (l : List Nat) : 1 ≤ (lns l).length ∧ (lns l).length ≤ l.length + 2 := by
  unfold lns
  rw [List.length_map]
  have := fact_split (Txt.strip (S l)) (S [10])
  have h2 : (Txt.strip (S l)).length ≤ l.length := len_strip (S l)
  omega

theorem part_len (l : List Nat) : ∀ x ∈ lns l, x.length ≤ l.length := by
  intro x hx
  unfold lns at hx
  obtain ⟨y, hy, rfl⟩ := List.mem_map.mp hx
  have h2 : (Txt.strip (S l)).length ≤ l.length := len_strip (S l)
  exact Nat.le_trans (part_short hy) h2

theorem strV_S : ∀ {l : List (Str × Tok)} {ys : List Str}, l.map (·.1) = ys → Ss (strValues l) (ys.map (·.cps.toList))
  | [], _, rfl => .nil
  | p :: l, _, rfl => .cons ⟨p.2, rfl⟩ (strV_S (l := l) rfl)

theorem split_sum (l : List Nat) (k : Nat) : (((lns l).drop k).map (·.length)).sum + ((lns l).drop k).length * 1 ≤ (l.length + 1) * (l.length + 2) := by
  have h1 := sum_le ((lns l).drop k) l.length (fun x hx => part_len l x (List.mem_of_mem_drop hx))
  have h2 : ((lns l).drop k).length ≤ l.length + 2 := by rw [List.length_drop]; have := (lns_len l).2; omega
  have h3 : l.length * ((lns l).drop k).length ≤ l.length * (l.length + 2) := Nat.mul_le_mul_left _ h2
  rw [Nat.add_mul]
  omega

theorem Ss.get {vs : List Value} {ls : List (List Nat)} (h : Ss vs ls) {i : Nat} {x : List Nat} (hx : ls[i]? = some x) : ∃ t, vs[i]? = some (.str (S x) t) := by
  induction h generalizing i with
  | nil => simp at hx
  | cons r _ ih =>
    cases i with
    | zero => simp at hx; subst hx; obtain ⟨t, rfl⟩ := r; exact ⟨t, rfl⟩
    | succ i => simp at hx; simpa using ih hx

theorem All2.drop {γ δ : Type} {R : γ → δ → Prop} {as : List γ} {bs : List δ} (h : All2 R as bs) (k : Nat) : All2 R (as.drop k) (bs.drop k) := by
  induction h generalizing k with
  | nil => simp; exact .nil
  | cons r h ih => cases k with | zero => exact .cons r h | succ k => simpa using ih k
theorem All2.take {γ δ : Type} {R : γ → δ → Prop} {as : List γ} {bs : List δ} (h : All2 R as bs) (k : Nat) : All2 R (as.take k) (bs.take k) := by
  induction h generalizing k with
  | nil => simp; exact .nil
  | cons r h ih => cases k with | zero => exact .nil | succ k => exact .cons r (ih k)

theorem split_on {x : Str} {t : Tok} {pos : Pos} {a : Sem Value} {Q : Value → Shared → Prop} (hx : x.length ≤ 100000)
    (h : wpAny (model pw w) A a (fun v s₁ => ∃ u, v = .str (S [10]) u ∧ ∀ D vs h' tk, Ext s₁.heap h' → h'.IsList D vs → Ss vs.toList ((Txt.split x (S [10])).map (·.cps.toList)) → Q (.ref D) { s₁ with heap := h', toks := tk }) E s) :
    MethodOnS pw w A E "split" (.str x t) pos [(false, a)] Q s := by
  refine ⟨"str", "str.split", PySem.F.plainAttrs_str, PySem.F.slot_str_split, PySem.F.type_str_split, typeIs_str _ _ _, (fun _ e => nomatch e), ?_⟩
  refine Calls.callWith_builtin rfl (Calls.evalArgs_plain (Calls.spliced_cons (wpAny_mono h (fun v s₁ ⟨u, e, hq⟩ => Calls.spliced_nil ?_) fun _ _ x => x)))
  subst e
  refine SCH.split1 (P := fun h' => Ext s₁.heap h') (fun h ob p b o e => Heap.get?_push_of_some ob (p b o e)) (fun _ _ e => e) rfl (fun D l h' k ht p hl => ?_) (by rw [sizeLine_eq]; omega) ?_
  · exact hq D _ h' k p hl (by simpa using strV_S ht)
  · rw [len_partsBetween]
    have := StrLaws.occ_length_le x (S [10]) 0 x.length (x.length + 1)
    rw [sizeLine_eq]
    omega

set_option maxHeartbeats 4000000 in
set_option maxRecDepth 100000 in
theorem c_splitdoc {a : Addr} {l : List Nat} {t : Tok} {Q : Value → Shared → Prop} (T : TF w mg s.heap) (hf : FnI s.heap a 1 "splitdoc") (r : Rm 1 A) (hl : l.length ≤ 3000)
    (hQ : ∀ b t1 t2 h' tk, Ext s.heap h' → IsTup h' b #[.str (S (splitP l).1) t1, .str (S (splitP l).2) t2] → Q (.ref b) { s with heap := h', toks := tk }) : wpAny (model pw w) A (call (.ref a) [.str (S l) t]) Q E s := by
  refine entr (binds := [("doc", .str (S l) t)]) T hf r (fun _ _ _ => by unfold st; kernel_rfl) (by kernel_rfl) (fun L cd h₁ tk m₁ A' r' F hm T₁ => ?_) (by kernel_rfl) (by kernel_rfl) (by kernel_rfl) (by kernel_rfl)
  have hrow := hm "doc" (.str (S l) t) (by kernel_rfl)
  have hb : (l.length + 1) * (l.length + 2) ≤ 3001 * 3002 := Nat.mul_le_mul (by omega) (by omega)
  have hn := lns_len l
  unfold st
  refine wpAny_execs_cons (wpAny_Assign_Name ?_ rfl)
  refine Call_method1 ?_ ?_ ?_ ?_
  · rfl
  · rfl
  · rfl
  refine Call_method0 ?_ ?_ ?_
  · rfl
  · rfl
  refine ld F hrow (SB.strip (fun t2 tk2 => ?_) (by rw [sizeLine_eq]; show l.length ≤ _; omega))
  have h2 : (Txt.strip (S l)).length ≤ l.length := len_strip (S l)
  refine split_on (by omega) (k_nl fun t3 tk3 => ?_)
  refine ⟨_, rfl, fun D vs h₃ tk₃ k₃ hD hS => ?_⟩
  obtain ⟨vl, rfl⟩ : ∃ vl : List Value, vs = vl.toArray := ⟨vs.toList, by simp⟩
  replace hS : Ss vl (lns l) := hS
  have hlen := hS.length
  have hD' : h₃.IsList D vl.toArray := hD
  refine stx (fr_ext F k₃) fun h₄ tk₄ m₄ F₄ hli o₄ k₄ => ?_
  replace hD' := k₄.list hD'
  have T₄ := T.keeps F₄.keep
  refine wpAny_execs_cons (wpAny_If (wpAny_isTrue_Compare1 (Call_ (bn T₄ (by decide) boot_len ?_ rfl rfl (by kernel_rfl) (by kernel_rfl)))))
  refine PyProof.Rows.callWith_builtin1 (args_cons (ld F₄ hli (args_nil (PyProof.Rows.len_list hD' (by show (vl.length : Int) < _; omega) (wpAny_Constant_int (PyProof.Rows.eq_int (wpAny_truthy_bool ?_)))))))
  match hls : lns l with
  | [] => rw [hls] at hn; simp at hn
  | [x] =>
    have hp : splitP l = (x, []) := by unfold splitP; rw [hls]
    rw [hp] at hQ
    rw [hls] at hlen
    refine PySem.W.ite_pos (by simp [hlen]) ?_
    obtain ⟨t0, h0⟩ := hS.get (i := 0) (x := x) (by rw [hls]; rfl)
    refine wpAny_execs_cons (wpAny_Return_some (wpAny_Tuple (wpAny_items_cons (Subscript_ (ld F₄ hli (wpAny_Constant_int (lst_at (k := 0) hD' h0 (by omega) ?_ ⟨_, rfl⟩)))))))
    refine wpAny_items_cons (k_empty fun t6 tk6 => wpAny_items_nil ⟨by rw [sizeLine_eq]; simp, ?_⟩)
    exact hQ _ _ _ _ _ (fun b o e => Heap.get?_push_of_some _ (F₄.keep b o e)) ⟨_, Heap.get?_push_size _ rfl, rfl, _, rfl⟩
  | x :: y :: r' =>
    obtain ⟨t0, h0⟩ := hS.get (i := 0) (x := x) (by rw [hls]; rfl)
    obtain ⟨t1, h1⟩ := hS.get (i := 1) (x := y) (by rw [hls]; rfl)
    have hyl : y.length ≤ l.length := part_len l y (by rw [hls]; simp)
    have hvl : vl.length < 10000 := by omega
    rw [hls] at hlen
    refine PySem.W.ite_neg (by simp [hlen]; omega) ?_
    refine wpAny_execs_cons ?_
    refine wpAny_If ?_
    refine wpAny_isTrue_BoolOp ?_
    refine wpAny_allTrue_And_cons ?_
    refine wpAny_isTrue_Compare1 ?_
    refine Call_ (bn T₄ (by decide) boot_len ?_ rfl rfl (by kernel_rfl) (by kernel_rfl))
    refine PyProof.Rows.callWith_builtin1 (args_cons (ld F₄ hli (args_nil ?_)))
    refine PyProof.Rows.len_list hD' (by show (vl.length : Int) < _; omega) ?_
    refine wpAny_Constant_int ?_
    refine PyProof.Rows.ge_int ?_
    refine wpAny_truthy_bool ?_
    refine PySem.W.ite_pos (by simp [hlen]; omega) ?_
    refine wpAny_allTrue_And_cons ?_
    refine wpAny_isTrue_Not ?_
    refine wpAny_isTrue_value ?_
    refine Call_method0 ?_ ?_ ?_
    · rfl
    · rfl
    refine Subscript_ (ld F₄ hli (wpAny_Constant_int (lst_at (k := 1) hD' h1 (by omega) ?_ ⟨_, rfl⟩)))
    refine SB.rstrip (fun t5 tk5 => ?_) (by rw [sizeLine_eq]; show y.length ≤ _; omega)
    have hz : (Txt.rstrip (S y)).length ≤ y.length := len_rstrip (S y)
    refine PySem.P.truthy_str (by omega) ?_
    by_cases hw : rwhite y = true
    · have hw' : (Txt.rstrip (S y)).length = 0 := by unfold rwhite at hw; simpa using hw
      have hp : splitP l = (x, joinL [10] r') := by unfold splitP; rw [hls]; simp [hw]
      rw [hp] at hQ
      refine PySem.W.ite_pos (by simp [hw']) ?_
      refine wpAny_allTrue_And_nil ?_
      refine PySem.W.ite_pos rfl ?_
      refine wpAny_execs_cons ?_
      refine wpAny_Return_some ?_
      refine wpAny_Tuple ?_
      refine wpAny_items_cons ?_
      refine Subscript_ (ld F₄ hli (wpAny_Constant_int (lst_at (k := 0) hD' h0 (by omega) ?_ ⟨_, rfl⟩)))
      refine wpAny_items_cons ?_
      refine Call_method1 ?_ ?_ ?_ ?_
      · rfl
      · rfl
      · rfl
      refine k_nl fun t7 tk7 => ?_
      refine join_on (sep := [10]) ?_
      refine Subscript_ (ld F₄ hli (wpAny_Slice (wpAny_evalPart_some (wpAny_Constant_int (wpAny_evalPart_none (wpAny_evalPart_none ?_))))))
      refine lst_slice (s := { s with heap := h₄, toks := _ }) hD' (.int 2 _) .none (by omega) (fun D5 h5 k5 n5 pl5 => ?_) ⟨_, rfl⟩
      have e5 : slicePick vl.toArray (some 2) none none = (vl.drop 2).toArray := slicePick_from' _ 2
      rw [e5] at pl5
      have hs5 : Ss (vl.drop 2) ((lns l).drop 2) := hS.drop 2
      have hb5 := split_sum l 2
      rw [hls] at hs5 hb5
      refine ⟨D5, _, r', rfl, pl5.isList, hs5, by simpa using Nat.le_trans hb5 (by omega), fun t' k' => ?_⟩
      refine wpAny_items_nil ⟨by rw [sizeLine_eq]; simp, ?_⟩
      exact hQ _ _ _ _ _ (fun b o e => Heap.get?_push_of_some _ (k5 b o (F₄.keep b o e))) ⟨_, Heap.get?_push_size _ rfl, rfl, _, rfl⟩
    · have hw' : (Txt.rstrip (S y)).length ≠ 0 := by unfold rwhite at hw; simpa using hw
      have hp : splitP l = ([], joinL [10] (x :: y :: r')) := by unfold splitP; rw [hls]; simp [hw]
      rw [hp] at hQ
      refine PySem.W.ite_neg (by simpa using hw') ?_
      refine ite_ff ?_
      refine wpAny_execs_nil ?_
      refine wpAny_execs_nil ?_
      refine wpAny_execs_cons ?_
      refine wpAny_Return_some ?_
      refine wpAny_Tuple ?_
      refine wpAny_items_cons ?_
      refine k_empty fun t6 tk6 => ?_
      refine wpAny_items_cons ?_
      refine Call_method1 ?_ ?_ ?_ ?_
      · rfl
      · rfl
      · rfl
      refine k_nl fun t7 tk7 => ?_
      refine join_on (sep := [10]) ?_
      refine ld F₄ hli ?_
      have hb5 := split_sum l 0
      rw [hls] at hb5
      rw [hls] at hS
      refine ⟨D, _, _, rfl, hD', hS, by simpa using Nat.le_trans hb5 (by omega), fun t' k' => ?_⟩
      refine wpAny_items_nil ⟨by rw [sizeLine_eq]; simp, ?_⟩
      exact hQ _ _ _ _ _ (fun b o e => Heap.get?_push_of_some _ (F₄.keep b o e)) ⟨_, Heap.get?_push_size _ rfl, rfl, _, rfl⟩
end
end Mine
end

section
open PySem PySem.W PyProof.Rows PySem.Builtin PySem.Builtin.Str
namespace Mine

def stripL (l : List Nat) : List Nat := (Txt.strip (S l)).cps.toList
theorem stripL_len (l : List Nat) : (stripL l).length ≤ l.length := len_strip (S l)
theorem map_S_cps (ys : List Str) : (ys.map (·.cps.toList)).map S = ys := by
  rw [List.map_map]
  conv => rhs; rw [← List.map_id ys]
  congr 1
theorem join_lns (l : List Nat) : joinL [10] (lns l) = stripL l := by
  apply S_inj
  rw [← join_S]
  unfold lns
  rw [map_S_cps]
  show glued _ _ = _
  rw [StrLaws.glued_eq_join, StrLaws.join_split]
  rfl
theorem joinL_tail_len (x y : List Nat) (r : List (List Nat)) : (joinL [10] r).length + x.length < (joinL [10] (x :: y :: r)).length := by
  cases r with
  | nil => simp [joinL]
  | cons z r => simp [joinL]; omega
theorem splitP_shrink {l : List Nat} (h : (splitP l).1 ≠ []) : (splitP l).2.length < l.length := by
  have hj := join_lns l
  have hs := stripL_len l
  unfold splitP at h ⊢
  split at h
  · exact absurd rfl h
  · rename_i x e
    rw [e] at hj
    have : x = stripL l := hj
    have : 0 < x.length := List.length_pos_iff.mpr h
    simp only [List.length_nil]
    subst_vars
    omega
  · rename_i x y r e
    rw [e] at hj
    split at h
    · rename_i hw
      have := joinL_tail_len x y r
      rw [hj] at this
      simp only [if_pos hw]
      omega
    · exact absurd rfl h
theorem splitP_len (l : List Nat) : (splitP l).1.length ≤ l.length ∧ (splitP l).2.length ≤ l.length := by
  have hj := join_lns l
  have hs := stripL_len l
  have hp := part_len l
  unfold splitP
  split
  · exact ⟨Nat.zero_le _, Nat.zero_le _⟩
  · rename_i x e
    exact ⟨hp x (by rw [e]; simp), Nat.zero_le _⟩
  · rename_i x y r e
    rw [e] at hj
    split
    · have := joinL_tail_len x y r
      rw [hj] at this
      exact ⟨hp x (by rw [e]; simp), by dsimp only; omega⟩
    · exact ⟨Nat.zero_le _, by dsimp only; rw [hj]; omega⟩

/-- docs behind this one, heads, rest -/
def ch : Nat → List Nat → List (List Nat) × List (List Nat) × List Nat
  | 0, l => ([], [], (splitP l).2)
  | n + 1, l => if (splitP l).1 = [] then ([], [], (splitP l).2) else ((splitP l).2 :: (ch n (splitP l).2).1, (splitP l).1 :: (ch n (splitP l).2).2.1, (ch n (splitP l).2).2.2)
def chain (l : List Nat) : List (List Nat) × List (List Nat) × List Nat := (l :: (ch l.length l).1, (ch l.length l).2)

section
variable {w : World} {mg : Str → Option Value} {A : Around} {E : Value → Shared → Prop} {s : Shared} {g : Heap} {L : Addr} {m : Str → Option Value}

theorem Kp.plain {h h' : Heap} (k : Kp h h') {a : Addr} {vs : Array Value} (l : h.PlainList a vs) : h'.PlainList a vs :=
  let ⟨n, e⟩ := l; ⟨n, k _ _ e (fun es ep q => by cases q)⟩
theorem ext_plain {h h' : Heap} (k : Ext h h') {a : Addr} {vs : Array Value} (l : h.PlainList a vs) : h'.PlainList a vs := (Kp.of k).plain l
theorem fr_same {h h' : Heap} {D : Addr} {vs : Array Value} (F : Fr g L h m) (hD : h.PlainList D vs) (hg : g.get? D = none) (k : Heap.SameBut D h h') : Fr g L h' m := by
  have hne : L ≠ D := by
    rintro rfl
    obtain ⟨o, es, ep, ho, hd, _⟩ := F.ns
    obtain ⟨n, e⟩ := hD
    rw [ho] at e
    cases e
    cases hd
  exact ⟨F.ns.sameBut k hne, fun b o e => k.extBut b o (fun q => by subst q; rw [hg] at e; cases e) (F.keep b o e), F.above⟩
theorem plain_ne {h : Heap} {D D' : Addr} {vs : Array Value} (hD : h.PlainList D vs) (hD' : h.get? D' = none) : D' ≠ D := by
  rintro rfl
  obtain ⟨n, e⟩ := hD
  rw [e] at hD'
  cases hD'
theorem new_of {h h' : Heap} {D : Addr} (k : Ext h h') (n : h'.get? D = none) : h.get? D = none := by
  cases e : h.get? D with
  | none => rfl
  | some o => rw [k _ _ e] at n; cases n
theorem IsTup.ext {h h' : Heap} {a : Addr} {vs : Array Value} (x : IsTup h a vs) (k : Ext h h') : IsTup h' a vs := let ⟨o, ho, r⟩ := x; ⟨o, k _ _ ho, r⟩

/-- a, b = (x, y) -/
theorem unp {n1 n2 : Str} {p1 p2 tpos : Pos} {k : Nat} {t : Addr} {v1 v2 : Value} {name : Str} {scope : Scope} {a : Addr} {cd : Value} {Q : Unit → Shared → Prop} (F : Fr g L s.heap m) (ht : IsTup s.heap t #[v1, v2]) (hh : A.handled = none) (hne : n2 ≠ n1)
    (hk : scope.kind = .function) (h1 : (envOf name scope L a cd).kindOf n1 = some .local) (h2 : (envOf name scope L a cd).kindOf n2 = some .local)
    (h : ∀ h' tk m', Fr g L h' m' → m' n1 = some v1 → m' n2 = some v2 → (∀ y, y ≠ n1 → y ≠ n2 → m' y = m y) → Kp s.heap h' → Q () { s with heap := h', toks := tk }) :
    wpAny (model pw w) A (assign (.Tuple [.Name n1 p1, .Name n2 p2] k tpos) (envOf name scope L a cd) (.ref t)) Q E s := by
  refine assign_Tuple_tuple hh ht rfl rfl fun h' he => ?_
  have hk' : Ext s.heap h' := fun b o e => he b o (Nat.ne_of_lt (Heap.lt_size e)) e
  refine assignInOrder_cons ?_
  refine wpAny_assign_Name ?_
  refine stx (s := { s with heap := h' }) (fr_ext F hk') (fun h₂ tk₂ m₂ F₂ e₂ o₂ k₂ => ?_) hk h1
  refine assignInOrder_cons ?_
  refine wpAny_assign_Name ?_
  refine stx (s := { s with heap := h₂, toks := tk₂ }) F₂ (fun h₃ tk₃ m₃ F₃ e₃ o₃ k₃ => ?_) hk h2
  refine assignInOrder_nil ?_
  exact h h₃ tk₃ m₃ F₃ ((o₃ n1 (Ne.symm hne)).trans e₂) e₃ (fun y y1 y2 => (o₃ y y2).trans (o₂ y y1)) (Kp.trans (Kp.of hk') (Kp.trans k₂ k₃))

/-- x.append(v) as a row -/
theorem app {o elt : Expr} {apos pos spos : Pos} {env : Env} {Q : Flow → Shared → Prop} (hbase : attributeBase o "append" env (eval o env) = eval o env) (hline : (apos.endLine == pos.line) = true) (htr : backTo pos (starEach [elt] env) = [(false, eval elt env)])
    (hi : interactive env = false) (hs : swapsWith (.Call (.Attribute o "append" apos) [elt] [] pos) none spos.line env = pure false)
    (h : wpAny (model pw w) A (eval o env) (fun ov s₁ => ∃ D its, ov = .ref D ∧ s₁.heap.PlainList D its ∧
      wpAny (model pw w) A (eval elt env) (fun y s₂ => ∃ its', s₂.heap.PlainList D its' ∧ its'.size ≤ 1000000 ∧ ∀ h', h'.PlainList D (its'.push y) → Heap.SameBut D s₂.heap h' → Q .next { s₂ with heap := h' }) E s₁) E s) :
    wpAny (model pw w) A (exec (.Expr (.Call (.Attribute o "append" apos) [elt] [] pos) spos) env) Q E s := by
  refine wpAny_Expr ?_ hi hs
  refine wpAny_Call_append hbase (by rw [htr]; rfl) hline htr (wpAny_mono h (fun ov s₁ ⟨D, its, e, hD, hc⟩ => ⟨D, its, e, ?_, wpAny_mono hc (fun y s₂ ⟨its', h2, hz, hq⟩ => ?_) fun _ _ x => x⟩) fun _ _ x => x)
  · obtain ⟨n, e⟩ := hD; exact ⟨_, n, e, rfl, rfl, rfl⟩
  · exact wpAny_list_append_plain h2 (fun h' p k => hq h' p k) (by rw [sizeLine_eq]; omega)
end
end Mine
end

section
open PySem PySem.W PyProof.Rows PySem.Builtin PySem.Builtin.Str
namespace Mine

section
variable {w : World} {mg : Str → Option Value} {A : Around} {E : Value → Shared → Prop} {s : Shared} {g : Heap} {L : Addr} {m : Str → Option Value}

theorem ne_empty {l : List Nat} {t u : Tok} {Q : Value → Shared → Prop} (h : Q (.bool (!decide (l = []))) s) : wpAny (model pw w) A (compareOp .NotEq (.str (S l) t) (.str (S []) u)) Q E s := by
  refine PySem.P.ne_str ?_
  have e : ((S l).cps.toList != (S []).cps.toList) = !decide (l = []) := by
    show (l != []) = _
    cases l <;> simp
  rw [e]; exact h

/-- the loop's last state -/
def ChInv (s : Shared) (L : Addr) (l : List Nat) (n : Nat) (s' : Shared) : Prop :=
  ∃ h' tk m' dD dH dvs hvs docs heads cur t1 t2, s' = { s with heap := h', toks := tk } ∧ Fr s.heap L h' m' ∧ m' "docs" = some (.ref dD) ∧ m' "heads" = some (.ref dH) ∧
    m' "head" = some (.str (S (splitP cur).1) t1) ∧ m' "rest" = some (.str (S (splitP cur).2) t2) ∧ h'.PlainList dD dvs ∧ h'.PlainList dH hvs ∧ dD ≠ dH ∧ s.heap.get? dD = none ∧ s.heap.get? dH = none ∧
    Ss dvs.toList docs ∧ Ss hvs.toList heads ∧ cur.length ≤ n ∧ cur.length ≤ l.length ∧ docs.length + n = l.length + 1 ∧ heads.length + n = l.length ∧
    docs ++ (ch n cur).1 = (chain l).1 ∧ heads ++ (ch n cur).2.1 = (chain l).2.1 ∧ (ch n cur).2.2 = (chain l).2.2

set_option maxHeartbeats 4000000 in
set_option maxRecDepth 100000 in
theorem c_chain {a : Addr} {l : List Nat} {t : Tok} {Q : Value → Shared → Prop} (T : TF w mg s.heap) (hf : FnI s.heap a 15 "_law_chain") (r : Rm 2 A) (hl : l.length ≤ 3000)
    (hQ : ∀ b dD dH dvs hvs t1 h' tk, Ext s.heap h' → h'.PlainList b #[.ref dD, .ref dH, .str (S (chain l).2.2) t1] → h'.PlainList dD dvs → h'.PlainList dH hvs → Ss dvs.toList (chain l).1 → Ss hvs.toList (chain l).2.1 →
      s.heap.get? b = none → s.heap.get? dD = none → s.heap.get? dH = none → Q (.ref b) { s with heap := h', toks := tk }) : wpAny (model pw w) A (call (.ref a) [.str (S l) t]) Q E s := by
  refine entr (binds := [("doc", .str (S l) t)]) T hf r (fun _ _ _ => by unfold st; kernel_rfl) (by kernel_rfl) (fun L cd h₁ tk m₁ A' r' F hm T₁ => ?_) (by kernel_rfl) (by kernel_rfl) (by kernel_rfl) (by kernel_rfl)
  have hdoc := hm "doc" (.str (S l) t) (by kernel_rfl)
  obtain ⟨as, ms, fs⟩ := T.fn (1, "splitdoc") (by decide)
  unfold st
  refine wpAny_execs_cons (wpAny_Assign_Name ?_ rfl)
  refine wpAny_List (wpAny_items_cons (ld F hdoc (wpAny_items_nil ⟨by rw [sizeLine_eq]; simp, ?_⟩)))
  have k₂ : Ext h₁ (h₁.push { cls := .type "list", data := .seq [Value.str (S l) t].toArray }) := fun b o e => Heap.get?_push_of_some _ e
  have p₂ : (h₁.push { cls := .type "list", data := .seq [Value.str (S l) t].toArray }).PlainList h₁.objs.size [Value.str (S l) t].toArray := ⟨_, Heap.get?_push_size _ rfl⟩
  have n₂ : s.heap.get? h₁.objs.size = none := new_of F.keep (get_new h₁)
  generalize h₁.push { cls := .type "list", data := .seq [Value.str (S l) t].toArray } = h₂ at k₂ p₂ ⊢
  generalize h₁.objs.size = dD at p₂ n₂ ⊢
  refine stx (s := { s with heap := h₂, toks := _ }) (fr_ext (s := { s with heap := h₁ }) F k₂) fun h₃ tk₃ m₃ F₃ e₃ o₃ q₃ => ?_
  replace p₂ := q₃.plain p₂
  have hdoc₃ := (o₃ "doc" (by decide)).trans hdoc
  refine wpAny_execs_cons (wpAny_Assign_Name ?_ rfl)
  refine wpAny_List (wpAny_items_nil ⟨by rw [sizeLine_eq]; simp, ?_⟩)
  have k₄ : Ext h₃ (h₃.push { cls := .type "list", data := .seq ([] : List Value).toArray }) := fun b o e => Heap.get?_push_of_some _ e
  have p₄ : (h₃.push { cls := .type "list", data := .seq ([] : List Value).toArray }).PlainList h₃.objs.size ([] : List Value).toArray := ⟨_, Heap.get?_push_size _ rfl⟩
  have n₄ : s.heap.get? h₃.objs.size = none := new_of F₃.keep (get_new h₃)
  have d₄ : dD ≠ h₃.objs.size := Ne.symm (plain_ne p₂ (get_new h₃))
  generalize h₃.push { cls := .type "list", data := .seq ([] : List Value).toArray } = h₄ at k₄ p₄ ⊢
  generalize h₃.objs.size = dH at p₄ n₄ d₄ ⊢
  replace p₂ := ext_plain k₄ p₂
  refine stx (s := { s with heap := h₄, toks := _ }) (fr_ext (s := { s with heap := h₃ }) F₃ k₄) fun h₅ tk₅ m₅ F₅ e₅ o₅ q₅ => ?_
  replace p₂ := q₅.plain p₂
  replace p₄ := q₅.plain p₄
  have hdoc₅ := (o₅ "doc" (by decide)).trans hdoc₃
  have hdD₅ := (o₅ "docs" (by decide)).trans e₃
  have T₅ := T.keeps F₅.keep
  refine wpAny_execs_cons ?_
  refine Assign_Tuple ?_ rfl rfl
  refine call1 T₅ ms (fs.keeps F₅.keep) rfl (by kernel_rfl) (by kernel_rfl) rfl ?_
  refine ld F₅ hdoc₅ ⟨Kp.refl _, ?_⟩
  refine c_splitdoc T₅ (fs.keeps F₅.keep) (r'.less (by omega)) hl fun b t1 t2 h₆ tk₆ k₆ tp => ?_
  refine unp (s := { s with heap := h₆, toks := _ }) (fr_ext (s := { s with heap := h₅ }) F₅ k₆) tp r'.hh (by decide) (by kernel_rfl) (by kernel_rfl) (by kernel_rfl) fun h₇ tk₇ m₇ F₇ e1 e2 o₇ q₇ => ?_
  replace p₂ := q₇.plain (ext_plain k₆ p₂)
  replace p₄ := q₇.plain (ext_plain k₆ p₄)
  have hdD₇ := (o₇ "docs" (by decide) (by decide)).trans hdD₅
  have hdH₇ := (o₇ "heads" (by decide) (by decide)).trans e₅
  refine wpAny_execs_cons ?_
  refine wpAny_While ?_
  refine codeAny_whileLoop (ChInv s L l) ?_ l.length ⟨h₇, tk₇, m₇, dD, dH, _, _, [l], [], l, t1, t2, rfl, F₇, hdD₇, hdH₇, e1, e2, p₂, p₄, d₄, n₂, n₄, .cons ⟨t, rfl⟩ .nil, .nil, Nat.le_refl _, Nat.le_refl _, by simp; omega, by simp, rfl, rfl, rfl⟩
  rintro n s' ⟨h', tk', m', dD, dH, dvs, hvs, docs, heads, cur, t1, t2, rfl, F', hdD, hdH, e1, e2, p1, p2, hne, n1, n2, hd, hh, hcn, hcl, hdn, hhn, q1, q2, q3⟩
  have T' := T.keeps F'.keep
  have hsl := splitP_len cur
  refine wpAny_isTrue_Compare1 ?_
  refine ld F' e1 ?_
  refine k_empty fun t3 tk3 => ?_
  refine ne_empty ?_
  refine wpAny_truthy_bool ?_
  by_cases hcur : (splitP cur).1 = []
  · refine PySem.W.ite_neg (by simp [hcur]) ?_
    have hch : ch n cur = ([], [], (splitP cur).2) := by
      cases n with
      | zero => rfl
      | succ n => unfold ch; rw [if_pos hcur]
    rw [hch] at q1 q2 q3
    simp only [List.append_nil] at q1 q2
    refine wpAny_execs_nil ?_
    refine wpAny_execs_cons ?_
    refine wpAny_Return_some ?_
    refine wpAny_List ?_
    refine wpAny_items_cons ?_
    refine ld F' hdD ?_
    refine wpAny_items_cons ?_
    refine ld F' hdH ?_
    refine wpAny_items_cons ?_
    refine ld F' e2 ?_
    refine wpAny_items_nil ⟨by rw [sizeLine_eq]; simp, ?_⟩
    have kp : Ext h' (h'.push { cls := .type "list", data := .seq [Value.ref dD, .ref dH, .str (S (splitP cur).2) t2].toArray }) := fun b o e => Heap.get?_push_of_some _ e
    refine hQ _ dD dH dvs hvs t2 _ _ (Ext.trans F'.keep kp) ?_ (ext_plain kp p1) (ext_plain kp p2) (by rw [← q1]; exact hd) (by rw [← q2]; exact hh) (new_of F'.keep (get_new h')) n1 n2
    rw [← q3]
    exact ⟨_, Heap.get?_push_size _ rfl⟩
  · refine PySem.W.ite_pos (by simp [hcur]) ?_
    have hsh := splitP_shrink hcur
    obtain ⟨n, rfl⟩ : ∃ n', n = n' + 1 := ⟨n - 1, by omega⟩
    have hch : ch (n + 1) cur = ((splitP cur).2 :: (ch n (splitP cur).2).1, (splitP cur).1 :: (ch n (splitP cur).2).2.1, (ch n (splitP cur).2).2.2) := by
      conv => lhs; unfold ch
      rw [if_neg hcur]
    rw [hch] at q1 q2 q3
    refine wpAny_execs_cons ?_
    refine app rfl rfl rfl rfl rfl ?_
    refine ld F' hdH ⟨dH, hvs, rfl, p2, ?_⟩
    refine ld F' e1 ⟨hvs, p2, ?_, fun h₈ p₈ k₈ => ?_⟩
    · have := hh.length
      simp at this; omega
    have F₈ := fr_same F' p2 n2 k₈
    have p1₈ := p1.at fun o e => k₈.extBut _ o hne e
    refine wpAny_execs_cons ?_
    refine app rfl rfl rfl rfl rfl ?_
    refine ld F₈ hdD ⟨dD, dvs, rfl, p1₈, ?_⟩
    refine ld F₈ e2 ⟨dvs, p1₈, ?_, fun h₉ p₉ k₉ => ?_⟩
    · have := hd.length
      simp at this; omega
    have F₉ := fr_same F₈ p1₈ n1 k₉
    have p2₉ := p₈.at fun o e => k₉.extBut _ o (Ne.symm hne) e
    have T₉ := T.keeps F₉.keep
    refine wpAny_execs_cons ?_
    refine Assign_Tuple ?_ rfl rfl
    refine call1 T₉ ms (fs.keeps F₉.keep) rfl (by kernel_rfl) (by kernel_rfl) rfl ?_
    refine ld F₉ e2 ⟨Kp.refl _, ?_⟩
    refine c_splitdoc T₉ (fs.keeps F₉.keep) (r'.less (by omega)) (by omega) fun b t4 t5 hA tkA kA tp => ?_
    refine unp (s := { s with heap := hA, toks := _ }) (fr_ext (s := { s with heap := h₉ }) F₉ kA) tp r'.hh (by decide) (by kernel_rfl) (by kernel_rfl) (by kernel_rfl) fun hB tkB mB FB eB1 eB2 oB qB => ?_
    refine wpAny_execs_nil ⟨n, by omega, hB, tkB, mB, dD, dH, _, _, docs ++ [(splitP cur).2], heads ++ [(splitP cur).1], (splitP cur).2, t4, t5, rfl, FB, (oB "docs" (by decide) (by decide)).trans hdD, (oB "heads" (by decide) (by decide)).trans hdH, eB1, eB2,
      qB.plain (ext_plain kA p₉), qB.plain (ext_plain kA p2₉), hne, n1, n2, ?_, ?_, by omega, by omega, by simp; omega, by simp; omega, by rw [← q1]; simp, by rw [← q2]; simp, q3⟩
    · rw [Array.toList_push]; exact All2.append hd (.cons ⟨_, rfl⟩ .nil)
    · rw [Array.toList_push]; exact All2.append hh (.cons ⟨_, rfl⟩ .nil)
end
end Mine
end

section
open PySem PySem.W PyProof.Rows PySem.Builtin PySem.Builtin.Str
namespace Mine

/-- all lists and tuples stay -/
def Kq (h h' : Heap) : Prop := ∀ b o, h.get? b = some o → (∃ vs n, o.data = .seq vs n) → h'.get? b = some o
theorem Kq.of {h h' : Heap} (k : Ext h h') : Kq h h' := fun b o e _ => k b o e
theorem Kq.trans {a b c : Heap} (k : Kq a b) (k' : Kq b c) : Kq a c := fun x o e n => k' x o (k x o e n) n
theorem Kq.plain {h h' : Heap} (k : Kq h h') {a : Addr} {vs : Array Value} (l : h.PlainList a vs) : h'.PlainList a vs := let ⟨n, e⟩ := l; ⟨n, k _ _ e ⟨vs, n, rfl⟩⟩
theorem Kq.list {h h' : Heap} (k : Kq h h') {a : Addr} {vs : Array Value} (l : h.IsList a vs) : h'.IsList a vs := let ⟨o, ho, hc, n, hd⟩ := l; ⟨o, k _ _ ho ⟨vs, n, hd⟩, hc, n, hd⟩

def cellsOf (L : Addr) (scope : Scope) : List (Str × Addr) := cellsFrom (L + 1) scope.names []
def envC (name : Str) (scope : Scope) (L a : Addr) (cd : Value) : Env :=
  { scope := scope, locals := L, globals := mainGlobals, cells := cellsOf L scope, qual := name ++ ".<locals>.", func := some a, code := cd, frame := some L, builtins := builtinsNs }

structure FrC (g : Heap) (L : Addr) (h : Heap) (m : Str → Option Value) (cs : List (Str × Addr)) (cm : Str → Option Value) : Prop where
  fr : Fr g L h m
  cell : ∀ n c, cs.lookup n = some c → h.IsCell c (cm n)
  apart : cs.Pairwise fun x y => x.2 ≠ y.2
  high : ∀ n c, (n, c) ∈ cs → L < c

section
variable {w : World} {mg : Str → Option Value} {A : Around} {E : Value → Shared → Prop} {s : Shared} {g : Heap} {L : Addr} {m cm : Str → Option Value} {cs : List (Str × Addr)} {name : Str} {scope : Scope} {a : Addr} {cd : Value}

theorem FrC.ext {h h' : Heap} (F : FrC g L h m cs cm) (k : Ext h h') : FrC g L h' m cs cm :=
  ⟨⟨F.fr.ns.keeps k, fun b o e => k b o (F.fr.keep b o e), F.fr.above⟩, fun n c hc => (F.cell n c hc).keeps k, F.apart, F.high⟩

theorem enterC {n i : Nat} {name : Str} {a : Addr} {args : List Value} {binds : List (Str × Value)} {Q : Value → Shared → Prop} (T : TF w mg s.heap) (hf : FnI s.heap a i name) (r : Rm (n + 1) A)
    (hbind : ∀ pm cd doc, bindArgs (Calls.docDef name (fnParams (st i)) (fnBody (st i)) (fnScope (st i)) pm cd doc) ⟨args, []⟩ = pure binds)
    (hkind : ∀ N : Nat, (binds.all fun x => decide ((fnScope (st i)).names.lookup x.1 = some .local) || (decide ((fnScope (st i)).names.lookup x.1 = some .cell) && ((cellsFrom (N + 1) (fnScope (st i)).names []).lookup x.1).isSome)) = true)
    (h : ∀ L cd h₁ tk m cm A', Rm n A' → FrC s.heap L h₁ m (cellsOf L (fnScope (st i))) cm → (∀ x v, bindL (fun y => (fnScope (st i)).names.lookup y) binds (fun _ => none) x = some v → m x = some v) →
      (∀ x v, bindC (fun y => (fnScope (st i)).names.lookup y) binds (fun _ => none) x = some v → cm x = some v) → TF w mg h₁ → wpAny (model pw w) A' (execs (fnBody (st i)) (envC name (fnScope (st i)) L a cd))
      (fun f s' => Q (match f with | .ret v => v | _ => .none) s') (fun _ _ => False) { s with heap := h₁, toks := tk })
    (hco : (fnScope (st i)).isCoroutine = false) (hgen : (fnScope (st i)).isGenerator = false) (hk : (fnScope (st i)).kind = .function) : wpAny (model pw w) A (call (.ref a) args) Q E s := by
  obtain ⟨pm, c, doc, ho, hcd⟩ := hf
  refine wpAny_call (codeAny_call_cells (by have := r.dp; omega) ho rfl T.lim hcd rfl (hbind _ _ _) rfl (fun x hx => ?_) (fun s₁ x => ?_) hco hgen hk)
  · have := List.all_eq_true.mp (hkind s.heap.objs.size) x hx
    simp only [Bool.or_eq_true, Bool.and_eq_true, decide_eq_true_eq] at this
    exact this
  · obtain ⟨⟨⟨h', tk, rfl⟩, ns, keep, fresh⟩, cell, apart, above⟩ := x
    have F : FrC s.heap s.heap.objs.size h' _ (cellsOf s.heap.objs.size (fnScope (st i))) _ := ⟨⟨ns, keep, fresh⟩, cell, apart, above⟩
    exact wpAny_mono (h _ _ h' tk _ _ _ (r.deeper _) F (fun _ _ e => e) (fun _ _ e => e) (T.keeps keep)) (fun _ _ x => x) (fun _ _ x => x.elim)

theorem ldL {M : Model} {x : Str} {pos : Pos} {v : Value} {Q : Value → Shared → Prop} (F : FrC g L s.heap m cs cm) (hv : m x = some v) (h : Q v s)
    (hk : scope.kind = .function) (hl : (envC name scope L a cd).kindOf x = some .local) (hd : (x == ("__debug__" : Str)) = false := by decide) : wpAny M A (eval (.Name x pos) (envC name scope L a cd)) Q E s :=
  wpAny_Name (wpAny_loadName_local hk hl F.fr.ns hv h) hd
theorem ldK {M : Model} {x : Str} {pos : Pos} {v : Value} {c : Addr} {Q : Value → Shared → Prop} (F : FrC g L s.heap m (cellsOf L scope) cm) (hv : cm x = some v) (h : Q v s)
    (hk : scope.kind = .function) (hl : (envC name scope L a cd).kindOf x = some .cell) (hc : (cellsOf L scope).lookup x = some c) (hd : (x == ("__debug__" : Str)) = false := by decide) : wpAny M A (eval (.Name x pos) (envC name scope L a cd)) Q E s :=
  wpAny_Name (wpAny_loadName_cell hk hl hc (hv ▸ F.cell x c hc) h) hd

theorem Kq.ns {h h' : Heap} {L : Addr} {m : Str → Option Value} (n : h.Ns L m) (s : Heap.SameBut L h h') : Kq h h' := fun b o e ⟨vs, k, hd⟩ => Kp.ns n s b o e (fun es ep q => by rw [hd] at q; cases q)
theorem Kq.cell {h h' : Heap} {c : Addr} {v : Option Value} (n : h.IsCell c v) (s : Heap.SameBut c h h') : Kq h h' := fun b o e ⟨vs, k, hd⟩ => by
  refine s.extBut b o (fun q => ?_) e
  subst q
  obtain ⟨o', ho, hd'⟩ := n
  rw [ho] at e
  cases e
  rw [hd] at hd'
  cases hd'

theorem stL {M : Model} {x : Str} {v : Value} {Q : Unit → Shared → Prop} (F : FrC g L s.heap m (cellsOf L scope) cm)
    (h : ∀ h' tk m', FrC g L h' m' (cellsOf L scope) cm → m' x = some v → (∀ y, y ≠ x → m' y = m y) → Kq s.heap h' → Q () { s with heap := h', toks := tk })
    (hk : scope.kind = .function) (hl : (envC name scope L a cd).kindOf x = some .local) : wpAny M A (storeName (envC name scope L a cd) x v) Q E s :=
  wpAny_storeName_local hl F.fr.ns (fun h' hn hs => h h' _ _ ⟨F.fr.set hn hs, fun n c hc => (F.cell n c hc).sameBut hs (Nat.ne_of_gt (F.high n c (mem_of_lookup hc))), F.apart, F.high⟩ (if_pos rfl) (fun _ hy => if_neg hy) (Kq.ns F.fr.ns hs))
    (by show (scope.kind == .class || (scope.kind == .module && L != mainGlobals)) = false; rw [hk]; rfl)

theorem stK {M : Model} {x : Str} {v : Value} {c : Addr} {Q : Unit → Shared → Prop} (F : FrC g L s.heap m (cellsOf L scope) cm)
    (h : ∀ h' tk cm', FrC g L h' m (cellsOf L scope) cm' → cm' x = some v → (∀ y, y ≠ x → cm' y = cm y) → Kq s.heap h' → Q () { s with heap := h', toks := tk })
    (hk : scope.kind = .function) (hl : (envC name scope L a cd).kindOf x = some .cell) (hc : (cellsOf L scope).lookup x = some c) : wpAny M A (storeName (envC name scope L a cd) x v) Q E s := by
  have hLc := F.high x c (mem_of_lookup hc)
  refine wpAny_storeName_cell hk hl hc (F.cell x c hc) fun h' hc' hs' => h h' _ (fun y => if y = x then some v else cm y) ⟨⟨F.fr.ns.sameBut hs' (Nat.ne_of_lt hLc), fun b o e => ?_, F.fr.above⟩, fun k c' hk' => ?_, F.apart, F.high⟩ (if_pos rfl) (fun _ hy => if_neg hy) (Kq.cell (F.cell x c hc) hs')
  · exact hs'.extBut b o (Nat.ne_of_lt (Nat.lt_trans (Nat.lt_of_lt_of_le (Heap.lt_size e) F.fr.above) hLc)) (F.fr.keep b o e)
  · by_cases hkn : k = x
    · subst hkn
      rw [hc] at hk'; cases hk'
      simpa using hc'
    · rw [if_neg hkn]
      exact (F.cell k c' hk').sameBut hs' fun e => hkn (name_of_addr F.apart (mem_of_lookup hk') (e ▸ mem_of_lookup hc))

/-- a name of the def's, within a comprehension -/
theorem ldcc {M : Model} {sc : Scope} {cl : List (Str × Addr)} {C : Addr} {env : Env} {n : Str} {pos : Pos} {v : Value} {c : Addr} {Q : Value → Shared → Prop} (hc : s.heap.IsCell c (some v)) (h : Q v s)
    (hk : (compEnvC sc cl C env).scope.kind = .function) (hl : (compEnvC sc cl C env).kindOf n = some .cell) (hl' : cl.lookup n = some c) (hd : (n == ("__debug__" : Str)) = false := by decide) : wpAny M A (eval (.Name n pos) (compEnvC sc cl C env)) Q E s :=
  wpAny_Name (wpAny_loadName_cell hk hl hl' hc h) hd
end
end Mine
end

section
open PySem PySem.W PyProof.Rows PySem.Builtin PySem.Builtin.Str
namespace Mine

def figs (x : Int) : List Nat := (List.range ((x.fmod 262144).toNat % 4 + 1)).map fun k => (x.fmod 262144).toNat / (4 * 16 ^ k) % 16

section
variable {w : World} {mg : Str → Option Value} {A : Around} {E : Value → Shared → Prop} {s : Shared}

theorem pow16 {k : Nat} {t u : Tok} {Q : Value → Shared → Prop} (hk : k ≤ 3) (h : ∀ t tk, Q (.int ((16 ^ k : Nat) : Int) t) { s with toks := tk }) : wpAny (model pw w) A (binaryOp .Pow (.int 16 t) (.int (k : Nat) u)) Q E s := by
  match k, hk with
  | 0, _ => exact AutoIntOps.pow_0 (by decide) (by decide) (h _ _)
  | 1, _ => exact AutoIntOps.pow_4 (by decide) (by decide) (by decide) (by decide) (by decide +kernel) (h _ _)
  | 2, _ => exact AutoIntOps.pow_4 (by decide) (by decide) (by decide) (by decide) (by decide +kernel) (h _ _)
  | 3, _ => exact AutoIntOps.pow_4 (by decide) (by decide) (by decide) (by decide) (by decide +kernel) (h _ _)
theorem mul4 {k : Nat} {t u : Tok} {Q : Value → Shared → Prop} (h : ∀ t tk, Q (.int ((4 * 16 ^ k : Nat) : Int) t) { s with toks := tk }) : wpAny (model pw w) A (binaryOp .Mult (.int 4 t) (.int ((16 ^ k : Nat) : Int) u)) Q E s := by
  refine AutoIntOps.mul_0 ?_ (IntMulOk.of_left (by decide +kernel))
  have := h s.toks (s.toks + 1)
  rw [Int.natCast_mul] at this
  exact this
theorem div4 {v k : Nat} {t u : Tok} {Q : Value → Shared → Prop} (hk : k ≤ 3) (h : ∀ t tk, Q (.int ((v / (4 * 16 ^ k) : Nat) : Int) t) { s with toks := tk }) : wpAny (model pw w) A (binaryOp .FloorDiv (.int (v : Nat) t) (.int ((4 * 16 ^ k : Nat) : Int) u)) Q E s := by
  have hp : 0 < 16 ^ k := Nat.pow_pos (by decide)
  refine AutoIntOps.floordiv_1 ?_ ?_ ?_
  · intro e
    have e' := beq_iff_eq.mp e
    omega
  · unfold divisionGoesByPylong
    match k, hk with
    | 0, _ => simp only [Bool.and_eq_true, decide_eq_true_eq]; rintro ⟨h, _⟩; revert h; decide +kernel
    | 1, _ => simp only [Bool.and_eq_true, decide_eq_true_eq]; rintro ⟨h, _⟩; revert h; decide +kernel
    | 2, _ => simp only [Bool.and_eq_true, decide_eq_true_eq]; rintro ⟨h, _⟩; revert h; decide +kernel
    | 3, _ => simp only [Bool.and_eq_true, decide_eq_true_eq]; rintro ⟨h, _⟩; revert h; decide +kernel
  · have := h s.toks (s.toks + 1)
    rw [show ((v : Int)).fdiv ((4 * 16 ^ k : Nat) : Int) = ((v / (4 * 16 ^ k) : Nat) : Int) by rw [Int.fdiv_eq_ediv_of_nonneg _ (by omega)]; rfl]
    exact this
theorem modn {v n : Nat} {t u : Tok} {Q : Value → Shared → Prop} (hn : 0 < n) (h : ∀ t tk, Q (.int ((v % n : Nat) : Int) t) { s with toks := tk }) : wpAny (model pw w) A (binaryOp .Mod (.int (v : Nat) t) (.int (n : Nat) u)) Q E s := by
  refine PyProof.Rows.mod_int (by omega) ?_
  rw [show ((v : Int)).fmod (n : Int) = ((v % n : Nat) : Int) by rw [Int.fmod_eq_emod_of_nonneg _ (by omega)]; rfl]
  exact h _ _
theorem addn {a b : Nat} {t u : Tok} {Q : Value → Shared → Prop} (h : ∀ t tk, Q (.int ((a + b : Nat) : Int) t) { s with toks := tk }) : wpAny (model pw w) A (binaryOp .Add (.int (a : Nat) t) (.int (b : Nat) u)) Q E s :=
  PyProof.Rows.add_int (by rw [← Int.natCast_add]; exact h _ _)

/-- range(n) -/
theorem rng {n : Nat} {u : Tok} {Q : Value → Shared → Prop} (h : ∀ r h' tk t u v, Ext s.heap h' → IsRange h' r 0 n 1 t u v → Q (.ref r) { s with heap := h', toks := tk }) : wpAny (model pw w) A (call (.type "range") [.int (n : Nat) u]) Q E s :=
  call_range_1 (h _ _ _ _ _ _ (fun b o e => Heap.get?_push_of_some _ e) (Heap.get?_push_size _ rfl))

set_option maxHeartbeats 4000000 in
set_option maxRecDepth 100000 in
theorem c_figures {a : Addr} {x : Int} {t : Tok} {Q : Value → Shared → Prop} (T : TF w mg s.heap) (hf : FnI s.heap a 10 "_law_figures") (r : Rm 2 A)
    (hQ : ∀ D ys h' tk, Ext s.heap h' → s.heap.get? D = none → h'.PlainList D ys → All2 IsI ys.toList (figs x) → Q (.ref D) { s with heap := h', toks := tk }) : wpAny (model pw w) A (call (.ref a) [.int x t]) Q E s := by
  refine enterC (binds := [("x", .int x t)]) T hf r (fun _ _ _ => by unfold st; kernel_rfl) (fun _ => by kernel_rfl) (fun L cd h₁ tk m₁ cm₁ A' r' F hm hcm T₁ => ?_) (by kernel_rfl) (by kernel_rfl) (by kernel_rfl)
  have hx := hm "x" (.int x t) (by kernel_rfl)
  unfold st at F ⊢
  have hfm : 0 ≤ x.fmod 262144 := Int.fmod_nonneg_of_pos _ (by decide)
  obtain ⟨v, hv⟩ : ∃ v : Nat, x.fmod 262144 = v := ⟨(x.fmod 262144).toNat, by omega⟩
  refine wpAny_execs_cons ?_
  refine wpAny_Assign_Name ?_ rfl
  refine wpAny_BinOp ?_
  refine ldL F hx ?_ (by kernel_rfl) (by kernel_rfl)
  refine wpAny_Constant_int ?_
  refine PyProof.Rows.mod_int (by decide) ?_
  rw [hv]
  refine stK (c := L + 1) F (fun h₂ tk₂ cm₂ F₂ e₂ o₂ q₂ => ?_) (by kernel_rfl) (by kernel_rfl) (by kernel_rfl)
  have T₂ := T.keeps F₂.fr.keep
  have hcv := F₂.cell "v" (L + 1) (by kernel_rfl)
  rw [e₂] at hcv
  refine wpAny_execs_cons ?_
  refine wpAny_Return_some ?_
  refine lcomp (xs := List.range (v % 4 + 1)) (V := fun k v => ∃ t, v = .int (k : Nat) t) (p := fun _ => true) (f := fun k => v / (4 * 16 ^ k) % 16) (R := RI) (fun _ _ _ _ _ h _ => h) (cl := [("v", L + 1)]) (by kernel_rfl) (by decide +kernel) (by kernel_rfl) (by decide +kernel) (by decide +kernel) (by simp; omega) ?_
  refine Call_ (bn T₂ (by decide) boot_range ?_ rfl rfl (by kernel_rfl) (by kernel_rfl))
  refine PyProof.Rows.callWith_type1 (args_cons ?_)
  refine wpAny_BinOp ?_
  refine wpAny_BinOp ?_
  refine ldK (c := L + 1) F₂ e₂ ?_ (by kernel_rfl) (by kernel_rfl) (by kernel_rfl)
  refine wpAny_Constant_int ?_
  refine modn (n := 4) (by decide) fun t3 tk3 => ?_
  refine wpAny_Constant_int ?_
  refine addn (b := 1) fun t4 tk4 => ?_
  refine args_nil ?_
  refine rng fun rr h₃ tk₃ t5 t6 t7 k₃ hrr => ?_
  refine ⟨src_range r'.hh (by omega) hrr, ?_, ?_, ?_⟩
  · rintro C k v' s₃ m₃ E' Q' hk ⟨u, rfl⟩ hn hx k₄ hq
    exact wpAny_tests_nil (hq s₃.heap s₃.toks (fun _ _ e => e))
  · rintro C k v' s₃ m₃ E' Q' hk _ ⟨u, rfl⟩ hn hx k₄ hq
    have hk3 : k ≤ 3 := by have := List.mem_range.mp hk; omega
    have hcv' := (hcv.keeps k₃).keeps k₄
    refine wpAny_BinOp ?_
    refine wpAny_BinOp ?_
    refine ldcc hcv' ?_ (by kernel_rfl) (by kernel_rfl) (by kernel_rfl)
    refine wpAny_BinOp ?_
    refine wpAny_Constant_int ?_
    refine wpAny_BinOp ?_
    refine wpAny_Constant_int ?_
    refine ldc hn hx ?_ (by kernel_rfl) (by kernel_rfl)
    refine pow16 hk3 fun t8 tk8 => ?_
    refine mul4 fun t9 tk9 => ?_
    refine div4 hk3 fun tA tkA => ?_
    refine wpAny_Constant_int ?_
    refine modn (n := 16) (by decide) fun tB tkB => ?_
    exact hq _ _ _ [] (fun _ _ e => e) ⟨_, rfl⟩ (by simp)
  · intro D h' tk' ys k' hD hpl hall
    have e : (List.range (v % 4 + 1)).filter (fun _ => true) = List.range (v % 4 + 1) := by simp
    rw [e] at hall
    refine hQ D ys h' tk' (Ext.trans F₂.fr.keep (Ext.trans k₃ k')) (new_of (Ext.trans F₂.fr.keep k₃) hD) hpl ?_
    unfold figs
    rw [hv]
    exact hall.imp fun y b ⟨_, r, _⟩ => r
end
end Mine
end

section
open PySem PySem.W PyProof.Rows PySem.Builtin PySem.Builtin.Str
namespace Mine

/-- an iterator stands there -/
def ItAt (h : Heap) (I : Addr) : Prop := ∃ o vs, h.get? I = some o ∧ o.data = .fields vs
theorem itAt {h : Heap} {I l : Addr} {i : Nat} (x : h.IsListIter I l i) : ItAt h I := let ⟨o, ho, _, hd⟩ := x; ⟨o, _, ho, hd⟩
theorem Kq.it {h h' : Heap} {I : Addr} (x : ItAt h I) (k : ∀ b o, b ≠ I → h.get? b = some o → h'.get? b = some o) : Kq h h' := fun b o e ⟨vs, n, hd⟩ => k b o (fun q => by
  subst q
  obtain ⟨o', us, ho, hd'⟩ := x
  rw [ho] at e
  cases e
  rw [hd] at hd'
  cases hd') e
theorem fr_it {g h h' : Heap} {L I : Addr} {m : Str → Option Value} (F : Fr g L h m) (x : ItAt h I) (hg : g.get? I = none) (k : ∀ b o, b ≠ I → h.get? b = some o → h'.get? b = some o) : Fr g L h' m := by
  refine ⟨?_, fun b o e => k b o (fun q => by subst q; rw [hg] at e; cases e) (F.keep b o e), F.above⟩
  refine F.ns.at' fun o e => k L o (fun q => ?_) e
  subst q
  obtain ⟨o', us, ho, hd'⟩ := x
  obtain ⟨o'', es, ep, ho'', hd'', _⟩ := F.ns
  rw [ho] at ho''
  cases ho''
  rw [hd'] at hd''
  cases hd''
theorem ItAt.kp {h h' : Heap} {I : Addr} (x : ItAt h I) (k : Kp h h') : ∀ o, h.get? I = some o → h'.get? I = some o := fun o e => by
  obtain ⟨o', us, ho, hd'⟩ := x
  rw [ho] at e
  cases e
  exact k _ _ ho (fun es ep q => by rw [hd'] at q; cases q)

section
variable {w : World} {mg : Str → Option Value} {A : Around} {E : Value → Shared → Prop} {s : Shared} {α : Type}

theorem floop {xs : List α} {V : α → Value → Prop} {x : Str} {px : Pos} {iter : Expr} {body : List Stmt} {pos : Pos} {env : Env} {Q : Flow → Shared → Prop} (Inv : Addr → List α → List α → Heap → Prop) (hh : A.handled = none)
    (h : wpAny (model pw w) A (eval iter env) (fun xv s₁ => ∃ l vs, xv = .ref l ∧ s₁.heap.IsList l vs.toArray ∧ All2 (fun v a => V a v) vs xs ∧
      (∀ I h₂, Ext s₁.heap h₂ → s₁.heap.get? I = none → ItAt h₂ I → Inv I [] xs h₂) ∧
      (∀ I done rest h h', Inv I done rest h → ItAt h I → s₁.heap.get? I = none → (∀ b o, b ≠ I → h.get? b = some o → h'.get? b = some o) → Inv I done rest h') ∧
      (∀ I done a rest v h tk E', xs = done ++ a :: rest → V a v → Inv I done (a :: rest) h → ItAt h I → h.IsList l vs.toArray → s₁.heap.get? I = none →
        wpAny (model pw w) A (storeName env x v) (fun _ s₂ => wpAny (model pw w) A (execs body env) (fun f s₃ => f = .next ∧ ∃ h' tk', s₃ = { s₁ with heap := h', toks := tk' } ∧ Inv I (done ++ [a]) rest h' ∧ ∀ b, b = I ∨ b = l → ∀ o, h.get? b = some o → h'.get? b = some o) E' s₂) E' { s₁ with heap := h, toks := tk }) ∧
      (∀ I h tk, Inv I xs [] h → Q .next { s₁ with heap := h, toks := tk })) E s)
    (hs : ∀ x, foldedSetIterable iter env x = pure x := by intro _; rfl) :
    wpAny (model pw w) A (exec (.For (.Name x px) iter body [] pos) env) Q E s := by
  refine wpAny_For (wpAny_mono h (fun xv s₁ h₁ => ?_) fun _ _ x => x) hs
  obtain ⟨l, vs, rfl, hl, hv, hstart, hstable, hstep, hfin⟩ := h₁
  refine wpAny_pyIter_list hl ?_
  have hne : l ≠ s₁.heap.objs.size := by
    obtain ⟨o, ho, _⟩ := hl
    exact Nat.ne_of_lt (Heap.lt_size ho)
  have newI := get_new s₁.heap
  have e₂ : Ext s₁.heap (s₁.heap.push { cls := .type "list_iterator", data := .fields #[.ref l, .int 0 0] }) := fun b o e => Heap.get?_push_of_some _ e
  have hit : (s₁.heap.push { cls := .type "list_iterator", data := .fields #[.ref l, .int 0 0] }).IsListIter s₁.heap.objs.size l 0 := ⟨_, Heap.get?_push_size _ rfl, rfl, rfl⟩
  generalize s₁.heap.push { cls := .type "list_iterator", data := .fields #[.ref l, .int 0 0] } = h₂ at e₂ hit ⊢
  generalize s₁.heap.objs.size = I at hne newI hit ⊢
  have hlen := hv.length
  have W := Walks.weaken (P' := fun i v => ∃ x, xs[i]? = some x ∧ V x v) (Walks.list (prog := pw) (w := w) (A := A) hh I l hne vs.toArray) (fun i v _ e => hv.get (by simpa using e))
  have e : vs.toArray.size = xs.length := hlen
  rw [e] at W
  have hl₂ : h₂.IsList l vs.toArray := by obtain ⟨o, ho, r⟩ := hl; exact ⟨o, e₂ _ _ ho, r⟩
  refine codeAny_forLoop_any (fun k s' => ∃ h' tk done rest, s' = { s₁ with heap := h', toks := tk } ∧ xs = done ++ rest ∧ (h'.IsListIter I l done.length ∧ h'.IsList l vs.toArray) ∧ k = rest.length + 1 ∧ Inv I done rest h') ?_ (xs.length + 1)
    ⟨h₂, _, [], xs, rfl, rfl, ⟨hit, hl₂⟩, rfl, hstart I h₂ e₂ newI (itAt hit)⟩
  rintro k s' ⟨h', tk, done, rest, rfl, hxs, hst, rfl, hI⟩
  cases rest with
  | nil =>
    have hd : xs.length = done.length := by rw [hxs]; simp
    refine W.done _ _ _ (hd ▸ hst) fun h₅ tk₅ hk₅ => ?_
    refine wpAny_execs_nil ?_
    refine hfin I h₅ tk₅ ?_
    have : xs = done := by rw [hxs]; simp
    rw [this]
    exact hstable _ _ _ _ _ hI (itAt hst.1) newI fun b o hb e => hk₅ b o (by simpa using hb) e
  | cons a rest =>
    have hlt : done.length < xs.length := by rw [hxs]; simp
    have hget : xs[done.length]? = some a := by rw [hxs]; simp
    refine W.item done.length _ _ _ hlt hst fun v h₅ tk₅ ⟨a', ha', hVa⟩ hst₅ hk₅ => ?_
    rw [hget] at ha'
    cases ha'
    refine wpAny_pure ?_
    refine wpAny_assign_Name ?_
    have hI₅ := hstable _ _ _ _ _ hI (itAt hst.1) newI fun b o hb e => hk₅ b o (by simpa using hb) e
    refine wpAny_mono (hstep I done a rest v h₅ tk₅ _ hxs hVa hI₅ (itAt hst₅.1) hst₅.2 newI) (fun _ s₂ h₂ => wpAny_mono h₂ (fun f s₃ h₃ => ?_) fun _ _ x => x) fun _ _ x => x
    obtain ⟨rfl, h₆, tk₆, rfl, hI₆, hk₆⟩ := h₃
    refine ⟨rest.length + 1, by simp, h₆, tk₆, done ++ [a], rest, rfl, by rw [hxs]; simp, ?_, rfl, hI₆⟩
    rw [List.length_append]
    refine W.frame _ _ _ hst₅ fun b hb o e => hk₆ b ?_ o e
    simpa using hb
end
end Mine
end

section
open PySem PySem.W PyProof.Rows PySem.Builtin PySem.Builtin.Str
namespace Mine

/-- a strand: a list of two texts -/
def Pr (h : Heap) (v : Value) (d : List Nat × List Nat) : Prop := ∃ p t1 t2, v = .ref p ∧ h.PlainList p #[.str (S d.1) t1, .str (S d.2) t2]
theorem Pr.kq {h h' : Heap} {v : Value} {d : List Nat × List Nat} (x : Pr h v d) (k : Kq h h') : Pr h' v d := let ⟨p, t1, t2, e, q⟩ := x; ⟨p, t1, t2, e, k.plain q⟩
theorem Pr.ext {h h' : Heap} {v : Value} {d : List Nat × List Nat} (x : Pr h v d) (k : Ext h h') : Pr h' v d := x.kq (Kq.of k)

section
variable {w : World} {mg : Str → Option Value} {A : Around} {E : Value → Shared → Prop} {s : Shared} {env : Env}

/-- what an expression gives, from this heap on -/
def Ev (w : World) (A : Around) (env : Env) (h₀ : Heap) (e : Expr) {δ : Type} (R : Heap → Value → δ → Prop) (d : δ) : Prop :=
  ∀ (s' : Shared) (Q' : Value → Shared → Prop) (E' : Value → Shared → Prop), Ext h₀ s'.heap → (∀ v h' tk, Ext s'.heap h' → R h' v d → Q' v { s' with heap := h', toks := tk }) → wpAny (model pw w) A (eval e env) Q' E' s'
def Plain (env : Env) (e : Expr) : Prop := ∀ rest, starEach (e :: rest) env = (false, eval e env) :: starEach rest env

theorem items_all {δ : Type} {R : Heap → Value → δ → Prop} (hR : ∀ h h' v d, R h v d → Ext h h' → R h' v d) {pos : Pos} {h₀ : Heap} : ∀ {es : List Expr} {ds : List δ} {s : Shared} {Q : List Value → Shared → Prop},
    All2 (fun e d => Plain env e ∧ Ev w A env h₀ e R d) es ds → Ext h₀ s.heap → (∀ vs h' tk, Ext s.heap h' → All2 (R h') vs ds → Q vs { s with heap := h', toks := tk }) → wpAny (model pw w) A (spliced (backTo pos (starEach es env))) Q E s
  | _, _, s, _, .nil, _, hQ => wpAny_items_nil (hQ [] s.heap s.toks (fun _ _ e => e) .nil)
  | _, _, s, _, .cons ⟨hp, he⟩ hr, hk, hQ => by
    refine wpAny_items_cons (he s _ _ hk fun v h' tk k r => ?_) (hp _)
    refine items_all hR hr (Ext.trans hk k) fun vs h'' tk' k' r' => ?_
    exact hQ (v :: vs) h'' tk' (Ext.trans k k') (.cons (hR _ _ _ _ r k') r')

/-- expressions that give texts and leave the heap alone -/
abbrev Tx (w : World) (A : Around) (env : Env) (h₀ : Heap) (e : Expr) (d : List Nat) : Prop := Plain env e ∧ Ev w A env h₀ e (fun _ v d => IsS v d) d

theorem tx_const {x : Str} {l : List Nat} {k : Nat} {pos : Pos} {h₀ : Heap} (e : x = S l) : Tx w A env h₀ (.Constant (.str x) k pos) l :=
  ⟨fun _ => rfl, fun s' Q' E' _ hQ => wpAny_Constant_str (hQ _ _ _ (fun _ _ e => e) ⟨_, by rw [e]⟩)⟩

theorem ev_pair {e1 e2 : Expr} {pos : Pos} {h₀ : Heap} {d1 d2 : List Nat} (h1 : Tx w A env h₀ e1 d1) (h2 : Tx w A env h₀ e2 d2) : Plain env (.List [e1, e2] pos) ∧ Ev w A env h₀ (.List [e1, e2] pos) Pr (d1, d2) := by
  refine ⟨fun _ => rfl, fun s' Q' E' hk hQ => ?_⟩
  refine wpAny_List (items_all (R := fun _ v d => IsS v d) (fun _ _ _ _ r _ => r) (.cons h1 (.cons h2 .nil)) hk fun vs h' tk k r => ?_)
  cases r with
  | cons r1 r =>
    cases r with
    | cons r2 r =>
      cases r
      obtain ⟨t1, rfl⟩ := r1
      obtain ⟨t2, rfl⟩ := r2
      refine ⟨by rw [sizeLine_eq]; simp, hQ _ _ _ (fun b o e => Heap.get?_push_of_some _ (k b o e)) ⟨_, t1, t2, rfl, _, Heap.get?_push_size _ rfl⟩⟩

theorem sw_bin {l r : Expr} {o : Operator} {p : Pos} {t : Option Expr} {n : Nat} {env : Env} : swapsWith (.BinOp l o r p) t n env = pure false := rfl
theorem sw_sub {l r : Expr} {p : Pos} {t : Option Expr} {n : Nat} {env : Env} : swapsWith (.Subscript l r p) t n env = pure false := rfl
theorem sw_call {f : Expr} {as : List Expr} {ks : List Keyword} {p : Pos} {t : Option Expr} {n : Nat} {env : Env} : swapsWith (.Call f as ks p) t n env = pure false := rfl
theorem sw_list {as : List Expr} {p : Pos} {t : Option Expr} {n : Nat} {env : Env} : swapsWith (.List as p) t n env = pure false := rfl

def goneL : List Nat := [173, 847, 6150, 6155, 6156, 6157, 8203, 8204, 8205, 8288, 65279] ++ (List.range 16).map (65024 + ·)
def goneAt (t : Int) : Nat := goneL.getD (t.fmod 27).toNat 0
def whiteAt (t : Int) : Nat := ws.getD (t.fmod 28).toNat 0
def otherAt (t : Int) : Nat := 19968 + (t.fmod 20902).toNat
def strands (t : Int) : List (List Nat × List Nat) :=
  [([32], [32]), ([65], [97]), ([98], [98]), ([8203], []), ([goneAt t], []), ([890], [32, 953]), ([223], [115, 115]), ([whiteAt t], [whiteAt t]), ([13202], [109, 104, 122]), ([1046], [1078]), ([otherAt t], [otherAt t]), ([9], [9]), ([64259], [102, 102, 105])]

theorem fm {t : Int} {n : Nat} (hn : 0 < n) : ∃ k : Nat, t.fmod n = k ∧ k < n := by
  have h1 : 0 ≤ t.fmod n := Int.fmod_nonneg_of_pos _ (by omega)
  have h2 : t.fmod n < n := Int.fmod_lt_of_pos _ (by omega)
  exact ⟨(t.fmod n).toNat, by omega, by omega⟩

theorem All2.getR {γ δ : Type} {R : γ → δ → Prop} {as : List γ} {bs : List δ} (h : All2 R as bs) : ∀ {i : Nat} {b : δ}, bs[i]? = some b → ∃ a, as[i]? = some a ∧ R a b := by
  induction h with
  | nil => intro i a e; simp at e
  | cons r _ ih =>
    intro i a e
    cases i with
    | zero => simp at e; subst e; exact ⟨_, rfl, r⟩
    | succ i => simp at e; simpa using ih e

/-- numbers written out -/
theorem ev_int {n k : Nat} {i : Int} {pos : Pos} {h₀ : Heap} (e : i = (n : Nat)) : Plain env (.Constant (.int i) k pos) ∧ Ev w A env h₀ (.Constant (.int i) k pos) (fun _ v d => IsI v d) n :=
  ⟨fun _ => rfl, fun _ _ _ _ hQ => wpAny_Constant_int (hQ _ _ _ (fun _ _ e => e) ⟨_, by rw [e]⟩)⟩
end

section
variable {w : World} {mg : Str → Option Value} {A : Around} {E : Value → Shared → Prop} {s : Shared}

set_option maxHeartbeats 4000000 in
set_option maxRecDepth 100000 in
theorem c_strands {a : Addr} {x : Int} {t : Tok} {Q : Value → Shared → Prop} (T : TF w mg s.heap) (hf : FnI s.heap a 9 "_law_strands") (r : Rm 2 A)
    (hQ : ∀ D vs h' tk, Ext s.heap h' → s.heap.get? D = none → h'.PlainList D vs → All2 (Pr h') vs.toList (strands x) → Q (.ref D) { s with heap := h', toks := tk }) : wpAny (model pw w) A (call (.ref a) [.int x t]) Q E s := by
  refine entr (binds := [("total", .int x t)]) T hf r (fun _ _ _ => by unfold st; kernel_rfl) (by kernel_rfl) (fun L cd h₁ tk m₁ A' r' F hm T₁ => ?_) (by kernel_rfl) (by kernel_rfl) (by kernel_rfl) (by kernel_rfl)
  have hx := hm "total" (.int x t) (by kernel_rfl)
  obtain ⟨aw, mw, fw⟩ := T.fn (8, "_law_whites") (by decide)
  unfold st
  refine wpAny_execs_cons ?_
  refine wpAny_Assign_Name ?_ ?_
  case refine_2 => exact sw_bin
  refine wpAny_BinOp ?_
  refine wpAny_List ?_
  refine items_all (h₀ := h₁) (R := fun _ v d => IsI v d) (ds := [173, 847, 6150, 6155, 6156, 6157, 8203, 8204, 8205, 8288, 65279]) ?_ ?_ ?_ ?_
  · exact fun _ _ _ _ r _ => r
  · exact .cons (ev_int (by decide)) (.cons (ev_int (by decide)) (.cons (ev_int (by decide)) (.cons (ev_int (by decide)) (.cons (ev_int (by decide)) (.cons (ev_int (by decide)) (.cons (ev_int (by decide)) (.cons (ev_int (by decide)) (.cons (ev_int (by decide)) (.cons (ev_int (by decide)) (.cons (ev_int (by decide)) .nil))))))))))
  · exact fun _ _ e => e
  intro vs h₂ tk₂ k₂ hvs
  have hvl := hvs.length
  refine ⟨by rw [sizeLine_eq, hvl]; simp, ?_⟩
  have k₃ : Ext h₂ (h₂.push { cls := .type "list", data := .seq vs.toArray }) := fun b o e => Heap.get?_push_of_some _ e
  have p₃ : (h₂.push { cls := .type "list", data := .seq vs.toArray }).PlainList h₂.objs.size vs.toArray := ⟨_, Heap.get?_push_size _ rfl⟩
  generalize h₂.push { cls := .type "list", data := .seq vs.toArray } = h₃ at k₃ p₃ ⊢
  dsimp only
  generalize h₂.objs.size = d1 at p₃ ⊢
  have k₁₃ : Ext h₁ h₃ := Ext.trans k₂ k₃
  have T₃ := T₁.keeps k₁₃
  refine lcomp (xs := List.range 16) (V := fun k v => ∃ t, v = .int (k : Nat) t) (p := fun _ => true) (f := fun k => 65024 + k) (R := RI) (fun _ _ _ _ _ h _ => h) (cl := []) (by kernel_rfl) (by decide +kernel) (by kernel_rfl) (by decide +kernel) (by decide +kernel) (by simp) ?_
  refine Call_ (bn T₃ (by decide) boot_range ?_ rfl rfl (by kernel_rfl) (by kernel_rfl))
  refine PyProof.Rows.callWith_type1 (args_cons ?_)
  refine wpAny_Constant_int ?_
  refine args_nil ?_
  refine rng (n := 16) fun rr h₄ tk₄ t5 t6 t7 k₄ hrr => ?_
  refine ⟨src_range r'.hh (by omega) hrr, ?_, ?_, ?_⟩
  · rintro C k v' s₃ m₃ E' Q' hk ⟨u, rfl⟩ hn hx k₄ hq
    exact wpAny_tests_nil (hq s₃.heap s₃.toks (fun _ _ e => e))
  · rintro C k v' s₃ m₃ E' Q' hk _ ⟨u, rfl⟩ hn hx k₄ hq
    refine wpAny_BinOp ?_
    refine wpAny_Constant_int ?_
    refine ldc hn hx ?_ (by kernel_rfl) (by kernel_rfl)
    refine addn (a := 65024) fun t9 tk9 => ?_
    exact hq _ _ _ [] (fun _ _ e => e) ⟨_, rfl⟩ (by simp)
  intro d2 h₅ tk₅ ys k₅ hd2 hp2 hall
  have hys : All2 IsI ys.toList ((List.range 16).map (65024 + ·)) := by
    have e : (List.range 16).filter (fun _ => true) = List.range 16 := by simp
    rw [e] at hall
    exact hall.imp fun y b ⟨_, r, _⟩ => r
  have hyl := hys.length
  replace p₃ := ext_plain k₅ (ext_plain k₄ p₃)
  refine add_ll p₃.isList hp2.isList (by rw [sizeLine_eq]; simp at hyl hvl ⊢; omega) ?_
  have k₆ : Ext h₅ (h₅.push { cls := .type "list", data := .seq (vs.toArray ++ ys) }) := fun b o e => Heap.get?_push_of_some _ e
  have p₆ : (h₅.push { cls := .type "list", data := .seq (vs.toArray ++ ys) }).PlainList h₅.objs.size (vs ++ ys.toList).toArray := ⟨_, by rw [show (vs ++ ys.toList).toArray = vs.toArray ++ ys by simp]; exact Heap.get?_push_size _ rfl⟩
  have hg : All2 IsI (vs ++ ys.toList) goneL := All2.append hvs hys
  generalize h₅.push { cls := .type "list", data := .seq (vs.toArray ++ ys) } = h₆ at k₆ p₆ ⊢
  dsimp only
  generalize h₅.objs.size = d3 at p₆ ⊢
  generalize vs ++ ys.toList = gs at p₆ hg
  have k₁₆ : Ext h₁ h₆ := Ext.trans k₁₃ (Ext.trans k₄ (Ext.trans k₅ k₆))
  refine stx (s := { s with heap := h₆, toks := _ }) (fr_ext (s := { s with heap := h₁ }) F k₁₆) (fun h₇ tk₇ m₇ F₇ e₇ o₇ q₇ => ?_) (by kernel_rfl) (by kernel_rfl)
  replace p₆ := q₇.plain p₆
  have hx₇ := (o₇ "total" (by decide)).trans hx
  have T₇ := T.keeps F₇.keep
  refine wpAny_execs_cons ?_
  refine wpAny_Assign_Name ?_ ?_
  case refine_2 => exact sw_sub
  refine Subscript_ ?_
  refine call0 T₇ mw (fw.keeps F₇.keep) rfl (by kernel_rfl) (by kernel_rfl) (c_whites T₇ (fw.keeps F₇.keep) r' fun tw h₈ tk₈ k₈ => ?_)
  have F₈ := fr_ext (s := { s with heap := h₇ }) F₇ k₈
  refine wpAny_BinOp ?_
  refine ld F₈ hx₇ ?_ (by kernel_rfl) (by kernel_rfl)
  refine wpAny_Constant_int ?_
  refine PyProof.Rows.mod_int (by decide) ?_
  obtain ⟨kw, hkw, hkl⟩ := fm (t := x) (n := 28) (by decide)
  have hkw' : x.fmod 28 = kw := hkw
  rw [hkw']
  have hwl : kw < ws.length := by rw [show ws.length = 28 by decide +kernel]; exact hkl
  refine str_at (l := ws) hwl (by rw [show ws.length = 28 by decide +kernel]; decide) (fun t9 tk9 => ?_) ⟨_, rfl⟩
  have ewt : ws[kw] = whiteAt x := by unfold whiteAt; rw [hkw']; simp [List.getD_eq_getElem?_getD, hwl]
  rw [ewt]
  refine stx (s := { s with heap := h₈, toks := _ }) F₈ (fun h₉ tk₉ m₉ F₉ e₉ o₉ q₉ => ?_) (by kernel_rfl) (by kernel_rfl)
  replace p₆ := q₉.plain (ext_plain k₈ p₆)
  have hx₉ := (o₉ "total" (by decide)).trans hx₇
  have hg₉ := (o₉ "gone" (by decide)).trans e₇
  have T₉ := T.keeps F₉.keep
  refine wpAny_execs_cons ?_
  refine wpAny_Assign_Name ?_ ?_
  case refine_2 => exact sw_call
  refine Call_ (bn T₉ (by decide) boot_chr ?_ rfl rfl (by kernel_rfl) (by kernel_rfl))
  refine PyProof.Rows.callWith_builtin1 (args_cons ?_)
  refine wpAny_BinOp ?_
  refine wpAny_Constant_int ?_
  refine wpAny_BinOp ?_
  refine ld F₉ hx₉ ?_ (by kernel_rfl) (by kernel_rfl)
  refine wpAny_Constant_int ?_
  refine PyProof.Rows.mod_int (by decide) ?_
  obtain ⟨ko, hko, hkol⟩ := fm (t := x) (n := 20902) (by decide)
  have hko' : x.fmod 20902 = ko := hko
  rw [hko']
  refine addn (a := 19968) fun tA tkA => ?_
  refine args_nil ?_
  refine chr_of_range (by omega) (by omega) ?_
  have eot : ((19968 + ko : Nat) : Int).toNat = otherAt x := by unfold otherAt; rw [hko']; omega
  rw [eot]
  refine stx (s := { s with heap := h₉, toks := _ }) F₉ (fun hB tkB mB FB eB oB qB => ?_) (by kernel_rfl) (by kernel_rfl)
  replace p₆ := qB.plain p₆
  have hxB := (oB "total" (by decide)).trans hx₉
  have hgB := (oB "gone" (by decide)).trans hg₉
  have hwB := (oB "white" (by decide)).trans e₉
  have TB := T.keeps FB.keep
  refine wpAny_execs_cons ?_
  refine wpAny_Return_some ?_
  refine wpAny_List ?_
  have txw : ∀ pos, Tx w A' (envOf "_law_strands" (fnScope (pw.main.body[9]?.getD (Stmt.Pass default))) L a cd) hB (.Name "white" pos) [whiteAt x] := fun pos =>
    ⟨fun _ => rfl, fun s' Q' E' k hQ => ld (fr_ext (s := { s with heap := hB }) FB k) hwB (hQ _ _ _ (fun _ _ e => e) ⟨_, rfl⟩) (by kernel_rfl) (by kernel_rfl)⟩
  have txo : ∀ pos, Tx w A' (envOf "_law_strands" (fnScope (pw.main.body[9]?.getD (Stmt.Pass default))) L a cd) hB (.Name "other" pos) [otherAt x] := fun pos =>
    ⟨fun _ => rfl, fun s' Q' E' k hQ => ld (fr_ext (s := { s with heap := hB }) FB k) eB (hQ _ _ _ (fun _ _ e => e) ⟨_, rfl⟩) (by kernel_rfl) (by kernel_rfl)⟩
  have txg : ∀ p1 p2 p3 p4 p5 p6 p7, Tx w A' (envOf "_law_strands" (fnScope (pw.main.body[9]?.getD (Stmt.Pass default))) L a cd) hB
      (.Call (.Name "chr" p1) [.Subscript (.Name "gone" p2) (.BinOp (.Name "total" p3) .Mod (.Constant (.int 27) 0 p4) p5) p6] [] p7) [goneAt x] := fun p1 p2 p3 p4 p5 p6 p7 => by
    refine ⟨fun _ => rfl, fun s' Q' E' k hQ => ?_⟩
    have F' := fr_ext (s := { s with heap := hB }) FB k
    have T' := TB.keeps k
    refine Call_ (bn T' (by decide) boot_chr ?_ rfl rfl (by kernel_rfl) (by kernel_rfl))
    refine PyProof.Rows.callWith_builtin1 (args_cons ?_)
    refine Subscript_ ?_
    refine ld F' hgB ?_ (by kernel_rfl) (by kernel_rfl)
    refine wpAny_BinOp ?_
    refine ld F' hxB ?_ (by kernel_rfl) (by kernel_rfl)
    refine wpAny_Constant_int ?_
    refine PyProof.Rows.mod_int (by decide) ?_
    obtain ⟨kg, hkg, hkgl⟩ := fm (t := x) (n := 27) (by decide)
    have hkg' : x.fmod 27 = kg := hkg
    rw [hkg']
    have hgl : goneL.length = 27 := by decide +kernel
    have hgx : goneL[kg]? = some (goneAt x) := by
      unfold goneAt
      rw [hkg']
      have : kg < goneL.length := by omega
      simp [List.getD_eq_getElem?_getD, this]
    obtain ⟨vg, hvg, tg, rfl⟩ := (All2.getR hg hgx)
    refine lst_at (ext_plain k p₆).isList hvg (by omega) ?_ ⟨_, rfl⟩
    refine args_nil ?_
    have hgm : goneAt x ≤ 70000 := by
      have hall : (goneL.all fun c => decide (c ≤ 70000)) = true := by decide +kernel
      have hm : goneAt x ∈ goneL := List.mem_of_getElem? hgx
      exact of_decide_eq_true (List.all_eq_true.mp hall _ hm)
    refine chr_of_range (by omega) (by omega) ?_
    exact hQ _ _ _ (fun _ _ e => e) ⟨_, rfl⟩
  refine items_all (h₀ := hB) (R := Pr) (ds := strands x) ?_ ?_ ?_ ?_
  · exact fun _ _ _ _ r k => r.ext k
  · refine .cons (ev_pair (tx_const (by decide +kernel)) (tx_const (by decide +kernel))) ?_
    refine .cons (ev_pair (tx_const (by decide +kernel)) (tx_const (by decide +kernel))) ?_
    refine .cons (ev_pair (tx_const (by decide +kernel)) (tx_const (by decide +kernel))) ?_
    refine .cons (ev_pair (tx_const (by decide +kernel)) (tx_const (by decide +kernel))) ?_
    refine .cons (ev_pair (txg _ _ _ _ _ _ _) (tx_const (by decide +kernel))) ?_
    refine .cons (ev_pair (tx_const (by decide +kernel)) (tx_const (by decide +kernel))) ?_
    refine .cons (ev_pair (tx_const (by decide +kernel)) (tx_const (by decide +kernel))) ?_
    refine .cons (ev_pair (txw _) (txw _)) ?_
    refine .cons (ev_pair (tx_const (by decide +kernel)) (tx_const (by decide +kernel))) ?_
    refine .cons (ev_pair (tx_const (by decide +kernel)) (tx_const (by decide +kernel))) ?_
    refine .cons (ev_pair (txo _) (txo _)) ?_
    refine .cons (ev_pair (tx_const (by decide +kernel)) (tx_const (by decide +kernel))) ?_
    refine .cons (ev_pair (tx_const (by decide +kernel)) (tx_const (by decide +kernel))) ?_
    exact .nil
  · exact fun _ _ e => e
  intro vs' hC tkC kC hvs'
  have hvl' := hvs'.length
  refine ⟨by rw [sizeLine_eq, hvl']; show 13 ≤ 16777216; decide, ?_⟩
  have kD : Ext hC (hC.push { cls := .type "list", data := .seq vs'.toArray }) := fun b o e => Heap.get?_push_of_some _ e
  refine hQ _ vs'.toArray _ _ (Ext.trans FB.keep (Ext.trans kC kD)) (new_of (Ext.trans FB.keep kC) (get_new hC)) ⟨_, Heap.get?_push_size _ rfl⟩ ?_
  exact hvs'.imp fun v d r => r.ext kD
end
end Mine
end

section
open PySem PySem.W PyProof.Rows PySem.Builtin PySem.Builtin.Str
namespace Mine

abbrev Sd : Type := List Nat × List Nat
def strandAt (t : Int) (f : Nat) : Sd := (strands t).getD (f - 3) ([], [])
def putR (t : Int) (p : List (List Sd) × List Sd) (f : Nat) : List (List Sd) × List Sd := if f < 3 then (p.1 ++ [p.2], []) else (p.1, p.2 ++ [strandAt t f])
theorem putR_pos {t : Int} {p : List (List Sd) × List Sd} {f : Nat} (h : f < 3) : putR t p f = (p.1 ++ [p.2], []) := if_pos h
theorem putR_neg {t : Int} {p : List (List Sd) × List Sd} {f : Nat} (h : ¬ f < 3) : putR t p f = (p.1, p.2 ++ [strandAt t f]) := if_neg h
def figs0 : List Nat := [3, 4, 0, 3, 1, 9, 0, 6, 2]
def figsAll (ns : List Int) : List Nat := figs0 ++ (ns.take 8).flatMap figs
def rowsQ (ns : List Int) : List (List Sd) × List Sd := (figsAll ns ++ [8, 3, 0, 7]).foldl (putR ns.sum) ([], [])
def rowsP (ns : List Int) : List (List Sd) := (rowsQ ns).1 ++ [(rowsQ ns).2]

/-- a row: a list of strands -/
def RowAt (h : Heap) (v : Value) (ds : List Sd) : Prop := ∃ p us, v = .ref p ∧ h.PlainList p us ∧ All2 (Pr h) us.toList ds
/-- the same, the strands of an older heap -/
def RowOn (h₀ h : Heap) (p : Addr) (ds : List Sd) : Prop := ∃ us, h.PlainList p us ∧ us.size = ds.length ∧ All2 (Pr h₀) us.toList ds

theorem Kp.kq {h h' : Heap} (k : Kp h h') : Kq h h' := fun b o e ⟨vs, n, hd⟩ => k b o e (fun es ep q => by rw [hd] at q; cases q)
theorem Kq.refl (h : Heap) : Kq h h := fun _ _ e _ => e
theorem IntsAre.all2 {vs : List Value} {ns : List Int} (h : IntsAre vs ns) : All2 (fun v a => ∃ t, v = Value.int a t) vs ns := by
  induction h with
  | nil => exact .nil
  | cons n t _ ih => exact .cons ⟨t, rfl⟩ ih
theorem Kp.lst {h h' : Heap} (k : Kp h h') {l : Addr} {vs : Array Value} (hl : h.IsList l vs) : ∀ o, h.get? l = some o → h'.get? l = some o := fun o e => by
  obtain ⟨o', ho, _, n, hd⟩ := hl
  rw [ho] at e
  cases e
  exact k _ _ ho (fun es ep q => by rw [hd] at q; cases q)

theorem figs_lt (x : Int) : ∀ f ∈ figs x, f < 16 := by
  intro f hf
  unfold figs at hf
  obtain ⟨k, _, rfl⟩ := List.mem_map.mp hf
  exact Nat.mod_lt _ (by decide)
theorem figs_len (x : Int) : (figs x).length ≤ 4 := by
  unfold figs
  simp
  omega
theorem flat_len (xs : List Int) : (xs.flatMap figs).length ≤ 4 * xs.length := by
  induction xs with
  | nil => simp
  | cons x xs ih => have := figs_len x; simp only [List.flatMap_cons, List.length_append, List.length_cons]; omega
theorem all_lt (ns : List Int) : ∀ f ∈ figsAll ns ++ [8, 3, 0, 7], f < 16 := by
  intro f hf
  unfold figsAll figs0 at hf
  rcases List.mem_append.mp hf with h | h
  · rcases List.mem_append.mp h with h | h
    · exact (by decide : ∀ f ∈ [3, 4, 0, 3, 1, 9, 0, 6, 2], f < 16) f h
    · obtain ⟨x, _, h⟩ := List.mem_flatMap.mp h
      exact figs_lt x f h
  · exact (by decide : ∀ f ∈ [8, 3, 0, 7], f < 16) f h
theorem all_len (ns : List Int) : (figsAll ns ++ [8, 3, 0, 7]).length ≤ 45 := by
  have h1 := flat_len (ns.take 8)
  have h2 : (ns.take 8).length ≤ 8 := by rw [List.length_take]; omega
  unfold figsAll figs0
  simp only [List.length_append, List.length_cons, List.length_nil]
  omega

section
variable {w : World} {mg : Str → Option Value} {A : Around} {E : Value → Shared → Prop} {s : Shared}

/-- a list display of numbers -/
theorem ev_ints {env : Env} {pos : Pos} : ∀ {es : List Expr} {ds : List Nat}, (All2 (fun e d => Plain env e ∧ Ev w A env s.heap e (fun _ v d => IsI v d) d) es ds) → ds.length ≤ 1000 → ∀ {Q : Value → Shared → Prop},
    (∀ D vs h' tk, Ext s.heap h' → s.heap.get? D = none → h'.PlainList D vs → All2 IsI vs.toList ds → Q (.ref D) { s with heap := h', toks := tk }) → wpAny (model pw w) A (eval (.List es pos) env) Q E s := by
  intro es ds ha hd Q hQ
  refine wpAny_List (items_all (R := fun _ v d => IsI v d) (fun _ _ _ _ r _ => r) ha (fun _ _ e => e) fun vs h' tk k r => ?_)
  refine ⟨by have := r.length; rw [sizeLine_eq]; omega, ?_⟩
  refine hQ _ vs.toArray _ _ (fun b o e => Heap.get?_push_of_some _ (k b o e)) (new_of k (get_new h')) ⟨_, Heap.get?_push_size _ rfl⟩ r

/-- no list stands there -/
def NoList (h : Heap) (z : Addr) : Prop := ∀ o vs n, h.get? z = some o → o.data ≠ .seq vs n
theorem NoList.of {h : Heap} {z : Addr} (e : h.get? z = none) : NoList h z := fun o _ _ e' => by rw [e] at e'; cases e'
theorem NoList.kq {h h' : Heap} {z : Addr} (k : Kq h h') (e : h'.get? z = none) : NoList h z := fun o vs n e' hd => by rw [k _ _ e' ⟨vs, n, hd⟩] at e; cases e

def Inv1 (s : Shared) (L : Addr) (h₀ : Heap) (dS : Addr) (_ : Addr) (done rest : List Int) (h : Heap) : Prop :=
  ∃ m d vs, Fr s.heap L h m ∧ m "strands" = some (.ref dS) ∧ m "figures" = some (.ref d) ∧ Kq h₀ h ∧ h.PlainList d vs ∧ All2 IsI vs.toList (figs0 ++ done.flatMap figs) ∧ done.length + rest.length ≤ 8

def Inv2 (s : Shared) (L : Addr) (h₀ : Heap) (dS : Addr) (t : Int) (_ : Addr) (done rest : List Nat) (h : Heap) : Prop :=
  ∃ m D as aL, Fr s.heap L h m ∧ m "strands" = some (.ref dS) ∧ m "rows" = some (.ref D) ∧ Kq h₀ h ∧ h.PlainList D ((as ++ [aL]).map Value.ref).toArray ∧
    All2 (RowOn h₀ h) as (done.foldl (putR t) ([], [])).1 ∧ RowOn h₀ h aL (done.foldl (putR t) ([], [])).2 ∧ (D :: aL :: as).Nodup ∧ (∀ z ∈ D :: aL :: as, s.heap.get? z = none ∧ NoList h₀ z) ∧
    as.length ≤ done.length ∧ (done.foldl (putR t) ([], [])).2.length ≤ done.length ∧ done.length + rest.length ≤ 45

theorem RowOn.kq {h₀ h h' : Heap} {p : Addr} {ds : List Sd} (x : RowOn h₀ h p ds) (k : Kq h h') : RowOn h₀ h' p ds := let ⟨us, a, b, c⟩ := x; ⟨us, k.plain a, b, c⟩
theorem RowOn.but {h₀ h h' : Heap} {p z : Addr} {ds : List Sd} (x : RowOn h₀ h p ds) (k : Heap.SameBut z h h') (hp : p ≠ z) : RowOn h₀ h' p ds := let ⟨us, a, b, c⟩ := x; ⟨us, a.at fun o e => k.extBut _ o hp e, b, c⟩
theorem Kq.but {h₀ h h' : Heap} {z : Addr} (k : Kq h₀ h) (hz : NoList h₀ z) (sb : Heap.SameBut z h h') : Kq h₀ h' := fun b o e n => sb.extBut b o (fun q => by subst q; obtain ⟨vs, n, hd⟩ := n; exact hz _ _ _ e hd) (k b o e n)
theorem all2_imp_mem {γ δ : Type} {R R' : γ → δ → Prop} {as : List γ} {bs : List δ} (h : All2 R as bs) (f : ∀ a b, a ∈ as → R a b → R' a b) : All2 R' as bs := by
  induction h with
  | nil => exact .nil
  | cons r _ ih => exact .cons (f _ _ List.mem_cons_self r) (ih fun a b ha r => f a b (List.mem_cons_of_mem _ ha) r)


theorem sum_ext {l : Addr} {vs : List Value} {ns : List Int} {Q : Value → Shared → Prop} (hh : A.handled = none) (hl : s.heap.IsList l vs.toArray) (hi : IntsAre vs ns)
    (h : ∀ h' tk t, Ext s.heap h' → Q (.int ns.sum t) { s with heap := h', toks := tk }) : wpAny (model pw w) A (call (.builtin "sum") [.ref l]) Q E s := by
  obtain ⟨xs, e⟩ := hi.allInts.items
  have hn := hi.numsOf
  have e1 : vs = (intItems xs).toList := by rw [← e]
  rw [e1, nums_intItems] at hn
  refine sum_intListG hh (e ▸ hl) fun h' tk t' hk => ?_
  rw [preSum_eq, List.take_of_length_le (by simp), hn]
  exact h h' tk t' hk

/-- a list of numbers is no list of refs -/
theorem ne_ints {h : Heap} {l z : Addr} {vs : List Value} {fs : List Nat} {us : Array Value} (hl : h.IsList l vs.toArray) (hv : All2 IsI vs fs) (hf : fs ≠ []) (hz : h.PlainList z us) (hu : ∀ v ∈ us.toList, ∃ p, v = Value.ref p) : z ≠ l := by
  rintro rfl
  obtain ⟨o, ho, _, n, hd⟩ := hl
  obtain ⟨n', e⟩ := hz
  rw [ho] at e
  cases e
  cases hd
  cases hv with
  | nil => exact hf rfl
  | cons r _ =>
    obtain ⟨t, rfl⟩ := r
    obtain ⟨p, e⟩ := hu (Value.int _ t) (List.mem_cons_self)
    cases e
theorem pr_refs {h : Heap} {us : List Value} {ds : List Sd} (x : All2 (Pr h) us ds) : ∀ v ∈ us, ∃ p, v = Value.ref p := by
  induction x with
  | nil => intro v hv; simp at hv
  | cons r _ ih =>
    intro v hv
    rcases List.mem_cons.mp hv with rfl | hv
    · obtain ⟨p, _, _, e, _⟩ := r; exact ⟨p, e⟩
    · exact ih v hv

set_option maxHeartbeats 4000000 in
set_option maxRecDepth 100000 in
theorem c_rows {a l : Addr} {vs : List Value} {ns : List Int} {Q : Value → Shared → Prop} (T : TF w mg s.heap) (hf : FnI s.heap a 11 "_law_rows") (r : Rm 3 A) (hl : s.heap.IsList l vs.toArray) (hi : IntsAre vs ns) (hn : ns.length ≤ 63)
    (hQ : ∀ D us h' tk, Ext s.heap h' → h'.PlainList D us → All2 (RowAt h') us.toList (rowsP ns) → Q (.ref D) { s with heap := h', toks := tk }) : wpAny (model pw w) A (call (.ref a) [.ref l]) Q E s := by
  refine entr (binds := [("script", .ref l)]) T hf r (fun _ _ _ => by unfold st; kernel_rfl) (by kernel_rfl) (fun L cd h₁ tk m₁ A' r' F hm T₁ => ?_) (by kernel_rfl) (by kernel_rfl) (by kernel_rfl) (by kernel_rfl)
  have hsc := hm "script" (.ref l) (by kernel_rfl)
  obtain ⟨aw, mw, fw⟩ := T.fn (9, "_law_strands") (by decide)
  obtain ⟨af, mf, ff⟩ := T.fn (10, "_law_figures") (by decide)
  have hv := IntsAre.all2 hi
  have hvl : vs.length = ns.length := hv.length
  unfold st
  refine wpAny_execs_cons ?_
  refine wpAny_Assign_Name ?_ ?_
  case refine_2 => exact sw_call
  refine call1 T₁ mw (fw.keeps F.keep) rfl (by kernel_rfl) (by kernel_rfl) rfl ?_
  refine Call_ (bn T₁ (by decide) boot_sum ?_ rfl rfl (by kernel_rfl) (by kernel_rfl))
  refine PyProof.Rows.callWith_builtin1 (args_cons (ld F hsc (args_nil ?_) (by kernel_rfl) (by kernel_rfl)))
  have hl₁ : h₁.IsList l vs.toArray := (Kq.of F.keep).list hl
  refine sum_ext r'.hh hl₁ hi fun h₂ tk₂ t₂ k₂ => ⟨Kp.of k₂, ?_⟩
  have T₂ := T₁.keeps k₂
  refine c_strands T₂ ((fw.keeps F.keep).keeps k₂) r' fun dS svs h₃ tk₃ k₃ nS pS aS => ?_
  refine stx (s := { s with heap := h₃, toks := _ }) (fr_ext (s := { s with heap := h₁ }) F (Ext.trans k₂ k₃)) (fun h₄ tk₄ m₄ F₄ e₄ o₄ q₄ => ?_) (by kernel_rfl) (by kernel_rfl)
  have hsc₄ := (o₄ "script" (by decide)).trans hsc
  replace pS := q₄.plain pS
  replace aS : All2 (Pr h₄) svs.toList (strands ns.sum) := aS.imp fun _ _ x => x.kq q₄.kq
  refine wpAny_execs_cons ?_
  refine wpAny_Assign_Name ?_ ?_
  case refine_2 => exact sw_list
  refine ev_ints (s := { s with heap := h₄, toks := _ }) (ds := figs0) ?_ (by decide) fun dF fvs h₅ tk₅ k₅ nF pF aF => ?_
  · exact .cons (ev_int (by decide)) (.cons (ev_int (by decide)) (.cons (ev_int (by decide)) (.cons (ev_int (by decide)) (.cons (ev_int (by decide)) (.cons (ev_int (by decide)) (.cons (ev_int (by decide)) (.cons (ev_int (by decide)) (.cons (ev_int (by decide)) .nil))))))))
  refine stx (s := { s with heap := h₅, toks := _ }) (fr_ext (s := { s with heap := h₄ }) F₄ k₅) (fun h₆ tk₆ m₆ F₆ e₆ o₆ q₆ => ?_) (by kernel_rfl) (by kernel_rfl)
  have hsc₆ := (o₆ "script" (by decide)).trans hsc₄
  have hS₆ := (o₆ "strands" (by decide)).trans e₄
  replace pS := q₆.plain (ext_plain k₅ pS)
  replace aS : All2 (Pr h₆) svs.toList (strands ns.sum) := aS.imp fun _ _ x => (x.ext k₅).kq q₆.kq
  replace pF := q₆.plain pF
  refine wpAny_execs_cons ?_
  refine floop (xs := ns.take 8) (V := fun a v => ∃ t, v = .int a t) (Inv1 s L h₆ dS) r'.hh ?_
  refine Subscript_ ?_
  refine ld F₆ hsc₆ ?_ (by kernel_rfl) (by kernel_rfl)
  refine wpAny_Slice (wpAny_evalPart_none (wpAny_evalPart_some (wpAny_Constant_int (wpAny_evalPart_none ?_))))
  refine lst_slice (s := { s with heap := h₆, toks := _ }) ((Kq.of F₆.keep).list hl) .none (.int 8 _) (by omega) (fun D7 h₇ k₇ n₇ p₇ => ?_) ⟨_, rfl⟩
  have e7 : slicePick vs.toArray none (some 8) none = (vs.take 8).toArray := slicePick_upto' _ 8
  rw [e7] at p₇
  refine ⟨D7, vs.take 8, rfl, p₇.isList, hv.take 8, ?_, ?_, ?_, ?_⟩
  · intro I h₈ k₈ nI hI
    exact ⟨m₆, dF, fvs, fr_ext (s := { s with heap := h₆ }) F₆ (Ext.trans k₇ k₈), hS₆, e₆, Kq.of (Ext.trans k₇ k₈), ext_plain (Ext.trans k₇ k₈) pF, by simpa using aF, by simp; omega⟩
  · rintro I done rest h h' ⟨m, d, us, F', hS, hF, kq, pl, al, hle⟩ hI nI k
    exact ⟨m, d, us, fr_it F' hI (new_of (Ext.trans F₆.keep k₇) nI) k, hS, hF, Kq.trans kq (Kq.it hI k), (Kq.it hI k).plain pl, al, hle⟩
  · rintro I done x rest v h tk E' hxs ⟨tx, rfl⟩ ⟨m, d, us, F', hS, hF, kq, pl, al, hle⟩ hI hD nI
    refine stx (s := { s with heap := h, toks := _ }) F' (fun hA tkA mA FA eA oA qA => ?_) (by kernel_rfl) (by kernel_rfl)
    have hSA := (oA "strands" (by decide)).trans hS
    have hFA := (oA "figures" (by decide)).trans hF
    have TA := T.keeps FA.keep
    refine wpAny_execs_cons ?_
    refine wpAny_Assign_Name ?_ ?_
    case refine_2 => exact sw_bin
    refine wpAny_BinOp ?_
    refine ld FA hFA ?_ (by kernel_rfl) (by kernel_rfl)
    refine call1 TA mf (ff.keeps FA.keep) rfl (by kernel_rfl) (by kernel_rfl) rfl ?_
    refine ld FA eA ⟨Kp.refl _, ?_⟩ (by kernel_rfl) (by kernel_rfl)
    refine c_figures TA (ff.keeps FA.keep) r' fun dG gvs hB tkB kB nG pG aG => ?_
    have plB := ext_plain kB (qA.plain pl)
    have hul := al.length
    have hgl := aG.length
    have hfl := figs_len x
    have hdl := flat_len done
    simp only [Array.length_toList, List.length_append] at hul hgl
    have h0 : figs0.length = 9 := rfl
    refine add_ll plB.isList pG.isList (by rw [sizeLine_eq]; simp only [List.length_cons] at hle; omega) ?_
    have kC : Ext hB (hB.push { cls := .type "list", data := .seq (us ++ gvs) }) := fun b o e => Heap.get?_push_of_some _ e
    have pC : (hB.push { cls := .type "list", data := .seq (us ++ gvs) }).PlainList hB.objs.size (us ++ gvs) := ⟨_, Heap.get?_push_size _ rfl⟩
    generalize hB.push { cls := .type "list", data := .seq (us ++ gvs) } = hC at kC pC ⊢
    dsimp only
    generalize hB.objs.size = dC at pC ⊢
    refine stx (s := { s with heap := hC, toks := _ }) (fr_ext (s := { s with heap := hA }) FA (Ext.trans kB kC)) (fun hE tkE mE FE eE oE qE => ?_) (by kernel_rfl) (by kernel_rfl)
    have kp : Kp h hE := Kp.trans qA (Kp.trans (Kp.of (Ext.trans kB kC)) qE)
    refine wpAny_execs_nil ⟨rfl, hE, _, rfl, ⟨mE, dC, us ++ gvs, FE, (oE "strands" (by decide)).trans hSA, eE, Kq.trans kq kp.kq, qE.plain pC, ?_, by simp only [List.length_append, List.length_cons, List.length_nil] at hle ⊢; omega⟩, ?_⟩
    · rw [Array.toList_append, List.flatMap_append, ← List.append_assoc]
      exact All2.append al (by simpa using aG)
    · rintro b (rfl | rfl)
      · exact hI.kp kp
      · exact kp.lst hD
  rintro I h₈ tk₈ ⟨m₈, dG, gvs, F₈, hS₈, hF₈, kq₈, pG, aG, hle₈⟩
  have T₈ := T.keeps F₈.keep
  replace pS := kq₈.plain pS
  replace aS : All2 (Pr h₈) svs.toList (strands ns.sum) := aS.imp fun _ _ x => x.kq kq₈
  dsimp only
  refine wpAny_execs_cons ?_
  refine wpAny_Assign_Name ?_ ?_
  case refine_2 => exact sw_list
  refine wpAny_List (wpAny_items_cons (wpAny_List (wpAny_items_nil ⟨by rw [sizeLine_eq]; simp, ?_⟩)))
  have k₉ : Ext h₈ (h₈.push { cls := .type "list", data := .seq ([] : List Value).toArray }) := fun b o e => Heap.get?_push_of_some _ e
  have p₉ : (h₈.push { cls := .type "list", data := .seq ([] : List Value).toArray }).PlainList h₈.objs.size #[] := ⟨_, Heap.get?_push_size _ rfl⟩
  have n₉ : h₈.get? h₈.objs.size = none := get_new h₈
  dsimp only
  generalize h₈.push { cls := .type "list", data := .seq ([] : List Value).toArray } = h₉ at k₉ p₉ ⊢
  generalize h₈.objs.size = a0 at p₉ n₉ ⊢
  refine wpAny_items_nil ⟨by rw [sizeLine_eq]; simp, ?_⟩
  have kA : Ext h₉ (h₉.push { cls := .type "list", data := .seq [Value.ref a0].toArray }) := fun b o e => Heap.get?_push_of_some _ e
  have pA : (h₉.push { cls := .type "list", data := .seq [Value.ref a0].toArray }).PlainList h₉.objs.size #[.ref a0] := ⟨_, Heap.get?_push_size _ rfl⟩
  have nA : h₉.get? h₉.objs.size = none := get_new h₉
  dsimp only
  generalize h₉.push { cls := .type "list", data := .seq [Value.ref a0].toArray } = hA at kA pA ⊢
  generalize h₉.objs.size = D0 at pA nA ⊢
  have d0 : D0 ≠ a0 := plain_ne p₉ nA
  have kA8 : Ext h₈ hA := Ext.trans k₉ kA
  refine stx (s := { s with heap := hA, toks := _ }) (fr_ext (s := { s with heap := h₈ }) F₈ kA8) (fun hB tkB mB FB eB oB qB => ?_) (by kernel_rfl) (by kernel_rfl)
  have hSB := (oB "strands" (by decide)).trans hS₈
  have hFB := (oB "figures" (by decide)).trans hF₈
  have kpB : Kp h₈ hB := Kp.trans (Kp.of kA8) qB
  have pGB := kpB.plain pG
  refine wpAny_execs_cons ?_
  have hgl := aG.length
  have hal := all_len ns
  have hfa : figs0 ++ (ns.take 8).flatMap figs = figsAll ns := rfl
  refine floop (xs := figsAll ns ++ [8, 3, 0, 7]) (V := fun a v => ∃ t, v = .int (a : Nat) t) (Inv2 s L h₈ dS ns.sum) r'.hh ?_
  refine wpAny_BinOp ?_
  refine ld FB hFB ?_ (by kernel_rfl) (by kernel_rfl)
  refine ev_ints (s := { s with heap := hB, toks := _ }) (ds := [8, 3, 0, 7]) ?_ (by decide) fun dE evs hC tkC kC nE pE aE => ?_
  · exact .cons (ev_int (by decide)) (.cons (ev_int (by decide)) (.cons (ev_int (by decide)) (.cons (ev_int (by decide)) .nil)))
  have hel := aE.length
  simp only [Array.length_toList] at hgl hel
  refine add_ll (ext_plain kC pGB).isList pE.isList (by rw [sizeLine_eq, hel, hgl, hfa]; simp only [List.length_append, List.length_cons, List.length_nil] at hal ⊢; omega) ?_
  have kD : Ext hC (hC.push { cls := .type "list", data := .seq (gvs ++ evs) }) := fun b o e => Heap.get?_push_of_some _ e
  have pD : (hC.push { cls := .type "list", data := .seq (gvs ++ evs) }).PlainList hC.objs.size (gvs.toList ++ evs.toList).toArray := ⟨_, by rw [show (gvs.toList ++ evs.toList).toArray = gvs ++ evs by simp]; exact Heap.get?_push_size _ rfl⟩
  dsimp only
  generalize hC.push { cls := .type "list", data := .seq (gvs ++ evs) } = hD at kD pD ⊢
  generalize hC.objs.size = dl at pD ⊢
  have av : All2 IsI (gvs.toList ++ evs.toList) (figsAll ns ++ [8, 3, 0, 7]) := All2.append aG aE
  generalize gvs.toList ++ evs.toList = lv at pD av
  have kBD : Ext hB hD := Ext.trans kC kD
  refine ⟨dl, lv, rfl, pD.isList, av, ?_, ?_, ?_, ?_⟩
  · intro I hE kE nI hI
    have k' : Ext hB hE := Ext.trans kBD kE
    refine ⟨mB, D0, [], a0, fr_ext (s := { s with heap := hB }) FB k', hSB, eB, (Kp.trans kpB (Kp.of k')).kq, ext_plain k' (qB.plain pA), .nil, ⟨#[], ext_plain k' (qB.plain (ext_plain kA p₉)), rfl, .nil⟩, by simpa using d0, ?_, by simp, by simp, by simpa using hal⟩
    intro z hz
    simp only [List.mem_cons, List.not_mem_nil, or_false] at hz
    rcases hz with rfl | rfl
    · exact ⟨new_of F₈.keep (new_of k₉ nA), .of (new_of k₉ nA)⟩
    · exact ⟨new_of F₈.keep n₉, .of n₉⟩
  · rintro I done rest h h' ⟨m, D, as, aL, F', hS, hR, kq, pl, al, aLr, nd, nw, b1, b2, b3⟩ hI nI k
    have kI := Kq.it hI k
    exact ⟨m, D, as, aL, fr_it F' hI (new_of (Ext.trans FB.keep kBD) nI) k, hS, hR, Kq.trans kq kI, kI.plain pl, al.imp fun _ _ x => x.kq kI, aLr.kq kI, nd, nw, b1, b2, b3⟩
  · rintro I done f rest v h tk E' hxs ⟨tx, rfl⟩ ⟨m, D, as, aL, F', hS, hR, kq, pl, al, aLr, nd, nw, b1, b2, b3⟩ hI hlD nI
    refine stx (s := { s with heap := h, toks := _ }) F' (fun hE tkE mE FE eE oE qE => ?_) (by kernel_rfl) (by kernel_rfl)
    have hSE := (oE "strands" (by decide)).trans hS
    have hRE := (oE "rows" (by decide)).trans hR
    have TE := T.keeps FE.keep
    refine wpAny_execs_cons ?_
    refine wpAny_If (wpAny_isTrue_Compare1 ?_)
    refine ld FE eE ?_ (by kernel_rfl) (by kernel_rfl)
    refine wpAny_Constant_int (wpAny_lt_int (wpAny_truthy_bool ?_))
    obtain ⟨hgD, hD0⟩ := nw D (by simp)
    obtain ⟨hgL, hL0⟩ := nw aL (by simp)
    have plE := qE.plain pl
    have hf16 : f < 16 := all_lt ns f (by rw [hxs]; simp)
    have hlE : hE.IsList dl lv.toArray := qE.kq.list hlD
    have hne : figsAll ns ++ [8, 3, 0, 7] ≠ [] := by simp
    have DL : D ≠ aL := by intro q; subst q; simp at nd
    have Das : D ∉ as := fun q => by simp [q] at nd
    have Las : aL ∉ as := fun q => by simp [q] at nd
    have ndas : as.Nodup := by simp at nd; exact nd.2.2
    have hfin : ∀ hG : Heap, (∀ b o, b ≠ D → b ≠ aL → hE.get? b = some o → hG.get? b = some o) → ∀ b, b = I ∨ b = dl → ∀ o, h.get? b = some o → hG.get? b = some o := by
      intro hG k b hb o e
      have e' : hE.get? b = some o := by
        rcases hb with rfl | rfl
        · exact hI.kp qE o e
        · exact qE.lst hlD o e
      refine k b o ?_ ?_ e'
      · rcases hb with rfl | rfl
        · rintro rfl
          obtain ⟨o1, vs1, ho1, hd1⟩ := hI
          obtain ⟨n1, e1⟩ := pl
          rw [ho1] at e1
          cases e1
          cases hd1
        · exact Ne.symm (ne_ints hlE av hne plE (by intro v hv; simp only [List.mem_map] at hv; obtain ⟨p, _, rfl⟩ := hv; exact ⟨p, rfl⟩))
      · obtain ⟨us, q1, _, q3⟩ := aLr
        rcases hb with rfl | rfl
        · rintro rfl
          obtain ⟨o1, vs1, ho1, hd1⟩ := hI
          obtain ⟨n1, e1⟩ := q1
          rw [ho1] at e1
          cases e1
          cases hd1
        · exact Ne.symm (ne_ints hlE av hne (qE.plain q1) (pr_refs q3))
    have hfold : (done ++ [f]).foldl (putR ns.sum) ([], []) = putR ns.sum (done.foldl (putR ns.sum) ([], [])) f := by rw [List.foldl_append]; rfl
    have kqE : Kq h₈ hE := Kq.trans kq qE.kq
    by_cases hlt : f < 3
    · refine PySem.W.ite_pos (by simp; omega) ?_
      refine wpAny_execs_cons ?_
      refine app rfl rfl rfl rfl rfl ?_
      refine ld FE hRE ⟨D, _, rfl, plE, ?_⟩ (by kernel_rfl) (by kernel_rfl)
      refine wpAny_List (wpAny_items_nil ⟨by rw [sizeLine_eq]; simp, ?_⟩)
      have kF : Ext hE (hE.push { cls := .type "list", data := .seq ([] : List Value).toArray }) := fun b o e => Heap.get?_push_of_some _ e
      have pF' : (hE.push { cls := .type "list", data := .seq ([] : List Value).toArray }).PlainList hE.objs.size #[] := ⟨_, Heap.get?_push_size _ rfl⟩
      have nF' : hE.get? hE.objs.size = none := get_new hE
      dsimp only
      generalize hE.push { cls := .type "list", data := .seq ([] : List Value).toArray } = hF at kF pF' ⊢
      generalize hE.objs.size = aN at pF' nF' ⊢
      have ND : aN ≠ D := plain_ne plE nF'
      have NL : aN ≠ aL := by obtain ⟨us, q1, _, _⟩ := aLr; exact plain_ne (qE.plain q1) nF'
      have Nas : aN ∉ as := by
        intro q
        obtain ⟨i, hi', e⟩ := List.mem_iff_getElem.mp q
        obtain ⟨b, _, us, q1, _⟩ := al.get (i := i) (a := aN) (by rw [List.getElem?_eq_getElem hi', e])
        exact plain_ne (qE.plain q1) nF' rfl
      have N0 : NoList h₈ aN := NoList.kq kqE nF'
      refine ⟨_, ext_plain kF plE, by simp; omega, fun hG pG' kG => ?_⟩
      have FG := fr_same (fr_ext (s := { s with heap := hE }) FE kF) (ext_plain kF plE) hgD kG
      refine wpAny_execs_nil ?_
      refine wpAny_execs_nil ?_
      refine ⟨rfl, hG, _, rfl, ⟨mE, D, as ++ [aL], aN, FG, hSE, hRE, Kq.but (Kq.trans kqE (Kq.of kF)) hD0 kG, ?_, ?_, ?_, ?_, ?_, ?_, ?_, ?_⟩, hfin hG fun b o bD _ e => kG.extBut b o bD (kF b o e)⟩
      · simpa using pG'
      · rw [hfold, putR_pos hlt]
        refine All2.append (all2_imp_mem al fun p ds hp x => (x.kq (Kq.trans qE.kq (Kq.of kF))).but kG (fun q => Das (q ▸ hp))) (.cons ((aLr.kq (Kq.trans qE.kq (Kq.of kF))).but kG (Ne.symm DL)) .nil)
      · rw [hfold, putR_pos hlt]
        exact ⟨#[], pF'.at fun o e => kG.extBut _ o ND e, rfl, .nil⟩
      · simp only [List.nodup_cons, List.mem_cons, List.mem_append, List.not_mem_nil, or_false, not_or, List.nodup_append] at nd ⊢
        refine ⟨⟨Ne.symm ND, Das, DL⟩, ⟨Nas, NL⟩, ndas, ?_⟩
        simp
        intro q hq e
        exact Las (e ▸ hq)
      · intro z hz
        simp only [List.mem_cons, List.mem_append, List.not_mem_nil, or_false] at hz
        rcases hz with rfl | rfl | h1 | rfl
        · exact ⟨hgD, hD0⟩
        · exact ⟨new_of FE.keep nF', N0⟩
        · exact nw z (by simp [h1])
        · exact ⟨hgL, hL0⟩
      · simp; omega
      · rw [hfold, putR_pos hlt]; simp
      · simp at b3 ⊢; omega
    · refine PySem.W.ite_neg (by simp; omega) ?_
      obtain ⟨us, q1, q2, q3⟩ := aLr
      have q1E := qE.plain q1
      have hsl : f - 3 < (strands ns.sum).length := by show f - 3 < 13; omega
      obtain ⟨sv, hsv, spr⟩ := aS.getR (i := f - 3) (b := strandAt ns.sum f) (by unfold strandAt; rw [List.getD_eq_getElem?_getD, List.getElem?_eq_getElem hsl]; rfl)
      refine wpAny_execs_cons ?_
      refine app rfl rfl rfl rfl rfl ?_
      refine Subscript_ ?_
      refine ld FE hRE ?_ (by kernel_rfl) (by kernel_rfl)
      refine wpAny_UnaryOp (wpAny_Constant_int (PySem.P.neg_int ?_))
      refine lst_last (vs := (as ++ [aL]).map Value.ref) (v := .ref aL) plE.isList (by simp) (by simp; omega) ⟨aL, us, rfl, q1E, ?_⟩ ⟨_, rfl⟩
      refine Subscript_ ?_
      refine ld FE hSE ?_ (by kernel_rfl) (by kernel_rfl)
      refine wpAny_BinOp ?_
      refine ld FE eE ?_ (by kernel_rfl) (by kernel_rfl)
      refine wpAny_Constant_int ?_
      refine PyProof.Rows.sub_int ?_
      rw [show (f : Int) - 3 = ((f - 3 : Nat) : Int) by omega]
      refine lst_at (vs := svs.toList) (v := sv) (by simpa using (kqE.plain pS).isList) hsv (by omega) ⟨us, q1E, by omega, fun hG pG' kG => ?_⟩ ⟨_, rfl⟩
      have FG := fr_same FE q1E hgL kG
      refine wpAny_execs_nil ?_
      refine wpAny_execs_nil ?_
      refine ⟨rfl, hG, _, rfl, ⟨mE, D, as, aL, FG, hSE, hRE, Kq.but kqE hL0 kG, ?_, ?_, ?_, nd, nw, ?_, ?_, ?_⟩, hfin hG fun b o _ bL e => kG.extBut b o bL e⟩
      · exact plE.at fun o e => kG.extBut _ o DL e
      · rw [hfold, putR_neg hlt]
        exact all2_imp_mem al fun p ds hp x => (x.kq qE.kq).but kG (fun q => Las (q ▸ hp))
      · rw [hfold, putR_neg hlt]
        refine ⟨_, pG', by rw [Array.size_push, List.length_append, q2]; rfl, ?_⟩
        rw [Array.toList_push]
        exact All2.append q3 (.cons spr .nil)
      · simp; omega
      · rw [hfold, putR_neg hlt]; simp; omega
      · simp at b3 ⊢; omega
  rintro I hZ tkZ ⟨m, D, as, aL, F', hS, hR, kq, pl, al, aLr, nd, nw, b1, b2, b3⟩
  refine wpAny_execs_cons (wpAny_Return_some (ld F' hR ?_ (by kernel_rfl) (by kernel_rfl)))
  refine hQ D _ _ _ F'.keep pl ?_
  have cv : ∀ p ds, RowOn h₈ hZ p ds → RowAt hZ (.ref p) ds := fun p ds ⟨us, x1, _, x3⟩ => ⟨p, us, rfl, x1, x3.imp fun _ _ y => y.kq kq⟩
  rw [List.map_append]
  refine All2.append ?_ (.cons (cv _ _ aLr) .nil)
  have mp : ∀ (as : List Addr) (dss : List (List Sd)), All2 (RowOn h₈ hZ) as dss → All2 (RowAt hZ) (as.map Value.ref) dss := by
    intro as dss x
    induction x with
    | nil => exact .nil
    | cons r _ ih => exact .cons (cv _ _ r) ih
  exact mp _ _ al
end
end Mine
end

section
open PySem PySem.W PyProof.Rows PySem.Builtin PySem.Builtin.Str
namespace Mine

section
variable {w : World} {mg : Str → Option Value} {A : Around} {E : Value → Shared → Prop} {s : Shared} {g : Heap} {L : Addr} {m cm : Str → Option Value} {cs : List (Str × Addr)} {name : Str} {fscope : Scope} {a₀ : Addr} {cd : Value} {α β : Type}

theorem FrC.loc {h h' : Heap} {m' : Str → Option Value} (F : FrC g L h m cs cm) (hn : h'.Ns L m') (k : ∀ b o, b ≠ L → h.get? b = some o → h'.get? b = some o) : FrC g L h' m' cs cm :=
  ⟨⟨hn, fun b o e => k b o (Nat.ne_of_lt (Nat.lt_of_lt_of_le (Heap.lt_size e) F.fr.above)) (F.fr.keep b o e), F.fr.above⟩, fun n c hc => let ⟨o, ho, hd⟩ := F.cell n c hc; ⟨o, k c o (Nat.ne_of_gt (F.high n c (mem_of_lookup hc))) ho, hd⟩, F.apart, F.high⟩
theorem Kq.butL {h h' : Heap} (n : h.Ns L m) (k : ∀ b o, b ≠ L → h.get? b = some o → h'.get? b = some o) : Kq h h' := fun b o e ⟨vs, q, hd⟩ => k b o (fun z => by
  subst z
  obtain ⟨o', es, ep, ho, hd', _⟩ := n
  rw [ho] at e
  cases e
  rw [hd] at hd'
  cases hd') e

/-- y = [elt for x in iter if ..], y a local name -/
theorem lcompL {xs : List α} {V : α → Value → Prop} {p : α → Bool} {f : α → β} {R : Heap → Value → β → List Addr → Prop}
    {elt iter : Expr} {x y : Str} {px py : Pos} {ifs : List Expr} {scope : Scope} {cl : List (Str × Addr)} {pos spos : Pos} {Q : Flow → Shared → Prop}
    (hR : ∀ h h' y b as, R h y b as → (∀ z ∈ as, ∀ o, h.get? z = some o → h'.get? z = some o) → R h' y b as)
    (hsw : swapsWith (.ListComp elt [⟨.Name x px, iter, ifs, 0⟩] scope pos) (some (.Name y py)) spos.line (envC name fscope L a₀ cd) = pure true)
    (hclos : closureFor scope (envC name fscope L a₀ cd) = pure cl) (hcell : ∀ y ∈ scope.names, y.2 ≠ .cell) (hkind : scope.kind = .function)
    (hnames : ∀ y ∈ scope.names, y.2 = .local → scope.names.lookup y.1 = some .local) (hx : scope.names.lookup x = some .local) (hlen : xs.length ≤ 1000000)
    (hfk : fscope.kind = .function) (hy : (envC name fscope L a₀ cd).kindOf y = some .local)
    (h : wpAny (model pw w) A (eval iter (envC name fscope L a₀ cd)) (fun xv s₁ => ∃ m, FrC g L s₁.heap m (cellsOf L fscope) cm ∧ Src w A s₁.heap xv xs V ∧
      (∀ C a v s₃ m₃ E' Q', a ∈ xs → V a v → s₃.heap.Ns C m₃ → m₃ x = some v → Ext s₁.heap s₃.heap → (∀ h' tk, Ext s₃.heap h' → Q' (p a) { s₃ with heap := h', toks := tk }) →
        wpAny (model pw w) A (forIn ifs true fun c r => if r = true then do let ok ← isTrue c (compEnvC scope cl C (envC name fscope L a₀ cd)) (eval c (compEnvC scope cl C (envC name fscope L a₀ cd))); pure (ForInStep.yield ok) else pure (ForInStep.yield r)) Q' E' s₃) ∧
      (∀ C a v s₃ m₃ E' Q', a ∈ xs → p a = true → V a v → s₃.heap.Ns C m₃ → m₃ x = some v → Ext s₁.heap s₃.heap →
        (∀ y h' tk as, Ext s₃.heap h' → R h' y (f a) as → (∀ z ∈ as, s₃.heap.get? z = none) → Q' y { s₃ with heap := h', toks := tk }) → wpAny (model pw w) A (eval elt (compEnvC scope cl C (envC name fscope L a₀ cd))) Q' E' s₃) ∧
      (∀ D h' tk m' ys, FrC g L h' m' (cellsOf L fscope) cm → m' y = some (.ref D) → (∀ z, z ≠ y → m' z = m z) → Kq s₁.heap h' → s₁.heap.get? D = none → h'.PlainList D ys →
        All2 (fun y b => ∃ as, R h' y b as ∧ ∀ z ∈ as, s₁.heap.get? z = none ∧ z ≠ D) ys.toList ((xs.filter p).map f) → Q .next { s₁ with heap := h', toks := tk })) E s)
    (hs : ∀ x, foldedSetIterable iter (envC name fscope L a₀ cd) x = pure x := by intro _; rfl) :
    wpAny (model pw w) A (exec (.Assign [.Name y py] (.ListComp elt [⟨.Name x px, iter, ifs, 0⟩] scope pos) spos) (envC name fscope L a₀ cd)) Q E s := by
  rw [exec_Assign_Name_used _ _ _ _ hsw]
  refine wpAny_bind (wpAny_standAt (wpAny_bind ?_))
  show wpAny _ A (do let _ ← comprehension (.ListComp elt [⟨.Name x px, iter, ifs, 0⟩] scope pos) scope (envC name fscope L a₀ cd) _ (newList []) false (eval iter (envC name fscope L a₀ cd)) (some (assign (.Name y py) (envC name fscope L a₀ cd)))) _ _ s
  refine wpAny_bind (wpAny_mono (wpAny_comprehension_free (use := some (assign (.Name y py) (envC name fscope L a₀ cd))) (Q := fun _ s' => Q .next s') rfl hs hclos hkind hnames
    (wpAny_mono h (fun xv s₁ h₁ => ?_) fun _ _ e => e)) (fun _ s' hq => wpAny_pure (wpAny_pure hq)) fun _ _ e => e)
  obtain ⟨m₁, F₁, hsrc, htest, helt, hfin⟩ := h₁
  refine hsrc s₁ _ _ rfl fun I fp wr St h₂ tk₂ W hst hfp hlive k₁₂ hwr => ?_
  refine wpAny_newObj_type (wpAny_newFunctionEnv hcell (by intro y hy; simp at hy) (fun h₄ hns₄ hsb₄ => ?_) hkind)
  dsimp only at hns₄ hsb₄ ⊢
  generalize hH3 : h₂.push { cls := .type "list", dict := none, data := .seq ([] : List Value).toArray } = H3 at hns₄ hsb₄ ⊢
  have hC : H3.objs.size = h₂.objs.size + 1 := by rw [← hH3, Heap.size_push]
  generalize hCe : H3.objs.size = C at hns₄ hsb₄ hC ⊢
  generalize hDe : h₂.objs.size = D at hC ⊢
  have hDC : D ≠ C := by omega
  have below : ∀ b, b < h₂.objs.size → b ≠ D ∧ b ≠ C := fun b hb => by
    rw [hDe] at hb
    exact ⟨Nat.ne_of_lt hb, Nat.ne_of_lt (by rw [hC]; exact Nat.lt_succ_of_lt hb)⟩
  have hDf : D ∉ fp := fun hm => (below _ (hfp _ hm)).1 rfl
  have hCf : C ∉ fp := fun hm => (below _ (hfp _ hm)).2 rfl
  have hDw : D ∉ wr := fun hm => hDf (W.sub _ hm)
  have hCw : C ∉ wr := fun hm => hCf (W.sub _ hm)
  have k₂₄ : Ext h₂ h₄ := fun b o e => by
    have hb := Heap.lt_size e
    refine hsb₄.extBut b o (below b hb).2 (Heap.get?_push_of_some _ (hH3 ▸ Heap.get?_push_of_some _ e))
  have hacc : h₄.PlainList D #[] := ⟨_, hsb₄.extBut _ _ hDC (Heap.get?_push_of_some _ (by rw [← hH3, ← hDe]; exact Heap.get?_push_size _ rfl))⟩
  have hst₄ : St 0 h₄ := W.frame _ _ _ hst fun b _ o e => k₂₄ b o e
  have newC : s₁.heap.get? C = none := by
    cases e : s₁.heap.get? C with
    | none => rfl
    | some o => exact absurd rfl (below _ (Heap.lt_size (k₁₂ _ _ e))).2
  have newD : s₁.heap.get? D = none := by
    cases e : s₁.heap.get? D with
    | none => rfl
    | some o => exact absurd rfl (below _ (Heap.lt_size (k₁₂ _ _ e))).1
  have loop : ∀ s₃ : Shared, s₃ = { s₁ with heap := h₄, toks := tk₂ + ([] : List (Str × Value)).length } →
      codeAny (model pw w) A (.compLoop (.ListComp elt [⟨.Name x px, iter, ifs, 0⟩] scope pos) 0 (.ref I) (.ref D) (compEnvC scope cl C (envC name fscope L a₀ cd))) (compPost (model pw w) A E (some (assign (.Name y py) (envC name fscope L a₀ cd))) (fun _ s' => Q .next s') (.ref D) C) s₃ := by
    rintro s₃ rfl
    refine codeAny_compLoop_tests (fun k s' => ∃ h' tk m' ys done rest, s' = { s₁ with heap := h', toks := tk } ∧ xs = done ++ rest ∧ St done.length h' ∧ h'.PlainList D ys ∧ h'.Ns C m' ∧ k = rest.length + 1 ∧ Ext s₁.heap h' ∧ ys.size ≤ done.length ∧
      All2 (fun y b => ∃ as, R h' y b as ∧ ∀ z ∈ as, z ≠ C ∧ z ≠ D ∧ z ∉ wr ∧ s₁.heap.get? z = none) ys.toList ((done.filter p).map f)) ?_ (xs.length + 1)
      ⟨h₄, _, _, #[], [], xs, rfl, rfl, hst₄, hacc, hns₄, rfl, Ext.trans k₁₂ k₂₄, Nat.le_refl _, .nil⟩
    rintro k s' ⟨h', tk, m', ys, done, rest, rfl, hxs, hst', hacc', hn', rfl, hk', hsz, hall⟩
    cases rest with
    | nil =>
      have hd : xs.length = done.length := by rw [hxs]; simp
      refine W.done _ _ _ (hd ▸ hst') fun h₅ tk₅ hk₅ => ?_
      have kk₅ : Ext s₁.heap h₅ := fun b o e => hk₅ b o (fun q => by rw [hwr b q] at e; cases e) (hk' b o e)
      have hL : ∃ o, s₁.heap.get? L = some o := by obtain ⟨o, _, _, ho, _⟩ := F₁.fr.ns; exact ⟨o, ho⟩
      have hLC : L ≠ C := by rintro rfl; obtain ⟨o, ho⟩ := hL; rw [newC] at ho; cases ho
      have hLD : L ≠ D := by rintro rfl; obtain ⟨o, ho⟩ := hL; rw [newD] at ho; cases ho
      have hD₅ := hacc'.at fun o e => hk₅ _ o hDw e
      have hC₅ := hn'.at' fun o e => hk₅ _ o hCw e
      refine wpAny_assign_Name (wpAny_storeName_local hy ((F₁.fr.ns.keeps kk₅)) (fun h₇ hn₇ hs₇ => ?_) (by show (fscope.kind == .class || (fscope.kind == .module && L != mainGlobals)) = false; rw [hfk]; rfl))
      have hs₇' : Heap.SameBut L h₅ h₇ := hs₇
      refine ⟨m', hC₅.sameBut hs₇' (Ne.symm hLC), fun h₆ hs₆ => ?_⟩
      have kL : ∀ b o, b ≠ L → s₁.heap.get? b = some o → h₆.get? b = some o := fun b o bL e => hs₆.extBut b o (fun q => by subst q; rw [newC] at e; cases e) (hs₇'.extBut b o bL (kk₅ b o e))
      have hn₆ : h₆.Ns L (fun z => if z = y then some (.ref D) else m₁ z) := Heap.Ns.sameBut (a := L) hn₇ hs₆ hLC
      refine hfin D h₆ _ _ ys (F₁.loc hn₆ kL) (if_pos rfl) (fun _ hz => if_neg hz) (Kq.butL F₁.fr.ns kL) newD ((hD₅.at fun o e => hs₇'.extBut _ _ (Ne.symm hLD) e).at fun o e => hs₆.extBut _ _ hDC e) ?_
      have : xs = done := by rw [hxs]; simp
      rw [this]
      refine hall.imp fun y b ⟨as, r, ha⟩ => ⟨as, hR _ _ _ _ _ r fun z hz o e => hs₆.extBut _ _ (ha z hz).1 (hs₇'.extBut _ _ (fun q => by subst q; obtain ⟨o, ho⟩ := hL; rw [(ha _ hz).2.2.2] at ho; cases ho) (hk₅ _ o (ha z hz).2.2.1 e)), fun z hz => ⟨(ha z hz).2.2.2, (ha z hz).2.1⟩⟩
    | cons a rest =>
      have hlt : done.length < xs.length := by rw [hxs]; simp
      have hget : xs[done.length]? = some a := by rw [hxs]; simp
      have hmem : a ∈ xs := by rw [hxs]; simp
      refine W.item done.length _ _ _ hlt hst' fun v h₅ tk₅ ⟨a', ha', hVa⟩ hst₅ hk₅ => ?_
      rw [hget] at ha'
      cases ha'
      refine wpAny_assign_Name (wpAny_storeName_local (lookup_relabel_local hx) (hn'.at' fun o e => hk₅ _ o hCw e) (fun h₆ hn₆ hs₆ => ?_) (by simp [compEnvC, relabel, hkind]))
      have up₆ : ∀ b o, b ≠ C → b ∉ wr → h'.get? b = some o → h₆.get? b = some o := fun b o hbC hbf e => hs₆.extBut b o hbC (hk₅ b o hbf e)
      have hst₆ : St (done.length + 1) h₆ := W.frame _ _ _ hst₅ fun b hb o e => hs₆.extBut b o (fun h => hCf ((show b = C from h) ▸ hb)) e
      have hk₆ : Ext s₁.heap h₆ := fun b o e => up₆ b o (fun q => by subst q; rw [newC] at e; cases e) (fun q => by rw [hwr b q] at e; cases e) (hk' b o e)
      have hacc₆ : h₆.PlainList D ys := hacc'.at fun o e => up₆ D o hDC hDw e
      have hall₆ := hall.imp (R' := fun y b => ∃ as, R h₆ y b as ∧ ∀ z ∈ as, z ≠ C ∧ z ≠ D ∧ z ∉ wr ∧ s₁.heap.get? z = none) fun y b ⟨as, r, ha⟩ => ⟨as, hR _ _ _ _ _ r fun z hz o e => up₆ _ _ (ha z hz).1 (ha z hz).2.2.1 e, ha⟩
      refine htest C a v _ _ _ _ hmem hVa hn₆ (by simp) hk₆ fun h₇ tk₇ k₇ => ?_
      cases hp : p a with
      | false =>
        rw [if_neg (by simp)]
        refine ⟨rest.length + 1, by simp, h₇, tk₇, _, ys, done ++ [a], rest, rfl, by rw [hxs]; simp, ?_, hacc₆.at fun o e => k₇ _ _ e, hn₆.keeps k₇, rfl, Ext.trans hk₆ k₇, by simp; omega, ?_⟩
        · rw [List.length_append]; exact W.frame _ _ _ hst₆ fun b _ o e => k₇ b o e
        · rw [List.filter_append]
          simp only [List.filter_cons, hp, List.filter_nil, Bool.false_eq_true, if_false, List.append_nil]
          exact hall₆.imp fun y b ⟨as, r, ha⟩ => ⟨as, hR _ _ _ _ _ r fun z _ o e => k₇ _ _ e, ha⟩
      | true =>
        rw [if_pos rfl]
        refine helt C a v _ _ _ _ hmem hp hVa (hn₆.keeps k₇) (by simp) (Ext.trans hk₆ k₇) fun y h₈ tk₈ as k₈ hr hfr => ?_
        refine wpAny_list_append_plain (hsz := by simp only [sizeLine_eq]; omega) ((hacc₆.at fun o e => k₇ _ _ e).at fun o e => k₈ _ _ e) fun h₉ hl₉ hs₉ => ?_
        have fz : ∀ z ∈ as, z ≠ C ∧ z ≠ D ∧ z ∉ wr ∧ s₁.heap.get? z = none := fun z hz => by
          have hz' := hfr z hz
          refine ⟨fun q => ?_, fun q => ?_, fun q => ?_, ?_⟩
          · subst q
            obtain ⟨o, _, _, ho, _⟩ := hn₆.keeps k₇
            dsimp only at hz'
            have ho' : h₇.get? z = some o := ho
            rw [ho'] at hz'; cases hz'
          · subst q
            obtain ⟨n, ho⟩ := hacc₆.at fun o e => k₇ _ _ e
            rw [ho] at hz'; cases hz'
          · obtain ⟨o, ho⟩ := hlive _ _ hst₆ z q
            have := k₇ _ _ ho
            dsimp only at hz'
            rw [this] at hz'; cases hz'
          · cases e : s₁.heap.get? z with
            | none => rfl
            | some o =>
              have := Ext.trans hk₆ k₇ _ _ e
              dsimp only at hz'
              rw [this] at hz'; cases hz'
        refine ⟨rest.length + 1, by simp, h₉, tk₈, _, ys.push y, done ++ [a], rest, rfl, by rw [hxs]; simp, ?_, hl₉, ((hn₆.keeps k₇).keeps k₈).sameBut hs₉ (Ne.symm hDC), rfl, ?_, by simp; omega, ?_⟩
        · rw [List.length_append]; exact W.frame _ _ _ hst₆ fun b hb o e => hs₉.extBut b o (fun h => hDf (h ▸ hb)) (k₈ b o (k₇ b o e))
        · intro b o e
          exact hs₉.extBut b o (fun q => by subst q; rw [newD] at e; cases e) (k₈ b o (k₇ b o (hk₆ b o e)))
        · rw [List.filter_append]
          simp only [List.filter_cons, hp, if_true, List.filter_nil, List.map_append, List.map_cons, List.map_nil, Array.toList_push]
          refine All2.append (hall₆.imp fun y b ⟨as, r, ha⟩ => ⟨as, hR _ _ _ _ _ r fun z hz o e => hs₉.extBut _ _ (ha z hz).2.1 (k₈ _ _ (k₇ _ _ e)), ha⟩) (.cons ⟨as, hR _ _ _ _ _ hr fun z hz o e => hs₉.extBut _ _ (fz z hz).2.1 e, fz⟩ .nil)
  exact codeAny_compStart_list (loop _ rfl) (W.self 0 _ _ _ hst₄ (loop _ rfl))
end
end Mine
end

section
open PySem PySem.W PyProof.Rows PySem.Builtin PySem.Builtin.Str
namespace Mine

abbrev rowAt (rows : List (List Nat)) (k : Nat) : List Nat := rows.getD k []
def fulls (rows : List (List Nat)) : List Nat := (List.range rows.length).filter fun k => !decide (front (rowAt rows k) = [])
def closes (rows : List (List Nat)) : List Nat := (fulls rows).filter fun k => decide (k + 1 ∈ fulls rows)
def ahead? (cs : List Nat) (k : Nat) : Bool := match cs with | [] => true | c :: _ => decide (k < c)
def aheads (rows : List (List Nat)) : List Nat := (fulls rows).filter (ahead? (closes rows))
def startsP (rows : List (List Nat)) : List Nat := [0] ++ (aheads rows).map (· + 2)
def headsP (rows : List (List Nat)) : List (List Nat) := (aheads rows).map fun k => front (rowAt rows k)
def lastHeads (hs : List (List Nat)) : List (List Nat) := hs.take (hs.length - 1) ++ (hs.drop (hs.length - 1)).map back
def lastF (rows : List (List Nat)) : Nat := (fulls rows).getLast?.getD 0
def toldH (rows : List (List Nat)) : List (List Nat) := match closes rows with | [] => lastHeads (headsP rows) | _ :: _ => headsP rows
def restL (rows : List (List Nat)) (c : Nat) : List (List Nat) := [front (rowAt rows c)] ++ (rows.drop (c + 1)).take (lastF rows - (c + 1)) ++ [back (rowAt rows (lastF rows))]
def toldR (rows : List (List Nat)) : List Nat := match closes rows with | [] => [] | c :: _ => joinL [10] (restL rows c)

theorem fulls_lt {rows : List (List Nat)} {k : Nat} (h : k ∈ fulls rows) : k < rows.length := List.mem_range.mp (List.mem_filter.mp h).1
theorem closes_sub {rows : List (List Nat)} {k : Nat} (h : k ∈ closes rows) : k ∈ fulls rows := (List.mem_filter.mp h).1
theorem aheads_sub {rows : List (List Nat)} {k : Nat} (h : k ∈ aheads rows) : k ∈ fulls rows := (List.mem_filter.mp h).1
theorem fulls_len (rows : List (List Nat)) : (fulls rows).length ≤ rows.length := by
  have := List.length_filter_le (fun k => !decide (front (rowAt rows k) = [])) (List.range rows.length)
  rw [List.length_range] at this
  exact this
theorem aheads_len (rows : List (List Nat)) : (aheads rows).length ≤ rows.length := Nat.le_trans (List.length_filter_le _ _) (fulls_len rows)
theorem closes_len (rows : List (List Nat)) : (closes rows).length ≤ rows.length := Nat.le_trans (List.length_filter_le _ _) (fulls_len rows)
theorem map_same (l : List Nat) : l.map (fun k => k) = l := by simp
theorem filter_true {α : Type} (l : List α) : l.filter (fun _ => true) = l := by simp
theorem back_len (l : List Nat) : (back l).length ≤ l.length := by
  unfold back
  rw [List.length_reverse]
  have := front_len l.reverse
  rwa [List.length_reverse] at this

section
variable {w : World} {mg : Str → Option Value} {A : Around} {E : Value → Shared → Prop} {s : Shared}

/-- a number in a list of numbers -/
theorem in_nums {l : Addr} {vs : Array Value} {fs : List Nat} {k : Nat} {u : Tok} {Q : Value → Shared → Prop} (hl : s.heap.IsList l vs) (hv : All2 IsI vs.toList fs) (h : Q (.bool (decide (k ∈ fs))) s) : wpAny (model pw w) A (compareOp .In (.int (k : Nat) u) (.ref l)) Q E s := by
  refine SeqAt.in_listAt (fun v => match v with | .int n _ => n == (k : Int) | _ => false) hl (fun y hy => ?_) ?_
  · have : ∃ n t, y = .int n t := by
      have hy' : y ∈ vs.toList := by simpa using hy
      obtain ⟨i, hi, e⟩ := List.mem_iff_getElem.mp hy'
      obtain ⟨b, _, t, r⟩ := hv.get (i := i) (a := y) (by rw [List.getElem?_eq_getElem hi, e])
      exact ⟨_, t, r⟩
    obtain ⟨n, t, rfl⟩ := this
    exact SeqAt.EqAt.int_int _ _ _ _
  · have e : vs.any (fun v => match v with | .int n _ => n == (k : Int) | _ => false) = decide (k ∈ fs) := by
      rw [← Array.any_toList]
      generalize vs.toList = ws at hv
      clear h hl
      induction hv with
      | nil => simp
      | cons r _ ih =>
        obtain ⟨t, rfl⟩ := r
        rw [List.any_cons, ih]
        rename_i b as bs _
        by_cases hb : b = k
        · subst hb; simp
        · have hb' : k ≠ b := fun q => hb q.symm
          have : ((b : Int) == (k : Int)) = false := by rw [beq_eq_false_iff_ne]; omega
          simp [this, hb']
    rw [e]
    exact h

/-- xs == [] -/
theorem eq_nil {l b : Addr} {vs : Array Value} {Q : Value → Shared → Prop} (hl : s.heap.IsList l vs) (hb : s.heap.IsList b #[]) (hu : A.units < cLine) (h : Q (.bool (decide (vs = #[]))) s) : wpAny (model pw w) A (compareOp .Eq (.ref l) (.ref b)) Q E s := by
  by_cases hv : vs = #[]
  · subst hv
    refine SeqAt.eq_listAt (e := fun _ => true) hl hb rfl hu (fun j h1 => by simp at h1) ?_
    simpa using h
  · refine SeqAt.eq_list_lengthsAt hl hb (by simpa using hv) hu ?_
    simpa [hv] using h

theorem Rm.un' {n : Nat} {A : Around} (r : Rm n A) : A.units < cLine := by have := r.un; omega

theorem sub_list {h : Heap} {l : Addr} {vs : Array Value} (x : h.PlainList l vs) : h.IsList l vs.toList.toArray := by simpa using x.isList

theorem row_get {vs : List Value} {rows : List (List Nat)} (hS : Ss vs rows) {k : Nat} (hk : k < rows.length) : ∃ t, vs[k]? = some (.str (S (rowAt rows k)) t) :=
  hS.get (i := k) (x := rowAt rows k) (by unfold rowAt; rw [List.getD_eq_getElem?_getD, List.getElem?_eq_getElem hk]; rfl)
theorem row_len {rows : List (List Nat)} {n : Nat} (hm : ∀ x ∈ rows, x.length ≤ n) (k : Nat) : (rowAt rows k).length ≤ n := by
  unfold rowAt
  rw [List.getD_eq_getElem?_getD]
  cases e : rows[k]? with
  | none => simp
  | some x => exact hm x (List.mem_of_getElem? e)

set_option maxHeartbeats 4000000 in
set_option maxRecDepth 100000 in
theorem c_told {a rl : Addr} {vs : List Value} {rows : List (List Nat)} {Q : Value → Shared → Prop} (T : TF w mg s.heap) (hf : FnI s.heap a 14 "_law_told") (r : Rm 4 A) (hl : s.heap.IsList rl vs.toArray) (hS : Ss vs rows) (hn : rows.length ≤ 1000) (hml : ∀ x ∈ rows, x.length ≤ 1000)
    (hQ : ∀ b dS dH svs hvs t1 h' tk, Ext s.heap h' → h'.PlainList b #[.ref dS, .ref dH, .str (S (toldR rows)) t1] → h'.PlainList dS svs → h'.PlainList dH hvs → All2 IsI svs.toList (startsP rows) → Ss hvs.toList (toldH rows) →
      s.heap.get? b = none → s.heap.get? dS = none → s.heap.get? dH = none → Q (.ref b) { s with heap := h', toks := tk }) : wpAny (model pw w) A (call (.ref a) [.ref rl]) Q E s := by
  refine enterC (binds := [("rows", .ref rl)]) T hf r (fun _ _ _ => by unfold st; kernel_rfl) (fun _ => by kernel_rfl) (fun L cd h₁ tk m₁ cm₁ A' r' F hm hcm T₁ => ?_) (by kernel_rfl) (by kernel_rfl) (by kernel_rfl)
  have hr₁ := hcm "rows" (.ref rl) (by kernel_rfl)
  obtain ⟨af, mf, ff⟩ := T.fn (12, "_law_front") (by decide)
  obtain ⟨ab, mb, fb⟩ := T.fn (13, "_law_back") (by decide)
  have hvl : vs.length = rows.length := hS.length
  have hll : ∀ h', Ext s.heap h' → h'.IsList rl vs.toArray := fun h' k => (Kq.of k).list hl
  unfold st at F ⊢
  have cR : ∀ {h' m' cm'}, FrC s.heap L h' m' (cellsOf L (fnScope (pw.main.body[14]?.getD (Stmt.Pass default)))) cm' → cm' "rows" = some (.ref rl) → h'.IsCell (L + 1) (some (.ref rl)) := fun F e => e ▸ F.cell "rows" (L + 1) (by kernel_rfl)
  have cF : ∀ {h' m' cm' v}, FrC s.heap L h' m' (cellsOf L (fnScope (pw.main.body[14]?.getD (Stmt.Pass default)))) cm' → cm' "full" = some v → h'.IsCell (L + 2) (some v) := fun F e => e ▸ F.cell "full" (L + 2) (by kernel_rfl)
  have cC : ∀ {h' m' cm' v}, FrC s.heap L h' m' (cellsOf L (fnScope (pw.main.body[14]?.getD (Stmt.Pass default)))) cm' → cm' "close" = some v → h'.IsCell (L + 3) (some v) := fun F e => e ▸ F.cell "close" (L + 3) (by kernel_rfl)
  -- full
  refine wpAny_execs_cons ?_
  refine wpAny_Assign_Name ?_ ?_
  case refine_2 => kernel_rfl
  refine lcomp (xs := List.range rows.length) (V := fun k v => ∃ t, v = .int (k : Nat) t) (p := fun k => !decide (front (rowAt rows k) = [])) (f := fun k => k) (R := RI) (fun _ _ _ _ _ h _ => h) (cl := [("rows", L + 1)]) (by kernel_rfl) (by decide +kernel) (by kernel_rfl) (by decide +kernel) (by decide +kernel) (by simp; omega) ?_
  refine Call_ (bn T₁ (by decide) boot_range ?_ rfl rfl (by kernel_rfl) (by kernel_rfl))
  refine PyProof.Rows.callWith_type1 (args_cons ?_)
  refine Call_ (bn T₁ (by decide) boot_len ?_ rfl rfl (by kernel_rfl) (by kernel_rfl))
  refine PyProof.Rows.callWith_builtin1 (args_cons (ldK (c := L + 1) F hr₁ (args_nil ?_) (by kernel_rfl) (by kernel_rfl) (by kernel_rfl)))
  refine PyProof.Rows.len_list (hll _ F.fr.keep) (by show (vs.length : Int) < _; omega) ?_
  refine args_nil ?_
  rw [show ((vs.toArray.size : Nat) : Int) = (rows.length : Nat) by rw [← hvl]; rfl]
  refine rng (n := rows.length) fun rr h₂ tk₂ t5 t6 t7 k₂ hrr => ?_
  have F₂ := F.ext k₂
  refine ⟨src_range r'.hh (by omega) hrr, ?_, ?_, ?_⟩
  · rintro C k v' s₃ m₃ E' Q' hk ⟨u, rfl⟩ hn hx k₃ hq
    have hk' : k < rows.length := List.mem_range.mp hk
    have T₃ := (T.keeps F₂.fr.keep).keeps k₃
    have ke : Ext s.heap s₃.heap := Ext.trans F₂.fr.keep k₃
    refine wpAny_tests_one (wpAny_isTrue_Compare1 ?_)
    refine call1 T₃ mf (ff.keeps ke) rfl (by kernel_rfl) (by kernel_rfl) rfl ?_
    refine Subscript_ ?_
    refine ldcc ((cR F₂ hr₁).keeps k₃) ?_ (by kernel_rfl) (by kernel_rfl) (by kernel_rfl)
    refine ldc hn hx ?_ (by kernel_rfl) (by kernel_rfl)
    obtain ⟨t8, e8⟩ := row_get hS hk'
    refine lst_at (hll _ ke) e8 (by omega) ⟨Kp.refl _, ?_⟩ ⟨_, rfl⟩
    refine c_front T₃ (ff.keeps ke) (r'.less (by omega)) (by have := row_len hml k; omega) fun t9 h₄ tk₄ k₄ => ?_
    refine k_empty fun t10 tk10 => ?_
    refine ne_empty ?_
    exact wpAny_truthy_bool (hq _ _ k₄)
  · rintro C k v' s₃ m₃ E' Q' hk _ ⟨u, rfl⟩ hn hx k₃ hq
    refine ldc hn hx ?_ (by kernel_rfl) (by kernel_rfl)
    exact hq _ _ _ [] (fun _ _ e => e) ⟨_, rfl⟩ (by simp)
  intro dF h₃ tk₃ fvs k₃ hdF pF aF
  replace aF : All2 IsI fvs.toList (fulls rows) := by
    rw [map_same] at aF
    exact aF.imp fun y b ⟨_, r, _⟩ => r
  have F₃ := F₂.ext k₃
  refine stK (c := L + 2) F₃ (fun h₄ tk₄ cm₄ F₄ e₄ o₄ q₄ => ?_) (by kernel_rfl) (by kernel_rfl) (by kernel_rfl)
  replace pF := q₄.plain pF
  have hr₄ := (o₄ "rows" (by decide)).trans hr₁
  -- close
  refine wpAny_execs_cons ?_
  refine wpAny_Assign_Name ?_ ?_
  case refine_2 => kernel_rfl
  refine lcomp (xs := fulls rows) (V := fun k v => ∃ t, v = .int (k : Nat) t) (p := fun k => decide (k + 1 ∈ fulls rows)) (f := fun k => k) (R := RI) (fun _ _ _ _ _ h _ => h) (cl := [("full", L + 2)]) (by kernel_rfl) (by decide +kernel) (by kernel_rfl) (by decide +kernel) (by decide +kernel) (by have := fulls_len rows; omega) ?_
  refine ldK (c := L + 2) F₄ e₄ ?_ (by kernel_rfl) (by kernel_rfl) (by kernel_rfl)
  refine ⟨src_list r'.hh (sub_list pF) aF, ?_, ?_, ?_⟩
  · rintro C k v' s₃ m₃ E' Q' hk ⟨u, rfl⟩ hn hx k₃ hq
    refine wpAny_tests_one (wpAny_isTrue_Compare1 ?_)
    refine wpAny_BinOp ?_
    refine ldc hn hx ?_ (by kernel_rfl) (by kernel_rfl)
    refine wpAny_Constant_int ?_
    refine addn (b := 1) fun t9 tk9 => ?_
    refine ldcc ((cF F₄ e₄).keeps k₃) ?_ (by kernel_rfl) (by kernel_rfl) (by kernel_rfl)
    refine in_nums (ext_plain k₃ pF).isList aF ?_
    exact wpAny_truthy_bool (hq _ _ (fun _ _ e => e))
  · rintro C k v' s₃ m₃ E' Q' hk _ ⟨u, rfl⟩ hn hx k₃ hq
    refine ldc hn hx ?_ (by kernel_rfl) (by kernel_rfl)
    exact hq _ _ _ [] (fun _ _ e => e) ⟨_, rfl⟩ (by simp)
  intro dC h₅ tk₅ cvs k₅ hdC pC aC
  replace aC : All2 IsI cvs.toList (closes rows) := by
    rw [map_same] at aC
    exact aC.imp fun y b ⟨_, r, _⟩ => r
  have F₅ := F₄.ext k₅
  refine stK (c := L + 3) F₅ (fun h₆ tk₆ cm₆ F₆ e₆ o₆ q₆ => ?_) (by kernel_rfl) (by kernel_rfl) (by kernel_rfl)
  replace pF := q₆.plain (ext_plain k₅ pF)
  replace pC := q₆.plain pC
  have hr₆ := (o₆ "rows" (by decide)).trans hr₄
  have hf₆ := (o₆ "full" (by decide)).trans e₄
  have T₆ := T.keeps F₆.fr.keep
  have hcl : (cvs = #[]) ↔ closes rows = [] := by
    have := aC.length
    simp only [Array.length_toList] at this
    rw [← Array.size_eq_zero_iff, this, List.length_eq_zero_iff]
  -- ahead
  refine wpAny_execs_cons ?_
  refine lcompL (g := s.heap) (cm := cm₆) (xs := fulls rows) (V := fun k v => ∃ t, v = .int (k : Nat) t) (p := ahead? (closes rows)) (f := fun k => k) (R := RI) (fun _ _ _ _ _ h _ => h) (by kernel_rfl) (cl := [("close", L + 3)]) (by kernel_rfl) (by decide +kernel) (by kernel_rfl) (by decide +kernel) (by decide +kernel) (by have := fulls_len rows; omega) (by kernel_rfl) (by kernel_rfl) ?_
  refine ldK (c := L + 2) F₆ hf₆ ?_ (by kernel_rfl) (by kernel_rfl) (by kernel_rfl)
  refine ⟨_, F₆, src_list r'.hh (sub_list pF) aF, ?_, ?_, ?_⟩
  · rintro C k v' s₃ m₃ E' Q' hk ⟨u, rfl⟩ hn hx k₃ hq
    refine wpAny_tests_one (wpAny_isTrue_BoolOp (wpAny_allTrue_Or_cons (wpAny_isTrue_Compare1 ?_)))
    refine ldcc ((cC F₆ e₆).keeps k₃) ?_ (by kernel_rfl) (by kernel_rfl) (by kernel_rfl)
    refine wpAny_List (wpAny_items_nil ⟨by rw [sizeLine_eq]; simp, ?_⟩)
    have k₄ : Ext s₃.heap (s₃.heap.push { cls := .type "list", data := .seq ([] : List Value).toArray }) := fun b o e => Heap.get?_push_of_some _ e
    have p₄ : (s₃.heap.push { cls := .type "list", data := .seq ([] : List Value).toArray }).PlainList s₃.heap.objs.size #[] := ⟨_, Heap.get?_push_size _ rfl⟩
    try dsimp only
    generalize s₃.heap.push { cls := .type "list", data := .seq ([] : List Value).toArray } = h₄ at k₄ p₄ ⊢
    refine eq_nil (s := { s₃ with heap := h₄ }) (ext_plain k₄ (ext_plain k₃ pC)).isList p₄.isList r'.un' (wpAny_truthy_bool ?_)
    match hcs : closes rows with
    | [] =>
      refine PySem.W.ite_pos (by simpa using hcl.mpr hcs) ?_
      have := hq h₄ s₃.toks k₄
      rw [hcs] at this
      exact this
    | c :: cr =>
      refine PySem.W.ite_neg (by simp only [decide_eq_true_eq]; intro e; rw [hcl.mp e] at hcs; cases hcs) ?_
      refine wpAny_allTrue_Or_cons (wpAny_isTrue_Compare1 ?_)
      refine ldc (s := { s₃ with heap := h₄ }) (hn.keeps k₄) hx ?_ (by kernel_rfl) (by kernel_rfl)
      refine Subscript_ ?_
      refine ldcc (s := { s₃ with heap := h₄ }) (((cC F₆ e₆).keeps k₃).keeps k₄) ?_ (by kernel_rfl) (by kernel_rfl) (by kernel_rfl)
      refine wpAny_Constant_int ?_
      obtain ⟨vc, e8, t8, rfl⟩ := aC.getR (i := 0) (b := c) (by rw [hcs]; rfl)
      refine lst_at (k := 0) (vs := cvs.toList) (sub_list (ext_plain k₄ (ext_plain k₃ pC))) e8 (by omega) ?_ ⟨_, rfl⟩
      refine wpAny_lt_int (wpAny_truthy_bool ?_)
      have hqq := hq h₄ (s₃.toks + 1) k₄
      rw [hcs] at hqq
      by_cases hkc : k < c
      · refine PySem.W.ite_pos (by simp; omega) ?_
        have e : ahead? (c :: cr) k = true := by simp [ahead?, hkc]
        rw [e] at hqq
        exact hqq
      · refine PySem.W.ite_neg (by simp; omega) ?_
        have e : ahead? (c :: cr) k = false := by simp [ahead?, hkc]
        rw [e] at hqq
        exact wpAny_allTrue_Or_nil hqq
  · rintro C k v' s₃ m₃ E' Q' hk _ ⟨u, rfl⟩ hn hx k₃ hq
    refine ldc hn hx ?_ (by kernel_rfl) (by kernel_rfl)
    exact hq _ _ _ [] (fun _ _ e => e) ⟨_, rfl⟩ (by simp)
  intro dA h₇ tk₇ m₇ avs F₇ e₇ o₇ q₇ ndA pA aA
  replace aA : All2 IsI avs.toList (aheads rows) := by
    rw [map_same] at aA
    exact aA.imp fun y b ⟨_, r, _⟩ => r
  replace pF := q₇.plain pF
  replace pC := q₇.plain pC
  have T₇ := T.keeps F₇.fr.keep
  -- starts
  try dsimp only
  refine wpAny_execs_cons ?_
  refine wpAny_Assign_Name ?_ ?_
  case refine_2 => exact sw_bin
  refine wpAny_BinOp ?_
  refine ev_ints (s := { s with heap := h₇, toks := _ }) (ds := [0]) ?_ (by decide) fun d0 zvs h₈ tk₈ k₈ n0 p0 a0 => ?_
  · exact .cons (ev_int (by decide)) .nil
  have F₈ := F₇.ext k₈
  refine lcomp (xs := aheads rows) (V := fun k v => ∃ t, v = .int (k : Nat) t) (p := fun _ => true) (f := fun k => k + 2) (R := RI) (fun _ _ _ _ _ h _ => h) (cl := []) (by kernel_rfl) (by decide +kernel) (by kernel_rfl) (by decide +kernel) (by decide +kernel) (by have := aheads_len rows; omega) ?_
  refine ldL F₈ e₇ ?_ (by kernel_rfl) (by kernel_rfl)
  refine ⟨src_list r'.hh (sub_list (ext_plain k₈ pA)) aA, ?_, ?_, ?_⟩
  · rintro C k v' s₃ m₃ E' Q' hk ⟨u, rfl⟩ hn hx k₄ hq
    exact wpAny_tests_nil (hq s₃.heap s₃.toks (fun _ _ e => e))
  · rintro C k v' s₃ m₃ E' Q' hk _ ⟨u, rfl⟩ hn hx k₄ hq
    refine wpAny_BinOp ?_
    refine ldc hn hx ?_ (by kernel_rfl) (by kernel_rfl)
    refine wpAny_Constant_int ?_
    refine addn (b := 2) fun t9 tk9 => ?_
    exact hq _ _ _ [] (fun _ _ e => e) ⟨_, rfl⟩ (by simp)
  intro d2 h₉ tk₉ tvs k₉ hd2 p2 a2
  replace a2 : All2 IsI tvs.toList ((aheads rows).map (· + 2)) := by
    rw [filter_true] at a2
    exact a2.imp fun y b ⟨_, r, _⟩ => r
  have l0 := a0.length
  have l2 := a2.length
  have la := aheads_len rows
  simp only [Array.length_toList, List.length_map, List.length_cons, List.length_nil] at l0 l2
  refine add_ll (ext_plain k₉ p0).isList p2.isList (by rw [sizeLine_eq]; omega) ?_
  have kA : Ext h₉ (h₉.push { cls := .type "list", data := .seq (zvs ++ tvs) }) := fun b o e => Heap.get?_push_of_some _ e
  have pS : (h₉.push { cls := .type "list", data := .seq (zvs ++ tvs) }).PlainList h₉.objs.size (zvs ++ tvs) := ⟨_, Heap.get?_push_size _ rfl⟩
  have nS : s.heap.get? h₉.objs.size = none := new_of (Ext.trans F₈.fr.keep k₉) (get_new h₉)
  try dsimp only
  generalize h₉.push { cls := .type "list", data := .seq (zvs ++ tvs) } = hA at kA pS ⊢
  generalize h₉.objs.size = dS at pS nS ⊢
  have aS : All2 IsI (zvs ++ tvs).toList (startsP rows) := by rw [Array.toList_append]; exact All2.append a0 a2
  generalize zvs ++ tvs = svs at pS aS
  have k7A : Ext h₇ hA := Ext.trans k₈ (Ext.trans k₉ kA)
  have FA := F₇.ext k7A
  refine stL (s := { s with heap := hA, toks := _ }) FA (fun hB tkB mB FB eB oB qB => ?_) (by kernel_rfl) (by kernel_rfl)
  replace qB : Kq hA hB := qB
  have q7B : Kq h₇ hB := Kq.trans (Kq.of k7A) qB
  replace pF := q7B.plain pF
  replace pC := q7B.plain pC
  replace pA := q7B.plain pA
  replace pS := qB.plain pS
  have hAB := (oB "ahead" (by decide)).trans e₇
  have TB := T.keeps FB.fr.keep
  -- heads
  refine wpAny_execs_cons ?_
  refine lcompL (g := s.heap) (cm := cm₆) (xs := aheads rows) (V := fun k v => ∃ t, v = .int (k : Nat) t) (p := fun _ => true) (f := fun k => front (rowAt rows k)) (R := RS) (fun _ _ _ _ _ h _ => h) (by kernel_rfl) (cl := [("rows", L + 1)]) (by kernel_rfl) (by decide +kernel) (by kernel_rfl) (by decide +kernel) (by decide +kernel) (by omega) (by kernel_rfl) (by kernel_rfl) ?_
  refine ldL FB hAB ?_ (by kernel_rfl) (by kernel_rfl)
  refine ⟨_, FB, src_list r'.hh (sub_list pA) aA, ?_, ?_, ?_⟩
  · rintro C k v' s₃ m₃ E' Q' hk ⟨u, rfl⟩ hn hx k₄ hq
    exact wpAny_tests_nil (hq s₃.heap s₃.toks (fun _ _ e => e))
  · rintro C k v' s₃ m₃ E' Q' hk _ ⟨u, rfl⟩ hn hx k₃ hq
    have hk' : k < rows.length := fulls_lt (aheads_sub hk)
    have T₃ := TB.keeps k₃
    have ke : Ext s.heap s₃.heap := Ext.trans FB.fr.keep k₃
    refine call1 T₃ mf (ff.keeps ke) rfl (by kernel_rfl) (by kernel_rfl) rfl ?_
    refine Subscript_ ?_
    refine ldcc ((cR FB hr₆).keeps k₃) ?_ (by kernel_rfl) (by kernel_rfl) (by kernel_rfl)
    refine ldc hn hx ?_ (by kernel_rfl) (by kernel_rfl)
    obtain ⟨t8, e8⟩ := row_get hS hk'
    refine lst_at (hll _ ke) e8 (by omega) ⟨Kp.refl _, ?_⟩ ⟨_, rfl⟩
    refine c_front T₃ (ff.keeps ke) (r'.less (by omega)) (by have := row_len hml k; omega) fun t9 h₄ tk₄ k₄ => ?_
    exact hq _ _ _ [] k₄ ⟨_, rfl⟩ (by simp)
  intro dH hC tkC mC hvs FC eC oC qC ndH pH aH
  replace aH : Ss hvs.toList (headsP rows) := by
    rw [filter_true] at aH
    exact aH.imp fun y b ⟨_, r, _⟩ => r
  replace ndH : s.heap.get? dH = none := new_of FB.fr.keep ndH
  replace pF := qC.plain pF
  replace pC := qC.plain pC
  replace pS := qC.plain pS
  have hSC := (oC "starts" (by decide)).trans eB
  have TC := T.keeps FC.fr.keep
  try dsimp only
  refine wpAny_execs_cons ?_
  refine wpAny_If (wpAny_isTrue_Compare1 ?_)
  refine ldK (c := L + 3) FC e₆ ?_ (by kernel_rfl) (by kernel_rfl) (by kernel_rfl)
  refine wpAny_List (wpAny_items_nil ⟨by rw [sizeLine_eq]; simp, ?_⟩)
  have kD : Ext hC (hC.push { cls := .type "list", data := .seq ([] : List Value).toArray }) := fun b o e => Heap.get?_push_of_some _ e
  have pD : (hC.push { cls := .type "list", data := .seq ([] : List Value).toArray }).PlainList hC.objs.size #[] := ⟨_, Heap.get?_push_size _ rfl⟩
  try dsimp only
  generalize hC.push { cls := .type "list", data := .seq ([] : List Value).toArray } = hD at kD pD ⊢
  refine eq_nil (s := { s with heap := hD, toks := _ }) (ext_plain kD pC).isList pD.isList r'.un' (wpAny_truthy_bool ?_)
  have FD := FC.ext kD
  replace pF := ext_plain kD pF
  replace pC := ext_plain kD pC
  replace pS := ext_plain kD pS
  replace pH := ext_plain kD pH
  have TD := TC.keeps kD
  match hcs : closes rows with
  | [] =>
    refine PySem.W.ite_pos (by simpa using hcl.mpr hcs) ?_
    have hhl := aH.length
    simp only [Array.length_toList] at hhl
    have hhl2 : (headsP rows).length ≤ 1000 := by unfold headsP; rw [List.length_map]; omega
    refine wpAny_execs_cons ?_
    refine wpAny_Return_some ?_
    refine wpAny_List ?_
    refine wpAny_items_cons ?_
    refine ldL FD hSC ?_ (by kernel_rfl) (by kernel_rfl)
    refine wpAny_items_cons ?_
    refine wpAny_BinOp ?_
    refine Subscript_ ?_
    refine ldL FD eC ?_ (by kernel_rfl) (by kernel_rfl)
    refine wpAny_Slice (wpAny_evalPart_none (wpAny_evalPart_some (wpAny_UnaryOp (wpAny_Constant_int (PySem.P.neg_int (wpAny_evalPart_none ?_))))))
    refine lst_slice (s := { s with heap := hD, toks := _ }) (sub_list pH) .none (.int (-1) _) (by simp; omega) (fun D5 h5 k5 n5 pl5 => ?_) ⟨_, rfl⟩
    have e5 : slicePick hvs.toList.toArray none (some (-1)) none = (hvs.toList.take (hvs.toList.toArray.size - 1)).toArray := slicePick_butLast _ 1 (by decide)
    rw [e5] at pl5
    have F5 := FD.ext k5
    refine lcomp (xs := (headsP rows).drop ((headsP rows).length - 1)) (V := fun l v => IsS v l) (p := fun _ => true) (f := fun l => back l) (R := RS) (fun _ _ _ _ _ h _ => h) (cl := []) (by kernel_rfl) (by decide +kernel) (by kernel_rfl) (by decide +kernel) (by decide +kernel) (by rw [List.length_drop]; omega) ?_
    refine Subscript_ ?_
    refine ldL F5 eC ?_ (by kernel_rfl) (by kernel_rfl)
    refine wpAny_Slice (wpAny_evalPart_some (wpAny_UnaryOp (wpAny_Constant_int (PySem.P.neg_int (wpAny_evalPart_none (wpAny_evalPart_none ?_))))))
    refine lst_slice (s := { s with heap := h5, toks := _ }) (sub_list (ext_plain k5 pH)) (.int (-1) _) .none (by simp; omega) (fun D6 h6 k6 n6 pl6 => ?_) ⟨_, rfl⟩
    have e6 : slicePick hvs.toList.toArray (some (-1)) none none = (hvs.toList.drop (hvs.toList.toArray.size - 1)).toArray := slicePick_last _ 1 (by decide)
    rw [e6] at pl6
    have es : hvs.toList.toArray.size = (headsP rows).length := by simpa using hhl
    rw [es] at pl5 pl6
    refine ⟨src_list r'.hh pl6.isList (aH.drop _), ?_, ?_, ?_⟩
    · rintro C l v' s₃ m₃ E' Q' hk ⟨u, rfl⟩ hn hx k₄ hq
      exact wpAny_tests_nil (hq s₃.heap s₃.toks (fun _ _ e => e))
    · rintro C l v' s₃ m₃ E' Q' hk _ ⟨u, rfl⟩ hn hx k₃ hq
      have ke : Ext s.heap s₃.heap := Ext.trans (F5.ext k6).fr.keep k₃
      have T₃ := T.keeps ke
      refine call1 T₃ mb (fb.keeps ke) rfl (by kernel_rfl) (by kernel_rfl) rfl ?_
      refine ldc hn hx ⟨Kp.refl _, ?_⟩ (by kernel_rfl) (by kernel_rfl)
      refine c_back T₃ (fb.keeps ke) (r'.less (by omega)) ?_ fun t9 h₄ tk₄ k₄ => ?_
      · have hl' := List.mem_of_mem_drop hk
        unfold headsP at hl'
        obtain ⟨k, _, rfl⟩ := List.mem_map.mp hl'
        have := row_len hml k
        have := front_len (rowAt rows k)
        omega
      · exact hq _ _ _ [] k₄ ⟨_, rfl⟩ (by simp)
    intro D7 h7 tk7 bvs k7 nd7 p7 a7
    replace a7 : Ss bvs.toList (((headsP rows).drop ((headsP rows).length - 1)).map back) := by
      rw [filter_true] at a7
      exact a7.imp fun y b ⟨_, r, _⟩ => r
    have l7 := a7.length
    have k57 : Ext h5 h7 := Ext.trans k6 k7
    refine add_ll (ext_plain k57 pl5).isList p7.isList (by rw [sizeLine_eq]; simp at l7 ⊢; omega) ?_
    have aT : Ss ((hvs.toList.take ((headsP rows).length - 1)).toArray ++ bvs).toList (lastHeads (headsP rows)) := by
      rw [Array.toList_append]
      exact All2.append (aH.take _) a7
    generalize (hvs.toList.take ((headsP rows).length - 1)).toArray ++ bvs = nvs at aT
    have k8 : Ext h7 (h7.push { cls := .type "list", data := .seq nvs }) := fun b o e => Heap.get?_push_of_some _ e
    have p8 : (h7.push { cls := .type "list", data := .seq nvs }).PlainList h7.objs.size nvs := ⟨_, Heap.get?_push_size _ rfl⟩
    have n8 : s.heap.get? h7.objs.size = none := new_of (Ext.trans F5.fr.keep k57) (get_new h7)
    try dsimp only
    generalize h7.push { cls := .type "list", data := .seq nvs } = h8 at k8 p8 ⊢
    generalize h7.objs.size = dN at p8 n8 ⊢
    refine wpAny_items_cons ?_
    refine k_empty fun t9 tk9 => ?_
    refine wpAny_items_nil ⟨by rw [sizeLine_eq]; simp, ?_⟩
    have k9 : Ext h8 (h8.push { cls := .type "list", data := .seq [Value.ref dS, .ref dN, .str (S []) t9].toArray }) := fun b o e => Heap.get?_push_of_some _ e
    have kDD : Ext hD h8 := Ext.trans k5 (Ext.trans k57 k8)
    have eR : toldR rows = [] := by unfold toldR; rw [hcs]
    have eH : toldH rows = lastHeads (headsP rows) := by unfold toldH; rw [hcs]
    refine hQ _ dS dN svs nvs t9 _ _ (Ext.trans FD.fr.keep (Ext.trans kDD k9)) ?_ (ext_plain k9 (ext_plain kDD pS)) (ext_plain k9 p8) aS (by rw [eH]; exact aT) (new_of (Ext.trans FD.fr.keep kDD) (get_new h8)) nS n8
    rw [eR]
    exact ⟨_, Heap.get?_push_size _ rfl⟩
  | c :: cr =>
    refine PySem.W.ite_neg (by simp only [decide_eq_true_eq]; intro e; rw [hcl.mp e] at hcs; cases hcs) ?_
    refine wpAny_execs_nil ?_
    have hcf : c ∈ fulls rows := closes_sub (by rw [hcs]; exact List.mem_cons_self)
    have hcn : c < rows.length := fulls_lt hcf
    obtain ⟨vc, e8, t8, rfl⟩ := aC.getR (i := 0) (b := c) (by rw [hcs]; rfl)
    have hfl := aF.length
    have hfn := fulls_len rows
    simp only [Array.length_toList] at hfl
    have hlm : lastF rows ∈ fulls rows ∧ (fulls rows).getLast? = some (lastF rows) := by
      unfold lastF
      cases e : (fulls rows).getLast? with
      | none => rw [List.getLast?_eq_none_iff] at e; rw [e] at hcf; cases hcf
      | some x => exact ⟨List.mem_of_getLast? e, rfl⟩
    have hln : lastF rows < rows.length := fulls_lt hlm.1
    have hl0 : ∃ t, fvs.toList.getLast? = some (.int (lastF rows : Nat) t) := by
      have h2 := hlm.2
      rw [List.getLast?_eq_getElem?] at h2 ⊢
      obtain ⟨v, e, t, rfl⟩ := aF.getR h2
      refine ⟨t, ?_⟩
      rw [aF.length]
      exact e
    obtain ⟨tl, hl0⟩ := hl0
    generalize hz : lastF rows = z at hlm hln hl0
    -- first
    refine wpAny_execs_cons ?_
    refine wpAny_Assign_Name ?_ ?_
    case refine_2 => exact sw_sub
    refine Subscript_ ?_
    refine ldK (c := L + 3) FD e₆ ?_ (by kernel_rfl) (by kernel_rfl) (by kernel_rfl)
    refine wpAny_Constant_int ?_
    refine lst_at (k := 0) (vs := cvs.toList) (sub_list pC) e8 (by omega) ?_ ⟨_, rfl⟩
    refine stL (s := { s with heap := hD, toks := _ }) FD (fun hE tkE mE FE eE oE qE => ?_) (by kernel_rfl) (by kernel_rfl)
    replace qE : Kq hD hE := qE
    replace pF := qE.plain pF
    replace pS := qE.plain pS
    replace pH := qE.plain pH
    have hSE := (oE "starts" (by decide)).trans hSC
    have hHE := (oE "heads" (by decide)).trans eC
    -- last
    refine wpAny_execs_cons ?_
    refine wpAny_Assign_Name ?_ ?_
    case refine_2 => exact sw_sub
    refine Subscript_ ?_
    refine ldK (c := L + 2) FE hf₆ ?_ (by kernel_rfl) (by kernel_rfl) (by kernel_rfl)
    refine wpAny_UnaryOp (wpAny_Constant_int (PySem.P.neg_int ?_))
    refine lst_last (vs := fvs.toList) (sub_list pF) hl0 (by simp; omega) ?_ ⟨_, rfl⟩
    refine stL (s := { s with heap := hE, toks := _ }) FE (fun hG tkG mG FG eG oG qG => ?_) (by kernel_rfl) (by kernel_rfl)
    replace qG : Kq hE hG := qG
    replace pS := qG.plain pS
    replace pH := qG.plain pH
    have hSG := (oG "starts" (by decide)).trans hSE
    have hHG := (oG "heads" (by decide)).trans hHE
    have hcG := (oG "first" (by decide)).trans eE
    have TG := T.keeps FG.fr.keep
    -- rest
    refine wpAny_execs_cons ?_
    refine wpAny_Assign_Name ?_ ?_
    case refine_2 => exact sw_bin
    refine wpAny_BinOp ?_
    refine wpAny_BinOp ?_
    refine wpAny_List ?_
    refine wpAny_items_cons ?_
    refine call1 TG mf (ff.keeps FG.fr.keep) rfl (by kernel_rfl) (by kernel_rfl) rfl ?_
    refine Subscript_ ?_
    refine ldK (c := L + 1) FG hr₆ ?_ (by kernel_rfl) (by kernel_rfl) (by kernel_rfl)
    refine ldL FG hcG ?_ (by kernel_rfl) (by kernel_rfl)
    obtain ⟨ta, ea⟩ := row_get hS hcn
    refine lst_at (hll _ FG.fr.keep) ea (by omega) ⟨Kp.refl _, ?_⟩ ⟨_, rfl⟩
    refine c_front TG (ff.keeps FG.fr.keep) (r'.less (by omega)) (by have := row_len hml c; omega) fun tb hH' tkH kH => ?_
    refine wpAny_items_nil ⟨by rw [sizeLine_eq]; simp, ?_⟩
    have k1 : Ext hH' (hH'.push { cls := .type "list", data := .seq [Value.str (S (front (rowAt rows c))) tb].toArray }) := fun b o e => Heap.get?_push_of_some _ e
    have p1 : (hH'.push { cls := .type "list", data := .seq [Value.str (S (front (rowAt rows c))) tb].toArray }).PlainList hH'.objs.size #[Value.str (S (front (rowAt rows c))) tb] := ⟨_, Heap.get?_push_size _ rfl⟩
    try dsimp only
    generalize hH'.push { cls := .type "list", data := .seq [Value.str (S (front (rowAt rows c))) tb].toArray } = g1 at k1 p1 ⊢
    generalize hH'.objs.size = d1 at p1 ⊢
    have kG1 : Ext hG g1 := Ext.trans kH k1
    have FG1 := FG.ext kG1
    refine Subscript_ ?_
    refine ldK (c := L + 1) FG1 hr₆ ?_ (by kernel_rfl) (by kernel_rfl) (by kernel_rfl)
    refine wpAny_Slice ?_
    refine wpAny_evalPart_some ?_
    refine wpAny_BinOp ?_
    refine ldL FG1 hcG ?_ (by kernel_rfl) (by kernel_rfl)
    refine wpAny_Constant_int ?_
    refine addn (b := 1) fun tc tkc => ?_
    refine wpAny_evalPart_some ?_
    refine ldL FG1 eG ?_ (by kernel_rfl) (by kernel_rfl)
    refine wpAny_evalPart_none ?_
    refine lst_slice (s := { s with heap := g1, toks := _ }) (hll _ FG1.fr.keep) (.int _ _) (.int _ _) (by omega) (fun D2 g2 k2 n2 p2 => ?_) ⟨_, rfl⟩
    have e2 : slicePick vs.toArray (some ((c + 1 : Nat) : Int)) (some ((z : Nat) : Int)) none = ((vs.drop (c + 1)).take (z - (c + 1))).toArray := by
      rw [slicePick_plain]
      simp only [Option.elim, clipAt_nat]
      rw [Nat.min_eq_left (by simp; omega), Nat.min_eq_left (by simp; omega)]
    rw [e2] at p2
    have a2' : Ss ((vs.drop (c + 1)).take (z - (c + 1))) ((rows.drop (c + 1)).take (z - (c + 1))) := (hS.drop _).take _
    refine add_ll (ext_plain k2 p1).isList p2.isList (by rw [sizeLine_eq]; simp; omega) ?_
    have a3 : Ss (#[Value.str (S (front (rowAt rows c))) tb] ++ ((vs.drop (c + 1)).take (z - (c + 1))).toArray).toList ([front (rowAt rows c)] ++ (rows.drop (c + 1)).take (z - (c + 1))) := by
      rw [Array.toList_append]
      exact All2.append (.cons ⟨_, rfl⟩ .nil) a2'
    have s3 : (#[Value.str (S (front (rowAt rows c))) tb] ++ ((vs.drop (c + 1)).take (z - (c + 1))).toArray).size ≤ 2000 := by simp; omega
    generalize #[Value.str (S (front (rowAt rows c))) tb] ++ ((vs.drop (c + 1)).take (z - (c + 1))).toArray = xvs at a3 s3
    have k3 : Ext g2 (g2.push { cls := .type "list", data := .seq xvs }) := fun b o e => Heap.get?_push_of_some _ e
    have p3 : (g2.push { cls := .type "list", data := .seq xvs }).PlainList g2.objs.size xvs := ⟨_, Heap.get?_push_size _ rfl⟩
    try dsimp only
    generalize g2.push { cls := .type "list", data := .seq xvs } = g3 at k3 p3 ⊢
    generalize g2.objs.size = d3 at p3 ⊢
    have kG3 : Ext hG g3 := Ext.trans kG1 (Ext.trans k2 k3)
    have FG3 := FG.ext kG3
    have TG3 := T.keeps FG3.fr.keep
    refine wpAny_List ?_
    refine wpAny_items_cons ?_
    refine call1 TG3 mb (fb.keeps FG3.fr.keep) rfl (by kernel_rfl) (by kernel_rfl) rfl ?_
    refine Subscript_ ?_
    refine ldK (c := L + 1) FG3 hr₆ ?_ (by kernel_rfl) (by kernel_rfl) (by kernel_rfl)
    refine ldL FG3 eG ?_ (by kernel_rfl) (by kernel_rfl)
    obtain ⟨td, ed⟩ := row_get hS hln
    refine lst_at (hll _ FG3.fr.keep) ed (by omega) ⟨Kp.refl _, ?_⟩ ⟨_, rfl⟩
    refine c_back TG3 (fb.keeps FG3.fr.keep) (r'.less (by omega)) (by have := row_len hml z; omega) fun te g4 tk4 k4 => ?_
    refine wpAny_items_nil ⟨by rw [sizeLine_eq]; simp, ?_⟩
    have k5 : Ext g4 (g4.push { cls := .type "list", data := .seq [Value.str (S (back (rowAt rows z))) te].toArray }) := fun b o e => Heap.get?_push_of_some _ e
    have p5 : (g4.push { cls := .type "list", data := .seq [Value.str (S (back (rowAt rows z))) te].toArray }).PlainList g4.objs.size #[Value.str (S (back (rowAt rows z))) te] := ⟨_, Heap.get?_push_size _ rfl⟩
    try dsimp only
    generalize g4.push { cls := .type "list", data := .seq [Value.str (S (back (rowAt rows z))) te].toArray } = g5 at k5 p5 ⊢
    generalize g4.objs.size = d5 at p5 ⊢
    have k35 : Ext g3 g5 := Ext.trans k4 k5
    refine add_ll (ext_plain k35 p3).isList p5.isList (by rw [sizeLine_eq]; simp; omega) ?_
    have a6 : Ss (xvs ++ #[Value.str (S (back (rowAt rows z))) te]).toList (restL rows c) := by
      rw [Array.toList_append]
      unfold restL
      rw [hz]
      exact All2.append a3 (.cons ⟨_, rfl⟩ .nil)
    generalize xvs ++ #[Value.str (S (back (rowAt rows z))) te] = yvs at a6
    have k6 : Ext g5 (g5.push { cls := .type "list", data := .seq yvs }) := fun b o e => Heap.get?_push_of_some _ e
    have p6 : (g5.push { cls := .type "list", data := .seq yvs }).PlainList g5.objs.size yvs := ⟨_, Heap.get?_push_size _ rfl⟩
    try dsimp only
    generalize g5.push { cls := .type "list", data := .seq yvs } = g6 at k6 p6 ⊢
    generalize g5.objs.size = d6 at p6 ⊢
    have kG6 : Ext hG g6 := Ext.trans kG3 (Ext.trans k35 k6)
    have FG6 := FG.ext kG6
    refine stL (s := { s with heap := g6, toks := _ }) FG6 (fun g7 tk7 m7 F7 e7 o7 q7 => ?_) (by kernel_rfl) (by kernel_rfl)
    replace q7 : Kq g6 g7 := q7
    replace pS := q7.plain (ext_plain kG6 pS)
    replace pH := q7.plain (ext_plain kG6 pH)
    replace p6 := q7.plain p6
    have hS7 := (o7 "starts" (by decide)).trans hSG
    have hH7 := (o7 "heads" (by decide)).trans hHG
    refine wpAny_execs_cons ?_
    refine wpAny_Return_some ?_
    refine wpAny_List ?_
    refine wpAny_items_cons ?_
    refine ldL F7 hS7 ?_ (by kernel_rfl) (by kernel_rfl)
    refine wpAny_items_cons ?_
    refine ldL F7 hH7 ?_ (by kernel_rfl) (by kernel_rfl)
    refine wpAny_items_cons ?_
    refine Call_method1 ?_ ?_ ?_ ?_
    · rfl
    · rfl
    · rfl
    refine k_nl fun t8 tk8 => ?_
    refine join_on (sep := [10]) ?_
    refine ldL F7 e7 ?_ (by kernel_rfl) (by kernel_rfl)
    refine ⟨d6, yvs, restL rows c, rfl, p6.isList, a6, ?_, fun t' k' => ?_⟩
    · have hb : ∀ l ∈ restL rows c, l.length ≤ 1000 := by
        intro l hl
        unfold restL at hl
        simp only [List.mem_append, List.mem_cons, List.not_mem_nil, or_false] at hl
        rcases hl with (rfl | hl) | rfl
        · exact Nat.le_trans (front_len _) (row_len hml c)
        · exact hml l (List.mem_of_mem_drop (List.mem_of_mem_take hl))
        · exact Nat.le_trans (back_len _) (row_len hml _)
      have h1 := sum_le _ _ hb
      have h2 : (restL rows c).length ≤ 1002 := by
        unfold restL
        simp only [List.length_append, List.length_cons, List.length_nil, List.length_take, List.length_drop]
        omega
      simp only [List.length_cons, List.length_nil]
      have h3 : 1000 * (restL rows c).length ≤ 1000 * 1002 := Nat.mul_le_mul_left _ h2
      omega
    refine wpAny_items_nil ⟨by rw [sizeLine_eq]; simp, ?_⟩
    have k9 : Ext g7 (g7.push { cls := .type "list", data := .seq [Value.ref dS, .ref dH, .str (S (joinL [10] (restL rows c))) t'].toArray }) := fun b o e => Heap.get?_push_of_some _ e
    have eR : toldR rows = joinL [10] (restL rows c) := by unfold toldR; rw [hcs]
    have eH : toldH rows = headsP rows := by unfold toldH; rw [hcs]
    refine hQ _ dS dH svs hvs t' _ _ (Ext.trans F7.fr.keep k9) ?_ (ext_plain k9 pS) (ext_plain k9 pH) aS (by rw [eH]; exact aH) (new_of F7.fr.keep (get_new g7)) nS ndH
    rw [eR]
    exact ⟨_, Heap.get?_push_size _ rfl⟩
end
end Mine
end

section
open PySem PySem.W PyProof.Rows PySem.Builtin PySem.Builtin.Str
namespace Mine

def drawnP (ns : List Int) : List (List Nat) := (rowsP ns).map fun row => joinL [] (row.map (·.1))
def dueP (ns : List Int) : List (List Nat) := (rowsP ns).map fun row => joinL [] (row.map (·.2))
def docP (ns : List Int) : List Nat := joinL [10] (drawnP ns)

structure PlainLaw (ns : List Int) : Prop where
  heads : (chain (docP ns)).2 = (toldH (drawnP ns), toldR (drawnP ns))
  taken : (chain (docP ns)).1.map (fun d => (chain (prep d)).2) = (startsP (drawnP ns)).map fun k => (toldH ((dueP ns).drop k), toldR ((dueP ns).drop k))
  docs : ∀ d ∈ (chain (docP ns)).1, d.length ≤ 300
  rows : (rowsP ns).length ≤ 100
  wide : ∀ r ∈ rowsP ns, r.length ≤ 100
  sd : ∀ r ∈ rowsP ns, ∀ d ∈ r, d.1.length ≤ 4 ∧ d.2.length ≤ 4

/-- heads and rest, as a list of two -/
def HR (h : Heap) (y : Value) (d : List (List Nat) × List Nat) (as : List Addr) : Prop := ∃ p q hvs t, y = .ref p ∧ h.PlainList p #[.ref q, .str (S d.2) t] ∧ h.PlainList q hvs ∧ Ss hvs.toList d.1 ∧ as = [p, q]
theorem HR.keep (h h' : Heap) (y : Value) (d : List (List Nat) × List Nat) (as : List Addr) (x : HR h y d as) (k : ∀ z ∈ as, ∀ o, h.get? z = some o → h'.get? z = some o) : HR h' y d as := by
  obtain ⟨p, q, hvs, t, e, a, b, c, rfl⟩ := x
  exact ⟨p, q, hvs, t, e, a.at (k p (by simp)), b.at (k q (by simp)), c, rfl⟩
theorem HR.ext {h h' : Heap} {y : Value} {d : List (List Nat) × List Nat} {as : List Addr} (x : HR h y d as) (k : Ext h h') : HR h' y d as := HR.keep _ _ _ _ _ x fun z _ o e => k z o e

section
variable {w : World} {mg : Str → Option Value} {A : Around} {E : Value → Shared → Prop} {s : Shared}
open SeqAt

theorem all_t (n : Nat) : (List.range n).all (fun _ => true) = true := by simp

theorem eq_strs {p q : Addr} {us vs : Array Value} {ls : List (List Nat)} (hp : s.heap.PlainList p us) (hq : s.heap.PlainList q vs) (hu : Ss us.toList ls) (hv : Ss vs.toList ls) (hA : A.units < cLine) : EqAt A s (.ref p) (.ref q) true := by
  by_cases e : p = q
  · subst e; exact EqAt.same _
  · have l1 := hu.length
    have l2 := hv.length
    simp only [Array.length_toList] at l1 l2
    have := RcAt.lists (A := A) (e := fun _ => true) hp.isList hq.isList (by omega) hA fun j h1 h2 => ?_
    · rw [all_t] at this
      exact EqAt.of_refs e this
    · obtain ⟨b, eb, t, e1⟩ := All2.get hu (i := j) (a := us[j]) (by simp [h1])
      obtain ⟨b', eb', t', e2⟩ := All2.get hv (i := j) (a := vs[j]) (by simp [h2])
      rw [eb] at eb'
      cases eb'
      rw [e1, e2]
      have := EqAt.str_str (A := A.in1) (s := s) (S b) t (S b) t'
      rwa [beq_self_eq_true] at this

theorem eq_two {q q' : Addr} {us vs : Array Value} {ls : List (List Nat)} {r : List Nat} {t t' : Tok} (hq : s.heap.PlainList q us) (hq' : s.heap.PlainList q' vs) (hu : Ss us.toList ls) (hv : Ss vs.toList ls) (hA : A.units + 2 < cLine) :
    ∀ j (h1 : j < (#[Value.ref q, .str (S r) t] : Array Value).size) (h2 : j < (#[Value.ref q', .str (S r) t'] : Array Value).size), EqAt A.in1 s (#[Value.ref q, .str (S r) t] : Array Value)[j] (#[Value.ref q', .str (S r) t'] : Array Value)[j] true := by
  intro j h1 h2
  match j, h1, h2 with
  | 0, _, _ => exact eq_strs hq hq' hu hv (by show A.units + 1 < _; omega)
  | 1, _, _ =>
    have := EqAt.str_str (A := A.in1) (s := s) (S r) t (S r) t'
    rw [beq_self_eq_true] at this
    exact this

theorem eq_hr {y y' : Value} {d : List (List Nat) × List Nat} {as as' : List Addr} (x : HR s.heap y d as) (x' : HR s.heap y' d as') (hA : A.units + 2 < cLine) : EqAt A s y y' true := by
  obtain ⟨p, q, us, t, rfl, a, b, c, rfl⟩ := x
  obtain ⟨p', q', vs, t', rfl, a', b', c', rfl⟩ := x'
  by_cases e : p = p'
  · subst e; exact EqAt.same _
  · have := RcAt.lists (A := A) (e := fun _ => true) a.isList a'.isList rfl (by omega) (eq_two b b' c c' hA)
    rw [all_t] at this
    exact EqAt.of_refs e this

/-- two lists of heads and rests -/
theorem eq_hrs {p q : Addr} {us vs : Array Value} {ds : List (List (List Nat) × List Nat)} {Q : Value → Shared → Prop} (hp : s.heap.PlainList p us) (hq : s.heap.PlainList q vs) (hu : All2 (fun y d => ∃ as, HR s.heap y d as) us.toList ds) (hv : All2 (fun y d => ∃ as, HR s.heap y d as) vs.toList ds) (hA : A.units + 3 < cLine)
    (h : Q (.bool true) s) : wpAny (model pw w) A (compareOp .Eq (.ref p) (.ref q)) Q E s := by
  have l1 := hu.length
  have l2 := hv.length
  simp only [Array.length_toList] at l1 l2
  refine eq_listAt (e := fun _ => true) hp.isList hq.isList (by omega) (by omega) (fun j h1 h2 => ?_) (by rw [all_t]; exact h)
  obtain ⟨b, eb, as, x⟩ := hu.get (i := j) (a := us[j]) (by simp [h1])
  obtain ⟨b', eb', as', x'⟩ := hv.get (i := j) (a := vs[j]) (by simp [h2])
  rw [eb] at eb'
  cases eb'
  exact eq_hr x x' (by show A.units + 1 + 2 < _; omega)

theorem ne_hr {p p' q q' : Addr} {us vs : Array Value} {ls : List (List Nat)} {r : List Nat} {t t' : Tok} {Q : Value → Shared → Prop} (hp : s.heap.PlainList p #[.ref q, .str (S r) t]) (hp' : s.heap.PlainList p' #[.ref q', .str (S r) t']) (hq : s.heap.PlainList q us) (hq' : s.heap.PlainList q' vs) (hu : Ss us.toList ls) (hv : Ss vs.toList ls) (hA : A.units + 2 < cLine)
    (h : Q (.bool false) s) : wpAny (model pw w) A (compareOp .NotEq (.ref p) (.ref p')) Q E s := by
  have := RcNeAt.lists (A := A) (e := fun _ => true) hp.isList hp'.isList rfl (by omega) (eq_two hq hq' hu hv hA)
  rw [all_t] at this
  exact this _ _ _ _ h
end

theorem ch_len : ∀ (n : Nat) (l : List Nat), (ch n l).1.length ≤ n
  | 0, l => Nat.le_refl 0
  | n + 1, l => by
    unfold ch
    split
    · exact Nat.zero_le _
    · exact Nat.succ_le_succ (ch_len n _)
theorem chain_len (l : List Nat) : (chain l).1.length ≤ l.length + 1 := Nat.succ_le_succ (ch_len _ _)

theorem joinE_len : ∀ ls : List (List Nat), (joinL [] ls).length = (ls.map (·.length)).sum
  | [] => rfl
  | [x] => by simp [joinL]
  | x :: y :: r => by
    have := joinE_len (y :: r)
    simp only [joinL, List.append_nil, List.length_append, List.map_cons, List.sum_cons] at this ⊢
    omega

theorem PlainLaw.row1 {ns : List Int} (P : PlainLaw ns) : ∀ x ∈ drawnP ns, x.length ≤ 400 := by
  intro x hx
  unfold drawnP at hx
  obtain ⟨row, hr, rfl⟩ := List.mem_map.mp hx
  rw [joinE_len]
  have h1 := sum_le (row.map (·.1)) 4 (fun l hl => by obtain ⟨d, hd, rfl⟩ := List.mem_map.mp hl; exact (P.sd row hr d hd).1)
  have h2 := P.wide row hr
  rw [List.length_map] at h1
  omega
theorem PlainLaw.row2 {ns : List Int} (P : PlainLaw ns) : ∀ x ∈ dueP ns, x.length ≤ 400 := by
  intro x hx
  unfold dueP at hx
  obtain ⟨row, hr, rfl⟩ := List.mem_map.mp hx
  rw [joinE_len]
  have h1 := sum_le (row.map (·.2)) 4 (fun l hl => by obtain ⟨d, hd, rfl⟩ := List.mem_map.mp hl; exact (P.sd row hr d hd).2)
  have h2 := P.wide row hr
  rw [List.length_map] at h1
  omega

section
variable {w : World} {mg : Str → Option Value} {A : Around} {E : Value → Shared → Prop} {s : Shared}

set_option maxHeartbeats 4000000 in
set_option maxRecDepth 100000 in
theorem c_law {a l : Addr} {vs : List Value} {ns : List Int} {Q : Value → Shared → Prop} (T : TF w mg s.heap) (hf : FnI s.heap a 17 "law") (r : Rm 5 A) (hl : s.heap.IsList l vs.toArray) (hi : IntsAre vs ns) (hn : ns.length ≤ 63) (P : PlainLaw ns)
    (hQ : ∀ h' tk, Ext s.heap h' → Q (.bool true) { s with heap := h', toks := tk }) : wpAny (model pw w) A (call (.ref a) [.ref l]) Q E s := by
  refine enterC (binds := [("script", .ref l)]) T hf r (fun _ _ _ => by unfold st; kernel_rfl) (fun _ => by kernel_rfl) (fun L cd h₁ tk m₁ cm₁ A' r' F hm hcm T₁ => ?_) (by kernel_rfl) (by kernel_rfl) (by kernel_rfl)
  have hs₁ := hm "script" (.ref l) (by kernel_rfl)
  obtain ⟨ar, mr, fr⟩ := T.fn (11, "_law_rows") (by decide)
  obtain ⟨at', mt, ft⟩ := T.fn (14, "_law_told") (by decide)
  obtain ⟨ac, mc, fc⟩ := T.fn (15, "_law_chain") (by decide)
  obtain ⟨ap, mp, fp⟩ := T.fn (16, "_law_prepared") (by decide)
  have hrl := P.rows
  unfold st at F ⊢
  -- rows
  refine wpAny_execs_cons ?_
  refine wpAny_Assign_Name ?_ ?_
  case refine_2 => exact sw_call
  refine call1 T₁ mr (fr.keeps F.fr.keep) rfl (by kernel_rfl) (by kernel_rfl) rfl ?_
  refine ldL F hs₁ ⟨Kp.refl _, ?_⟩ (by kernel_rfl) (by kernel_rfl)
  refine c_rows T₁ (fr.keeps F.fr.keep) (r'.less (by omega)) ((Kq.of F.fr.keep).list hl) hi hn fun dR rvs h₂ tk₂ k₂ pR aR => ?_
  have F₂ := F.ext k₂
  refine stL (s := { s with heap := h₂, toks := _ }) F₂ (fun h₃ tk₃ m₃ F₃ e₃ o₃ q₃ => ?_) (by kernel_rfl) (by kernel_rfl)
  replace q₃ : Kq h₂ h₃ := q₃
  replace pR := q₃.plain pR
  replace aR : All2 (RowAt h₃) rvs.toList (rowsP ns) := aR.imp fun v ds ⟨p, us, e, x, y⟩ => ⟨p, us, e, q₃.plain x, y.imp fun _ _ z => z.kq q₃⟩
  have rowV : ∀ h' v ds, Ext h₃ h' → RowAt h₃ v ds → RowAt h' v ds := fun h' v ds k ⟨p, us, e, x, y⟩ => ⟨p, us, e, ext_plain k x, y.imp fun _ _ z => z.ext k⟩
  -- drawn
  refine wpAny_execs_cons ?_
  refine lcompL (g := s.heap) (cm := cm₁) (xs := rowsP ns) (V := fun ds v => RowAt h₃ v ds) (p := fun _ => true) (f := fun row => joinL [] (row.map (·.1))) (R := RS) (fun _ _ _ _ _ h _ => h) (by kernel_rfl) (cl := []) (by kernel_rfl) (by decide +kernel) (by kernel_rfl) (by decide +kernel) (by decide +kernel) (by omega) (by kernel_rfl) (by kernel_rfl) ?_
  refine ldL F₃ e₃ ?_ (by kernel_rfl) (by kernel_rfl)
  refine ⟨_, F₃, src_list r'.hh (sub_list pR) aR, ?_, ?_, ?_⟩
  · rintro C row v' s₃ m₃ E' Q' hk hV hn hx k₄ hq
    exact wpAny_tests_nil (hq s₃.heap s₃.toks (fun _ _ e => e))
  · rintro C row v' s₃ m₃ E' Q' hk _ hV hn hx k₄ hq
    obtain ⟨p, us, rfl, px, py⟩ := rowV _ _ _ k₄ hV
    refine Call_method1 ?_ ?_ ?_ ?_
    · rfl
    · rfl
    · rfl
    refine k_empty fun t7 tk7 => ?_
    refine join_on (sep := []) ?_
    refine lcomp (xs := row) (V := fun d v => Pr s₃.heap v d) (p := fun _ => true) (f := fun d => d.1) (R := RS) (fun _ _ _ _ _ h _ => h) (cl := []) (by kernel_rfl) (by decide +kernel) (by kernel_rfl) (by decide +kernel) (by decide +kernel) (by have := P.wide row hk; omega) ?_
    refine ldc (s := { s₃ with toks := _ }) hn hx ?_ (by kernel_rfl) (by kernel_rfl)
    refine ⟨src_list r'.hh (sub_list px) py, ?_, ?_, ?_⟩
    · rintro C d v' s₄ m₄ E' Q' hk hV hn hx k₄ hq
      exact wpAny_tests_nil (hq s₄.heap s₄.toks (fun _ _ e => e))
    · rintro C d v' s₄ m₄ E' Q' hk _ hV hn hx k₄ hq
      obtain ⟨p', t1, t2, rfl, pz⟩ := hV
      refine Subscript_ ?_
      refine ldc hn hx ?_ (by kernel_rfl) (by kernel_rfl)
      refine wpAny_Constant_int ?_
      refine lst_at (k := 0) (vs := [.str (S d.1) t1, .str (S d.2) t2]) (v := .str (S d.1) t1) (ext_plain k₄ pz).isList rfl (by omega) ?_ ⟨_, rfl⟩
      exact hq _ _ _ [] (fun _ _ e => e) ⟨_, rfl⟩ (by simp)
    intro D h' tk' ys k' hD hpl hall
    rw [filter_true] at hall
    refine ⟨D, ys, row.map (·.1), rfl, hpl.isList, hall.imp fun y b ⟨_, r, _⟩ => r, ?_, fun t' k2 => ?_⟩
    · have h1 := sum_le (row.map (·.1)) 4 (fun l hl => by obtain ⟨d, hd, rfl⟩ := List.mem_map.mp hl; exact (P.sd row hk d hd).1)
      have h2 := P.wide row hk
      rw [List.length_map] at h1
      simp only [List.length_nil, Nat.mul_zero, Nat.add_zero]
      omega
    · exact hq _ _ _ [] k' ⟨_, rfl⟩ (by simp)
  intro dD h₄ tk₄ m₄ dvs F₄ e₄ o₄ q₄ ndD pD aD
  replace q₄ : Kq h₃ h₄ := q₄
  replace aD : Ss dvs.toList (drawnP ns) := by
    rw [filter_true] at aD
    exact aD.imp fun y b ⟨_, r, _⟩ => r
  clear rowV
  replace pR := q₄.plain pR
  replace aR : All2 (RowAt h₄) rvs.toList (rowsP ns) := aR.imp fun v ds ⟨p, us, e, x, y⟩ => ⟨p, us, e, q₄.plain x, y.imp fun _ _ z => z.kq q₄⟩
  have rowV : ∀ h' v ds, Ext h₄ h' → RowAt h₄ v ds → RowAt h' v ds := fun h' v ds k ⟨p, us, e, x, y⟩ => ⟨p, us, e, ext_plain k x, y.imp fun _ _ z => z.ext k⟩
  have hR₄ := (o₄ "rows" (by decide)).trans e₃
  -- due
  try dsimp only
  refine wpAny_execs_cons ?_
  refine wpAny_Assign_Name ?_ ?_
  case refine_2 => kernel_rfl
  refine lcomp (xs := rowsP ns) (V := fun ds v => RowAt h₄ v ds) (p := fun _ => true) (f := fun row => joinL [] (row.map (·.2))) (R := RS) (fun _ _ _ _ _ h _ => h) (cl := []) (by kernel_rfl) (by decide +kernel) (by kernel_rfl) (by decide +kernel) (by decide +kernel) (by omega) ?_
  refine ldL F₄ hR₄ ?_ (by kernel_rfl) (by kernel_rfl)
  refine ⟨src_list r'.hh (sub_list pR) aR, ?_, ?_, ?_⟩
  · rintro C row v' s₃ m₃ E' Q' hk hV hn hx k₄ hq
    exact wpAny_tests_nil (hq s₃.heap s₃.toks (fun _ _ e => e))
  · rintro C row v' s₃ m₃ E' Q' hk _ hV hn hx k₄ hq
    obtain ⟨p, us, rfl, px, py⟩ := rowV _ _ _ k₄ hV
    refine Call_method1 ?_ ?_ ?_ ?_
    · rfl
    · rfl
    · rfl
    refine k_empty fun t7 tk7 => ?_
    refine join_on (sep := []) ?_
    refine lcomp (xs := row) (V := fun d v => Pr s₃.heap v d) (p := fun _ => true) (f := fun d => d.2) (R := RS) (fun _ _ _ _ _ h _ => h) (cl := []) (by kernel_rfl) (by decide +kernel) (by kernel_rfl) (by decide +kernel) (by decide +kernel) (by have := P.wide row hk; omega) ?_
    refine ldc (s := { s₃ with toks := _ }) hn hx ?_ (by kernel_rfl) (by kernel_rfl)
    refine ⟨src_list r'.hh (sub_list px) py, ?_, ?_, ?_⟩
    · rintro C d v' s₄ m₄ E' Q' hk hV hn hx k₄ hq
      exact wpAny_tests_nil (hq s₄.heap s₄.toks (fun _ _ e => e))
    · rintro C d v' s₄ m₄ E' Q' hk _ hV hn hx k₄ hq
      obtain ⟨p', t1, t2, rfl, pz⟩ := hV
      refine Subscript_ ?_
      refine ldc hn hx ?_ (by kernel_rfl) (by kernel_rfl)
      refine wpAny_Constant_int ?_
      refine lst_at (k := 1) (vs := [.str (S d.1) t1, .str (S d.2) t2]) (v := .str (S d.2) t2) (ext_plain k₄ pz).isList rfl (by omega) ?_ ⟨_, rfl⟩
      exact hq _ _ _ [] (fun _ _ e => e) ⟨_, rfl⟩ (by simp)
    intro D h' tk' ys k' hD hpl hall
    rw [filter_true] at hall
    refine ⟨D, ys, row.map (·.2), rfl, hpl.isList, hall.imp fun y b ⟨_, r, _⟩ => r, ?_, fun t' k2 => ?_⟩
    · have h1 := sum_le (row.map (·.2)) 4 (fun l hl => by obtain ⟨d, hd, rfl⟩ := List.mem_map.mp hl; exact (P.sd row hk d hd).2)
      have h2 := P.wide row hk
      rw [List.length_map] at h1
      simp only [List.length_nil, Nat.mul_zero, Nat.add_zero]
      omega
    · exact hq _ _ _ [] k' ⟨_, rfl⟩ (by simp)
  intro dU h₅ tk₅ uvs k₅ ndU pU aU
  replace aU : Ss uvs.toList (dueP ns) := by
    rw [filter_true] at aU
    exact aU.imp fun y b ⟨_, r, _⟩ => r
  have F₅ := F₄.ext k₅
  replace pD := ext_plain k₅ pD
  refine stK (c := L + 1) F₅ (fun h₆ tk₆ cm₆ F₆ e₆ o₆ q₆ => ?_) (by kernel_rfl) (by kernel_rfl) (by kernel_rfl)
  replace q₆ : Kq h₅ h₆ := q₆
  replace pD := q₆.plain pD
  replace pU := q₆.plain pU
  have T₆ := T.keeps F₆.fr.keep
  have hdl : (drawnP ns).length ≤ 100 := by unfold drawnP; rw [List.length_map]; exact hrl
  have hul : (dueP ns).length ≤ 100 := by unfold dueP; rw [List.length_map]; exact hrl
  -- told
  refine wpAny_execs_cons ?_
  refine wpAny_Assign_Name ?_ ?_
  case refine_2 => exact sw_call
  refine call1 T₆ mt (ft.keeps F₆.fr.keep) rfl (by kernel_rfl) (by kernel_rfl) rfl ?_
  refine ldL F₆ e₄ ⟨Kp.refl _, ?_⟩ (by kernel_rfl) (by kernel_rfl)
  refine c_told T₆ (ft.keeps F₆.fr.keep) r' (sub_list pD) aD (by omega) (fun x hx => by have := P.row1 x hx; omega) fun dT dS dH svs hvs tT h₇ tk₇ k₇ pT pS pH aS aH nT nS nH => ?_
  have F₇ := F₆.ext k₇
  refine stL (s := { s with heap := h₇, toks := _ }) F₇ (fun h₈ tk₈ m₈ F₈ e₈ o₈ q₈ => ?_) (by kernel_rfl) (by kernel_rfl)
  replace q₈ : Kq h₇ h₈ := q₈
  replace pD := q₈.plain (ext_plain k₇ pD)
  replace pU := q₈.plain (ext_plain k₇ pU)
  replace pT := q₈.plain pT
  replace pS := q₈.plain pS
  replace pH := q₈.plain pH
  have hD₈ := (o₈ "drawn" (by decide)).trans e₄
  have T₈ := T.keeps F₈.fr.keep
  -- chain
  refine wpAny_execs_cons ?_
  refine wpAny_Assign_Name ?_ ?_
  case refine_2 => exact sw_call
  refine call1 T₈ mc (fc.keeps F₈.fr.keep) rfl (by kernel_rfl) (by kernel_rfl) rfl ?_
  refine Call_method1 ?_ ?_ ?_ ?_
  · rfl
  · rfl
  · rfl
  refine k_nl fun t9 tk9 => ?_
  refine join_on (sep := [10]) ?_
  refine ldL (s := { s with heap := h₈, toks := _ }) F₈ hD₈ ?_ (by kernel_rfl) (by kernel_rfl)
  refine ⟨dD, dvs, drawnP ns, rfl, pD.isList, aD, ?_, fun t' k' => ⟨Kp.refl _, ?_⟩⟩
  · have h1 := sum_le (drawnP ns) 400 P.row1
    simp only [List.length_cons, List.length_nil]
    omega
  have hdoc : (docP ns).length ≤ 300 := P.docs _ (by unfold chain; exact List.mem_cons_self)
  refine c_chain (l := docP ns) T₈ (fc.keeps F₈.fr.keep) (r'.less (by omega)) (by omega) fun dK dO dG ovs gvs tK h₉ tk₉ k₉ pK pO pG aO aG nK nO nG => ?_
  have F₉ := F₈.ext k₉
  refine stL (s := { s with heap := h₉, toks := _ }) F₉ (fun hA tkA mA FA eA oA qA => ?_) (by kernel_rfl) (by kernel_rfl)
  replace qA : Kq h₉ hA := qA
  replace pU := qA.plain (ext_plain k₉ pU)
  replace pT := qA.plain (ext_plain k₉ pT)
  replace pS := qA.plain (ext_plain k₉ pS)
  replace pH := qA.plain (ext_plain k₉ pH)
  replace pK := qA.plain pK
  replace pO := qA.plain pO
  replace pG := qA.plain pG
  have hTA := (oA "told" (by decide)).trans e₈
  have hh := P.heads
  rw [hh] at pK aG
  -- chain[1:] != told[1:]
  refine wpAny_execs_cons ?_
  refine wpAny_If (wpAny_isTrue_Compare1 ?_)
  refine Subscript_ ?_
  refine ldL FA eA ?_ (by kernel_rfl) (by kernel_rfl)
  refine wpAny_Slice (wpAny_evalPart_some (wpAny_Constant_int (wpAny_evalPart_none (wpAny_evalPart_none ?_))))
  refine lst_slice (s := { s with heap := hA, toks := _ }) (sub_list pK) (.int 1 _) .none (by simp) (fun dX hB kB nX pX => ?_) ⟨_, rfl⟩
  replace pX : hB.PlainList dX #[.ref dG, .str (S (toldR (drawnP ns))) tK] := by
    have e : slicePick (#[.ref dO, .ref dG, .str (S (toldR (drawnP ns))) tK] : Array Value).toList.toArray (some 1) none none = #[.ref dG, .str (S (toldR (drawnP ns))) tK] := slicePick_from' _ 1
    rw [← e]; exact pX
  have FB := FA.ext kB
  refine Subscript_ ?_
  refine ldL FB hTA ?_ (by kernel_rfl) (by kernel_rfl)
  refine wpAny_Slice (wpAny_evalPart_some (wpAny_Constant_int (wpAny_evalPart_none (wpAny_evalPart_none ?_))))
  refine lst_slice (s := { s with heap := hB, toks := _ }) (sub_list (ext_plain kB pT)) (.int 1 _) .none (by simp) (fun dY hC kC nY pY => ?_) ⟨_, rfl⟩
  replace pY : hC.PlainList dY #[.ref dH, .str (S (toldR (drawnP ns))) tT] := by
    have e : slicePick (#[.ref dS, .ref dH, .str (S (toldR (drawnP ns))) tT] : Array Value).toList.toArray (some 1) none none = #[.ref dH, .str (S (toldR (drawnP ns))) tT] := slicePick_from' _ 1
    rw [← e]; exact pY
  have kAC : Ext hA hC := Ext.trans kB kC
  have FC := FA.ext kAC
  have hAu : A'.units + 16 < cLine := by have := r'.un; omega
  refine ne_hr (s := { s with heap := hC, toks := _ }) (ext_plain kC pX) pY (ext_plain kAC pG) (ext_plain kAC pH) aG aH (by omega) (wpAny_truthy_bool ?_)
  refine ite_ff ?_
  refine wpAny_execs_nil ?_
  replace pU := ext_plain kAC pU
  replace pT := ext_plain kAC pT
  replace pS := ext_plain kAC pS
  replace pK := ext_plain kAC pK
  replace pO := ext_plain kAC pO
  have TC := T.keeps FC.fr.keep
  -- taken
  refine wpAny_execs_cons ?_
  refine lcompL (g := s.heap) (cm := cm₆) (xs := (chain (docP ns)).1) (V := fun d v => IsS v d) (p := fun _ => true) (f := fun d => (chain (prep d)).2) (R := HR) HR.keep (by kernel_rfl) (cl := []) (by kernel_rfl) (by decide +kernel) (by kernel_rfl) (by decide +kernel) (by decide +kernel) ?_ (by kernel_rfl) (by kernel_rfl) ?_
  · have := chain_len (docP ns); omega
  refine Subscript_ ?_
  refine ldL FC eA ?_ (by kernel_rfl) (by kernel_rfl)
  refine wpAny_Constant_int ?_
  refine lst_at (k := 0) (v := .ref dO) (sub_list pK) rfl (by omega) ?_ ⟨_, rfl⟩
  refine ⟨_, FC, src_list r'.hh (sub_list pO) aO, ?_, ?_, ?_⟩
  · rintro C d v' s₃ m₃ E' Q' hk hV hn hx k₄ hq
    exact wpAny_tests_nil (hq s₃.heap s₃.toks (fun _ _ e => e))
  · rintro C d v' s₃ m₃ E' Q' hk _ ⟨t1, rfl⟩ hn hx k₃ hq
    have ke : Ext s.heap s₃.heap := Ext.trans FC.fr.keep k₃
    have T₃ := T.keeps ke
    refine Subscript_ ?_
    refine call1 T₃ mc (fc.keeps ke) rfl (by kernel_rfl) (by kernel_rfl) rfl ?_
    refine call1 T₃ mp (fp.keeps ke) rfl (by kernel_rfl) (by kernel_rfl) rfl ?_
    refine ldc hn hx ⟨Kp.refl _, ?_⟩ (by kernel_rfl) (by kernel_rfl)
    have hd := P.docs d hk
    refine c_prepared T₃ (fp.keeps ke) (r'.less (by omega)) (by omega) fun t2 g1 tk1 k1 => ⟨Kp.of k1, ?_⟩
    have ke1 := Ext.trans ke k1
    have hpl := prep_len d
    refine c_chain (T.keeps ke1) (fc.keeps ke1) (r'.less (by omega)) (by omega) fun dK' dO' dG' ovs' gvs' tK' g2 tk2 k2 pK' pO' pG' aO' aG' nK' nO' nG' => ?_
    refine wpAny_Slice (wpAny_evalPart_some (wpAny_Constant_int (wpAny_evalPart_none (wpAny_evalPart_none ?_))))
    refine lst_slice (s := { s₃ with heap := g2, toks := _ }) (sub_list pK') (.int 1 _) .none (by simp) (fun dX' g3 k3 nX' pX' => ?_) ⟨_, rfl⟩
    replace pX' : g3.PlainList dX' #[.ref dG', .str (S (chain (prep d)).2.2) tK'] := by
      have e : slicePick (#[.ref dO', .ref dG', .str (S (chain (prep d)).2.2) tK'] : Array Value).toList.toArray (some 1) none none = #[.ref dG', .str (S (chain (prep d)).2.2) tK'] := slicePick_from' _ 1
      rw [← e]; exact pX'
    refine hq _ _ _ [dX', dG'] (Ext.trans k1 (Ext.trans k2 k3)) ⟨dX', dG', gvs', tK', rfl, pX', ext_plain k3 pG', aG', rfl⟩ ?_
    intro z hz
    simp only [List.mem_cons, List.not_mem_nil, or_false] at hz
    rcases hz with rfl | rfl
    · exact new_of (Ext.trans k1 k2) nX'
    · exact new_of k1 nG'
  intro dW hD tkD mD wvs FD eD oD qD ndW pW aW
  replace qD : Kq hC hD := qD
  replace pU := qD.plain pU
  replace pT := qD.plain pT
  replace pS := qD.plain pS
  rw [filter_true, P.taken] at aW
  have hTD := (oD "told" (by decide)).trans hTA
  have TD := T.keeps FD.fr.keep
  have hdue : hD.IsCell (L + 1) (some (.ref dU)) := by
    have := FD.cell "due" (L + 1) (by kernel_rfl)
    rwa [e₆] at this
  -- the last row
  try dsimp only
  refine wpAny_execs_cons ?_
  refine wpAny_Return_some ?_
  refine wpAny_Compare1 ?_
  refine ldL FD eD ?_ (by kernel_rfl) (by kernel_rfl)
  refine lcomp (xs := startsP (drawnP ns)) (V := fun k v => IsI v k) (p := fun _ => true) (f := fun k => (toldH ((dueP ns).drop k), toldR ((dueP ns).drop k))) (R := HR) HR.keep (cl := [("due", L + 1)]) (by kernel_rfl) (by decide +kernel) (by kernel_rfl) (by decide +kernel) (by decide +kernel) ?_ ?_
  · unfold startsP
    have := aheads_len (drawnP ns)
    simp only [List.length_append, List.length_cons, List.length_nil, List.length_map]
    omega
  refine Subscript_ ?_
  refine ldL FD hTD ?_ (by kernel_rfl) (by kernel_rfl)
  refine wpAny_Constant_int ?_
  refine lst_at (k := 0) (v := .ref dS) (sub_list pT) rfl (by omega) ?_ ⟨_, rfl⟩
  refine ⟨src_list r'.hh (sub_list pS) aS, ?_, ?_, ?_⟩
  · rintro C d v' s₃ m₃ E' Q' hk hV hn hx k₄ hq
    exact wpAny_tests_nil (hq s₃.heap s₃.toks (fun _ _ e => e))
  · rintro C k v' s₃ m₃ E' Q' hk _ ⟨t1, rfl⟩ hn hx k₃ hq
    have ke : Ext s.heap s₃.heap := Ext.trans FD.fr.keep k₃
    have T₃ := T.keeps ke
    refine Subscript_ ?_
    refine call1 T₃ mt (ft.keeps ke) rfl (by kernel_rfl) (by kernel_rfl) rfl ?_
    refine Subscript_ ?_
    refine ldcc (hdue.keeps k₃) ?_ (by kernel_rfl) (by kernel_rfl) (by kernel_rfl)
    refine wpAny_Slice (wpAny_evalPart_some (ldc hn hx (wpAny_evalPart_none (wpAny_evalPart_none ?_)) (by kernel_rfl) (by kernel_rfl)))
    have hul2 := aU.length
    simp only [Array.length_toList] at hul2
    refine lst_slice (s := s₃) (sub_list (ext_plain k₃ pU)) (.int _ _) .none (by simp; omega) (fun dV g1 k1 nV pV => ?_) ⟨_, rfl⟩
    have e1 : slicePick uvs.toList.toArray (some (k : Int)) none none = (uvs.toList.drop k).toArray := slicePick_from' _ k
    rw [e1] at pV
    have ke1 := Ext.trans ke k1
    refine ⟨Kp.of k1, ?_⟩
    refine c_told (T.keeps ke1) (ft.keeps ke1) r' pV.isList (aU.drop k) (by rw [List.length_drop]; omega) (fun x hx => by have := P.row2 x (List.mem_of_mem_drop hx); omega) fun dT' dS' dH' svs' hvs' tT' g2 tk2 k2 pT' pS' pH' aS' aH' nT' nS' nH' => ?_
    refine wpAny_Slice (wpAny_evalPart_some (wpAny_Constant_int (wpAny_evalPart_none (wpAny_evalPart_none ?_))))
    refine lst_slice (s := { s₃ with heap := g2, toks := _ }) (sub_list pT') (.int 1 _) .none (by simp) (fun dX' g3 k3 nX' pX' => ?_) ⟨_, rfl⟩
    replace pX' : g3.PlainList dX' #[.ref dH', .str (S (toldR ((dueP ns).drop k))) tT'] := by
      have e : slicePick (#[.ref dS', .ref dH', .str (S (toldR ((dueP ns).drop k))) tT'] : Array Value).toList.toArray (some 1) none none = #[.ref dH', .str (S (toldR ((dueP ns).drop k))) tT'] := slicePick_from' _ 1
      rw [← e]; exact pX'
    refine hq _ _ _ [dX', dH'] (Ext.trans k1 (Ext.trans k2 k3)) ⟨dX', dH', hvs', tT', rfl, pX', ext_plain k3 pH', aH', rfl⟩ ?_
    intro z hz
    simp only [List.mem_cons, List.not_mem_nil, or_false] at hz
    rcases hz with rfl | rfl
    · exact new_of (Ext.trans k1 k2) nX'
    · exact new_of k1 nH'
  intro dZ hE tkE zvs kE ndZ pZ aZ
  rw [filter_true] at aZ
  refine eq_hrs (s := { s with heap := hE, toks := _ }) (ext_plain kE pW) pZ (aW.imp fun y d ⟨as, x, _⟩ => ⟨as, x.ext kE⟩) (aZ.imp fun y d ⟨as, x, _⟩ => ⟨as, x⟩) (by omega) ?_
  exact hQ _ _ (Ext.trans FD.fr.keep kE)
end

theorem callerR : Rm 5 callerA := ⟨rfl, by decide +kernel, by decide +kernel⟩
theorem walk_of (P : ∀ ns, PlainLaw ns) : Walk := by
  intro w mg s₁ a l vs ns T hm hl hi hn _
  obtain ⟨a', hm', hf⟩ := T.fn (17, "law") (by decide)
  rw [show mg (17, ("law" : Str)).2 = some (.ref a) from hm] at hm'
  cases hm'
  exact c_law T hf callerR hl hi hn (P ns) fun h' tk k => ⟨rfl, h', tk, rfl, k⟩
end Mine
end

section
open PySem PySem.W PyProof.Rows PySem.Builtin PySem.Builtin.Str
namespace Mine

/-- white for strip -/
def sp (c : Nat) : Bool := Unicode.isSpace c
theorem ws_eq : ws = [9, 11, 12, 13, 28, 29, 30, 31, 32, 133, 160, 5760, 8192, 8193, 8194, 8195, 8196, 8197, 8198, 8199, 8200, 8201, 8202, 8232, 8233, 8239, 8287, 12288] := by decide +kernel
/-- the signs of a table of ranges -/
def spread (rs : List (Nat × Nat)) : List Nat := rs.flatMap fun r => List.range' r.1 (r.2 + 1 - r.1)
theorem within_spread {c : Nat} : ∀ {rs : List (Nat × Nat)}, Unicode.within rs c = true → c ∈ spread rs
  | [], h => nomatch h
  | (a, b) :: rs, h => by
    rw [spread, List.flatMap_cons, List.mem_append]
    rw [Unicode.within] at h
    by_cases hlt : c < a
    · rw [if_pos hlt] at h; cases h
    · rw [if_neg hlt, Bool.or_eq_true, decide_eq_true_eq] at h
      rcases h with h | h
      · exact .inl (List.mem_range'_1.mpr ⟨by omega, by omega⟩)
      · exact .inr (within_spread h)
theorem space_wh : ∀ c ∈ spread UnicodeData.space, (wh c || decide (c = 10)) = true := by decide +kernel
theorem wh_space : ∀ c ∈ 10 :: ws, sp c = true := by decide +kernel
theorem sp_eq (c : Nat) : sp c = (wh c || decide (c = 10)) := by
  rw [Bool.eq_iff_iff]
  refine ⟨fun h => space_wh c (within_spread h), fun h => wh_space c ?_⟩
  rw [Bool.or_eq_true, decide_eq_true_eq] at h
  rcases h with h | rfl
  · unfold wh at h
    exact List.mem_cons_of_mem _ (by simpa using h)
  · exact List.mem_cons_self
theorem sp_nl : sp 10 = true := by rw [sp_eq]; simp
theorem wh_nl : wh 10 = false := by unfold wh; rw [ws_eq]; decide

def Nf (l : List Nat) : Prop := 10 ∉ l
theorem sp_of_nf {l : List Nat} (h : Nf l) : ∀ c ∈ l, sp c = wh c := by
  intro c hc
  rw [sp_eq]
  have : c ≠ 10 := fun e => h (e ▸ hc)
  simp [this]

def sF (l : List Nat) : List Nat := l.dropWhile sp
def sB (l : List Nat) : List Nat := (sF l.reverse).reverse

theorem dropWhile_congr {p q : Nat → Bool} : ∀ {l : List Nat}, (∀ c ∈ l, p c = q c) → l.dropWhile p = l.dropWhile q
  | [], _ => rfl
  | c :: l, h => by
    rw [List.dropWhile_cons, List.dropWhile_cons, h c List.mem_cons_self, dropWhile_congr (l := l) fun x hx => h x (List.mem_cons_of_mem _ hx)]
theorem sF_nf {l : List Nat} (h : Nf l) : sF l = front l := dropWhile_congr (sp_of_nf h)
theorem sB_nf {l : List Nat} (h : Nf l) : sB l = back l := by
  unfold sB back
  rw [sF_nf (l := l.reverse) (by unfold Nf; rw [List.mem_reverse]; exact h)]

theorem drop_takeWhile (p : Nat → Bool) : ∀ l : List Nat, l.drop (l.takeWhile p).length = l.dropWhile p
  | [] => rfl
  | c :: l => by
    rw [List.takeWhile_cons, List.dropWhile_cons]
    cases h : p c
    · simp
    · simp [drop_takeWhile p l]
theorem take_rev (p : Nat → Bool) (l : List Nat) : l.take (l.length - (l.reverse.takeWhile p).length) = (l.reverse.dropWhile p).reverse := by
  rw [← drop_takeWhile p l.reverse, List.reverse_drop, List.reverse_reverse, List.length_reverse]

theorem stripL_eq (l : List Nat) : stripL l = sB (sF l) := by
  unfold stripL Txt.strip
  rw [PySem.W.stripBy_eq]
  unfold PySem.W.stripped
  rw [StrLaws.strSub_toList]
  show (l.drop (l.takeWhile sp).length).take (l.length - ((l.drop (l.takeWhile sp).length).reverse.takeWhile sp).length - (l.takeWhile sp).length) = _
  have h1 : (l.takeWhile sp).length ≤ l.length := (List.takeWhile_sublist _).length_le
  have h2 : (l.drop (l.takeWhile sp).length).length = l.length - (l.takeWhile sp).length := List.length_drop
  rw [show l.length - ((l.drop (l.takeWhile sp).length).reverse.takeWhile sp).length - (l.takeWhile sp).length = (l.drop (l.takeWhile sp).length).length - ((l.drop (l.takeWhile sp).length).reverse.takeWhile sp).length by omega, take_rev, drop_takeWhile]
  rfl
theorem rwhite_eq (l : List Nat) : rwhite l = decide (sB l = []) := by
  unfold rwhite Txt.rstrip
  rw [PySem.W.stripBy_eq]
  unfold PySem.W.stripped
  have e : (strSub (S l) 0 ((S l).length - (((S l).cps.toList.drop 0).reverse.takeWhile Unicode.isSpace).length)).cps.toList = sB l := by
    rw [StrLaws.strSub_toList]
    exact take_rev sp l
  rw [Bool.eq_iff_iff]
  show ((strSub (S l) 0 ((S l).length - (((S l).cps.toList.drop 0).reverse.takeWhile Unicode.isSpace).length)).cps.size == 0) = true ↔ _
  rw [← Array.length_toList, e]
  simp

/-- a white row -/
def white (l : List Nat) : Bool := decide (front l = [])
theorem dropWhile_nil {p : Nat → Bool} : ∀ {l : List Nat}, l.dropWhile p = [] ↔ ∀ c ∈ l, p c = true
  | [] => by simp
  | c :: l => by
    rw [List.dropWhile_cons]
    cases h : p c
    · simp [h]
    · simpa [h] using dropWhile_nil (p := p) (l := l)
theorem white_iff (l : List Nat) : white l = true ↔ ∀ c ∈ l, wh c = true := by
  unfold white front
  rw [decide_eq_true_eq, dropWhile_nil]
theorem back_nil {l : List Nat} : back l = [] ↔ white l = true := by
  unfold back
  rw [List.reverse_eq_nil_iff, white_iff]
  unfold front
  rw [dropWhile_nil]
  simp only [List.mem_reverse]
theorem rwhite_nf {l : List Nat} (h : Nf l) : rwhite l = white l := by
  rw [rwhite_eq, sB_nf h, Bool.eq_iff_iff, decide_eq_true_eq, back_nil]

theorem sF_app (x y : List Nat) : sF (x ++ y) = if sF x = [] then sF y else sF x ++ y := by
  unfold sF
  induction x with
  | nil => simp
  | cons c x ih =>
    rw [List.cons_append, List.dropWhile_cons, List.dropWhile_cons]
    cases h : sp c
    · simp
    · simpa using ih
theorem sB_app (x y : List Nat) : sB (x ++ y) = if sB y = [] then sB x else x ++ sB y := by
  unfold sB
  rw [List.reverse_append, sF_app]
  by_cases h : sF y.reverse = []
  · simp [h]
  · simp [h]
theorem sB_snoc_nl (x : List Nat) : sB (x ++ [10]) = sB x := by
  rw [sB_app]
  have : sB [10] = [] := by unfold sB sF; simp [sp_nl]
  rw [if_pos this]

abbrev jn (rows : List (List Nat)) : List Nat := joinL [10] rows
theorem jn_cons {r : List Nat} {rs : List (List Nat)} (h : rs ≠ []) : jn (r :: rs) = r ++ 10 :: jn rs := by
  cases rs with
  | nil => exact absurd rfl h
  | cons a b => simp [joinL]

def allWhite (rs : List (List Nat)) : Bool := rs.all white
def trimEnd : List (List Nat) → List (List Nat)
  | [] => []
  | r :: rs => if allWhite rs then (if white r then [] else [back r]) else r :: trimEnd rs
def NF (rs : List (List Nat)) : Prop := ∀ r ∈ rs, Nf r
theorem NF.tail {r : List Nat} {rs : List (List Nat)} (h : NF (r :: rs)) : NF rs := fun x hx => h x (List.mem_cons_of_mem _ hx)
theorem NF.head {r : List Nat} {rs : List (List Nat)} (h : NF (r :: rs)) : Nf r := h r List.mem_cons_self

theorem trimEnd_white {rs : List (List Nat)} (h : allWhite rs = true) : trimEnd rs = [] := by
  cases rs with
  | nil => rfl
  | cons r rs =>
    simp only [allWhite, List.all_cons, Bool.and_eq_true] at h
    unfold trimEnd
    rw [if_pos (by exact h.2), if_pos h.1]
theorem trimEnd_ne {rs : List (List Nat)} (h : allWhite rs = false) : trimEnd rs ≠ [] ∧ jn (trimEnd rs) ≠ [] := by
  induction rs with
  | nil => simp [allWhite] at h
  | cons r rs ih =>
    unfold trimEnd
    cases hw : allWhite rs with
    | true =>
      have hr : white r = false := by
        have : (white r && allWhite rs) = false := h
        rw [hw] at this
        simpa using this
      rw [if_pos rfl, if_neg (by simp [hr])]
      refine ⟨by simp, ?_⟩
      show back r ≠ []
      intro e
      rw [back_nil.mp e] at hr
      cases hr
    | false =>
      rw [if_neg (by simp)]
      refine ⟨by simp, ?_⟩
      rw [jn_cons (ih hw).1]
      simp

theorem sB_jn : ∀ {rs : List (List Nat)}, NF rs → sB (jn rs) = jn (trimEnd rs)
  | [], _ => rfl
  | [r], h => by
    show sB r = _
    rw [sB_nf h.head]
    unfold trimEnd
    rw [if_pos (show allWhite [] = true from rfl)]
    by_cases hw : white r = true
    · rw [if_pos hw, back_nil.mpr hw]; rfl
    · rw [if_neg hw]; rfl
  | r :: a :: b, h => by
    have ih := sB_jn h.tail
    rw [jn_cons (by simp), show r ++ 10 :: jn (a :: b) = (r ++ [10]) ++ jn (a :: b) by simp, sB_app, ih]
    conv => rhs; unfold trimEnd
    cases hw : allWhite (a :: b) with
    | true =>
      rw [trimEnd_white hw, if_pos (show jn [] = [] from rfl), if_pos (show true = true from rfl), sB_snoc_nl, sB_nf h.head]
      by_cases hr : white r = true
      · rw [if_pos hr, back_nil.mpr hr]; rfl
      · rw [if_neg hr]; rfl
    | false =>
      have hn := trimEnd_ne hw
      rw [if_neg hn.2, if_neg (by simp), jn_cons hn.1]
      simp

theorem sF_jn {r : List Nat} {rs : List (List Nat)} (h : NF (r :: rs)) : sF (jn (r :: rs)) = if white r then sF (jn rs) else jn (front r :: rs) := by
  cases rs with
  | nil =>
    show sF r = _
    rw [sF_nf h.head]
    by_cases hw : white r = true
    · rw [if_pos hw]; exact of_decide_eq_true hw
    · rw [if_neg hw]; rfl
  | cons a b =>
    rw [jn_cons (r := r) (by simp), sF_app, sF_nf h.head, jn_cons (r := front r) (by simp)]
    by_cases hw : white r = true
    · rw [if_pos hw, if_pos (of_decide_eq_true hw)]
      show (10 :: jn (a :: b)).dropWhile sp = _
      rw [List.dropWhile_cons, sp_nl, if_pos rfl]
      rfl
    · rw [if_neg hw, if_neg (fun e => hw (decide_eq_true e))]

theorem front_front (l : List Nat) : front (front l) = front l := by
  unfold front
  induction l with
  | nil => rfl
  | cons c l ih =>
    rw [List.dropWhile_cons]
    cases h : wh c
    · simp [h]
    · simpa using ih
theorem white_front (l : List Nat) : white (front l) = white l := by unfold white; rw [front_front]
theorem nf_front {l : List Nat} (h : Nf l) : Nf (front l) := fun hm => h ((List.dropWhile_sublist _).subset hm)
theorem nf_back {l : List Nat} (h : Nf l) : Nf (back l) := by
  unfold back Nf
  rw [List.mem_reverse]
  intro hm
  exact h (List.mem_reverse.mp ((List.dropWhile_sublist _).subset hm))

/-- the rows that strip and split give -/
def TT : List (List Nat) → List (List Nat)
  | [] => [[]]
  | r :: rs => if white r then TT rs else if allWhite rs then [back (front r)] else front r :: trimEnd rs

theorem jn_TT : ∀ {rs : List (List Nat)}, NF rs → jn (TT rs) = sB (sF (jn rs))
  | [], _ => rfl
  | r :: rs, h => by
    rw [sF_jn h]
    unfold TT
    cases hw : white r with
    | true => rw [if_pos (show true = true from rfl), if_pos (show true = true from rfl)]; exact jn_TT h.tail
    | false =>
      have hn : NF (front r :: rs) := fun x hx => by
        rcases List.mem_cons.mp hx with rfl | hx
        · exact nf_front h.head
        · exact h.tail x hx
      rw [if_neg (show ¬ false = true by simp), if_neg (show ¬ false = true by simp), sB_jn hn]
      conv => rhs; unfold trimEnd
      rw [white_front, hw]
      rfl

theorem NF.trim : ∀ {rs : List (List Nat)}, NF rs → NF (trimEnd rs)
  | [], h => h
  | r :: rs, h => by
    have ih := NF.trim h.tail
    unfold trimEnd
    split
    · split
      · intro x hx; simp at hx
      · intro x hx; simp at hx; subst hx; exact nf_back h.head
    · intro x hx
      rcases List.mem_cons.mp hx with rfl | hx
      · exact h.head
      · exact ih x hx
theorem NF.TT : ∀ {rs : List (List Nat)}, NF rs → NF (TT rs)
  | [], _ => by intro x hx; simp [Mine.TT] at hx; subst hx; simp [Nf]
  | r :: rs, h => by
    have ih := NF.TT h.tail
    unfold Mine.TT
    split
    · exact ih
    · split
      · intro x hx; simp at hx; subst hx; exact nf_back (nf_front h.head)
      · intro x hx
        rcases List.mem_cons.mp hx with rfl | hx
        · exact nf_front h.head
        · exact h.tail.trim x hx
theorem TT_ne : ∀ rs : List (List Nat), TT rs ≠ []
  | [] => by simp [TT]
  | r :: rs => by
    unfold TT
    split
    · exact TT_ne rs
    · split <;> simp

theorem cut_eq : ∀ {x y a b : List Nat}, Nf x → Nf y → x ++ 10 :: a = y ++ 10 :: b → x = y ∧ a = b
  | [], [], _, _, _, _, h => by simpa using h
  | [], c :: y, _, _, _, hy, h => by
    simp at h
    exact absurd (by simp [h.1]) hy
  | c :: x, [], _, _, hx, _, h => by
    simp at h
    exact absurd (by simp [h.1]) hx
  | c :: x, d :: y, a, b, hx, hy, h => by
    simp only [List.cons_append, List.cons.injEq] at h
    obtain ⟨rfl, h⟩ := h
    obtain ⟨rfl, rfl⟩ := cut_eq (x := x) (y := y) (fun q => hx (List.mem_cons_of_mem _ q)) (fun q => hy (List.mem_cons_of_mem _ q)) h
    exact ⟨rfl, rfl⟩
theorem jn_inj : ∀ {xs ys : List (List Nat)}, NF xs → NF ys → xs ≠ [] → ys ≠ [] → jn xs = jn ys → xs = ys
  | [], _, _, _, h, _, _ => absurd rfl h
  | _, [], _, _, _, h, _ => absurd rfl h
  | [x], [y], _, _, _, _, e => by have : x = y := e; rw [this]
  | [x], y :: c :: d, hx, _, _, _, e => by
    rw [jn_cons (r := y) (by simp)] at e
    have e' : x = y ++ 10 :: jn (c :: d) := e
    exact absurd (by rw [e']; simp) hx.head
  | x :: a :: b, [y], _, hy, _, _, e => by
    rw [jn_cons (r := x) (by simp)] at e
    have e' : x ++ 10 :: jn (a :: b) = y := e
    exact absurd (by rw [← e']; simp) hy.head
  | x :: a :: b, y :: c :: d, hx, hy, _, _, e => by
    rw [jn_cons (r := x) (by simp), jn_cons (r := y) (by simp)] at e
    obtain ⟨rfl, e2⟩ := cut_eq hx.head hy.head e
    rw [jn_inj hx.tail hy.tail (by simp) (by simp) e2]

theorem lns_jn {rs : List (List Nat)} (h : NF rs) : lns (jn rs) = TT rs := by
  refine jn_inj ?_ h.TT ?_ (TT_ne rs) ?_
  · intro x hx
    unfold lns at hx
    obtain ⟨y, hy, rfl⟩ := List.mem_map.mp hx
    exact StrLaws.split_free _ 10 y hy
  · intro e
    have := (lns_len (jn rs)).1
    rw [e] at this
    simp at this
  · rw [jn_TT h]
    exact (join_lns _).trans (stripL_eq _)
end Mine
end

section
open PySem PySem.W PyProof.Rows PySem.Builtin PySem.Builtin.Str
namespace Mine

/-- heads and rest of these rows -/
def RR : List (List Nat) → List (List Nat) × List Nat
  | [] => ([], [])
  | r :: rs => if white r then RR rs else if allWhite rs then ([back (front r)], []) else if white (rs.headD []) then (front r :: (RR rs).1, (RR rs).2) else ([], jn (front r :: trimEnd rs))

theorem RR_w {r : List Nat} {rs : List (List Nat)} (h : white r = true) : RR (r :: rs) = RR rs := by
  conv => lhs; unfold RR
  rw [if_pos h]
theorem RR_one {r : List Nat} {rs : List (List Nat)} (h : white r = false) (ha : allWhite rs = true) : RR (r :: rs) = ([back (front r)], []) := by
  unfold RR
  rw [if_neg (by simp [h]), if_pos ha]
theorem RR_head {r : List Nat} {rs : List (List Nat)} (h : white r = false) (ha : allWhite rs = false) (hw : white (rs.headD []) = true) : RR (r :: rs) = (front r :: (RR rs).1, (RR rs).2) := by
  conv => lhs; unfold RR
  rw [if_neg (by simp [h]), if_neg (by simp [ha]), if_pos hw]
theorem RR_rest {r : List Nat} {rs : List (List Nat)} (h : white r = false) (ha : allWhite rs = false) (hw : white (rs.headD []) = false) : RR (r :: rs) = ([], jn (front r :: trimEnd rs)) := by
  unfold RR
  rw [if_neg (by simp [h]), if_neg (by simp [ha]), if_neg (by simp only [hw]; simp)]
theorem allWhite_cons (r : List Nat) (rs : List (List Nat)) : allWhite (r :: rs) = (white r && allWhite rs) := rfl
theorem RR_white : ∀ {rs : List (List Nat)}, allWhite rs = true → RR rs = ([], [])
  | [], _ => rfl
  | r :: rs, h => by
    rw [allWhite_cons, Bool.and_eq_true] at h
    rw [RR_w h.1, RR_white h.2]

theorem trim_w {r : List Nat} {rs : List (List Nat)} (ha : allWhite rs = true) (h : white r = false) : trimEnd (r :: rs) = [back r] := by
  unfold trimEnd
  rw [if_pos ha, if_neg (by simp [h])]
theorem trim_c {r : List Nat} {rs : List (List Nat)} (ha : allWhite rs = false) : trimEnd (r :: rs) = r :: trimEnd rs := by
  conv => lhs; unfold trimEnd
  rw [if_neg (by simp [ha])]

theorem back_back (l : List Nat) : back (back l) = back l := by
  unfold back
  rw [List.reverse_reverse, front_front]
theorem white_back (l : List Nat) : white (back l) = white l := by
  rw [Bool.eq_iff_iff, ← back_nil, back_back, back_nil]
theorem front_app (x y : List Nat) : front (x ++ y) = if front x = [] then front y else front x ++ y := by
  unfold front
  induction x with
  | nil => simp
  | cons c x ih =>
    rw [List.cons_append, List.dropWhile_cons, List.dropWhile_cons]
    cases h : wh c
    · simp
    · simpa using ih
theorem back_app (x y : List Nat) : back (x ++ y) = if back y = [] then back x else x ++ back y := by
  unfold back
  rw [List.reverse_append, front_app]
  by_cases h : front y.reverse = []
  · simp [h]
  · simp [h]
theorem front_first (l : List Nat) : front l = [] ∨ ∃ c t, front l = c :: t ∧ wh c = false := by
  induction l with
  | nil => exact .inl rfl
  | cons c l ih =>
    cases h : wh c
    · refine .inr ⟨c, l, ?_, h⟩
      unfold front
      rw [List.dropWhile_cons, h]
      rfl
    · have : front (c :: l) = front l := by
        unfold front
        rw [List.dropWhile_cons, h]
        rfl
      rw [this]
      exact ih
theorem front_of_first {c : Nat} {t : List Nat} (h : wh c = false) : front (c :: t) = c :: t := by
  unfold front
  rw [List.dropWhile_cons, h]
  rfl
theorem back_one {c : Nat} (h : wh c = false) : back [c] = [c] := by
  unfold back
  rw [List.reverse_singleton, front_of_first h, List.reverse_singleton]
theorem back_first {c : Nat} {t : List Nat} (h : wh c = false) : ∃ t', back (c :: t) = c :: t' := by
  rw [show c :: t = [c] ++ t from rfl, back_app]
  split
  · exact ⟨[], back_one h⟩
  · exact ⟨back t, rfl⟩
theorem tw_all : ∀ (l : List Nat) (c : Nat), c ∈ l.takeWhile wh → wh c = true
  | [], c, h => by simp at h
  | d :: l, c, h => by
    rw [List.takeWhile_cons] at h
    cases hd : wh d with
    | false => rw [hd] at h; simp at h
    | true =>
      rw [hd] at h
      simp only [if_true, List.mem_cons] at h
      rcases h with rfl | h
      · exact hd
      · exact tw_all l c h
theorem bfb (l : List Nat) : back (front (back l)) = back (front l) := by
  have e : l = l.takeWhile wh ++ front l := (List.takeWhile_append_dropWhile).symm
  have hp : front (l.takeWhile wh) = [] := by
    unfold front
    rw [dropWhile_nil]
    intro c hc
    exact tw_all l c hc
  generalize l.takeWhile wh = p at e hp
  rcases front_first l with h | ⟨c, t, h, hc⟩
  · have hw : white l = true := decide_eq_true h
    rw [back_nil.mpr hw, h]
    rfl
  · obtain ⟨t', ht⟩ := back_first (t := t) hc
    have hb : back l = p ++ back (front l) := by
      conv => lhs; rw [e]
      rw [back_app, if_neg (by rw [h, ht]; simp)]
    rw [hb, front_app, if_pos hp, h, ht, front_of_first hc, ← ht, back_back]

theorem all_trim : ∀ {rs : List (List Nat)}, allWhite rs = false → allWhite (trimEnd rs) = false
  | [], h => by simp [allWhite] at h
  | r :: rs, h => by
    cases ha : allWhite rs with
    | true =>
      have hr : white r = false := by rw [allWhite_cons, ha] at h; simpa using h
      rw [trim_w ha hr, allWhite_cons, white_back, hr]
      rfl
    | false => rw [trim_c ha, allWhite_cons, all_trim ha]; simp
theorem trim_trim : ∀ rs : List (List Nat), trimEnd (trimEnd rs) = trimEnd rs
  | [] => rfl
  | r :: rs => by
    cases ha : allWhite rs with
    | true =>
      cases hr : white r with
      | true =>
        have hw : allWhite (r :: rs) = true := by rw [allWhite_cons, ha, hr]; rfl
        rw [trimEnd_white hw]; rfl
      | false =>
        rw [trim_w ha hr, trim_w rfl (by rw [white_back, hr]), back_back]
    | false => rw [trim_c ha, trim_c (all_trim ha), trim_trim rs]
theorem head_trim {rs : List (List Nat)} (h : allWhite rs = false) : white ((trimEnd rs).headD []) = white (rs.headD []) := by
  cases rs with
  | nil => simp [allWhite] at h
  | cons r rs =>
    cases ha : allWhite rs with
    | true =>
      have hr : white r = false := by rw [allWhite_cons, ha] at h; simpa using h
      rw [trim_w ha hr]
      exact white_back r
    | false => rw [trim_c ha]; rfl
theorem RR_trim : ∀ rs : List (List Nat), RR (trimEnd rs) = RR rs
  | [] => rfl
  | r :: rs => by
    cases ha : allWhite rs with
    | true =>
      cases hr : white r with
      | true =>
        have hw : allWhite (r :: rs) = true := by rw [allWhite_cons, ha, hr]; rfl
        rw [trimEnd_white hw, RR_white hw]; rfl
      | false =>
        rw [trim_w ha hr, RR_one (by rw [white_back, hr]) rfl, RR_one hr ha, bfb]
    | false =>
      rw [trim_c ha]
      cases hr : white r with
      | true => rw [RR_w hr, RR_w hr, RR_trim rs]
      | false =>
        cases hw : white (rs.headD []) with
        | true => rw [RR_head hr (all_trim ha) (by rw [head_trim ha, hw]), RR_head hr ha hw, RR_trim rs]
        | false => rw [RR_rest hr (all_trim ha) (by rw [head_trim ha, hw]), RR_rest hr ha hw, trim_trim]
theorem trim_len : ∀ rs : List (List Nat), (trimEnd rs).length ≤ rs.length
  | [] => Nat.le_refl _
  | r :: rs => by
    have ih := trim_len rs
    unfold trimEnd
    split
    · split <;> simp
    · simpa using ih

def splitT (ls : List (List Nat)) : List Nat × List Nat :=
  match ls with
  | [] => ([], [])
  | [x] => (x, [])
  | x :: y :: r => if rwhite y then (x, jn r) else ([], jn (x :: y :: r))
theorem splitP_eq (l : List Nat) : splitP l = splitT (lns l) := rfl

theorem ch_congr {l l' : List Nat} (h : splitP l = splitP l') : ∀ n, ch n l = ch n l'
  | 0 => by unfold ch; rw [h]
  | n + 1 => by unfold ch; rw [h]
theorem ch_nil {l : List Nat} (h : (splitP l).1 = []) : ∀ n, ch n l = ([], [], (splitP l).2)
  | 0 => rfl
  | n + 1 => by unfold ch; rw [if_pos h]
theorem ch_cons {l : List Nat} (h : (splitP l).1 ≠ []) (n : Nat) : ch (n + 1) l = ((splitP l).2 :: (ch n (splitP l).2).1, (splitP l).1 :: (ch n (splitP l).2).2.1, (ch n (splitP l).2).2.2) := by
  conv => lhs; unfold ch
  rw [if_neg h]

theorem TT_white : ∀ {rs : List (List Nat)}, allWhite rs = true → TT rs = [[]]
  | [], _ => rfl
  | r :: rs, h => by
    rw [allWhite_cons, Bool.and_eq_true] at h
    unfold TT
    rw [if_pos h.1, TT_white h.2]
theorem TT_w {r : List Nat} {rs : List (List Nat)} (h : white r = true) : TT (r :: rs) = TT rs := by
  conv => lhs; unfold TT
  rw [if_pos h]
theorem TT_one {r : List Nat} {rs : List (List Nat)} (h : white r = false) (ha : allWhite rs = true) : TT (r :: rs) = [back (front r)] := by
  unfold TT
  rw [if_neg (by simp [h]), if_pos ha]
theorem TT_two {r : List Nat} {rs : List (List Nat)} (h : white r = false) (ha : allWhite rs = false) : TT (r :: rs) = front r :: trimEnd rs := by
  unfold TT
  rw [if_neg (by simp [h]), if_neg (by simp [ha])]

theorem bf_ne {r : List Nat} (h : white r = false) : back (front r) ≠ [] := fun e => by
  have := back_nil.mp e
  rw [white_front, h] at this
  cases this
theorem front_ne {r : List Nat} (h : white r = false) : front r ≠ [] := fun e => by
  have : white r = true := decide_eq_true e
  rw [h] at this
  cases this

/-- a head is taken off -/
theorem split_head {r r2 : List Nat} {rs : List (List Nat)} (hN : NF (r :: r2 :: rs)) (hr : white r = false) (h2 : white r2 = true) (ha : allWhite rs = false) : splitP (jn (r :: r2 :: rs)) = (front r, jn (trimEnd rs)) := by
  have ha' : allWhite (r2 :: rs) = false := by rw [allWhite_cons, ha]; simp
  rw [splitP_eq, lns_jn hN, TT_two hr ha', trim_c ha]
  show (if rwhite r2 then _ else _) = _
  rw [if_pos (by rw [rwhite_nf hN.tail.head, h2])]
/-- no head -/
theorem split_rest {r r2 : List Nat} {rs : List (List Nat)} (hN : NF (r :: r2 :: rs)) (hr : white r = false) (h2 : white r2 = false) : splitP (jn (r :: r2 :: rs)) = ([], jn (front r :: trimEnd (r2 :: rs))) := by
  have ha' : allWhite (r2 :: rs) = false := by rw [allWhite_cons, h2]; rfl
  rw [splitP_eq, lns_jn hN, TT_two hr ha']
  have key : ∃ y ys, trimEnd (r2 :: rs) = y :: ys ∧ rwhite y = false := by
    cases ha : allWhite rs with
    | true => exact ⟨_, _, trim_w ha h2, by rw [rwhite_nf (nf_back hN.tail.head), white_back, h2]⟩
    | false => exact ⟨_, _, trim_c ha, by rw [rwhite_nf hN.tail.head, h2]⟩
  obtain ⟨y, ys, e, hy⟩ := key
  rw [e]
  show (if rwhite y then _ else _) = _
  rw [if_neg (by simp [hy])]

theorem jn_le {r : List Nat} {rs : List (List Nat)} : (jn rs).length ≤ (jn (r :: rs)).length := by
  cases rs with
  | nil => exact Nat.zero_le _
  | cons a b => rw [jn_cons (r := r) (by simp)]; simp; omega

theorem chR : ∀ (k : Nat) (rows : List (List Nat)), rows.length ≤ k → NF rows → ∀ n, (jn rows).length ≤ n → (ch n (jn rows)).2 = RR rows
  | _, [], _, hN, n, _ => by
    have e : splitP (jn []) = ([], []) := by rw [splitP_eq, lns_jn hN]; rfl
    rw [ch_nil (by rw [e]), e]
    rfl
  | 0, r :: rs, hk, _, _, _ => by simp at hk
  | k + 1, r :: rs, hk, hN, n, hn => by
    have hk' : rs.length ≤ k := by simpa using hk
    cases hr : white r with
    | true =>
      rw [RR_w hr, ← chR k rs hk' hN.tail n (Nat.le_trans jn_le hn)]
      rw [ch_congr (l := jn (r :: rs)) (l' := jn rs)]
      rw [splitP_eq, splitP_eq, lns_jn hN, lns_jn hN.tail, TT_w hr]
    | false =>
      cases ha : allWhite rs with
      | true =>
        have e : splitP (jn (r :: rs)) = (back (front r), []) := by rw [splitP_eq, lns_jn hN, TT_one hr ha]; rfl
        have hne : (splitP (jn (r :: rs))).1 ≠ [] := by rw [e]; exact bf_ne hr
        have hs := splitP_shrink hne
        obtain ⟨n, rfl⟩ : ∃ m, n = m + 1 := ⟨n - 1, by omega⟩
        have e0 : splitP [] = ([], []) := by rw [show ([] : List Nat) = jn [] from rfl, splitP_eq, lns_jn (fun x hx => by simp at hx)]; rfl
        rw [ch_cons hne, e, RR_one hr ha]
        show (back (front r) :: (ch n []).2.1, (ch n []).2.2) = _
        rw [ch_nil (by rw [e0]), e0]
      | false =>
        match rs, hk', hN, hn, ha with
        | r2 :: rs, hk', hN, hn, ha =>
          cases h2 : white r2 with
          | true =>
            have ha2 : allWhite rs = false := by rw [allWhite_cons, h2] at ha; simpa using ha
            have e := split_head hN hr h2 ha2
            have hne : (splitP (jn (r :: r2 :: rs))).1 ≠ [] := by rw [e]; exact front_ne hr
            have hs := splitP_shrink hne
            obtain ⟨n, rfl⟩ : ∃ m, n = m + 1 := ⟨n - 1, by omega⟩
            rw [e] at hs
            have hl := trim_len rs
            have ih := chR k (trimEnd rs) (by simp at hk'; omega) hN.tail.tail.trim n (by dsimp only at hs; omega)
            rw [ch_cons hne, e, RR_head hr ha h2, RR_w h2, ← RR_trim rs, ← ih]
          | false =>
            have e := split_rest hN hr h2
            rw [ch_nil (by rw [e]), e, RR_rest hr ha h2]
theorem chain_RR {rows : List (List Nat)} (hN : NF rows) : (chain (jn rows)).2 = RR rows := chR _ rows (Nat.le_refl _) hN _ (Nat.le_refl _)
end Mine
end

section
open PySem PySem.W PyProof.Rows PySem.Builtin PySem.Builtin.Str
namespace Mine

theorem full_eq (l : List Nat) : (!decide (front l = [])) = !white l := rfl
theorem rowAt_succ (r : List Nat) (rs : List (List Nat)) (k : Nat) : rowAt (r :: rs) (k + 1) = rowAt rs k := rfl
theorem rowAt_zero (r : List Nat) (rs : List (List Nat)) : rowAt (r :: rs) 0 = r := rfl

theorem fulls_cons (r : List Nat) (rs : List (List Nat)) : fulls (r :: rs) = (if white r then [] else [0]) ++ (fulls rs).map (· + 1) := by
  unfold fulls
  rw [List.length_cons, List.range_succ_eq_map, List.filter_cons, List.filter_map]
  rw [rowAt_zero, full_eq]
  have e : ((fun k => !decide (front (rowAt (r :: rs) k) = [])) ∘ Nat.succ) = fun k => !decide (front (rowAt rs k) = []) := rfl
  rw [e]
  cases white r <;> rfl
theorem fulls_w {r : List Nat} {rs : List (List Nat)} (h : white r = true) : fulls (r :: rs) = (fulls rs).map (· + 1) := by rw [fulls_cons, h]; rfl
theorem fulls_f {r : List Nat} {rs : List (List Nat)} (h : white r = false) : fulls (r :: rs) = 0 :: (fulls rs).map (· + 1) := by rw [fulls_cons, h]; rfl
theorem mem_fulls_succ {r : List Nat} {rs : List (List Nat)} {k : Nat} : k + 1 ∈ fulls (r :: rs) ↔ k ∈ fulls rs := by
  rw [fulls_cons]
  cases white r <;> simp
theorem fulls_nil : ∀ {rs : List (List Nat)}, fulls rs = [] ↔ allWhite rs = true
  | [] => by simp [fulls, allWhite]
  | r :: rs => by
    rw [allWhite_cons]
    cases h : white r with
    | true => rw [fulls_w h, List.map_eq_nil_iff, fulls_nil]; simp
    | false => rw [fulls_f h]; simp
theorem zero_fulls {rs : List (List Nat)} (ha : allWhite rs = false) : 0 ∈ fulls rs ↔ white (rs.headD []) = false := by
  cases rs with
  | nil => simp [allWhite] at ha
  | cons r rs =>
    show _ ↔ white r = false
    cases h : white r with
    | true => rw [fulls_w h]; simp
    | false => rw [fulls_f h]; simp
theorem zero_fulls_w {rs : List (List Nat)} (ha : allWhite rs = true) : 0 ∉ fulls rs := by rw [fulls_nil.mpr ha]; simp

theorem closes_cons (r : List Nat) (rs : List (List Nat)) : closes (r :: rs) = (if !white r && decide (0 ∈ fulls rs) then [0] else []) ++ (closes rs).map (· + 1) := by
  have tail : (List.map (· + 1) (fulls rs)).filter (fun k => decide (k + 1 ∈ fulls (r :: rs))) = (closes rs).map (· + 1) := by
    rw [List.filter_map]
    unfold closes
    congr 1
    apply List.filter_congr
    intro k _
    show decide (k + 1 + 1 ∈ fulls (r :: rs)) = _
    rw [decide_eq_decide]
    exact mem_fulls_succ
  show (fulls (r :: rs)).filter _ = _
  cases h : white r with
  | true =>
    conv => lhs; arg 2; rw [fulls_w h]
    rw [tail]
    simp
  | false =>
    conv => lhs; arg 2; rw [fulls_f h]
    rw [List.filter_cons, tail]
    have e : decide (0 + 1 ∈ fulls (r :: rs)) = decide (0 ∈ fulls rs) := by rw [decide_eq_decide]; exact mem_fulls_succ
    rw [e]
    by_cases h0 : 0 ∈ fulls rs <;> simp [h0]

theorem ahead_succ (cs : List Nat) (k : Nat) : ahead? (cs.map (· + 1)) (k + 1) = ahead? cs k := by
  cases cs with
  | nil => rfl
  | cons c cs => simp [ahead?]
theorem ahead_zero (cs : List Nat) : ahead? (cs.map (· + 1)) 0 = true := by
  cases cs with
  | nil => rfl
  | cons c cs => simp [ahead?]
theorem filter_succ (cs fs : List Nat) : (fs.map (· + 1)).filter (ahead? (cs.map (· + 1))) = (fs.filter (ahead? cs)).map (· + 1) := by
  rw [List.filter_map]
  congr 1
  apply List.filter_congr
  intro k _
  exact ahead_succ cs k

theorem heads_map (r : List Nat) (rs : List (List Nat)) (as : List Nat) : (as.map (· + 1)).map (fun k => front (rowAt (r :: rs) k)) = as.map (fun k => front (rowAt rs k)) := by
  rw [List.map_map]
  rfl

/-- a white row first -/
theorem told_w {r : List Nat} {rs : List (List Nat)} (h : white r = true) : closes (r :: rs) = (closes rs).map (· + 1) ∧ aheads (r :: rs) = (aheads rs).map (· + 1) ∧ headsP (r :: rs) = headsP rs := by
  have hc : closes (r :: rs) = (closes rs).map (· + 1) := by rw [closes_cons, h]; simp
  have ha : aheads (r :: rs) = (aheads rs).map (· + 1) := by unfold aheads; rw [hc, fulls_w h, filter_succ]
  exact ⟨hc, ha, by unfold headsP; rw [ha, heads_map]⟩
/-- a row that is not white, no such one behind it -/
theorem told_f {r : List Nat} {rs : List (List Nat)} (h : white r = false) (h0 : 0 ∉ fulls rs) : closes (r :: rs) = (closes rs).map (· + 1) ∧ aheads (r :: rs) = 0 :: (aheads rs).map (· + 1) ∧ headsP (r :: rs) = front r :: headsP rs := by
  have hc : closes (r :: rs) = (closes rs).map (· + 1) := by rw [closes_cons, h]; simp [h0]
  have ha : aheads (r :: rs) = 0 :: (aheads rs).map (· + 1) := by unfold aheads; rw [hc, fulls_f h, List.filter_cons, ahead_zero, filter_succ]; rfl
  exact ⟨hc, ha, by unfold headsP; rw [ha, List.map_cons, heads_map]; rfl⟩
/-- two rows that are not white -/
theorem told_c {r : List Nat} {rs : List (List Nat)} (h : white r = false) (h0 : 0 ∈ fulls rs) : closes (r :: rs) = 0 :: (closes rs).map (· + 1) ∧ aheads (r :: rs) = [] ∧ headsP (r :: rs) = [] := by
  have hc : closes (r :: rs) = 0 :: (closes rs).map (· + 1) := by rw [closes_cons, h]; simp [h0]
  have ha : aheads (r :: rs) = [] := by
    unfold aheads
    rw [hc]
    apply List.filter_eq_nil_iff.mpr
    intro k _
    simp [ahead?]
  exact ⟨hc, ha, by unfold headsP; rw [ha]; rfl⟩

theorem lastF_cons {r : List Nat} {rs : List (List Nat)} (h : fulls rs ≠ []) : lastF (r :: rs) = lastF rs + 1 := by
  unfold lastF
  obtain ⟨x, hx⟩ : ∃ x, (fulls rs).getLast? = some x := by
    cases e : (fulls rs).getLast? with
    | none => exact absurd (List.getLast?_eq_none_iff.mp e) h
    | some x => exact ⟨x, rfl⟩
  have hm : ((fulls rs).map (· + 1)).getLast? = some (x + 1) := by rw [List.getLast?_map, hx]; rfl
  rw [hx]
  cases hw : white r with
  | true => rw [fulls_w hw, hm]; rfl
  | false =>
    rw [fulls_f hw, List.getLast?_cons, hm]
    rfl

theorem closes_full {rs : List (List Nat)} (h : closes rs ≠ []) : fulls rs ≠ [] := fun e => h (by unfold closes; rw [e]; rfl)
theorem restL_cons {r : List Nat} {rs : List (List Nat)} {c : Nat} (h : fulls rs ≠ []) : restL (r :: rs) (c + 1) = restL rs c := by
  unfold restL
  rw [lastF_cons h, rowAt_succ, rowAt_succ, List.drop_succ_cons]
  rw [show lastF rs + 1 - (c + 1 + 1) = lastF rs - (c + 1) by omega]

theorem toldR_same {r : List Nat} {rs : List (List Nat)} (h : closes (r :: rs) = (closes rs).map (· + 1)) : toldR (r :: rs) = toldR rs := by
  unfold toldR
  rw [h]
  cases hc : closes rs with
  | nil => rfl
  | cons c cs =>
    show jn (restL (r :: rs) (c + 1)) = jn (restL rs c)
    rw [restL_cons (closes_full (by rw [hc]; simp))]

theorem lastHeads_cons (h : List Nat) {hs : List (List Nat)} (hn : hs ≠ []) : lastHeads (h :: hs) = h :: lastHeads hs := by
  unfold lastHeads
  cases hs with
  | nil => exact absurd rfl hn
  | cons a b => simp

theorem trim_last : ∀ {rs : List (List Nat)}, allWhite rs = false → trimEnd rs = rs.take (lastF rs) ++ [back (rowAt rs (lastF rs))]
  | [], h => by simp [allWhite] at h
  | r :: rs, h => by
    cases ha : allWhite rs with
    | true =>
      have hr : white r = false := by rw [allWhite_cons, ha] at h; simpa using h
      have e : lastF (r :: rs) = 0 := by unfold lastF; rw [fulls_f hr, fulls_nil.mpr ha]; rfl
      rw [trim_w ha hr, e]
      rfl
    | false =>
      have hn : fulls rs ≠ [] := fun e => by rw [fulls_nil.mp e] at ha; cases ha
      rw [trim_c ha, lastF_cons hn, trim_last ha]
      rfl

theorem told_RR : ∀ rows : List (List Nat), (toldH rows, toldR rows) = RR rows
  | [] => rfl
  | r :: rs => by
    have ih := told_RR rs
    cases hr : white r with
    | true =>
      obtain ⟨hc, _, hh⟩ := told_w (rs := rs) hr
      rw [RR_w hr, ← ih, toldR_same hc]
      congr 1
      unfold toldH
      rw [hc, hh]
      cases closes rs <;> rfl
    | false =>
      cases ha : allWhite rs with
      | true =>
        have h0 := zero_fulls_w ha
        obtain ⟨hc, _, hh⟩ := told_f hr h0
        have hf := fulls_nil.mpr ha
        have hcs : closes rs = [] := by unfold closes; rw [hf]; rfl
        have has : headsP rs = [] := by unfold headsP aheads; rw [hf]; rfl
        rw [RR_one hr ha, toldR_same hc]
        congr 1
        · unfold toldH
          rw [hc, hcs, hh, has]
          rfl
        · unfold toldR
          rw [hcs]
      | false =>
        cases h2 : white (rs.headD []) with
        | true =>
          have h0 : 0 ∉ fulls rs := fun q => by rw [(zero_fulls ha).mp q] at h2; cases h2
          obtain ⟨hc, _, hh⟩ := told_f hr h0
          rw [RR_head hr ha h2, ← ih, toldR_same hc]
          congr 1
          show toldH (r :: rs) = front r :: toldH rs
          unfold toldH
          rw [hc, hh]
          cases hcs : closes rs with
          | nil =>
            show lastHeads (front r :: headsP rs) = front r :: lastHeads (headsP rs)
            refine lastHeads_cons _ fun e => ?_
            unfold headsP aheads at e
            rw [hcs] at e
            have e2 := List.map_eq_nil_iff.mp e
            have e3 : (fulls rs).filter (ahead? []) = fulls rs := List.filter_eq_self.mpr fun _ _ => rfl
            rw [e3] at e2
            rw [fulls_nil.mp e2] at ha
            cases ha
          | cons c cs => rfl
        | false =>
          have h0 : 0 ∈ fulls rs := (zero_fulls ha).mpr h2
          obtain ⟨hc, _, hh⟩ := told_c hr h0
          rw [RR_rest hr ha h2]
          congr 1
          · unfold toldH
            rw [hc, hh]
          · unfold toldR
            rw [hc]
            show jn (restL (r :: rs) 0) = _
            congr 1
            have hn : fulls rs ≠ [] := fun e => by rw [e] at h0; simp at h0
            unfold restL
            rw [lastF_cons hn, trim_last ha]
            simp [rowAt_succ, rowAt_zero]
end Mine
end

section
open PySem PySem.W PyProof.Rows PySem.Builtin PySem.Builtin.Str
namespace Mine

theorem joinE : ∀ ls : List (List Nat), joinL [] ls = ls.flatten
  | [] => rfl
  | [x] => by simp [joinL]
  | x :: y :: r => by
    have := joinE (y :: r)
    simp only [joinL, List.append_nil] at this ⊢
    rw [this]
    rfl
/-- what one sign becomes -/
def prep1 (c : Nat) : List Nat := if isB1 c then [] else foldL c
theorem prep_eq (l : List Nat) : prep l = l.flatMap prep1 := by
  unfold prep
  rw [joinE]
  induction l with
  | nil => rfl
  | cons c l ih =>
    rw [List.filter_cons, List.flatMap_cons]
    cases h : isB1 c with
    | true =>
      have e : prep1 c = [] := by unfold prep1; rw [h]; rfl
      rw [e]
      exact ih
    | false =>
      have e : prep1 c = foldL c := by unfold prep1; rw [h]; rfl
      rw [e, ← ih]
      rfl
theorem prep_app (a b : List Nat) : prep (a ++ b) = prep a ++ prep b := by rw [prep_eq, prep_eq, prep_eq, List.flatMap_append]
theorem prep_one (c : Nat) : prep [c] = prep1 c := by rw [prep_eq]; simp
theorem prep_flat (ls : List (List Nat)) : prep ls.flatten = (ls.map prep).flatten := by
  induction ls with
  | nil => rfl
  | cons a b ih => rw [List.flatten_cons, prep_app, ih]; rfl

theorem nl_ok : prep1 10 = [10] := by decide +kernel
theorem prep_nl : prep [10] = [10] := by rw [prep_one, nl_ok]
theorem prep_jn : ∀ rows : List (List Nat), prep (jn rows) = jn (rows.map prep)
  | [] => rfl
  | [x] => rfl
  | x :: a :: b => by
    have ih := prep_jn (a :: b)
    rw [jn_cons (r := x) (by simp), List.map_cons, jn_cons (r := prep x) (by simp), ← ih, show x ++ 10 :: jn (a :: b) = x ++ ([10] ++ jn (a :: b)) by simp, prep_app, prep_app, prep_nl]
    simp

def SdOk (d : Sd) : Prop := ∃ c, d.1 = [c] ∧ c ≠ 10 ∧ 10 ∉ d.2 ∧ prep1 c = d.2 ∧ d.2.length ≤ 4
theorem sd_of {c : Nat} {b : List Nat} (h : (decide (c ≠ 10) && decide (10 ∉ b) && decide (prep1 c = b) && decide (b.length ≤ 4)) = true) : SdOk ([c], b) := by
  simp only [Bool.and_eq_true, decide_eq_true_eq] at h
  exact ⟨c, rfl, h.1.1.1, h.1.1.2, h.1.2, h.2⟩

theorem gone_mem (t : Int) : goneAt t ∈ goneL := by
  obtain ⟨k, hk, hl⟩ := fm (t := t) (n := 27) (by decide)
  have hk' : t.fmod 27 = k := hk
  unfold goneAt
  rw [hk']
  have : k < goneL.length := by rw [show goneL.length = 27 by decide +kernel]; exact hl
  rw [List.getD_eq_getElem?_getD, List.getElem?_eq_getElem (by simpa using this)]
  exact List.getElem_mem _
theorem white_mem (t : Int) : whiteAt t ∈ ws := by
  obtain ⟨k, hk, hl⟩ := fm (t := t) (n := 28) (by decide)
  have hk' : t.fmod 28 = k := hk
  unfold whiteAt
  rw [hk']
  have : k < ws.length := by rw [show ws.length = 28 by decide +kernel]; exact hl
  rw [List.getD_eq_getElem?_getD, List.getElem?_eq_getElem (by simpa using this)]
  exact List.getElem_mem _

theorem gone_all : (goneL.all fun c => decide (c ≠ 10) && decide (10 ∉ ([] : List Nat)) && decide (prep1 c = []) && decide (([] : List Nat).length ≤ 4)) = true := by decide +kernel
theorem gone_sd (t : Int) : SdOk ([goneAt t], []) := sd_of (List.all_eq_true.mp gone_all _ (gone_mem t))
theorem gone_nw : (goneL.all fun c => !wh c) = true := by decide +kernel
theorem white_all : (ws.all fun c => decide (c ≠ 10) && decide (10 ∉ [c]) && decide (prep1 c = [c]) && decide ([c].length ≤ 4)) = true := by decide +kernel
theorem white_sd (t : Int) : SdOk ([whiteAt t], [whiteAt t]) := sd_of (List.all_eq_true.mp white_all _ (white_mem t))

theorem b3_out : (b3.all fun kv => decide (kv.1 < 19968) || decide (40870 ≤ kv.1)) = true := by decide +kernel
theorem b1_out : (b1.all fun k => decide (k < 19968) || decide (40870 ≤ k)) = true := by decide +kernel
theorem several_out : (UnicodeData.severalLower.all fun kv => decide (kv.1 < 19968) || decide (40870 ≤ kv.1)) = true := by decide +kernel
theorem one_out : (UnicodeData.oneLower.all fun x => decide (x.2.1 < 19968) || decide (40870 ≤ x.1)) = true := by decide +kernel
theorem shifted_none {c : Nat} (h1 : 19968 ≤ c) (h2 : c < 40870) : ∀ {l : List (Nat × Nat × Nat)}, (l.all fun x => decide (x.2.1 < 19968) || decide (40870 ≤ x.1)) = true → Unicode.shifted l c = none
  | [], _ => rfl
  | (a, b, t) :: l, h => by
    rw [List.all_cons, Bool.and_eq_true] at h
    obtain ⟨h0, h⟩ := h
    simp only [Bool.or_eq_true, decide_eq_true_eq] at h0
    unfold Unicode.shifted
    split
    · rfl
    · split
      · omega
      · exact shifted_none h1 h2 h
theorem lookup_none {c : Nat} (h1 : 19968 ≤ c) (h2 : c < 40870) : ∀ {l : List (Nat × List Nat)}, (l.all fun kv => decide (kv.1 < 19968) || decide (40870 ≤ kv.1)) = true → l.lookup c = none
  | [], _ => rfl
  | (a, b) :: l, h => by
    rw [List.all_cons, Bool.and_eq_true] at h
    obtain ⟨h0, h⟩ := h
    simp only [Bool.or_eq_true, decide_eq_true_eq] at h0
    have : (c == a) = false := by rw [beq_eq_false_iff_ne]; omega
    rw [List.lookup_cons, this]
    exact lookup_none h1 h2 h
theorem other_sd (t : Int) : SdOk ([otherAt t], [otherAt t]) := by
  obtain ⟨k, hk, hl⟩ := fm (t := t) (n := 20902) (by decide)
  have hk' : t.fmod 20902 = k := hk
  have ho : otherAt t = 19968 + k := by unfold otherAt; rw [hk']; rfl
  rw [ho]
  generalize hc : 19968 + k = c
  have h1 : 19968 ≤ c := by omega
  have h2 : c < 40870 := by omega
  refine ⟨c, rfl, by omega, by simp; omega, ?_, by simp⟩
  have hb : isB1 c = false := by
    unfold isB1
    rw [List.any_eq_false]
    intro x hx
    have := List.all_eq_true.mp b1_out x hx
    simp only [Bool.or_eq_true, decide_eq_true_eq] at this
    simp only [beq_iff_eq]
    omega
  have h3 : at3 c = none := by
    unfold at3
    have : (b3.find? fun kv => kv.1 = (c : Int)) = none := by
      rw [List.find?_eq_none]
      intro x hx
      have := List.all_eq_true.mp b3_out x hx
      simp only [Bool.or_eq_true, decide_eq_true_eq] at this
      simp only [decide_eq_true_eq]
      omega
    rw [this]; rfl
  unfold prep1
  rw [hb]
  show foldL c = [c]
  unfold foldL fold
  rw [h3]
  have hlow : Unicode.lowerOf c = [c] := by
    unfold Unicode.lowerOf Unicode.image
    rw [lookup_none h1 h2 several_out, shifted_none h1 h2 one_out]
    rfl
  have hla : Unicode.lowerAt #[c] 0 = [c] := by
    unfold Unicode.lowerAt
    have : (c == 0x3A3) = false := by rw [beq_eq_false_iff_ne]; omega
    simp [this, hlow]
  show (placed (S [c]) fun i _ => Unicode.lowerAt (S [c]).cps i).toList = [c]
  unfold placed
  simp [hla]

theorem strand_ok (t : Int) : ∀ d ∈ strands t, SdOk d := by
  intro d hd
  simp only [strands, List.mem_cons, List.not_mem_nil, or_false] at hd
  rcases hd with rfl | rfl | rfl | rfl | rfl | rfl | rfl | rfl | rfl | rfl | rfl | rfl | rfl
  · exact sd_of (by decide +kernel)
  · exact sd_of (by decide +kernel)
  · exact sd_of (by decide +kernel)
  · exact sd_of (by decide +kernel)
  · exact gone_sd t
  · exact sd_of (by decide +kernel)
  · exact sd_of (by decide +kernel)
  · exact white_sd t
  · exact sd_of (by decide +kernel)
  · exact sd_of (by decide +kernel)
  · exact other_sd t
  · exact sd_of (by decide +kernel)
  · exact sd_of (by decide +kernel)
end Mine
end

section
open PySem PySem.W PyProof.Rows PySem.Builtin PySem.Builtin.Str
namespace Mine

/-- a fold that goes on behind rows that stand -/
theorem fold_pre (t : Int) (pre : List (List Sd)) : ∀ (fs : List Nat) (a : List (List Sd)) (b : List Sd), fs.foldl (putR t) (pre ++ a, b) = (pre ++ (fs.foldl (putR t) (a, b)).1, (fs.foldl (putR t) (a, b)).2)
  | [], _, _ => rfl
  | f :: fs, a, b => by
    rw [List.foldl_cons, List.foldl_cons]
    by_cases h : f < 3
    · rw [putR_pos h, putR_pos h]
      dsimp only
      rw [List.append_assoc]
      exact fold_pre t pre fs _ _
    · rw [putR_neg h, putR_neg h]
      exact fold_pre t pre fs _ _

/-- the strands of a state -/
def InS (t : Int) (p : List (List Sd) × List Sd) : Prop := (∀ r ∈ p.1, ∀ d ∈ r, d ∈ strands t) ∧ ∀ d ∈ p.2, d ∈ strands t
theorem at_mem (t : Int) {f : Nat} (h : ¬ f < 3) (h2 : f < 16) : strandAt t f ∈ strands t := by
  unfold strandAt
  have : f - 3 < (strands t).length := by show f - 3 < 13; omega
  rw [List.getD_eq_getElem?_getD, List.getElem?_eq_getElem this]
  exact List.getElem_mem _
theorem fold_in (t : Int) : ∀ (fs : List Nat) (p : List (List Sd) × List Sd), (∀ f ∈ fs, f < 16) → InS t p → InS t (fs.foldl (putR t) p)
  | [], _, _, hp => hp
  | f :: fs, p, hf, hp => by
    rw [List.foldl_cons]
    refine fold_in t fs _ (fun x hx => hf x (List.mem_cons_of_mem _ hx)) ?_
    by_cases h : f < 3
    · rw [putR_pos h]
      refine ⟨fun r hr => ?_, fun d hd => by simp at hd⟩
      rcases List.mem_append.mp hr with hr | hr
      · exact hp.1 r hr
      · simp at hr; subst hr; exact hp.2
    · rw [putR_neg h]
      refine ⟨hp.1, fun d hd => ?_⟩
      rcases List.mem_append.mp hd with hd | hd
      · exact hp.2 d hd
      · simp at hd; subst hd; exact at_mem t h (hf f List.mem_cons_self)
/-- rows and strands counted -/
def cnt (p : List (List Sd) × List Sd) : Nat := (p.1.map (·.length)).sum + p.2.length + p.1.length
theorem fold_cnt (t : Int) : ∀ (fs : List Nat) (p : List (List Sd) × List Sd), cnt (fs.foldl (putR t) p) = cnt p + fs.length
  | [], _ => rfl
  | f :: fs, p => by
    rw [List.foldl_cons, fold_cnt t fs]
    by_cases h : f < 3
    · rw [putR_pos h]; simp [cnt]; omega
    · rw [putR_neg h]; simp [cnt]; omega

theorem rows_in (ns : List Int) : ∀ r ∈ rowsP ns, ∀ d ∈ r, SdOk d := by
  have h := fold_in ns.sum (figsAll ns ++ [8, 3, 0, 7]) ([], []) (all_lt ns) ⟨fun r hr => by simp at hr, fun d hd => by simp at hd⟩
  intro r hr d hd
  unfold rowsP at hr
  rcases List.mem_append.mp hr with hr | hr
  · exact strand_ok _ d (h.1 r hr d hd)
  · simp at hr; subst hr; exact strand_ok _ d (h.2 d hd)
theorem rows_cnt (ns : List Int) : ((rowsP ns).map (·.length)).sum + (rowsP ns).length ≤ 46 := by
  have h := fold_cnt ns.sum (figsAll ns ++ [8, 3, 0, 7]) ([], [])
  have h2 := all_len ns
  unfold rowsP
  have e : cnt (rowsQ ns) = (figsAll ns ++ [8, 3, 0, 7]).length := by rw [show rowsQ ns = (figsAll ns ++ [8, 3, 0, 7]).foldl (putR ns.sum) ([], []) from rfl, h]; simp [cnt]
  unfold cnt at e
  simp only [List.map_append, List.sum_append, List.map_cons, List.map_nil, List.sum_cons, List.sum_nil, List.length_append, List.length_cons, List.length_nil] at e h2 ⊢
  omega

/-- the rows that always stand -/
theorem rows_form (ns : List Int) : ∃ (Y : List (List Sd)), rowsP ns = [([32], [32]), ([65], [97])] :: [([32], [32])] :: [([223], [115, 115])] :: [([8203], [])] :: (Y ++ [[([goneAt ns.sum], [])]]) := by
  generalize ht : ns.sum = t
  refine ⟨(((ns.take 8).flatMap figs).foldl (putR t) ([], [])).1 ++ [(((ns.take 8).flatMap figs).foldl (putR t) ([], [])).2 ++ [([890], [32, 953]), ([32], [32])]], ?_⟩
  have e : rowsQ ns = ([[([32], [32]), ([65], [97])], [([32], [32])], [([223], [115, 115])], [([8203], [])]] ++ ((((ns.take 8).flatMap figs).foldl (putR t) ([], [])).1 ++ [(((ns.take 8).flatMap figs).foldl (putR t) ([], [])).2 ++ [([890], [32, 953]), ([32], [32])]]), [([goneAt t], [])]) := by
    unfold rowsQ figsAll
    rw [ht, List.foldl_append, List.foldl_append]
    have e0 : figs0.foldl (putR t) ([], []) = ([[([32], [32]), ([65], [97])], [([32], [32])], [([223], [115, 115])], [([8203], [])]] ++ [], []) := rfl
    rw [e0, fold_pre]
    generalize ((ns.take 8).flatMap figs).foldl (putR t) ([], []) = q
    obtain ⟨Y, Z⟩ := q
    dsimp only
    simp only [List.foldl_cons, List.foldl_nil]
    rw [putR_neg (f := 8) (by decide), putR_neg (f := 3) (by decide), putR_pos (f := 0) (by decide), putR_neg (f := 7) (by decide)]
    have a8 : strandAt t 8 = ([890], [32, 953]) := rfl
    have a3 : strandAt t 3 = ([32], [32]) := rfl
    have a7 : strandAt t 7 = ([goneAt t], []) := rfl
    rw [a8, a3, a7]
    simp
  unfold rowsP
  rw [e]
  rfl
end Mine
end

section
open PySem PySem.W PyProof.Rows PySem.Builtin PySem.Builtin.Str
namespace Mine

theorem row_nf1 {row : List Sd} (h : ∀ d ∈ row, SdOk d) : Nf (joinL [] (row.map (·.1))) := by
  rw [joinE]
  intro hm
  obtain ⟨l, hl, hc⟩ := List.mem_flatten.mp hm
  obtain ⟨d, hd, rfl⟩ := List.mem_map.mp hl
  obtain ⟨c, e, hne, _⟩ := h d hd
  rw [e] at hc
  simp at hc
  exact hne hc.symm
theorem row_nf2 {row : List Sd} (h : ∀ d ∈ row, SdOk d) : Nf (joinL [] (row.map (·.2))) := by
  rw [joinE]
  intro hm
  obtain ⟨l, hl, hc⟩ := List.mem_flatten.mp hm
  obtain ⟨d, hd, rfl⟩ := List.mem_map.mp hl
  obtain ⟨c, e, hne, hn, _⟩ := h d hd
  exact hn hc
theorem row_prep {row : List Sd} (h : ∀ d ∈ row, SdOk d) : prep (joinL [] (row.map (·.1))) = joinL [] (row.map (·.2)) := by
  rw [joinE, joinE, prep_flat, List.map_map]
  congr 1
  apply List.map_congr_left
  intro d hd
  obtain ⟨c, e, _, _, hp, _⟩ := h d hd
  show prep d.1 = d.2
  rw [e, prep_one, hp]

theorem drawn_nf (ns : List Int) : NF (drawnP ns) := by
  intro r hr
  obtain ⟨row, hrow, rfl⟩ := List.mem_map.mp hr
  exact row_nf1 (rows_in ns row hrow)
theorem due_nf (ns : List Int) : NF (dueP ns) := by
  intro r hr
  obtain ⟨row, hrow, rfl⟩ := List.mem_map.mp hr
  exact row_nf2 (rows_in ns row hrow)
theorem due_eq (ns : List Int) : (drawnP ns).map prep = dueP ns := by
  unfold drawnP dueP
  rw [List.map_map]
  apply List.map_congr_left
  intro row hrow
  exact row_prep (rows_in ns row hrow)

theorem trim_snoc {g : Nat} (hg : wh g = false) : ∀ xs : List (List Nat), trimEnd (xs ++ [[g]]) = xs ++ [[g]] ∧ allWhite (xs ++ [[g]]) = false
  | [] => by
    have hw : white [g] = false := by
      unfold white
      rw [front_of_first hg]
      simp
    refine ⟨?_, ?_⟩
    · show trimEnd [[g]] = [[g]]
      rw [trim_w rfl hw, back_one hg]
    · show (white [g] && true) = false
      rw [hw]; rfl
  | x :: xs => by
    obtain ⟨h1, h2⟩ := trim_snoc hg xs
    refine ⟨?_, ?_⟩
    · rw [List.cons_append, trim_c h2, h1]
    · rw [List.cons_append, allWhite_cons, h2]; simp

theorem gone_wh (t : Int) : wh (goneAt t) = false := by
  have := List.all_eq_true.mp gone_nw _ (gone_mem t)
  simpa using this

theorem w1 : white [32, 65] = false := by decide +kernel
theorem w2 : white [32] = true := by decide +kernel
theorem w3 : white [223] = false := by decide +kernel
theorem w4 : white [8203] = false := by decide +kernel
theorem f3 : front [223] = [223] := by decide +kernel

theorem drawn_form (ns : List Int) : ∃ X, drawnP ns = [32, 65] :: [32] :: [223] :: [8203] :: (X ++ [[goneAt ns.sum]]) := by
  obtain ⟨Y, e⟩ := rows_form ns
  refine ⟨Y.map fun row => joinL [] (row.map (·.1)), ?_⟩
  unfold drawnP
  rw [e]
  simp [joinL]

theorem docs_eq (ns : List Int) : (chain (docP ns)).1 = [jn (drawnP ns), jn ((drawnP ns).drop 2)] ∧ startsP (drawnP ns) = [0, 2] := by
  have hN := drawn_nf ns
  unfold docP
  obtain ⟨X, e⟩ := drawn_form ns
  rw [e] at hN ⊢
  have hg := gone_wh ns.sum
  generalize goneAt ns.sum = g at hN hg
  obtain ⟨t1, t2⟩ := trim_snoc hg ([223] :: [8203] :: X)
  have t1' : trimEnd ([223] :: [8203] :: (X ++ [[g]])) = [223] :: [8203] :: (X ++ [[g]]) := t1
  have t2' : allWhite ([223] :: [8203] :: (X ++ [[g]])) = false := t2
  have t3 : allWhite ([8203] :: (X ++ [[g]])) = false := (trim_snoc hg ([8203] :: X)).2
  constructor
  · have s1 := split_head hN w1 w2 t2'
    rw [t1'] at s1
    have s2 := split_rest hN.tail.tail w3 w4
    have hne : (splitP (jn ([32, 65] :: [32] :: [223] :: [8203] :: (X ++ [[g]])))).1 ≠ [] := by rw [s1]; exact front_ne w1
    have hs := splitP_shrink hne
    show jn _ :: (ch (jn ([32, 65] :: [32] :: [223] :: [8203] :: (X ++ [[g]]))).length (jn ([32, 65] :: [32] :: [223] :: [8203] :: (X ++ [[g]])))).1 = _
    obtain ⟨n, hn⟩ : ∃ m, (jn ([32, 65] :: [32] :: [223] :: [8203] :: (X ++ [[g]]))).length = m + 1 := ⟨(jn ([32, 65] :: [32] :: [223] :: [8203] :: (X ++ [[g]]))).length - 1, by omega⟩
    have hz : ch n (jn ([223] :: [8203] :: (X ++ [[g]]))) = ([], [], (splitP (jn ([223] :: [8203] :: (X ++ [[g]])))).2) := ch_nil (by rw [s2]) n
    rw [hn, ch_cons hne, s1]
    dsimp only
    rw [hz]
    rfl
  · have a0 : 0 ∉ fulls ([32] :: [223] :: [8203] :: (X ++ [[g]])) := by
      intro q
      have := (zero_fulls (rs := [32] :: [223] :: [8203] :: (X ++ [[g]])) (by rw [allWhite_cons, t2']; simp)).mp q
      have w2' : white (([32] :: [223] :: [8203] :: (X ++ [[g]])).headD []) = true := w2
      rw [w2'] at this
      cases this
    have a1 : 0 ∈ fulls ([8203] :: (X ++ [[g]])) := (zero_fulls t3).mpr w4
    unfold startsP
    rw [(told_f w1 a0).2.1, (told_w w2).2.1, (told_c w3 a1).2.1]
    rfl

theorem sum_one {rows : List (List Sd)} (h : ∀ r ∈ rows, ∀ d ∈ r, SdOk d) : ((rows.map fun row => joinL [] (row.map (·.1))).map (·.length)).sum = (rows.map (·.length)).sum := by
  induction rows with
  | nil => rfl
  | cons r rs ih =>
    have h1 : (joinL [] (r.map (·.1))).length = r.length := by
      rw [joinE_len, List.map_map]
      have : r.map ((fun x => x.length) ∘ fun x => x.1) = r.map fun _ => 1 := by
        apply List.map_congr_left
        intro d hd
        obtain ⟨c, e, _⟩ := h r List.mem_cons_self d hd
        show d.1.length = 1
        rw [e]; rfl
      rw [this]
      clear ih h this
      induction r with
      | nil => rfl
      | cons a b ih => simp only [List.map_cons, List.sum_cons, List.length_cons]; omega
    simp only [List.map_cons, List.sum_cons]
    rw [h1]
    have := ih fun x hx => h x (List.mem_cons_of_mem _ hx)
    simp only [List.map_map] at this ⊢
    omega

theorem mem_sum {ls : List Nat} {n : Nat} (h : n ∈ ls) : n ≤ ls.sum := by
  induction ls with
  | nil => cases h
  | cons a b ih =>
    rw [List.sum_cons]
    rcases List.mem_cons.mp h with rfl | h
    · omega
    · have := ih h; omega

theorem doc_len (ns : List Int) : (jn (drawnP ns)).length ≤ 46 := by
  have h1 := joinL_len [10] (drawnP ns)
  have h2 := sum_one (rows_in ns)
  have h3 := rows_cnt ns
  have h4 : (drawnP ns).length = (rowsP ns).length := by unfold drawnP; rw [List.length_map]
  have h5 : ((drawnP ns).map (·.length)).sum = ((rowsP ns).map (·.length)).sum := h2
  simp only [List.length_cons, List.length_nil] at h1
  show (joinL [10] (drawnP ns)).length ≤ 46
  omega

theorem drop_len : ∀ (k : Nat) (rows : List (List Nat)), (jn (rows.drop k)).length ≤ (jn rows).length
  | 0, _ => Nat.le_refl _
  | k + 1, [] => Nat.le_refl _
  | k + 1, r :: rs => Nat.le_trans (drop_len k rs) jn_le

theorem plain_law (ns : List Int) : PlainLaw ns := by
  obtain ⟨hd, hs⟩ := docs_eq ns
  have hcnt := rows_cnt ns
  refine ⟨?_, ?_, ?_, by omega, ?_, ?_⟩
  · unfold docP
    rw [chain_RR (drawn_nf ns), told_RR]
  · rw [hd, hs]
    have key : ∀ k, (chain (prep (jn ((drawnP ns).drop k)))).2 = (toldH ((dueP ns).drop k), toldR ((dueP ns).drop k)) := by
      intro k
      rw [prep_jn, List.map_drop, due_eq, chain_RR (fun r hr => due_nf ns r (List.mem_of_mem_drop hr)), told_RR]
    have k0 := key 0
    have k2 := key 2
    simp only [List.drop_zero] at k0
    simp only [List.map_cons, List.map_nil, List.drop_zero]
    rw [k0, k2]
  · rw [hd]
    intro d hm
    have h1 := doc_len ns
    simp only [List.mem_cons, List.not_mem_nil, or_false] at hm
    rcases hm with rfl | rfl
    · omega
    · have := drop_len 2 (drawnP ns); omega
  · intro r hr
    have := mem_sum (List.mem_map.mpr ⟨r, hr, rfl⟩ : r.length ∈ (rowsP ns).map (·.length))
    omega
  · intro r hr d hdm
    obtain ⟨c, e, _, _, _, h4⟩ := rows_in ns r hr d hdm
    exact ⟨by rw [e]; simp, h4⟩

theorem done : rw.Holds := law_holds (walk_of plain_law)
end Mine
end

theorem PySem.Challenge.cw_mq0269_01_holds : PySem.Challenge.rw_mq0269_01.Holds := by
  exact Mine.done
