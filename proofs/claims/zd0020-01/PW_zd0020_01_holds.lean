import PyProof.Rows.All
import Wide.All
import OpenK.AllK
import Wide.FinOn
import KE.KxPercentT
import KE.KEqDict
import PySem.Challenge.RW_zd0020_01
set_option maxRecDepth 100000
set_option Elab.async false
set_option linter.unusedVariables false
set_option linter.unusedSimpArgs false
set_option linter.all false
namespace Mine
open PySem PySem.W PyProof.Rows PySem.Calls
theorem wp_wrap {α β : Type} {M : Model} {Γ : Ctx} (K : α → Sem β) (H : Value → Sem β) (gd lv) (Q : β → Pos → Shared → Prop) (E : Value → Pos → Shared → Prop) (m : Sem α) :
    ∀ (p : Pos) (s : Shared), Sem.wp M Γ (m.wrap K H gd lv) Q E p s ↔ Sem.wp M Γ m (fun a p s => Sem.wp M Γ (K a) Q E p s) (fun e p s => Sem.wp M Γ (H e) Q E p s) p s := by
  induction m with
  | call c h g l k ih =>
    intro p s
    simp only [Sem.wrap, Sem.wp]
    have : (fun (r : Result) s' => Sem.wp M Γ ((k r).wrap K H gd lv) Q E p s') = fun r s' => Sem.wp M Γ (k r) (fun a p s => Sem.wp M Γ (K a) Q E p s) (fun e p s => Sem.wp M Γ (H e) Q E p s) p s' := by
      funext r s'; exact propext (ih r p s')
    rw [this]
  | _ => intro p s; simp only [Sem.wrap, Sem.wp, *]
noncomputable def baseF (q : Pos) : Frame := .ret (fun r => match r with | .ok f => .pure (.done f) | .error _ => .unsupported "a raise under the piece") none false [] (.builtin "claim.caller" {}) q []
noncomputable def topCtx (c : Code) (q : Pos) : Ctx := ⟨c, none, none, [(.builtin "claim.caller" {}, q)], none⟩
theorem step_end {den : Code → Sem Fin} {p : Program} {w : World} {s : Shared} {g : Flow} {c : Code} {pos : Pos} (hg : s.gens = #[]) : step den p w s ⟨.pure (.done g), c, pos, []⟩ = .halt (.done g) s := by
  obtain ⟨hp, gs, dr, tk, os⟩ := s
  dsimp only at hg
  subst hg
  show finish (.done g) _ = _
  simp [finish, leftWithCleanup]
theorem seg0_halts {tb : String → Option Builtin} {p : Program} {w : World} {n₀ : Nat} {ann : Option Value} : ∀ (n : Nat) (s : Shared) (t : Thread) (f : Flow) (s' : Shared) (p' : Pos),
    segRun tb p w n₀ ann 0 n s t = some (f, s', .builtin "claim.caller" {}, p') → s'.gens = #[] →
    ∃ k, runN (denote tb) p w k s t = .halted (.done f) s' ∧ ∀ j s₁ t₁, runN (denote tb) p w j s t = .running s₁ t₁ → t₁.calm = true
  | 0, _, _, _, _, _, h, _ => by simp [segRun] at h
  | n + 1, s, t, f, s', p', h, hg => by
    unfold segRun at h
    cases he : endAt 0 t with
    | some g =>
      rw [he] at h
      obtain ⟨rfl, rfl, hc, rfl⟩ : g = f ∧ s = s' ∧ t.code = _ ∧ t.pos = p' := by simpa using h
      obtain ⟨cur, code, pos, stack⟩ := t
      dsimp only at hc
      subst hc
      have hs : stack = [] := by
        unfold endAt at he
        cases stack with
        | nil => rfl
        | cons a b => simp at he
      subst hs
      have hcur : cur = .pure (.done g) := by
        unfold endAt at he
        simp only [List.length_nil, beq_self_eq_true] at he
        split at he
        · simp_all
        · cases he
      subst hcur
      have h1 : runN (denote tb) p w 1 s ⟨.pure (.done g), .builtin "claim.caller" {}, pos, []⟩ = .halted (.done g) s := by
        simp only [runN, step_end hg]
      refine ⟨1, h1, fun j s₁ t₁ hj => ?_⟩
      cases j with
      | zero => simp only [runN, Run.running.injEq] at hj; obtain ⟨-, rfl⟩ := hj; rfl
      | succ j => simp only [runN, step_end hg] at hj; cases hj
    | none =>
      rw [he] at h
      cases hk : stepOk n₀ ann t with
      | false => rw [hk] at h; cases h
      | true =>
        rw [hk] at h
        cases hs : step (denote tb) p w s t with
        | halt o s₂ => rw [hs] at h; cases h
        | go s₂ t₂ =>
          rw [hs] at h
          obtain ⟨k, hr, hc⟩ := seg0_halts n s₂ t₂ f s' p' h hg
          refine ⟨k + 1, by simp only [runN, hs]; exact hr, fun j s₁ t₁ hj => ?_⟩
          cases j with
          | zero =>
            simp only [runN, Run.running.injEq] at hj
            obtain ⟨-, rfl⟩ := hj
            exact (Bool.and_eq_true_iff.mp hk).1
          | succ j => simp only [runN, hs] at hj; exact hc j s₁ t₁ hj
theorem done_inv {M : Model} {Γ : Ctx} {p : Pos} {g f : Flow} {s s' : Shared} (h : Runs M Γ p (.pure (.done g)) [] s (.ret (.ok f)) s') : g = f ∧ s = s' := by
  have W := (Sem.wp_iff_runs M Γ (.pure (.done g)) (fun r s'' => r = .ok f ∧ s'' = s') p s).mpr ⟨_, _, h, rfl, rfl⟩
  simp only [Sem.wp, Sem.finPost] at W
  exact ⟨by injection W.1, W.2⟩
theorem stop_inv {M : Model} {Γ : Ctx} {p : Pos} {x : String} {s s' : Shared} {f : Flow} (h : Runs M Γ p (.unsupported x) [] s (.ret (.ok f)) s') : False := by
  have W := (Sem.wp_iff_runs M Γ (.unsupported x) (fun r s'' => r = .ok f ∧ s'' = s') p s).mpr ⟨_, _, h, rfl, rfl⟩
  simp only [Sem.wp] at W
theorem wp_of_seg0 {tb : String → Option Builtin} {p : Program} {w : World} {n₀ : Nat} {ann : Option Value} {n : Nat} {s s' : Shared} {f : Flow} {m : Sem Flow} {c : Code} {pos q p' : Pos}
    (h : segRun tb p w n₀ ann 0 n s ⟨m.wrap doneF deadEnd id id, c, pos, [baseF q]⟩ = some (f, s', .builtin "claim.caller" {}, p')) (hg : s'.gens = #[]) :
    Sem.wp ⟨denote tb, p, w⟩ (topCtx c q) m (fun a _ s'' => a = f ∧ s'' = s') (fun _ _ _ => False) pos s := by
  obtain ⟨k, hr, hc⟩ := seg0_halts n _ _ _ _ _ h hg
  obtain ⟨s₂, hr2, hf⟩ := runN_calm_runNI _ _ _ hr hc
  have e : s₂ = s' := Shared.eq_of_forget_eq hf.symm hg
  subst e
  have R := ((halts_iff (M := ⟨denote tb, p, w⟩) (r := .ok f) (s := s) (t := m.wrap doneF deadEnd id id) (c := c) (p := pos) (st := [baseF q])).mp ⟨k, hr2⟩).1
  have W : Sem.wp ⟨denote tb, p, w⟩ (topCtx c q) (m.wrap doneF deadEnd id id) (Sem.finPost ⟨denote tb, p, w⟩ (topCtx c q) fun r s'' => r = .ok f ∧ s'' = s₂) (fun e _ s'' => (.error e : Result) = .ok f ∧ s'' = s₂) pos s := by
    refine (Sem.wp_iff_runs _ (topCtx c q) (m.wrap doneF deadEnd id id) (fun r s'' => r = .ok f ∧ s'' = s₂) pos s).mpr ?_
    generalize m.wrap doneF deadEnd id id = T at R ⊢
    cases R with
    | segRet h1 h2 =>
      rename_i r s₁
      refine ⟨r, s₁, h1, ?_⟩
      cases r with
      | ok g => obtain ⟨rfl, rfl⟩ := done_inv h2; exact ⟨rfl, rfl⟩
      | error x => exact (stop_inv h2).elim
    | segSuspGen hx => cases hx
  rw [wp_wrap] at W
  refine Sem.wp_mono _ _ _ (fun a p' s'' x => ?_) (fun e p' s'' x => ?_) _ _ W
  · have := x
    simp only [Sem.wp, Sem.finPost] at this
    exact ⟨by injection this.1, this.2⟩
  · simp only [Sem.wp] at x
section
variable {prog : Program} {w : World} {A : Around} {E : Value → Shared → Prop} {s : Shared}
noncomputable def LitP (prog : Program) (w : World) (p : Sem Value × Sem Value) (e : Int × Str) : Prop :=
  ∀ (A : Around) (E : Value → Shared → Prop) (s : Shared),
    (∀ Q : Value → Shared → Prop, Q (.int e.1 s.toks) { s with toks := s.toks + 1 } → wpAny (model prog w) A p.1 Q E s) ∧
    (∀ Q : Value → Shared → Prop, Q (.str e.2 s.toks) { s with toks := s.toks + 1 } → wpAny (model prog w) A p.2 Q E s)
noncomputable def ValP (kv : Int × Value) (e : Int × Str) : Prop := kv.1 = e.1 ∧ ∃ t, kv.2 = .str e.2 t
inductive All2 {α β : Type} (R : α → β → Prop) : List α → List β → Prop
  | nil : All2 R [] []
  | cons {a b l m} : R a b → All2 R l m → All2 R (a :: l) (b :: m)
theorem All2.length {α β : Type} {R : α → β → Prop} {l : List α} {m : List β} (h : All2 R l m) : l.length = m.length := by
  induction h with
  | nil => rfl
  | cons _ _ ih => simp [ih]
theorem All2.append {α β : Type} {R : α → β → Prop} {l l' : List α} {m m' : List β} (h : All2 R l m) (h' : All2 R l' m') : All2 R (l ++ l') (m ++ m') := by
  induction h with
  | nil => exact h'
  | cons a _ ih => exact .cons a ih
theorem All2.keys {kvs : List (Int × Value)} {es : List (Int × Str)} (h : All2 ValP kvs es) : kvs.map (·.1) = es.map (·.1) := by
  induction h with
  | nil => rfl
  | cons a _ ih => simp [ih, a.1]
theorem stored_new {K : Type} [DecidableEq K] {kvs : List (K × Value)} {k : K} {v : Value} (h : k ∉ kvs.map (·.1)) : stored kvs k v = kvs ++ [(k, v)] := by
  unfold stored
  rw [if_neg]
  rw [List.any_eq_true]; rintro ⟨kv, hkv, he⟩
  exact h (List.mem_map.mpr ⟨kv, hkv, of_decide_eq_true he⟩)
theorem dictPut_new {K : Type} [DecidableEq K] {knd : KeyKind prog w K} {d : Addr} {kvs : List (K × Value)} {k : K} {key v : Value} {Q : Unit → Shared → Prop} (hkey : knd.is k key = true) (hm : s.heap.DictOf knd d kvs)
    (hnew : k ∉ kvs.map (·.1)) (hQ : ∀ h', h'.DictOf knd d (kvs ++ [(k, v)]) → Heap.SameBut d s.heap h' → Q () { s with heap := h' }) (hsz : kvs.length ≤ sizeLine) :
    wpAny (model prog w) A (dictPut d (knd.hash k) key v) Q E s := by
  obtain ⟨o, es, ep, ho, hc, hd, hk, hp, hn⟩ := hm
  have hes : es.size ≤ sizeLine := by
    have e1 := hp.length
    rw [Array.length_toList] at e1
    omega
  unfold dictPut
  refine wpAny_bind (wpAny_dictFind_of hkey ho hd hk ?_)
  have hnone : (es.findIdx? fun e => knd.is k e.key) = none := by
    have hx : (es.findIdx? fun e => knd.is k e.key) = kvs.findIdx? fun kv => decide (kv.1 = k) := by
      rw [← hp.findIdx k]; obtain ⟨l⟩ := es; simp
    rw [hx, List.findIdx?_eq_none_iff]
    intro x hx
    have : x.1 ≠ k := fun e => hnew (List.mem_map.mpr ⟨x, hx, e⟩)
    simpa using this
  rw [hnone]
  refine wpAny_updateDictKeys (hz := hes) ho hd (hQ _ ⟨_, _, ep + 1, Heap.get?_update_self _ ho (Obj.isFreed_of_dict (Obj.data_mapDictKeys hd _)),
      hc.mapDictKeys _, Obj.data_mapDictKeys hd _, hk.push hkey _, ?_, ?_⟩ (Heap.SameBut.update ..))
  · have := hp.append hkey (knd.hash k) v
    obtain ⟨l⟩ := es
    simpa using this
  · rw [List.map_append, List.nodup_append]
    refine ⟨hn, by simp, ?_⟩
    intro a ha b hb
    simp only [List.map_cons, List.map_nil, List.mem_singleton] at hb
    subst hb
    exact fun e => hnew (e ▸ ha)
theorem merge_fresh {K : Type} [DecidableEq K] {knd : KeyKind prog w K} {d o : Addr} {kvs more : List (K × Value)} {Q : Unit → Shared → Prop} (hdo : d ≠ o) (hoS : (o == sysModules) = false)
    (hd : s.heap.DictOf knd d kvs) (hne : kvs ≠ []) (ho : s.heap.DictOf knd o more) (hnd : ((kvs ++ more).map (·.1)).Nodup)
    (hQ : ∀ h', h'.DictOf knd d (kvs ++ more) → Heap.SameBut d s.heap h' → Q () { s with heap := h' }) (hsz : kvs.length + more.length ≤ sizeLine) :
    wpAny (model prog w) A (mergeMapping d (.ref o) false) Q E s := by
  obtain ⟨od, esd, epd, hod, hcd, hdd, hkd, hpd, _⟩ := id hd
  obtain ⟨oo, eso, epo, hoo, hco, hdo', hko, hpo, hno⟩ := id ho
  have hlen : more.length = eso.size := by rw [← hpo.length]; simp
  unfold mergeMapping
  refine wpAny_bind (wpAny_isInstance ho.typeIs isSubtype_dict_dict ?_)
  simp only [if_true]
  refine wpAny_bind (wpAny_specialOf ho.typeIs F.slot_dict_iter.lookup ?_)
  refine wpAny_bind (wpAny_pure ?_)
  simp only [beq_self_eq_true]
  rw [if_neg (by rw [hoS]; exact Bool.false_ne_true)]
  refine wpAny_bind (wpAny_dictEntries hod hdd ?_)
  have hemp : ¬ esd.isEmpty = true := by
    intro he
    have h0 : esd = #[] := Array.isEmpty_iff.mp he
    have := hpd.length
    rw [h0] at this
    exact hne (List.length_eq_zero_iff.mp (by simpa using this.symm))
  rw [if_neg hemp]
  refine wpAny_bind (wpAny_dictEntries hoo hdo' ?_)
  refine wpAny_bind (wpAny_dictEpoch hoo hdo' ?_)
  refine wpAny_bind ?_
  rw [List.range_eq_range']
  refine wpAny_forIn_list _
    (fun rest _ s' => ∃ h' i, s' = { s with heap := h' } ∧ rest = List.range' i (eso.size - i) ∧ i ≤ eso.size ∧ h'.DictOf knd d (kvs ++ more.take i) ∧ h'.get? o = some oo ∧ Heap.SameBut d s.heap h')
    _ ?_ ?_ _ _ ⟨s.heap, 0, rfl, by simp, Nat.zero_le _, by simpa using hd, hoo, Heap.SameBut.refl _ _⟩
  · rintro x rest b s' ⟨h', i, rfl, hr, hi, hd', hoo', hs'⟩
    have hlt : i < eso.size := by
      rcases Nat.lt_or_ge i eso.size with h | h
      · exact h
      · rw [Nat.sub_eq_zero_of_le h] at hr; simp at hr
    have hxr : x = i ∧ rest = List.range' (i + 1) (eso.size - (i + 1)) := by
      have e : eso.size - i = (eso.size - (i + 1)) + 1 := by omega
      rw [e, List.range'_succ] at hr
      injection hr with h1 h2
      exact ⟨h1, h2⟩
    obtain ⟨rfl, hrest⟩ := hxr
    refine wpAny_bind (wpAny_dictEntries hoo' hdo' ?_)
    rw [Array.getElem?_eq_getElem hlt]
    have hxm : x < more.length := by omega
    have hkv : more[x]? = some (more[x].1, more[x].2) := List.getElem?_eq_getElem hxm
    obtain ⟨hkey, hval⟩ := hpo.get? (e := eso[x]) (by simp [hlt]) hkv
    obtain ⟨k', hkey', hhash⟩ := hko eso[x] (Array.getElem_mem hlt)
    have hkk : k' = more[x].1 := knd.inj _ _ _ hkey' hkey
    dsimp only
    refine wpAny_bind (wpAny_holding ?_)
    rw [if_neg (by decide), hhash, hval, hkk]
    have htk : more.take (x + 1) = more.take x ++ [(more[x].1, more[x].2)] := by
      rw [List.take_add_one, hkv]; rfl
    have hsp : kvs ++ more = (kvs ++ more.take x) ++ ((more[x].1, more[x].2) :: more.drop (x + 1)) := by
      rw [List.append_assoc]
      congr 1
      conv => lhs; rw [← List.take_append_drop x more, List.drop_eq_getElem_cons hxm]
    have hnew : more[x].1 ∉ (kvs ++ more.take x).map (·.1) := by
      rw [hsp, List.map_append, List.nodup_append] at hnd
      intro hmem
      exact hnd.2.2 _ hmem _ (by simp) rfl
    have hl : (kvs ++ more.take x).length ≤ sizeLine := by
      rw [List.length_append, List.length_take]; omega
    refine dictPut_new hkey hd' hnew (fun h'' hd'' hs'' => ?_) hl
    have hoo'' : h''.get? o = some oo := (hs''.2 o (Ne.symm hdo)).trans hoo'
    refine wpAny_bind (wpAny_dictEpoch hoo'' hdo' ?_)
    rw [if_neg (by simp)]
    refine wpAny_pure ⟨h'', x + 1, rfl, hrest, hlt, ?_, hoo'', hs'.trans hs''⟩
    rw [htk, ← List.append_assoc]; exact hd''
  · rintro b s' ⟨h', i, rfl, hr, hi, hd', hoo', hs'⟩
    have hin : i = eso.size := by
      rcases Nat.lt_or_ge i eso.size with h | h
      · have e : eso.size - i = (eso.size - (i + 1)) + 1 := by omega
        rw [e, List.range'_succ] at hr; exact nomatch hr
      · exact Nat.le_antisymm hi h
    refine wpAny_pure (hQ h' ?_ hs')
    rw [hin, ← hlen, List.take_length] at hd'; exact hd'
theorem evalPairs_lit {pairs : List (Sem Value × Sem Value)} {es : List (Int × Str)} (hp : All2 (LitP prog w) pairs es) : ∀ {s : Shared} {Q : List (Value × Value) → Shared → Prop},
    (∀ tk vs kvs, Carries (intKind prog w) vs kvs → All2 ValP kvs es → Q vs { s with toks := tk }) → wpAny (model prog w) A (evalPairs pairs) Q E s := by
  induction hp with
  | nil => intro s Q h; exact evalPairs_nil (h s.toks [] [] trivial .nil)
  | @cons p e l m h1 _ ih =>
    intro s Q h
    refine evalPairs_cons ((h1 A E s).1 _ ((h1 A E _).2 _ (ih fun tk vs kvs hc hv => ?_)))
    exact h tk (_ :: vs) ((e.1, .str e.2 (s.toks + 1)) :: kvs) ⟨intKind_is _ _ _ _, rfl, hc⟩ (.cons ⟨rfl, _, rfl⟩ hv)
theorem dictSet_new {d : Addr} {kvs : List (Int × Value)} {k : Int} {t : Tok} {v : Value} {Q : Unit → Shared → Prop} (hm : s.heap.DictOf (intKind prog w) d kvs) (hnew : k ∉ kvs.map (·.1))
    (hQ : ∀ h', h'.DictOf (intKind prog w) d (kvs ++ [(k, v)]) → Heap.SameBut d s.heap h' → Q () { s with heap := h', toks := s.toks + 1 }) (hsz : kvs.length ≤ sizeLine) :
    wpAny (model prog w) A (dictSet d (.int k t) v) Q E s :=
  wpAny_dictSet_pairs (hsz := hsz) (intKind_is _ _ _ _) hm fun h' hd hs => hQ h' (by rw [stored_new hnew] at hd; exact hd) hs
theorem put_all {d : Addr} : ∀ {pairs : List (Sem Value × Sem Value)} {es : List (Int × Str)} (_ : All2 (LitP prog w) pairs es) {s : Shared} {Q : PUnit → Shared → Prop} {kvs : List (Int × Value)}, s.heap.DictOf (intKind prog w) d kvs →
    (kvs.map (·.1) ++ es.map (·.1)).Nodup → kvs.length + es.length ≤ sizeLine →
    (∀ h' tk more, All2 ValP more es → h'.DictOf (intKind prog w) d (kvs ++ more) → Heap.SameBut d s.heap h' → Q PUnit.unit { s with heap := h', toks := tk }) →
    wpAny (model prog w) A (forIn pairs PUnit.unit fun (x : Sem Value × Sem Value) (_ : PUnit) => (do let kv ← x.1; let vv ← holding [kv] x.2; holding [kv, vv] (dictSet d kv vv); pure (ForInStep.yield PUnit.unit) : Sem (ForInStep PUnit))) Q E s := by
  intro pairs es hp
  induction hp with
  | nil =>
    intro s Q kvs hd _ _ hQ
    rw [List.forIn_nil]
    exact wpAny_pure (hQ s.heap s.toks [] .nil (by simpa using hd) (Heap.SameBut.refl _ _))
  | @cons p e l m h1 _ ih =>
    intro s Q kvs hd hnd hsz hQ
    rw [List.length_cons] at hsz
    have hnew : e.1 ∉ kvs.map (·.1) := by
      rw [List.map_cons, List.nodup_append] at hnd
      intro hm
      exact hnd.2.2 _ hm _ (by simp) rfl
    rw [List.forIn_cons]
    refine wpAny_bind (wpAny_bind ((h1 A E s).1 _ (wpAny_bind (wpAny_holding ((h1 A E _).2 _ (wpAny_bind (wpAny_holding (dictSet_new (hd) hnew (fun h' hd' hs' => wpAny_pure ?_) (by omega)))))))))
    refine ih (kvs := kvs ++ [(e.1, .str e.2 (s.toks + 1))]) hd' (by simpa using hnd) (by rw [List.length_append, List.length_singleton]; omega) fun h'' tk more hv hd'' hs'' => ?_
    exact hQ h'' tk ((e.1, .str e.2 (s.toks + 1)) :: more) (.cons ⟨rfl, _, rfl⟩ hv) (by simpa using hd'') (Heap.SameBut.trans hs' hs'')
theorem sub_made {pairs : List (Sem Value × Sem Value)} {es : List (Int × Str)} {Q : Addr → Shared → Prop} (hp : All2 (LitP prog w) pairs es) (hnd : (es.map (·.1)).Nodup) (hsz : es.length ≤ 4096)
    (hQ : ∀ h' tk kvs, All2 ValP kvs es → h'.DictOf (intKind prog w) s.heap.objs.size kvs → h'.objs.size = s.heap.objs.size + 1 → (∀ b o, s.heap.get? b = some o → h'.get? b = some o) →
      Q s.heap.objs.size { s with heap := h', toks := tk }) :
    wpAny (model prog w) A (subDict pairs) Q E s := by
  have keep : ∀ (h' : Heap), Heap.SameBut s.heap.objs.size (s.heap.push { cls := .type "dict", data := .dict #[] }) h' → h'.objs.size = s.heap.objs.size + 1 ∧ ∀ b o, s.heap.get? b = some o → h'.get? b = some o := by
    intro h' hs
    refine ⟨hs.1.trans (Heap.size_push ..), fun b o e => ?_⟩
    exact (hs.2 b (Nat.ne_of_lt (Heap.lt_size e))).trans (Heap.get?_push_of_some _ e)
  have hs4 : es.length ≤ sizeLine := by rw [sizeLine_eq]; omega
  by_cases hl : pairs.length ≤ 15
  · refine wpAny_subDict (knd := intKind prog w) hl (evalPairs_lit hp fun tk vs kvs hc hv => ⟨kvs, hc, Heap.DictOf.new _, fun h' hd hs => ?_⟩)
    have hk : (kvs.map (·.1)).Nodup := by rw [hv.keys]; exact hnd
    rw [merged_nil_of_nodup kvs hk] at hd
    exact hQ h' _ kvs hv hd (keep h' hs).1 (keep h' hs).2
  · unfold subDict
    refine wpAny_bind (wpAny_alloc ?_)
    refine wpAny_bind (wpAny_holding ?_)
    rw [if_neg hl]
    refine wpAny_bind (wpAny_rule (wpAny_bind ?_))
    refine put_all hp (s := { s with heap := s.heap.push { cls := .type "dict", data := .dict #[] } }) (kvs := []) (Heap.DictOf.new _) (by simpa using hnd) (by simpa using hs4) fun h' tk more hv hd hs => ?_
    exact wpAny_pure (wpAny_pure (hQ h' tk more hv (by simpa using hd) (keep h' hs).1 (keep h' hs).2))
structure Disp (prog : Program) (w : World) (s : Shared) (done run rest : List (Int × Str)) (prun prest : List (Sem Value × Sem Value)) (main : Option Addr) (s' : Shared) : Prop where
  runs : All2 (LitP prog w) prun run
  rests : All2 (LitP prog w) prest rest
  nodup : ((done ++ (run ++ rest)).map (·.1)).Nodup
  heap : ∃ h' tk c, s' = { s with heap := h', toks := tk } ∧ done.length = 17 * c ∧ h'.objs.size = s.heap.objs.size + c ∧ (∀ b o, s.heap.get? b = some o → h'.get? b = some o) ∧
    ((c = 0 ∧ main = none) ∨ (0 < c ∧ main = some s.heap.objs.size ∧ ∃ kvs, All2 ValP kvs done ∧ h'.DictOf (intKind prog w) s.heap.objs.size kvs))
theorem wp_display {pairs : List (Sem Value × Sem Value)} {es : List (Int × Str)} {Q : Value → Shared → Prop} (hp : All2 (LitP prog w) pairs es) (hne : es ≠ []) (hnd : (es.map (·.1)).Nodup) (hsz : es.length ≤ 4096) (hlow : sysModules < s.heap.objs.size)
    (hQ : ∀ h' tk kvs, All2 ValP kvs es → h'.DictOf (intKind prog w) s.heap.objs.size kvs → h'.objs.size = s.heap.objs.size + (es.length + 16) / 17 → (∀ b o, s.heap.get? b = some o → h'.get? b = some o) →
      Q (.ref s.heap.objs.size) { s with heap := h', toks := tk }) :
    wpAny (model prog w) A (dictDisplay (pairs.map fun p => (some p.1, p.2))) Q E s := by
  have key : ∀ (done run : List (Int × Str)) (prun : List (Sem Value × Sem Value)) (main : Option Addr) (s' : Shared) (R : Option Addr → Shared → Prop), Disp prog w s done run [] prun [] main s' → 0 < run.length → run.length ≤ 17 → done.length + run.length ≤ 4096 →
      (∀ s'' kvs h' tk, s'' = { s with heap := h', toks := tk } → All2 ValP kvs (done ++ run) → h'.DictOf (intKind prog w) s.heap.objs.size kvs → h'.objs.size = s.heap.objs.size + (done.length / 17 + 1) → (∀ b o, s.heap.get? b = some o → h'.get? b = some o) → R (some s.heap.objs.size) s'') →
      (main = none → wpAny (model prog w) A (do let a ← subDict prun; pure (some a)) R E s') ∧
      (∀ d, main = some d → ∀ k : Value → Sem Unit, wpAny (model prog w) A (do let sub ← holding [Value.ref d] (subDict prun); (holding [Value.ref d, Value.ref sub] (mergeMapping d (Value.ref sub) false)).onRaise k; pure (some d)) R E s') := by
    intro done run prun main s' R D h0 h17 hall hR
    obtain ⟨D2, _, D4, h', tk, c, rfl, hdc, hz, hk, hcase⟩ := D
    have hdiv : done.length / 17 = c := by omega
    have hlr : run.length ≤ 4096 := by omega
    have hn2 : (done.map (·.1) ++ run.map (·.1)).Nodup := by simpa using D4
    have hnr : (run.map (·.1)).Nodup := (List.nodup_append.mp hn2).2.1
    refine ⟨fun hm => ?_, fun d hm k => ?_⟩
    · rcases hcase with ⟨rfl, _⟩ | ⟨_, hm', _⟩
      · have hd0 : done = [] := List.length_eq_zero_iff.mp (by omega)
        subst hd0
        refine wpAny_bind (sub_made D2 hnr hlr fun h2 tk2 kvs hv hd hz2 hk2 => wpAny_pure ?_)
        have e : h'.objs.size = s.heap.objs.size := by omega
        dsimp only at hd hz2 hk2 ⊢
        rw [e] at hd hz2 ⊢
        exact hR _ kvs h2 tk2 rfl (by simpa using hv) hd (by simpa using hz2) fun b o x => hk2 b o (hk b o x)
      · rw [hm] at hm'; cases hm'
    · rcases hcase with ⟨_, hm'⟩ | ⟨hc, hm', kvs, hv, hd⟩
      · rw [hm] at hm'; cases hm'
      · rw [hm] at hm'
        obtain rfl : d = s.heap.objs.size := Option.some.inj hm'
        have hkn : kvs ≠ [] := by
          intro e
          subst e
          cases hv
          simp at hdc
          omega
        refine wpAny_bind (wpAny_holding (sub_made D2 hnr hlr fun h2 tk2 more hv2 hd2 hz2 hk2 => ?_))
        dsimp only at hd2 hz2 hk2 ⊢
        have hlt : s.heap.objs.size < h'.objs.size := by omega
        have hd' : h2.DictOf (intKind prog w) s.heap.objs.size kvs := by
          obtain ⟨o, es', ep, ho, r⟩ := hd
          exact ⟨o, es', ep, hk2 _ _ ho, r⟩
        have hdn : kvs.length = done.length := hv.length
        have hmn : more.length = run.length := hv2.length
        refine wpAny_bind (wpAny_onRaise (wpAny_holding (merge_fresh (s := { s with heap := h2, toks := tk2 }) (Nat.ne_of_lt hlt) ?_ hd' hkn hd2 ?_ (fun h3 hd3 hs3 => wpAny_pure ?_) ?_)))
        · exact beq_eq_false_iff_ne.mpr (fun e => absurd hlow (Nat.lt_asymm (e ▸ hlt)))
        · rw [List.map_append, hv.keys, hv2.keys]; exact hn2
        · refine hR _ (kvs ++ more) h3 tk2 rfl (hv.append hv2) hd3 ?_ fun b o x => ?_
          · rw [hs3.1, hz2]; omega
          · exact (hs3.2 b (Nat.ne_of_lt (Heap.lt_size x))).trans (hk2 b o (hk b o x))
        · rw [sizeLine_eq, hdn, hmn]
          omega
  unfold dictDisplay
  dsimp only
  refine wpAny_bind ?_
  refine wpAny_forIn_list _ (fun rest b s' => ∃ done run restE prest, rest = prest.map (fun (p : Sem Value × Sem Value) => (some p.1, p.2)) ∧ es = done ++ (run ++ restE) ∧ run.length < 17 ∧ Disp prog w s done run restE b.2 prest b.1 s') _ ?_ ?_ _ _
    ⟨[], [], es, pairs, rfl, rfl, by decide, .nil, hp, by simpa using hnd, s.heap, s.toks, 0, rfl, rfl, rfl, fun _ _ x => x, .inl ⟨rfl, rfl⟩⟩
  · rintro x rest ⟨main, prun⟩ s' ⟨done, run, restE, prest, hr, he, h17, D1, D2, D4, D5⟩
    dsimp only at D1 D5
    cases D2 with
    | nil => cases hr
    | @cons p e prest' restE' h1 h2 =>
      rw [List.map_cons] at hr
      injection hr with hx hrest
      subst hx
      dsimp only
      have hlr : prun.length = run.length := D1.length
      have hlen : (prun ++ [(p.1, p.2)]).length = run.length + 1 := by rw [List.length_append, hlr]; rfl
      have D1' : All2 (LitP prog w) (prun ++ [(p.1, p.2)]) (run ++ [e]) := D1.append (.cons h1 .nil)
      have he' : es = done ++ ((run ++ [e]) ++ restE') := by rw [he]; simp
      have hn' : ((done ++ ((run ++ [e]) ++ restE')).map (·.1)).Nodup := by rw [← he']; exact hnd
      have hes : es.length = done.length + (run.length + 1 + restE'.length) := by rw [he']; simp; omega
      by_cases hf : run.length + 1 = 17
      · rw [if_pos (by rw [hlen, hf]; rfl)]
        rw [if_neg (by simp)]
        have hnr : (List.map (fun (x : Int × Str) => x.1) (done ++ ((run ++ [e]) ++ ([] : List (Int × Str))))).Nodup := by
          refine List.Sublist.nodup (List.Sublist.map (fun (x : Int × Str) => x.1) ?_) hn'
          exact List.Sublist.append_left (List.Sublist.append_left (List.nil_sublist _) _) _
        have K := key done (run ++ [e]) (prun ++ [(p.1, p.2)]) main s' (fun b' s2 => wpAny (model prog w) A (pure (ForInStep.yield (b', ([] : List (Sem Value × Sem Value))))) (fun (r : ForInStep (Option Addr × List (Sem Value × Sem Value))) s' => match r with
            | .yield b' => ∃ done run restE prest, rest = prest.map (fun (p : Sem Value × Sem Value) => (some p.1, p.2)) ∧ es = done ++ (run ++ restE) ∧ run.length < 17 ∧ Disp prog w s done run restE b'.2 prest b'.1 s'
            | .done _ => False) E s2)
          ⟨D1', .nil, hnr, D5⟩ (by simp) (by simp; omega) (by simp; omega) ?_
        · cases main with
          | none => exact wpAny_bind (wpAny_mono (K.1 rfl) (fun b' s2 hb => wpAny_mono hb (fun r s3 hr => by cases r with | yield b => exact hr | done b => exact hr.elim) fun _ _ x => x) fun _ _ x => x)
          | some d => exact wpAny_bind (wpAny_mono (K.2 d rfl _) (fun b' s2 hb => wpAny_mono hb (fun r s3 hr => by cases r with | yield b => exact hr | done b => exact hr.elim) fun _ _ x => x) fun _ _ x => x)
        · intro s'' kvs h' tk hs'' hv hd hz hk
          refine wpAny_pure ⟨done ++ (run ++ [e]), [], restE', prest', hrest, by rw [he']; simp, by decide, .nil, h2, by simpa using hn', h', tk, done.length / 17 + 1, hs'', ?_, hz, hk, .inr ⟨by omega, rfl, kvs, hv, hd⟩⟩
          obtain ⟨_, _, c, _, hdc, _⟩ := D5
          rw [List.length_append, List.length_append, List.length_singleton]
          omega
      · rw [if_neg (by rw [hlen]; simpa using hf)]
        refine wpAny_pure ⟨done, run ++ [e], restE', prest', hrest, he', by simp; omega, D1', h2, hn', D5⟩
  · rintro ⟨main, prun⟩ s' ⟨done, run, restE, prest, hr, he, h17, D1, D2, D4, D5⟩
    dsimp only at D1 D5
    cases D2 with
    | cons _ _ => cases hr
    | nil =>
      have hes : es.length = done.length + run.length := by rw [he]; simp
      obtain ⟨h', tk, c, hs', hdc, hz, hk, hcase⟩ := id D5
      by_cases hrun : run = []
      · subst hrun
        cases D1
        dsimp only
        simp only [List.isEmpty_nil, if_true]
        rcases hcase with ⟨rfl, _⟩ | ⟨hc, rfl, kvs, hv, hd⟩
        · exact absurd (List.length_eq_zero_iff.mp (by rw [hes, hdc]; rfl)) hne
        · subst hs'
          refine wpAny_bind (wpAny_pure (wpAny_pure (hQ h' tk kvs (by rw [he]; simpa using hv) hd ?_ hk)))
          rw [hz, hes, List.length_nil]; omega
      · have hpos : 0 < run.length := List.length_pos_iff.mpr hrun
        have hpr : ¬ prun.isEmpty = true := by
          intro h0
          have := D1.length
          rw [List.isEmpty_iff.mp h0] at this
          simp at this
          omega
        dsimp only
        rw [if_neg hpr]
        have K := key done run prun main s' (fun b' s2 => wpAny (model prog w) A (match b' with | some d => pure (Value.ref d) | none => newDict) Q E s2) (Disp.mk D1 .nil D4 D5) hpos (by omega) (by omega) ?_
        · cases main with
          | none => exact wpAny_bind (wpAny_mono (K.1 rfl) (fun b' s2 hb => hb) fun _ _ x => x)
          | some d => exact wpAny_bind (wpAny_mono (K.2 d rfl _) (fun b' s2 hb => hb) fun _ _ x => x)
        · intro s'' kvs h2 tk2 hs'' hv hd hz2 hk2
          subst hs''
          refine wpAny_pure (hQ h2 tk2 kvs (by rw [he]; simpa using hv) hd ?_ hk2)
          rw [hz2, hes]; omega
end
section
variable {prog : Program} {w : World} {A : Around} {E : Value → Shared → Prop} {s : Shared}
theorem next_end {it l : Addr} {i : Nat} {items : Array Value} {Q : Option Value → Shared → Prop} (hh : A.handled = none)
    (hit : s.heap.IsListIter it l i) (hl : s.heap.IsList l items) (hx : items[i]? = none)
    (hQ : ∀ h' : Heap, h'.objs.size = s.heap.objs.size + 2 → Heap.ExtBut it s.heap h' → Q none { s with heap := h' }) : wpAny (model prog w) A (pyNext (.ref it)) Q E s := by
  have hit' := hit
  have hl' := hl
  obtain ⟨o, ho, _, hd⟩ := hit'
  obtain ⟨ol, hol, _, nl, hdl⟩ := hl'
  unfold pyNext
  refine wpAny_bind (wpAny_attempt (wpAny_callSpecial?_slot (name := Str.ofString "__next__") hit.typeIs slot_listiter_next
    (wpAny_call_entry slot_listiter_next hit.typeIs entry_listiter_next ?_ (args_listiter_next _))))
  show wpAny _ _ (field (.ref it) 0 >>= _) _ _ s
  refine wpAny_bind (wpAny_field ho hd (x := .ref l) rfl ?_)
  show wpAny _ _ (if (Value.ref l == Value.none) = true then _ else _) _ _ s
  rw [if_neg (show ¬ ((Value.ref l == Value.none) = true) from Bool.false_ne_true)]
  show wpAny _ _ (field (.ref it) 1 >>= _) _ _ s
  refine wpAny_bind (wpAny_field ho hd (x := .int i 0) rfl ?_)
  show wpAny _ _ (seqItems? (.ref l) >>= _) _ _ s
  refine wpAny_bind (wpAny_seqItems hol hdl ?_)
  simp only [Int.toNat_natCast, hx]
  refine wpAny_bind (wpAny_rule (wpAny_bind (wpAny_setField ho hd (by simp) ?_)))
  show wpAny _ _ (newExc (.type "StopIteration") [] >>= _) _ _ _
  refine wpAny_bind ?_
  simp only [newExc, newTuple]
  refine wpAny_bind (wpAny_newObj_type ?_ (by size_fits))
  refine wpAny_bind (m := firstArgMember _ _) (wpAny_of_eq (a := Value.none) (by first | rfl | (simp only [firstArgMember]; rfl)) ?_)
  refine wpAny_newObj_type ?_ (by size_fits)
  simp only [raiseNew]
  refine wpAny_bind (wpAny_handled ?_)
  rw [show A.in1.handled = none from hh]
  refine wpAny_bind (wpAny_pure (wpAny_throw ?_))
  refine wpAny_bind (wpAny_isInstance (T := "StopIteration") (b := true) ⟨_, Heap.get?_push_size _ rfl, rfl⟩ isSubtype_stop ?_)
  refine wpAny_pure (hQ _ ?_ (((Heap.SameBut.update ..).extBut.push _).push _))
  rw [Heap.size_push, Heap.size_push, (Heap.SameBut.update s.heap it _).1]
theorem set_loop {l I S : Addr} {items : Array Value} {ns : List Int} {R : Result → Shared → Prop} (hh : A.handled = none) (hi : IntsAre items.toList ns) (hb : items.size + 1 < scanBound) (hSI : S ≠ I) (hSl : S ≠ l) (hlI : l ≠ I) :
    ∀ (k i : Nat) (s : Shared), items.size - i = k → i ≤ items.size → s.heap.IsListIter I l i → s.heap.IsList l items →
      s.heap.SetOf (intKind prog w) S (fun k' => (firstMet (fun i => ns.getD i 0) i).any (· == k')) (firstMet (fun i => ns.getD i 0) i).length →
      (∀ h' tk, h'.objs.size = s.heap.objs.size + 2 → (∀ b o, b ≠ S → b ≠ I → s.heap.get? b = some o → h'.get? b = some o) →
        h'.SetOf (intKind prog w) S (fun k' => (firstMet (fun i => ns.getD i 0) items.size).any (· == k')) (firstMet (fun i => ns.getD i 0) items.size).length → R (.ok (.ret .none)) { s with heap := h', toks := tk }) →
      codeAny (model prog w) A (.builtin "set.update.loop" ⟨[.ref S, .ref I], []⟩) R s := by
  intro k
  induction k with
  | zero =>
    intro i s hk hi' hit hl hS hR
    have e : i = items.size := by omega
    subst e
    refine codeAny_builtin F.entry_set_update_loop ?_
    rw [Around.under_plainId F.plain_set_update_loop _]
    show wpAny _ A.in1 (pyNext (.ref I) >>= _) _ _ s
    refine wpAny_bind (next_end hh hit hl (by simp) fun h' hz hk' => ?_)
    show wpAny _ A.in1 (ret Value.none) _ _ _
    refine wpAny_pure (hR h' s.toks hz (fun b o _ hbI x => hk' b o hbI x) ?_)
    obtain ⟨o, es, ep, t, ho, rest⟩ := hS
    exact ⟨o, es, ep, t, hk' S o hSI ho, rest⟩
  | succ k ih =>
    intro i s hk hi' hit hl hS hR
    have hlt : i < items.size := by omega
    refine codeAny_builtin F.entry_set_update_loop ?_
    rw [Around.under_plainId F.plain_set_update_loop _]
    show wpAny _ A.in1 (pyNext (.ref I) >>= _) _ _ s
    refine wpAny_bind (wpAny_pyNext_list_item hit hl (x := items[i]) (by simp [hlt]) fun h₁ hit₁ hs₁ => ?_)
    obtain ⟨t, ht⟩ := IntsAre.int_at hi i items[i] (by rw [Array.getElem?_toList]; simp [hlt])
    rw [ht]
    have hS₁ : h₁.SetOf (intKind prog w) S (fun k' => (firstMet (fun i => ns.getD i 0) i).any (· == k')) (firstMet (fun i => ns.getD i 0) i).length := by
      obtain ⟨o, es, ep, tb, ho, rest⟩ := hS
      exact ⟨o, es, ep, tb, (hs₁.2 S hSI).trans ho, rest⟩
    show wpAny _ A.in1 (holding [Value.int (ns.getD i 0) t] (setAdd S (.int (ns.getD i 0) t)) >>= _) _ _ _
    refine wpAny_bind (wpAny_holding ?_)
    unfold setAdd
    refine wpAny_holding (wpAny_bind ((intKind prog w).pyHash (k := ns.getD i 0) (intKind_is _ _ _ _) ?_))
    have hroom : (firstMet (fun i => ns.getD i 0) i).length + 1 < scanBound := by have := firstMet_length_le (fun i => ns.getD i 0) i; omega
    refine wpAny_setAddHashed_of (knd := intKind prog w) (s := { s with heap := h₁, toks := s.toks + 1 }) (intKind_is _ _ _ _) rfl hS₁ hroom fun h₂ hs₂ hS₂ => ?_
    have hS₃ : h₂.SetOf (intKind prog w) S (fun k' => (firstMet (fun i => ns.getD i 0) (i + 1)).any (· == k')) (firstMet (fun i => ns.getD i 0) (i + 1)).length :=
      SetOf_congr hS₂ (fun k' => by rw [firstMet_succ, step_any]) (by rw [firstMet_succ, step_length])
    have hit₂ : h₂.IsListIter I l (i + 1) := hit₁.at fun o e => (hs₂.2 I (Ne.symm hSI)).trans e
    have hl₂ : h₂.IsList l items := (hl.extBut hs₁.extBut hlI).extBut hs₂.extBut (Ne.symm hSl)
    refine wpAny_pure ⟨plainId_quiet F.plain_set_update_loop _, ih (i + 1) _ (by omega) hlt hit₂ hl₂ hS₃ fun h' tk hz hk' hS' => ?_⟩
    refine hR h' tk ?_ (fun b o hbS hbI x => hk' b o hbS hbI ((hs₂.2 b hbS).trans ((hs₁.2 b hbI).trans x))) hS'
    rw [hz, hs₂.1]
    show h₁.objs.size + 2 = _
    rw [hs₁.1]
set_option maxRecDepth 100000 in
set_option maxHeartbeats 3200000 in
theorem call_set_sz {l : Addr} {items : Array Value} {ns : List Int} {Q : Value → Shared → Prop} (hh : A.handled = none) (hl : s.heap.IsList l items) (hi : IntsAre items.toList ns) (hb : items.size + 1 < scanBound)
    (hQ : ∀ (h' : Heap) (tk : Nat), h'.objs.size = s.heap.objs.size + 4 → (∀ b o, s.heap.get? b = some o → h'.get? b = some o) →
      h'.SetOf (intKind prog w) s.heap.objs.size (fun k' => (firstMet (fun i => ns.getD i 0) items.size).any (· == k')) (firstMet (fun i => ns.getD i 0) items.size).length → Q (.ref s.heap.objs.size) { s with heap := h', toks := tk }) :
    wpAny (model prog w) A (call (.type "set") [.ref l]) Q E s := by
  obtain ⟨c, tl, hmro⟩ := PySem.F.called_set.mro
  have hmade := PySem.F.called_set.made
  have hsub := PySem.F.called_set.sub
  refine wpAny_call (codeAny_of_tree ?_)
  show wpAny _ _ (callAny (.type "set") _) _ _ _
  refine wpAny_pure ⟨Code.quiet_builtin _ (by decide +kernel), codeAny_builtin PySem.F.entry_type_call ?_⟩
  rw [Around.under_plain (weight_type_call_type "set" [.ref l] []) rfl]
  have h1 := PySem.F.called_set.notType
  have h2 := PySem.F.called_set.canCreate
  have hct := PySem.F.typeCall_set_1 (.ref l)
  repeat (any_goals (first | assumption | wp_step))
  refine codeAny_mono (PySem.code_set_new_1 (.ref l) (E := E) (Q₁ := fun obj s₁ => ∃ led : Bool, obj = .ref s.heap.objs.size ∧ s₁ = { s with heap := s.heap.push { cls := .type "set", dict := none, data := .set #[] 0 (.fresh 0 0 led) } }) fun led => ⟨led, rfl, rfl⟩) fun r s₁ hr => ?_
  rcases r with e | fl
  · exact hr
  rcases fl with _ | _ | _ | obj
  · exact hr.elim
  · exact hr.elim
  · exact hr.elim
  obtain ⟨led, rfl, rfl⟩ := hr
  have hnew : (s.heap.push { cls := .type "set", dict := none, data := .set #[] 0 (.fresh 0 0 led) }).get? s.heap.objs.size = some { cls := .type "set", dict := none, data := .set #[] 0 (.fresh 0 0 led) } := Heap.get?_push_size _ rfl
  have hT : Shared.TypeIs { s with heap := s.heap.push { cls := .type "set", dict := none, data := .set #[] 0 (.fresh 0 0 led) } } (.ref s.heap.objs.size) "set" := ⟨_, hnew, rfl⟩
  have hli := PySem.F.called_set.init.lookup
  have hbi := PySem.F.called_set.init.bind (.ref s.heap.objs.size)
  repeat (any_goals (first | assumption | wp_step))
  refine codeAny_mono (codeAny_call_builtin (R := wants (fun r s₂ => r = .none ∧ Q (.ref s.heap.objs.size) s₂) E) PySem.F.called_set.init.plain PySem.F.entry_set_init (PySem.check_set_init_1 hT ?_)) fun r₂ s₂ hr₂ => ?_
  · have hl1 : (s.heap.push { cls := .type "set", dict := none, data := .set #[] 0 (.fresh 0 0 led) }).IsList l items := by
      obtain ⟨ol, hol, r⟩ := hl
      exact ⟨ol, Heap.get?_push_of_some _ hol, r⟩
    have hlS : l < s.heap.objs.size := by obtain ⟨ol, hol, _⟩ := hl; exact Heap.lt_size hol
    have hsls := PySem.F.sub_list_set
    have hslf := PySem.F.sub_list_frozenset
    have hne : (Value.type "list" == Value.type "dict") = false := by decide
    obtain ⟨ol, hol, hcl, nl, hdl⟩ := id hl1
    obtain ⟨ocls, odict, odata, oslots⟩ := ol
    simp only at hcl hdl
    subst hcl; subst hdl
    unfold Builtin.«set.__init__» noKeywords Builtin.Frozenset.updateFrom
    generalize hPI : pyIter = PI
    wp_walk
    subst hPI
    refine wpAny_pyIter_list hl1 ?_
    refine wpAny_bind (wpAny_runValue ?_)
    have hz1 : (s.heap.push { cls := .type "set", dict := none, data := .set #[] 0 (.fresh 0 0 led) }).objs.size = s.heap.objs.size + 1 := Heap.size_push ..
    have hit : ((s.heap.push { cls := .type "set", dict := none, data := .set #[] 0 (.fresh 0 0 led) }).push { cls := .type "list_iterator", data := .fields #[.ref l, .int 0 0] }).IsListIter (s.heap.push { cls := .type "set", dict := none, data := .set #[] 0 (.fresh 0 0 led) }).objs.size l 0 :=
      ⟨_, Heap.get?_push_size _ rfl, rfl, rfl⟩
    have hS0 : ((s.heap.push { cls := .type "set", dict := none, data := .set #[] 0 (.fresh 0 0 led) }).push { cls := .type "list_iterator", data := .fields #[.ref l, .int 0 0] }).SetOf (intKind prog w) s.heap.objs.size (fun k' => (firstMet (fun i => ns.getD i 0) 0).any (· == k')) (firstMet (fun i => ns.getD i 0) 0).length :=
      SetOf_congr ((setObjOf_fresh (knd := intKind prog w) led).setOf (Heap.get?_push_of_some _ hnew) (by unfold scanBound; omega)) (fun _ => rfl) rfl
    refine set_loop (items := items) (ns := ns) (by simp [hh]) hi hb ?_ ?_ ?_ (items.size - 0) 0 _ (by omega) (Nat.zero_le _) hit (by obtain ⟨ol, hol, r⟩ := hl1; exact ⟨ol, Heap.get?_push_of_some _ hol, r⟩) hS0 fun h' tk hz hk hS => ?_
    · rw [hz1]; exact Nat.ne_of_lt (Nat.lt_succ_self _)
    · exact Nat.ne_of_gt hlS
    · rw [hz1]; exact Nat.ne_of_lt (Nat.lt_succ_of_lt hlS)
    · show wpAny _ _ _ _ _ _
      refine wpAny_pure ?_
      show wpAny _ _ (ret Value.none) _ _ _
      refine wpAny_pure ⟨rfl, hQ h' tk ?_ (fun b o x => ?_) hS⟩
      · rw [hz]
        show ((s.heap.push _).push _).objs.size + 2 = _
        rw [Heap.size_push, Heap.size_push]
      · have hb := Heap.lt_size x
        refine hk b o (Nat.ne_of_lt hb) ?_ (Heap.get?_push_of_some _ (Heap.get?_push_of_some _ x))
        rw [hz1]; exact Nat.ne_of_lt (Nat.lt_succ_of_lt hb)
  · rcases r₂ with e | fl₂
    · exact hr₂
    rcases fl₂ with _ | _ | _ | r
    · exact hr₂.elim
    · exact hr₂.elim
    · exact hr₂.elim
    obtain ⟨rfl, hq⟩ := hr₂
    repeat (any_goals (first | assumption | wp_step))
end
noncomputable abbrev pw : Program := PySem.Challenge.pw_zd0020_01
noncomputable def sts (a n : Nat) : List Stmt := (pw.main.body.drop a).take n
noncomputable def fnFix (i : Nat) (f : FuncData) : FuncData := match pw.main.body[i]? with
  | some (.FunctionDef _ a b _ _ _ sc _ _ _) => { f with params := a, body := .stmts b, scope := sc }
  | _ => f
theorem twSeg : @segRunT = @PySem.W.Fast.tw10110043849684766642 := PySem.W.Fast.te10110043849684766642
theorem twTree : treeTable = PySem.W.Fast.tw14364793385576792824 := PySem.W.Fast.te14364793385576792824
theorem twExecs : @execs = @PySem.W.Fast.tw12563942051412417395 := PySem.W.Fast.te12563942051412417395
theorem twEval : @eval = @PySem.W.Fast.tw14044960220447912780 := PySem.W.Fast.te14044960220447912780
theorem twEvalArgs : @evalArgs = @PySem.W.Fast.tw5911215902649259669 := PySem.W.Fast.te5911215902649259669
theorem twBackTo : @backTo = @PySem.W.Fast.tw4897270859577272712 := PySem.W.Fast.te4897270859577272712
theorem twStarEach : @starEach = @PySem.W.Fast.tw13897175071876407860 := PySem.W.Fast.te13897175071876407860
theorem twBindName : @bindName = @PySem.W.Fast.tw7536695828754713326 := PySem.W.Fast.te7536695828754713326
noncomputable section
noncomputable def envT : Env := { scope := pw.main.scope, locals := mainNs, globals := mainNs, cells := [], code := (.ref 13), frame := some 14 }
noncomputable def cT : Code := .body (behindTheImports pw) envT
noncomputable def T0 (P : Params) (ob : Nat → Obj) (tk tj : Nat) : BT := (.node (boot_o_0 P) (.node (boot_o_1 P) (.node (boot_o_3 P) (.node (boot_o_7 P) .nil .nil) .nil) (.node (boot_o_5 P) (.node (boot_o_9 P) .nil .nil) .nil)) (.node (boot_o_2 P) (.node (boot_o_4 P) (.node (boot_o_8 P) .nil .nil) .nil) (.node (boot_o_6 P) (.node (boot_o_10 P) .nil .nil) .nil)))
noncomputable def S0 (w : World) (os : OsState) (ob : Nat → Obj) (tk tj : Nat) : SharedT := ⟨T0 w.params ob tk tj, 11, (@PySem.Life.mk [] [] [] 0 [] [] @Bool.false #[] [] 0 @Bool.false @Bool.false @Bool.false 0 [2000, 10, 10] @Bool.false 0 @Bool.true [] [] 0 @Bool.false), #[], boot_drawn, boot_toks, os⟩
noncomputable def o11v1 (P : Params) (tk tj : Nat) : Obj := (@PySem.Obj.mk (.type "tuple") none (@PySem.Data.seq #[] 0) #[])
noncomputable def o12v1 (P : Params) (tk tj : Nat) : Obj := (@PySem.Obj.mk PySem.Value.none none (@PySem.Data.fields #[]) #[])
noncomputable def o13v1 (P : Params) (tk tj : Nat) : Obj := PySem.Obj.mk (.type "code") none (.fields #[(.str (PySem.Str.ofString "<module>") 182), (.str (PySem.Str.ofString "<module>") 183), (.str (PySem.Str.ofString "/claim/cut.py") 184), (.int 1 0), (.int 0 0), (.int 0 0), (.int 0 0), (.int 0 0), (.ref 11), (@PySem.Value.bool @Bool.false), (.int 181 0), (.ref 12), PySem.Value.none, PySem.Value.none, PySem.Value.none, PySem.Value.none, (.int 185 0), (.int 1 0), (.str (PySem.Str.ofString "/claim/cut.py") 186)]) #[]
noncomputable def o14v1 (P : Params) (tk tj : Nat) : Obj := (@PySem.Obj.mk (.type "frame") none @PySem.Data.plain #[(some (.ref 13)), (some (.ref 3)), (some (.ref 3)), none, (some (.str (PySem.Str.ofString "__main__") 164)), none, (some (.ref 0))])
noncomputable def T1 (P : Params) (ob : Nat → Obj) (tk tj : Nat) : BT := (.node (boot_o_0 P) (.node (boot_o_1 P) (.node (boot_o_3 P) (.node (boot_o_7 P) .nil .nil) (.node (o11v1 P tk tj) .nil .nil)) (.node (boot_o_5 P) (.node (boot_o_9 P) .nil .nil) (.node (o13v1 P tk tj) .nil .nil))) (.node (boot_o_2 P) (.node (boot_o_4 P) (.node (boot_o_8 P) .nil .nil) (.node (o12v1 P tk tj) .nil .nil)) (.node (boot_o_6 P) (.node (boot_o_10 P) .nil .nil) (.node (o14v1 P tk tj) .nil .nil))))
noncomputable def S1 (w : World) (os : OsState) (ob : Nat → Obj) (tk tj : Nat) : SharedT := ⟨T1 w.params ob tk tj, 15, (@PySem.Life.mk [] [] [] 0 [] [] @Bool.false #[] [] 0 @Bool.false @Bool.false @Bool.false 0 [2000, 10, 10] @Bool.false 0 @Bool.true [] [] 0 @Bool.false), #[], boot_drawn, 187, os⟩
noncomputable def o3v2 (P : Params) (tk tj : Nat) : Obj := (@PySem.Obj.mk (.type "dict") none (@PySem.Data.dict #[(@PySem.DictEntry.mk (@PySem.PyData.keyHash P (PySem.Str.ofString "__name__")) (.str (PySem.Str.ofString "__name__") 165) (.str (PySem.Str.ofString "cpy313.stringprep") 235)), (@PySem.DictEntry.mk (@PySem.PyData.keyHash P (PySem.Str.ofString "__doc__")) (.str (PySem.Str.ofString "__doc__") 166) PySem.Value.none), (@PySem.DictEntry.mk (@PySem.PyData.keyHash P (PySem.Str.ofString "__package__")) (.str (PySem.Str.ofString "__package__") 167) PySem.Value.none), (@PySem.DictEntry.mk (@PySem.PyData.keyHash P (PySem.Str.ofString "__loader__")) (.str (PySem.Str.ofString "__loader__") 168) (.builtin "__main__.__loader__#opaque")), (@PySem.DictEntry.mk (@PySem.PyData.keyHash P (PySem.Str.ofString "__spec__")) (.str (PySem.Str.ofString "__spec__") 169) PySem.Value.none), (@PySem.DictEntry.mk (@PySem.PyData.keyHash P (PySem.Str.ofString "__annotations__")) (.str (PySem.Str.ofString "__annotations__") 170) (.ref 6)), (@PySem.DictEntry.mk (@PySem.PyData.keyHash P (PySem.Str.ofString "__builtins__")) (.str (PySem.Str.ofString "__builtins__") 171) (.ref 4)), (@PySem.DictEntry.mk (@PySem.PyData.keyHash P (PySem.Str.ofString "__file__")) (.str (PySem.Str.ofString "__file__") 173) (.str (PySem.Str.ofString "/claim/cut.py") 172)), (@PySem.DictEntry.mk (@PySem.PyData.keyHash P (PySem.Str.ofString "__cached__")) (.str (PySem.Str.ofString "__cached__") 174) PySem.Value.none), (@PySem.DictEntry.mk (@PySem.PyData.keyHash P (PySem.Str.ofString "func_std_string")) (.str (PySem.Str.ofString "func_std_string") 196) (.ref 21)), (@PySem.DictEntry.mk (@PySem.PyData.keyHash P (PySem.Str.ofString "add_func_stats")) (.str (PySem.Str.ofString "add_func_stats") 214) (.ref 28)), (@PySem.DictEntry.mk (@PySem.PyData.keyHash P (PySem.Str.ofString "add_callers")) (.str (PySem.Str.ofString "add_callers") 225) (.ref 35)), (@PySem.DictEntry.mk (@PySem.PyData.keyHash P (PySem.Str.ofString "count_calls")) (.str (PySem.Str.ofString "count_calls") 234) (.ref 42))] 13) #[])
noncomputable def o12v2 (P : Params) (tk tj : Nat) : Obj := (@PySem.Obj.mk PySem.Value.none none (@PySem.Data.fields #[(.int 2 0), (.int 0 0), (.ref 20), (.int 11 0), (.int 0 0), (.ref 27), (.int 15 0), (.int 0 0), (.ref 34), (.int 28 0), (.int 0 0), (.ref 41)]) #[])
noncomputable def o15v2 (P : Params) (tk tj : Nat) : Obj := (@PySem.Obj.mk (.type "tuple") none (@PySem.Data.seq #[] 0) #[])
noncomputable def o16v2 (P : Params) (tk tj : Nat) : Obj := (@PySem.Obj.mk PySem.Value.none none (@PySem.Data.fields #[]) #[])
noncomputable def o17v2 (P : Params) (tk tj : Nat) : Obj := (@PySem.Obj.mk (.type "tuple") none (@PySem.Data.seq #[(.str (PySem.Str.ofString "func_name") 192), (.str (PySem.Str.ofString "name") 193)] 0) #[])
noncomputable def o18v2 (P : Params) (tk tj : Nat) : Obj := (@PySem.Obj.mk (.type "tuple") none (@PySem.Data.seq #[] 0) #[])
noncomputable def o19v2 (P : Params) (tk tj : Nat) : Obj := PySem.Obj.mk PySem.Value.none none (.func (fnFix 1 (@PySem.FuncData.mk (PySem.Str.ofString "func_std_string") (PySem.Str.ofString "func_std_string") (@PySem.Arguments.mk [] [] none [] [] none []) (@PySem.FuncBody.stmts []) (@PySem.Scope.mk @PySem.ScopeKind.function [] @Bool.false @Bool.false []) 0 [] PySem.Value.none PySem.Value.none PySem.Value.none PySem.Value.none none PySem.Value.none PySem.Value.none 0))) #[]
noncomputable def o20v2 (P : Params) (tk tj : Nat) : Obj := PySem.Obj.mk (.type "code") none (.fields #[(.str (PySem.Str.ofString "func_std_string") 189), (.str (PySem.Str.ofString "func_std_string") 190), (.str (PySem.Str.ofString "/claim/cut.py") 191), (.int 2 0), (.int 1 0), (.int 0 0), (.int 0 0), (.int 3 0), (.ref 15), (@PySem.Value.bool @Bool.true), (.int 181 0), (.ref 16), PySem.Value.none, (.ref 17), (.ref 18), (.ref 19), (.int 194 0), (.int 2 0), (.str (PySem.Str.ofString "/claim/cut.py") 195)]) #[]
noncomputable def o21v2 (P : Params) (tk tj : Nat) : Obj := PySem.Obj.mk (.type "function") none (.func (fnFix 1 (@PySem.FuncData.mk (PySem.Str.ofString "func_std_string") (PySem.Str.ofString "func_std_string") (@PySem.Arguments.mk [] [] none [] [] none []) (@PySem.FuncBody.stmts []) (@PySem.Scope.mk @PySem.ScopeKind.function [] @Bool.false @Bool.false []) 3 [] PySem.Value.none PySem.Value.none PySem.Value.none (.str (PySem.Str.ofString "cpy313.pstats") 187) none (.ref 20) PySem.Value.none 0))) #[]
noncomputable def o22v2 (P : Params) (tk tj : Nat) : Obj := (@PySem.Obj.mk (.type "tuple") none (@PySem.Data.seq #[] 0) #[])
noncomputable def o23v2 (P : Params) (tk tj : Nat) : Obj := (@PySem.Obj.mk PySem.Value.none none (@PySem.Data.fields #[]) #[])
noncomputable def o24v2 (P : Params) (tk tj : Nat) : Obj := (@PySem.Obj.mk (.type "tuple") none (@PySem.Data.seq #[(.str (PySem.Str.ofString "target") 200), (.str (PySem.Str.ofString "source") 201), (.str (PySem.Str.ofString "cc") 202), (.str (PySem.Str.ofString "nc") 203), (.str (PySem.Str.ofString "tt") 204), (.str (PySem.Str.ofString "ct") 205), (.str (PySem.Str.ofString "callers") 206), (.str (PySem.Str.ofString "t_cc") 207), (.str (PySem.Str.ofString "t_nc") 208), (.str (PySem.Str.ofString "t_tt") 209), (.str (PySem.Str.ofString "t_ct") 210), (.str (PySem.Str.ofString "t_callers") 211)] 0) #[])
noncomputable def o25v2 (P : Params) (tk tj : Nat) : Obj := (@PySem.Obj.mk (.type "tuple") none (@PySem.Data.seq #[] 0) #[])
noncomputable def o26v2 (P : Params) (tk tj : Nat) : Obj := PySem.Obj.mk PySem.Value.none none (.func (fnFix 2 (@PySem.FuncData.mk (PySem.Str.ofString "add_func_stats") (PySem.Str.ofString "add_func_stats") (@PySem.Arguments.mk [] [] none [] [] none []) (@PySem.FuncBody.stmts []) (@PySem.Scope.mk @PySem.ScopeKind.function [] @Bool.false @Bool.false []) 0 [] PySem.Value.none PySem.Value.none PySem.Value.none PySem.Value.none none PySem.Value.none PySem.Value.none 0))) #[]
noncomputable def o27v2 (P : Params) (tk tj : Nat) : Obj := PySem.Obj.mk (.type "code") none (.fields #[(.str (PySem.Str.ofString "add_func_stats") 197), (.str (PySem.Str.ofString "add_func_stats") 198), (.str (PySem.Str.ofString "/claim/cut.py") 199), (.int 11 0), (.int 2 0), (.int 0 0), (.int 0 0), (.int 3 0), (.ref 22), (@PySem.Value.bool @Bool.true), (.int 181 0), (.ref 23), PySem.Value.none, (.ref 24), (.ref 25), (.ref 26), (.int 212 0), (.int 11 0), (.str (PySem.Str.ofString "/claim/cut.py") 213)]) #[]
noncomputable def o28v2 (P : Params) (tk tj : Nat) : Obj := PySem.Obj.mk (.type "function") none (.func (fnFix 2 (@PySem.FuncData.mk (PySem.Str.ofString "add_func_stats") (PySem.Str.ofString "add_func_stats") (@PySem.Arguments.mk [] [] none [] [] none []) (@PySem.FuncBody.stmts []) (@PySem.Scope.mk @PySem.ScopeKind.function [] @Bool.false @Bool.false []) 3 [] PySem.Value.none PySem.Value.none PySem.Value.none (.str (PySem.Str.ofString "cpy313.pstats") 187) none (.ref 27) PySem.Value.none 0))) #[]
noncomputable def o29v2 (P : Params) (tk tj : Nat) : Obj := (@PySem.Obj.mk (.type "tuple") none (@PySem.Data.seq #[] 0) #[])
noncomputable def o30v2 (P : Params) (tk tj : Nat) : Obj := (@PySem.Obj.mk PySem.Value.none none (@PySem.Data.fields #[]) #[])
noncomputable def o31v2 (P : Params) (tk tj : Nat) : Obj := (@PySem.Obj.mk (.type "tuple") none (@PySem.Data.seq #[(.str (PySem.Str.ofString "target") 218), (.str (PySem.Str.ofString "source") 219), (.str (PySem.Str.ofString "new_callers") 220), (.str (PySem.Str.ofString "func") 221), (.str (PySem.Str.ofString "caller") 222)] 0) #[])
noncomputable def o32v2 (P : Params) (tk tj : Nat) : Obj := (@PySem.Obj.mk (.type "tuple") none (@PySem.Data.seq #[] 0) #[])
noncomputable def o33v2 (P : Params) (tk tj : Nat) : Obj := PySem.Obj.mk PySem.Value.none none (.func (fnFix 3 (@PySem.FuncData.mk (PySem.Str.ofString "add_callers") (PySem.Str.ofString "add_callers") (@PySem.Arguments.mk [] [] none [] [] none []) (@PySem.FuncBody.stmts []) (@PySem.Scope.mk @PySem.ScopeKind.function [] @Bool.false @Bool.false []) 0 [] PySem.Value.none PySem.Value.none PySem.Value.none PySem.Value.none none PySem.Value.none PySem.Value.none 0))) #[]
noncomputable def o34v2 (P : Params) (tk tj : Nat) : Obj := PySem.Obj.mk (.type "code") none (.fields #[(.str (PySem.Str.ofString "add_callers") 215), (.str (PySem.Str.ofString "add_callers") 216), (.str (PySem.Str.ofString "/claim/cut.py") 217), (.int 15 0), (.int 2 0), (.int 0 0), (.int 0 0), (.int 3 0), (.ref 29), (@PySem.Value.bool @Bool.true), (.int 181 0), (.ref 30), PySem.Value.none, (.ref 31), (.ref 32), (.ref 33), (.int 223 0), (.int 15 0), (.str (PySem.Str.ofString "/claim/cut.py") 224)]) #[]
noncomputable def o35v2 (P : Params) (tk tj : Nat) : Obj := PySem.Obj.mk (.type "function") none (.func (fnFix 3 (@PySem.FuncData.mk (PySem.Str.ofString "add_callers") (PySem.Str.ofString "add_callers") (@PySem.Arguments.mk [] [] none [] [] none []) (@PySem.FuncBody.stmts []) (@PySem.Scope.mk @PySem.ScopeKind.function [] @Bool.false @Bool.false []) 3 [] PySem.Value.none PySem.Value.none PySem.Value.none (.str (PySem.Str.ofString "cpy313.pstats") 187) none (.ref 34) PySem.Value.none 0))) #[]
noncomputable def o36v2 (P : Params) (tk tj : Nat) : Obj := (@PySem.Obj.mk (.type "tuple") none (@PySem.Data.seq #[] 0) #[])
noncomputable def o37v2 (P : Params) (tk tj : Nat) : Obj := (@PySem.Obj.mk PySem.Value.none none (@PySem.Data.fields #[]) #[])
noncomputable def o38v2 (P : Params) (tk tj : Nat) : Obj := (@PySem.Obj.mk (.type "tuple") none (@PySem.Data.seq #[(.str (PySem.Str.ofString "callers") 229), (.str (PySem.Str.ofString "nc") 230), (.str (PySem.Str.ofString "calls") 231)] 0) #[])
noncomputable def o39v2 (P : Params) (tk tj : Nat) : Obj := (@PySem.Obj.mk (.type "tuple") none (@PySem.Data.seq #[] 0) #[])
noncomputable def o40v2 (P : Params) (tk tj : Nat) : Obj := PySem.Obj.mk PySem.Value.none none (.func (fnFix 4 (@PySem.FuncData.mk (PySem.Str.ofString "count_calls") (PySem.Str.ofString "count_calls") (@PySem.Arguments.mk [] [] none [] [] none []) (@PySem.FuncBody.stmts []) (@PySem.Scope.mk @PySem.ScopeKind.function [] @Bool.false @Bool.false []) 0 [] PySem.Value.none PySem.Value.none PySem.Value.none PySem.Value.none none PySem.Value.none PySem.Value.none 0))) #[]
noncomputable def o41v2 (P : Params) (tk tj : Nat) : Obj := PySem.Obj.mk (.type "code") none (.fields #[(.str (PySem.Str.ofString "count_calls") 226), (.str (PySem.Str.ofString "count_calls") 227), (.str (PySem.Str.ofString "/claim/cut.py") 228), (.int 28 0), (.int 1 0), (.int 0 0), (.int 0 0), (.int 3 0), (.ref 36), (@PySem.Value.bool @Bool.true), (.int 181 0), (.ref 37), PySem.Value.none, (.ref 38), (.ref 39), (.ref 40), (.int 232 0), (.int 28 0), (.str (PySem.Str.ofString "/claim/cut.py") 233)]) #[]
noncomputable def o42v2 (P : Params) (tk tj : Nat) : Obj := PySem.Obj.mk (.type "function") none (.func (fnFix 4 (@PySem.FuncData.mk (PySem.Str.ofString "count_calls") (PySem.Str.ofString "count_calls") (@PySem.Arguments.mk [] [] none [] [] none []) (@PySem.FuncBody.stmts []) (@PySem.Scope.mk @PySem.ScopeKind.function [] @Bool.false @Bool.false []) 3 [] PySem.Value.none PySem.Value.none PySem.Value.none (.str (PySem.Str.ofString "cpy313.pstats") 187) none (.ref 41) PySem.Value.none 0))) #[]
noncomputable def T2 (P : Params) (ob : Nat → Obj) (tk tj : Nat) : BT := (.node (boot_o_0 P) (.node (boot_o_1 P) (.node (o3v2 P tk tj) (.node (boot_o_7 P) (.node (o15v2 P tk tj) (.node (o31v2 P tk tj) .nil .nil) .nil) (.node (o23v2 P tk tj) (.node (o39v2 P tk tj) .nil .nil) .nil)) (.node (o11v1 P tk tj) (.node (o19v2 P tk tj) (.node (o35v2 P tk tj) .nil .nil) .nil) (.node (o27v2 P tk tj) .nil .nil))) (.node (boot_o_5 P) (.node (boot_o_9 P) (.node (o17v2 P tk tj) (.node (o33v2 P tk tj) .nil .nil) .nil) (.node (o25v2 P tk tj) (.node (o41v2 P tk tj) .nil .nil) .nil)) (.node (o13v1 P tk tj) (.node (o21v2 P tk tj) (.node (o37v2 P tk tj) .nil .nil) .nil) (.node (o29v2 P tk tj) .nil .nil)))) (.node (boot_o_2 P) (.node (boot_o_4 P) (.node (boot_o_8 P) (.node (o16v2 P tk tj) (.node (o32v2 P tk tj) .nil .nil) .nil) (.node (o24v2 P tk tj) (.node (o40v2 P tk tj) .nil .nil) .nil)) (.node (o12v2 P tk tj) (.node (o20v2 P tk tj) (.node (o36v2 P tk tj) .nil .nil) .nil) (.node (o28v2 P tk tj) .nil .nil))) (.node (boot_o_6 P) (.node (boot_o_10 P) (.node (o18v2 P tk tj) (.node (o34v2 P tk tj) .nil .nil) .nil) (.node (o26v2 P tk tj) (.node (o42v2 P tk tj) .nil .nil) .nil)) (.node (o14v1 P tk tj) (.node (o22v2 P tk tj) (.node (o38v2 P tk tj) .nil .nil) .nil) (.node (o30v2 P tk tj) .nil .nil)))))
noncomputable def S2 (w : World) (os : OsState) (ob : Nat → Obj) (tk tj : Nat) : SharedT := ⟨T2 w.params ob tk tj, 43, (@PySem.Life.mk [] [] [] 0 [] [] @Bool.false #[] [] 0 @Bool.false @Bool.false @Bool.false 0 [2000, 10, 10] @Bool.false 0 @Bool.true [] [] 0 @Bool.false), #[], boot_drawn, 237, os⟩
noncomputable def o3v3 (P : Params) (tk tj : Nat) : Obj := (@PySem.Obj.mk (.type "dict") none (@PySem.Data.dict #[(@PySem.DictEntry.mk (@PySem.PyData.keyHash P (PySem.Str.ofString "__name__")) (.str (PySem.Str.ofString "__name__") 165) (.str (PySem.Str.ofString "cpy313.stringprep") 235)), (@PySem.DictEntry.mk (@PySem.PyData.keyHash P (PySem.Str.ofString "__doc__")) (.str (PySem.Str.ofString "__doc__") 166) PySem.Value.none), (@PySem.DictEntry.mk (@PySem.PyData.keyHash P (PySem.Str.ofString "__package__")) (.str (PySem.Str.ofString "__package__") 167) PySem.Value.none), (@PySem.DictEntry.mk (@PySem.PyData.keyHash P (PySem.Str.ofString "__loader__")) (.str (PySem.Str.ofString "__loader__") 168) (.builtin "__main__.__loader__#opaque")), (@PySem.DictEntry.mk (@PySem.PyData.keyHash P (PySem.Str.ofString "__spec__")) (.str (PySem.Str.ofString "__spec__") 169) PySem.Value.none), (@PySem.DictEntry.mk (@PySem.PyData.keyHash P (PySem.Str.ofString "__annotations__")) (.str (PySem.Str.ofString "__annotations__") 170) (.ref 6)), (@PySem.DictEntry.mk (@PySem.PyData.keyHash P (PySem.Str.ofString "__builtins__")) (.str (PySem.Str.ofString "__builtins__") 171) (.ref 4)), (@PySem.DictEntry.mk (@PySem.PyData.keyHash P (PySem.Str.ofString "__file__")) (.str (PySem.Str.ofString "__file__") 173) (.str (PySem.Str.ofString "/claim/cut.py") 172)), (@PySem.DictEntry.mk (@PySem.PyData.keyHash P (PySem.Str.ofString "__cached__")) (.str (PySem.Str.ofString "__cached__") 174) PySem.Value.none), (@PySem.DictEntry.mk (@PySem.PyData.keyHash P (PySem.Str.ofString "func_std_string")) (.str (PySem.Str.ofString "func_std_string") 196) (.ref 21)), (@PySem.DictEntry.mk (@PySem.PyData.keyHash P (PySem.Str.ofString "add_func_stats")) (.str (PySem.Str.ofString "add_func_stats") 214) (.ref 28)), (@PySem.DictEntry.mk (@PySem.PyData.keyHash P (PySem.Str.ofString "add_callers")) (.str (PySem.Str.ofString "add_callers") 225) (.ref 35)), (@PySem.DictEntry.mk (@PySem.PyData.keyHash P (PySem.Str.ofString "count_calls")) (.str (PySem.Str.ofString "count_calls") 234) (.ref 42)), (@PySem.DictEntry.mk (@PySem.PyData.keyHash P (PySem.Str.ofString "b1_set")) (.str (PySem.Str.ofString "b1_set") 296) (.ref 50)), (@PySem.DictEntry.mk (@PySem.PyData.keyHash P (PySem.Str.ofString "in_table_b1")) (.str (PySem.Str.ofString "in_table_b1") 303) (.ref 60))] 15) #[])
noncomputable def o12v3 (P : Params) (tk tj : Nat) : Obj := (@PySem.Obj.mk PySem.Value.none none (@PySem.Data.fields #[(.int 2 0), (.int 0 0), (.ref 20), (.int 11 0), (.int 0 0), (.ref 27), (.int 15 0), (.int 0 0), (.ref 34), (.int 28 0), (.int 0 0), (.ref 41), (.int 35 0), (.int 0 0), (.ref 59)]) #[])
noncomputable def o43v3 (P : Params) (tk tj : Nat) : Obj := (@PySem.Obj.mk (.type "list") none (@PySem.Data.seq #[(.int 173 237), (.int 847 238), (.int 6150 239), (.int 6155 240), (.int 6156 241), (.int 6157 242), (.int 8203 243), (.int 8204 244), (.int 8205 245), (.int 8288 246), (.int 65279 247)] 0) #[])
noncomputable def o44v3 (P : Params) (tk tj : Nat) : Obj := (@PySem.Obj.mk (.type "range") none (@PySem.Data.fields #[(.int 65024 248), (.int 65040 249), (.int 1 250)]) #[])
noncomputable def o45v3 (P : Params) (tk tj : Nat) : Obj := (@PySem.Obj.mk (.type "list") none (@PySem.Data.seq #[(.int 65024 253), (.int 65025 254), (.int 65026 255), (.int 65027 256), (.int 65028 257), (.int 65029 258), (.int 65030 259), (.int 65031 260), (.int 65032 261), (.int 65033 262), (.int 65034 263), (.int 65035 264), (.int 65036 265), (.int 65037 266), (.int 65038 267), (.int 65039 268)] 18) #[])
noncomputable def o46v3 (P : Params) (tk tj : Nat) : Obj := (@PySem.Obj.mk (.type "range_iterator") none (@PySem.Data.fields #[(.int 65040 0), (.int 0 0), (.int 1 0)]) #[])
noncomputable def o47v3 (P : Params) (tk tj : Nat) : Obj := (@PySem.Obj.mk (.type "tuple") none (@PySem.Data.seq #[] 0) #[])
noncomputable def o48v3 (P : Params) (tk tj : Nat) : Obj := (@PySem.Obj.mk (.type "StopIteration") none (@PySem.Data.fields #[(.ref 47), PySem.Value.none, PySem.Value.none, PySem.Value.none, (@PySem.Value.bool @Bool.false), PySem.Value.none]) #[])
noncomputable def o49v3 (P : Params) (tk tj : Nat) : Obj := (@PySem.Obj.mk (.type "list") none (@PySem.Data.seq #[(.int 173 237), (.int 847 238), (.int 6150 239), (.int 6155 240), (.int 6156 241), (.int 6157 242), (.int 8203 243), (.int 8204 244), (.int 8205 245), (.int 8288 246), (.int 65279 247), (.int 65024 253), (.int 65025 254), (.int 65026 255), (.int 65027 256), (.int 65028 257), (.int 65029 258), (.int 65030 259), (.int 65031 260), (.int 65032 261), (.int 65033 262), (.int 65034 263), (.int 65035 264), (.int 65036 265), (.int 65037 266), (.int 65038 267), (.int 65039 268)] 0) #[])
noncomputable def o50v3 (P : Params) (tk tj : Nat) : Obj := (@PySem.Obj.mk (.type "set") none (@PySem.Data.set #[(65024, (.int 65024 253)), (65025, (.int 65025 254)), (65026, (.int 65026 255)), (65027, (.int 65027 256)), (65028, (.int 65028 257)), (65029, (.int 65029 258)), (6150, (.int 6150 239)), (65030, (.int 65030 259)), (65031, (.int 65031 260)), (65032, (.int 65032 261)), (65033, (.int 65033 262)), (6155, (.int 6155 240)), (6156, (.int 6156 241)), (6157, (.int 6157 242)), (8203, (.int 8203 243)), (8204, (.int 8204 244)), (8205, (.int 8205 245)), (65034, (.int 65034 263)), (65035, (.int 65035 264)), (65036, (.int 65036 265)), (65037, (.int 65037 266)), (65038, (.int 65038 267)), (65039, (.int 65039 268)), (173, (.int 173 237)), (847, (.int 847 238)), (8288, (.int 8288 246)), (65279, (.int 65279 247))] 29 (@PySem.SetTable.mk 127 #[0, 1, 2, 3, 4, 5, 6, 7, 8, 9, 10, 11, 12, 13, 14, 15, 16, 17, 18, 19, 20, 21, 22, 45, 79, 96, 127] #[] 0 (@Bool.not (@PySem.Params.followText P "set-order")) 2 @Bool.true)) #[])
noncomputable def o51v3 (P : Params) (tk tj : Nat) : Obj := (@PySem.Obj.mk (.type "list_iterator") none (@PySem.Data.fields #[PySem.Value.none, (.int 27 0)]) #[])
noncomputable def o52v3 (P : Params) (tk tj : Nat) : Obj := (@PySem.Obj.mk (.type "tuple") none (@PySem.Data.seq #[] 0) #[])
noncomputable def o53v3 (P : Params) (tk tj : Nat) : Obj := (@PySem.Obj.mk (.type "StopIteration") none (@PySem.Data.fields #[(.ref 52), PySem.Value.none, PySem.Value.none, PySem.Value.none, (@PySem.Value.bool @Bool.false), PySem.Value.none]) #[])
noncomputable def o54v3 (P : Params) (tk tj : Nat) : Obj := (@PySem.Obj.mk (.type "tuple") none (@PySem.Data.seq #[] 0) #[])
noncomputable def o55v3 (P : Params) (tk tj : Nat) : Obj := (@PySem.Obj.mk PySem.Value.none none (@PySem.Data.fields #[]) #[])
noncomputable def o56v3 (P : Params) (tk tj : Nat) : Obj := (@PySem.Obj.mk (.type "tuple") none (@PySem.Data.seq #[(.str (PySem.Str.ofString "code") 300)] 0) #[])
noncomputable def o57v3 (P : Params) (tk tj : Nat) : Obj := (@PySem.Obj.mk (.type "tuple") none (@PySem.Data.seq #[] 0) #[])
noncomputable def o58v3 (P : Params) (tk tj : Nat) : Obj := PySem.Obj.mk PySem.Value.none none (.func (fnFix 7 (@PySem.FuncData.mk (PySem.Str.ofString "in_table_b1") (PySem.Str.ofString "in_table_b1") (@PySem.Arguments.mk [] [] none [] [] none []) (@PySem.FuncBody.stmts []) (@PySem.Scope.mk @PySem.ScopeKind.function [] @Bool.false @Bool.false []) 0 [] PySem.Value.none PySem.Value.none PySem.Value.none PySem.Value.none none PySem.Value.none PySem.Value.none 0))) #[]
noncomputable def o59v3 (P : Params) (tk tj : Nat) : Obj := PySem.Obj.mk (.type "code") none (.fields #[(.str (PySem.Str.ofString "in_table_b1") 297), (.str (PySem.Str.ofString "in_table_b1") 298), (.str (PySem.Str.ofString "/claim/cut.py") 299), (.int 35 0), (.int 1 0), (.int 0 0), (.int 0 0), (.int 3 0), (.ref 54), (@PySem.Value.bool @Bool.true), (.int 181 0), (.ref 55), PySem.Value.none, (.ref 56), (.ref 57), (.ref 58), (.int 301 0), (.int 35 0), (.str (PySem.Str.ofString "/claim/cut.py") 302)]) #[]
noncomputable def o60v3 (P : Params) (tk tj : Nat) : Obj := PySem.Obj.mk (.type "function") none (.func (fnFix 7 (@PySem.FuncData.mk (PySem.Str.ofString "in_table_b1") (PySem.Str.ofString "in_table_b1") (@PySem.Arguments.mk [] [] none [] [] none []) (@PySem.FuncBody.stmts []) (@PySem.Scope.mk @PySem.ScopeKind.function [] @Bool.false @Bool.false []) 3 [] PySem.Value.none PySem.Value.none PySem.Value.none (.str (PySem.Str.ofString "cpy313.stringprep") 235) none (.ref 59) PySem.Value.none 0))) #[]
noncomputable def T3 (P : Params) (ob : Nat → Obj) (tk tj : Nat) : BT := (.node (boot_o_0 P) (.node (boot_o_1 P) (.node (o3v3 P tk tj) (.node (boot_o_7 P) (.node (o15v2 P tk tj) (.node (o31v2 P tk tj) .nil .nil) (.node (o47v3 P tk tj) .nil .nil)) (.node (o23v2 P tk tj) (.node (o39v2 P tk tj) .nil .nil) (.node (o55v3 P tk tj) .nil .nil))) (.node (o11v1 P tk tj) (.node (o19v2 P tk tj) (.node (o35v2 P tk tj) .nil .nil) (.node (o51v3 P tk tj) .nil .nil)) (.node (o27v2 P tk tj) (.node (o43v3 P tk tj) .nil .nil) (.node (o59v3 P tk tj) .nil .nil)))) (.node (boot_o_5 P) (.node (boot_o_9 P) (.node (o17v2 P tk tj) (.node (o33v2 P tk tj) .nil .nil) (.node (o49v3 P tk tj) .nil .nil)) (.node (o25v2 P tk tj) (.node (o41v2 P tk tj) .nil .nil) (.node (o57v3 P tk tj) .nil .nil))) (.node (o13v1 P tk tj) (.node (o21v2 P tk tj) (.node (o37v2 P tk tj) .nil .nil) (.node (o53v3 P tk tj) .nil .nil)) (.node (o29v2 P tk tj) (.node (o45v3 P tk tj) .nil .nil) .nil)))) (.node (boot_o_2 P) (.node (boot_o_4 P) (.node (boot_o_8 P) (.node (o16v2 P tk tj) (.node (o32v2 P tk tj) .nil .nil) (.node (o48v3 P tk tj) .nil .nil)) (.node (o24v2 P tk tj) (.node (o40v2 P tk tj) .nil .nil) (.node (o56v3 P tk tj) .nil .nil))) (.node (o12v3 P tk tj) (.node (o20v2 P tk tj) (.node (o36v2 P tk tj) .nil .nil) (.node (o52v3 P tk tj) .nil .nil)) (.node (o28v2 P tk tj) (.node (o44v3 P tk tj) .nil .nil) (.node (o60v3 P tk tj) .nil .nil)))) (.node (boot_o_6 P) (.node (boot_o_10 P) (.node (o18v2 P tk tj) (.node (o34v2 P tk tj) .nil .nil) (.node (o50v3 P tk tj) .nil .nil)) (.node (o26v2 P tk tj) (.node (o42v2 P tk tj) .nil .nil) (.node (o58v3 P tk tj) .nil .nil))) (.node (o14v1 P tk tj) (.node (o22v2 P tk tj) (.node (o38v2 P tk tj) .nil .nil) (.node (o54v3 P tk tj) .nil .nil)) (.node (o30v2 P tk tj) (.node (o46v3 P tk tj) .nil .nil) .nil)))))
noncomputable def S3 (w : World) (os : OsState) (ob : Nat → Obj) (tk tj : Nat) : SharedT := ⟨T3 w.params ob tk tj, 61, (@PySem.Life.mk [] [] [] 0 [] [] @Bool.false #[] [] 0 @Bool.false @Bool.false @Bool.false 0 [2000, 10, 10] @Bool.false 0 @Bool.true [] [] 0 @Bool.false), #[], boot_drawn, 304, os⟩
noncomputable def T4 (P : Params) (ob : Nat → Obj) (tk tj : Nat) : BT := (.node (boot_o_0 P) (.node (boot_o_1 P) (.node (o3v3 P tk tj) (.node (boot_o_7 P) (.node (o15v2 P tk tj) (.node (o31v2 P tk tj) (.node (ob 63) .nil .nil) (.node (ob 95) .nil .nil)) (.node (o47v3 P tk tj) (.node (ob 79) .nil .nil) .nil)) (.node (o23v2 P tk tj) (.node (o39v2 P tk tj) (.node (ob 71) .nil .nil) .nil) (.node (o55v3 P tk tj) (.node (ob 87) .nil .nil) .nil))) (.node (o11v1 P tk tj) (.node (o19v2 P tk tj) (.node (o35v2 P tk tj) (.node (ob 67) .nil .nil) (.node (ob 99) .nil .nil)) (.node (o51v3 P tk tj) (.node (ob 83) .nil .nil) .nil)) (.node (o27v2 P tk tj) (.node (o43v3 P tk tj) (.node (ob 75) .nil .nil) .nil) (.node (o59v3 P tk tj) (.node (ob 91) .nil .nil) .nil)))) (.node (boot_o_5 P) (.node (boot_o_9 P) (.node (o17v2 P tk tj) (.node (o33v2 P tk tj) (.node (ob 65) .nil .nil) (.node (ob 97) .nil .nil)) (.node (o49v3 P tk tj) (.node (ob 81) .nil .nil) .nil)) (.node (o25v2 P tk tj) (.node (o41v2 P tk tj) (.node (ob 73) .nil .nil) .nil) (.node (o57v3 P tk tj) (.node (ob 89) .nil .nil) .nil))) (.node (o13v1 P tk tj) (.node (o21v2 P tk tj) (.node (o37v2 P tk tj) (.node (ob 69) .nil .nil) .nil) (.node (o53v3 P tk tj) (.node (ob 85) .nil .nil) .nil)) (.node (o29v2 P tk tj) (.node (o45v3 P tk tj) (.node (ob 77) .nil .nil) .nil) (.node (ob 61) (.node (ob 93) .nil .nil) .nil))))) (.node (boot_o_2 P) (.node (boot_o_4 P) (.node (boot_o_8 P) (.node (o16v2 P tk tj) (.node (o32v2 P tk tj) (.node (ob 64) .nil .nil) (.node (ob 96) .nil .nil)) (.node (o48v3 P tk tj) (.node (ob 80) .nil .nil) .nil)) (.node (o24v2 P tk tj) (.node (o40v2 P tk tj) (.node (ob 72) .nil .nil) .nil) (.node (o56v3 P tk tj) (.node (ob 88) .nil .nil) .nil))) (.node (o12v3 P tk tj) (.node (o20v2 P tk tj) (.node (o36v2 P tk tj) (.node (ob 68) .nil .nil) .nil) (.node (o52v3 P tk tj) (.node (ob 84) .nil .nil) .nil)) (.node (o28v2 P tk tj) (.node (o44v3 P tk tj) (.node (ob 76) .nil .nil) .nil) (.node (o60v3 P tk tj) (.node (ob 92) .nil .nil) .nil)))) (.node (boot_o_6 P) (.node (boot_o_10 P) (.node (o18v2 P tk tj) (.node (o34v2 P tk tj) (.node (ob 66) .nil .nil) (.node (ob 98) .nil .nil)) (.node (o50v3 P tk tj) (.node (ob 82) .nil .nil) .nil)) (.node (o26v2 P tk tj) (.node (o42v2 P tk tj) (.node (ob 74) .nil .nil) .nil) (.node (o58v3 P tk tj) (.node (ob 90) .nil .nil) .nil))) (.node (o14v1 P tk tj) (.node (o22v2 P tk tj) (.node (o38v2 P tk tj) (.node (ob 70) .nil .nil) .nil) (.node (o54v3 P tk tj) (.node (ob 86) .nil .nil) .nil)) (.node (o30v2 P tk tj) (.node (o46v3 P tk tj) (.node (ob 78) .nil .nil) .nil) (.node (ob 62) (.node (ob 94) .nil .nil) .nil))))))
noncomputable def S4 (w : World) (os : OsState) (ob : Nat → Obj) (tk tj : Nat) : SharedT := ⟨T4 w.params ob tk tj, 100, (@PySem.Life.mk [] [] [] 0 [] [] @Bool.false #[] [] 0 @Bool.false @Bool.false @Bool.false 0 [2000, 10, 10] @Bool.false 0 @Bool.true [] [] 0 @Bool.false), #[], boot_drawn, tk, os⟩
noncomputable def o3v5 (P : Params) (tk tj : Nat) : Obj := (@PySem.Obj.mk (.type "dict") none (@PySem.Data.dict #[(@PySem.DictEntry.mk (@PySem.PyData.keyHash P (PySem.Str.ofString "__name__")) (.str (PySem.Str.ofString "__name__") 165) (.str (PySem.Str.ofString "cpy313.stringprep") 235)), (@PySem.DictEntry.mk (@PySem.PyData.keyHash P (PySem.Str.ofString "__doc__")) (.str (PySem.Str.ofString "__doc__") 166) PySem.Value.none), (@PySem.DictEntry.mk (@PySem.PyData.keyHash P (PySem.Str.ofString "__package__")) (.str (PySem.Str.ofString "__package__") 167) PySem.Value.none), (@PySem.DictEntry.mk (@PySem.PyData.keyHash P (PySem.Str.ofString "__loader__")) (.str (PySem.Str.ofString "__loader__") 168) (.builtin "__main__.__loader__#opaque")), (@PySem.DictEntry.mk (@PySem.PyData.keyHash P (PySem.Str.ofString "__spec__")) (.str (PySem.Str.ofString "__spec__") 169) PySem.Value.none), (@PySem.DictEntry.mk (@PySem.PyData.keyHash P (PySem.Str.ofString "__annotations__")) (.str (PySem.Str.ofString "__annotations__") 170) (.ref 6)), (@PySem.DictEntry.mk (@PySem.PyData.keyHash P (PySem.Str.ofString "__builtins__")) (.str (PySem.Str.ofString "__builtins__") 171) (.ref 4)), (@PySem.DictEntry.mk (@PySem.PyData.keyHash P (PySem.Str.ofString "__file__")) (.str (PySem.Str.ofString "__file__") 173) (.str (PySem.Str.ofString "/claim/cut.py") 172)), (@PySem.DictEntry.mk (@PySem.PyData.keyHash P (PySem.Str.ofString "__cached__")) (.str (PySem.Str.ofString "__cached__") 174) PySem.Value.none), (@PySem.DictEntry.mk (@PySem.PyData.keyHash P (PySem.Str.ofString "func_std_string")) (.str (PySem.Str.ofString "func_std_string") 196) (.ref 21)), (@PySem.DictEntry.mk (@PySem.PyData.keyHash P (PySem.Str.ofString "add_func_stats")) (.str (PySem.Str.ofString "add_func_stats") 214) (.ref 28)), (@PySem.DictEntry.mk (@PySem.PyData.keyHash P (PySem.Str.ofString "add_callers")) (.str (PySem.Str.ofString "add_callers") 225) (.ref 35)), (@PySem.DictEntry.mk (@PySem.PyData.keyHash P (PySem.Str.ofString "count_calls")) (.str (PySem.Str.ofString "count_calls") 234) (.ref 42)), (@PySem.DictEntry.mk (@PySem.PyData.keyHash P (PySem.Str.ofString "b1_set")) (.str (PySem.Str.ofString "b1_set") 296) (.ref 50)), (@PySem.DictEntry.mk (@PySem.PyData.keyHash P (PySem.Str.ofString "in_table_b1")) (.str (PySem.Str.ofString "in_table_b1") 303) (.ref 60)), (@PySem.DictEntry.mk (@PySem.PyData.keyHash P (PySem.Str.ofString "b3_exceptions")) (.str (PySem.Str.ofString "b3_exceptions") tk) (.ref 61))] 16) #[])
noncomputable def T5 (P : Params) (ob : Nat → Obj) (tk tj : Nat) : BT := (.node (boot_o_0 P) (.node (boot_o_1 P) (.node (o3v5 P tk tj) (.node (boot_o_7 P) (.node (o15v2 P tk tj) (.node (o31v2 P tk tj) (.node (ob 63) .nil .nil) (.node (ob 95) .nil .nil)) (.node (o47v3 P tk tj) (.node (ob 79) .nil .nil) .nil)) (.node (o23v2 P tk tj) (.node (o39v2 P tk tj) (.node (ob 71) .nil .nil) .nil) (.node (o55v3 P tk tj) (.node (ob 87) .nil .nil) .nil))) (.node (o11v1 P tk tj) (.node (o19v2 P tk tj) (.node (o35v2 P tk tj) (.node (ob 67) .nil .nil) (.node (ob 99) .nil .nil)) (.node (o51v3 P tk tj) (.node (ob 83) .nil .nil) .nil)) (.node (o27v2 P tk tj) (.node (o43v3 P tk tj) (.node (ob 75) .nil .nil) .nil) (.node (o59v3 P tk tj) (.node (ob 91) .nil .nil) .nil)))) (.node (boot_o_5 P) (.node (boot_o_9 P) (.node (o17v2 P tk tj) (.node (o33v2 P tk tj) (.node (ob 65) .nil .nil) (.node (ob 97) .nil .nil)) (.node (o49v3 P tk tj) (.node (ob 81) .nil .nil) .nil)) (.node (o25v2 P tk tj) (.node (o41v2 P tk tj) (.node (ob 73) .nil .nil) .nil) (.node (o57v3 P tk tj) (.node (ob 89) .nil .nil) .nil))) (.node (o13v1 P tk tj) (.node (o21v2 P tk tj) (.node (o37v2 P tk tj) (.node (ob 69) .nil .nil) .nil) (.node (o53v3 P tk tj) (.node (ob 85) .nil .nil) .nil)) (.node (o29v2 P tk tj) (.node (o45v3 P tk tj) (.node (ob 77) .nil .nil) .nil) (.node (ob 61) (.node (ob 93) .nil .nil) .nil))))) (.node (boot_o_2 P) (.node (boot_o_4 P) (.node (boot_o_8 P) (.node (o16v2 P tk tj) (.node (o32v2 P tk tj) (.node (ob 64) .nil .nil) (.node (ob 96) .nil .nil)) (.node (o48v3 P tk tj) (.node (ob 80) .nil .nil) .nil)) (.node (o24v2 P tk tj) (.node (o40v2 P tk tj) (.node (ob 72) .nil .nil) .nil) (.node (o56v3 P tk tj) (.node (ob 88) .nil .nil) .nil))) (.node (o12v3 P tk tj) (.node (o20v2 P tk tj) (.node (o36v2 P tk tj) (.node (ob 68) .nil .nil) .nil) (.node (o52v3 P tk tj) (.node (ob 84) .nil .nil) .nil)) (.node (o28v2 P tk tj) (.node (o44v3 P tk tj) (.node (ob 76) .nil .nil) .nil) (.node (o60v3 P tk tj) (.node (ob 92) .nil .nil) .nil)))) (.node (boot_o_6 P) (.node (boot_o_10 P) (.node (o18v2 P tk tj) (.node (o34v2 P tk tj) (.node (ob 66) .nil .nil) (.node (ob 98) .nil .nil)) (.node (o50v3 P tk tj) (.node (ob 82) .nil .nil) .nil)) (.node (o26v2 P tk tj) (.node (o42v2 P tk tj) (.node (ob 74) .nil .nil) .nil) (.node (o58v3 P tk tj) (.node (ob 90) .nil .nil) .nil))) (.node (o14v1 P tk tj) (.node (o22v2 P tk tj) (.node (o38v2 P tk tj) (.node (ob 70) .nil .nil) .nil) (.node (o54v3 P tk tj) (.node (ob 86) .nil .nil) .nil)) (.node (o30v2 P tk tj) (.node (o46v3 P tk tj) (.node (ob 78) .nil .nil) .nil) (.node (ob 62) (.node (ob 94) .nil .nil) .nil))))))
noncomputable def S5 (w : World) (os : OsState) (ob : Nat → Obj) (tk tj : Nat) : SharedT := ⟨T5 w.params ob tk tj, 100, (@PySem.Life.mk [] [] [] 0 [] [] @Bool.false #[] [] 0 @Bool.false @Bool.false @Bool.false 0 [2000, 10, 10] @Bool.false 0 @Bool.true [] [] 0 @Bool.false), #[], boot_drawn, (tk + 1), os⟩
noncomputable def o3v6 (P : Params) (tk tj : Nat) : Obj := (@PySem.Obj.mk (.type "dict") none (@PySem.Data.dict #[(@PySem.DictEntry.mk (@PySem.PyData.keyHash P (PySem.Str.ofString "__name__")) (.str (PySem.Str.ofString "__name__") 165) (.str (PySem.Str.ofString "cpy313.stringprep") 235)), (@PySem.DictEntry.mk (@PySem.PyData.keyHash P (PySem.Str.ofString "__doc__")) (.str (PySem.Str.ofString "__doc__") 166) PySem.Value.none), (@PySem.DictEntry.mk (@PySem.PyData.keyHash P (PySem.Str.ofString "__package__")) (.str (PySem.Str.ofString "__package__") 167) PySem.Value.none), (@PySem.DictEntry.mk (@PySem.PyData.keyHash P (PySem.Str.ofString "__loader__")) (.str (PySem.Str.ofString "__loader__") 168) (.builtin "__main__.__loader__#opaque")), (@PySem.DictEntry.mk (@PySem.PyData.keyHash P (PySem.Str.ofString "__spec__")) (.str (PySem.Str.ofString "__spec__") 169) PySem.Value.none), (@PySem.DictEntry.mk (@PySem.PyData.keyHash P (PySem.Str.ofString "__annotations__")) (.str (PySem.Str.ofString "__annotations__") 170) (.ref 6)), (@PySem.DictEntry.mk (@PySem.PyData.keyHash P (PySem.Str.ofString "__builtins__")) (.str (PySem.Str.ofString "__builtins__") 171) (.ref 4)), (@PySem.DictEntry.mk (@PySem.PyData.keyHash P (PySem.Str.ofString "__file__")) (.str (PySem.Str.ofString "__file__") 173) (.str (PySem.Str.ofString "/claim/cut.py") 172)), (@PySem.DictEntry.mk (@PySem.PyData.keyHash P (PySem.Str.ofString "__cached__")) (.str (PySem.Str.ofString "__cached__") 174) PySem.Value.none), (@PySem.DictEntry.mk (@PySem.PyData.keyHash P (PySem.Str.ofString "func_std_string")) (.str (PySem.Str.ofString "func_std_string") 196) (.ref 21)), (@PySem.DictEntry.mk (@PySem.PyData.keyHash P (PySem.Str.ofString "add_func_stats")) (.str (PySem.Str.ofString "add_func_stats") 214) (.ref 28)), (@PySem.DictEntry.mk (@PySem.PyData.keyHash P (PySem.Str.ofString "add_callers")) (.str (PySem.Str.ofString "add_callers") 225) (.ref 35)), (@PySem.DictEntry.mk (@PySem.PyData.keyHash P (PySem.Str.ofString "count_calls")) (.str (PySem.Str.ofString "count_calls") 234) (.ref 42)), (@PySem.DictEntry.mk (@PySem.PyData.keyHash P (PySem.Str.ofString "b1_set")) (.str (PySem.Str.ofString "b1_set") 296) (.ref 50)), (@PySem.DictEntry.mk (@PySem.PyData.keyHash P (PySem.Str.ofString "in_table_b1")) (.str (PySem.Str.ofString "in_table_b1") 303) (.ref 60)), (@PySem.DictEntry.mk (@PySem.PyData.keyHash P (PySem.Str.ofString "b3_exceptions")) (.str (PySem.Str.ofString "b3_exceptions") tk) (.ref 61)), (@PySem.DictEntry.mk (@PySem.PyData.keyHash P (PySem.Str.ofString "map_table_b3")) (.str (PySem.Str.ofString "map_table_b3") (tk + 8)) (.ref 106)), (@PySem.DictEntry.mk (@PySem.PyData.keyHash P (PySem.Str.ofString "c6_set")) (.str (PySem.Str.ofString "c6_set") (tk + 22)) (.ref 108)), (@PySem.DictEntry.mk (@PySem.PyData.keyHash P (PySem.Str.ofString "in_table_c6")) (.str (PySem.Str.ofString "in_table_c6") (tk + 29)) (.ref 118))] 19) #[])
noncomputable def o12v6 (P : Params) (tk tj : Nat) : Obj := (@PySem.Obj.mk PySem.Value.none none (@PySem.Data.fields #[(.int 2 0), (.int 0 0), (.ref 20), (.int 11 0), (.int 0 0), (.ref 27), (.int 15 0), (.int 0 0), (.ref 34), (.int 28 0), (.int 0 0), (.ref 41), (.int 35 0), (.int 0 0), (.ref 59), (.int 38 0), (.int 0 0), (.ref 105), (.int 44 0), (.int 0 0), (.ref 117)]) #[])
noncomputable def o100v6 (P : Params) (tk tj : Nat) : Obj := (@PySem.Obj.mk (.type "tuple") none (@PySem.Data.seq #[] 0) #[])
noncomputable def o101v6 (P : Params) (tk tj : Nat) : Obj := (@PySem.Obj.mk PySem.Value.none none (@PySem.Data.fields #[]) #[])
noncomputable def o102v6 (P : Params) (tk tj : Nat) : Obj := (@PySem.Obj.mk (.type "tuple") none (@PySem.Data.seq #[(.str (PySem.Str.ofString "code") (tk + 4)), (.str (PySem.Str.ofString "r") (tk + 5))] 0) #[])
noncomputable def o103v6 (P : Params) (tk tj : Nat) : Obj := (@PySem.Obj.mk (.type "tuple") none (@PySem.Data.seq #[] 0) #[])
noncomputable def o104v6 (P : Params) (tk tj : Nat) : Obj := PySem.Obj.mk PySem.Value.none none (.func (fnFix 9 (@PySem.FuncData.mk (PySem.Str.ofString "map_table_b3") (PySem.Str.ofString "map_table_b3") (@PySem.Arguments.mk [] [] none [] [] none []) (@PySem.FuncBody.stmts []) (@PySem.Scope.mk @PySem.ScopeKind.function [] @Bool.false @Bool.false []) 0 [] PySem.Value.none PySem.Value.none PySem.Value.none PySem.Value.none none PySem.Value.none PySem.Value.none 0))) #[]
noncomputable def o105v6 (P : Params) (tk tj : Nat) : Obj := PySem.Obj.mk (.type "code") none (.fields #[(.str (PySem.Str.ofString "map_table_b3") (tk + 1)), (.str (PySem.Str.ofString "map_table_b3") (tk + 2)), (.str (PySem.Str.ofString "/claim/cut.py") (tk + 3)), (.int 38 0), (.int 1 0), (.int 0 0), (.int 0 0), (.int 3 0), (.ref 100), (@PySem.Value.bool @Bool.true), (.int 181 0), (.ref 101), PySem.Value.none, (.ref 102), (.ref 103), (.ref 104), (.int (Int.ofNat (tk + 6)) 0), (.int 38 0), (.str (PySem.Str.ofString "/claim/cut.py") (tk + 7))]) #[]
noncomputable def o106v6 (P : Params) (tk tj : Nat) : Obj := PySem.Obj.mk (.type "function") none (.func (fnFix 9 (@PySem.FuncData.mk (PySem.Str.ofString "map_table_b3") (PySem.Str.ofString "map_table_b3") (@PySem.Arguments.mk [] [] none [] [] none []) (@PySem.FuncBody.stmts []) (@PySem.Scope.mk @PySem.ScopeKind.function [] @Bool.false @Bool.false []) 3 [] PySem.Value.none PySem.Value.none PySem.Value.none (.str (PySem.Str.ofString "cpy313.stringprep") 235) none (.ref 105) PySem.Value.none 0))) #[]
noncomputable def o107v6 (P : Params) (tk tj : Nat) : Obj := (@PySem.Obj.mk (.type "range") none (@PySem.Data.fields #[(.int 65529 (tk + 9)), (.int 65534 (tk + 10)), (.int 1 (tk + 11))]) #[])
noncomputable def o108v6 (P : Params) (tk tj : Nat) : Obj := (@PySem.Obj.mk (.type "set") none (@PySem.Data.set #[(65529, (.int 65529 (tk + 12))), (65530, (.int 65530 (tk + 14))), (65531, (.int 65531 (tk + 16))), (65532, (.int 65532 (tk + 18))), (65533, (.int 65533 (tk + 20)))] 6 (@PySem.SetTable.mk 31 #[25, 26, 27, 28, 29] #[] 0 (@Bool.not (@PySem.Params.followText P "set-order")) 1 @Bool.true)) #[])
noncomputable def o109v6 (P : Params) (tk tj : Nat) : Obj := (@PySem.Obj.mk (.type "range_iterator") none (@PySem.Data.fields #[(.int 65534 0), (.int 0 0), (.int 1 0)]) #[])
noncomputable def o110v6 (P : Params) (tk tj : Nat) : Obj := (@PySem.Obj.mk (.type "tuple") none (@PySem.Data.seq #[] 0) #[])
noncomputable def o111v6 (P : Params) (tk tj : Nat) : Obj := (@PySem.Obj.mk (.type "StopIteration") none (@PySem.Data.fields #[(.ref 110), PySem.Value.none, PySem.Value.none, PySem.Value.none, (@PySem.Value.bool @Bool.false), PySem.Value.none]) #[])
noncomputable def o112v6 (P : Params) (tk tj : Nat) : Obj := (@PySem.Obj.mk (.type "tuple") none (@PySem.Data.seq #[] 0) #[])
noncomputable def o113v6 (P : Params) (tk tj : Nat) : Obj := (@PySem.Obj.mk PySem.Value.none none (@PySem.Data.fields #[]) #[])
noncomputable def o114v6 (P : Params) (tk tj : Nat) : Obj := (@PySem.Obj.mk (.type "tuple") none (@PySem.Data.seq #[(.str (PySem.Str.ofString "code") (tk + 26))] 0) #[])
noncomputable def o115v6 (P : Params) (tk tj : Nat) : Obj := (@PySem.Obj.mk (.type "tuple") none (@PySem.Data.seq #[] 0) #[])
noncomputable def o116v6 (P : Params) (tk tj : Nat) : Obj := PySem.Obj.mk PySem.Value.none none (.func (fnFix 11 (@PySem.FuncData.mk (PySem.Str.ofString "in_table_c6") (PySem.Str.ofString "in_table_c6") (@PySem.Arguments.mk [] [] none [] [] none []) (@PySem.FuncBody.stmts []) (@PySem.Scope.mk @PySem.ScopeKind.function [] @Bool.false @Bool.false []) 0 [] PySem.Value.none PySem.Value.none PySem.Value.none PySem.Value.none none PySem.Value.none PySem.Value.none 0))) #[]
noncomputable def o117v6 (P : Params) (tk tj : Nat) : Obj := PySem.Obj.mk (.type "code") none (.fields #[(.str (PySem.Str.ofString "in_table_c6") (tk + 23)), (.str (PySem.Str.ofString "in_table_c6") (tk + 24)), (.str (PySem.Str.ofString "/claim/cut.py") (tk + 25)), (.int 44 0), (.int 1 0), (.int 0 0), (.int 0 0), (.int 3 0), (.ref 112), (@PySem.Value.bool @Bool.true), (.int 181 0), (.ref 113), PySem.Value.none, (.ref 114), (.ref 115), (.ref 116), (.int (Int.ofNat (tk + 27)) 0), (.int 44 0), (.str (PySem.Str.ofString "/claim/cut.py") (tk + 28))]) #[]
noncomputable def o118v6 (P : Params) (tk tj : Nat) : Obj := PySem.Obj.mk (.type "function") none (.func (fnFix 11 (@PySem.FuncData.mk (PySem.Str.ofString "in_table_c6") (PySem.Str.ofString "in_table_c6") (@PySem.Arguments.mk [] [] none [] [] none []) (@PySem.FuncBody.stmts []) (@PySem.Scope.mk @PySem.ScopeKind.function [] @Bool.false @Bool.false []) 3 [] PySem.Value.none PySem.Value.none PySem.Value.none (.str (PySem.Str.ofString "cpy313.stringprep") 235) none (.ref 117) PySem.Value.none 0))) #[]
noncomputable def T6 (P : Params) (ob : Nat → Obj) (tk tj : Nat) : BT := (.node (boot_o_0 P) (.node (boot_o_1 P) (.node (o3v6 P tk tj) (.node (boot_o_7 P) (.node (o15v2 P tk tj) (.node (o31v2 P tk tj) (.node (ob 63) .nil .nil) (.node (ob 95) .nil .nil)) (.node (o47v3 P tk tj) (.node (ob 79) .nil .nil) (.node (o111v6 P tk tj) .nil .nil))) (.node (o23v2 P tk tj) (.node (o39v2 P tk tj) (.node (ob 71) .nil .nil) (.node (o103v6 P tk tj) .nil .nil)) (.node (o55v3 P tk tj) (.node (ob 87) .nil .nil) .nil))) (.node (o11v1 P tk tj) (.node (o19v2 P tk tj) (.node (o35v2 P tk tj) (.node (ob 67) .nil .nil) (.node (ob 99) .nil .nil)) (.node (o51v3 P tk tj) (.node (ob 83) .nil .nil) (.node (o115v6 P tk tj) .nil .nil))) (.node (o27v2 P tk tj) (.node (o43v3 P tk tj) (.node (ob 75) .nil .nil) (.node (o107v6 P tk tj) .nil .nil)) (.node (o59v3 P tk tj) (.node (ob 91) .nil .nil) .nil)))) (.node (boot_o_5 P) (.node (boot_o_9 P) (.node (o17v2 P tk tj) (.node (o33v2 P tk tj) (.node (ob 65) .nil .nil) (.node (ob 97) .nil .nil)) (.node (o49v3 P tk tj) (.node (ob 81) .nil .nil) (.node (o113v6 P tk tj) .nil .nil))) (.node (o25v2 P tk tj) (.node (o41v2 P tk tj) (.node (ob 73) .nil .nil) (.node (o105v6 P tk tj) .nil .nil)) (.node (o57v3 P tk tj) (.node (ob 89) .nil .nil) .nil))) (.node (o13v1 P tk tj) (.node (o21v2 P tk tj) (.node (o37v2 P tk tj) (.node (ob 69) .nil .nil) (.node (o101v6 P tk tj) .nil .nil)) (.node (o53v3 P tk tj) (.node (ob 85) .nil .nil) (.node (o117v6 P tk tj) .nil .nil))) (.node (o29v2 P tk tj) (.node (o45v3 P tk tj) (.node (ob 77) .nil .nil) (.node (o109v6 P tk tj) .nil .nil)) (.node (ob 61) (.node (ob 93) .nil .nil) .nil))))) (.node (boot_o_2 P) (.node (boot_o_4 P) (.node (boot_o_8 P) (.node (o16v2 P tk tj) (.node (o32v2 P tk tj) (.node (ob 64) .nil .nil) (.node (ob 96) .nil .nil)) (.node (o48v3 P tk tj) (.node (ob 80) .nil .nil) (.node (o112v6 P tk tj) .nil .nil))) (.node (o24v2 P tk tj) (.node (o40v2 P tk tj) (.node (ob 72) .nil .nil) (.node (o104v6 P tk tj) .nil .nil)) (.node (o56v3 P tk tj) (.node (ob 88) .nil .nil) .nil))) (.node (o12v6 P tk tj) (.node (o20v2 P tk tj) (.node (o36v2 P tk tj) (.node (ob 68) .nil .nil) (.node (o100v6 P tk tj) .nil .nil)) (.node (o52v3 P tk tj) (.node (ob 84) .nil .nil) (.node (o116v6 P tk tj) .nil .nil))) (.node (o28v2 P tk tj) (.node (o44v3 P tk tj) (.node (ob 76) .nil .nil) (.node (o108v6 P tk tj) .nil .nil)) (.node (o60v3 P tk tj) (.node (ob 92) .nil .nil) .nil)))) (.node (boot_o_6 P) (.node (boot_o_10 P) (.node (o18v2 P tk tj) (.node (o34v2 P tk tj) (.node (ob 66) .nil .nil) (.node (ob 98) .nil .nil)) (.node (o50v3 P tk tj) (.node (ob 82) .nil .nil) (.node (o114v6 P tk tj) .nil .nil))) (.node (o26v2 P tk tj) (.node (o42v2 P tk tj) (.node (ob 74) .nil .nil) (.node (o106v6 P tk tj) .nil .nil)) (.node (o58v3 P tk tj) (.node (ob 90) .nil .nil) .nil))) (.node (o14v1 P tk tj) (.node (o22v2 P tk tj) (.node (o38v2 P tk tj) (.node (ob 70) .nil .nil) (.node (o102v6 P tk tj) .nil .nil)) (.node (o54v3 P tk tj) (.node (ob 86) .nil .nil) (.node (o118v6 P tk tj) .nil .nil))) (.node (o30v2 P tk tj) (.node (o46v3 P tk tj) (.node (ob 78) .nil .nil) (.node (o110v6 P tk tj) .nil .nil)) (.node (ob 62) (.node (ob 94) .nil .nil) .nil))))))
noncomputable def S6 (w : World) (os : OsState) (ob : Nat → Obj) (tk tj : Nat) : SharedT := ⟨T6 w.params ob tk tj, 119, (@PySem.Life.mk [] [] [] 0 [] [] @Bool.false #[] [] 0 @Bool.false @Bool.false @Bool.false 0 [2000, 10, 10] @Bool.false 0 @Bool.true [] [] 0 @Bool.false), #[], boot_drawn, (tk + 30), os⟩
noncomputable def o3v7 (P : Params) (tk tj : Nat) : Obj := (@PySem.Obj.mk (.type "dict") none (@PySem.Data.dict #[(@PySem.DictEntry.mk (@PySem.PyData.keyHash P (PySem.Str.ofString "__name__")) (.str (PySem.Str.ofString "__name__") 165) (.str (PySem.Str.ofString "cpy313.stringprep") 235)), (@PySem.DictEntry.mk (@PySem.PyData.keyHash P (PySem.Str.ofString "__doc__")) (.str (PySem.Str.ofString "__doc__") 166) PySem.Value.none), (@PySem.DictEntry.mk (@PySem.PyData.keyHash P (PySem.Str.ofString "__package__")) (.str (PySem.Str.ofString "__package__") 167) PySem.Value.none), (@PySem.DictEntry.mk (@PySem.PyData.keyHash P (PySem.Str.ofString "__loader__")) (.str (PySem.Str.ofString "__loader__") 168) (.builtin "__main__.__loader__#opaque")), (@PySem.DictEntry.mk (@PySem.PyData.keyHash P (PySem.Str.ofString "__spec__")) (.str (PySem.Str.ofString "__spec__") 169) PySem.Value.none), (@PySem.DictEntry.mk (@PySem.PyData.keyHash P (PySem.Str.ofString "__annotations__")) (.str (PySem.Str.ofString "__annotations__") 170) (.ref 6)), (@PySem.DictEntry.mk (@PySem.PyData.keyHash P (PySem.Str.ofString "__builtins__")) (.str (PySem.Str.ofString "__builtins__") 171) (.ref 4)), (@PySem.DictEntry.mk (@PySem.PyData.keyHash P (PySem.Str.ofString "__file__")) (.str (PySem.Str.ofString "__file__") 173) (.str (PySem.Str.ofString "/claim/cut.py") 172)), (@PySem.DictEntry.mk (@PySem.PyData.keyHash P (PySem.Str.ofString "__cached__")) (.str (PySem.Str.ofString "__cached__") 174) PySem.Value.none), (@PySem.DictEntry.mk (@PySem.PyData.keyHash P (PySem.Str.ofString "func_std_string")) (.str (PySem.Str.ofString "func_std_string") 196) (.ref 21)), (@PySem.DictEntry.mk (@PySem.PyData.keyHash P (PySem.Str.ofString "add_func_stats")) (.str (PySem.Str.ofString "add_func_stats") 214) (.ref 28)), (@PySem.DictEntry.mk (@PySem.PyData.keyHash P (PySem.Str.ofString "add_callers")) (.str (PySem.Str.ofString "add_callers") 225) (.ref 35)), (@PySem.DictEntry.mk (@PySem.PyData.keyHash P (PySem.Str.ofString "count_calls")) (.str (PySem.Str.ofString "count_calls") 234) (.ref 42)), (@PySem.DictEntry.mk (@PySem.PyData.keyHash P (PySem.Str.ofString "b1_set")) (.str (PySem.Str.ofString "b1_set") 296) (.ref 50)), (@PySem.DictEntry.mk (@PySem.PyData.keyHash P (PySem.Str.ofString "in_table_b1")) (.str (PySem.Str.ofString "in_table_b1") 303) (.ref 60)), (@PySem.DictEntry.mk (@PySem.PyData.keyHash P (PySem.Str.ofString "b3_exceptions")) (.str (PySem.Str.ofString "b3_exceptions") tk) (.ref 61)), (@PySem.DictEntry.mk (@PySem.PyData.keyHash P (PySem.Str.ofString "map_table_b3")) (.str (PySem.Str.ofString "map_table_b3") (tk + 8)) (.ref 106)), (@PySem.DictEntry.mk (@PySem.PyData.keyHash P (PySem.Str.ofString "c6_set")) (.str (PySem.Str.ofString "c6_set") (tk + 22)) (.ref 108)), (@PySem.DictEntry.mk (@PySem.PyData.keyHash P (PySem.Str.ofString "in_table_c6")) (.str (PySem.Str.ofString "in_table_c6") (tk + 29)) (.ref 118)), (@PySem.DictEntry.mk (@PySem.PyData.keyHash P (PySem.Str.ofString "c7_set")) (.str (PySem.Str.ofString "c7_set") (tk + 57)) (.ref 120)), (@PySem.DictEntry.mk (@PySem.PyData.keyHash P (PySem.Str.ofString "in_table_c7")) (.str (PySem.Str.ofString "in_table_c7") (tk + 64)) (.ref 130))] 21) #[])
noncomputable def o12v7 (P : Params) (tk tj : Nat) : Obj := (@PySem.Obj.mk PySem.Value.none none (@PySem.Data.fields #[(.int 2 0), (.int 0 0), (.ref 20), (.int 11 0), (.int 0 0), (.ref 27), (.int 15 0), (.int 0 0), (.ref 34), (.int 28 0), (.int 0 0), (.ref 41), (.int 35 0), (.int 0 0), (.ref 59), (.int 38 0), (.int 0 0), (.ref 105), (.int 44 0), (.int 0 0), (.ref 117), (.int 47 0), (.int 0 0), (.ref 129)]) #[])
noncomputable def o119v7 (P : Params) (tk tj : Nat) : Obj := (@PySem.Obj.mk (.type "range") none (@PySem.Data.fields #[(.int 12272 (tk + 30)), (.int 12284 (tk + 31)), (.int 1 (tk + 32))]) #[])
noncomputable def o120v7 (P : Params) (tk tj : Nat) : Obj := (@PySem.Obj.mk (.type "set") none (@PySem.Data.set #[(12272, (.int 12272 (tk + 33))), (12273, (.int 12273 (tk + 35))), (12274, (.int 12274 (tk + 37))), (12275, (.int 12275 (tk + 39))), (12276, (.int 12276 (tk + 41))), (12277, (.int 12277 (tk + 43))), (12278, (.int 12278 (tk + 45))), (12279, (.int 12279 (tk + 47))), (12280, (.int 12280 (tk + 49))), (12281, (.int 12281 (tk + 51))), (12282, (.int 12282 (tk + 53))), (12283, (.int 12283 (tk + 55)))] 13 (@PySem.SetTable.mk 31 #[16, 17, 18, 19, 20, 21, 22, 23, 24, 25, 26, 27] #[] 0 (@Bool.not (@PySem.Params.followText P "set-order")) 1 @Bool.true)) #[])
noncomputable def o121v7 (P : Params) (tk tj : Nat) : Obj := (@PySem.Obj.mk (.type "range_iterator") none (@PySem.Data.fields #[(.int 12284 0), (.int 0 0), (.int 1 0)]) #[])
noncomputable def o122v7 (P : Params) (tk tj : Nat) : Obj := (@PySem.Obj.mk (.type "tuple") none (@PySem.Data.seq #[] 0) #[])
noncomputable def o123v7 (P : Params) (tk tj : Nat) : Obj := (@PySem.Obj.mk (.type "StopIteration") none (@PySem.Data.fields #[(.ref 122), PySem.Value.none, PySem.Value.none, PySem.Value.none, (@PySem.Value.bool @Bool.false), PySem.Value.none]) #[])
noncomputable def o124v7 (P : Params) (tk tj : Nat) : Obj := (@PySem.Obj.mk (.type "tuple") none (@PySem.Data.seq #[] 0) #[])
noncomputable def o125v7 (P : Params) (tk tj : Nat) : Obj := (@PySem.Obj.mk PySem.Value.none none (@PySem.Data.fields #[]) #[])
noncomputable def o126v7 (P : Params) (tk tj : Nat) : Obj := (@PySem.Obj.mk (.type "tuple") none (@PySem.Data.seq #[(.str (PySem.Str.ofString "code") (tk + 61))] 0) #[])
noncomputable def o127v7 (P : Params) (tk tj : Nat) : Obj := (@PySem.Obj.mk (.type "tuple") none (@PySem.Data.seq #[] 0) #[])
noncomputable def o128v7 (P : Params) (tk tj : Nat) : Obj := PySem.Obj.mk PySem.Value.none none (.func (fnFix 13 (@PySem.FuncData.mk (PySem.Str.ofString "in_table_c7") (PySem.Str.ofString "in_table_c7") (@PySem.Arguments.mk [] [] none [] [] none []) (@PySem.FuncBody.stmts []) (@PySem.Scope.mk @PySem.ScopeKind.function [] @Bool.false @Bool.false []) 0 [] PySem.Value.none PySem.Value.none PySem.Value.none PySem.Value.none none PySem.Value.none PySem.Value.none 0))) #[]
noncomputable def o129v7 (P : Params) (tk tj : Nat) : Obj := PySem.Obj.mk (.type "code") none (.fields #[(.str (PySem.Str.ofString "in_table_c7") (tk + 58)), (.str (PySem.Str.ofString "in_table_c7") (tk + 59)), (.str (PySem.Str.ofString "/claim/cut.py") (tk + 60)), (.int 47 0), (.int 1 0), (.int 0 0), (.int 0 0), (.int 3 0), (.ref 124), (@PySem.Value.bool @Bool.true), (.int 181 0), (.ref 125), PySem.Value.none, (.ref 126), (.ref 127), (.ref 128), (.int (Int.ofNat (tk + 62)) 0), (.int 47 0), (.str (PySem.Str.ofString "/claim/cut.py") (tk + 63))]) #[]
noncomputable def o130v7 (P : Params) (tk tj : Nat) : Obj := PySem.Obj.mk (.type "function") none (.func (fnFix 13 (@PySem.FuncData.mk (PySem.Str.ofString "in_table_c7") (PySem.Str.ofString "in_table_c7") (@PySem.Arguments.mk [] [] none [] [] none []) (@PySem.FuncBody.stmts []) (@PySem.Scope.mk @PySem.ScopeKind.function [] @Bool.false @Bool.false []) 3 [] PySem.Value.none PySem.Value.none PySem.Value.none (.str (PySem.Str.ofString "cpy313.stringprep") 235) none (.ref 129) PySem.Value.none 0))) #[]
noncomputable def T7 (P : Params) (ob : Nat → Obj) (tk tj : Nat) : BT := (.node (boot_o_0 P) (.node (boot_o_1 P) (.node (o3v7 P tk tj) (.node (boot_o_7 P) (.node (o15v2 P tk tj) (.node (o31v2 P tk tj) (.node (ob 63) (.node (o127v7 P tk tj) .nil .nil) .nil) (.node (ob 95) .nil .nil)) (.node (o47v3 P tk tj) (.node (ob 79) .nil .nil) (.node (o111v6 P tk tj) .nil .nil))) (.node (o23v2 P tk tj) (.node (o39v2 P tk tj) (.node (ob 71) .nil .nil) (.node (o103v6 P tk tj) .nil .nil)) (.node (o55v3 P tk tj) (.node (ob 87) .nil .nil) (.node (o119v7 P tk tj) .nil .nil)))) (.node (o11v1 P tk tj) (.node (o19v2 P tk tj) (.node (o35v2 P tk tj) (.node (ob 67) .nil .nil) (.node (ob 99) .nil .nil)) (.node (o51v3 P tk tj) (.node (ob 83) .nil .nil) (.node (o115v6 P tk tj) .nil .nil))) (.node (o27v2 P tk tj) (.node (o43v3 P tk tj) (.node (ob 75) .nil .nil) (.node (o107v6 P tk tj) .nil .nil)) (.node (o59v3 P tk tj) (.node (ob 91) .nil .nil) (.node (o123v7 P tk tj) .nil .nil))))) (.node (boot_o_5 P) (.node (boot_o_9 P) (.node (o17v2 P tk tj) (.node (o33v2 P tk tj) (.node (ob 65) (.node (o129v7 P tk tj) .nil .nil) .nil) (.node (ob 97) .nil .nil)) (.node (o49v3 P tk tj) (.node (ob 81) .nil .nil) (.node (o113v6 P tk tj) .nil .nil))) (.node (o25v2 P tk tj) (.node (o41v2 P tk tj) (.node (ob 73) .nil .nil) (.node (o105v6 P tk tj) .nil .nil)) (.node (o57v3 P tk tj) (.node (ob 89) .nil .nil) (.node (o121v7 P tk tj) .nil .nil)))) (.node (o13v1 P tk tj) (.node (o21v2 P tk tj) (.node (o37v2 P tk tj) (.node (ob 69) .nil .nil) (.node (o101v6 P tk tj) .nil .nil)) (.node (o53v3 P tk tj) (.node (ob 85) .nil .nil) (.node (o117v6 P tk tj) .nil .nil))) (.node (o29v2 P tk tj) (.node (o45v3 P tk tj) (.node (ob 77) .nil .nil) (.node (o109v6 P tk tj) .nil .nil)) (.node (ob 61) (.node (ob 93) .nil .nil) (.node (o125v7 P tk tj) .nil .nil)))))) (.node (boot_o_2 P) (.node (boot_o_4 P) (.node (boot_o_8 P) (.node (o16v2 P tk tj) (.node (o32v2 P tk tj) (.node (ob 64) (.node (o128v7 P tk tj) .nil .nil) .nil) (.node (ob 96) .nil .nil)) (.node (o48v3 P tk tj) (.node (ob 80) .nil .nil) (.node (o112v6 P tk tj) .nil .nil))) (.node (o24v2 P tk tj) (.node (o40v2 P tk tj) (.node (ob 72) .nil .nil) (.node (o104v6 P tk tj) .nil .nil)) (.node (o56v3 P tk tj) (.node (ob 88) .nil .nil) (.node (o120v7 P tk tj) .nil .nil)))) (.node (o12v7 P tk tj) (.node (o20v2 P tk tj) (.node (o36v2 P tk tj) (.node (ob 68) .nil .nil) (.node (o100v6 P tk tj) .nil .nil)) (.node (o52v3 P tk tj) (.node (ob 84) .nil .nil) (.node (o116v6 P tk tj) .nil .nil))) (.node (o28v2 P tk tj) (.node (o44v3 P tk tj) (.node (ob 76) .nil .nil) (.node (o108v6 P tk tj) .nil .nil)) (.node (o60v3 P tk tj) (.node (ob 92) .nil .nil) (.node (o124v7 P tk tj) .nil .nil))))) (.node (boot_o_6 P) (.node (boot_o_10 P) (.node (o18v2 P tk tj) (.node (o34v2 P tk tj) (.node (ob 66) (.node (o130v7 P tk tj) .nil .nil) .nil) (.node (ob 98) .nil .nil)) (.node (o50v3 P tk tj) (.node (ob 82) .nil .nil) (.node (o114v6 P tk tj) .nil .nil))) (.node (o26v2 P tk tj) (.node (o42v2 P tk tj) (.node (ob 74) .nil .nil) (.node (o106v6 P tk tj) .nil .nil)) (.node (o58v3 P tk tj) (.node (ob 90) .nil .nil) (.node (o122v7 P tk tj) .nil .nil)))) (.node (o14v1 P tk tj) (.node (o22v2 P tk tj) (.node (o38v2 P tk tj) (.node (ob 70) .nil .nil) (.node (o102v6 P tk tj) .nil .nil)) (.node (o54v3 P tk tj) (.node (ob 86) .nil .nil) (.node (o118v6 P tk tj) .nil .nil))) (.node (o30v2 P tk tj) (.node (o46v3 P tk tj) (.node (ob 78) .nil .nil) (.node (o110v6 P tk tj) .nil .nil)) (.node (ob 62) (.node (ob 94) .nil .nil) (.node (o126v7 P tk tj) .nil .nil)))))))
noncomputable def S7 (w : World) (os : OsState) (ob : Nat → Obj) (tk tj : Nat) : SharedT := ⟨T7 w.params ob tk tj, 131, (@PySem.Life.mk [] [] [] 0 [] [] @Bool.false #[] [] 0 @Bool.false @Bool.false @Bool.false 0 [2000, 10, 10] @Bool.false 0 @Bool.true [] [] 0 @Bool.false), #[], boot_drawn, (tk + 65), os⟩
noncomputable def o3v8 (P : Params) (tk tj : Nat) : Obj := (@PySem.Obj.mk (.type "dict") none (@PySem.Data.dict #[(@PySem.DictEntry.mk (@PySem.PyData.keyHash P (PySem.Str.ofString "__name__")) (.str (PySem.Str.ofString "__name__") 165) (.str (PySem.Str.ofString "cpy313.stringprep") 235)), (@PySem.DictEntry.mk (@PySem.PyData.keyHash P (PySem.Str.ofString "__doc__")) (.str (PySem.Str.ofString "__doc__") 166) PySem.Value.none), (@PySem.DictEntry.mk (@PySem.PyData.keyHash P (PySem.Str.ofString "__package__")) (.str (PySem.Str.ofString "__package__") 167) PySem.Value.none), (@PySem.DictEntry.mk (@PySem.PyData.keyHash P (PySem.Str.ofString "__loader__")) (.str (PySem.Str.ofString "__loader__") 168) (.builtin "__main__.__loader__#opaque")), (@PySem.DictEntry.mk (@PySem.PyData.keyHash P (PySem.Str.ofString "__spec__")) (.str (PySem.Str.ofString "__spec__") 169) PySem.Value.none), (@PySem.DictEntry.mk (@PySem.PyData.keyHash P (PySem.Str.ofString "__annotations__")) (.str (PySem.Str.ofString "__annotations__") 170) (.ref 6)), (@PySem.DictEntry.mk (@PySem.PyData.keyHash P (PySem.Str.ofString "__builtins__")) (.str (PySem.Str.ofString "__builtins__") 171) (.ref 4)), (@PySem.DictEntry.mk (@PySem.PyData.keyHash P (PySem.Str.ofString "__file__")) (.str (PySem.Str.ofString "__file__") 173) (.str (PySem.Str.ofString "/claim/cut.py") 172)), (@PySem.DictEntry.mk (@PySem.PyData.keyHash P (PySem.Str.ofString "__cached__")) (.str (PySem.Str.ofString "__cached__") 174) PySem.Value.none), (@PySem.DictEntry.mk (@PySem.PyData.keyHash P (PySem.Str.ofString "func_std_string")) (.str (PySem.Str.ofString "func_std_string") 196) (.ref 21)), (@PySem.DictEntry.mk (@PySem.PyData.keyHash P (PySem.Str.ofString "add_func_stats")) (.str (PySem.Str.ofString "add_func_stats") 214) (.ref 28)), (@PySem.DictEntry.mk (@PySem.PyData.keyHash P (PySem.Str.ofString "add_callers")) (.str (PySem.Str.ofString "add_callers") 225) (.ref 35)), (@PySem.DictEntry.mk (@PySem.PyData.keyHash P (PySem.Str.ofString "count_calls")) (.str (PySem.Str.ofString "count_calls") 234) (.ref 42)), (@PySem.DictEntry.mk (@PySem.PyData.keyHash P (PySem.Str.ofString "b1_set")) (.str (PySem.Str.ofString "b1_set") 296) (.ref 50)), (@PySem.DictEntry.mk (@PySem.PyData.keyHash P (PySem.Str.ofString "in_table_b1")) (.str (PySem.Str.ofString "in_table_b1") 303) (.ref 60)), (@PySem.DictEntry.mk (@PySem.PyData.keyHash P (PySem.Str.ofString "b3_exceptions")) (.str (PySem.Str.ofString "b3_exceptions") tk) (.ref 61)), (@PySem.DictEntry.mk (@PySem.PyData.keyHash P (PySem.Str.ofString "map_table_b3")) (.str (PySem.Str.ofString "map_table_b3") (tk + 8)) (.ref 106)), (@PySem.DictEntry.mk (@PySem.PyData.keyHash P (PySem.Str.ofString "c6_set")) (.str (PySem.Str.ofString "c6_set") (tk + 22)) (.ref 108)), (@PySem.DictEntry.mk (@PySem.PyData.keyHash P (PySem.Str.ofString "in_table_c6")) (.str (PySem.Str.ofString "in_table_c6") (tk + 29)) (.ref 118)), (@PySem.DictEntry.mk (@PySem.PyData.keyHash P (PySem.Str.ofString "c7_set")) (.str (PySem.Str.ofString "c7_set") (tk + 57)) (.ref 120)), (@PySem.DictEntry.mk (@PySem.PyData.keyHash P (PySem.Str.ofString "in_table_c7")) (.str (PySem.Str.ofString "in_table_c7") (tk + 64)) (.ref 130)), (@PySem.DictEntry.mk (@PySem.PyData.keyHash P (PySem.Str.ofString "c8_set")) (.str (PySem.Str.ofString "c8_set") (tk + 105)) (.ref 144)), (@PySem.DictEntry.mk (@PySem.PyData.keyHash P (PySem.Str.ofString "in_table_c8")) (.str (PySem.Str.ofString "in_table_c8") (tk + 112)) (.ref 154))] 23) #[])
noncomputable def o12v8 (P : Params) (tk tj : Nat) : Obj := (@PySem.Obj.mk PySem.Value.none none (@PySem.Data.fields #[(.int 2 0), (.int 0 0), (.ref 20), (.int 11 0), (.int 0 0), (.ref 27), (.int 15 0), (.int 0 0), (.ref 34), (.int 28 0), (.int 0 0), (.ref 41), (.int 35 0), (.int 0 0), (.ref 59), (.int 38 0), (.int 0 0), (.ref 105), (.int 44 0), (.int 0 0), (.ref 117), (.int 47 0), (.int 0 0), (.ref 129), (.int 50 0), (.int 0 0), (.ref 153)]) #[])
noncomputable def o131v8 (P : Params) (tk tj : Nat) : Obj := (@PySem.Obj.mk (.type "list") none (@PySem.Data.seq #[(.int 832 (tk + 65)), (.int 833 (tk + 66)), (.int 8206 (tk + 67)), (.int 8207 (tk + 68))] 0) #[])
noncomputable def o132v8 (P : Params) (tk tj : Nat) : Obj := (@PySem.Obj.mk (.type "range") none (@PySem.Data.fields #[(.int 8234 (tk + 69)), (.int 8239 (tk + 70)), (.int 1 (tk + 71))]) #[])
noncomputable def o133v8 (P : Params) (tk tj : Nat) : Obj := (@PySem.Obj.mk (.type "list") none (@PySem.Data.seq #[(.int 8234 (tk + 74)), (.int 8235 (tk + 75)), (.int 8236 (tk + 76)), (.int 8237 (tk + 77)), (.int 8238 (tk + 78))] 7) #[])
noncomputable def o134v8 (P : Params) (tk tj : Nat) : Obj := (@PySem.Obj.mk (.type "range_iterator") none (@PySem.Data.fields #[(.int 8239 0), (.int 0 0), (.int 1 0)]) #[])
noncomputable def o135v8 (P : Params) (tk tj : Nat) : Obj := (@PySem.Obj.mk (.type "tuple") none (@PySem.Data.seq #[] 0) #[])
noncomputable def o136v8 (P : Params) (tk tj : Nat) : Obj := (@PySem.Obj.mk (.type "StopIteration") none (@PySem.Data.fields #[(.ref 135), PySem.Value.none, PySem.Value.none, PySem.Value.none, (@PySem.Value.bool @Bool.false), PySem.Value.none]) #[])
noncomputable def o137v8 (P : Params) (tk tj : Nat) : Obj := (@PySem.Obj.mk (.type "list") none (@PySem.Data.seq #[(.int 832 (tk + 65)), (.int 833 (tk + 66)), (.int 8206 (tk + 67)), (.int 8207 (tk + 68)), (.int 8234 (tk + 74)), (.int 8235 (tk + 75)), (.int 8236 (tk + 76)), (.int 8237 (tk + 77)), (.int 8238 (tk + 78))] 0) #[])
noncomputable def o138v8 (P : Params) (tk tj : Nat) : Obj := (@PySem.Obj.mk (.type "range") none (@PySem.Data.fields #[(.int 8298 (tk + 79)), (.int 8304 (tk + 80)), (.int 1 (tk + 81))]) #[])
noncomputable def o139v8 (P : Params) (tk tj : Nat) : Obj := (@PySem.Obj.mk (.type "list") none (@PySem.Data.seq #[(.int 8298 (tk + 84)), (.int 8299 (tk + 85)), (.int 8300 (tk + 86)), (.int 8301 (tk + 87)), (.int 8302 (tk + 88)), (.int 8303 (tk + 89))] 8) #[])
noncomputable def o140v8 (P : Params) (tk tj : Nat) : Obj := (@PySem.Obj.mk (.type "range_iterator") none (@PySem.Data.fields #[(.int 8304 0), (.int 0 0), (.int 1 0)]) #[])
noncomputable def o141v8 (P : Params) (tk tj : Nat) : Obj := (@PySem.Obj.mk (.type "tuple") none (@PySem.Data.seq #[] 0) #[])
noncomputable def o142v8 (P : Params) (tk tj : Nat) : Obj := (@PySem.Obj.mk (.type "StopIteration") none (@PySem.Data.fields #[(.ref 141), PySem.Value.none, PySem.Value.none, PySem.Value.none, (@PySem.Value.bool @Bool.false), PySem.Value.none]) #[])
noncomputable def o143v8 (P : Params) (tk tj : Nat) : Obj := (@PySem.Obj.mk (.type "list") none (@PySem.Data.seq #[(.int 832 (tk + 65)), (.int 833 (tk + 66)), (.int 8206 (tk + 67)), (.int 8207 (tk + 68)), (.int 8234 (tk + 74)), (.int 8235 (tk + 75)), (.int 8236 (tk + 76)), (.int 8237 (tk + 77)), (.int 8238 (tk + 78)), (.int 8298 (tk + 84)), (.int 8299 (tk + 85)), (.int 8300 (tk + 86)), (.int 8301 (tk + 87)), (.int 8302 (tk + 88)), (.int 8303 (tk + 89))] 0) #[])
noncomputable def o144v8 (P : Params) (tk tj : Nat) : Obj := (@PySem.Obj.mk (.type "set") none (@PySem.Data.set #[(832, (.int 832 (tk + 65))), (833, (.int 833 (tk + 66))), (8234, (.int 8234 (tk + 74))), (8235, (.int 8235 (tk + 75))), (8236, (.int 8236 (tk + 76))), (8237, (.int 8237 (tk + 77))), (8206, (.int 8206 (tk + 67))), (8207, (.int 8207 (tk + 68))), (8238, (.int 8238 (tk + 78))), (8298, (.int 8298 (tk + 84))), (8299, (.int 8299 (tk + 85))), (8300, (.int 8300 (tk + 86))), (8301, (.int 8301 (tk + 87))), (8302, (.int 8302 (tk + 88))), (8303, (.int 8303 (tk + 89)))] 16 (@PySem.SetTable.mk 31 #[0, 1, 10, 11, 12, 13, 14, 15, 16, 17, 18, 19, 20, 21, 22] #[] 0 (@Bool.not (@PySem.Params.followText P "set-order")) 1 @Bool.true)) #[])
noncomputable def o145v8 (P : Params) (tk tj : Nat) : Obj := (@PySem.Obj.mk (.type "list_iterator") none (@PySem.Data.fields #[PySem.Value.none, (.int 15 0)]) #[])
noncomputable def o146v8 (P : Params) (tk tj : Nat) : Obj := (@PySem.Obj.mk (.type "tuple") none (@PySem.Data.seq #[] 0) #[])
noncomputable def o147v8 (P : Params) (tk tj : Nat) : Obj := (@PySem.Obj.mk (.type "StopIteration") none (@PySem.Data.fields #[(.ref 146), PySem.Value.none, PySem.Value.none, PySem.Value.none, (@PySem.Value.bool @Bool.false), PySem.Value.none]) #[])
noncomputable def o148v8 (P : Params) (tk tj : Nat) : Obj := (@PySem.Obj.mk (.type "tuple") none (@PySem.Data.seq #[] 0) #[])
noncomputable def o149v8 (P : Params) (tk tj : Nat) : Obj := (@PySem.Obj.mk PySem.Value.none none (@PySem.Data.fields #[]) #[])
noncomputable def o150v8 (P : Params) (tk tj : Nat) : Obj := (@PySem.Obj.mk (.type "tuple") none (@PySem.Data.seq #[(.str (PySem.Str.ofString "code") (tk + 109))] 0) #[])
noncomputable def o151v8 (P : Params) (tk tj : Nat) : Obj := (@PySem.Obj.mk (.type "tuple") none (@PySem.Data.seq #[] 0) #[])
noncomputable def o152v8 (P : Params) (tk tj : Nat) : Obj := PySem.Obj.mk PySem.Value.none none (.func (fnFix 15 (@PySem.FuncData.mk (PySem.Str.ofString "in_table_c8") (PySem.Str.ofString "in_table_c8") (@PySem.Arguments.mk [] [] none [] [] none []) (@PySem.FuncBody.stmts []) (@PySem.Scope.mk @PySem.ScopeKind.function [] @Bool.false @Bool.false []) 0 [] PySem.Value.none PySem.Value.none PySem.Value.none PySem.Value.none none PySem.Value.none PySem.Value.none 0))) #[]
noncomputable def o153v8 (P : Params) (tk tj : Nat) : Obj := PySem.Obj.mk (.type "code") none (.fields #[(.str (PySem.Str.ofString "in_table_c8") (tk + 106)), (.str (PySem.Str.ofString "in_table_c8") (tk + 107)), (.str (PySem.Str.ofString "/claim/cut.py") (tk + 108)), (.int 50 0), (.int 1 0), (.int 0 0), (.int 0 0), (.int 3 0), (.ref 148), (@PySem.Value.bool @Bool.true), (.int 181 0), (.ref 149), PySem.Value.none, (.ref 150), (.ref 151), (.ref 152), (.int (Int.ofNat (tk + 110)) 0), (.int 50 0), (.str (PySem.Str.ofString "/claim/cut.py") (tk + 111))]) #[]
noncomputable def o154v8 (P : Params) (tk tj : Nat) : Obj := PySem.Obj.mk (.type "function") none (.func (fnFix 15 (@PySem.FuncData.mk (PySem.Str.ofString "in_table_c8") (PySem.Str.ofString "in_table_c8") (@PySem.Arguments.mk [] [] none [] [] none []) (@PySem.FuncBody.stmts []) (@PySem.Scope.mk @PySem.ScopeKind.function [] @Bool.false @Bool.false []) 3 [] PySem.Value.none PySem.Value.none PySem.Value.none (.str (PySem.Str.ofString "cpy313.stringprep") 235) none (.ref 153) PySem.Value.none 0))) #[]
noncomputable def T8 (P : Params) (ob : Nat → Obj) (tk tj : Nat) : BT := (.node (boot_o_0 P) (.node (boot_o_1 P) (.node (o3v8 P tk tj) (.node (boot_o_7 P) (.node (o15v2 P tk tj) (.node (o31v2 P tk tj) (.node (ob 63) (.node (o127v7 P tk tj) .nil .nil) .nil) (.node (ob 95) .nil .nil)) (.node (o47v3 P tk tj) (.node (ob 79) (.node (o143v8 P tk tj) .nil .nil) .nil) (.node (o111v6 P tk tj) .nil .nil))) (.node (o23v2 P tk tj) (.node (o39v2 P tk tj) (.node (ob 71) (.node (o135v8 P tk tj) .nil .nil) .nil) (.node (o103v6 P tk tj) .nil .nil)) (.node (o55v3 P tk tj) (.node (ob 87) (.node (o151v8 P tk tj) .nil .nil) .nil) (.node (o119v7 P tk tj) .nil .nil)))) (.node (o11v1 P tk tj) (.node (o19v2 P tk tj) (.node (o35v2 P tk tj) (.node (ob 67) (.node (o131v8 P tk tj) .nil .nil) .nil) (.node (ob 99) .nil .nil)) (.node (o51v3 P tk tj) (.node (ob 83) (.node (o147v8 P tk tj) .nil .nil) .nil) (.node (o115v6 P tk tj) .nil .nil))) (.node (o27v2 P tk tj) (.node (o43v3 P tk tj) (.node (ob 75) (.node (o139v8 P tk tj) .nil .nil) .nil) (.node (o107v6 P tk tj) .nil .nil)) (.node (o59v3 P tk tj) (.node (ob 91) .nil .nil) (.node (o123v7 P tk tj) .nil .nil))))) (.node (boot_o_5 P) (.node (boot_o_9 P) (.node (o17v2 P tk tj) (.node (o33v2 P tk tj) (.node (ob 65) (.node (o129v7 P tk tj) .nil .nil) .nil) (.node (ob 97) .nil .nil)) (.node (o49v3 P tk tj) (.node (ob 81) (.node (o145v8 P tk tj) .nil .nil) .nil) (.node (o113v6 P tk tj) .nil .nil))) (.node (o25v2 P tk tj) (.node (o41v2 P tk tj) (.node (ob 73) (.node (o137v8 P tk tj) .nil .nil) .nil) (.node (o105v6 P tk tj) .nil .nil)) (.node (o57v3 P tk tj) (.node (ob 89) (.node (o153v8 P tk tj) .nil .nil) .nil) (.node (o121v7 P tk tj) .nil .nil)))) (.node (o13v1 P tk tj) (.node (o21v2 P tk tj) (.node (o37v2 P tk tj) (.node (ob 69) (.node (o133v8 P tk tj) .nil .nil) .nil) (.node (o101v6 P tk tj) .nil .nil)) (.node (o53v3 P tk tj) (.node (ob 85) (.node (o149v8 P tk tj) .nil .nil) .nil) (.node (o117v6 P tk tj) .nil .nil))) (.node (o29v2 P tk tj) (.node (o45v3 P tk tj) (.node (ob 77) (.node (o141v8 P tk tj) .nil .nil) .nil) (.node (o109v6 P tk tj) .nil .nil)) (.node (ob 61) (.node (ob 93) .nil .nil) (.node (o125v7 P tk tj) .nil .nil)))))) (.node (boot_o_2 P) (.node (boot_o_4 P) (.node (boot_o_8 P) (.node (o16v2 P tk tj) (.node (o32v2 P tk tj) (.node (ob 64) (.node (o128v7 P tk tj) .nil .nil) .nil) (.node (ob 96) .nil .nil)) (.node (o48v3 P tk tj) (.node (ob 80) (.node (o144v8 P tk tj) .nil .nil) .nil) (.node (o112v6 P tk tj) .nil .nil))) (.node (o24v2 P tk tj) (.node (o40v2 P tk tj) (.node (ob 72) (.node (o136v8 P tk tj) .nil .nil) .nil) (.node (o104v6 P tk tj) .nil .nil)) (.node (o56v3 P tk tj) (.node (ob 88) (.node (o152v8 P tk tj) .nil .nil) .nil) (.node (o120v7 P tk tj) .nil .nil)))) (.node (o12v8 P tk tj) (.node (o20v2 P tk tj) (.node (o36v2 P tk tj) (.node (ob 68) (.node (o132v8 P tk tj) .nil .nil) .nil) (.node (o100v6 P tk tj) .nil .nil)) (.node (o52v3 P tk tj) (.node (ob 84) (.node (o148v8 P tk tj) .nil .nil) .nil) (.node (o116v6 P tk tj) .nil .nil))) (.node (o28v2 P tk tj) (.node (o44v3 P tk tj) (.node (ob 76) (.node (o140v8 P tk tj) .nil .nil) .nil) (.node (o108v6 P tk tj) .nil .nil)) (.node (o60v3 P tk tj) (.node (ob 92) .nil .nil) (.node (o124v7 P tk tj) .nil .nil))))) (.node (boot_o_6 P) (.node (boot_o_10 P) (.node (o18v2 P tk tj) (.node (o34v2 P tk tj) (.node (ob 66) (.node (o130v7 P tk tj) .nil .nil) .nil) (.node (ob 98) .nil .nil)) (.node (o50v3 P tk tj) (.node (ob 82) (.node (o146v8 P tk tj) .nil .nil) .nil) (.node (o114v6 P tk tj) .nil .nil))) (.node (o26v2 P tk tj) (.node (o42v2 P tk tj) (.node (ob 74) (.node (o138v8 P tk tj) .nil .nil) .nil) (.node (o106v6 P tk tj) .nil .nil)) (.node (o58v3 P tk tj) (.node (ob 90) (.node (o154v8 P tk tj) .nil .nil) .nil) (.node (o122v7 P tk tj) .nil .nil)))) (.node (o14v1 P tk tj) (.node (o22v2 P tk tj) (.node (o38v2 P tk tj) (.node (ob 70) (.node (o134v8 P tk tj) .nil .nil) .nil) (.node (o102v6 P tk tj) .nil .nil)) (.node (o54v3 P tk tj) (.node (ob 86) (.node (o150v8 P tk tj) .nil .nil) .nil) (.node (o118v6 P tk tj) .nil .nil))) (.node (o30v2 P tk tj) (.node (o46v3 P tk tj) (.node (ob 78) (.node (o142v8 P tk tj) .nil .nil) .nil) (.node (o110v6 P tk tj) .nil .nil)) (.node (ob 62) (.node (ob 94) .nil .nil) (.node (o126v7 P tk tj) .nil .nil)))))))
noncomputable def S8 (w : World) (os : OsState) (ob : Nat → Obj) (tk tj : Nat) : SharedT := ⟨T8 w.params ob tk tj, 155, (@PySem.Life.mk [] [] [] 0 [] [] @Bool.false #[] [] 0 @Bool.false @Bool.false @Bool.false 0 [2000, 10, 10] @Bool.false 0 @Bool.true [] [] 0 @Bool.false), #[], boot_drawn, (tk + 113), os⟩
noncomputable def o155v9 (P : Params) (tk tj : Nat) : Obj := (@PySem.Obj.mk (.type "list") none (@PySem.Data.seq #[(.int 917505 (tk + 113))] 0) #[])
noncomputable def o156v9 (P : Params) (tk tj : Nat) : Obj := (@PySem.Obj.mk (.type "range") none (@PySem.Data.fields #[(.int 917536 (tk + 114)), (.int 917632 (tk + 115)), (.int 1 (tk + 116))]) #[])
noncomputable def o157v9 (P : Params) (tk tj : Nat) : Obj := (@PySem.Obj.mk (.type "list") none (@PySem.Data.seq #[(.int 917536 (tk + 119)), (.int 917537 (tk + 120)), (.int 917538 (tk + 121)), (.int 917539 (tk + 122)), (.int 917540 (tk + 123)), (.int 917541 (tk + 124)), (.int 917542 (tk + 125)), (.int 917543 (tk + 126)), (.int 917544 (tk + 127)), (.int 917545 (tk + 128)), (.int 917546 (tk + 129)), (.int 917547 (tk + 130)), (.int 917548 (tk + 131)), (.int 917549 (tk + 132)), (.int 917550 (tk + 133)), (.int 917551 (tk + 134)), (.int 917552 (tk + 135)), (.int 917553 (tk + 136)), (.int 917554 (tk + 137)), (.int 917555 (tk + 138)), (.int 917556 (tk + 139)), (.int 917557 (tk + 140)), (.int 917558 (tk + 141)), (.int 917559 (tk + 142)), (.int 917560 (tk + 143)), (.int 917561 (tk + 144)), (.int 917562 (tk + 145)), (.int 917563 (tk + 146)), (.int 917564 (tk + 147)), (.int 917565 (tk + 148)), (.int 917566 (tk + 149)), (.int 917567 (tk + 150)), (.int 917568 (tk + 151)), (.int 917569 (tk + 152)), (.int 917570 (tk + 153)), (.int 917571 (tk + 154)), (.int 917572 (tk + 155)), (.int 917573 (tk + 156)), (.int 917574 (tk + 157)), (.int 917575 (tk + 158)), (.int 917576 (tk + 159)), (.int 917577 (tk + 160)), (.int 917578 (tk + 161)), (.int 917579 (tk + 162)), (.int 917580 (tk + 163)), (.int 917581 (tk + 164)), (.int 917582 (tk + 165)), (.int 917583 (tk + 166)), (.int 917584 (tk + 167)), (.int 917585 (tk + 168)), (.int 917586 (tk + 169)), (.int 917587 (tk + 170)), (.int 917588 (tk + 171)), (.int 917589 (tk + 172)), (.int 917590 (tk + 173)), (.int 917591 (tk + 174)), (.int 917592 (tk + 175)), (.int 917593 (tk + 176)), (.int 917594 (tk + 177)), (.int 917595 (tk + 178)), (.int 917596 (tk + 179)), (.int 917597 (tk + 180)), (.int 917598 (tk + 181)), (.int 917599 (tk + 182)), (.int 917600 (tk + 183)), (.int 917601 (tk + 184)), (.int 917602 (tk + 185)), (.int 917603 (tk + 186)), (.int 917604 (tk + 187)), (.int 917605 (tk + 188)), (.int 917606 (tk + 189)), (.int 917607 (tk + 190)), (.int 917608 (tk + 191)), (.int 917609 (tk + 192)), (.int 917610 (tk + 193)), (.int 917611 (tk + 194)), (.int 917612 (tk + 195)), (.int 917613 (tk + 196)), (.int 917614 (tk + 197)), (.int 917615 (tk + 198)), (.int 917616 (tk + 199)), (.int 917617 (tk + 200)), (.int 917618 (tk + 201)), (.int 917619 (tk + 202)), (.int 917620 (tk + 203)), (.int 917621 (tk + 204)), (.int 917622 (tk + 205)), (.int 917623 (tk + 206)), (.int 917624 (tk + 207)), (.int 917625 (tk + 208)), (.int 917626 (tk + 209)), (.int 917627 (tk + 210)), (.int 917628 (tk + 211)), (.int 917629 (tk + 212)), (.int 917630 (tk + 213)), (.int 917631 (tk + 214))] 98) #[])
noncomputable def o158v9 (P : Params) (tk tj : Nat) : Obj := (@PySem.Obj.mk (.type "range_iterator") none (@PySem.Data.fields #[(.int 917632 0), (.int 0 0), (.int 1 0)]) #[])
noncomputable def o159v9 (P : Params) (tk tj : Nat) : Obj := (@PySem.Obj.mk (.type "tuple") none (@PySem.Data.seq #[] 0) #[])
noncomputable def o160v9 (P : Params) (tk tj : Nat) : Obj := (@PySem.Obj.mk (.type "StopIteration") none (@PySem.Data.fields #[(.ref 159), PySem.Value.none, PySem.Value.none, PySem.Value.none, (@PySem.Value.bool @Bool.false), PySem.Value.none]) #[])
noncomputable def o161v9 (P : Params) (tk tj : Nat) : Obj := (@PySem.Obj.mk (.type "list") none (@PySem.Data.seq #[(.int 917505 (tk + 113)), (.int 917536 (tk + 119)), (.int 917537 (tk + 120)), (.int 917538 (tk + 121)), (.int 917539 (tk + 122)), (.int 917540 (tk + 123)), (.int 917541 (tk + 124)), (.int 917542 (tk + 125)), (.int 917543 (tk + 126)), (.int 917544 (tk + 127)), (.int 917545 (tk + 128)), (.int 917546 (tk + 129)), (.int 917547 (tk + 130)), (.int 917548 (tk + 131)), (.int 917549 (tk + 132)), (.int 917550 (tk + 133)), (.int 917551 (tk + 134)), (.int 917552 (tk + 135)), (.int 917553 (tk + 136)), (.int 917554 (tk + 137)), (.int 917555 (tk + 138)), (.int 917556 (tk + 139)), (.int 917557 (tk + 140)), (.int 917558 (tk + 141)), (.int 917559 (tk + 142)), (.int 917560 (tk + 143)), (.int 917561 (tk + 144)), (.int 917562 (tk + 145)), (.int 917563 (tk + 146)), (.int 917564 (tk + 147)), (.int 917565 (tk + 148)), (.int 917566 (tk + 149)), (.int 917567 (tk + 150)), (.int 917568 (tk + 151)), (.int 917569 (tk + 152)), (.int 917570 (tk + 153)), (.int 917571 (tk + 154)), (.int 917572 (tk + 155)), (.int 917573 (tk + 156)), (.int 917574 (tk + 157)), (.int 917575 (tk + 158)), (.int 917576 (tk + 159)), (.int 917577 (tk + 160)), (.int 917578 (tk + 161)), (.int 917579 (tk + 162)), (.int 917580 (tk + 163)), (.int 917581 (tk + 164)), (.int 917582 (tk + 165)), (.int 917583 (tk + 166)), (.int 917584 (tk + 167)), (.int 917585 (tk + 168)), (.int 917586 (tk + 169)), (.int 917587 (tk + 170)), (.int 917588 (tk + 171)), (.int 917589 (tk + 172)), (.int 917590 (tk + 173)), (.int 917591 (tk + 174)), (.int 917592 (tk + 175)), (.int 917593 (tk + 176)), (.int 917594 (tk + 177)), (.int 917595 (tk + 178)), (.int 917596 (tk + 179)), (.int 917597 (tk + 180)), (.int 917598 (tk + 181)), (.int 917599 (tk + 182)), (.int 917600 (tk + 183)), (.int 917601 (tk + 184)), (.int 917602 (tk + 185)), (.int 917603 (tk + 186)), (.int 917604 (tk + 187)), (.int 917605 (tk + 188)), (.int 917606 (tk + 189)), (.int 917607 (tk + 190)), (.int 917608 (tk + 191)), (.int 917609 (tk + 192)), (.int 917610 (tk + 193)), (.int 917611 (tk + 194)), (.int 917612 (tk + 195)), (.int 917613 (tk + 196)), (.int 917614 (tk + 197)), (.int 917615 (tk + 198)), (.int 917616 (tk + 199)), (.int 917617 (tk + 200)), (.int 917618 (tk + 201)), (.int 917619 (tk + 202)), (.int 917620 (tk + 203)), (.int 917621 (tk + 204)), (.int 917622 (tk + 205)), (.int 917623 (tk + 206)), (.int 917624 (tk + 207)), (.int 917625 (tk + 208)), (.int 917626 (tk + 209)), (.int 917627 (tk + 210)), (.int 917628 (tk + 211)), (.int 917629 (tk + 212)), (.int 917630 (tk + 213)), (.int 917631 (tk + 214))] 0) #[])
noncomputable def T9 (P : Params) (ob : Nat → Obj) (tk tj : Nat) : BT := (.node (boot_o_0 P) (.node (boot_o_1 P) (.node (o3v8 P tk tj) (.node (boot_o_7 P) (.node (o15v2 P tk tj) (.node (o31v2 P tk tj) (.node (ob 63) (.node (o127v7 P tk tj) .nil .nil) .nil) (.node (ob 95) (.node (o159v9 P tk tj) .nil .nil) .nil)) (.node (o47v3 P tk tj) (.node (ob 79) (.node (o143v8 P tk tj) .nil .nil) .nil) (.node (o111v6 P tk tj) .nil .nil))) (.node (o23v2 P tk tj) (.node (o39v2 P tk tj) (.node (ob 71) (.node (o135v8 P tk tj) .nil .nil) .nil) (.node (o103v6 P tk tj) .nil .nil)) (.node (o55v3 P tk tj) (.node (ob 87) (.node (o151v8 P tk tj) .nil .nil) .nil) (.node (o119v7 P tk tj) .nil .nil)))) (.node (o11v1 P tk tj) (.node (o19v2 P tk tj) (.node (o35v2 P tk tj) (.node (ob 67) (.node (o131v8 P tk tj) .nil .nil) .nil) (.node (ob 99) .nil .nil)) (.node (o51v3 P tk tj) (.node (ob 83) (.node (o147v8 P tk tj) .nil .nil) .nil) (.node (o115v6 P tk tj) .nil .nil))) (.node (o27v2 P tk tj) (.node (o43v3 P tk tj) (.node (ob 75) (.node (o139v8 P tk tj) .nil .nil) .nil) (.node (o107v6 P tk tj) .nil .nil)) (.node (o59v3 P tk tj) (.node (ob 91) (.node (o155v9 P tk tj) .nil .nil) .nil) (.node (o123v7 P tk tj) .nil .nil))))) (.node (boot_o_5 P) (.node (boot_o_9 P) (.node (o17v2 P tk tj) (.node (o33v2 P tk tj) (.node (ob 65) (.node (o129v7 P tk tj) .nil .nil) .nil) (.node (ob 97) (.node (o161v9 P tk tj) .nil .nil) .nil)) (.node (o49v3 P tk tj) (.node (ob 81) (.node (o145v8 P tk tj) .nil .nil) .nil) (.node (o113v6 P tk tj) .nil .nil))) (.node (o25v2 P tk tj) (.node (o41v2 P tk tj) (.node (ob 73) (.node (o137v8 P tk tj) .nil .nil) .nil) (.node (o105v6 P tk tj) .nil .nil)) (.node (o57v3 P tk tj) (.node (ob 89) (.node (o153v8 P tk tj) .nil .nil) .nil) (.node (o121v7 P tk tj) .nil .nil)))) (.node (o13v1 P tk tj) (.node (o21v2 P tk tj) (.node (o37v2 P tk tj) (.node (ob 69) (.node (o133v8 P tk tj) .nil .nil) .nil) (.node (o101v6 P tk tj) .nil .nil)) (.node (o53v3 P tk tj) (.node (ob 85) (.node (o149v8 P tk tj) .nil .nil) .nil) (.node (o117v6 P tk tj) .nil .nil))) (.node (o29v2 P tk tj) (.node (o45v3 P tk tj) (.node (ob 77) (.node (o141v8 P tk tj) .nil .nil) .nil) (.node (o109v6 P tk tj) .nil .nil)) (.node (ob 61) (.node (ob 93) (.node (o157v9 P tk tj) .nil .nil) .nil) (.node (o125v7 P tk tj) .nil .nil)))))) (.node (boot_o_2 P) (.node (boot_o_4 P) (.node (boot_o_8 P) (.node (o16v2 P tk tj) (.node (o32v2 P tk tj) (.node (ob 64) (.node (o128v7 P tk tj) .nil .nil) .nil) (.node (ob 96) (.node (o160v9 P tk tj) .nil .nil) .nil)) (.node (o48v3 P tk tj) (.node (ob 80) (.node (o144v8 P tk tj) .nil .nil) .nil) (.node (o112v6 P tk tj) .nil .nil))) (.node (o24v2 P tk tj) (.node (o40v2 P tk tj) (.node (ob 72) (.node (o136v8 P tk tj) .nil .nil) .nil) (.node (o104v6 P tk tj) .nil .nil)) (.node (o56v3 P tk tj) (.node (ob 88) (.node (o152v8 P tk tj) .nil .nil) .nil) (.node (o120v7 P tk tj) .nil .nil)))) (.node (o12v8 P tk tj) (.node (o20v2 P tk tj) (.node (o36v2 P tk tj) (.node (ob 68) (.node (o132v8 P tk tj) .nil .nil) .nil) (.node (o100v6 P tk tj) .nil .nil)) (.node (o52v3 P tk tj) (.node (ob 84) (.node (o148v8 P tk tj) .nil .nil) .nil) (.node (o116v6 P tk tj) .nil .nil))) (.node (o28v2 P tk tj) (.node (o44v3 P tk tj) (.node (ob 76) (.node (o140v8 P tk tj) .nil .nil) .nil) (.node (o108v6 P tk tj) .nil .nil)) (.node (o60v3 P tk tj) (.node (ob 92) (.node (o156v9 P tk tj) .nil .nil) .nil) (.node (o124v7 P tk tj) .nil .nil))))) (.node (boot_o_6 P) (.node (boot_o_10 P) (.node (o18v2 P tk tj) (.node (o34v2 P tk tj) (.node (ob 66) (.node (o130v7 P tk tj) .nil .nil) .nil) (.node (ob 98) .nil .nil)) (.node (o50v3 P tk tj) (.node (ob 82) (.node (o146v8 P tk tj) .nil .nil) .nil) (.node (o114v6 P tk tj) .nil .nil))) (.node (o26v2 P tk tj) (.node (o42v2 P tk tj) (.node (ob 74) (.node (o138v8 P tk tj) .nil .nil) .nil) (.node (o106v6 P tk tj) .nil .nil)) (.node (o58v3 P tk tj) (.node (ob 90) (.node (o154v8 P tk tj) .nil .nil) .nil) (.node (o122v7 P tk tj) .nil .nil)))) (.node (o14v1 P tk tj) (.node (o22v2 P tk tj) (.node (o38v2 P tk tj) (.node (ob 70) (.node (o134v8 P tk tj) .nil .nil) .nil) (.node (o102v6 P tk tj) .nil .nil)) (.node (o54v3 P tk tj) (.node (ob 86) (.node (o150v8 P tk tj) .nil .nil) .nil) (.node (o118v6 P tk tj) .nil .nil))) (.node (o30v2 P tk tj) (.node (o46v3 P tk tj) (.node (ob 78) (.node (o142v8 P tk tj) .nil .nil) .nil) (.node (o110v6 P tk tj) .nil .nil)) (.node (ob 62) (.node (ob 94) (.node (o158v9 P tk tj) .nil .nil) .nil) (.node (o126v7 P tk tj) .nil .nil)))))))
noncomputable def S9 (w : World) (os : OsState) (ob : Nat → Obj) (tk tj : Nat) : SharedT := ⟨T9 w.params ob tk tj, 162, (@PySem.Life.mk [] [] [] 0 [] [] @Bool.false #[] [] 0 @Bool.false @Bool.false @Bool.false 0 [2000, 10, 10] @Bool.false 0 @Bool.true [] [] 0 @Bool.false), #[], boot_drawn, (tk + 215), os⟩
noncomputable def T10 (P : Params) (ob : Nat → Obj) (tk tj : Nat) : BT := (.node (boot_o_0 P) (.node (boot_o_1 P) (.node (o3v8 P tk tj) (.node (boot_o_7 P) (.node (o15v2 P tk tj) (.node (o31v2 P tk tj) (.node (ob 63) (.node (o127v7 P tk tj) .nil .nil) .nil) (.node (ob 95) (.node (o159v9 P tk tj) .nil .nil) .nil)) (.node (o47v3 P tk tj) (.node (ob 79) (.node (o143v8 P tk tj) .nil .nil) .nil) (.node (o111v6 P tk tj) .nil .nil))) (.node (o23v2 P tk tj) (.node (o39v2 P tk tj) (.node (ob 71) (.node (o135v8 P tk tj) .nil .nil) .nil) (.node (o103v6 P tk tj) .nil .nil)) (.node (o55v3 P tk tj) (.node (ob 87) (.node (o151v8 P tk tj) .nil .nil) .nil) (.node (o119v7 P tk tj) .nil .nil)))) (.node (o11v1 P tk tj) (.node (o19v2 P tk tj) (.node (o35v2 P tk tj) (.node (ob 67) (.node (o131v8 P tk tj) .nil .nil) .nil) (.node (ob 99) (.node (ob 163) .nil .nil) .nil)) (.node (o51v3 P tk tj) (.node (ob 83) (.node (o147v8 P tk tj) .nil .nil) .nil) (.node (o115v6 P tk tj) .nil .nil))) (.node (o27v2 P tk tj) (.node (o43v3 P tk tj) (.node (ob 75) (.node (o139v8 P tk tj) .nil .nil) .nil) (.node (o107v6 P tk tj) .nil .nil)) (.node (o59v3 P tk tj) (.node (ob 91) (.node (o155v9 P tk tj) .nil .nil) .nil) (.node (o123v7 P tk tj) .nil .nil))))) (.node (boot_o_5 P) (.node (boot_o_9 P) (.node (o17v2 P tk tj) (.node (o33v2 P tk tj) (.node (ob 65) (.node (o129v7 P tk tj) .nil .nil) .nil) (.node (ob 97) (.node (o161v9 P tk tj) .nil .nil) .nil)) (.node (o49v3 P tk tj) (.node (ob 81) (.node (o145v8 P tk tj) .nil .nil) .nil) (.node (o113v6 P tk tj) .nil .nil))) (.node (o25v2 P tk tj) (.node (o41v2 P tk tj) (.node (ob 73) (.node (o137v8 P tk tj) .nil .nil) .nil) (.node (o105v6 P tk tj) .nil .nil)) (.node (o57v3 P tk tj) (.node (ob 89) (.node (o153v8 P tk tj) .nil .nil) .nil) (.node (o121v7 P tk tj) .nil .nil)))) (.node (o13v1 P tk tj) (.node (o21v2 P tk tj) (.node (o37v2 P tk tj) (.node (ob 69) (.node (o133v8 P tk tj) .nil .nil) .nil) (.node (o101v6 P tk tj) (.node (ob 165) .nil .nil) .nil)) (.node (o53v3 P tk tj) (.node (ob 85) (.node (o149v8 P tk tj) .nil .nil) .nil) (.node (o117v6 P tk tj) .nil .nil))) (.node (o29v2 P tk tj) (.node (o45v3 P tk tj) (.node (ob 77) (.node (o141v8 P tk tj) .nil .nil) .nil) (.node (o109v6 P tk tj) .nil .nil)) (.node (ob 61) (.node (ob 93) (.node (o157v9 P tk tj) .nil .nil) .nil) (.node (o125v7 P tk tj) .nil .nil)))))) (.node (boot_o_2 P) (.node (boot_o_4 P) (.node (boot_o_8 P) (.node (o16v2 P tk tj) (.node (o32v2 P tk tj) (.node (ob 64) (.node (o128v7 P tk tj) .nil .nil) .nil) (.node (ob 96) (.node (o160v9 P tk tj) .nil .nil) .nil)) (.node (o48v3 P tk tj) (.node (ob 80) (.node (o144v8 P tk tj) .nil .nil) .nil) (.node (o112v6 P tk tj) .nil .nil))) (.node (o24v2 P tk tj) (.node (o40v2 P tk tj) (.node (ob 72) (.node (o136v8 P tk tj) .nil .nil) .nil) (.node (o104v6 P tk tj) .nil .nil)) (.node (o56v3 P tk tj) (.node (ob 88) (.node (o152v8 P tk tj) .nil .nil) .nil) (.node (o120v7 P tk tj) .nil .nil)))) (.node (o12v8 P tk tj) (.node (o20v2 P tk tj) (.node (o36v2 P tk tj) (.node (ob 68) (.node (o132v8 P tk tj) .nil .nil) .nil) (.node (o100v6 P tk tj) (.node (ob 164) .nil .nil) .nil)) (.node (o52v3 P tk tj) (.node (ob 84) (.node (o148v8 P tk tj) .nil .nil) .nil) (.node (o116v6 P tk tj) .nil .nil))) (.node (o28v2 P tk tj) (.node (o44v3 P tk tj) (.node (ob 76) (.node (o140v8 P tk tj) .nil .nil) .nil) (.node (o108v6 P tk tj) .nil .nil)) (.node (o60v3 P tk tj) (.node (ob 92) (.node (o156v9 P tk tj) .nil .nil) .nil) (.node (o124v7 P tk tj) .nil .nil))))) (.node (boot_o_6 P) (.node (boot_o_10 P) (.node (o18v2 P tk tj) (.node (o34v2 P tk tj) (.node (ob 66) (.node (o130v7 P tk tj) .nil .nil) .nil) (.node (ob 98) (.node (ob 162) .nil .nil) .nil)) (.node (o50v3 P tk tj) (.node (ob 82) (.node (o146v8 P tk tj) .nil .nil) .nil) (.node (o114v6 P tk tj) .nil .nil))) (.node (o26v2 P tk tj) (.node (o42v2 P tk tj) (.node (ob 74) (.node (o138v8 P tk tj) .nil .nil) .nil) (.node (o106v6 P tk tj) .nil .nil)) (.node (o58v3 P tk tj) (.node (ob 90) (.node (o154v8 P tk tj) .nil .nil) .nil) (.node (o122v7 P tk tj) .nil .nil)))) (.node (o14v1 P tk tj) (.node (o22v2 P tk tj) (.node (o38v2 P tk tj) (.node (ob 70) (.node (o134v8 P tk tj) .nil .nil) .nil) (.node (o102v6 P tk tj) .nil .nil)) (.node (o54v3 P tk tj) (.node (ob 86) (.node (o150v8 P tk tj) .nil .nil) .nil) (.node (o118v6 P tk tj) .nil .nil))) (.node (o30v2 P tk tj) (.node (o46v3 P tk tj) (.node (ob 78) (.node (o142v8 P tk tj) .nil .nil) .nil) (.node (o110v6 P tk tj) .nil .nil)) (.node (ob 62) (.node (ob 94) (.node (o158v9 P tk tj) .nil .nil) .nil) (.node (o126v7 P tk tj) .nil .nil)))))))
noncomputable def S10 (w : World) (os : OsState) (ob : Nat → Obj) (tk tj : Nat) : SharedT := ⟨T10 w.params ob tk tj, 166, (@PySem.Life.mk [] [] [] 0 [] [] @Bool.false #[] [] 0 @Bool.false @Bool.false @Bool.false 0 [2000, 10, 10] @Bool.false 0 @Bool.true [] [] 0 @Bool.false), #[], boot_drawn, tj, os⟩
noncomputable def o3v11 (P : Params) (tk tj : Nat) : Obj := (@PySem.Obj.mk (.type "dict") none (@PySem.Data.dict #[(@PySem.DictEntry.mk (@PySem.PyData.keyHash P (PySem.Str.ofString "__name__")) (.str (PySem.Str.ofString "__name__") 165) (.str (PySem.Str.ofString "cpy313.stringprep") 235)), (@PySem.DictEntry.mk (@PySem.PyData.keyHash P (PySem.Str.ofString "__doc__")) (.str (PySem.Str.ofString "__doc__") 166) PySem.Value.none), (@PySem.DictEntry.mk (@PySem.PyData.keyHash P (PySem.Str.ofString "__package__")) (.str (PySem.Str.ofString "__package__") 167) PySem.Value.none), (@PySem.DictEntry.mk (@PySem.PyData.keyHash P (PySem.Str.ofString "__loader__")) (.str (PySem.Str.ofString "__loader__") 168) (.builtin "__main__.__loader__#opaque")), (@PySem.DictEntry.mk (@PySem.PyData.keyHash P (PySem.Str.ofString "__spec__")) (.str (PySem.Str.ofString "__spec__") 169) PySem.Value.none), (@PySem.DictEntry.mk (@PySem.PyData.keyHash P (PySem.Str.ofString "__annotations__")) (.str (PySem.Str.ofString "__annotations__") 170) (.ref 6)), (@PySem.DictEntry.mk (@PySem.PyData.keyHash P (PySem.Str.ofString "__builtins__")) (.str (PySem.Str.ofString "__builtins__") 171) (.ref 4)), (@PySem.DictEntry.mk (@PySem.PyData.keyHash P (PySem.Str.ofString "__file__")) (.str (PySem.Str.ofString "__file__") 173) (.str (PySem.Str.ofString "/claim/cut.py") 172)), (@PySem.DictEntry.mk (@PySem.PyData.keyHash P (PySem.Str.ofString "__cached__")) (.str (PySem.Str.ofString "__cached__") 174) PySem.Value.none), (@PySem.DictEntry.mk (@PySem.PyData.keyHash P (PySem.Str.ofString "func_std_string")) (.str (PySem.Str.ofString "func_std_string") 196) (.ref 21)), (@PySem.DictEntry.mk (@PySem.PyData.keyHash P (PySem.Str.ofString "add_func_stats")) (.str (PySem.Str.ofString "add_func_stats") 214) (.ref 28)), (@PySem.DictEntry.mk (@PySem.PyData.keyHash P (PySem.Str.ofString "add_callers")) (.str (PySem.Str.ofString "add_callers") 225) (.ref 35)), (@PySem.DictEntry.mk (@PySem.PyData.keyHash P (PySem.Str.ofString "count_calls")) (.str (PySem.Str.ofString "count_calls") 234) (.ref 42)), (@PySem.DictEntry.mk (@PySem.PyData.keyHash P (PySem.Str.ofString "b1_set")) (.str (PySem.Str.ofString "b1_set") 296) (.ref 50)), (@PySem.DictEntry.mk (@PySem.PyData.keyHash P (PySem.Str.ofString "in_table_b1")) (.str (PySem.Str.ofString "in_table_b1") 303) (.ref 60)), (@PySem.DictEntry.mk (@PySem.PyData.keyHash P (PySem.Str.ofString "b3_exceptions")) (.str (PySem.Str.ofString "b3_exceptions") tk) (.ref 61)), (@PySem.DictEntry.mk (@PySem.PyData.keyHash P (PySem.Str.ofString "map_table_b3")) (.str (PySem.Str.ofString "map_table_b3") (tk + 8)) (.ref 106)), (@PySem.DictEntry.mk (@PySem.PyData.keyHash P (PySem.Str.ofString "c6_set")) (.str (PySem.Str.ofString "c6_set") (tk + 22)) (.ref 108)), (@PySem.DictEntry.mk (@PySem.PyData.keyHash P (PySem.Str.ofString "in_table_c6")) (.str (PySem.Str.ofString "in_table_c6") (tk + 29)) (.ref 118)), (@PySem.DictEntry.mk (@PySem.PyData.keyHash P (PySem.Str.ofString "c7_set")) (.str (PySem.Str.ofString "c7_set") (tk + 57)) (.ref 120)), (@PySem.DictEntry.mk (@PySem.PyData.keyHash P (PySem.Str.ofString "in_table_c7")) (.str (PySem.Str.ofString "in_table_c7") (tk + 64)) (.ref 130)), (@PySem.DictEntry.mk (@PySem.PyData.keyHash P (PySem.Str.ofString "c8_set")) (.str (PySem.Str.ofString "c8_set") (tk + 105)) (.ref 144)), (@PySem.DictEntry.mk (@PySem.PyData.keyHash P (PySem.Str.ofString "in_table_c8")) (.str (PySem.Str.ofString "in_table_c8") (tk + 112)) (.ref 154)), (@PySem.DictEntry.mk (@PySem.PyData.keyHash P (PySem.Str.ofString "c9_set")) (.str (PySem.Str.ofString "c9_set") tj) (.ref 162))] 24) #[])
noncomputable def T11 (P : Params) (ob : Nat → Obj) (tk tj : Nat) : BT := (.node (boot_o_0 P) (.node (boot_o_1 P) (.node (o3v11 P tk tj) (.node (boot_o_7 P) (.node (o15v2 P tk tj) (.node (o31v2 P tk tj) (.node (ob 63) (.node (o127v7 P tk tj) .nil .nil) .nil) (.node (ob 95) (.node (o159v9 P tk tj) .nil .nil) .nil)) (.node (o47v3 P tk tj) (.node (ob 79) (.node (o143v8 P tk tj) .nil .nil) .nil) (.node (o111v6 P tk tj) .nil .nil))) (.node (o23v2 P tk tj) (.node (o39v2 P tk tj) (.node (ob 71) (.node (o135v8 P tk tj) .nil .nil) .nil) (.node (o103v6 P tk tj) .nil .nil)) (.node (o55v3 P tk tj) (.node (ob 87) (.node (o151v8 P tk tj) .nil .nil) .nil) (.node (o119v7 P tk tj) .nil .nil)))) (.node (o11v1 P tk tj) (.node (o19v2 P tk tj) (.node (o35v2 P tk tj) (.node (ob 67) (.node (o131v8 P tk tj) .nil .nil) .nil) (.node (ob 99) (.node (ob 163) .nil .nil) .nil)) (.node (o51v3 P tk tj) (.node (ob 83) (.node (o147v8 P tk tj) .nil .nil) .nil) (.node (o115v6 P tk tj) .nil .nil))) (.node (o27v2 P tk tj) (.node (o43v3 P tk tj) (.node (ob 75) (.node (o139v8 P tk tj) .nil .nil) .nil) (.node (o107v6 P tk tj) .nil .nil)) (.node (o59v3 P tk tj) (.node (ob 91) (.node (o155v9 P tk tj) .nil .nil) .nil) (.node (o123v7 P tk tj) .nil .nil))))) (.node (boot_o_5 P) (.node (boot_o_9 P) (.node (o17v2 P tk tj) (.node (o33v2 P tk tj) (.node (ob 65) (.node (o129v7 P tk tj) .nil .nil) .nil) (.node (ob 97) (.node (o161v9 P tk tj) .nil .nil) .nil)) (.node (o49v3 P tk tj) (.node (ob 81) (.node (o145v8 P tk tj) .nil .nil) .nil) (.node (o113v6 P tk tj) .nil .nil))) (.node (o25v2 P tk tj) (.node (o41v2 P tk tj) (.node (ob 73) (.node (o137v8 P tk tj) .nil .nil) .nil) (.node (o105v6 P tk tj) .nil .nil)) (.node (o57v3 P tk tj) (.node (ob 89) (.node (o153v8 P tk tj) .nil .nil) .nil) (.node (o121v7 P tk tj) .nil .nil)))) (.node (o13v1 P tk tj) (.node (o21v2 P tk tj) (.node (o37v2 P tk tj) (.node (ob 69) (.node (o133v8 P tk tj) .nil .nil) .nil) (.node (o101v6 P tk tj) (.node (ob 165) .nil .nil) .nil)) (.node (o53v3 P tk tj) (.node (ob 85) (.node (o149v8 P tk tj) .nil .nil) .nil) (.node (o117v6 P tk tj) .nil .nil))) (.node (o29v2 P tk tj) (.node (o45v3 P tk tj) (.node (ob 77) (.node (o141v8 P tk tj) .nil .nil) .nil) (.node (o109v6 P tk tj) .nil .nil)) (.node (ob 61) (.node (ob 93) (.node (o157v9 P tk tj) .nil .nil) .nil) (.node (o125v7 P tk tj) .nil .nil)))))) (.node (boot_o_2 P) (.node (boot_o_4 P) (.node (boot_o_8 P) (.node (o16v2 P tk tj) (.node (o32v2 P tk tj) (.node (ob 64) (.node (o128v7 P tk tj) .nil .nil) .nil) (.node (ob 96) (.node (o160v9 P tk tj) .nil .nil) .nil)) (.node (o48v3 P tk tj) (.node (ob 80) (.node (o144v8 P tk tj) .nil .nil) .nil) (.node (o112v6 P tk tj) .nil .nil))) (.node (o24v2 P tk tj) (.node (o40v2 P tk tj) (.node (ob 72) (.node (o136v8 P tk tj) .nil .nil) .nil) (.node (o104v6 P tk tj) .nil .nil)) (.node (o56v3 P tk tj) (.node (ob 88) (.node (o152v8 P tk tj) .nil .nil) .nil) (.node (o120v7 P tk tj) .nil .nil)))) (.node (o12v8 P tk tj) (.node (o20v2 P tk tj) (.node (o36v2 P tk tj) (.node (ob 68) (.node (o132v8 P tk tj) .nil .nil) .nil) (.node (o100v6 P tk tj) (.node (ob 164) .nil .nil) .nil)) (.node (o52v3 P tk tj) (.node (ob 84) (.node (o148v8 P tk tj) .nil .nil) .nil) (.node (o116v6 P tk tj) .nil .nil))) (.node (o28v2 P tk tj) (.node (o44v3 P tk tj) (.node (ob 76) (.node (o140v8 P tk tj) .nil .nil) .nil) (.node (o108v6 P tk tj) .nil .nil)) (.node (o60v3 P tk tj) (.node (ob 92) (.node (o156v9 P tk tj) .nil .nil) .nil) (.node (o124v7 P tk tj) .nil .nil))))) (.node (boot_o_6 P) (.node (boot_o_10 P) (.node (o18v2 P tk tj) (.node (o34v2 P tk tj) (.node (ob 66) (.node (o130v7 P tk tj) .nil .nil) .nil) (.node (ob 98) (.node (ob 162) .nil .nil) .nil)) (.node (o50v3 P tk tj) (.node (ob 82) (.node (o146v8 P tk tj) .nil .nil) .nil) (.node (o114v6 P tk tj) .nil .nil))) (.node (o26v2 P tk tj) (.node (o42v2 P tk tj) (.node (ob 74) (.node (o138v8 P tk tj) .nil .nil) .nil) (.node (o106v6 P tk tj) .nil .nil)) (.node (o58v3 P tk tj) (.node (ob 90) (.node (o154v8 P tk tj) .nil .nil) .nil) (.node (o122v7 P tk tj) .nil .nil)))) (.node (o14v1 P tk tj) (.node (o22v2 P tk tj) (.node (o38v2 P tk tj) (.node (ob 70) (.node (o134v8 P tk tj) .nil .nil) .nil) (.node (o102v6 P tk tj) .nil .nil)) (.node (o54v3 P tk tj) (.node (ob 86) (.node (o150v8 P tk tj) .nil .nil) .nil) (.node (o118v6 P tk tj) .nil .nil))) (.node (o30v2 P tk tj) (.node (o46v3 P tk tj) (.node (ob 78) (.node (o142v8 P tk tj) .nil .nil) .nil) (.node (o110v6 P tk tj) .nil .nil)) (.node (ob 62) (.node (ob 94) (.node (o158v9 P tk tj) .nil .nil) .nil) (.node (o126v7 P tk tj) .nil .nil)))))))
noncomputable def S11 (w : World) (os : OsState) (ob : Nat → Obj) (tk tj : Nat) : SharedT := ⟨T11 w.params ob tk tj, 166, (@PySem.Life.mk [] [] [] 0 [] [] @Bool.false #[] [] 0 @Bool.false @Bool.false @Bool.false 0 [2000, 10, 10] @Bool.false 0 @Bool.true [] [] 0 @Bool.false), #[], boot_drawn, (tj + 1), os⟩
noncomputable def o3v12 (P : Params) (tk tj : Nat) : Obj := (@PySem.Obj.mk (.type "dict") none (@PySem.Data.dict #[(@PySem.DictEntry.mk (@PySem.PyData.keyHash P (PySem.Str.ofString "__name__")) (.str (PySem.Str.ofString "__name__") 165) (.str (PySem.Str.ofString "cpy313.token") (tj + 8))), (@PySem.DictEntry.mk (@PySem.PyData.keyHash P (PySem.Str.ofString "__doc__")) (.str (PySem.Str.ofString "__doc__") 166) PySem.Value.none), (@PySem.DictEntry.mk (@PySem.PyData.keyHash P (PySem.Str.ofString "__package__")) (.str (PySem.Str.ofString "__package__") 167) PySem.Value.none), (@PySem.DictEntry.mk (@PySem.PyData.keyHash P (PySem.Str.ofString "__loader__")) (.str (PySem.Str.ofString "__loader__") 168) (.builtin "__main__.__loader__#opaque")), (@PySem.DictEntry.mk (@PySem.PyData.keyHash P (PySem.Str.ofString "__spec__")) (.str (PySem.Str.ofString "__spec__") 169) PySem.Value.none), (@PySem.DictEntry.mk (@PySem.PyData.keyHash P (PySem.Str.ofString "__annotations__")) (.str (PySem.Str.ofString "__annotations__") 170) (.ref 6)), (@PySem.DictEntry.mk (@PySem.PyData.keyHash P (PySem.Str.ofString "__builtins__")) (.str (PySem.Str.ofString "__builtins__") 171) (.ref 4)), (@PySem.DictEntry.mk (@PySem.PyData.keyHash P (PySem.Str.ofString "__file__")) (.str (PySem.Str.ofString "__file__") 173) (.str (PySem.Str.ofString "/claim/cut.py") 172)), (@PySem.DictEntry.mk (@PySem.PyData.keyHash P (PySem.Str.ofString "__cached__")) (.str (PySem.Str.ofString "__cached__") 174) PySem.Value.none), (@PySem.DictEntry.mk (@PySem.PyData.keyHash P (PySem.Str.ofString "func_std_string")) (.str (PySem.Str.ofString "func_std_string") 196) (.ref 21)), (@PySem.DictEntry.mk (@PySem.PyData.keyHash P (PySem.Str.ofString "add_func_stats")) (.str (PySem.Str.ofString "add_func_stats") 214) (.ref 28)), (@PySem.DictEntry.mk (@PySem.PyData.keyHash P (PySem.Str.ofString "add_callers")) (.str (PySem.Str.ofString "add_callers") 225) (.ref 35)), (@PySem.DictEntry.mk (@PySem.PyData.keyHash P (PySem.Str.ofString "count_calls")) (.str (PySem.Str.ofString "count_calls") 234) (.ref 42)), (@PySem.DictEntry.mk (@PySem.PyData.keyHash P (PySem.Str.ofString "b1_set")) (.str (PySem.Str.ofString "b1_set") 296) (.ref 50)), (@PySem.DictEntry.mk (@PySem.PyData.keyHash P (PySem.Str.ofString "in_table_b1")) (.str (PySem.Str.ofString "in_table_b1") 303) (.ref 60)), (@PySem.DictEntry.mk (@PySem.PyData.keyHash P (PySem.Str.ofString "b3_exceptions")) (.str (PySem.Str.ofString "b3_exceptions") tk) (.ref 61)), (@PySem.DictEntry.mk (@PySem.PyData.keyHash P (PySem.Str.ofString "map_table_b3")) (.str (PySem.Str.ofString "map_table_b3") (tk + 8)) (.ref 106)), (@PySem.DictEntry.mk (@PySem.PyData.keyHash P (PySem.Str.ofString "c6_set")) (.str (PySem.Str.ofString "c6_set") (tk + 22)) (.ref 108)), (@PySem.DictEntry.mk (@PySem.PyData.keyHash P (PySem.Str.ofString "in_table_c6")) (.str (PySem.Str.ofString "in_table_c6") (tk + 29)) (.ref 118)), (@PySem.DictEntry.mk (@PySem.PyData.keyHash P (PySem.Str.ofString "c7_set")) (.str (PySem.Str.ofString "c7_set") (tk + 57)) (.ref 120)), (@PySem.DictEntry.mk (@PySem.PyData.keyHash P (PySem.Str.ofString "in_table_c7")) (.str (PySem.Str.ofString "in_table_c7") (tk + 64)) (.ref 130)), (@PySem.DictEntry.mk (@PySem.PyData.keyHash P (PySem.Str.ofString "c8_set")) (.str (PySem.Str.ofString "c8_set") (tk + 105)) (.ref 144)), (@PySem.DictEntry.mk (@PySem.PyData.keyHash P (PySem.Str.ofString "in_table_c8")) (.str (PySem.Str.ofString "in_table_c8") (tk + 112)) (.ref 154)), (@PySem.DictEntry.mk (@PySem.PyData.keyHash P (PySem.Str.ofString "c9_set")) (.str (PySem.Str.ofString "c9_set") tj) (.ref 162)), (@PySem.DictEntry.mk (@PySem.PyData.keyHash P (PySem.Str.ofString "in_table_c9")) (.str (PySem.Str.ofString "in_table_c9") (tj + 7)) (.ref 172)), (@PySem.DictEntry.mk (@PySem.PyData.keyHash P (PySem.Str.ofString "ENDMARKER")) (.str (PySem.Str.ofString "ENDMARKER") (tj + 11)) (.int 0 (tj + 10))), (@PySem.DictEntry.mk (@PySem.PyData.keyHash P (PySem.Str.ofString "LPAR")) (.str (PySem.Str.ofString "LPAR") (tj + 13)) (.int 7 (tj + 12))), (@PySem.DictEntry.mk (@PySem.PyData.keyHash P (PySem.Str.ofString "RPAR")) (.str (PySem.Str.ofString "RPAR") (tj + 15)) (.int 8 (tj + 14))), (@PySem.DictEntry.mk (@PySem.PyData.keyHash P (PySem.Str.ofString "LSQB")) (.str (PySem.Str.ofString "LSQB") (tj + 17)) (.int 9 (tj + 16))), (@PySem.DictEntry.mk (@PySem.PyData.keyHash P (PySem.Str.ofString "RSQB")) (.str (PySem.Str.ofString "RSQB") (tj + 19)) (.int 10 (tj + 18))), (@PySem.DictEntry.mk (@PySem.PyData.keyHash P (PySem.Str.ofString "COLON")) (.str (PySem.Str.ofString "COLON") (tj + 21)) (.int 11 (tj + 20))), (@PySem.DictEntry.mk (@PySem.PyData.keyHash P (PySem.Str.ofString "COMMA")) (.str (PySem.Str.ofString "COMMA") (tj + 23)) (.int 12 (tj + 22))), (@PySem.DictEntry.mk (@PySem.PyData.keyHash P (PySem.Str.ofString "SEMI")) (.str (PySem.Str.ofString "SEMI") (tj + 25)) (.int 13 (tj + 24))), (@PySem.DictEntry.mk (@PySem.PyData.keyHash P (PySem.Str.ofString "PLUS")) (.str (PySem.Str.ofString "PLUS") (tj + 27)) (.int 14 (tj + 26))), (@PySem.DictEntry.mk (@PySem.PyData.keyHash P (PySem.Str.ofString "MINUS")) (.str (PySem.Str.ofString "MINUS") (tj + 29)) (.int 15 (tj + 28))), (@PySem.DictEntry.mk (@PySem.PyData.keyHash P (PySem.Str.ofString "STAR")) (.str (PySem.Str.ofString "STAR") (tj + 31)) (.int 16 (tj + 30))), (@PySem.DictEntry.mk (@PySem.PyData.keyHash P (PySem.Str.ofString "SLASH")) (.str (PySem.Str.ofString "SLASH") (tj + 33)) (.int 17 (tj + 32))), (@PySem.DictEntry.mk (@PySem.PyData.keyHash P (PySem.Str.ofString "VBAR")) (.str (PySem.Str.ofString "VBAR") (tj + 35)) (.int 18 (tj + 34))), (@PySem.DictEntry.mk (@PySem.PyData.keyHash P (PySem.Str.ofString "AMPER")) (.str (PySem.Str.ofString "AMPER") (tj + 37)) (.int 19 (tj + 36))), (@PySem.DictEntry.mk (@PySem.PyData.keyHash P (PySem.Str.ofString "LESS")) (.str (PySem.Str.ofString "LESS") (tj + 39)) (.int 20 (tj + 38))), (@PySem.DictEntry.mk (@PySem.PyData.keyHash P (PySem.Str.ofString "GREATER")) (.str (PySem.Str.ofString "GREATER") (tj + 41)) (.int 21 (tj + 40))), (@PySem.DictEntry.mk (@PySem.PyData.keyHash P (PySem.Str.ofString "EQUAL")) (.str (PySem.Str.ofString "EQUAL") (tj + 43)) (.int 22 (tj + 42))), (@PySem.DictEntry.mk (@PySem.PyData.keyHash P (PySem.Str.ofString "DOT")) (.str (PySem.Str.ofString "DOT") (tj + 45)) (.int 23 (tj + 44))), (@PySem.DictEntry.mk (@PySem.PyData.keyHash P (PySem.Str.ofString "PERCENT")) (.str (PySem.Str.ofString "PERCENT") (tj + 47)) (.int 24 (tj + 46))), (@PySem.DictEntry.mk (@PySem.PyData.keyHash P (PySem.Str.ofString "LBRACE")) (.str (PySem.Str.ofString "LBRACE") (tj + 49)) (.int 25 (tj + 48))), (@PySem.DictEntry.mk (@PySem.PyData.keyHash P (PySem.Str.ofString "RBRACE")) (.str (PySem.Str.ofString "RBRACE") (tj + 51)) (.int 26 (tj + 50))), (@PySem.DictEntry.mk (@PySem.PyData.keyHash P (PySem.Str.ofString "EQEQUAL")) (.str (PySem.Str.ofString "EQEQUAL") (tj + 53)) (.int 27 (tj + 52))), (@PySem.DictEntry.mk (@PySem.PyData.keyHash P (PySem.Str.ofString "NOTEQUAL")) (.str (PySem.Str.ofString "NOTEQUAL") (tj + 55)) (.int 28 (tj + 54))), (@PySem.DictEntry.mk (@PySem.PyData.keyHash P (PySem.Str.ofString "LESSEQUAL")) (.str (PySem.Str.ofString "LESSEQUAL") (tj + 57)) (.int 29 (tj + 56))), (@PySem.DictEntry.mk (@PySem.PyData.keyHash P (PySem.Str.ofString "GREATEREQUAL")) (.str (PySem.Str.ofString "GREATEREQUAL") (tj + 59)) (.int 30 (tj + 58))), (@PySem.DictEntry.mk (@PySem.PyData.keyHash P (PySem.Str.ofString "TILDE")) (.str (PySem.Str.ofString "TILDE") (tj + 61)) (.int 31 (tj + 60))), (@PySem.DictEntry.mk (@PySem.PyData.keyHash P (PySem.Str.ofString "CIRCUMFLEX")) (.str (PySem.Str.ofString "CIRCUMFLEX") (tj + 63)) (.int 32 (tj + 62))), (@PySem.DictEntry.mk (@PySem.PyData.keyHash P (PySem.Str.ofString "LEFTSHIFT")) (.str (PySem.Str.ofString "LEFTSHIFT") (tj + 65)) (.int 33 (tj + 64))), (@PySem.DictEntry.mk (@PySem.PyData.keyHash P (PySem.Str.ofString "RIGHTSHIFT")) (.str (PySem.Str.ofString "RIGHTSHIFT") (tj + 67)) (.int 34 (tj + 66))), (@PySem.DictEntry.mk (@PySem.PyData.keyHash P (PySem.Str.ofString "DOUBLESTAR")) (.str (PySem.Str.ofString "DOUBLESTAR") (tj + 69)) (.int 35 (tj + 68))), (@PySem.DictEntry.mk (@PySem.PyData.keyHash P (PySem.Str.ofString "PLUSEQUAL")) (.str (PySem.Str.ofString "PLUSEQUAL") (tj + 71)) (.int 36 (tj + 70))), (@PySem.DictEntry.mk (@PySem.PyData.keyHash P (PySem.Str.ofString "MINEQUAL")) (.str (PySem.Str.ofString "MINEQUAL") (tj + 73)) (.int 37 (tj + 72))), (@PySem.DictEntry.mk (@PySem.PyData.keyHash P (PySem.Str.ofString "STAREQUAL")) (.str (PySem.Str.ofString "STAREQUAL") (tj + 75)) (.int 38 (tj + 74))), (@PySem.DictEntry.mk (@PySem.PyData.keyHash P (PySem.Str.ofString "SLASHEQUAL")) (.str (PySem.Str.ofString "SLASHEQUAL") (tj + 77)) (.int 39 (tj + 76))), (@PySem.DictEntry.mk (@PySem.PyData.keyHash P (PySem.Str.ofString "PERCENTEQUAL")) (.str (PySem.Str.ofString "PERCENTEQUAL") (tj + 79)) (.int 40 (tj + 78))), (@PySem.DictEntry.mk (@PySem.PyData.keyHash P (PySem.Str.ofString "AMPEREQUAL")) (.str (PySem.Str.ofString "AMPEREQUAL") (tj + 81)) (.int 41 (tj + 80))), (@PySem.DictEntry.mk (@PySem.PyData.keyHash P (PySem.Str.ofString "VBAREQUAL")) (.str (PySem.Str.ofString "VBAREQUAL") (tj + 83)) (.int 42 (tj + 82))), (@PySem.DictEntry.mk (@PySem.PyData.keyHash P (PySem.Str.ofString "CIRCUMFLEXEQUAL")) (.str (PySem.Str.ofString "CIRCUMFLEXEQUAL") (tj + 85)) (.int 43 (tj + 84))), (@PySem.DictEntry.mk (@PySem.PyData.keyHash P (PySem.Str.ofString "LEFTSHIFTEQUAL")) (.str (PySem.Str.ofString "LEFTSHIFTEQUAL") (tj + 87)) (.int 44 (tj + 86))), (@PySem.DictEntry.mk (@PySem.PyData.keyHash P (PySem.Str.ofString "RIGHTSHIFTEQUAL")) (.str (PySem.Str.ofString "RIGHTSHIFTEQUAL") (tj + 89)) (.int 45 (tj + 88)))] 65) #[])
noncomputable def o12v12 (P : Params) (tk tj : Nat) : Obj := (@PySem.Obj.mk PySem.Value.none none (@PySem.Data.fields #[(.int 2 0), (.int 0 0), (.ref 20), (.int 11 0), (.int 0 0), (.ref 27), (.int 15 0), (.int 0 0), (.ref 34), (.int 28 0), (.int 0 0), (.ref 41), (.int 35 0), (.int 0 0), (.ref 59), (.int 38 0), (.int 0 0), (.ref 105), (.int 44 0), (.int 0 0), (.ref 117), (.int 47 0), (.int 0 0), (.ref 129), (.int 50 0), (.int 0 0), (.ref 153), (.int 53 0), (.int 0 0), (.ref 171)]) #[])
noncomputable def o166v12 (P : Params) (tk tj : Nat) : Obj := (@PySem.Obj.mk (.type "tuple") none (@PySem.Data.seq #[] 0) #[])
noncomputable def o167v12 (P : Params) (tk tj : Nat) : Obj := (@PySem.Obj.mk PySem.Value.none none (@PySem.Data.fields #[]) #[])
noncomputable def o168v12 (P : Params) (tk tj : Nat) : Obj := (@PySem.Obj.mk (.type "tuple") none (@PySem.Data.seq #[(.str (PySem.Str.ofString "code") (tj + 4))] 0) #[])
noncomputable def o169v12 (P : Params) (tk tj : Nat) : Obj := (@PySem.Obj.mk (.type "tuple") none (@PySem.Data.seq #[] 0) #[])
noncomputable def o170v12 (P : Params) (tk tj : Nat) : Obj := PySem.Obj.mk PySem.Value.none none (.func (fnFix 17 (@PySem.FuncData.mk (PySem.Str.ofString "in_table_c9") (PySem.Str.ofString "in_table_c9") (@PySem.Arguments.mk [] [] none [] [] none []) (@PySem.FuncBody.stmts []) (@PySem.Scope.mk @PySem.ScopeKind.function [] @Bool.false @Bool.false []) 0 [] PySem.Value.none PySem.Value.none PySem.Value.none PySem.Value.none none PySem.Value.none PySem.Value.none 0))) #[]
noncomputable def o171v12 (P : Params) (tk tj : Nat) : Obj := PySem.Obj.mk (.type "code") none (.fields #[(.str (PySem.Str.ofString "in_table_c9") (tj + 1)), (.str (PySem.Str.ofString "in_table_c9") (tj + 2)), (.str (PySem.Str.ofString "/claim/cut.py") (tj + 3)), (.int 53 0), (.int 1 0), (.int 0 0), (.int 0 0), (.int 3 0), (.ref 166), (@PySem.Value.bool @Bool.true), (.int 181 0), (.ref 167), PySem.Value.none, (.ref 168), (.ref 169), (.ref 170), (.int (Int.ofNat (tj + 5)) 0), (.int 53 0), (.str (PySem.Str.ofString "/claim/cut.py") (tj + 6))]) #[]
noncomputable def o172v12 (P : Params) (tk tj : Nat) : Obj := PySem.Obj.mk (.type "function") none (.func (fnFix 17 (@PySem.FuncData.mk (PySem.Str.ofString "in_table_c9") (PySem.Str.ofString "in_table_c9") (@PySem.Arguments.mk [] [] none [] [] none []) (@PySem.FuncBody.stmts []) (@PySem.Scope.mk @PySem.ScopeKind.function [] @Bool.false @Bool.false []) 3 [] PySem.Value.none PySem.Value.none PySem.Value.none (.str (PySem.Str.ofString "cpy313.stringprep") 235) none (.ref 171) PySem.Value.none 0))) #[]
noncomputable def T12 (P : Params) (ob : Nat → Obj) (tk tj : Nat) : BT := (.node (boot_o_0 P) (.node (boot_o_1 P) (.node (o3v12 P tk tj) (.node (boot_o_7 P) (.node (o15v2 P tk tj) (.node (o31v2 P tk tj) (.node (ob 63) (.node (o127v7 P tk tj) .nil .nil) .nil) (.node (ob 95) (.node (o159v9 P tk tj) .nil .nil) .nil)) (.node (o47v3 P tk tj) (.node (ob 79) (.node (o143v8 P tk tj) .nil .nil) .nil) (.node (o111v6 P tk tj) .nil .nil))) (.node (o23v2 P tk tj) (.node (o39v2 P tk tj) (.node (ob 71) (.node (o135v8 P tk tj) .nil .nil) .nil) (.node (o103v6 P tk tj) (.node (o167v12 P tk tj) .nil .nil) .nil)) (.node (o55v3 P tk tj) (.node (ob 87) (.node (o151v8 P tk tj) .nil .nil) .nil) (.node (o119v7 P tk tj) .nil .nil)))) (.node (o11v1 P tk tj) (.node (o19v2 P tk tj) (.node (o35v2 P tk tj) (.node (ob 67) (.node (o131v8 P tk tj) .nil .nil) .nil) (.node (ob 99) (.node (ob 163) .nil .nil) .nil)) (.node (o51v3 P tk tj) (.node (ob 83) (.node (o147v8 P tk tj) .nil .nil) .nil) (.node (o115v6 P tk tj) .nil .nil))) (.node (o27v2 P tk tj) (.node (o43v3 P tk tj) (.node (ob 75) (.node (o139v8 P tk tj) .nil .nil) .nil) (.node (o107v6 P tk tj) (.node (o171v12 P tk tj) .nil .nil) .nil)) (.node (o59v3 P tk tj) (.node (ob 91) (.node (o155v9 P tk tj) .nil .nil) .nil) (.node (o123v7 P tk tj) .nil .nil))))) (.node (boot_o_5 P) (.node (boot_o_9 P) (.node (o17v2 P tk tj) (.node (o33v2 P tk tj) (.node (ob 65) (.node (o129v7 P tk tj) .nil .nil) .nil) (.node (ob 97) (.node (o161v9 P tk tj) .nil .nil) .nil)) (.node (o49v3 P tk tj) (.node (ob 81) (.node (o145v8 P tk tj) .nil .nil) .nil) (.node (o113v6 P tk tj) .nil .nil))) (.node (o25v2 P tk tj) (.node (o41v2 P tk tj) (.node (ob 73) (.node (o137v8 P tk tj) .nil .nil) .nil) (.node (o105v6 P tk tj) (.node (o169v12 P tk tj) .nil .nil) .nil)) (.node (o57v3 P tk tj) (.node (ob 89) (.node (o153v8 P tk tj) .nil .nil) .nil) (.node (o121v7 P tk tj) .nil .nil)))) (.node (o13v1 P tk tj) (.node (o21v2 P tk tj) (.node (o37v2 P tk tj) (.node (ob 69) (.node (o133v8 P tk tj) .nil .nil) .nil) (.node (o101v6 P tk tj) (.node (ob 165) .nil .nil) .nil)) (.node (o53v3 P tk tj) (.node (ob 85) (.node (o149v8 P tk tj) .nil .nil) .nil) (.node (o117v6 P tk tj) .nil .nil))) (.node (o29v2 P tk tj) (.node (o45v3 P tk tj) (.node (ob 77) (.node (o141v8 P tk tj) .nil .nil) .nil) (.node (o109v6 P tk tj) .nil .nil)) (.node (ob 61) (.node (ob 93) (.node (o157v9 P tk tj) .nil .nil) .nil) (.node (o125v7 P tk tj) .nil .nil)))))) (.node (boot_o_2 P) (.node (boot_o_4 P) (.node (boot_o_8 P) (.node (o16v2 P tk tj) (.node (o32v2 P tk tj) (.node (ob 64) (.node (o128v7 P tk tj) .nil .nil) .nil) (.node (ob 96) (.node (o160v9 P tk tj) .nil .nil) .nil)) (.node (o48v3 P tk tj) (.node (ob 80) (.node (o144v8 P tk tj) .nil .nil) .nil) (.node (o112v6 P tk tj) .nil .nil))) (.node (o24v2 P tk tj) (.node (o40v2 P tk tj) (.node (ob 72) (.node (o136v8 P tk tj) .nil .nil) .nil) (.node (o104v6 P tk tj) (.node (o168v12 P tk tj) .nil .nil) .nil)) (.node (o56v3 P tk tj) (.node (ob 88) (.node (o152v8 P tk tj) .nil .nil) .nil) (.node (o120v7 P tk tj) .nil .nil)))) (.node (o12v12 P tk tj) (.node (o20v2 P tk tj) (.node (o36v2 P tk tj) (.node (ob 68) (.node (o132v8 P tk tj) .nil .nil) .nil) (.node (o100v6 P tk tj) (.node (ob 164) .nil .nil) .nil)) (.node (o52v3 P tk tj) (.node (ob 84) (.node (o148v8 P tk tj) .nil .nil) .nil) (.node (o116v6 P tk tj) .nil .nil))) (.node (o28v2 P tk tj) (.node (o44v3 P tk tj) (.node (ob 76) (.node (o140v8 P tk tj) .nil .nil) .nil) (.node (o108v6 P tk tj) (.node (o172v12 P tk tj) .nil .nil) .nil)) (.node (o60v3 P tk tj) (.node (ob 92) (.node (o156v9 P tk tj) .nil .nil) .nil) (.node (o124v7 P tk tj) .nil .nil))))) (.node (boot_o_6 P) (.node (boot_o_10 P) (.node (o18v2 P tk tj) (.node (o34v2 P tk tj) (.node (ob 66) (.node (o130v7 P tk tj) .nil .nil) .nil) (.node (ob 98) (.node (ob 162) .nil .nil) .nil)) (.node (o50v3 P tk tj) (.node (ob 82) (.node (o146v8 P tk tj) .nil .nil) .nil) (.node (o114v6 P tk tj) .nil .nil))) (.node (o26v2 P tk tj) (.node (o42v2 P tk tj) (.node (ob 74) (.node (o138v8 P tk tj) .nil .nil) .nil) (.node (o106v6 P tk tj) (.node (o170v12 P tk tj) .nil .nil) .nil)) (.node (o58v3 P tk tj) (.node (ob 90) (.node (o154v8 P tk tj) .nil .nil) .nil) (.node (o122v7 P tk tj) .nil .nil)))) (.node (o14v1 P tk tj) (.node (o22v2 P tk tj) (.node (o38v2 P tk tj) (.node (ob 70) (.node (o134v8 P tk tj) .nil .nil) .nil) (.node (o102v6 P tk tj) (.node (o166v12 P tk tj) .nil .nil) .nil)) (.node (o54v3 P tk tj) (.node (ob 86) (.node (o150v8 P tk tj) .nil .nil) .nil) (.node (o118v6 P tk tj) .nil .nil))) (.node (o30v2 P tk tj) (.node (o46v3 P tk tj) (.node (ob 78) (.node (o142v8 P tk tj) .nil .nil) .nil) (.node (o110v6 P tk tj) .nil .nil)) (.node (ob 62) (.node (ob 94) (.node (o158v9 P tk tj) .nil .nil) .nil) (.node (o126v7 P tk tj) .nil .nil)))))))
noncomputable def S12 (w : World) (os : OsState) (ob : Nat → Obj) (tk tj : Nat) : SharedT := ⟨T12 w.params ob tk tj, 173, (@PySem.Life.mk [] [] [] 0 [] [] @Bool.false #[] [] 0 @Bool.false @Bool.false @Bool.false 0 [2000, 10, 10] @Bool.false 0 @Bool.true [] [] 0 @Bool.false), #[], boot_drawn, (tj + 90), os⟩
noncomputable def o3v13 (P : Params) (tk tj : Nat) : Obj := (@PySem.Obj.mk (.type "dict") none (@PySem.Data.dict #[(@PySem.DictEntry.mk (@PySem.PyData.keyHash P (PySem.Str.ofString "__name__")) (.str (PySem.Str.ofString "__name__") 165) (.str (PySem.Str.ofString "cpy313.token") (tj + 8))), (@PySem.DictEntry.mk (@PySem.PyData.keyHash P (PySem.Str.ofString "__doc__")) (.str (PySem.Str.ofString "__doc__") 166) PySem.Value.none), (@PySem.DictEntry.mk (@PySem.PyData.keyHash P (PySem.Str.ofString "__package__")) (.str (PySem.Str.ofString "__package__") 167) PySem.Value.none), (@PySem.DictEntry.mk (@PySem.PyData.keyHash P (PySem.Str.ofString "__loader__")) (.str (PySem.Str.ofString "__loader__") 168) (.builtin "__main__.__loader__#opaque")), (@PySem.DictEntry.mk (@PySem.PyData.keyHash P (PySem.Str.ofString "__spec__")) (.str (PySem.Str.ofString "__spec__") 169) PySem.Value.none), (@PySem.DictEntry.mk (@PySem.PyData.keyHash P (PySem.Str.ofString "__annotations__")) (.str (PySem.Str.ofString "__annotations__") 170) (.ref 6)), (@PySem.DictEntry.mk (@PySem.PyData.keyHash P (PySem.Str.ofString "__builtins__")) (.str (PySem.Str.ofString "__builtins__") 171) (.ref 4)), (@PySem.DictEntry.mk (@PySem.PyData.keyHash P (PySem.Str.ofString "__file__")) (.str (PySem.Str.ofString "__file__") 173) (.str (PySem.Str.ofString "/claim/cut.py") 172)), (@PySem.DictEntry.mk (@PySem.PyData.keyHash P (PySem.Str.ofString "__cached__")) (.str (PySem.Str.ofString "__cached__") 174) PySem.Value.none), (@PySem.DictEntry.mk (@PySem.PyData.keyHash P (PySem.Str.ofString "func_std_string")) (.str (PySem.Str.ofString "func_std_string") 196) (.ref 21)), (@PySem.DictEntry.mk (@PySem.PyData.keyHash P (PySem.Str.ofString "add_func_stats")) (.str (PySem.Str.ofString "add_func_stats") 214) (.ref 28)), (@PySem.DictEntry.mk (@PySem.PyData.keyHash P (PySem.Str.ofString "add_callers")) (.str (PySem.Str.ofString "add_callers") 225) (.ref 35)), (@PySem.DictEntry.mk (@PySem.PyData.keyHash P (PySem.Str.ofString "count_calls")) (.str (PySem.Str.ofString "count_calls") 234) (.ref 42)), (@PySem.DictEntry.mk (@PySem.PyData.keyHash P (PySem.Str.ofString "b1_set")) (.str (PySem.Str.ofString "b1_set") 296) (.ref 50)), (@PySem.DictEntry.mk (@PySem.PyData.keyHash P (PySem.Str.ofString "in_table_b1")) (.str (PySem.Str.ofString "in_table_b1") 303) (.ref 60)), (@PySem.DictEntry.mk (@PySem.PyData.keyHash P (PySem.Str.ofString "b3_exceptions")) (.str (PySem.Str.ofString "b3_exceptions") tk) (.ref 61)), (@PySem.DictEntry.mk (@PySem.PyData.keyHash P (PySem.Str.ofString "map_table_b3")) (.str (PySem.Str.ofString "map_table_b3") (tk + 8)) (.ref 106)), (@PySem.DictEntry.mk (@PySem.PyData.keyHash P (PySem.Str.ofString "c6_set")) (.str (PySem.Str.ofString "c6_set") (tk + 22)) (.ref 108)), (@PySem.DictEntry.mk (@PySem.PyData.keyHash P (PySem.Str.ofString "in_table_c6")) (.str (PySem.Str.ofString "in_table_c6") (tk + 29)) (.ref 118)), (@PySem.DictEntry.mk (@PySem.PyData.keyHash P (PySem.Str.ofString "c7_set")) (.str (PySem.Str.ofString "c7_set") (tk + 57)) (.ref 120)), (@PySem.DictEntry.mk (@PySem.PyData.keyHash P (PySem.Str.ofString "in_table_c7")) (.str (PySem.Str.ofString "in_table_c7") (tk + 64)) (.ref 130)), (@PySem.DictEntry.mk (@PySem.PyData.keyHash P (PySem.Str.ofString "c8_set")) (.str (PySem.Str.ofString "c8_set") (tk + 105)) (.ref 144)), (@PySem.DictEntry.mk (@PySem.PyData.keyHash P (PySem.Str.ofString "in_table_c8")) (.str (PySem.Str.ofString "in_table_c8") (tk + 112)) (.ref 154)), (@PySem.DictEntry.mk (@PySem.PyData.keyHash P (PySem.Str.ofString "c9_set")) (.str (PySem.Str.ofString "c9_set") tj) (.ref 162)), (@PySem.DictEntry.mk (@PySem.PyData.keyHash P (PySem.Str.ofString "in_table_c9")) (.str (PySem.Str.ofString "in_table_c9") (tj + 7)) (.ref 172)), (@PySem.DictEntry.mk (@PySem.PyData.keyHash P (PySem.Str.ofString "ENDMARKER")) (.str (PySem.Str.ofString "ENDMARKER") (tj + 11)) (.int 0 (tj + 10))), (@PySem.DictEntry.mk (@PySem.PyData.keyHash P (PySem.Str.ofString "LPAR")) (.str (PySem.Str.ofString "LPAR") (tj + 13)) (.int 7 (tj + 12))), (@PySem.DictEntry.mk (@PySem.PyData.keyHash P (PySem.Str.ofString "RPAR")) (.str (PySem.Str.ofString "RPAR") (tj + 15)) (.int 8 (tj + 14))), (@PySem.DictEntry.mk (@PySem.PyData.keyHash P (PySem.Str.ofString "LSQB")) (.str (PySem.Str.ofString "LSQB") (tj + 17)) (.int 9 (tj + 16))), (@PySem.DictEntry.mk (@PySem.PyData.keyHash P (PySem.Str.ofString "RSQB")) (.str (PySem.Str.ofString "RSQB") (tj + 19)) (.int 10 (tj + 18))), (@PySem.DictEntry.mk (@PySem.PyData.keyHash P (PySem.Str.ofString "COLON")) (.str (PySem.Str.ofString "COLON") (tj + 21)) (.int 11 (tj + 20))), (@PySem.DictEntry.mk (@PySem.PyData.keyHash P (PySem.Str.ofString "COMMA")) (.str (PySem.Str.ofString "COMMA") (tj + 23)) (.int 12 (tj + 22))), (@PySem.DictEntry.mk (@PySem.PyData.keyHash P (PySem.Str.ofString "SEMI")) (.str (PySem.Str.ofString "SEMI") (tj + 25)) (.int 13 (tj + 24))), (@PySem.DictEntry.mk (@PySem.PyData.keyHash P (PySem.Str.ofString "PLUS")) (.str (PySem.Str.ofString "PLUS") (tj + 27)) (.int 14 (tj + 26))), (@PySem.DictEntry.mk (@PySem.PyData.keyHash P (PySem.Str.ofString "MINUS")) (.str (PySem.Str.ofString "MINUS") (tj + 29)) (.int 15 (tj + 28))), (@PySem.DictEntry.mk (@PySem.PyData.keyHash P (PySem.Str.ofString "STAR")) (.str (PySem.Str.ofString "STAR") (tj + 31)) (.int 16 (tj + 30))), (@PySem.DictEntry.mk (@PySem.PyData.keyHash P (PySem.Str.ofString "SLASH")) (.str (PySem.Str.ofString "SLASH") (tj + 33)) (.int 17 (tj + 32))), (@PySem.DictEntry.mk (@PySem.PyData.keyHash P (PySem.Str.ofString "VBAR")) (.str (PySem.Str.ofString "VBAR") (tj + 35)) (.int 18 (tj + 34))), (@PySem.DictEntry.mk (@PySem.PyData.keyHash P (PySem.Str.ofString "AMPER")) (.str (PySem.Str.ofString "AMPER") (tj + 37)) (.int 19 (tj + 36))), (@PySem.DictEntry.mk (@PySem.PyData.keyHash P (PySem.Str.ofString "LESS")) (.str (PySem.Str.ofString "LESS") (tj + 39)) (.int 20 (tj + 38))), (@PySem.DictEntry.mk (@PySem.PyData.keyHash P (PySem.Str.ofString "GREATER")) (.str (PySem.Str.ofString "GREATER") (tj + 41)) (.int 21 (tj + 40))), (@PySem.DictEntry.mk (@PySem.PyData.keyHash P (PySem.Str.ofString "EQUAL")) (.str (PySem.Str.ofString "EQUAL") (tj + 43)) (.int 22 (tj + 42))), (@PySem.DictEntry.mk (@PySem.PyData.keyHash P (PySem.Str.ofString "DOT")) (.str (PySem.Str.ofString "DOT") (tj + 45)) (.int 23 (tj + 44))), (@PySem.DictEntry.mk (@PySem.PyData.keyHash P (PySem.Str.ofString "PERCENT")) (.str (PySem.Str.ofString "PERCENT") (tj + 47)) (.int 24 (tj + 46))), (@PySem.DictEntry.mk (@PySem.PyData.keyHash P (PySem.Str.ofString "LBRACE")) (.str (PySem.Str.ofString "LBRACE") (tj + 49)) (.int 25 (tj + 48))), (@PySem.DictEntry.mk (@PySem.PyData.keyHash P (PySem.Str.ofString "RBRACE")) (.str (PySem.Str.ofString "RBRACE") (tj + 51)) (.int 26 (tj + 50))), (@PySem.DictEntry.mk (@PySem.PyData.keyHash P (PySem.Str.ofString "EQEQUAL")) (.str (PySem.Str.ofString "EQEQUAL") (tj + 53)) (.int 27 (tj + 52))), (@PySem.DictEntry.mk (@PySem.PyData.keyHash P (PySem.Str.ofString "NOTEQUAL")) (.str (PySem.Str.ofString "NOTEQUAL") (tj + 55)) (.int 28 (tj + 54))), (@PySem.DictEntry.mk (@PySem.PyData.keyHash P (PySem.Str.ofString "LESSEQUAL")) (.str (PySem.Str.ofString "LESSEQUAL") (tj + 57)) (.int 29 (tj + 56))), (@PySem.DictEntry.mk (@PySem.PyData.keyHash P (PySem.Str.ofString "GREATEREQUAL")) (.str (PySem.Str.ofString "GREATEREQUAL") (tj + 59)) (.int 30 (tj + 58))), (@PySem.DictEntry.mk (@PySem.PyData.keyHash P (PySem.Str.ofString "TILDE")) (.str (PySem.Str.ofString "TILDE") (tj + 61)) (.int 31 (tj + 60))), (@PySem.DictEntry.mk (@PySem.PyData.keyHash P (PySem.Str.ofString "CIRCUMFLEX")) (.str (PySem.Str.ofString "CIRCUMFLEX") (tj + 63)) (.int 32 (tj + 62))), (@PySem.DictEntry.mk (@PySem.PyData.keyHash P (PySem.Str.ofString "LEFTSHIFT")) (.str (PySem.Str.ofString "LEFTSHIFT") (tj + 65)) (.int 33 (tj + 64))), (@PySem.DictEntry.mk (@PySem.PyData.keyHash P (PySem.Str.ofString "RIGHTSHIFT")) (.str (PySem.Str.ofString "RIGHTSHIFT") (tj + 67)) (.int 34 (tj + 66))), (@PySem.DictEntry.mk (@PySem.PyData.keyHash P (PySem.Str.ofString "DOUBLESTAR")) (.str (PySem.Str.ofString "DOUBLESTAR") (tj + 69)) (.int 35 (tj + 68))), (@PySem.DictEntry.mk (@PySem.PyData.keyHash P (PySem.Str.ofString "PLUSEQUAL")) (.str (PySem.Str.ofString "PLUSEQUAL") (tj + 71)) (.int 36 (tj + 70))), (@PySem.DictEntry.mk (@PySem.PyData.keyHash P (PySem.Str.ofString "MINEQUAL")) (.str (PySem.Str.ofString "MINEQUAL") (tj + 73)) (.int 37 (tj + 72))), (@PySem.DictEntry.mk (@PySem.PyData.keyHash P (PySem.Str.ofString "STAREQUAL")) (.str (PySem.Str.ofString "STAREQUAL") (tj + 75)) (.int 38 (tj + 74))), (@PySem.DictEntry.mk (@PySem.PyData.keyHash P (PySem.Str.ofString "SLASHEQUAL")) (.str (PySem.Str.ofString "SLASHEQUAL") (tj + 77)) (.int 39 (tj + 76))), (@PySem.DictEntry.mk (@PySem.PyData.keyHash P (PySem.Str.ofString "PERCENTEQUAL")) (.str (PySem.Str.ofString "PERCENTEQUAL") (tj + 79)) (.int 40 (tj + 78))), (@PySem.DictEntry.mk (@PySem.PyData.keyHash P (PySem.Str.ofString "AMPEREQUAL")) (.str (PySem.Str.ofString "AMPEREQUAL") (tj + 81)) (.int 41 (tj + 80))), (@PySem.DictEntry.mk (@PySem.PyData.keyHash P (PySem.Str.ofString "VBAREQUAL")) (.str (PySem.Str.ofString "VBAREQUAL") (tj + 83)) (.int 42 (tj + 82))), (@PySem.DictEntry.mk (@PySem.PyData.keyHash P (PySem.Str.ofString "CIRCUMFLEXEQUAL")) (.str (PySem.Str.ofString "CIRCUMFLEXEQUAL") (tj + 85)) (.int 43 (tj + 84))), (@PySem.DictEntry.mk (@PySem.PyData.keyHash P (PySem.Str.ofString "LEFTSHIFTEQUAL")) (.str (PySem.Str.ofString "LEFTSHIFTEQUAL") (tj + 87)) (.int 44 (tj + 86))), (@PySem.DictEntry.mk (@PySem.PyData.keyHash P (PySem.Str.ofString "RIGHTSHIFTEQUAL")) (.str (PySem.Str.ofString "RIGHTSHIFTEQUAL") (tj + 89)) (.int 45 (tj + 88))), (@PySem.DictEntry.mk (@PySem.PyData.keyHash P (PySem.Str.ofString "DOUBLESTAREQUAL")) (.str (PySem.Str.ofString "DOUBLESTAREQUAL") (tj + 91)) (.int 46 (tj + 90))), (@PySem.DictEntry.mk (@PySem.PyData.keyHash P (PySem.Str.ofString "DOUBLESLASH")) (.str (PySem.Str.ofString "DOUBLESLASH") (tj + 93)) (.int 47 (tj + 92))), (@PySem.DictEntry.mk (@PySem.PyData.keyHash P (PySem.Str.ofString "DOUBLESLASHEQUAL")) (.str (PySem.Str.ofString "DOUBLESLASHEQUAL") (tj + 95)) (.int 48 (tj + 94))), (@PySem.DictEntry.mk (@PySem.PyData.keyHash P (PySem.Str.ofString "AT")) (.str (PySem.Str.ofString "AT") (tj + 97)) (.int 49 (tj + 96))), (@PySem.DictEntry.mk (@PySem.PyData.keyHash P (PySem.Str.ofString "ATEQUAL")) (.str (PySem.Str.ofString "ATEQUAL") (tj + 99)) (.int 50 (tj + 98))), (@PySem.DictEntry.mk (@PySem.PyData.keyHash P (PySem.Str.ofString "RARROW")) (.str (PySem.Str.ofString "RARROW") (tj + 101)) (.int 51 (tj + 100))), (@PySem.DictEntry.mk (@PySem.PyData.keyHash P (PySem.Str.ofString "ELLIPSIS")) (.str (PySem.Str.ofString "ELLIPSIS") (tj + 103)) (.int 52 (tj + 102))), (@PySem.DictEntry.mk (@PySem.PyData.keyHash P (PySem.Str.ofString "COLONEQUAL")) (.str (PySem.Str.ofString "COLONEQUAL") (tj + 105)) (.int 53 (tj + 104))), (@PySem.DictEntry.mk (@PySem.PyData.keyHash P (PySem.Str.ofString "EXCLAMATION")) (.str (PySem.Str.ofString "EXCLAMATION") (tj + 107)) (.int 54 (tj + 106))), (@PySem.DictEntry.mk (@PySem.PyData.keyHash P (PySem.Str.ofString "NT_OFFSET")) (.str (PySem.Str.ofString "NT_OFFSET") (tj + 109)) (.int 256 (tj + 108)))] 75) #[])
noncomputable def T13 (P : Params) (ob : Nat → Obj) (tk tj : Nat) : BT := (.node (boot_o_0 P) (.node (boot_o_1 P) (.node (o3v13 P tk tj) (.node (boot_o_7 P) (.node (o15v2 P tk tj) (.node (o31v2 P tk tj) (.node (ob 63) (.node (o127v7 P tk tj) .nil .nil) .nil) (.node (ob 95) (.node (o159v9 P tk tj) .nil .nil) .nil)) (.node (o47v3 P tk tj) (.node (ob 79) (.node (o143v8 P tk tj) .nil .nil) .nil) (.node (o111v6 P tk tj) .nil .nil))) (.node (o23v2 P tk tj) (.node (o39v2 P tk tj) (.node (ob 71) (.node (o135v8 P tk tj) .nil .nil) .nil) (.node (o103v6 P tk tj) (.node (o167v12 P tk tj) .nil .nil) .nil)) (.node (o55v3 P tk tj) (.node (ob 87) (.node (o151v8 P tk tj) .nil .nil) .nil) (.node (o119v7 P tk tj) .nil .nil)))) (.node (o11v1 P tk tj) (.node (o19v2 P tk tj) (.node (o35v2 P tk tj) (.node (ob 67) (.node (o131v8 P tk tj) .nil .nil) .nil) (.node (ob 99) (.node (ob 163) .nil .nil) .nil)) (.node (o51v3 P tk tj) (.node (ob 83) (.node (o147v8 P tk tj) .nil .nil) .nil) (.node (o115v6 P tk tj) .nil .nil))) (.node (o27v2 P tk tj) (.node (o43v3 P tk tj) (.node (ob 75) (.node (o139v8 P tk tj) .nil .nil) .nil) (.node (o107v6 P tk tj) (.node (o171v12 P tk tj) .nil .nil) .nil)) (.node (o59v3 P tk tj) (.node (ob 91) (.node (o155v9 P tk tj) .nil .nil) .nil) (.node (o123v7 P tk tj) .nil .nil))))) (.node (boot_o_5 P) (.node (boot_o_9 P) (.node (o17v2 P tk tj) (.node (o33v2 P tk tj) (.node (ob 65) (.node (o129v7 P tk tj) .nil .nil) .nil) (.node (ob 97) (.node (o161v9 P tk tj) .nil .nil) .nil)) (.node (o49v3 P tk tj) (.node (ob 81) (.node (o145v8 P tk tj) .nil .nil) .nil) (.node (o113v6 P tk tj) .nil .nil))) (.node (o25v2 P tk tj) (.node (o41v2 P tk tj) (.node (ob 73) (.node (o137v8 P tk tj) .nil .nil) .nil) (.node (o105v6 P tk tj) (.node (o169v12 P tk tj) .nil .nil) .nil)) (.node (o57v3 P tk tj) (.node (ob 89) (.node (o153v8 P tk tj) .nil .nil) .nil) (.node (o121v7 P tk tj) .nil .nil)))) (.node (o13v1 P tk tj) (.node (o21v2 P tk tj) (.node (o37v2 P tk tj) (.node (ob 69) (.node (o133v8 P tk tj) .nil .nil) .nil) (.node (o101v6 P tk tj) (.node (ob 165) .nil .nil) .nil)) (.node (o53v3 P tk tj) (.node (ob 85) (.node (o149v8 P tk tj) .nil .nil) .nil) (.node (o117v6 P tk tj) .nil .nil))) (.node (o29v2 P tk tj) (.node (o45v3 P tk tj) (.node (ob 77) (.node (o141v8 P tk tj) .nil .nil) .nil) (.node (o109v6 P tk tj) .nil .nil)) (.node (ob 61) (.node (ob 93) (.node (o157v9 P tk tj) .nil .nil) .nil) (.node (o125v7 P tk tj) .nil .nil)))))) (.node (boot_o_2 P) (.node (boot_o_4 P) (.node (boot_o_8 P) (.node (o16v2 P tk tj) (.node (o32v2 P tk tj) (.node (ob 64) (.node (o128v7 P tk tj) .nil .nil) .nil) (.node (ob 96) (.node (o160v9 P tk tj) .nil .nil) .nil)) (.node (o48v3 P tk tj) (.node (ob 80) (.node (o144v8 P tk tj) .nil .nil) .nil) (.node (o112v6 P tk tj) .nil .nil))) (.node (o24v2 P tk tj) (.node (o40v2 P tk tj) (.node (ob 72) (.node (o136v8 P tk tj) .nil .nil) .nil) (.node (o104v6 P tk tj) (.node (o168v12 P tk tj) .nil .nil) .nil)) (.node (o56v3 P tk tj) (.node (ob 88) (.node (o152v8 P tk tj) .nil .nil) .nil) (.node (o120v7 P tk tj) .nil .nil)))) (.node (o12v12 P tk tj) (.node (o20v2 P tk tj) (.node (o36v2 P tk tj) (.node (ob 68) (.node (o132v8 P tk tj) .nil .nil) .nil) (.node (o100v6 P tk tj) (.node (ob 164) .nil .nil) .nil)) (.node (o52v3 P tk tj) (.node (ob 84) (.node (o148v8 P tk tj) .nil .nil) .nil) (.node (o116v6 P tk tj) .nil .nil))) (.node (o28v2 P tk tj) (.node (o44v3 P tk tj) (.node (ob 76) (.node (o140v8 P tk tj) .nil .nil) .nil) (.node (o108v6 P tk tj) (.node (o172v12 P tk tj) .nil .nil) .nil)) (.node (o60v3 P tk tj) (.node (ob 92) (.node (o156v9 P tk tj) .nil .nil) .nil) (.node (o124v7 P tk tj) .nil .nil))))) (.node (boot_o_6 P) (.node (boot_o_10 P) (.node (o18v2 P tk tj) (.node (o34v2 P tk tj) (.node (ob 66) (.node (o130v7 P tk tj) .nil .nil) .nil) (.node (ob 98) (.node (ob 162) .nil .nil) .nil)) (.node (o50v3 P tk tj) (.node (ob 82) (.node (o146v8 P tk tj) .nil .nil) .nil) (.node (o114v6 P tk tj) .nil .nil))) (.node (o26v2 P tk tj) (.node (o42v2 P tk tj) (.node (ob 74) (.node (o138v8 P tk tj) .nil .nil) .nil) (.node (o106v6 P tk tj) (.node (o170v12 P tk tj) .nil .nil) .nil)) (.node (o58v3 P tk tj) (.node (ob 90) (.node (o154v8 P tk tj) .nil .nil) .nil) (.node (o122v7 P tk tj) .nil .nil)))) (.node (o14v1 P tk tj) (.node (o22v2 P tk tj) (.node (o38v2 P tk tj) (.node (ob 70) (.node (o134v8 P tk tj) .nil .nil) .nil) (.node (o102v6 P tk tj) (.node (o166v12 P tk tj) .nil .nil) .nil)) (.node (o54v3 P tk tj) (.node (ob 86) (.node (o150v8 P tk tj) .nil .nil) .nil) (.node (o118v6 P tk tj) .nil .nil))) (.node (o30v2 P tk tj) (.node (o46v3 P tk tj) (.node (ob 78) (.node (o142v8 P tk tj) .nil .nil) .nil) (.node (o110v6 P tk tj) .nil .nil)) (.node (ob 62) (.node (ob 94) (.node (o158v9 P tk tj) .nil .nil) .nil) (.node (o126v7 P tk tj) .nil .nil)))))))
noncomputable def S13 (w : World) (os : OsState) (ob : Nat → Obj) (tk tj : Nat) : SharedT := ⟨T13 w.params ob tk tj, 173, (@PySem.Life.mk [] [] [] 0 [] [] @Bool.false #[] [] 0 @Bool.false @Bool.false @Bool.false 0 [2000, 10, 10] @Bool.false 0 @Bool.true [] [] 0 @Bool.false), #[], boot_drawn, (tj + 110), os⟩
noncomputable def o3v14 (P : Params) (tk tj : Nat) : Obj := (@PySem.Obj.mk (.type "dict") none (@PySem.Data.dict #[(@PySem.DictEntry.mk (@PySem.PyData.keyHash P (PySem.Str.ofString "__name__")) (.str (PySem.Str.ofString "__name__") 165) (.str (PySem.Str.ofString "cpy313.token") (tj + 8))), (@PySem.DictEntry.mk (@PySem.PyData.keyHash P (PySem.Str.ofString "__doc__")) (.str (PySem.Str.ofString "__doc__") 166) PySem.Value.none), (@PySem.DictEntry.mk (@PySem.PyData.keyHash P (PySem.Str.ofString "__package__")) (.str (PySem.Str.ofString "__package__") 167) PySem.Value.none), (@PySem.DictEntry.mk (@PySem.PyData.keyHash P (PySem.Str.ofString "__loader__")) (.str (PySem.Str.ofString "__loader__") 168) (.builtin "__main__.__loader__#opaque")), (@PySem.DictEntry.mk (@PySem.PyData.keyHash P (PySem.Str.ofString "__spec__")) (.str (PySem.Str.ofString "__spec__") 169) PySem.Value.none), (@PySem.DictEntry.mk (@PySem.PyData.keyHash P (PySem.Str.ofString "__annotations__")) (.str (PySem.Str.ofString "__annotations__") 170) (.ref 6)), (@PySem.DictEntry.mk (@PySem.PyData.keyHash P (PySem.Str.ofString "__builtins__")) (.str (PySem.Str.ofString "__builtins__") 171) (.ref 4)), (@PySem.DictEntry.mk (@PySem.PyData.keyHash P (PySem.Str.ofString "__file__")) (.str (PySem.Str.ofString "__file__") 173) (.str (PySem.Str.ofString "/claim/cut.py") 172)), (@PySem.DictEntry.mk (@PySem.PyData.keyHash P (PySem.Str.ofString "__cached__")) (.str (PySem.Str.ofString "__cached__") 174) PySem.Value.none), (@PySem.DictEntry.mk (@PySem.PyData.keyHash P (PySem.Str.ofString "func_std_string")) (.str (PySem.Str.ofString "func_std_string") 196) (.ref 21)), (@PySem.DictEntry.mk (@PySem.PyData.keyHash P (PySem.Str.ofString "add_func_stats")) (.str (PySem.Str.ofString "add_func_stats") 214) (.ref 28)), (@PySem.DictEntry.mk (@PySem.PyData.keyHash P (PySem.Str.ofString "add_callers")) (.str (PySem.Str.ofString "add_callers") 225) (.ref 35)), (@PySem.DictEntry.mk (@PySem.PyData.keyHash P (PySem.Str.ofString "count_calls")) (.str (PySem.Str.ofString "count_calls") 234) (.ref 42)), (@PySem.DictEntry.mk (@PySem.PyData.keyHash P (PySem.Str.ofString "b1_set")) (.str (PySem.Str.ofString "b1_set") 296) (.ref 50)), (@PySem.DictEntry.mk (@PySem.PyData.keyHash P (PySem.Str.ofString "in_table_b1")) (.str (PySem.Str.ofString "in_table_b1") 303) (.ref 60)), (@PySem.DictEntry.mk (@PySem.PyData.keyHash P (PySem.Str.ofString "b3_exceptions")) (.str (PySem.Str.ofString "b3_exceptions") tk) (.ref 61)), (@PySem.DictEntry.mk (@PySem.PyData.keyHash P (PySem.Str.ofString "map_table_b3")) (.str (PySem.Str.ofString "map_table_b3") (tk + 8)) (.ref 106)), (@PySem.DictEntry.mk (@PySem.PyData.keyHash P (PySem.Str.ofString "c6_set")) (.str (PySem.Str.ofString "c6_set") (tk + 22)) (.ref 108)), (@PySem.DictEntry.mk (@PySem.PyData.keyHash P (PySem.Str.ofString "in_table_c6")) (.str (PySem.Str.ofString "in_table_c6") (tk + 29)) (.ref 118)), (@PySem.DictEntry.mk (@PySem.PyData.keyHash P (PySem.Str.ofString "c7_set")) (.str (PySem.Str.ofString "c7_set") (tk + 57)) (.ref 120)), (@PySem.DictEntry.mk (@PySem.PyData.keyHash P (PySem.Str.ofString "in_table_c7")) (.str (PySem.Str.ofString "in_table_c7") (tk + 64)) (.ref 130)), (@PySem.DictEntry.mk (@PySem.PyData.keyHash P (PySem.Str.ofString "c8_set")) (.str (PySem.Str.ofString "c8_set") (tk + 105)) (.ref 144)), (@PySem.DictEntry.mk (@PySem.PyData.keyHash P (PySem.Str.ofString "in_table_c8")) (.str (PySem.Str.ofString "in_table_c8") (tk + 112)) (.ref 154)), (@PySem.DictEntry.mk (@PySem.PyData.keyHash P (PySem.Str.ofString "c9_set")) (.str (PySem.Str.ofString "c9_set") tj) (.ref 162)), (@PySem.DictEntry.mk (@PySem.PyData.keyHash P (PySem.Str.ofString "in_table_c9")) (.str (PySem.Str.ofString "in_table_c9") (tj + 7)) (.ref 172)), (@PySem.DictEntry.mk (@PySem.PyData.keyHash P (PySem.Str.ofString "ENDMARKER")) (.str (PySem.Str.ofString "ENDMARKER") (tj + 11)) (.int 0 (tj + 10))), (@PySem.DictEntry.mk (@PySem.PyData.keyHash P (PySem.Str.ofString "LPAR")) (.str (PySem.Str.ofString "LPAR") (tj + 13)) (.int 7 (tj + 12))), (@PySem.DictEntry.mk (@PySem.PyData.keyHash P (PySem.Str.ofString "RPAR")) (.str (PySem.Str.ofString "RPAR") (tj + 15)) (.int 8 (tj + 14))), (@PySem.DictEntry.mk (@PySem.PyData.keyHash P (PySem.Str.ofString "LSQB")) (.str (PySem.Str.ofString "LSQB") (tj + 17)) (.int 9 (tj + 16))), (@PySem.DictEntry.mk (@PySem.PyData.keyHash P (PySem.Str.ofString "RSQB")) (.str (PySem.Str.ofString "RSQB") (tj + 19)) (.int 10 (tj + 18))), (@PySem.DictEntry.mk (@PySem.PyData.keyHash P (PySem.Str.ofString "COLON")) (.str (PySem.Str.ofString "COLON") (tj + 21)) (.int 11 (tj + 20))), (@PySem.DictEntry.mk (@PySem.PyData.keyHash P (PySem.Str.ofString "COMMA")) (.str (PySem.Str.ofString "COMMA") (tj + 23)) (.int 12 (tj + 22))), (@PySem.DictEntry.mk (@PySem.PyData.keyHash P (PySem.Str.ofString "SEMI")) (.str (PySem.Str.ofString "SEMI") (tj + 25)) (.int 13 (tj + 24))), (@PySem.DictEntry.mk (@PySem.PyData.keyHash P (PySem.Str.ofString "PLUS")) (.str (PySem.Str.ofString "PLUS") (tj + 27)) (.int 14 (tj + 26))), (@PySem.DictEntry.mk (@PySem.PyData.keyHash P (PySem.Str.ofString "MINUS")) (.str (PySem.Str.ofString "MINUS") (tj + 29)) (.int 15 (tj + 28))), (@PySem.DictEntry.mk (@PySem.PyData.keyHash P (PySem.Str.ofString "STAR")) (.str (PySem.Str.ofString "STAR") (tj + 31)) (.int 16 (tj + 30))), (@PySem.DictEntry.mk (@PySem.PyData.keyHash P (PySem.Str.ofString "SLASH")) (.str (PySem.Str.ofString "SLASH") (tj + 33)) (.int 17 (tj + 32))), (@PySem.DictEntry.mk (@PySem.PyData.keyHash P (PySem.Str.ofString "VBAR")) (.str (PySem.Str.ofString "VBAR") (tj + 35)) (.int 18 (tj + 34))), (@PySem.DictEntry.mk (@PySem.PyData.keyHash P (PySem.Str.ofString "AMPER")) (.str (PySem.Str.ofString "AMPER") (tj + 37)) (.int 19 (tj + 36))), (@PySem.DictEntry.mk (@PySem.PyData.keyHash P (PySem.Str.ofString "LESS")) (.str (PySem.Str.ofString "LESS") (tj + 39)) (.int 20 (tj + 38))), (@PySem.DictEntry.mk (@PySem.PyData.keyHash P (PySem.Str.ofString "GREATER")) (.str (PySem.Str.ofString "GREATER") (tj + 41)) (.int 21 (tj + 40))), (@PySem.DictEntry.mk (@PySem.PyData.keyHash P (PySem.Str.ofString "EQUAL")) (.str (PySem.Str.ofString "EQUAL") (tj + 43)) (.int 22 (tj + 42))), (@PySem.DictEntry.mk (@PySem.PyData.keyHash P (PySem.Str.ofString "DOT")) (.str (PySem.Str.ofString "DOT") (tj + 45)) (.int 23 (tj + 44))), (@PySem.DictEntry.mk (@PySem.PyData.keyHash P (PySem.Str.ofString "PERCENT")) (.str (PySem.Str.ofString "PERCENT") (tj + 47)) (.int 24 (tj + 46))), (@PySem.DictEntry.mk (@PySem.PyData.keyHash P (PySem.Str.ofString "LBRACE")) (.str (PySem.Str.ofString "LBRACE") (tj + 49)) (.int 25 (tj + 48))), (@PySem.DictEntry.mk (@PySem.PyData.keyHash P (PySem.Str.ofString "RBRACE")) (.str (PySem.Str.ofString "RBRACE") (tj + 51)) (.int 26 (tj + 50))), (@PySem.DictEntry.mk (@PySem.PyData.keyHash P (PySem.Str.ofString "EQEQUAL")) (.str (PySem.Str.ofString "EQEQUAL") (tj + 53)) (.int 27 (tj + 52))), (@PySem.DictEntry.mk (@PySem.PyData.keyHash P (PySem.Str.ofString "NOTEQUAL")) (.str (PySem.Str.ofString "NOTEQUAL") (tj + 55)) (.int 28 (tj + 54))), (@PySem.DictEntry.mk (@PySem.PyData.keyHash P (PySem.Str.ofString "LESSEQUAL")) (.str (PySem.Str.ofString "LESSEQUAL") (tj + 57)) (.int 29 (tj + 56))), (@PySem.DictEntry.mk (@PySem.PyData.keyHash P (PySem.Str.ofString "GREATEREQUAL")) (.str (PySem.Str.ofString "GREATEREQUAL") (tj + 59)) (.int 30 (tj + 58))), (@PySem.DictEntry.mk (@PySem.PyData.keyHash P (PySem.Str.ofString "TILDE")) (.str (PySem.Str.ofString "TILDE") (tj + 61)) (.int 31 (tj + 60))), (@PySem.DictEntry.mk (@PySem.PyData.keyHash P (PySem.Str.ofString "CIRCUMFLEX")) (.str (PySem.Str.ofString "CIRCUMFLEX") (tj + 63)) (.int 32 (tj + 62))), (@PySem.DictEntry.mk (@PySem.PyData.keyHash P (PySem.Str.ofString "LEFTSHIFT")) (.str (PySem.Str.ofString "LEFTSHIFT") (tj + 65)) (.int 33 (tj + 64))), (@PySem.DictEntry.mk (@PySem.PyData.keyHash P (PySem.Str.ofString "RIGHTSHIFT")) (.str (PySem.Str.ofString "RIGHTSHIFT") (tj + 67)) (.int 34 (tj + 66))), (@PySem.DictEntry.mk (@PySem.PyData.keyHash P (PySem.Str.ofString "DOUBLESTAR")) (.str (PySem.Str.ofString "DOUBLESTAR") (tj + 69)) (.int 35 (tj + 68))), (@PySem.DictEntry.mk (@PySem.PyData.keyHash P (PySem.Str.ofString "PLUSEQUAL")) (.str (PySem.Str.ofString "PLUSEQUAL") (tj + 71)) (.int 36 (tj + 70))), (@PySem.DictEntry.mk (@PySem.PyData.keyHash P (PySem.Str.ofString "MINEQUAL")) (.str (PySem.Str.ofString "MINEQUAL") (tj + 73)) (.int 37 (tj + 72))), (@PySem.DictEntry.mk (@PySem.PyData.keyHash P (PySem.Str.ofString "STAREQUAL")) (.str (PySem.Str.ofString "STAREQUAL") (tj + 75)) (.int 38 (tj + 74))), (@PySem.DictEntry.mk (@PySem.PyData.keyHash P (PySem.Str.ofString "SLASHEQUAL")) (.str (PySem.Str.ofString "SLASHEQUAL") (tj + 77)) (.int 39 (tj + 76))), (@PySem.DictEntry.mk (@PySem.PyData.keyHash P (PySem.Str.ofString "PERCENTEQUAL")) (.str (PySem.Str.ofString "PERCENTEQUAL") (tj + 79)) (.int 40 (tj + 78))), (@PySem.DictEntry.mk (@PySem.PyData.keyHash P (PySem.Str.ofString "AMPEREQUAL")) (.str (PySem.Str.ofString "AMPEREQUAL") (tj + 81)) (.int 41 (tj + 80))), (@PySem.DictEntry.mk (@PySem.PyData.keyHash P (PySem.Str.ofString "VBAREQUAL")) (.str (PySem.Str.ofString "VBAREQUAL") (tj + 83)) (.int 42 (tj + 82))), (@PySem.DictEntry.mk (@PySem.PyData.keyHash P (PySem.Str.ofString "CIRCUMFLEXEQUAL")) (.str (PySem.Str.ofString "CIRCUMFLEXEQUAL") (tj + 85)) (.int 43 (tj + 84))), (@PySem.DictEntry.mk (@PySem.PyData.keyHash P (PySem.Str.ofString "LEFTSHIFTEQUAL")) (.str (PySem.Str.ofString "LEFTSHIFTEQUAL") (tj + 87)) (.int 44 (tj + 86))), (@PySem.DictEntry.mk (@PySem.PyData.keyHash P (PySem.Str.ofString "RIGHTSHIFTEQUAL")) (.str (PySem.Str.ofString "RIGHTSHIFTEQUAL") (tj + 89)) (.int 45 (tj + 88))), (@PySem.DictEntry.mk (@PySem.PyData.keyHash P (PySem.Str.ofString "DOUBLESTAREQUAL")) (.str (PySem.Str.ofString "DOUBLESTAREQUAL") (tj + 91)) (.int 46 (tj + 90))), (@PySem.DictEntry.mk (@PySem.PyData.keyHash P (PySem.Str.ofString "DOUBLESLASH")) (.str (PySem.Str.ofString "DOUBLESLASH") (tj + 93)) (.int 47 (tj + 92))), (@PySem.DictEntry.mk (@PySem.PyData.keyHash P (PySem.Str.ofString "DOUBLESLASHEQUAL")) (.str (PySem.Str.ofString "DOUBLESLASHEQUAL") (tj + 95)) (.int 48 (tj + 94))), (@PySem.DictEntry.mk (@PySem.PyData.keyHash P (PySem.Str.ofString "AT")) (.str (PySem.Str.ofString "AT") (tj + 97)) (.int 49 (tj + 96))), (@PySem.DictEntry.mk (@PySem.PyData.keyHash P (PySem.Str.ofString "ATEQUAL")) (.str (PySem.Str.ofString "ATEQUAL") (tj + 99)) (.int 50 (tj + 98))), (@PySem.DictEntry.mk (@PySem.PyData.keyHash P (PySem.Str.ofString "RARROW")) (.str (PySem.Str.ofString "RARROW") (tj + 101)) (.int 51 (tj + 100))), (@PySem.DictEntry.mk (@PySem.PyData.keyHash P (PySem.Str.ofString "ELLIPSIS")) (.str (PySem.Str.ofString "ELLIPSIS") (tj + 103)) (.int 52 (tj + 102))), (@PySem.DictEntry.mk (@PySem.PyData.keyHash P (PySem.Str.ofString "COLONEQUAL")) (.str (PySem.Str.ofString "COLONEQUAL") (tj + 105)) (.int 53 (tj + 104))), (@PySem.DictEntry.mk (@PySem.PyData.keyHash P (PySem.Str.ofString "EXCLAMATION")) (.str (PySem.Str.ofString "EXCLAMATION") (tj + 107)) (.int 54 (tj + 106))), (@PySem.DictEntry.mk (@PySem.PyData.keyHash P (PySem.Str.ofString "NT_OFFSET")) (.str (PySem.Str.ofString "NT_OFFSET") (tj + 109)) (.int 256 (tj + 108))), (@PySem.DictEntry.mk (@PySem.PyData.keyHash P (PySem.Str.ofString "EXACT_TOKEN_TYPES")) (.str (PySem.Str.ofString "EXACT_TOKEN_TYPES") (tj + 206)) (.ref 173))] 76) #[])
noncomputable def o173v14 (P : Params) (tk tj : Nat) : Obj := (@PySem.Obj.mk (.type "dict") none (@PySem.Data.dict #[(@PySem.DictEntry.mk (@PySem.PyData.keyHash P (PySem.Str.ofString "!")) (.str (PySem.Str.ofString "!") (tj + 110)) (.int 54 (tj + 106))), (@PySem.DictEntry.mk (@PySem.PyData.keyHash P (PySem.Str.ofString "!=")) (.str (PySem.Str.ofString "!=") (tj + 112)) (.int 28 (tj + 54))), (@PySem.DictEntry.mk (@PySem.PyData.keyHash P (PySem.Str.ofString "%")) (.str (PySem.Str.ofString "%") (tj + 114)) (.int 24 (tj + 46))), (@PySem.DictEntry.mk (@PySem.PyData.keyHash P (PySem.Str.ofString "%=")) (.str (PySem.Str.ofString "%=") (tj + 116)) (.int 40 (tj + 78))), (@PySem.DictEntry.mk (@PySem.PyData.keyHash P (PySem.Str.ofString "&")) (.str (PySem.Str.ofString "&") (tj + 118)) (.int 19 (tj + 36))), (@PySem.DictEntry.mk (@PySem.PyData.keyHash P (PySem.Str.ofString "&=")) (.str (PySem.Str.ofString "&=") (tj + 120)) (.int 41 (tj + 80))), (@PySem.DictEntry.mk (@PySem.PyData.keyHash P (PySem.Str.ofString "(")) (.str (PySem.Str.ofString "(") (tj + 122)) (.int 7 (tj + 12))), (@PySem.DictEntry.mk (@PySem.PyData.keyHash P (PySem.Str.ofString ")")) (.str (PySem.Str.ofString ")") (tj + 124)) (.int 8 (tj + 14))), (@PySem.DictEntry.mk (@PySem.PyData.keyHash P (PySem.Str.ofString "*")) (.str (PySem.Str.ofString "*") (tj + 126)) (.int 16 (tj + 30))), (@PySem.DictEntry.mk (@PySem.PyData.keyHash P (PySem.Str.ofString "**")) (.str (PySem.Str.ofString "**") (tj + 128)) (.int 35 (tj + 68))), (@PySem.DictEntry.mk (@PySem.PyData.keyHash P (PySem.Str.ofString "**=")) (.str (PySem.Str.ofString "**=") (tj + 130)) (.int 46 (tj + 90))), (@PySem.DictEntry.mk (@PySem.PyData.keyHash P (PySem.Str.ofString "*=")) (.str (PySem.Str.ofString "*=") (tj + 132)) (.int 38 (tj + 74))), (@PySem.DictEntry.mk (@PySem.PyData.keyHash P (PySem.Str.ofString "+")) (.str (PySem.Str.ofString "+") (tj + 134)) (.int 14 (tj + 26))), (@PySem.DictEntry.mk (@PySem.PyData.keyHash P (PySem.Str.ofString "+=")) (.str (PySem.Str.ofString "+=") (tj + 136)) (.int 36 (tj + 70))), (@PySem.DictEntry.mk (@PySem.PyData.keyHash P (PySem.Str.ofString ",")) (.str (PySem.Str.ofString ",") (tj + 138)) (.int 12 (tj + 22))), (@PySem.DictEntry.mk (@PySem.PyData.keyHash P (PySem.Str.ofString "-")) (.str (PySem.Str.ofString "-") (tj + 140)) (.int 15 (tj + 28))), (@PySem.DictEntry.mk (@PySem.PyData.keyHash P (PySem.Str.ofString "-=")) (.str (PySem.Str.ofString "-=") (tj + 142)) (.int 37 (tj + 72))), (@PySem.DictEntry.mk (@PySem.PyData.keyHash P (PySem.Str.ofString "->")) (.str (PySem.Str.ofString "->") (tj + 144)) (.int 51 (tj + 100))), (@PySem.DictEntry.mk (@PySem.PyData.keyHash P (PySem.Str.ofString ".")) (.str (PySem.Str.ofString ".") (tj + 146)) (.int 23 (tj + 44))), (@PySem.DictEntry.mk (@PySem.PyData.keyHash P (PySem.Str.ofString "...")) (.str (PySem.Str.ofString "...") (tj + 148)) (.int 52 (tj + 102))), (@PySem.DictEntry.mk (@PySem.PyData.keyHash P (PySem.Str.ofString "/")) (.str (PySem.Str.ofString "/") (tj + 150)) (.int 17 (tj + 32))), (@PySem.DictEntry.mk (@PySem.PyData.keyHash P (PySem.Str.ofString "//")) (.str (PySem.Str.ofString "//") (tj + 152)) (.int 47 (tj + 92))), (@PySem.DictEntry.mk (@PySem.PyData.keyHash P (PySem.Str.ofString "//=")) (.str (PySem.Str.ofString "//=") (tj + 154)) (.int 48 (tj + 94))), (@PySem.DictEntry.mk (@PySem.PyData.keyHash P (PySem.Str.ofString "/=")) (.str (PySem.Str.ofString "/=") (tj + 156)) (.int 39 (tj + 76))), (@PySem.DictEntry.mk (@PySem.PyData.keyHash P (PySem.Str.ofString ":")) (.str (PySem.Str.ofString ":") (tj + 158)) (.int 11 (tj + 20))), (@PySem.DictEntry.mk (@PySem.PyData.keyHash P (PySem.Str.ofString ":=")) (.str (PySem.Str.ofString ":=") (tj + 160)) (.int 53 (tj + 104))), (@PySem.DictEntry.mk (@PySem.PyData.keyHash P (PySem.Str.ofString ";")) (.str (PySem.Str.ofString ";") (tj + 162)) (.int 13 (tj + 24))), (@PySem.DictEntry.mk (@PySem.PyData.keyHash P (PySem.Str.ofString "<")) (.str (PySem.Str.ofString "<") (tj + 164)) (.int 20 (tj + 38))), (@PySem.DictEntry.mk (@PySem.PyData.keyHash P (PySem.Str.ofString "<<")) (.str (PySem.Str.ofString "<<") (tj + 166)) (.int 33 (tj + 64))), (@PySem.DictEntry.mk (@PySem.PyData.keyHash P (PySem.Str.ofString "<<=")) (.str (PySem.Str.ofString "<<=") (tj + 168)) (.int 44 (tj + 86))), (@PySem.DictEntry.mk (@PySem.PyData.keyHash P (PySem.Str.ofString "<=")) (.str (PySem.Str.ofString "<=") (tj + 170)) (.int 29 (tj + 56))), (@PySem.DictEntry.mk (@PySem.PyData.keyHash P (PySem.Str.ofString "=")) (.str (PySem.Str.ofString "=") (tj + 172)) (.int 22 (tj + 42))), (@PySem.DictEntry.mk (@PySem.PyData.keyHash P (PySem.Str.ofString "==")) (.str (PySem.Str.ofString "==") (tj + 174)) (.int 27 (tj + 52))), (@PySem.DictEntry.mk (@PySem.PyData.keyHash P (PySem.Str.ofString ">")) (.str (PySem.Str.ofString ">") (tj + 176)) (.int 21 (tj + 40))), (@PySem.DictEntry.mk (@PySem.PyData.keyHash P (PySem.Str.ofString ">=")) (.str (PySem.Str.ofString ">=") (tj + 178)) (.int 30 (tj + 58))), (@PySem.DictEntry.mk (@PySem.PyData.keyHash P (PySem.Str.ofString ">>")) (.str (PySem.Str.ofString ">>") (tj + 179)) (.int 34 (tj + 66))), (@PySem.DictEntry.mk (@PySem.PyData.keyHash P (PySem.Str.ofString ">>=")) (.str (PySem.Str.ofString ">>=") (tj + 180)) (.int 45 (tj + 88))), (@PySem.DictEntry.mk (@PySem.PyData.keyHash P (PySem.Str.ofString "@")) (.str (PySem.Str.ofString "@") (tj + 181)) (.int 49 (tj + 96))), (@PySem.DictEntry.mk (@PySem.PyData.keyHash P (PySem.Str.ofString "@=")) (.str (PySem.Str.ofString "@=") (tj + 182)) (.int 50 (tj + 98))), (@PySem.DictEntry.mk (@PySem.PyData.keyHash P (PySem.Str.ofString "[")) (.str (PySem.Str.ofString "[") (tj + 183)) (.int 9 (tj + 16))), (@PySem.DictEntry.mk (@PySem.PyData.keyHash P (PySem.Str.ofString "]")) (.str (PySem.Str.ofString "]") (tj + 184)) (.int 10 (tj + 18))), (@PySem.DictEntry.mk (@PySem.PyData.keyHash P (PySem.Str.ofString "^")) (.str (PySem.Str.ofString "^") (tj + 185)) (.int 32 (tj + 62))), (@PySem.DictEntry.mk (@PySem.PyData.keyHash P (PySem.Str.ofString "^=")) (.str (PySem.Str.ofString "^=") (tj + 186)) (.int 43 (tj + 84))), (@PySem.DictEntry.mk (@PySem.PyData.keyHash P (PySem.Str.ofString "{")) (.str (PySem.Str.ofString "{") (tj + 187)) (.int 25 (tj + 48))), (@PySem.DictEntry.mk (@PySem.PyData.keyHash P (PySem.Str.ofString "|")) (.str (PySem.Str.ofString "|") (tj + 188)) (.int 18 (tj + 34))), (@PySem.DictEntry.mk (@PySem.PyData.keyHash P (PySem.Str.ofString "|=")) (.str (PySem.Str.ofString "|=") (tj + 189)) (.int 42 (tj + 82))), (@PySem.DictEntry.mk (@PySem.PyData.keyHash P (PySem.Str.ofString "}")) (.str (PySem.Str.ofString "}") (tj + 190)) (.int 26 (tj + 50))), (@PySem.DictEntry.mk (@PySem.PyData.keyHash P (PySem.Str.ofString "~")) (.str (PySem.Str.ofString "~") (tj + 191)) (.int 31 (tj + 60)))] 48) #[])
noncomputable def o174v14 (P : Params) (tk tj : Nat) : Obj := (@PySem.Obj.mk (.type "dict") none (@PySem.Data.dict #[(@PySem.DictEntry.mk (@PySem.PyData.keyHash P (PySem.Str.ofString "->")) (.str (PySem.Str.ofString "->") (tj + 144)) (.int 51 (tj + 100))), (@PySem.DictEntry.mk (@PySem.PyData.keyHash P (PySem.Str.ofString ".")) (.str (PySem.Str.ofString ".") (tj + 146)) (.int 23 (tj + 44))), (@PySem.DictEntry.mk (@PySem.PyData.keyHash P (PySem.Str.ofString "...")) (.str (PySem.Str.ofString "...") (tj + 148)) (.int 52 (tj + 102))), (@PySem.DictEntry.mk (@PySem.PyData.keyHash P (PySem.Str.ofString "/")) (.str (PySem.Str.ofString "/") (tj + 150)) (.int 17 (tj + 32))), (@PySem.DictEntry.mk (@PySem.PyData.keyHash P (PySem.Str.ofString "//")) (.str (PySem.Str.ofString "//") (tj + 152)) (.int 47 (tj + 92))), (@PySem.DictEntry.mk (@PySem.PyData.keyHash P (PySem.Str.ofString "//=")) (.str (PySem.Str.ofString "//=") (tj + 154)) (.int 48 (tj + 94))), (@PySem.DictEntry.mk (@PySem.PyData.keyHash P (PySem.Str.ofString "/=")) (.str (PySem.Str.ofString "/=") (tj + 156)) (.int 39 (tj + 76))), (@PySem.DictEntry.mk (@PySem.PyData.keyHash P (PySem.Str.ofString ":")) (.str (PySem.Str.ofString ":") (tj + 158)) (.int 11 (tj + 20))), (@PySem.DictEntry.mk (@PySem.PyData.keyHash P (PySem.Str.ofString ":=")) (.str (PySem.Str.ofString ":=") (tj + 160)) (.int 53 (tj + 104))), (@PySem.DictEntry.mk (@PySem.PyData.keyHash P (PySem.Str.ofString ";")) (.str (PySem.Str.ofString ";") (tj + 162)) (.int 13 (tj + 24))), (@PySem.DictEntry.mk (@PySem.PyData.keyHash P (PySem.Str.ofString "<")) (.str (PySem.Str.ofString "<") (tj + 164)) (.int 20 (tj + 38))), (@PySem.DictEntry.mk (@PySem.PyData.keyHash P (PySem.Str.ofString "<<")) (.str (PySem.Str.ofString "<<") (tj + 166)) (.int 33 (tj + 64))), (@PySem.DictEntry.mk (@PySem.PyData.keyHash P (PySem.Str.ofString "<<=")) (.str (PySem.Str.ofString "<<=") (tj + 168)) (.int 44 (tj + 86))), (@PySem.DictEntry.mk (@PySem.PyData.keyHash P (PySem.Str.ofString "<=")) (.str (PySem.Str.ofString "<=") (tj + 170)) (.int 29 (tj + 56))), (@PySem.DictEntry.mk (@PySem.PyData.keyHash P (PySem.Str.ofString "=")) (.str (PySem.Str.ofString "=") (tj + 172)) (.int 22 (tj + 42))), (@PySem.DictEntry.mk (@PySem.PyData.keyHash P (PySem.Str.ofString "==")) (.str (PySem.Str.ofString "==") (tj + 174)) (.int 27 (tj + 52))), (@PySem.DictEntry.mk (@PySem.PyData.keyHash P (PySem.Str.ofString ">")) (.str (PySem.Str.ofString ">") (tj + 176)) (.int 21 (tj + 40)))] 17) #[])
noncomputable def o175v14 (P : Params) (tk tj : Nat) : Obj := (@PySem.Obj.mk (.type "dict") none (@PySem.Data.dict #[(@PySem.DictEntry.mk (@PySem.PyData.keyHash P (PySem.Str.ofString ">=")) (.str (PySem.Str.ofString ">=") (tj + 178)) (.int 30 (tj + 58))), (@PySem.DictEntry.mk (@PySem.PyData.keyHash P (PySem.Str.ofString ">>")) (.str (PySem.Str.ofString ">>") (tj + 179)) (.int 34 (tj + 66))), (@PySem.DictEntry.mk (@PySem.PyData.keyHash P (PySem.Str.ofString ">>=")) (.str (PySem.Str.ofString ">>=") (tj + 180)) (.int 45 (tj + 88))), (@PySem.DictEntry.mk (@PySem.PyData.keyHash P (PySem.Str.ofString "@")) (.str (PySem.Str.ofString "@") (tj + 181)) (.int 49 (tj + 96))), (@PySem.DictEntry.mk (@PySem.PyData.keyHash P (PySem.Str.ofString "@=")) (.str (PySem.Str.ofString "@=") (tj + 182)) (.int 50 (tj + 98))), (@PySem.DictEntry.mk (@PySem.PyData.keyHash P (PySem.Str.ofString "[")) (.str (PySem.Str.ofString "[") (tj + 183)) (.int 9 (tj + 16))), (@PySem.DictEntry.mk (@PySem.PyData.keyHash P (PySem.Str.ofString "]")) (.str (PySem.Str.ofString "]") (tj + 184)) (.int 10 (tj + 18))), (@PySem.DictEntry.mk (@PySem.PyData.keyHash P (PySem.Str.ofString "^")) (.str (PySem.Str.ofString "^") (tj + 185)) (.int 32 (tj + 62))), (@PySem.DictEntry.mk (@PySem.PyData.keyHash P (PySem.Str.ofString "^=")) (.str (PySem.Str.ofString "^=") (tj + 186)) (.int 43 (tj + 84))), (@PySem.DictEntry.mk (@PySem.PyData.keyHash P (PySem.Str.ofString "{")) (.str (PySem.Str.ofString "{") (tj + 187)) (.int 25 (tj + 48))), (@PySem.DictEntry.mk (@PySem.PyData.keyHash P (PySem.Str.ofString "|")) (.str (PySem.Str.ofString "|") (tj + 188)) (.int 18 (tj + 34))), (@PySem.DictEntry.mk (@PySem.PyData.keyHash P (PySem.Str.ofString "|=")) (.str (PySem.Str.ofString "|=") (tj + 189)) (.int 42 (tj + 82))), (@PySem.DictEntry.mk (@PySem.PyData.keyHash P (PySem.Str.ofString "}")) (.str (PySem.Str.ofString "}") (tj + 190)) (.int 26 (tj + 50))), (@PySem.DictEntry.mk (@PySem.PyData.keyHash P (PySem.Str.ofString "~")) (.str (PySem.Str.ofString "~") (tj + 191)) (.int 31 (tj + 60)))] 14) #[])
noncomputable def T14 (P : Params) (ob : Nat → Obj) (tk tj : Nat) : BT := (.node (boot_o_0 P) (.node (boot_o_1 P) (.node (o3v14 P tk tj) (.node (boot_o_7 P) (.node (o15v2 P tk tj) (.node (o31v2 P tk tj) (.node (ob 63) (.node (o127v7 P tk tj) .nil .nil) .nil) (.node (ob 95) (.node (o159v9 P tk tj) .nil .nil) .nil)) (.node (o47v3 P tk tj) (.node (ob 79) (.node (o143v8 P tk tj) .nil .nil) .nil) (.node (o111v6 P tk tj) (.node (o175v14 P tk tj) .nil .nil) .nil))) (.node (o23v2 P tk tj) (.node (o39v2 P tk tj) (.node (ob 71) (.node (o135v8 P tk tj) .nil .nil) .nil) (.node (o103v6 P tk tj) (.node (o167v12 P tk tj) .nil .nil) .nil)) (.node (o55v3 P tk tj) (.node (ob 87) (.node (o151v8 P tk tj) .nil .nil) .nil) (.node (o119v7 P tk tj) .nil .nil)))) (.node (o11v1 P tk tj) (.node (o19v2 P tk tj) (.node (o35v2 P tk tj) (.node (ob 67) (.node (o131v8 P tk tj) .nil .nil) .nil) (.node (ob 99) (.node (ob 163) .nil .nil) .nil)) (.node (o51v3 P tk tj) (.node (ob 83) (.node (o147v8 P tk tj) .nil .nil) .nil) (.node (o115v6 P tk tj) .nil .nil))) (.node (o27v2 P tk tj) (.node (o43v3 P tk tj) (.node (ob 75) (.node (o139v8 P tk tj) .nil .nil) .nil) (.node (o107v6 P tk tj) (.node (o171v12 P tk tj) .nil .nil) .nil)) (.node (o59v3 P tk tj) (.node (ob 91) (.node (o155v9 P tk tj) .nil .nil) .nil) (.node (o123v7 P tk tj) .nil .nil))))) (.node (boot_o_5 P) (.node (boot_o_9 P) (.node (o17v2 P tk tj) (.node (o33v2 P tk tj) (.node (ob 65) (.node (o129v7 P tk tj) .nil .nil) .nil) (.node (ob 97) (.node (o161v9 P tk tj) .nil .nil) .nil)) (.node (o49v3 P tk tj) (.node (ob 81) (.node (o145v8 P tk tj) .nil .nil) .nil) (.node (o113v6 P tk tj) .nil .nil))) (.node (o25v2 P tk tj) (.node (o41v2 P tk tj) (.node (ob 73) (.node (o137v8 P tk tj) .nil .nil) .nil) (.node (o105v6 P tk tj) (.node (o169v12 P tk tj) .nil .nil) .nil)) (.node (o57v3 P tk tj) (.node (ob 89) (.node (o153v8 P tk tj) .nil .nil) .nil) (.node (o121v7 P tk tj) .nil .nil)))) (.node (o13v1 P tk tj) (.node (o21v2 P tk tj) (.node (o37v2 P tk tj) (.node (ob 69) (.node (o133v8 P tk tj) .nil .nil) .nil) (.node (o101v6 P tk tj) (.node (ob 165) .nil .nil) .nil)) (.node (o53v3 P tk tj) (.node (ob 85) (.node (o149v8 P tk tj) .nil .nil) .nil) (.node (o117v6 P tk tj) .nil .nil))) (.node (o29v2 P tk tj) (.node (o45v3 P tk tj) (.node (ob 77) (.node (o141v8 P tk tj) .nil .nil) .nil) (.node (o109v6 P tk tj) (.node (o173v14 P tk tj) .nil .nil) .nil)) (.node (ob 61) (.node (ob 93) (.node (o157v9 P tk tj) .nil .nil) .nil) (.node (o125v7 P tk tj) .nil .nil)))))) (.node (boot_o_2 P) (.node (boot_o_4 P) (.node (boot_o_8 P) (.node (o16v2 P tk tj) (.node (o32v2 P tk tj) (.node (ob 64) (.node (o128v7 P tk tj) .nil .nil) .nil) (.node (ob 96) (.node (o160v9 P tk tj) .nil .nil) .nil)) (.node (o48v3 P tk tj) (.node (ob 80) (.node (o144v8 P tk tj) .nil .nil) .nil) (.node (o112v6 P tk tj) .nil .nil))) (.node (o24v2 P tk tj) (.node (o40v2 P tk tj) (.node (ob 72) (.node (o136v8 P tk tj) .nil .nil) .nil) (.node (o104v6 P tk tj) (.node (o168v12 P tk tj) .nil .nil) .nil)) (.node (o56v3 P tk tj) (.node (ob 88) (.node (o152v8 P tk tj) .nil .nil) .nil) (.node (o120v7 P tk tj) .nil .nil)))) (.node (o12v12 P tk tj) (.node (o20v2 P tk tj) (.node (o36v2 P tk tj) (.node (ob 68) (.node (o132v8 P tk tj) .nil .nil) .nil) (.node (o100v6 P tk tj) (.node (ob 164) .nil .nil) .nil)) (.node (o52v3 P tk tj) (.node (ob 84) (.node (o148v8 P tk tj) .nil .nil) .nil) (.node (o116v6 P tk tj) .nil .nil))) (.node (o28v2 P tk tj) (.node (o44v3 P tk tj) (.node (ob 76) (.node (o140v8 P tk tj) .nil .nil) .nil) (.node (o108v6 P tk tj) (.node (o172v12 P tk tj) .nil .nil) .nil)) (.node (o60v3 P tk tj) (.node (ob 92) (.node (o156v9 P tk tj) .nil .nil) .nil) (.node (o124v7 P tk tj) .nil .nil))))) (.node (boot_o_6 P) (.node (boot_o_10 P) (.node (o18v2 P tk tj) (.node (o34v2 P tk tj) (.node (ob 66) (.node (o130v7 P tk tj) .nil .nil) .nil) (.node (ob 98) (.node (ob 162) .nil .nil) .nil)) (.node (o50v3 P tk tj) (.node (ob 82) (.node (o146v8 P tk tj) .nil .nil) .nil) (.node (o114v6 P tk tj) .nil .nil))) (.node (o26v2 P tk tj) (.node (o42v2 P tk tj) (.node (ob 74) (.node (o138v8 P tk tj) .nil .nil) .nil) (.node (o106v6 P tk tj) (.node (o170v12 P tk tj) .nil .nil) .nil)) (.node (o58v3 P tk tj) (.node (ob 90) (.node (o154v8 P tk tj) .nil .nil) .nil) (.node (o122v7 P tk tj) .nil .nil)))) (.node (o14v1 P tk tj) (.node (o22v2 P tk tj) (.node (o38v2 P tk tj) (.node (ob 70) (.node (o134v8 P tk tj) .nil .nil) .nil) (.node (o102v6 P tk tj) (.node (o166v12 P tk tj) .nil .nil) .nil)) (.node (o54v3 P tk tj) (.node (ob 86) (.node (o150v8 P tk tj) .nil .nil) .nil) (.node (o118v6 P tk tj) .nil .nil))) (.node (o30v2 P tk tj) (.node (o46v3 P tk tj) (.node (ob 78) (.node (o142v8 P tk tj) .nil .nil) .nil) (.node (o110v6 P tk tj) (.node (o174v14 P tk tj) .nil .nil) .nil)) (.node (ob 62) (.node (ob 94) (.node (o158v9 P tk tj) .nil .nil) .nil) (.node (o126v7 P tk tj) .nil .nil)))))))
noncomputable def S14 (w : World) (os : OsState) (ob : Nat → Obj) (tk tj : Nat) : SharedT := ⟨T14 w.params ob tk tj, 176, (@PySem.Life.mk [] [] [] 0 [] [] @Bool.false #[] [] 0 @Bool.false @Bool.false @Bool.false 0 [2000, 10, 10] @Bool.false 0 @Bool.true [] [] 0 @Bool.false), #[], boot_drawn, (tj + 207), os⟩
noncomputable def o3v15 (P : Params) (tk tj : Nat) : Obj := (@PySem.Obj.mk (.type "dict") none (@PySem.Data.dict #[(@PySem.DictEntry.mk (@PySem.PyData.keyHash P (PySem.Str.ofString "__name__")) (.str (PySem.Str.ofString "__name__") 165) (.str (PySem.Str.ofString "law_zd0020_01") (tj + 228))), (@PySem.DictEntry.mk (@PySem.PyData.keyHash P (PySem.Str.ofString "__doc__")) (.str (PySem.Str.ofString "__doc__") 166) PySem.Value.none), (@PySem.DictEntry.mk (@PySem.PyData.keyHash P (PySem.Str.ofString "__package__")) (.str (PySem.Str.ofString "__package__") 167) PySem.Value.none), (@PySem.DictEntry.mk (@PySem.PyData.keyHash P (PySem.Str.ofString "__loader__")) (.str (PySem.Str.ofString "__loader__") 168) (.builtin "__main__.__loader__#opaque")), (@PySem.DictEntry.mk (@PySem.PyData.keyHash P (PySem.Str.ofString "__spec__")) (.str (PySem.Str.ofString "__spec__") 169) PySem.Value.none), (@PySem.DictEntry.mk (@PySem.PyData.keyHash P (PySem.Str.ofString "__annotations__")) (.str (PySem.Str.ofString "__annotations__") 170) (.ref 6)), (@PySem.DictEntry.mk (@PySem.PyData.keyHash P (PySem.Str.ofString "__builtins__")) (.str (PySem.Str.ofString "__builtins__") 171) (.ref 4)), (@PySem.DictEntry.mk (@PySem.PyData.keyHash P (PySem.Str.ofString "__file__")) (.str (PySem.Str.ofString "__file__") 173) (.str (PySem.Str.ofString "/claim/cut.py") 172)), (@PySem.DictEntry.mk (@PySem.PyData.keyHash P (PySem.Str.ofString "__cached__")) (.str (PySem.Str.ofString "__cached__") 174) PySem.Value.none), (@PySem.DictEntry.mk (@PySem.PyData.keyHash P (PySem.Str.ofString "func_std_string")) (.str (PySem.Str.ofString "func_std_string") 196) (.ref 21)), (@PySem.DictEntry.mk (@PySem.PyData.keyHash P (PySem.Str.ofString "add_func_stats")) (.str (PySem.Str.ofString "add_func_stats") 214) (.ref 28)), (@PySem.DictEntry.mk (@PySem.PyData.keyHash P (PySem.Str.ofString "add_callers")) (.str (PySem.Str.ofString "add_callers") 225) (.ref 35)), (@PySem.DictEntry.mk (@PySem.PyData.keyHash P (PySem.Str.ofString "count_calls")) (.str (PySem.Str.ofString "count_calls") 234) (.ref 42)), (@PySem.DictEntry.mk (@PySem.PyData.keyHash P (PySem.Str.ofString "b1_set")) (.str (PySem.Str.ofString "b1_set") 296) (.ref 50)), (@PySem.DictEntry.mk (@PySem.PyData.keyHash P (PySem.Str.ofString "in_table_b1")) (.str (PySem.Str.ofString "in_table_b1") 303) (.ref 60)), (@PySem.DictEntry.mk (@PySem.PyData.keyHash P (PySem.Str.ofString "b3_exceptions")) (.str (PySem.Str.ofString "b3_exceptions") tk) (.ref 61)), (@PySem.DictEntry.mk (@PySem.PyData.keyHash P (PySem.Str.ofString "map_table_b3")) (.str (PySem.Str.ofString "map_table_b3") (tk + 8)) (.ref 106)), (@PySem.DictEntry.mk (@PySem.PyData.keyHash P (PySem.Str.ofString "c6_set")) (.str (PySem.Str.ofString "c6_set") (tk + 22)) (.ref 108)), (@PySem.DictEntry.mk (@PySem.PyData.keyHash P (PySem.Str.ofString "in_table_c6")) (.str (PySem.Str.ofString "in_table_c6") (tk + 29)) (.ref 118)), (@PySem.DictEntry.mk (@PySem.PyData.keyHash P (PySem.Str.ofString "c7_set")) (.str (PySem.Str.ofString "c7_set") (tk + 57)) (.ref 120)), (@PySem.DictEntry.mk (@PySem.PyData.keyHash P (PySem.Str.ofString "in_table_c7")) (.str (PySem.Str.ofString "in_table_c7") (tk + 64)) (.ref 130)), (@PySem.DictEntry.mk (@PySem.PyData.keyHash P (PySem.Str.ofString "c8_set")) (.str (PySem.Str.ofString "c8_set") (tk + 105)) (.ref 144)), (@PySem.DictEntry.mk (@PySem.PyData.keyHash P (PySem.Str.ofString "in_table_c8")) (.str (PySem.Str.ofString "in_table_c8") (tk + 112)) (.ref 154)), (@PySem.DictEntry.mk (@PySem.PyData.keyHash P (PySem.Str.ofString "c9_set")) (.str (PySem.Str.ofString "c9_set") tj) (.ref 162)), (@PySem.DictEntry.mk (@PySem.PyData.keyHash P (PySem.Str.ofString "in_table_c9")) (.str (PySem.Str.ofString "in_table_c9") (tj + 7)) (.ref 172)), (@PySem.DictEntry.mk (@PySem.PyData.keyHash P (PySem.Str.ofString "ENDMARKER")) (.str (PySem.Str.ofString "ENDMARKER") (tj + 11)) (.int 0 (tj + 10))), (@PySem.DictEntry.mk (@PySem.PyData.keyHash P (PySem.Str.ofString "LPAR")) (.str (PySem.Str.ofString "LPAR") (tj + 13)) (.int 7 (tj + 12))), (@PySem.DictEntry.mk (@PySem.PyData.keyHash P (PySem.Str.ofString "RPAR")) (.str (PySem.Str.ofString "RPAR") (tj + 15)) (.int 8 (tj + 14))), (@PySem.DictEntry.mk (@PySem.PyData.keyHash P (PySem.Str.ofString "LSQB")) (.str (PySem.Str.ofString "LSQB") (tj + 17)) (.int 9 (tj + 16))), (@PySem.DictEntry.mk (@PySem.PyData.keyHash P (PySem.Str.ofString "RSQB")) (.str (PySem.Str.ofString "RSQB") (tj + 19)) (.int 10 (tj + 18))), (@PySem.DictEntry.mk (@PySem.PyData.keyHash P (PySem.Str.ofString "COLON")) (.str (PySem.Str.ofString "COLON") (tj + 21)) (.int 11 (tj + 20))), (@PySem.DictEntry.mk (@PySem.PyData.keyHash P (PySem.Str.ofString "COMMA")) (.str (PySem.Str.ofString "COMMA") (tj + 23)) (.int 12 (tj + 22))), (@PySem.DictEntry.mk (@PySem.PyData.keyHash P (PySem.Str.ofString "SEMI")) (.str (PySem.Str.ofString "SEMI") (tj + 25)) (.int 13 (tj + 24))), (@PySem.DictEntry.mk (@PySem.PyData.keyHash P (PySem.Str.ofString "PLUS")) (.str (PySem.Str.ofString "PLUS") (tj + 27)) (.int 14 (tj + 26))), (@PySem.DictEntry.mk (@PySem.PyData.keyHash P (PySem.Str.ofString "MINUS")) (.str (PySem.Str.ofString "MINUS") (tj + 29)) (.int 15 (tj + 28))), (@PySem.DictEntry.mk (@PySem.PyData.keyHash P (PySem.Str.ofString "STAR")) (.str (PySem.Str.ofString "STAR") (tj + 31)) (.int 16 (tj + 30))), (@PySem.DictEntry.mk (@PySem.PyData.keyHash P (PySem.Str.ofString "SLASH")) (.str (PySem.Str.ofString "SLASH") (tj + 33)) (.int 17 (tj + 32))), (@PySem.DictEntry.mk (@PySem.PyData.keyHash P (PySem.Str.ofString "VBAR")) (.str (PySem.Str.ofString "VBAR") (tj + 35)) (.int 18 (tj + 34))), (@PySem.DictEntry.mk (@PySem.PyData.keyHash P (PySem.Str.ofString "AMPER")) (.str (PySem.Str.ofString "AMPER") (tj + 37)) (.int 19 (tj + 36))), (@PySem.DictEntry.mk (@PySem.PyData.keyHash P (PySem.Str.ofString "LESS")) (.str (PySem.Str.ofString "LESS") (tj + 39)) (.int 20 (tj + 38))), (@PySem.DictEntry.mk (@PySem.PyData.keyHash P (PySem.Str.ofString "GREATER")) (.str (PySem.Str.ofString "GREATER") (tj + 41)) (.int 21 (tj + 40))), (@PySem.DictEntry.mk (@PySem.PyData.keyHash P (PySem.Str.ofString "EQUAL")) (.str (PySem.Str.ofString "EQUAL") (tj + 43)) (.int 22 (tj + 42))), (@PySem.DictEntry.mk (@PySem.PyData.keyHash P (PySem.Str.ofString "DOT")) (.str (PySem.Str.ofString "DOT") (tj + 45)) (.int 23 (tj + 44))), (@PySem.DictEntry.mk (@PySem.PyData.keyHash P (PySem.Str.ofString "PERCENT")) (.str (PySem.Str.ofString "PERCENT") (tj + 47)) (.int 24 (tj + 46))), (@PySem.DictEntry.mk (@PySem.PyData.keyHash P (PySem.Str.ofString "LBRACE")) (.str (PySem.Str.ofString "LBRACE") (tj + 49)) (.int 25 (tj + 48))), (@PySem.DictEntry.mk (@PySem.PyData.keyHash P (PySem.Str.ofString "RBRACE")) (.str (PySem.Str.ofString "RBRACE") (tj + 51)) (.int 26 (tj + 50))), (@PySem.DictEntry.mk (@PySem.PyData.keyHash P (PySem.Str.ofString "EQEQUAL")) (.str (PySem.Str.ofString "EQEQUAL") (tj + 53)) (.int 27 (tj + 52))), (@PySem.DictEntry.mk (@PySem.PyData.keyHash P (PySem.Str.ofString "NOTEQUAL")) (.str (PySem.Str.ofString "NOTEQUAL") (tj + 55)) (.int 28 (tj + 54))), (@PySem.DictEntry.mk (@PySem.PyData.keyHash P (PySem.Str.ofString "LESSEQUAL")) (.str (PySem.Str.ofString "LESSEQUAL") (tj + 57)) (.int 29 (tj + 56))), (@PySem.DictEntry.mk (@PySem.PyData.keyHash P (PySem.Str.ofString "GREATEREQUAL")) (.str (PySem.Str.ofString "GREATEREQUAL") (tj + 59)) (.int 30 (tj + 58))), (@PySem.DictEntry.mk (@PySem.PyData.keyHash P (PySem.Str.ofString "TILDE")) (.str (PySem.Str.ofString "TILDE") (tj + 61)) (.int 31 (tj + 60))), (@PySem.DictEntry.mk (@PySem.PyData.keyHash P (PySem.Str.ofString "CIRCUMFLEX")) (.str (PySem.Str.ofString "CIRCUMFLEX") (tj + 63)) (.int 32 (tj + 62))), (@PySem.DictEntry.mk (@PySem.PyData.keyHash P (PySem.Str.ofString "LEFTSHIFT")) (.str (PySem.Str.ofString "LEFTSHIFT") (tj + 65)) (.int 33 (tj + 64))), (@PySem.DictEntry.mk (@PySem.PyData.keyHash P (PySem.Str.ofString "RIGHTSHIFT")) (.str (PySem.Str.ofString "RIGHTSHIFT") (tj + 67)) (.int 34 (tj + 66))), (@PySem.DictEntry.mk (@PySem.PyData.keyHash P (PySem.Str.ofString "DOUBLESTAR")) (.str (PySem.Str.ofString "DOUBLESTAR") (tj + 69)) (.int 35 (tj + 68))), (@PySem.DictEntry.mk (@PySem.PyData.keyHash P (PySem.Str.ofString "PLUSEQUAL")) (.str (PySem.Str.ofString "PLUSEQUAL") (tj + 71)) (.int 36 (tj + 70))), (@PySem.DictEntry.mk (@PySem.PyData.keyHash P (PySem.Str.ofString "MINEQUAL")) (.str (PySem.Str.ofString "MINEQUAL") (tj + 73)) (.int 37 (tj + 72))), (@PySem.DictEntry.mk (@PySem.PyData.keyHash P (PySem.Str.ofString "STAREQUAL")) (.str (PySem.Str.ofString "STAREQUAL") (tj + 75)) (.int 38 (tj + 74))), (@PySem.DictEntry.mk (@PySem.PyData.keyHash P (PySem.Str.ofString "SLASHEQUAL")) (.str (PySem.Str.ofString "SLASHEQUAL") (tj + 77)) (.int 39 (tj + 76))), (@PySem.DictEntry.mk (@PySem.PyData.keyHash P (PySem.Str.ofString "PERCENTEQUAL")) (.str (PySem.Str.ofString "PERCENTEQUAL") (tj + 79)) (.int 40 (tj + 78))), (@PySem.DictEntry.mk (@PySem.PyData.keyHash P (PySem.Str.ofString "AMPEREQUAL")) (.str (PySem.Str.ofString "AMPEREQUAL") (tj + 81)) (.int 41 (tj + 80))), (@PySem.DictEntry.mk (@PySem.PyData.keyHash P (PySem.Str.ofString "VBAREQUAL")) (.str (PySem.Str.ofString "VBAREQUAL") (tj + 83)) (.int 42 (tj + 82))), (@PySem.DictEntry.mk (@PySem.PyData.keyHash P (PySem.Str.ofString "CIRCUMFLEXEQUAL")) (.str (PySem.Str.ofString "CIRCUMFLEXEQUAL") (tj + 85)) (.int 43 (tj + 84))), (@PySem.DictEntry.mk (@PySem.PyData.keyHash P (PySem.Str.ofString "LEFTSHIFTEQUAL")) (.str (PySem.Str.ofString "LEFTSHIFTEQUAL") (tj + 87)) (.int 44 (tj + 86))), (@PySem.DictEntry.mk (@PySem.PyData.keyHash P (PySem.Str.ofString "RIGHTSHIFTEQUAL")) (.str (PySem.Str.ofString "RIGHTSHIFTEQUAL") (tj + 89)) (.int 45 (tj + 88))), (@PySem.DictEntry.mk (@PySem.PyData.keyHash P (PySem.Str.ofString "DOUBLESTAREQUAL")) (.str (PySem.Str.ofString "DOUBLESTAREQUAL") (tj + 91)) (.int 46 (tj + 90))), (@PySem.DictEntry.mk (@PySem.PyData.keyHash P (PySem.Str.ofString "DOUBLESLASH")) (.str (PySem.Str.ofString "DOUBLESLASH") (tj + 93)) (.int 47 (tj + 92))), (@PySem.DictEntry.mk (@PySem.PyData.keyHash P (PySem.Str.ofString "DOUBLESLASHEQUAL")) (.str (PySem.Str.ofString "DOUBLESLASHEQUAL") (tj + 95)) (.int 48 (tj + 94))), (@PySem.DictEntry.mk (@PySem.PyData.keyHash P (PySem.Str.ofString "AT")) (.str (PySem.Str.ofString "AT") (tj + 97)) (.int 49 (tj + 96))), (@PySem.DictEntry.mk (@PySem.PyData.keyHash P (PySem.Str.ofString "ATEQUAL")) (.str (PySem.Str.ofString "ATEQUAL") (tj + 99)) (.int 50 (tj + 98))), (@PySem.DictEntry.mk (@PySem.PyData.keyHash P (PySem.Str.ofString "RARROW")) (.str (PySem.Str.ofString "RARROW") (tj + 101)) (.int 51 (tj + 100))), (@PySem.DictEntry.mk (@PySem.PyData.keyHash P (PySem.Str.ofString "ELLIPSIS")) (.str (PySem.Str.ofString "ELLIPSIS") (tj + 103)) (.int 52 (tj + 102))), (@PySem.DictEntry.mk (@PySem.PyData.keyHash P (PySem.Str.ofString "COLONEQUAL")) (.str (PySem.Str.ofString "COLONEQUAL") (tj + 105)) (.int 53 (tj + 104))), (@PySem.DictEntry.mk (@PySem.PyData.keyHash P (PySem.Str.ofString "EXCLAMATION")) (.str (PySem.Str.ofString "EXCLAMATION") (tj + 107)) (.int 54 (tj + 106))), (@PySem.DictEntry.mk (@PySem.PyData.keyHash P (PySem.Str.ofString "NT_OFFSET")) (.str (PySem.Str.ofString "NT_OFFSET") (tj + 109)) (.int 256 (tj + 108))), (@PySem.DictEntry.mk (@PySem.PyData.keyHash P (PySem.Str.ofString "EXACT_TOKEN_TYPES")) (.str (PySem.Str.ofString "EXACT_TOKEN_TYPES") (tj + 206)) (.ref 173)), (@PySem.DictEntry.mk (@PySem.PyData.keyHash P (PySem.Str.ofString "ISTERMINAL")) (.str (PySem.Str.ofString "ISTERMINAL") (tj + 213)) (.ref 182)), (@PySem.DictEntry.mk (@PySem.PyData.keyHash P (PySem.Str.ofString "ISNONTERMINAL")) (.str (PySem.Str.ofString "ISNONTERMINAL") (tj + 220)) (.ref 189)), (@PySem.DictEntry.mk (@PySem.PyData.keyHash P (PySem.Str.ofString "ISEOF")) (.str (PySem.Str.ofString "ISEOF") (tj + 227)) (.ref 196)), (@PySem.DictEntry.mk (@PySem.PyData.keyHash P (PySem.Str.ofString "_law_plan")) (.str (PySem.Str.ofString "_law_plan") (tj + 235)) (.ref 201)), (@PySem.DictEntry.mk (@PySem.PyData.keyHash P (PySem.Str.ofString "_law_read")) (.str (PySem.Str.ofString "_law_read") (tj + 241)) (.ref 206)), (@PySem.DictEntry.mk (@PySem.PyData.keyHash P (PySem.Str.ofString "_law_run")) (.str (PySem.Str.ofString "_law_run") (tj + 247)) (.ref 211)), (@PySem.DictEntry.mk (@PySem.PyData.keyHash P (PySem.Str.ofString "_law_often")) (.str (PySem.Str.ofString "_law_often") (tj + 253)) (.ref 216)), (@PySem.DictEntry.mk (@PySem.PyData.keyHash P (PySem.Str.ofString "law")) (.str (PySem.Str.ofString "law") (tj + 259)) (.ref 221))] 84) #[])
noncomputable def o12v15 (P : Params) (tk tj : Nat) : Obj := (@PySem.Obj.mk PySem.Value.none none (@PySem.Data.fields #[(.int 2 0), (.int 0 0), (.ref 20), (.int 11 0), (.int 0 0), (.ref 27), (.int 15 0), (.int 0 0), (.ref 34), (.int 28 0), (.int 0 0), (.ref 41), (.int 35 0), (.int 0 0), (.ref 59), (.int 38 0), (.int 0 0), (.ref 105), (.int 44 0), (.int 0 0), (.ref 117), (.int 47 0), (.int 0 0), (.ref 129), (.int 50 0), (.int 0 0), (.ref 153), (.int 53 0), (.int 0 0), (.ref 171), (.int 107 0), (.int 0 0), (.ref 181), (.int 109 0), (.int 0 0), (.ref 188), (.int 111 0), (.int 0 0), (.ref 195), (.int 114 0), (.int 0 0), (.ref 200), (.int 134 0), (.int 0 0), (.ref 205), (.int 159 0), (.int 0 0), (.ref 210), (.int 174 0), (.int 0 0), (.ref 215), (.int 186 0), (.int 0 0), (.ref 220)]) #[])
noncomputable def o176v15 (P : Params) (tk tj : Nat) : Obj := (@PySem.Obj.mk (.type "tuple") none (@PySem.Data.seq #[] 0) #[])
noncomputable def o177v15 (P : Params) (tk tj : Nat) : Obj := (@PySem.Obj.mk PySem.Value.none none (@PySem.Data.fields #[]) #[])
noncomputable def o178v15 (P : Params) (tk tj : Nat) : Obj := (@PySem.Obj.mk (.type "tuple") none (@PySem.Data.seq #[(.str (PySem.Str.ofString "x") (tj + 210))] 0) #[])
noncomputable def o179v15 (P : Params) (tk tj : Nat) : Obj := (@PySem.Obj.mk (.type "tuple") none (@PySem.Data.seq #[] 0) #[])
noncomputable def o180v15 (P : Params) (tk tj : Nat) : Obj := PySem.Obj.mk PySem.Value.none none (.func (fnFix 70 (@PySem.FuncData.mk (PySem.Str.ofString "ISTERMINAL") (PySem.Str.ofString "ISTERMINAL") (@PySem.Arguments.mk [] [] none [] [] none []) (@PySem.FuncBody.stmts []) (@PySem.Scope.mk @PySem.ScopeKind.function [] @Bool.false @Bool.false []) 0 [] PySem.Value.none PySem.Value.none PySem.Value.none PySem.Value.none none PySem.Value.none PySem.Value.none 0))) #[]
noncomputable def o181v15 (P : Params) (tk tj : Nat) : Obj := PySem.Obj.mk (.type "code") none (.fields #[(.str (PySem.Str.ofString "ISTERMINAL") (tj + 207)), (.str (PySem.Str.ofString "ISTERMINAL") (tj + 208)), (.str (PySem.Str.ofString "/claim/cut.py") (tj + 209)), (.int 107 0), (.int 1 0), (.int 0 0), (.int 0 0), (.int 3 0), (.ref 176), (@PySem.Value.bool @Bool.true), (.int 181 0), (.ref 177), PySem.Value.none, (.ref 178), (.ref 179), (.ref 180), (.int (Int.ofNat (tj + 211)) 0), (.int 107 0), (.str (PySem.Str.ofString "/claim/cut.py") (tj + 212))]) #[]
noncomputable def o182v15 (P : Params) (tk tj : Nat) : Obj := PySem.Obj.mk (.type "function") none (.func (fnFix 70 (@PySem.FuncData.mk (PySem.Str.ofString "ISTERMINAL") (PySem.Str.ofString "ISTERMINAL") (@PySem.Arguments.mk [] [] none [] [] none []) (@PySem.FuncBody.stmts []) (@PySem.Scope.mk @PySem.ScopeKind.function [] @Bool.false @Bool.false []) 3 [] PySem.Value.none PySem.Value.none PySem.Value.none (.str (PySem.Str.ofString "cpy313.token") (tj + 8)) none (.ref 181) PySem.Value.none 0))) #[]
noncomputable def o183v15 (P : Params) (tk tj : Nat) : Obj := (@PySem.Obj.mk (.type "tuple") none (@PySem.Data.seq #[] 0) #[])
noncomputable def o184v15 (P : Params) (tk tj : Nat) : Obj := (@PySem.Obj.mk PySem.Value.none none (@PySem.Data.fields #[]) #[])
noncomputable def o185v15 (P : Params) (tk tj : Nat) : Obj := (@PySem.Obj.mk (.type "tuple") none (@PySem.Data.seq #[(.str (PySem.Str.ofString "x") (tj + 217))] 0) #[])
noncomputable def o186v15 (P : Params) (tk tj : Nat) : Obj := (@PySem.Obj.mk (.type "tuple") none (@PySem.Data.seq #[] 0) #[])
noncomputable def o187v15 (P : Params) (tk tj : Nat) : Obj := PySem.Obj.mk PySem.Value.none none (.func (fnFix 71 (@PySem.FuncData.mk (PySem.Str.ofString "ISNONTERMINAL") (PySem.Str.ofString "ISNONTERMINAL") (@PySem.Arguments.mk [] [] none [] [] none []) (@PySem.FuncBody.stmts []) (@PySem.Scope.mk @PySem.ScopeKind.function [] @Bool.false @Bool.false []) 0 [] PySem.Value.none PySem.Value.none PySem.Value.none PySem.Value.none none PySem.Value.none PySem.Value.none 0))) #[]
noncomputable def o188v15 (P : Params) (tk tj : Nat) : Obj := PySem.Obj.mk (.type "code") none (.fields #[(.str (PySem.Str.ofString "ISNONTERMINAL") (tj + 214)), (.str (PySem.Str.ofString "ISNONTERMINAL") (tj + 215)), (.str (PySem.Str.ofString "/claim/cut.py") (tj + 216)), (.int 109 0), (.int 1 0), (.int 0 0), (.int 0 0), (.int 3 0), (.ref 183), (@PySem.Value.bool @Bool.true), (.int 181 0), (.ref 184), PySem.Value.none, (.ref 185), (.ref 186), (.ref 187), (.int (Int.ofNat (tj + 218)) 0), (.int 109 0), (.str (PySem.Str.ofString "/claim/cut.py") (tj + 219))]) #[]
noncomputable def o189v15 (P : Params) (tk tj : Nat) : Obj := PySem.Obj.mk (.type "function") none (.func (fnFix 71 (@PySem.FuncData.mk (PySem.Str.ofString "ISNONTERMINAL") (PySem.Str.ofString "ISNONTERMINAL") (@PySem.Arguments.mk [] [] none [] [] none []) (@PySem.FuncBody.stmts []) (@PySem.Scope.mk @PySem.ScopeKind.function [] @Bool.false @Bool.false []) 3 [] PySem.Value.none PySem.Value.none PySem.Value.none (.str (PySem.Str.ofString "cpy313.token") (tj + 8)) none (.ref 188) PySem.Value.none 0))) #[]
noncomputable def o190v15 (P : Params) (tk tj : Nat) : Obj := (@PySem.Obj.mk (.type "tuple") none (@PySem.Data.seq #[] 0) #[])
noncomputable def o191v15 (P : Params) (tk tj : Nat) : Obj := (@PySem.Obj.mk PySem.Value.none none (@PySem.Data.fields #[]) #[])
noncomputable def o192v15 (P : Params) (tk tj : Nat) : Obj := (@PySem.Obj.mk (.type "tuple") none (@PySem.Data.seq #[(.str (PySem.Str.ofString "x") (tj + 224))] 0) #[])
noncomputable def o193v15 (P : Params) (tk tj : Nat) : Obj := (@PySem.Obj.mk (.type "tuple") none (@PySem.Data.seq #[] 0) #[])
noncomputable def o194v15 (P : Params) (tk tj : Nat) : Obj := PySem.Obj.mk PySem.Value.none none (.func (fnFix 72 (@PySem.FuncData.mk (PySem.Str.ofString "ISEOF") (PySem.Str.ofString "ISEOF") (@PySem.Arguments.mk [] [] none [] [] none []) (@PySem.FuncBody.stmts []) (@PySem.Scope.mk @PySem.ScopeKind.function [] @Bool.false @Bool.false []) 0 [] PySem.Value.none PySem.Value.none PySem.Value.none PySem.Value.none none PySem.Value.none PySem.Value.none 0))) #[]
noncomputable def o195v15 (P : Params) (tk tj : Nat) : Obj := PySem.Obj.mk (.type "code") none (.fields #[(.str (PySem.Str.ofString "ISEOF") (tj + 221)), (.str (PySem.Str.ofString "ISEOF") (tj + 222)), (.str (PySem.Str.ofString "/claim/cut.py") (tj + 223)), (.int 111 0), (.int 1 0), (.int 0 0), (.int 0 0), (.int 3 0), (.ref 190), (@PySem.Value.bool @Bool.true), (.int 181 0), (.ref 191), PySem.Value.none, (.ref 192), (.ref 193), (.ref 194), (.int (Int.ofNat (tj + 225)) 0), (.int 111 0), (.str (PySem.Str.ofString "/claim/cut.py") (tj + 226))]) #[]
noncomputable def o196v15 (P : Params) (tk tj : Nat) : Obj := PySem.Obj.mk (.type "function") none (.func (fnFix 72 (@PySem.FuncData.mk (PySem.Str.ofString "ISEOF") (PySem.Str.ofString "ISEOF") (@PySem.Arguments.mk [] [] none [] [] none []) (@PySem.FuncBody.stmts []) (@PySem.Scope.mk @PySem.ScopeKind.function [] @Bool.false @Bool.false []) 3 [] PySem.Value.none PySem.Value.none PySem.Value.none (.str (PySem.Str.ofString "cpy313.token") (tj + 8)) none (.ref 195) PySem.Value.none 0))) #[]
noncomputable def o197v15 (P : Params) (tk tj : Nat) : Obj := (@PySem.Obj.mk (.type "tuple") none (@PySem.Data.seq #[] 0) #[])
noncomputable def o198v15 (P : Params) (tk tj : Nat) : Obj := (@PySem.Obj.mk PySem.Value.none none (@PySem.Data.fields #[]) #[])
noncomputable def o199v15 (P : Params) (tk tj : Nat) : Obj := PySem.Obj.mk PySem.Value.none none (.func (fnFix 74 (@PySem.FuncData.mk (PySem.Str.ofString "_law_plan") (PySem.Str.ofString "_law_plan") (@PySem.Arguments.mk [] [] none [] [] none []) (@PySem.FuncBody.stmts []) (@PySem.Scope.mk @PySem.ScopeKind.function [] @Bool.false @Bool.false []) 0 [] PySem.Value.none PySem.Value.none PySem.Value.none PySem.Value.none none PySem.Value.none PySem.Value.none 0))) #[]
noncomputable def o200v15 (P : Params) (tk tj : Nat) : Obj := PySem.Obj.mk (.type "code") none (.fields #[(.str (PySem.Str.ofString "_law_plan") (tj + 230)), (.str (PySem.Str.ofString "_law_plan") (tj + 231)), (.str (PySem.Str.ofString "/claim/cut.py") (tj + 232)), (.int 114 0), (.int 1 0), (.int 0 0), (.int 0 0), (.int 3 0), (.ref 197), (@PySem.Value.bool @Bool.true), (.int 181 0), (.ref 198), PySem.Value.none, PySem.Value.none, PySem.Value.none, (.ref 199), (.int (Int.ofNat (tj + 233)) 0), (.int 114 0), (.str (PySem.Str.ofString "/claim/cut.py") (tj + 234))]) #[]
noncomputable def o201v15 (P : Params) (tk tj : Nat) : Obj := PySem.Obj.mk (.type "function") none (.func (fnFix 74 (@PySem.FuncData.mk (PySem.Str.ofString "_law_plan") (PySem.Str.ofString "_law_plan") (@PySem.Arguments.mk [] [] none [] [] none []) (@PySem.FuncBody.stmts []) (@PySem.Scope.mk @PySem.ScopeKind.function [] @Bool.false @Bool.false []) 3 [] PySem.Value.none PySem.Value.none PySem.Value.none (.str (PySem.Str.ofString "law_zd0020_01") (tj + 228)) none (.ref 200) PySem.Value.none 0))) #[]
noncomputable def o202v15 (P : Params) (tk tj : Nat) : Obj := (@PySem.Obj.mk (.type "tuple") none (@PySem.Data.seq #[] 0) #[])
noncomputable def o203v15 (P : Params) (tk tj : Nat) : Obj := (@PySem.Obj.mk PySem.Value.none none (@PySem.Data.fields #[]) #[])
noncomputable def o204v15 (P : Params) (tk tj : Nat) : Obj := PySem.Obj.mk PySem.Value.none none (.func (fnFix 75 (@PySem.FuncData.mk (PySem.Str.ofString "_law_read") (PySem.Str.ofString "_law_read") (@PySem.Arguments.mk [] [] none [] [] none []) (@PySem.FuncBody.stmts []) (@PySem.Scope.mk @PySem.ScopeKind.function [] @Bool.false @Bool.false []) 0 [] PySem.Value.none PySem.Value.none PySem.Value.none PySem.Value.none none PySem.Value.none PySem.Value.none 0))) #[]
noncomputable def o205v15 (P : Params) (tk tj : Nat) : Obj := PySem.Obj.mk (.type "code") none (.fields #[(.str (PySem.Str.ofString "_law_read") (tj + 236)), (.str (PySem.Str.ofString "_law_read") (tj + 237)), (.str (PySem.Str.ofString "/claim/cut.py") (tj + 238)), (.int 134 0), (.int 1 0), (.int 0 0), (.int 0 0), (.int 3 0), (.ref 202), (@PySem.Value.bool @Bool.true), (.int 181 0), (.ref 203), PySem.Value.none, PySem.Value.none, PySem.Value.none, (.ref 204), (.int (Int.ofNat (tj + 239)) 0), (.int 134 0), (.str (PySem.Str.ofString "/claim/cut.py") (tj + 240))]) #[]
noncomputable def o206v15 (P : Params) (tk tj : Nat) : Obj := PySem.Obj.mk (.type "function") none (.func (fnFix 75 (@PySem.FuncData.mk (PySem.Str.ofString "_law_read") (PySem.Str.ofString "_law_read") (@PySem.Arguments.mk [] [] none [] [] none []) (@PySem.FuncBody.stmts []) (@PySem.Scope.mk @PySem.ScopeKind.function [] @Bool.false @Bool.false []) 3 [] PySem.Value.none PySem.Value.none PySem.Value.none (.str (PySem.Str.ofString "law_zd0020_01") (tj + 228)) none (.ref 205) PySem.Value.none 0))) #[]
noncomputable def o207v15 (P : Params) (tk tj : Nat) : Obj := (@PySem.Obj.mk (.type "tuple") none (@PySem.Data.seq #[] 0) #[])
noncomputable def o208v15 (P : Params) (tk tj : Nat) : Obj := (@PySem.Obj.mk PySem.Value.none none (@PySem.Data.fields #[]) #[])
noncomputable def o209v15 (P : Params) (tk tj : Nat) : Obj := PySem.Obj.mk PySem.Value.none none (.func (fnFix 76 (@PySem.FuncData.mk (PySem.Str.ofString "_law_run") (PySem.Str.ofString "_law_run") (@PySem.Arguments.mk [] [] none [] [] none []) (@PySem.FuncBody.stmts []) (@PySem.Scope.mk @PySem.ScopeKind.function [] @Bool.false @Bool.false []) 0 [] PySem.Value.none PySem.Value.none PySem.Value.none PySem.Value.none none PySem.Value.none PySem.Value.none 0))) #[]
noncomputable def o210v15 (P : Params) (tk tj : Nat) : Obj := PySem.Obj.mk (.type "code") none (.fields #[(.str (PySem.Str.ofString "_law_run") (tj + 242)), (.str (PySem.Str.ofString "_law_run") (tj + 243)), (.str (PySem.Str.ofString "/claim/cut.py") (tj + 244)), (.int 159 0), (.int 3 0), (.int 0 0), (.int 0 0), (.int 3 0), (.ref 207), (@PySem.Value.bool @Bool.true), (.int 181 0), (.ref 208), PySem.Value.none, PySem.Value.none, PySem.Value.none, (.ref 209), (.int (Int.ofNat (tj + 245)) 0), (.int 159 0), (.str (PySem.Str.ofString "/claim/cut.py") (tj + 246))]) #[]
noncomputable def o211v15 (P : Params) (tk tj : Nat) : Obj := PySem.Obj.mk (.type "function") none (.func (fnFix 76 (@PySem.FuncData.mk (PySem.Str.ofString "_law_run") (PySem.Str.ofString "_law_run") (@PySem.Arguments.mk [] [] none [] [] none []) (@PySem.FuncBody.stmts []) (@PySem.Scope.mk @PySem.ScopeKind.function [] @Bool.false @Bool.false []) 3 [] PySem.Value.none PySem.Value.none PySem.Value.none (.str (PySem.Str.ofString "law_zd0020_01") (tj + 228)) none (.ref 210) PySem.Value.none 0))) #[]
noncomputable def o212v15 (P : Params) (tk tj : Nat) : Obj := (@PySem.Obj.mk (.type "tuple") none (@PySem.Data.seq #[] 0) #[])
noncomputable def o213v15 (P : Params) (tk tj : Nat) : Obj := (@PySem.Obj.mk PySem.Value.none none (@PySem.Data.fields #[]) #[])
noncomputable def o214v15 (P : Params) (tk tj : Nat) : Obj := PySem.Obj.mk PySem.Value.none none (.func (fnFix 77 (@PySem.FuncData.mk (PySem.Str.ofString "_law_often") (PySem.Str.ofString "_law_often") (@PySem.Arguments.mk [] [] none [] [] none []) (@PySem.FuncBody.stmts []) (@PySem.Scope.mk @PySem.ScopeKind.function [] @Bool.false @Bool.false []) 0 [] PySem.Value.none PySem.Value.none PySem.Value.none PySem.Value.none none PySem.Value.none PySem.Value.none 0))) #[]
noncomputable def o215v15 (P : Params) (tk tj : Nat) : Obj := PySem.Obj.mk (.type "code") none (.fields #[(.str (PySem.Str.ofString "_law_often") (tj + 248)), (.str (PySem.Str.ofString "_law_often") (tj + 249)), (.str (PySem.Str.ofString "/claim/cut.py") (tj + 250)), (.int 174 0), (.int 2 0), (.int 0 0), (.int 0 0), (.int 3 0), (.ref 212), (@PySem.Value.bool @Bool.true), (.int 181 0), (.ref 213), PySem.Value.none, PySem.Value.none, PySem.Value.none, (.ref 214), (.int (Int.ofNat (tj + 251)) 0), (.int 174 0), (.str (PySem.Str.ofString "/claim/cut.py") (tj + 252))]) #[]
noncomputable def o216v15 (P : Params) (tk tj : Nat) : Obj := PySem.Obj.mk (.type "function") none (.func (fnFix 77 (@PySem.FuncData.mk (PySem.Str.ofString "_law_often") (PySem.Str.ofString "_law_often") (@PySem.Arguments.mk [] [] none [] [] none []) (@PySem.FuncBody.stmts []) (@PySem.Scope.mk @PySem.ScopeKind.function [] @Bool.false @Bool.false []) 3 [] PySem.Value.none PySem.Value.none PySem.Value.none (.str (PySem.Str.ofString "law_zd0020_01") (tj + 228)) none (.ref 215) PySem.Value.none 0))) #[]
noncomputable def o217v15 (P : Params) (tk tj : Nat) : Obj := (@PySem.Obj.mk (.type "tuple") none (@PySem.Data.seq #[] 0) #[])
noncomputable def o218v15 (P : Params) (tk tj : Nat) : Obj := (@PySem.Obj.mk PySem.Value.none none (@PySem.Data.fields #[]) #[])
noncomputable def o219v15 (P : Params) (tk tj : Nat) : Obj := PySem.Obj.mk PySem.Value.none none (.func (fnFix 78 (@PySem.FuncData.mk (PySem.Str.ofString "law") (PySem.Str.ofString "law") (@PySem.Arguments.mk [] [] none [] [] none []) (@PySem.FuncBody.stmts []) (@PySem.Scope.mk @PySem.ScopeKind.function [] @Bool.false @Bool.false []) 0 [] PySem.Value.none PySem.Value.none PySem.Value.none PySem.Value.none none PySem.Value.none PySem.Value.none 0))) #[]
noncomputable def o220v15 (P : Params) (tk tj : Nat) : Obj := PySem.Obj.mk (.type "code") none (.fields #[(.str (PySem.Str.ofString "law") (tj + 254)), (.str (PySem.Str.ofString "law") (tj + 255)), (.str (PySem.Str.ofString "/claim/cut.py") (tj + 256)), (.int 186 0), (.int 1 0), (.int 0 0), (.int 0 0), (.int 3 0), (.ref 217), (@PySem.Value.bool @Bool.true), (.int 181 0), (.ref 218), PySem.Value.none, PySem.Value.none, PySem.Value.none, (.ref 219), (.int (Int.ofNat (tj + 257)) 0), (.int 186 0), (.str (PySem.Str.ofString "/claim/cut.py") (tj + 258))]) #[]
noncomputable def o221v15 (P : Params) (tk tj : Nat) : Obj := PySem.Obj.mk (.type "function") none (.func (fnFix 78 (@PySem.FuncData.mk (PySem.Str.ofString "law") (PySem.Str.ofString "law") (@PySem.Arguments.mk [] [] none [] [] none []) (@PySem.FuncBody.stmts []) (@PySem.Scope.mk @PySem.ScopeKind.function [] @Bool.false @Bool.false []) 3 [] PySem.Value.none PySem.Value.none PySem.Value.none (.str (PySem.Str.ofString "law_zd0020_01") (tj + 228)) none (.ref 220) PySem.Value.none 0))) #[]
noncomputable def T15 (P : Params) (ob : Nat → Obj) (tk tj : Nat) : BT := (.node (boot_o_0 P) (.node (boot_o_1 P) (.node (o3v15 P tk tj) (.node (boot_o_7 P) (.node (o15v2 P tk tj) (.node (o31v2 P tk tj) (.node (ob 63) (.node (o127v7 P tk tj) .nil .nil) (.node (o191v15 P tk tj) .nil .nil)) (.node (ob 95) (.node (o159v9 P tk tj) .nil .nil) .nil)) (.node (o47v3 P tk tj) (.node (ob 79) (.node (o143v8 P tk tj) .nil .nil) (.node (o207v15 P tk tj) .nil .nil)) (.node (o111v6 P tk tj) (.node (o175v14 P tk tj) .nil .nil) .nil))) (.node (o23v2 P tk tj) (.node (o39v2 P tk tj) (.node (ob 71) (.node (o135v8 P tk tj) .nil .nil) (.node (o199v15 P tk tj) .nil .nil)) (.node (o103v6 P tk tj) (.node (o167v12 P tk tj) .nil .nil) .nil)) (.node (o55v3 P tk tj) (.node (ob 87) (.node (o151v8 P tk tj) .nil .nil) (.node (o215v15 P tk tj) .nil .nil)) (.node (o119v7 P tk tj) (.node (o183v15 P tk tj) .nil .nil) .nil)))) (.node (o11v1 P tk tj) (.node (o19v2 P tk tj) (.node (o35v2 P tk tj) (.node (ob 67) (.node (o131v8 P tk tj) .nil .nil) (.node (o195v15 P tk tj) .nil .nil)) (.node (ob 99) (.node (ob 163) .nil .nil) .nil)) (.node (o51v3 P tk tj) (.node (ob 83) (.node (o147v8 P tk tj) .nil .nil) (.node (o211v15 P tk tj) .nil .nil)) (.node (o115v6 P tk tj) (.node (o179v15 P tk tj) .nil .nil) .nil))) (.node (o27v2 P tk tj) (.node (o43v3 P tk tj) (.node (ob 75) (.node (o139v8 P tk tj) .nil .nil) (.node (o203v15 P tk tj) .nil .nil)) (.node (o107v6 P tk tj) (.node (o171v12 P tk tj) .nil .nil) .nil)) (.node (o59v3 P tk tj) (.node (ob 91) (.node (o155v9 P tk tj) .nil .nil) (.node (o219v15 P tk tj) .nil .nil)) (.node (o123v7 P tk tj) (.node (o187v15 P tk tj) .nil .nil) .nil))))) (.node (boot_o_5 P) (.node (boot_o_9 P) (.node (o17v2 P tk tj) (.node (o33v2 P tk tj) (.node (ob 65) (.node (o129v7 P tk tj) .nil .nil) (.node (o193v15 P tk tj) .nil .nil)) (.node (ob 97) (.node (o161v9 P tk tj) .nil .nil) .nil)) (.node (o49v3 P tk tj) (.node (ob 81) (.node (o145v8 P tk tj) .nil .nil) (.node (o209v15 P tk tj) .nil .nil)) (.node (o113v6 P tk tj) (.node (o177v15 P tk tj) .nil .nil) .nil))) (.node (o25v2 P tk tj) (.node (o41v2 P tk tj) (.node (ob 73) (.node (o137v8 P tk tj) .nil .nil) (.node (o201v15 P tk tj) .nil .nil)) (.node (o105v6 P tk tj) (.node (o169v12 P tk tj) .nil .nil) .nil)) (.node (o57v3 P tk tj) (.node (ob 89) (.node (o153v8 P tk tj) .nil .nil) (.node (o217v15 P tk tj) .nil .nil)) (.node (o121v7 P tk tj) (.node (o185v15 P tk tj) .nil .nil) .nil)))) (.node (o13v1 P tk tj) (.node (o21v2 P tk tj) (.node (o37v2 P tk tj) (.node (ob 69) (.node (o133v8 P tk tj) .nil .nil) (.node (o197v15 P tk tj) .nil .nil)) (.node (o101v6 P tk tj) (.node (ob 165) .nil .nil) .nil)) (.node (o53v3 P tk tj) (.node (ob 85) (.node (o149v8 P tk tj) .nil .nil) (.node (o213v15 P tk tj) .nil .nil)) (.node (o117v6 P tk tj) (.node (o181v15 P tk tj) .nil .nil) .nil))) (.node (o29v2 P tk tj) (.node (o45v3 P tk tj) (.node (ob 77) (.node (o141v8 P tk tj) .nil .nil) (.node (o205v15 P tk tj) .nil .nil)) (.node (o109v6 P tk tj) (.node (o173v14 P tk tj) .nil .nil) .nil)) (.node (ob 61) (.node (ob 93) (.node (o157v9 P tk tj) .nil .nil) (.node (o221v15 P tk tj) .nil .nil)) (.node (o125v7 P tk tj) (.node (o189v15 P tk tj) .nil .nil) .nil)))))) (.node (boot_o_2 P) (.node (boot_o_4 P) (.node (boot_o_8 P) (.node (o16v2 P tk tj) (.node (o32v2 P tk tj) (.node (ob 64) (.node (o128v7 P tk tj) .nil .nil) (.node (o192v15 P tk tj) .nil .nil)) (.node (ob 96) (.node (o160v9 P tk tj) .nil .nil) .nil)) (.node (o48v3 P tk tj) (.node (ob 80) (.node (o144v8 P tk tj) .nil .nil) (.node (o208v15 P tk tj) .nil .nil)) (.node (o112v6 P tk tj) (.node (o176v15 P tk tj) .nil .nil) .nil))) (.node (o24v2 P tk tj) (.node (o40v2 P tk tj) (.node (ob 72) (.node (o136v8 P tk tj) .nil .nil) (.node (o200v15 P tk tj) .nil .nil)) (.node (o104v6 P tk tj) (.node (o168v12 P tk tj) .nil .nil) .nil)) (.node (o56v3 P tk tj) (.node (ob 88) (.node (o152v8 P tk tj) .nil .nil) (.node (o216v15 P tk tj) .nil .nil)) (.node (o120v7 P tk tj) (.node (o184v15 P tk tj) .nil .nil) .nil)))) (.node (o12v15 P tk tj) (.node (o20v2 P tk tj) (.node (o36v2 P tk tj) (.node (ob 68) (.node (o132v8 P tk tj) .nil .nil) (.node (o196v15 P tk tj) .nil .nil)) (.node (o100v6 P tk tj) (.node (ob 164) .nil .nil) .nil)) (.node (o52v3 P tk tj) (.node (ob 84) (.node (o148v8 P tk tj) .nil .nil) (.node (o212v15 P tk tj) .nil .nil)) (.node (o116v6 P tk tj) (.node (o180v15 P tk tj) .nil .nil) .nil))) (.node (o28v2 P tk tj) (.node (o44v3 P tk tj) (.node (ob 76) (.node (o140v8 P tk tj) .nil .nil) (.node (o204v15 P tk tj) .nil .nil)) (.node (o108v6 P tk tj) (.node (o172v12 P tk tj) .nil .nil) .nil)) (.node (o60v3 P tk tj) (.node (ob 92) (.node (o156v9 P tk tj) .nil .nil) (.node (o220v15 P tk tj) .nil .nil)) (.node (o124v7 P tk tj) (.node (o188v15 P tk tj) .nil .nil) .nil))))) (.node (boot_o_6 P) (.node (boot_o_10 P) (.node (o18v2 P tk tj) (.node (o34v2 P tk tj) (.node (ob 66) (.node (o130v7 P tk tj) .nil .nil) (.node (o194v15 P tk tj) .nil .nil)) (.node (ob 98) (.node (ob 162) .nil .nil) .nil)) (.node (o50v3 P tk tj) (.node (ob 82) (.node (o146v8 P tk tj) .nil .nil) (.node (o210v15 P tk tj) .nil .nil)) (.node (o114v6 P tk tj) (.node (o178v15 P tk tj) .nil .nil) .nil))) (.node (o26v2 P tk tj) (.node (o42v2 P tk tj) (.node (ob 74) (.node (o138v8 P tk tj) .nil .nil) (.node (o202v15 P tk tj) .nil .nil)) (.node (o106v6 P tk tj) (.node (o170v12 P tk tj) .nil .nil) .nil)) (.node (o58v3 P tk tj) (.node (ob 90) (.node (o154v8 P tk tj) .nil .nil) (.node (o218v15 P tk tj) .nil .nil)) (.node (o122v7 P tk tj) (.node (o186v15 P tk tj) .nil .nil) .nil)))) (.node (o14v1 P tk tj) (.node (o22v2 P tk tj) (.node (o38v2 P tk tj) (.node (ob 70) (.node (o134v8 P tk tj) .nil .nil) (.node (o198v15 P tk tj) .nil .nil)) (.node (o102v6 P tk tj) (.node (o166v12 P tk tj) .nil .nil) .nil)) (.node (o54v3 P tk tj) (.node (ob 86) (.node (o150v8 P tk tj) .nil .nil) (.node (o214v15 P tk tj) .nil .nil)) (.node (o118v6 P tk tj) (.node (o182v15 P tk tj) .nil .nil) .nil))) (.node (o30v2 P tk tj) (.node (o46v3 P tk tj) (.node (ob 78) (.node (o142v8 P tk tj) .nil .nil) (.node (o206v15 P tk tj) .nil .nil)) (.node (o110v6 P tk tj) (.node (o174v14 P tk tj) .nil .nil) .nil)) (.node (ob 62) (.node (ob 94) (.node (o158v9 P tk tj) .nil .nil) .nil) (.node (o126v7 P tk tj) (.node (o190v15 P tk tj) .nil .nil) .nil)))))))
noncomputable def S15 (w : World) (os : OsState) (ob : Nat → Obj) (tk tj : Nat) : SharedT := ⟨T15 w.params ob tk tj, 222, (@PySem.Life.mk [] [] [] 0 [] [] @Bool.false #[] [] 0 @Bool.false @Bool.false @Bool.false 0 [2000, 10, 10] @Bool.false 0 @Bool.true [] [] 0 @Bool.false), #[], boot_drawn, (tj + 260), os⟩
end
noncomputable def arg16 : Sem Flow := match (pw.main.body[16]? : Option Stmt) with
  | some (Stmt.Assign [Expr.Name _ _] (Expr.Call (Expr.Name id p2) args kws p3) _) => do
    let f ← eval (Expr.Name id p2) envT
    let a ← holding (f :: []) (evalArgs f true (backTo p3 (starEach args envT)) (backToKw p3 (keywordEach kws envT)))
    match a.pos, a.kw, f with
    | [.ref l], [], .type "set" => if l == 161 then pure .next else unsupported ""
    | _, _, _ => unsupported "args"
  | _ => unsupported "x"
theorem p0 (w : World) (os : OsState) (ob : Nat → Obj) (tk tj : Nat) (pos q : Pos) : segRunT treeTable pw w 0 none 0 155 (S1 w os ob tk tj) ⟨(execs (sts 0 6) envT).wrap doneF deadEnd id id, cT, pos, [baseF q]⟩ = some (.next, S2 w os ob tk tj, .builtin "claim.caller" {}, q) := by
  rw [twSeg, twTree, twExecs]
  kernel_rfl
theorem p6_false (w : World) (os : OsState) (ob : Nat → Obj) (tk tj : Nat) (pos q : Pos) : segRunT treeTable pw (w.withFollow "special-get-raises" false) 0 none 0 1030 (S2 (w.withFollow "special-get-raises" false) os ob tk tj) ⟨(execs (sts 6 2) envT).wrap doneF deadEnd id id, cT, pos, [baseF q]⟩ = some (.next, S3 (w.withFollow "special-get-raises" false) os ob tk tj, .builtin "claim.caller" {}, q) := by
  rw [twSeg, twTree, twExecs]
  kernel_rfl
theorem p6_true (w : World) (os : OsState) (ob : Nat → Obj) (tk tj : Nat) (pos q : Pos) : segRunT treeTable pw (w.withFollow "special-get-raises" true) 0 none 0 1030 (S2 (w.withFollow "special-get-raises" true) os ob tk tj) ⟨(execs (sts 6 2) envT).wrap doneF deadEnd id id, cT, pos, [baseF q]⟩ = some (.next, S3 (w.withFollow "special-get-raises" true) os ob tk tj, .builtin "claim.caller" {}, q) := by
  rw [twSeg, twTree, twExecs]
  kernel_rfl
theorem p6 (w : World) : ∀ (os : OsState) (ob : Nat → Obj) (tk tj : Nat) (pos q : Pos), segRunT treeTable pw w 0 none 0 1030 (S2 w os ob tk tj) ⟨(execs (sts 6 2) envT).wrap doneF deadEnd id id, cT, pos, [baseF q]⟩ = some (.next, S3 w os ob tk tj, .builtin "claim.caller" {}, q) := by
  exact byRow2 "special-get-raises" (P := fun w => ∀ (os : OsState) (ob : Nat → Obj) (tk tj : Nat) (pos q : Pos), segRunT treeTable pw w 0 none 0 1030 (S2 w os ob tk tj) ⟨(execs (sts 6 2) envT).wrap doneF deadEnd id id, cT, pos, [baseF q]⟩ = some (.next, S3 w os ob tk tj, .builtin "claim.caller" {}, q)) (fun w => p6_false w) (fun w => p6_true w) w
theorem p8 (w : World) (os : OsState) (ob : Nat → Obj) (tk tj : Nat) (pos q : Pos) : segRunT treeTable pw w 0 none 0 9 (S4 w os ob tk tj) ⟨(bindName envT (PySem.Str.ofString "b3_exceptions") (.ref 61) >>= fun _ => pure Flow.next).wrap doneF deadEnd id id, cT, pos, [baseF q]⟩ = some (.next, S5 w os ob tk tj, .builtin "claim.caller" {}, q) := by
  rw [twSeg, twTree, twBindName]
  kernel_rfl
theorem p9_false (w : World) (os : OsState) (ob : Nat → Obj) (tk tj : Nat) (pos q : Pos) : segRunT treeTable pw (w.withFollow "special-get-raises" false) 0 none 0 261 (S5 (w.withFollow "special-get-raises" false) os ob tk tj) ⟨(execs (sts 9 3) envT).wrap doneF deadEnd id id, cT, pos, [baseF q]⟩ = some (.next, S6 (w.withFollow "special-get-raises" false) os ob tk tj, .builtin "claim.caller" {}, q) := by
  rw [twSeg, twTree, twExecs]
  kernel_rfl
theorem p9_true (w : World) (os : OsState) (ob : Nat → Obj) (tk tj : Nat) (pos q : Pos) : segRunT treeTable pw (w.withFollow "special-get-raises" true) 0 none 0 261 (S5 (w.withFollow "special-get-raises" true) os ob tk tj) ⟨(execs (sts 9 3) envT).wrap doneF deadEnd id id, cT, pos, [baseF q]⟩ = some (.next, S6 (w.withFollow "special-get-raises" true) os ob tk tj, .builtin "claim.caller" {}, q) := by
  rw [twSeg, twTree, twExecs]
  kernel_rfl
theorem p9 (w : World) : ∀ (os : OsState) (ob : Nat → Obj) (tk tj : Nat) (pos q : Pos), segRunT treeTable pw w 0 none 0 261 (S5 w os ob tk tj) ⟨(execs (sts 9 3) envT).wrap doneF deadEnd id id, cT, pos, [baseF q]⟩ = some (.next, S6 w os ob tk tj, .builtin "claim.caller" {}, q) := by
  exact byRow2 "special-get-raises" (P := fun w => ∀ (os : OsState) (ob : Nat → Obj) (tk tj : Nat) (pos q : Pos), segRunT treeTable pw w 0 none 0 261 (S5 w os ob tk tj) ⟨(execs (sts 9 3) envT).wrap doneF deadEnd id id, cT, pos, [baseF q]⟩ = some (.next, S6 w os ob tk tj, .builtin "claim.caller" {}, q)) (fun w => p9_false w) (fun w => p9_true w) w
theorem p12_false (w : World) (os : OsState) (ob : Nat → Obj) (tk tj : Nat) (pos q : Pos) : segRunT treeTable pw (w.withFollow "special-get-raises" false) 0 none 0 392 (S6 (w.withFollow "special-get-raises" false) os ob tk tj) ⟨(execs (sts 12 2) envT).wrap doneF deadEnd id id, cT, pos, [baseF q]⟩ = some (.next, S7 (w.withFollow "special-get-raises" false) os ob tk tj, .builtin "claim.caller" {}, q) := by
  rw [twSeg, twTree, twExecs]
  kernel_rfl
theorem p12_true (w : World) (os : OsState) (ob : Nat → Obj) (tk tj : Nat) (pos q : Pos) : segRunT treeTable pw (w.withFollow "special-get-raises" true) 0 none 0 392 (S6 (w.withFollow "special-get-raises" true) os ob tk tj) ⟨(execs (sts 12 2) envT).wrap doneF deadEnd id id, cT, pos, [baseF q]⟩ = some (.next, S7 (w.withFollow "special-get-raises" true) os ob tk tj, .builtin "claim.caller" {}, q) := by
  rw [twSeg, twTree, twExecs]
  kernel_rfl
theorem p12 (w : World) : ∀ (os : OsState) (ob : Nat → Obj) (tk tj : Nat) (pos q : Pos), segRunT treeTable pw w 0 none 0 392 (S6 w os ob tk tj) ⟨(execs (sts 12 2) envT).wrap doneF deadEnd id id, cT, pos, [baseF q]⟩ = some (.next, S7 w os ob tk tj, .builtin "claim.caller" {}, q) := by
  exact byRow2 "special-get-raises" (P := fun w => ∀ (os : OsState) (ob : Nat → Obj) (tk tj : Nat) (pos q : Pos), segRunT treeTable pw w 0 none 0 392 (S6 w os ob tk tj) ⟨(execs (sts 12 2) envT).wrap doneF deadEnd id id, cT, pos, [baseF q]⟩ = some (.next, S7 w os ob tk tj, .builtin "claim.caller" {}, q)) (fun w => p12_false w) (fun w => p12_true w) w
theorem p14_false (w : World) (os : OsState) (ob : Nat → Obj) (tk tj : Nat) (pos q : Pos) : segRunT treeTable pw (w.withFollow "special-get-raises" false) 0 none 0 806 (S7 (w.withFollow "special-get-raises" false) os ob tk tj) ⟨(execs (sts 14 2) envT).wrap doneF deadEnd id id, cT, pos, [baseF q]⟩ = some (.next, S8 (w.withFollow "special-get-raises" false) os ob tk tj, .builtin "claim.caller" {}, q) := by
  rw [twSeg, twTree, twExecs]
  kernel_rfl
theorem p14_true (w : World) (os : OsState) (ob : Nat → Obj) (tk tj : Nat) (pos q : Pos) : segRunT treeTable pw (w.withFollow "special-get-raises" true) 0 none 0 806 (S7 (w.withFollow "special-get-raises" true) os ob tk tj) ⟨(execs (sts 14 2) envT).wrap doneF deadEnd id id, cT, pos, [baseF q]⟩ = some (.next, S8 (w.withFollow "special-get-raises" true) os ob tk tj, .builtin "claim.caller" {}, q) := by
  rw [twSeg, twTree, twExecs]
  kernel_rfl
theorem p14 (w : World) : ∀ (os : OsState) (ob : Nat → Obj) (tk tj : Nat) (pos q : Pos), segRunT treeTable pw w 0 none 0 806 (S7 w os ob tk tj) ⟨(execs (sts 14 2) envT).wrap doneF deadEnd id id, cT, pos, [baseF q]⟩ = some (.next, S8 w os ob tk tj, .builtin "claim.caller" {}, q) := by
  exact byRow2 "special-get-raises" (P := fun w => ∀ (os : OsState) (ob : Nat → Obj) (tk tj : Nat) (pos q : Pos), segRunT treeTable pw w 0 none 0 806 (S7 w os ob tk tj) ⟨(execs (sts 14 2) envT).wrap doneF deadEnd id id, cT, pos, [baseF q]⟩ = some (.next, S8 w os ob tk tj, .builtin "claim.caller" {}, q)) (fun w => p14_false w) (fun w => p14_true w) w
theorem p16_false (w : World) (os : OsState) (ob : Nat → Obj) (tk tj : Nat) (pos q : Pos) : segRunT treeTable pw (w.withFollow "special-get-raises" false) 0 none 0 1751 (S8 (w.withFollow "special-get-raises" false) os ob tk tj) ⟨(arg16).wrap doneF deadEnd id id, cT, pos, [baseF q]⟩ = some (.next, S9 (w.withFollow "special-get-raises" false) os ob tk tj, .builtin "claim.caller" {}, q) := by
  unfold arg16
  rw [twSeg, twTree, twEval, twEvalArgs, twBackTo, twStarEach]
  kernel_rfl
theorem p16_true (w : World) (os : OsState) (ob : Nat → Obj) (tk tj : Nat) (pos q : Pos) : segRunT treeTable pw (w.withFollow "special-get-raises" true) 0 none 0 1751 (S8 (w.withFollow "special-get-raises" true) os ob tk tj) ⟨(arg16).wrap doneF deadEnd id id, cT, pos, [baseF q]⟩ = some (.next, S9 (w.withFollow "special-get-raises" true) os ob tk tj, .builtin "claim.caller" {}, q) := by
  unfold arg16
  rw [twSeg, twTree, twEval, twEvalArgs, twBackTo, twStarEach]
  kernel_rfl
theorem p16 (w : World) : ∀ (os : OsState) (ob : Nat → Obj) (tk tj : Nat) (pos q : Pos), segRunT treeTable pw w 0 none 0 1751 (S8 w os ob tk tj) ⟨(arg16).wrap doneF deadEnd id id, cT, pos, [baseF q]⟩ = some (.next, S9 w os ob tk tj, .builtin "claim.caller" {}, q) := by
  exact byRow2 "special-get-raises" (P := fun w => ∀ (os : OsState) (ob : Nat → Obj) (tk tj : Nat) (pos q : Pos), segRunT treeTable pw w 0 none 0 1751 (S8 w os ob tk tj) ⟨(arg16).wrap doneF deadEnd id id, cT, pos, [baseF q]⟩ = some (.next, S9 w os ob tk tj, .builtin "claim.caller" {}, q)) (fun w => p16_false w) (fun w => p16_true w) w
theorem p16s (w : World) (os : OsState) (ob : Nat → Obj) (tk tj : Nat) (pos q : Pos) : segRunT treeTable pw w 0 none 0 9 (S10 w os ob tk tj) ⟨(bindName envT (PySem.Str.ofString "c9_set") (.ref 162) >>= fun _ => pure Flow.next).wrap doneF deadEnd id id, cT, pos, [baseF q]⟩ = some (.next, S11 w os ob tk tj, .builtin "claim.caller" {}, q) := by
  rw [twSeg, twTree, twBindName]
  kernel_rfl
theorem p17 (w : World) (os : OsState) (ob : Nat → Obj) (tk tj : Nat) (pos q : Pos) : segRunT treeTable pw w 0 none 0 401 (S11 w os ob tk tj) ⟨(execs (sts 17 42) envT).wrap doneF deadEnd id id, cT, pos, [baseF q]⟩ = some (.next, S12 w os ob tk tj, .builtin "claim.caller" {}, q) := by
  rw [twSeg, twTree, twExecs]
  kernel_rfl
theorem p59 (w : World) (os : OsState) (ob : Nat → Obj) (tk tj : Nat) (pos q : Pos) : segRunT treeTable pw w 0 none 0 93 (S12 w os ob tk tj) ⟨(execs (sts 59 10) envT).wrap doneF deadEnd id id, cT, pos, [baseF q]⟩ = some (.next, S13 w os ob tk tj, .builtin "claim.caller" {}, q) := by
  rw [twSeg, twTree, twExecs]
  kernel_rfl
theorem p69_false (w : World) (os : OsState) (ob : Nat → Obj) (tk tj : Nat) (pos q : Pos) : segRunT treeTable pw (w.withFollow "special-get-raises" false) 0 none 0 981 (S13 (w.withFollow "special-get-raises" false) os ob tk tj) ⟨(execs (sts 69 1) envT).wrap doneF deadEnd id id, cT, pos, [baseF q]⟩ = some (.next, S14 (w.withFollow "special-get-raises" false) os ob tk tj, .builtin "claim.caller" {}, q) := by
  rw [twSeg, twTree, twExecs]
  kernel_rfl
theorem p69_true (w : World) (os : OsState) (ob : Nat → Obj) (tk tj : Nat) (pos q : Pos) : segRunT treeTable pw (w.withFollow "special-get-raises" true) 0 none 0 981 (S13 (w.withFollow "special-get-raises" true) os ob tk tj) ⟨(execs (sts 69 1) envT).wrap doneF deadEnd id id, cT, pos, [baseF q]⟩ = some (.next, S14 (w.withFollow "special-get-raises" true) os ob tk tj, .builtin "claim.caller" {}, q) := by
  rw [twSeg, twTree, twExecs]
  kernel_rfl
theorem p69 (w : World) : ∀ (os : OsState) (ob : Nat → Obj) (tk tj : Nat) (pos q : Pos), segRunT treeTable pw w 0 none 0 981 (S13 w os ob tk tj) ⟨(execs (sts 69 1) envT).wrap doneF deadEnd id id, cT, pos, [baseF q]⟩ = some (.next, S14 w os ob tk tj, .builtin "claim.caller" {}, q) := by
  exact byRow2 "special-get-raises" (P := fun w => ∀ (os : OsState) (ob : Nat → Obj) (tk tj : Nat) (pos q : Pos), segRunT treeTable pw w 0 none 0 981 (S13 w os ob tk tj) ⟨(execs (sts 69 1) envT).wrap doneF deadEnd id id, cT, pos, [baseF q]⟩ = some (.next, S14 w os ob tk tj, .builtin "claim.caller" {}, q)) (fun w => p69_false w) (fun w => p69_true w) w
theorem p70 (w : World) (os : OsState) (ob : Nat → Obj) (tk tj : Nat) (pos q : Pos) : segRunT treeTable pw w 0 none 0 229 (S14 w os ob tk tj) ⟨(execs (sts 70 9) envT).wrap doneF deadEnd id id, cT, pos, [baseF q]⟩ = some (.next, S15 w os ob tk tj, .builtin "claim.caller" {}, q) := by
  rw [twSeg, twTree, twExecs]
  kernel_rfl
theorem life_update (h : Heap) (a : Addr) (f : Obj → Obj) : (h.update a f).life = h.life := by cases h; rfl
theorem runs_life {M : Model} {Γ : Ctx} {p : Pos} {t : Sem Fin} {fs : List Frame} {s s' : Shared} {e : End} (h : Runs M Γ p t fs s e s') : s'.heap.life = s.heap.life := by
  induction h with
  | done | raise | yield => rfl
  | update _ _ ih => exact ih.trans (life_update _ _ _)
  | alloc _ ih => exact ih.trans (Heap.life_push _ _)
  | call _ _ i1 i2 => exact i2.trans i1
  | resumeFresh _ _ _ _ i1 i2 => exact i2.trans i1
  | resumeSuspended _ _ _ _ i1 i2 => exact i2.trans i1
  | segRet _ _ i1 i2 => exact i2.trans i1
  | segGen _ _ i1 i2 => exact i2.trans i1
  | segSuspGen _ _ _ _ i1 i2 => exact i2.trans i1
  | _ => rename_i ih; exact ih
theorem wakes_life {M : Model} {Γ : Ctx} {p : Pos} {g : Nat} {r : Resume} {s s' : Shared} {res : GenResult} (h : Wakes M Γ p g r s res s') : s'.heap.life = s.heap.life := by
  unfold Wakes at h
  split at h
  · exact h.elim
  · split at h
    · obtain ⟨e₁, s₁, h1, _, _, rfl⟩ := h; exact (runs_life h1).trans rfl
    · rw [h.2]
    · rw [h.2]; rfl
  · obtain ⟨e₁, s₁, h1, _, _, rfl⟩ := h; exact (runs_life h1).trans rfl
  · rw [h.2]
  · rw [h.2]
theorem wp_life {α : Type} {M : Model} {Γ : Ctx} {L : Life} {Q : α → Pos → Shared → Prop} {E : Value → Pos → Shared → Prop} (m : Sem α) : ∀ (p : Pos) (s : Shared), s.heap.life = L → Sem.wp M Γ m Q E p s → Sem.wp M Γ m (fun a p s' => Q a p s' ∧ s'.heap.life = L) E p s := by
  induction m with
  | pure a => intro p s hl h; simp only [Sem.wp] at h ⊢; exact ⟨h, hl⟩
  | raise | unsupported | finish | register | yield | fork | await => intro p s hl h; (simp only [Sem.wp] at h ⊢) <;> exact h
  | load a part k ih => intro p s hl h; simp only [Sem.wp] at h ⊢; obtain ⟨o, ho, h⟩ := h; exact ⟨o, ho, ih _ _ _ hl h⟩
  | update a part f k ih => intro p s hl h; simp only [Sem.wp] at h ⊢; exact ⟨h.1, ih _ _ _ ((life_update _ _ _).trans hl) h.2⟩
  | alloc o k ih => intro p s hl h; simp only [Sem.wp] at h ⊢; exact ih _ _ _ ((Heap.life_push _ _).trans hl) h
  | choose src n k ih => intro p s hl h; simp only [Sem.wp] at h ⊢; exact ⟨h.1, ih _ _ _ hl h.2⟩
  | call c h' g l k ih =>
    intro p s hl h
    simp only [Sem.wp] at h ⊢
    obtain ⟨r, s', hr, h⟩ := h
    exact ⟨r, s', hr, ih _ _ _ ((runs_life hr).trans hl) h⟩
  | genState g k ih => intro p s hl h; simp only [Sem.wp] at h ⊢; obtain ⟨o, ho, h⟩ := h; exact ⟨o, ho, ih _ _ _ hl h⟩
  | resume g r l k ih => intro p s hl h; simp only [Sem.wp] at h ⊢; obtain ⟨res, s', hw, h⟩ := h; exact ⟨res, s', hw, ih _ _ _ ((wakes_life hw).trans hl) h⟩
  | _ => rename_i ih; intro p s hl h; simp only [Sem.wp] at h ⊢; exact ih _ _ _ hl h
structure wpT {α : Type} (prog : Program) (w : World) (c : Code) (q : Pos) (m : Sem α) (Q : α → Shared → Prop) (s : Shared) : Prop where
  run : ∀ pos, Sem.wp (model prog w) (topCtx c q) m (fun a _ s' => Q a s') (fun _ _ _ => False) pos s
noncomputable def topA : Around := { depth := 100000, units := 100000 }
section
variable {α β : Type} {prog : Program} {w : World} {env : Env} {b : List Stmt} {q : Pos} {s : Shared}
theorem topCtx_in : (topCtx (.body b env) q).In topA := by
  refine ⟨rfl, ?_, fun l h => (by cases h), fun g h => (by cases h), ?_⟩
  · show frameCount [(.builtin "claim.caller" {}, q)] + Code.weight (.body b env) ≤ 100000
    have h1 : Code.weight (.body b env) = 1 ∨ Code.weight (.body b env) = 0 := by
      simp [Code.weight, Code.isCreation, Code.isGuard, Code.isCaller, Code.frames]
    have h2 : frameCount [(Code.builtin "claim.caller" {}, q)] ≤ 99000 := by
      rw [frameCount_cons]
      show Code.weight (.builtin "claim.caller" {}) + 0 ≤ 99000
      decide +kernel
    omega
  · show Code.cUnits (.body b env) + (Code.cUnits (.builtin "claim.caller" {}) + 0) ≤ 100000
    have h1 : Code.cUnits (.body b env) ≤ 1000 := by
      simp only [Code.cUnits, Code.frames]
      split <;> (try split) <;> omega
    have h2 : Code.cUnits (.builtin "claim.caller" {}) ≤ 1000 := by decide +kernel
    omega
theorem wpT_any {m : Sem α} {Q : α → Shared → Prop} (h : wpAny (model prog w) topA m Q (fun _ _ => False) s) : wpT prog w (.body b env) q m Q s := ⟨fun pos => h _ pos topCtx_in⟩
theorem wpT_bind {m : Sem α} {f : α → Sem β} {Q : β → Shared → Prop} {c : Code} (h : wpT prog w c q m (fun a s' => wpT prog w c q (f a) Q s') s) : wpT prog w c q (m >>= f) Q s := ⟨fun pos => by
  rw [Sem.wp_bind']
  exact Sem.wp_mono _ _ _ (fun _ p' s' h' => h'.run p') (fun _ _ _ x => x) _ _ (h.run pos)⟩
theorem wpT_mono {m : Sem α} {Q Q' : α → Shared → Prop} {c : Code} (h : wpT prog w c q m Q s) (hQ : ∀ a s', Q a s' → Q' a s') : wpT prog w c q m Q' s := ⟨fun pos =>
  Sem.wp_mono _ _ _ (fun a _ s' h' => hQ a s' h') (fun _ _ _ x => x) _ _ (h.run pos)⟩
theorem wpT_pure {a : α} {Q : α → Shared → Prop} {c : Code} (h : Q a s) : wpT prog w c q (pure a) Q s := ⟨fun _ => h⟩
theorem wpT_standAt {p : Pos} {Q : Unit → Shared → Prop} {c : Code} (h : Q () s) : wpT prog w c q (standAt p) Q s := ⟨fun _ => h⟩
theorem wpT_life {m : Sem α} {Q : α → Shared → Prop} {c : Code} (h : wpT prog w c q m Q s) : wpT prog w c q m (fun a s' => Q a s' ∧ s'.heap.life = s.heap.life) s := ⟨fun pos => wp_life m pos s rfl (h.run pos)⟩
theorem wp_execs_app {c : Code} {rest : List Stmt} {Q : Flow → Shared → Prop} : ∀ {l : List Stmt} {pos : Pos} {s : Shared}, Sem.wp (model prog w) (topCtx c q) (execs l env) (fun f _ s₁ => f = .next ∧ wpT prog w c q (execs rest env) Q s₁) (fun _ _ _ => False) pos s →
    Sem.wp (model prog w) (topCtx c q) (execs (l ++ rest) env) (fun a _ s' => Q a s') (fun _ _ _ => False) pos s
  | [], pos, s, h => h.2.run pos
  | st :: l, pos, s, h => by
    rw [List.cons_append, execs_cons, Sem.wp_bind']
    rw [execs_cons, Sem.wp_bind'] at h
    refine Sem.wp_mono _ _ _ (fun f p' s' x => ?_) (fun _ _ _ x => x) _ _ h
    cases f with
    | next => exact wp_execs_app x
    | brk => exact absurd x.1 (by simp)
    | cont => exact absurd x.1 (by simp)
    | ret v => exact absurd x.1 (by simp)
theorem wpT_execs_app {c : Code} {l rest : List Stmt} {Q : Flow → Shared → Prop} (h : wpT prog w c q (execs l env) (fun f s₁ => f = .next ∧ wpT prog w c q (execs rest env) Q s₁) s) : wpT prog w c q (execs (l ++ rest) env) Q s :=
  ⟨fun pos => wp_execs_app (h.run pos)⟩
end
theorem wp_piece {w : World} {b : List Stmt} {env : Env} {n : Nat} {S S' : SharedT} {m : Sem Flow} {q : Pos} {prog : Program}
    (h : ∀ pos, segRunT treeTable prog w 0 none 0 n S ⟨m.wrap doneF deadEnd id id, .body b env, pos, [baseF q]⟩ = some (.next, S', .builtin "claim.caller" {}, q)) (hg : S'.gens = #[]) :
    wpT prog w (.body b env) q m (fun a s'' => a = .next ∧ s'' = S'.abs) S.abs := ⟨fun pos => by
  have h1 := segRun_of (h pos)
  have h2 := wp_of_seg0 h1 hg
  rw [← table_eq_tree] at h2
  exact h2⟩
noncomputable def litPairs : List (Option Expr) → List Expr → Option (List (Int × Str))
  | [], [] => some []
  | some (.Constant (.int i) _ _) :: ks, .Constant (.str x) _ _ :: vs => (litPairs ks vs).map ((i, x) :: ·)
  | _, _ => none
noncomputable def pairTrees (env : Env) (pos : Pos) : List (Option Expr) → List Expr → List (Sem Value × Sem Value)
  | some k :: ks, v :: vs => (eval k env, do let x ← eval v env; standAt pos; pure x) :: pairTrees env pos ks vs
  | _, _ => []
section
variable {prog : Program} {w : World}
theorem litPairs_ok (env : Env) (pos : Pos) (ks : List (Option Expr)) : ∀ (vs : List Expr) (es : List (Int × Str)), litPairs ks vs = some es →
    ((evalEachOpt ks env).zip ((evalEach vs env).map fun v => do let x ← v; standAt pos; pure x)) = (pairTrees env pos ks vs).map (fun p => (some p.1, p.2)) ∧ All2 (LitP prog w) (pairTrees env pos ks vs) es := by
  induction ks with
  | nil =>
    intro vs es h
    cases vs with
    | nil => simp only [litPairs, Option.some.injEq] at h; subst h; exact ⟨rfl, .nil⟩
    | cons v vs => simp [litPairs] at h
  | cons k ks ih =>
    intro vs es h
    unfold litPairs at h
    split at h
    · rename_i h0; cases h0
    · rename_i i a b ks' x c d vs' h0
      injection h0 with h1 h2
      subst h1 h2
      simp only [Option.map_eq_some_iff] at h
      obtain ⟨r, hr, rfl⟩ := h
      obtain ⟨h1, h2⟩ := ih vs' r hr
      refine ⟨?_, .cons ?_ h2⟩
      · simp only [evalEachOpt, evalEach, List.map_cons, List.zip_cons_cons, pairTrees, h1]
        rfl
      · intro A E s
        refine ⟨fun Q hQ => wpAny_Constant_int (env := env) (k := a) (pos := b) hQ, fun Q hQ => ?_⟩
        exact wpAny_bind (wpAny_Constant_str (env := env) (k := c) (pos := d) (wpAny_bind (wpAny_standAt (wpAny_pure hQ))))
    · cases h
noncomputable def dictParts : Str × Pos × List (Option Expr) × List Expr × Pos × Pos := match (pw.main.body[8]? : Option Stmt) with
  | some (Stmt.Assign [Expr.Name x p1] (Expr.Dict ks vs p2) p3) => (x, p1, ks, vs, p2, p3)
  | _ => ("", default, [], [], default, default)
noncomputable def b3E : List (Int × Str) := (litPairs dictParts.2.2.1 dictParts.2.2.2.1).getD []
theorem st8_eq : sts 8 1 = [Stmt.Assign [Expr.Name "b3_exceptions" dictParts.2.1] (Expr.Dict dictParts.2.2.1 dictParts.2.2.2.1 dictParts.2.2.2.2.1) dictParts.2.2.2.2.2] := by kernel_rfl
theorem b3_lit : litPairs dictParts.2.2.1 dictParts.2.2.2.1 = some b3E := by kernel_rfl
theorem b3_len : b3E.length = 650 := by decide +kernel
theorem b3_up : (b3E.zip b3E.tail).all (fun p => decide (p.1.1 < p.2.1)) = true := by decide +kernel
theorem objs_of_get {h : Heap} {a : Addr} {o : Obj} (e : h.get? a = some o) : h.objs[a]? = some o := by
  unfold Heap.get? at e
  split at e
  · cases e
  · exact e
theorem at_of_map {α : Type} {f g : Nat → α} {l : List Nat} (h : l.map f = l.map g) : ∀ i ∈ l, f i = g i := by
  induction l with
  | nil => intro i hi; cases hi
  | cons a l ih =>
    rw [List.map_cons, List.map_cons] at h
    injection h with h1 h2
    intro i hi
    rcases List.mem_cons.mp hi with rfl | hi
    · exact h1
    · exact ih h2 i hi
theorem grown {t t' : BT} {n m : Nat} {life : Life} {h' : Heap} {ob : Nat → Obj} (L V : List Nat) (hz : h'.objs.size = n) (hlife : h'.life = life) (hL : (L.all fun i => decide (i < m)) = true)
    (hk : ∀ b o, (absHeap t m life).get? b = some o → h'.get? b = some o)
    (cover : ((List.range n).all fun i => L.contains i || V.contains i) = true)
    (e1 : L.map (fun i => (t.get i).bind alive) = L.map (fun i => t'.get i))
    (e0 : (L.all fun i => (t'.get i).isSome) = true)
    (e2 : V.map (fun i => t'.get i) = V.map (fun i => some (ob i)))
    (hob : ∀ i, i ∈ V → i < n → h'.objs[i]? = some (ob i)) : h' = absHeap t' n life := by
  have E : h'.objs = (absHeap t' n life).objs := by
    apply Array.ext_getElem?
    intro i
    rw [absHeap_at]
    by_cases hi : i < n
    · rw [if_pos hi]
      have hc := List.all_eq_true.mp cover i (List.mem_range.mpr hi)
      rcases Bool.or_eq_true_iff.mp hc with hc | hc
      · have hm : i ∈ L := List.contains_iff_mem.mp hc
        have a1 := at_of_map e1 i hm
        have a0 := List.all_eq_true.mp e0 i hm
        have am := of_decide_eq_true (List.all_eq_true.mp hL i hm)
        obtain ⟨o, ho⟩ := Option.isSome_iff_exists.mp a0
        rw [ho] at a1 ⊢
        obtain ⟨o₁, h1, h2⟩ := Option.bind_eq_some_iff.mp a1
        exact objs_of_get (hk i o ((abs_get am h1).trans h2))
      · have hm : i ∈ V := List.contains_iff_mem.mp hc
        have a2 := at_of_map e2 i hm
        rw [a2, hob i hm hi]
        rfl
    · rw [if_neg hi]
      rw [Array.getElem?_eq_none (by omega)]
  obtain ⟨ob', l⟩ := h'
  dsimp only at E hlife
  subst hlife
  exact congrArg (fun x => Heap.mk x l) E
end
noncomputable def DictIs (w : World) (o : Obj) (kvs : List (Int × Value)) : Prop :=
  ∃ es ep, o.ExactDict ∧ o.data = .dict es ep ∧ KeysOf (intKind pw w) es ∧ Pairs (intKind pw w) es.toList kvs ∧ (kvs.map (·.1)).Nodup
noncomputable def Facts8 (w : World) (ob : Nat → Obj) : Prop := ∃ kvs, All2 ValP kvs b3E ∧ DictIs w (ob 61) kvs
theorem up_nodup : ∀ (l : List (Int × Str)), (l.zip l.tail).all (fun p => decide (p.1.1 < p.2.1)) = true → (l.map (·.1)).Pairwise (· < ·)
  | [], _ => .nil
  | [a], _ => by simp
  | a :: b :: l, h => by
    simp only [List.tail_cons, List.zip_cons_cons, List.all_cons, Bool.and_eq_true, decide_eq_true_eq] at h
    have ih := up_nodup (b :: l) h.2
    rw [List.map_cons]
    refine List.Pairwise.cons ?_ ih
    intro x hx
    rw [List.map_cons] at hx ih
    rcases List.mem_cons.mp hx with rfl | hx
    · exact h.1
    · exact Int.lt_trans h.1 ((List.pairwise_cons.mp ih).1 x hx)
theorem b3_nodup : (b3E.map (·.1)).Nodup := (up_nodup _ b3_up).imp fun h => Int.ne_of_lt h
theorem w8_gen (w : World) (os : OsState) (q : Pos) (ob₀ : Nat → Obj) (tk₀ tj₀ : Nat) (ks : List (Option Expr)) (vs : List Expr) (p1 p2 p3 : Pos) (hlit : litPairs ks vs = some b3E) :
    wpT pw w cT q (execs [Stmt.Assign [Expr.Name "b3_exceptions" p1] (Expr.Dict ks vs p2) p3] envT) (fun f s' => f = .next ∧ ∃ ob tk, Facts8 w ob ∧ s' = (S5 w os ob tk tj₀).abs) (S3 w os ob₀ tk₀ tj₀).abs := by
  rw [execs_cons, exec_Assign_Name _ _ _ _ _ (by rfl)]
  refine wpT_bind (wpT_bind (wpT_standAt (wpT_bind ?_)))
  have hn : b3E ≠ [] := fun e => by have := b3_len; rw [e] at this; cases this
  obtain ⟨sh, lit⟩ := litPairs_ok (prog := pw) (w := w) envT p2 _ _ _ hlit
  refine wpT_mono (wpT_life (wpT_any (Q := fun v s' => v = .ref 61 ∧ ∃ h' tk kvs, All2 ValP kvs b3E ∧ h'.DictOf (intKind pw w) 61 kvs ∧ h'.objs.size = 61 + 39 ∧ (∀ b o, (S3 w os ob₀ tk₀ tj₀).abs.heap.get? b = some o → h'.get? b = some o) ∧
      s' = { (S3 w os ob₀ tk₀ tj₀).abs with heap := h', toks := tk }) ?_)) ?_
  · rw [arm_eval_Dict, sh]
    refine wpAny_bind (wpAny_standAt (wp_display lit hn b3_nodup (by rw [b3_len]; decide) (Nat.lt_of_lt_of_eq (by decide : sysModules < 61) (absHeap_size _ _ _).symm) fun h' tk kvs hv hd hz hk => ?_))
    have hz0 : (S3 w os ob₀ tk₀ tj₀).abs.heap.objs.size = 61 := absHeap_size _ _ _
    have hd' : h'.DictOf (intKind pw w) 61 kvs := by rw [← hz0]; exact hd
    refine ⟨congrArg Value.ref hz0, h', tk, kvs, hv, hd', ?_, hk, rfl⟩
    have hz' : h'.objs.size = (S3 w os ob₀ tk₀ tj₀).abs.heap.objs.size + (b3E.length + 16) / 17 := hz
    rw [hz', hz0, b3_len]
  · rintro v s' ⟨⟨rfl, h', tk, kvs, hv, hd, hz, hk, rfl⟩, hl⟩
    dsimp only at hl
    refine wpT_bind (wpT_standAt ?_)
    obtain ⟨o61, es, ep, ho, r⟩ := id hd
    have hS : ({ (S3 w os ob₀ tk₀ tj₀).abs with heap := h', toks := tk } : Shared) = (S4 w os (fun i => (h'.objs[i]?).getD default) tk tj₀).abs := by
      have E := grown (t := T3 w.params ob₀ tk₀ tj₀) (t' := T4 w.params (fun i => (h'.objs[i]?).getD default) tk tj₀) (n := 100) (m := 61) (ob := fun i => (h'.objs[i]?).getD default) (List.range 61) (List.range' 61 39) hz hl (by decide +kernel) hk (by decide +kernel)
        (by kernel_rfl) (by kernel_rfl) (by kernel_rfl) (fun i _ hi => by
          have : i < h'.objs.size := by omega
          rw [Array.getElem?_eq_getElem this]; rfl)
      unfold SharedT.abs
      exact Shared.mk.injEq .. |>.mpr ⟨E, rfl, rfl, rfl, rfl⟩
    rw [hS]
    have hf : Facts8 w (fun i => (h'.objs[i]?).getD default) := by
      refine ⟨kvs, hv, ?_⟩
      have e : (h'.objs[61]?).getD default = o61 := by rw [objs_of_get ho]; rfl
      show DictIs w ((h'.objs[61]?).getD default) kvs
      rw [e]
      exact ⟨es, ep, r⟩
    refine wpT_mono (wp_piece (fun pos => p8 w os (fun i => (h'.objs[i]?).getD default) tk tj₀ pos q) rfl) ?_
    rintro a s' ⟨rfl, rfl⟩
    exact wpT_pure ⟨rfl, _, tk, hf, rfl⟩
theorem w8 (w : World) (os : OsState) (q : Pos) (ob₀ : Nat → Obj) (tk₀ tj₀ : Nat) :
    wpT pw w cT q (execs (sts 8 1) envT) (fun f s' => f = .next ∧ ∃ ob tk, Facts8 w ob ∧ s' = (S5 w os ob tk tj₀).abs) (S3 w os ob₀ tk₀ tj₀).abs := by
  have h1 := st8_eq
  have h2 := b3_lit
  generalize dictParts = d at h1 h2
  rw [h1]
  exact w8_gen w os q ob₀ tk₀ tj₀ _ _ _ _ _ h2
noncomputable def intsOf : List Value → Option (List Int)
  | [] => some []
  | .int n _ :: r => (intsOf r).map (n :: ·)
  | _ :: _ => none
theorem intsOf_are : ∀ (vs : List Value) (ns : List Int), intsOf vs = some ns → IntsAre vs ns
  | [], ns, h => by simp only [intsOf, Option.some.injEq] at h; subst h; exact .nil
  | v :: r, ns, h => by
    unfold intsOf at h
    split at h
    · rename_i h0; cases h0
    · rename_i n t r' h0
      injection h0 with h1 h2
      subst h1 h2
      simp only [Option.map_eq_some_iff] at h
      obtain ⟨m, hm, rfl⟩ := h
      exact .cons n t (intsOf_are _ _ hm)
    · cases h
noncomputable def ns16 : List Int := 917505 :: (List.range 96).map (fun (i : Nat) => ((917536 + i : Nat) : Int))
noncomputable def vals16 (P : Params) (tk tj : Nat) : Array Value := match (o161v9 P tk tj).data with | .seq xs _ => xs | _ => #[]
theorem ints16 (P : Params) (tk tj : Nat) : intsOf (vals16 P tk tj).toList = some ns16 := by kernel_rfl
noncomputable def S16f (k : Int) : Bool := (firstMet (fun i => ns16.getD i 0) 97).any (· == k)
noncomputable def Facts16 (w : World) (ob : Nat → Obj) : Prop := (ob 162).SetObjOf (intKind pw w) S16f (firstMet (fun i => ns16.getD i 0) 97).length
noncomputable def setParts : Pos × Str × Pos × List Expr × List Keyword × Pos × Pos := match (pw.main.body[16]? : Option Stmt) with
  | some (Stmt.Assign [Expr.Name _ p1] (Expr.Call (Expr.Name id p2) args kws p3) p4) => (p1, id, p2, args, kws, p3, p4)
  | _ => (default, "", default, [], [], default, default)
theorem st16_eq : sts 16 1 = [Stmt.Assign [Expr.Name "c9_set" setParts.1] (Expr.Call (Expr.Name setParts.2.1 setParts.2.2.1) setParts.2.2.2.1 setParts.2.2.2.2.1 setParts.2.2.2.2.2.1) setParts.2.2.2.2.2.2] := by kernel_rfl
theorem arg16_eq : arg16 = (do
    let f ← eval (Expr.Name setParts.2.1 setParts.2.2.1) envT
    let a ← holding (f :: []) (evalArgs f true (backTo setParts.2.2.2.2.2.1 (starEach setParts.2.2.2.1 envT)) (backToKw setParts.2.2.2.2.2.1 (keywordEach setParts.2.2.2.2.1 envT)))
    match a.pos, a.kw, f with
    | [.ref l], [], .type "set" => if l == 161 then pure .next else unsupported ""
    | _, _, _ => unsupported "args") := by kernel_rfl
theorem setCall {w : World} {os : OsState} {q : Pos} {ob₀ : Nat → Obj} {tk tj₀ : Nat} (h8 : Facts8 w ob₀) :
    wpT pw w cT q (call (.type "set") [.ref 161]) (fun r s' => r = .ref 162 ∧ ∃ ob tj, Facts8 w ob ∧ Facts16 w ob ∧ s' = (S10 w os ob tk tj).abs) (S9 w os ob₀ tk tj₀).abs := by
  have hz0 : (S9 w os ob₀ tk tj₀).abs.heap.objs.size = 162 := absHeap_size _ _ _
  have hl : (S9 w os ob₀ tk tj₀).abs.heap.IsList 161 (vals16 w.params tk tj₀) := by
    refine ⟨o161v9 w.params tk tj₀, (abs_get (show 161 < 162 by decide) (by rfl)).trans rfl, rfl, 0, rfl⟩
  have hi := intsOf_are _ _ (ints16 w.params tk tj₀)
  have hsz : (vals16 w.params tk tj₀).size = 97 := by rfl
  refine wpT_mono (wpT_life (wpT_any (Q := fun v s' => v = .ref 162 ∧ ∃ h' tj, h'.SetOf (intKind pw w) 162 S16f (firstMet (fun i => ns16.getD i 0) 97).length ∧ h'.objs.size = 162 + 4 ∧
      (∀ b o, (S9 w os ob₀ tk tj₀).abs.heap.get? b = some o → h'.get? b = some o) ∧ s' = { (S9 w os ob₀ tk tj₀).abs with heap := h', toks := tj }) ?_)) ?_
  · refine call_set_sz rfl hl hi (by rw [hsz]; decide) fun h' tj hz hk hS => ?_
    rw [hsz, hz0] at hS
    have hz' : h'.objs.size = (S9 w os ob₀ tk tj₀).abs.heap.objs.size + 4 := hz
    exact ⟨congrArg Value.ref hz0, h', tj, hS, by rw [hz', hz0], hk, rfl⟩
  · rintro v s' ⟨⟨rfl, h', tj, hS, hz, hk, rfl⟩, hlife⟩
    dsimp only at hlife
    obtain ⟨kvs, hv, es, ep, hex, hdat, hrest⟩ := h8
    have h61 : h'.get? 61 = some (ob₀ 61) := by
      refine hk 61 _ ((abs_get (show 61 < 162 by decide) (by rfl)).trans ?_)
      show alive (ob₀ 61) = some (ob₀ 61)
      generalize ob₀ 61 = o at hdat
      obtain ⟨a, b, c, d⟩ := o
      dsimp only at hdat
      subst hdat
      rfl
    refine ⟨rfl, (fun i => (h'.objs[i]?).getD default), tj, ⟨kvs, hv, ?_⟩, ?_, ?_⟩
    · have e : (h'.objs[61]?).getD default = ob₀ 61 := by rw [objs_of_get h61]; rfl
      show DictIs w ((h'.objs[61]?).getD default) kvs
      rw [e]
      exact ⟨es, ep, hex, hdat, hrest⟩
    · obtain ⟨o, ho, hso⟩ := hS.objOf
      have e : (h'.objs[162]?).getD default = o := by rw [objs_of_get ho]; rfl
      show Obj.SetObjOf _ ((h'.objs[162]?).getD default) _ _
      rw [e]
      exact hso
    · have E := grown (t := T9 w.params ob₀ tk tj₀) (t' := T10 w.params (fun i => (h'.objs[i]?).getD default) tk tj) (n := 166) (m := 162) (ob := fun i => (h'.objs[i]?).getD default)
        (List.range 61 ++ List.range' 100 62) (List.range' 61 39 ++ List.range' 162 4) hz hlife (by decide +kernel) hk (by decide +kernel) (by kernel_rfl) (by kernel_rfl) (by kernel_rfl) (fun i _ hi => by
          have : i < h'.objs.size := by omega
          rw [Array.getElem?_eq_getElem this]; rfl)
      unfold SharedT.abs
      exact Shared.mk.injEq .. |>.mpr ⟨E, rfl, rfl, rfl, rfl⟩
theorem w16_gen (w : World) (os : OsState) (q : Pos) (ob₀ : Nat → Obj) (tk tj₀ : Nat) (h8 : Facts8 w ob₀) (p1 : Pos) (id : Str) (p2 : Pos) (args : List Expr) (kws : List Keyword) (p3 p4 : Pos)
    (harg : arg16 = (do
      let f ← eval (Expr.Name id p2) envT
      let a ← holding (f :: []) (evalArgs f true (backTo p3 (starEach args envT)) (backToKw p3 (keywordEach kws envT)))
      match a.pos, a.kw, f with
      | [.ref l], [], .type "set" => if l == 161 then pure .next else unsupported ""
      | _, _, _ => unsupported "args"))
    (hs : swapsWith (Expr.Call (Expr.Name id p2) args kws p3) (some (.Name "c9_set" p1)) p4.line envT = pure false)
    (hstar : ((backTo p3 (starEach args envT)).any (·.1) || (backToKw p3 (keywordEach kws envT)).any (·.1.isNone)) = false) :
    wpT pw w cT q (execs [Stmt.Assign [Expr.Name "c9_set" p1] (Expr.Call (Expr.Name id p2) args kws p3) p4] envT) (fun f s' => f = .next ∧ ∃ ob tj, Facts8 w ob ∧ Facts16 w ob ∧ s' = (S11 w os ob tk tj).abs) (S8 w os ob₀ tk tj₀).abs := by
  have P := wp_piece (fun pos => p16 w os ob₀ tk tj₀ pos q) rfl
  rw [execs_cons, exec_Assign_Name _ _ _ _ _ hs]
  refine wpT_bind (wpT_bind (wpT_standAt (wpT_bind ?_)))
  rw [arm_eval_Call_Name']
  refine ⟨fun pos => ?_⟩
  have P1 := P.run pos
  rw [harg, Sem.wp_bind'] at P1
  rw [Sem.wp_bind']
  refine Sem.wp_mono _ _ _ (fun f p' s' x => ?_) (fun _ _ _ x => x) _ _ P1
  rw [Sem.wp_bind'] at x
  unfold callWith
  rw [Sem.wp_bind']
  refine Sem.wp_mono _ _ _ (fun a p'' s'' y => ?_) (fun _ _ _ x => x) _ _ x
  split at y
  · rename_i l e1 e2
    split at y
    · rename_i el
      have el' : l = 161 := by simpa using el
      subst el'
      obtain ⟨-, rfl⟩ := y
      rw [e1, e2]
      refine (show wpT pw w cT q _ _ _ from ?_).run p''
      refine wpT_bind (wpT_standAt ?_)
      rw [hstar]
      have hkeep : keeperOf (.type "set") = pure .machine := rfl
      rw [hkeep]
      refine wpT_bind (wpT_pure ?_)
      show wpT pw w cT q (call (Value.type "set") [Value.ref 161] >>= fun r => (do holding [r] point; pure r)) _ _
      refine wpT_bind (wpT_mono (setCall (q := q) (os := os) h8) ?_)
      rintro r s3 ⟨rfl, ob, tj, f8, f16, rfl⟩
      refine wpT_bind (wpT_any (wpAny_holding (wpAny_point (wpT_pure ?_))))
      refine wpT_bind (wpT_standAt ?_)
      refine wpT_mono (wp_piece (fun pos => p16s w os ob tk tj pos q) rfl) ?_
      rintro a s4 ⟨rfl, rfl⟩
      exact wpT_pure ⟨rfl, ob, tj, f8, f16, rfl⟩
    · exact y.elim
  · exact y.elim
theorem w16 (w : World) (os : OsState) (q : Pos) (ob₀ : Nat → Obj) (tk tj₀ : Nat) (h8 : Facts8 w ob₀) :
    wpT pw w cT q (execs (sts 16 1) envT) (fun f s' => f = .next ∧ ∃ ob tj, Facts8 w ob ∧ Facts16 w ob ∧ s' = (S11 w os ob tk tj).abs) (S8 w os ob₀ tk tj₀).abs := by
  have e1 := st16_eq
  have e2 := arg16_eq
  have e3 : swapsWith (Expr.Call (Expr.Name setParts.2.1 setParts.2.2.1) setParts.2.2.2.1 setParts.2.2.2.2.1 setParts.2.2.2.2.2.1) (some (.Name "c9_set" setParts.1)) setParts.2.2.2.2.2.2.line envT = pure false := by kernel_rfl
  have e4 : ((backTo setParts.2.2.2.2.2.1 (starEach setParts.2.2.2.1 envT)).any (·.1) || (backToKw setParts.2.2.2.2.2.1 (keywordEach setParts.2.2.2.2.1 envT)).any (·.1.isNone)) = false := by kernel_rfl
  generalize setParts = d at e1 e2 e3 e4
  rw [e1]
  exact w16_gen w os q ob₀ tk tj₀ h8 _ _ _ _ _ _ _ e2 e3 e4
theorem q0 (w : World) (os : OsState) (q : Pos) (ob : Nat → Obj) (tk tj : Nat) : wpT pw w cT q (execs (sts 0 6) envT) (fun a s => a = .next ∧ s = (S2 w os ob tk tj).abs) (S1 w os ob tk tj).abs :=
  wp_piece (fun pos => p0 w os ob tk tj pos q) rfl
theorem q6 (w : World) (os : OsState) (q : Pos) (ob : Nat → Obj) (tk tj : Nat) : wpT pw w cT q (execs (sts 6 2) envT) (fun a s => a = .next ∧ s = (S3 w os ob tk tj).abs) (S2 w os ob tk tj).abs :=
  wp_piece (fun pos => p6 w os ob tk tj pos q) rfl
theorem q9 (w : World) (os : OsState) (q : Pos) (ob : Nat → Obj) (tk tj : Nat) : wpT pw w cT q (execs (sts 9 3) envT) (fun a s => a = .next ∧ s = (S6 w os ob tk tj).abs) (S5 w os ob tk tj).abs :=
  wp_piece (fun pos => p9 w os ob tk tj pos q) rfl
theorem q12 (w : World) (os : OsState) (q : Pos) (ob : Nat → Obj) (tk tj : Nat) : wpT pw w cT q (execs (sts 12 2) envT) (fun a s => a = .next ∧ s = (S7 w os ob tk tj).abs) (S6 w os ob tk tj).abs :=
  wp_piece (fun pos => p12 w os ob tk tj pos q) rfl
theorem q14 (w : World) (os : OsState) (q : Pos) (ob : Nat → Obj) (tk tj : Nat) : wpT pw w cT q (execs (sts 14 2) envT) (fun a s => a = .next ∧ s = (S8 w os ob tk tj).abs) (S7 w os ob tk tj).abs :=
  wp_piece (fun pos => p14 w os ob tk tj pos q) rfl
theorem q17 (w : World) (os : OsState) (q : Pos) (ob : Nat → Obj) (tk tj : Nat) : wpT pw w cT q (execs (sts 17 42) envT) (fun a s => a = .next ∧ s = (S12 w os ob tk tj).abs) (S11 w os ob tk tj).abs :=
  wp_piece (fun pos => p17 w os ob tk tj pos q) rfl
theorem q59 (w : World) (os : OsState) (q : Pos) (ob : Nat → Obj) (tk tj : Nat) : wpT pw w cT q (execs (sts 59 10) envT) (fun a s => a = .next ∧ s = (S13 w os ob tk tj).abs) (S12 w os ob tk tj).abs :=
  wp_piece (fun pos => p59 w os ob tk tj pos q) rfl
theorem q69 (w : World) (os : OsState) (q : Pos) (ob : Nat → Obj) (tk tj : Nat) : wpT pw w cT q (execs (sts 69 1) envT) (fun a s => a = .next ∧ s = (S14 w os ob tk tj).abs) (S13 w os ob tk tj).abs :=
  wp_piece (fun pos => p69 w os ob tk tj pos q) rfl
theorem q70 (w : World) (os : OsState) (q : Pos) (ob : Nat → Obj) (tk tj : Nat) : wpT pw w cT q (execs (sts 70 9) envT) (fun a s => a = .next ∧ s = (S15 w os ob tk tj).abs) (S14 w os ob tk tj).abs :=
  wp_piece (fun pos => p70 w os ob tk tj pos q) rfl
noncomputable def BodyQ (w : World) (os : OsState) (f : Flow) (s' : Shared) : Prop := f = .next ∧ ∃ ob tk tj, Facts8 w ob ∧ Facts16 w ob ∧ s' = (S15 w os ob tk tj).abs
theorem wpT_step {w : World} {q : Pos} {l rest : List Stmt} {P Q : Flow → Shared → Prop} {s : Shared} (h : wpT pw w cT q (execs l envT) P s) (k : ∀ f s', P f s' → f = .next ∧ wpT pw w cT q (execs rest envT) Q s') :
    wpT pw w cT q (execs (l ++ rest) envT) Q s := wpT_execs_app (wpT_mono h k)
theorem c70 (w : World) (os : OsState) (q : Pos) (ob : Nat → Obj) (tk tj : Nat) (f8 : Facts8 w ob) (f16 : Facts16 w ob) : wpT pw w cT q (execs (sts 70 9) envT) (BodyQ w os) (S14 w os ob tk tj).abs :=
  wpT_mono (q70 w os q ob tk tj) (fun a s' h => ⟨h.1, ob, tk, tj, f8, f16, h.2⟩)
theorem c69 (w : World) (os : OsState) (q : Pos) (ob : Nat → Obj) (tk tj : Nat) (f8 : Facts8 w ob) (f16 : Facts16 w ob) : wpT pw w cT q (execs (sts 69 1 ++ (sts 70 9)) envT) (BodyQ w os) (S13 w os ob tk tj).abs :=
  wpT_step (q69 w os q ob tk tj) (fun a s' h => ⟨h.1, h.2 ▸ c70 w os q ob tk tj f8 f16⟩)
theorem c59 (w : World) (os : OsState) (q : Pos) (ob : Nat → Obj) (tk tj : Nat) (f8 : Facts8 w ob) (f16 : Facts16 w ob) : wpT pw w cT q (execs (sts 59 10 ++ (sts 69 1 ++ (sts 70 9))) envT) (BodyQ w os) (S12 w os ob tk tj).abs :=
  wpT_step (q59 w os q ob tk tj) (fun a s' h => ⟨h.1, h.2 ▸ c69 w os q ob tk tj f8 f16⟩)
theorem c17 (w : World) (os : OsState) (q : Pos) (ob : Nat → Obj) (tk tj : Nat) (f8 : Facts8 w ob) (f16 : Facts16 w ob) : wpT pw w cT q (execs (sts 17 42 ++ (sts 59 10 ++ (sts 69 1 ++ (sts 70 9)))) envT) (BodyQ w os) (S11 w os ob tk tj).abs :=
  wpT_step (q17 w os q ob tk tj) (fun a s' h => ⟨h.1, h.2 ▸ c59 w os q ob tk tj f8 f16⟩)
theorem c16 (w : World) (os : OsState) (q : Pos) (ob : Nat → Obj) (tk tj : Nat) (f8 : Facts8 w ob) : wpT pw w cT q (execs (sts 16 1 ++ (sts 17 42 ++ (sts 59 10 ++ (sts 69 1 ++ (sts 70 9))))) envT) (BodyQ w os) (S8 w os ob tk tj).abs :=
  wpT_step (w16 w os q ob tk tj f8) (fun a s' ⟨h, ob', tj', f8', f16', e⟩ => ⟨h, e ▸ c17 w os q ob' tk tj' f8' f16'⟩)
theorem c14 (w : World) (os : OsState) (q : Pos) (ob : Nat → Obj) (tk tj : Nat) (f8 : Facts8 w ob) : wpT pw w cT q (execs (sts 14 2 ++ (sts 16 1 ++ (sts 17 42 ++ (sts 59 10 ++ (sts 69 1 ++ (sts 70 9)))))) envT) (BodyQ w os) (S7 w os ob tk tj).abs :=
  wpT_step (q14 w os q ob tk tj) (fun a s' h => ⟨h.1, h.2 ▸ c16 w os q ob tk tj f8⟩)
theorem c12 (w : World) (os : OsState) (q : Pos) (ob : Nat → Obj) (tk tj : Nat) (f8 : Facts8 w ob) : wpT pw w cT q (execs (sts 12 2 ++ (sts 14 2 ++ (sts 16 1 ++ (sts 17 42 ++ (sts 59 10 ++ (sts 69 1 ++ (sts 70 9))))))) envT) (BodyQ w os) (S6 w os ob tk tj).abs :=
  wpT_step (q12 w os q ob tk tj) (fun a s' h => ⟨h.1, h.2 ▸ c14 w os q ob tk tj f8⟩)
theorem c9 (w : World) (os : OsState) (q : Pos) (ob : Nat → Obj) (tk tj : Nat) (f8 : Facts8 w ob) : wpT pw w cT q (execs (sts 9 3 ++ (sts 12 2 ++ (sts 14 2 ++ (sts 16 1 ++ (sts 17 42 ++ (sts 59 10 ++ (sts 69 1 ++ (sts 70 9)))))))) envT) (BodyQ w os) (S5 w os ob tk tj).abs :=
  wpT_step (q9 w os q ob tk tj) (fun a s' h => ⟨h.1, h.2 ▸ c12 w os q ob tk tj f8⟩)
theorem c8 (w : World) (os : OsState) (q : Pos) (ob : Nat → Obj) (tk tj : Nat) : wpT pw w cT q (execs (sts 8 1 ++ (sts 9 3 ++ (sts 12 2 ++ (sts 14 2 ++ (sts 16 1 ++ (sts 17 42 ++ (sts 59 10 ++ (sts 69 1 ++ (sts 70 9))))))))) envT) (BodyQ w os) (S3 w os ob tk tj).abs :=
  wpT_step (w8 w os q ob tk tj) (fun a s' ⟨h, ob', tk', f8', e⟩ => ⟨h, e ▸ c9 w os q ob' tk' tj f8'⟩)
theorem c6 (w : World) (os : OsState) (q : Pos) (ob : Nat → Obj) (tk tj : Nat) : wpT pw w cT q (execs (sts 6 2 ++ (sts 8 1 ++ (sts 9 3 ++ (sts 12 2 ++ (sts 14 2 ++ (sts 16 1 ++ (sts 17 42 ++ (sts 59 10 ++ (sts 69 1 ++ (sts 70 9)))))))))) envT) (BodyQ w os) (S2 w os ob tk tj).abs :=
  wpT_step (q6 w os q ob tk tj) (fun a s' h => ⟨h.1, h.2 ▸ c8 w os q ob tk tj⟩)
theorem c0 (w : World) (os : OsState) (q : Pos) (ob : Nat → Obj) (tk tj : Nat) : wpT pw w cT q (execs (sts 0 6 ++ (sts 6 2 ++ (sts 8 1 ++ (sts 9 3 ++ (sts 12 2 ++ (sts 14 2 ++ (sts 16 1 ++ (sts 17 42 ++ (sts 59 10 ++ (sts 69 1 ++ (sts 70 9))))))))))) envT) (BodyQ w os) (S1 w os ob tk tj).abs :=
  wpT_step (q0 w os q ob tk tj) (fun a s' h => ⟨h.1, h.2 ▸ c6 w os q ob tk tj⟩)
theorem body_run (w : World) (os : OsState) (q : Pos) : wpT pw w cT q (execs (behindTheImports pw) envT) (BodyQ w os) (S1 w os (fun _ => default) 0 0).abs := by
  have e : behindTheImports pw = sts 0 6 ++ (sts 6 2 ++ (sts 8 1 ++ (sts 9 3 ++ (sts 12 2 ++ (sts 14 2 ++ (sts 16 1 ++ (sts 17 42 ++ (sts 59 10 ++ (sts 69 1 ++ (sts 70 9)))))))))) := by kernel_rfl
  rw [e]
  exact c0 w os q _ 0 0
theorem wp_of_seg0' {tb : String → Option Builtin} {p : Program} {w : World} {n₀ : Nat} {ann : Option Value} {n : Nat} {s s' : Shared} {f : Flow} {m : Sem Flow} {pos p' : Pos}
    (h : segRun tb p w n₀ ann 0 n s ⟨m.wrap doneF deadEnd id id, .builtin "claim.caller" {}, pos, []⟩ = some (f, s', .builtin "claim.caller" {}, p')) (hg : s'.gens = #[]) :
    Sem.wp ⟨denote tb, p, w⟩ ⟨.builtin "claim.caller" {}, none, none, [], none⟩ m (fun a _ s'' => a = f ∧ s'' = s') (fun _ _ _ => False) pos s := by
  obtain ⟨k, hr, hc⟩ := seg0_halts n _ _ _ _ _ h hg
  obtain ⟨s₂, hr2, hf⟩ := runN_calm_runNI _ _ _ hr hc
  have e : s₂ = s' := Shared.eq_of_forget_eq hf.symm hg
  subst e
  have R := ((halts_iff (M := ⟨denote tb, p, w⟩) (r := .ok f) (s := s) (t := m.wrap doneF deadEnd id id) (c := .builtin "claim.caller" {}) (p := pos) (st := [])).mp ⟨k, hr2⟩).1
  have W := (Sem.wp_iff_runs ⟨denote tb, p, w⟩ ⟨.builtin "claim.caller" {}, none, none, [], none⟩ (m.wrap doneF deadEnd id id) (fun r s'' => r = .ok f ∧ s'' = s₂) pos s).mpr ⟨_, _, R, rfl, rfl⟩
  rw [wp_wrap] at W
  refine Sem.wp_mono _ _ _ (fun a p' s'' x => ?_) (fun e p' s'' x => ?_) _ _ W
  · have := x
    simp only [Sem.wp, Sem.finPost] at this
    exact ⟨by injection this.1, this.2⟩
  · simp only [Sem.wp] at x
noncomputable def pre0 : Sem Flow := do
  let code ← moduleCode pw.main
  let frame ← newBodyFrame code mainNs mainNs
  if code == .ref 13 && frame == 14 then pure .next else unsupported ""
theorem twModuleCode : @moduleCode = @PySem.W.Fast.tw17154629097778926822 := PySem.W.Fast.te17154629097778926822
theorem twNewBodyFrame : @newBodyFrame = @PySem.W.Fast.tw12822647523644345616 := PySem.W.Fast.te12822647523644345616
theorem pre_run (w : World) (os : OsState) (ob : Nat → Obj) (tk tj : Nat) (pos : Pos) : segRunT treeTable pw w 0 none 0 20 (S0 w os ob tk tj) ⟨pre0.wrap doneF deadEnd id id, .builtin "claim.caller" {}, pos, []⟩ = some (.next, S1 w os ob tk tj, .builtin "claim.caller" {}, pos) := by
  unfold pre0
  rw [twSeg, twTree, twModuleCode, twNewBodyFrame]
  kernel_rfl
theorem boot_abs (w : World) (os : OsState) (ob : Nat → Obj) (tk tj : Nat) : (S0 w os ob tk tj).abs = ⟨boot_heap w.params, #[], boot_drawn, boot_toks, os⟩ := by kernel_rfl
theorem block_run (w : World) (os : OsState) (ob : Nat → Obj) (tk tj : Nat) (pos q : Pos) : segRunT treeTable pw w 0 none 0 10 (S1 w os ob tk tj) ⟨(blockStart (behindTheImports pw) envT >>= fun _ => pure Flow.next).wrap doneF deadEnd id id, cT, pos, [baseF q]⟩ = some (.next, S1 w os ob tk tj, .builtin "claim.caller" {}, q) := by
  rw [twSeg, twTree]
  kernel_rfl
noncomputable abbrev stubTree (p : Program) : Sem Fin := (topStub p).cur
theorem stub_wp (w : World) (os : OsState) : Sem.wp (model pw w) ⟨.builtin "claim.caller" {}, none, none, [], none⟩ (stubTree pw)
    (Sem.finPost (model pw w) ⟨.builtin "claim.caller" {}, none, none, [], none⟩ fun r s' => r = .ok (.ret .none) ∧ BodyQ w os .next s') (fun e _ s' => (.error e : Result) = .ok (.ret .none) ∧ BodyQ w os .next s') default ⟨boot_heap w.params, #[], boot_drawn, boot_toks, os⟩ := by
  have P := wp_of_seg0' (segRun_of (pre_run w os (fun _ => default) 0 0 default)) rfl
  rw [← table_eq_tree, boot_abs] at P
  show Sem.wp (model pw w) _ (moduleCode pw.main >>= fun code => newBodyFrame code mainNs mainNs >>= fun frame => (run (.body (behindTheImports pw) { scope := pw.main.scope, locals := mainNs, globals := mainNs, cells := [], code, frame := some frame }) >>= fun _ => ret .none)) _ _ _ _
  unfold pre0 at P
  rw [Sem.wp_bind'] at P ⊢
  refine Sem.wp_mono _ _ _ (fun code p' s' x => ?_) (fun _ _ _ x => x.elim) _ _ P
  rw [Sem.wp_bind'] at x ⊢
  refine Sem.wp_mono _ _ _ (fun frame p'' s'' y => ?_) (fun _ _ _ x => x.elim) _ _ x
  split at y
  · rename_i hc
    simp only [Bool.and_eq_true, beq_iff_eq] at hc
    obtain ⟨rfl, rfl⟩ := hc
    obtain ⟨-, rfl⟩ := y
    rw [Sem.wp_bind', Sem.wp_run]
    show wpCode (model pw w) (topCtx cT p'') _ p'' _
    rw [wpCode_iff_wp]
    show Sem.wp (model pw w) (topCtx cT p'') (denote table (.body (behindTheImports pw) envT)) _ _ p'' _
    rw [body_wrap, wp_wrap]
    have B := (wp_piece (fun pos => block_run w os (fun _ => default) 0 0 pos p'') rfl).run p''
    rw [Sem.wp_bind'] at B
    refine Sem.wp_mono _ _ _ (fun u p3 s3 z => ?_) (fun _ _ _ x => x.elim) _ _ B
    obtain ⟨-, rfl⟩ := z
    rw [wp_wrap]
    refine Sem.wp_mono _ _ _ (fun f p4 s4 z => ?_) (fun _ _ _ x => x.elim) _ _ ((body_run w os p'').run p3)
    have hf : f = .next := z.1
    subst hf
    exact ⟨rfl, z⟩
  · exact y.elim
noncomputable def notDone : Step → Prop
  | .halt (.done _) _ => False
  | _ => True
theorem ite_end {c : Prop} [Decidable c] {x y : Step} (h1 : notDone x) (h2 : notDone y) : notDone (if c then x else y) := by
  by_cases h : c
  · rw [if_pos h]; exact h1
  · rw [if_neg h]; exact h2
theorem step_kind {den : Code → Sem Fin} {p : Program} {w : World} (s : Shared) (t : Thread) : through t = true ∨ notDone (step den p w s t) := by
  obtain ⟨hp, g, d, tk, os⟩ := s
  obtain ⟨cur, code, pos, stack⟩ := t
  cases cur with
  | pure a =>
    cases a with
    | done f =>
      cases stack with
      | nil => exact .inl rfl
      | cons a b => cases a <;> exact .inr trivial
    | again c => exact .inr trivial
  | raise e =>
    refine .inr ?_
    cases stack with
    | nil => exact ite_end trivial trivial
    | cons a b => cases a <;> trivial
  | finish e => exact .inr (ite_end trivial trivial)
  | load a q k => refine .inr ?_; dsimp only [step]; cases hp.get? a <;> trivial
  | update a q f k => exact .inr (ite_end trivial trivial)
  | choose src n k => exact .inr (ite_end trivial trivial)
  | genState i k => refine .inr ?_; dsimp only [step]; cases g[i]? <;> trivial
  | resume i r l k =>
    refine .inr ?_
    dsimp only [step]
    cases g[i]? with
    | none => trivial
    | some x =>
      cases x with
      | fresh c => cases r with
        | send v => cases v <;> trivial
        | throw e => trivial
      | _ => trivial
  | yield v g0 l kk =>
    refine .inr ?_
    dsimp only [step]
    cases splitAtGen stack with
    | none => trivial
    | some x => obtain ⟨a, ⟨b, c, d, e⟩, f⟩ := x; trivial
  | _ => exact .inr trivial
theorem halt_through {den : Code → Sem Fin} {p : Program} {w : World} {s s' : Shared} {t : Thread} {f : Flow} (h : step den p w s t = .halt (.done f) s') : through t = true ∧ s' = s := by
  refine ⟨?_, step_halt_same den p w s s' t _ h⟩
  rcases step_kind (den := den) (p := p) (w := w) s t with k | k
  · exact k
  · rw [h] at k; exact k.elim
theorem runN_before {den : Code → Sem Fin} {p : Program} {w : World} {f : Flow} {s' : Shared} : ∀ (n : Nat) (s : Shared) (t : Thread), runN den p w n s t = .halted (.done f) s' → ∃ m t', runN den p w m s t = .running s' t' ∧ through t' = true
  | 0, s, t, h => by simp [runN] at h
  | n + 1, s, t, h => by
    simp only [runN] at h
    cases hs : step den p w s t with
    | go s₁ t₁ =>
      rw [hs] at h
      obtain ⟨m, t', h1, h2⟩ := runN_before n s₁ t₁ h
      exact ⟨m + 1, t', by simp only [runN, hs]; exact h1, h2⟩
    | halt o s₁ =>
      rw [hs] at h
      simp only [Run.halted.injEq] at h
      obtain ⟨rfl, rfl⟩ := h
      obtain ⟨h1, h2⟩ := halt_through hs
      subst h2
      exact ⟨0, t, rfl, h1⟩
noncomputable def keepL : List Nat := (List.range 79).filter fun i => !([0, 5, 8, 18, 73] : List Nat).contains i
noncomputable def qV : Program := view pw keepL
noncomputable def looseV : List Str := ["b1_set", "b3_exceptions", "c6_set", "c7_set", "c8_set", "c9_set", "EXACT_TOKEN_TYPES"]
noncomputable def xtV (s : Shared) : Bool := xlAt qV [] s && recOk [] s
theorem looks1 (w : World) (os : OsState) (ob : Nat → Obj) (tk tj : Nat) : (staticsOk (importedModules pw.main.body) (boot_heap w.params) (S15 w os ob tk tj).abs.heap && namesBound pw (S15 w os ob tk tj).abs.heap && gensDone (S15 w os ob tk tj).abs && laidKept (boot_heap w.params) (S15 w os ob tk tj).abs.heap) = true := by kernel_rfl
theorem tw_seen : @seen = @PySem.W.Fast.tw5160383126252970620 := PySem.W.Fast.te5160383126252970620
theorem tw_ownsOf : @ownsOf = @PySem.W.Fast.tw5991557255702980513 := PySem.W.Fast.te5991557255702980513
theorem tw_recsOf : @recsOf = @PySem.W.Fast.tw3399658132070893891 := PySem.W.Fast.te3399658132070893891
theorem tw_Heap_keysOk : @Heap.keysOk = @PySem.W.Fast.tw10880121769531294198 := PySem.W.Fast.te10880121769531294198
theorem tw_looseW : @looseW = @PySem.W.Fast.tw821141287760084731 := PySem.W.Fast.te821141287760084731
theorem tw_litsOf : @litsOf = @PySem.W.Fast.tw7409074990110511671 := PySem.W.Fast.te7409074990110511671
theorem tw_clssOf : @clssOf = @PySem.W.Fast.tw13664370479719496447 := PySem.W.Fast.te13664370479719496447
theorem tw_Heap_accountedOkI : @Heap.accountedOkI = @PySem.W.Fast.tw14722251495701143533 := PySem.W.Fast.te14722251495701143533
theorem tw_tablesOk : @tablesOk = @PySem.W.Fast.tw10994771534591457954 := PySem.W.Fast.te10994771534591457954
theorem tw_tabsOk : @tabsOk = @PySem.W.Fast.tw479339242167458305 := PySem.W.Fast.te479339242167458305
theorem tw_pinSeenD : @pinSeenD = @PySem.W.Fast.tw16090120013241838585 := PySem.W.Fast.te16090120013241838585
theorem tw_plainSeenE : @plainSeenE = @PySem.W.Fast.tw2386780881361962483 := PySem.W.Fast.te2386780881361962483
theorem tw_plainSeenD : @plainSeenD = @PySem.W.Fast.tw11698064438423848299 := PySem.W.Fast.te11698064438423848299
theorem tw_wideSeen : @wideSeen = @PySem.W.Fast.tw7317090234206586261 := PySem.W.Fast.te7317090234206586261
theorem tw_clsSeenW : @clsSeenW = @PySem.W.Fast.tw7369524293546568484 := PySem.W.Fast.te7369524293546568484
theorem tw_drecsOf : @drecsOf = @PySem.W.Fast.tw3247288618530077131 := PySem.W.Fast.te3247288618530077131
theorem k2_0 (w : World) (os : OsState) (ob : Nat → Obj) (tk tj : Nat) : seen ((recsOf qV).map (·.name)) (ownsOf qV) [] { (S15 w os ob tk tj).abs with gens := #[] } = expectedOf qV := by
  rw [tw_seen, tw_recsOf, tw_ownsOf]
  kernel_rfl
theorem k2_1 (w : World) (os : OsState) (ob : Nat → Obj) (tk tj : Nat) : ((S15 w os ob tk tj).abs).heap.bltView = bltViewBooted := by
  kernel_rfl
theorem k2_2 (w : World) (os : OsState) (ob : Nat → Obj) (tk tj : Nat) : ((S15 w os ob tk tj).abs).heap.keysOk (looseW qV looseV) ((recsOf qV).map (·.name)) ((litsOf qV).map (·.1)) ((clssOf qV (looseW qV looseV)).map (·.name)) = true := by
  rw [tw_Heap_keysOk, tw_looseW, tw_recsOf, tw_litsOf, tw_clssOf]
  kernel_rfl
theorem k2_3 (w : World) (os : OsState) (ob : Nat → Obj) (tk tj : Nat) : ((S15 w os ob tk tj).abs).heap.accountedOkI (importedModules pw.main.body) = true := by
  rw [tw_Heap_accountedOkI]
  kernel_rfl
theorem k2_4 (w : World) (os : OsState) (ob : Nat → Obj) (tk tj : Nat) : ((S15 w os ob tk tj).abs).heap.isNs mainGlobals = true := by
  kernel_rfl
theorem k2_5 (w : World) (os : OsState) (ob : Nat → Obj) (tk tj : Nat) : tablesOk qV ((S15 w os ob tk tj).abs).heap = true := by
  rw [tw_tablesOk]
  kernel_rfl
theorem k2_6 (w : World) (os : OsState) (ob : Nat → Obj) (tk tj : Nat) : xtV (S15 w os ob tk tj).abs = true := by
  kernel_rfl
theorem k2_7 (w : World) (os : OsState) (ob : Nat → Obj) (tk tj : Nat) : tabsOk qV (S15 w os ob tk tj).abs = true := by
  rw [tw_tabsOk]
  kernel_rfl
theorem k2_8 (w : World) (os : OsState) (ob : Nat → Obj) (tk tj : Nat) : pinSeenD qV (drecsOf qV) (S15 w os ob tk tj).abs = pinGoodD (drecsOf qV) := by
  rw [tw_pinSeenD]
  kernel_rfl
theorem k2_9 (w : World) (os : OsState) (ob : Nat → Obj) (tk tj : Nat) : plainSeenE qV (looseW qV looseV) (S15 w os ob tk tj).abs = plainGoodE qV (looseW qV looseV) := by
  rw [tw_plainSeenE, tw_looseW]
  kernel_rfl
theorem k2_10 (w : World) (os : OsState) (ob : Nat → Obj) (tk tj : Nat) : plainSeenD qV looseV (S15 w os ob tk tj).abs = plainGoodD qV looseV := by
  rw [tw_plainSeenD]
  kernel_rfl
theorem k2_11 (w : World) (os : OsState) (ob : Nat → Obj) (tk tj : Nat) : wideSeen qV (S15 w os ob tk tj).abs = wideGood qV := by
  rw [tw_wideSeen]
  kernel_rfl
theorem k2_12 (w : World) (os : OsState) (ob : Nat → Obj) (tk tj : Nat) : clsSeenW qV looseV (S15 w os ob tk tj).abs = clsGoodW qV looseV := by
  rw [tw_clsSeenW]
  kernel_rfl
theorem k2_13 (w : World) (os : OsState) (ob : Nat → Obj) (tk tj : Nat) : ((S15 w os ob tk tj).abs).heap.isNs builtinsNs = true := by kernel_rfl
theorem k2_14 (w : World) (os : OsState) (ob : Nat → Obj) (tk tj : Nat) : (if true = true then ((S15 w os ob tk tj).abs).gens.size == 0 else !leftWithCleanup ((S15 w os ob tk tj).abs).gens) = true := by kernel_rfl
theorem tup9 {A1 A2 A3 A4 A5 A6 A7 A8 A9 : Type} {a1 b1 : A1} {a2 b2 : A2} {a3 b3 : A3} {a4 b4 : A4} {a5 b5 : A5} {a6 b6 : A6} {a7 b7 : A7} {a8 b8 : A8} {a9 b9 : A9} (h1 : a1 = b1) (h2 : a2 = b2) (h3 : a3 = b3) (h4 : a4 = b4) (h5 : a5 = b5) (h6 : a6 = b6) (h7 : a7 = b7) (h8 : a8 = b8) (h9 : a9 = b9) :
    (a1, a2, a3, a4, a5, a6, a7, a8, a9) = (b1, b2, b3, b4, b5, b6, b7, b8, b9) := by
  subst h1; subst h2; subst h3; subst h4; subst h5; subst h6; subst h7; subst h8; subst h9; rfl
theorem looks2 (w : World) (os : OsState) (ob : Nat → Obj) (tk tj : Nat) : openSeen qV looseV (importedModules pw.main.body) xtV true (S15 w os ob tk tj).abs = openGood qV looseV := by
  unfold openSeen openGood
  exact tup9 (k2_0 w os ob tk tj) (k2_1 w os ob tk tj) (look_both (look_both (look_both (look_both (look_both (look_both (k2_2 w os ob tk tj) (k2_3 w os ob tk tj)) (k2_4 w os ob tk tj)) (k2_13 w os ob tk tj)) (k2_5 w os ob tk tj)) (k2_6 w os ob tk tj)) (k2_14 w os ob tk tj))
    (k2_7 w os ob tk tj) (k2_8 w os ob tk tj) (k2_9 w os ob tk tj) (k2_10 w os ob tk tj) (k2_11 w os ob tk tj) (k2_12 w os ob tk tj)
theorem boot_asleep (w : World) (os : OsState) : (⟨boot_heap w.params, #[], boot_drawn, boot_toks, os⟩ : Shared).asleep := by
  rw [← boot_abs w os (fun _ => default) 0 0]
  exact ⟨rfl, rfl⟩
theorem top_through (w : World) (os : OsState) : ∃ s₁, BodyQ w os .next s₁ ∧ ∃ n t, schedN (denote table) pw w n (.single ⟨boot_heap w.params, #[], boot_drawn, boot_toks, os⟩ (topStub pw)) = .running (.single s₁ t) ∧ through t = true := by
  have W := stub_wp w os
  have W' : Sem.wp (model pw w) ⟨.builtin "claim.caller" {}, none, none, [], none⟩ (stubTree pw)
    (Sem.finPost (model pw w) ⟨.builtin "claim.caller" {}, none, none, [], none⟩ fun r s' => (r = .ok (.ret .none) ∧ BodyQ w os .next s') ∧ leftWithCleanup s'.gens = false)
    (fun e _ s' => ((.error e : Result) = .ok (.ret .none) ∧ BodyQ w os .next s') ∧ leftWithCleanup s'.gens = false) default ⟨boot_heap w.params, #[], boot_drawn, boot_toks, os⟩ := by
    refine Sem.wp_mono _ _ _ (fun fin p s' h => finPost_mono (fun r s'' x => ⟨x, ?_⟩) h) (fun e p s' h => (nomatch h.1)) _ _ W
    obtain ⟨_, _, ob, tk, tj, _, _, rfl⟩ := x
    show leftWithCleanup #[] = false
    simp [leftWithCleanup]
  obtain ⟨n, r, s', hn, hr, hB⟩ := (wp_iff_halts (M := model pw w) (c := .builtin "claim.caller" {}) (stubTree pw) (fun r s' => r = .ok (.ret .none) ∧ BodyQ w os .next s') default _).mp W'
  subst hr
  obtain ⟨s₂, hr2, hf, hc⟩ := runNI_real _ _ _ hn (outcomeOf_ends _)
  have hg : s'.gens = #[] := by obtain ⟨_, ob, tk, tj, _, _, rfl⟩ := hB; rfl
  have e : s₂ = s' := Shared.eq_of_forget_eq hf hg
  subst e
  have hne : ∀ k s₃, runN (denote table) pw w k ⟨boot_heap w.params, #[], boot_drawn, boot_toks, os⟩ (topStub pw) ≠ .halted (.unsupported "lifetime:generator-with-cleanup-left-suspended") s₃ := by
    intro k s₃ hk
    have a := runN_mono (denote table) pw w n k _ _ _ _ hr2
    have b := runN_mono (denote table) pw w k n _ _ _ _ hk
    rw [Nat.add_comm] at b
    have c := a.symm.trans b
    injection c with c1 _
    cases c1
  obtain ⟨m, t, hm, ht⟩ := runN_before n _ _ hr2
  exact ⟨s₂, hB, m, t, (schedN_eq_runN _ _ _ _ _ (boot_asleep w os) ⟨hc, hne⟩ m).trans (congrArg Run.lift hm), ht⟩
theorem xtV_of (s : Shared) (h : xtV s = true) : XL qV [] (s.heap.nsMap mainGlobals) s.heap := xl_of s (Bool.and_eq_true_iff.mp h).1
structure Tops (w : World) (mg : Str → Option Value) (h : Heap) : Prop where
  b1 : mg "b1_set" = some (.ref 50)
  b3 : mg "b3_exceptions" = some (.ref 61)
  c6 : mg "c6_set" = some (.ref 108)
  c7 : mg "c7_set" = some (.ref 120)
  c8 : mg "c8_set" = some (.ref 144)
  c9 : mg "c9_set" = some (.ref 162)
  et : mg "EXACT_TOKEN_TYPES" = some (.ref 173)
theorem tops_names (w : World) (os : OsState) (ob : Nat → Obj) (tk tj : Nat) : (["b1_set", "b3_exceptions", "c6_set", "c7_set", "c8_set", "c9_set", "EXACT_TOKEN_TYPES"] : List Str).map ((S15 w os ob tk tj).abs.heap.nsMap mainGlobals) =
    [some (.ref 50), some (.ref 61), some (.ref 108), some (.ref 120), some (.ref 144), some (.ref 162), some (.ref 173)] := by kernel_rfl
theorem fence_any (s : Shared) : fenceModules? pw s = some s := rfl
theorem opening_plain : opening pw = plainProg pw.main.scope.names := by kernel_rfl
theorem chains_ok : chainsOk qV = true := by decide +kernel
theorem old_same (w : World) (os : OsState) (ob : Nat → Obj) (tk tj : Nat) : ([0, 1, 2, 4, 5, 6, 7, 8, 9, 10] : List Nat).map (fun i => (T0 w.params ob tk tj).get i) = ([0, 1, 2, 4, 5, 6, 7, 8, 9, 10] : List Nat).map (fun i => (T15 w.params ob tk tj).get i) := by kernel_rfl
theorem behind (w : World) : (∃ s, AfterRun (opening pw) w s) ∧ ∀ s, AfterRun (opening pw) w s → ∃ s₀, fenceModules? pw s = some s₀ ∧ s₀.gens = #[] ∧ ∃ s₁, TopRan pw w s₀ s₁ ∧ s₁.asleep ∧ s₁.gens = #[] ∧ s₁.heap.isNs mainGlobals = true ∧
    Ground qV looseV [] (XL qV []) w s₁ (s₁.heap.nsMap mainGlobals) (s₁.heap.nsMap builtinsNs) s₁.heap ∧ ∃ os, BodyQ w os .next s₁ := by
  obtain ⟨s₀, h2, e0⟩ := Option.map_eq_some_iff.mp (boot_open (p := pw) (N := 600) opening_plain rfl fence_any w)
  obtain ⟨s, h4, h5⟩ := Option.bind_eq_some_iff.mp h2
  rw [← table_eq_tree] at h4
  have A := AfterImport.of_importEnds h4
  refine ⟨⟨s, A⟩, fun s' hs' => ?_⟩
  have hss : s' = s := AfterImport.unique hs' A
  subst hss
  obtain ⟨hp, gs, dr, tks, os⟩ := s₀
  simp only [Prod.mk.injEq] at e0
  obtain ⟨rfl, rfl, rfl, rfl⟩ := e0
  obtain ⟨s₁, hB, n, t, hrun, hthr⟩ := top_through w os
  have hB' := hB
  obtain ⟨_, ob, tk, tj, f8, f16, rfl⟩ := hB
  have l1 := looks1 w os ob tk tj
  obtain ⟨l1, hlk⟩ := Bool.and_eq_true_iff.mp l1
  obtain ⟨l1, hgd⟩ := Bool.and_eq_true_iff.mp l1
  obtain ⟨hst, hnb⟩ := Bool.and_eq_true_iff.mp l1
  obtain ⟨G, _, g1, g2, g3, g4, g5⟩ := ground_of_open (w := w) xtV_of chains_ok (looks2 w os ob tk tj)
  have hlife : (S15 w os ob tk tj).abs.heap.life = (boot_heap w.params).life := by kernel_rfl
  refine ⟨_, h5, rfl, _, ⟨⟨n, t, hrun, hthr⟩, hlife, Shared.rest_eq rfl, fun b o hb hn => ?_, g2, statics_of_ok hst, g3, g4, g5, gens_of_done hgd, names_of_bound hnb, laid_of_kept hlk⟩, Shared.asleep_of_life hlife (boot_asleep w os), rfl, g1, G, os, hB'⟩
  have hb0 : (absHeap (T0 w.params ob tk tj) 11 (boot_heap w.params).life).get? b = some o := by
    have : absHeap (T0 w.params ob tk tj) 11 (boot_heap w.params).life = boot_heap w.params := by
      have := congrArg Shared.heap (boot_abs w os ob tk tj)
      exact this
    rw [this]; exact hb
  have hlt : b < 11 := by
    have := Heap.lt_size hb0
    rwa [absHeap_size] at this
  have hb3 : b ≠ 3 := fun e => hn (.inl e)
  have hm : b ∈ ([0, 1, 2, 4, 5, 6, 7, 8, 9, 10] : List Nat) := by
    have key : ∀ b : Nat, b < 11 → b ≠ 3 → b ∈ ([0, 1, 2, 4, 5, 6, 7, 8, 9, 10] : List Nat) := by decide
    exact key b hlt hb3
  have hsame := at_of_map (old_same w os ob tk tj) b hm
  cases hg : (T0 w.params ob tk tj).get b with
  | none =>
    have : (absHeap (T0 w.params ob tk tj) 11 (boot_heap w.params).life).objs[b]? = some default := by rw [absHeap_at, if_pos hlt, hg]; rfl
    exfalso
    revert hg
    have h10 : (([0, 1, 2, 4, 5, 6, 7, 8, 9, 10] : List Nat).all fun i => ((T0 w.params ob tk tj).get i).isSome) = true := by kernel_rfl
    have := List.all_eq_true.mp h10 b hm
    intro hg
    rw [hg] at this
    cases this
  | some o' =>
    rw [abs_get hlt hg] at hb0
    have hg2 : (T15 w.params ob tk tj).get b = some o' := hsame.symm.trans hg
    show (absHeap (T15 w.params ob tk tj) 222 _).get? b = some o
    rw [abs_get (show b < 222 from Nat.lt_trans hlt (by decide)) hg2]
    exact hb0
noncomputable def setOk (L : List Int) (es : List (Int × Value)) : Bool := es.all fun e => match e.2 with | .int n _ => e.1 == hashInt n && L.contains n | _ => false
noncomputable def setAll (L : List Int) (es : List (Int × Value)) : Bool := L.all fun n => es.any fun e => match e.2 with | .int m _ => m == n | _ => false
theorem set_lit {w : World} {o : Obj} {es : Array (Int × Value)} {ep : Nat} {t : SetTable} (L : List Int) (hd : o.data = .set es ep t) (hex : o.ExactSet) (h1 : setOk L es.toList = true) (h2 : setAll L es.toList = true) (hf : t.fits es.size = true) :
    o.SetObjOf (intKind pw w) (fun k => L.contains k) es.size := by
  refine ⟨hex, es, ep, t, hd, fun e he => ?_, fun k => ⟨fun hk => ?_, fun ⟨e, he, hk⟩ => ?_⟩, rfl, hf⟩
  · have := List.all_eq_true.mp h1 e he
    obtain ⟨a, v⟩ := e
    cases v with
    | int n t =>
      simp only [Bool.and_eq_true, beq_iff_eq] at this
      exact ⟨⟨n, by simp [intKind, Value.isInt], this.1⟩, rfl⟩
    | _ => simp at this
  · have := List.all_eq_true.mp h2 k (by simpa using hk)
    obtain ⟨e, he, h⟩ := List.any_eq_true.mp this
    refine ⟨e, he, ?_⟩
    obtain ⟨a, v⟩ := e
    cases v with
    | int n t =>
      simp only [beq_iff_eq] at h
      subst h
      simp [intKind, Value.isInt]
    | _ => simp at h
  · have := List.all_eq_true.mp h1 e he
    obtain ⟨a, v⟩ := e
    cases v with
    | int n t =>
      simp only [Bool.and_eq_true, beq_iff_eq] at this
      obtain ⟨t', ht⟩ := Value.isInt_shape (show Value.isInt k (.int n t) = true from hk)
      cases ht
      exact this.2
    | _ => simp at this
noncomputable def ettL : List (Str × Int) := [(Str.ofString "!", 54), (Str.ofString "!=", 28), (Str.ofString "%", 24), (Str.ofString "%=", 40), (Str.ofString "&", 19), (Str.ofString "&=", 41), (Str.ofString "(", 7), (Str.ofString ")", 8), (Str.ofString "*", 16), (Str.ofString "**", 35), (Str.ofString "**=", 46), (Str.ofString "*=", 38), (Str.ofString "+", 14), (Str.ofString "+=", 36), (Str.ofString ",", 12), (Str.ofString "-", 15), (Str.ofString "-=", 37), (Str.ofString "->", 51), (Str.ofString ".", 23), (Str.ofString "...", 52), (Str.ofString "/", 17), (Str.ofString "//", 47), (Str.ofString "//=", 48), (Str.ofString "/=", 39), (Str.ofString ":", 11), (Str.ofString ":=", 53), (Str.ofString ";", 13), (Str.ofString "<", 20), (Str.ofString "<<", 33), (Str.ofString "<<=", 44), (Str.ofString "<=", 29), (Str.ofString "=", 22), (Str.ofString "==", 27), (Str.ofString ">", 21), (Str.ofString ">=", 30), (Str.ofString ">>", 34), (Str.ofString ">>=", 45), (Str.ofString "@", 49), (Str.ofString "@=", 50), (Str.ofString "[", 9), (Str.ofString "]", 10), (Str.ofString "^", 32), (Str.ofString "^=", 43), (Str.ofString "{", 25), (Str.ofString "|", 18), (Str.ofString "|=", 42), (Str.ofString "}", 26), (Str.ofString "~", 31)]
noncomputable def b1L : List Int := [173, 847, 6150, 6155, 6156, 6157, 8203, 8204, 8205, 8288, 65024, 65025, 65026, 65027, 65028, 65029, 65030, 65031, 65032, 65033, 65034, 65035, 65036, 65037, 65038, 65039, 65279]
noncomputable def c6L : List Int := [65529, 65530, 65531, 65532, 65533]
noncomputable def c7L : List Int := [12272, 12273, 12274, 12275, 12276, 12277, 12278, 12279, 12280, 12281, 12282, 12283]
noncomputable def c8L : List Int := [832, 833, 8206, 8207, 8234, 8235, 8236, 8237, 8238, 8298, 8299, 8300, 8301, 8302, 8303]
noncomputable def IntP {K : Type} (kv : K × Value) (e : K × Int) : Prop := kv.1 = e.1 ∧ ∃ t, kv.2 = .int e.2 t
noncomputable def DIo (w : World) (o : Obj) (l : List (Str × Int)) : Prop := ∃ kvs, o.IsDictOf (strKind pw w) kvs ∧ All2 IntP kvs l
noncomputable def DI (w : World) (h : Heap) (a : Addr) (l : List (Str × Int)) : Prop := (a == sysModules) = false ∧ ∃ o, h.get? a = some o ∧ DIo w o l
theorem DI.keep {w : World} {h h' : Heap} {a : Addr} {l : List (Str × Int)} (D : DI w h a l) (hk : ∀ b o, h.get? b = some o → h'.get? b = some o) : DI w h' a l :=
  let ⟨x, o, ho, r⟩ := D; ⟨x, o, hk _ _ ho, r⟩
noncomputable def strIn : Value → Option Str | .str k _ => some k | _ => none
noncomputable def intIn : Value → Option Int | .int n _ => some n | _ => none
theorem kvs_lit (w : World) : ∀ (es : List DictEntry) (L : List (Str × Int)), es.map (fun e => strIn e.key) = L.map (fun e => some e.1) → es.map (fun e => intIn e.val) = L.map (fun e => some e.2) → es.map (·.hash) = L.map (fun e => hashStr w e.1) →
    ∃ kvs, Pairs (strKind pw w) es kvs ∧ All2 IntP kvs L ∧ ∀ e ∈ es, ∃ k, (strKind pw w).is k e.key = true ∧ e.hash = (strKind pw w).hash k
  | [], [], _, _, _ => ⟨[], .nil, .nil, fun _ h => nomatch h⟩
  | [], _ :: _, h, _, _ => by simp at h
  | _ :: _, [], h, _, _ => by simp at h
  | e :: es, x :: L, h1, h2, h3 => by
    simp only [List.map_cons, List.cons.injEq] at h1 h2 h3
    obtain ⟨kvs, p1, p2, p3⟩ := kvs_lit w es L h1.2 h2.2 h3.2
    have hk : ∃ t, e.key = .str x.1 t := by
      have := h1.1; revert this; cases e.key <;> simp [strIn]
      all_goals exact fun h => h
    have hv : ∃ t, e.val = .int x.2 t := by
      have := h2.1; revert this; cases e.val <;> simp [intIn]
      all_goals exact fun h => h
    obtain ⟨t, hk⟩ := hk
    have hi : (strKind pw w).is x.1 e.key = true := by rw [hk]; simp [PySem.strKind, Value.isStrOf]
    refine ⟨(x.1, e.val) :: kvs, .cons hi rfl p1, .cons ⟨rfl, hv⟩ p2, fun e' he' => ?_⟩
    rcases List.mem_cons.mp he' with rfl | he'
    · exact ⟨x.1, hi, h3.1⟩
    · exact p3 e' he'
theorem IntP.keys {K : Type} {kvs : List (K × Value)} {l : List (K × Int)} (A : All2 IntP kvs l) : kvs.map (·.1) = l.map (·.1) := by
  induction A with
  | nil => rfl
  | cons h _ ih => simp only [List.map_cons, ih, h.1]
theorem dict_lit (w : World) {o : Obj} {es : Array DictEntry} {ep : Nat} (L : List (Str × Int)) (hex : o.ExactDict) (hd : o.data = .dict es ep) (h1 : es.toList.map (fun e => strIn e.key) = L.map (fun e => some e.1)) (h2 : es.toList.map (fun e => intIn e.val) = L.map (fun e => some e.2))
    (h3 : es.toList.map (·.hash) = L.map (fun e => hashStr w e.1)) (hn : (L.map (·.1)).Nodup) : DIo w o L := by
  obtain ⟨kvs, p1, p2, p3⟩ := kvs_lit w es.toList L h1 h2 h3
  refine ⟨kvs, ?_, p2⟩
  have : Obj.IsDictOf (strKind pw w) o kvs := ⟨es, ep, hex, hd, fun e he => p3 e (by simpa using he), p1, by rw [IntP.keys p2]; exact hn⟩
  exact this
theorem o173_lit (w : World) (tk tj : Nat) : DIo w (o173v14 w.params tk tj) ettL :=
  dict_lit w ettL ⟨rfl, rfl, rfl⟩ rfl (by kernel_rfl) (by kernel_rfl) (by kernel_rfl) (by decide +kernel)
structure TopsF (w : World) (mg : Str → Option Value) (h : Heap) : Prop where
  nm : Tops w mg h
  b1 : ∃ n, h.SetOf (intKind pw w) 50 (fun k => b1L.contains k) n
  c6 : ∃ n, h.SetOf (intKind pw w) 108 (fun k => c6L.contains k) n
  c7 : ∃ n, h.SetOf (intKind pw w) 120 (fun k => c7L.contains k) n
  c8 : ∃ n, h.SetOf (intKind pw w) 144 (fun k => c8L.contains k) n
  c9 : ∃ n, h.SetOf (intKind pw w) 162 S16f n
  b3 : ∃ o kvs, h.get? 61 = some o ∧ o.IsDictOf (intKind pw w) kvs ∧ All2 ValP kvs b3E
  et : DI w h 173 ettL
theorem SetOf_keep {w : World} {h h' : Heap} {a : Addr} {S : Int → Bool} (k : ∀ b o, h.get? b = some o → h'.get? b = some o) (x : ∃ n, h.SetOf (intKind pw w) a S n) : ∃ n, h'.SetOf (intKind pw w) a S n :=
  let ⟨n, o, es, ep, t, ho, r⟩ := x; ⟨n, o, es, ep, t, k _ _ ho, r⟩
theorem TopsF.keeps {w : World} {mg : Str → Option Value} {h h' : Heap} (T : TopsF w mg h) (k : ∀ b o, h.get? b = some o → h'.get? b = some o) : TopsF w mg h' :=
  ⟨⟨T.nm.b1, T.nm.b3, T.nm.c6, T.nm.c7, T.nm.c8, T.nm.c9, T.nm.et⟩, SetOf_keep k T.b1, SetOf_keep k T.c6, SetOf_keep k T.c7, SetOf_keep k T.c8, SetOf_keep k T.c9, (let ⟨o, kvs, h1, h2⟩ := T.b3; ⟨o, kvs, k _ _ h1, h2⟩), T.et.keep k⟩
theorem alive_of {o : Obj} (h : o.data ≠ .freed) : alive o = some o := by
  obtain ⟨c, d, x, sl⟩ := o
  cases x <;> first | rfl | exact absurd rfl h
theorem get15 (w : World) (os : OsState) (ob : Nat → Obj) (tk tj : Nat) {a : Addr} {o : Obj} (ha : a < 222) (h : (T15 w.params ob tk tj).get a = some o) (hf : alive o = some o) : (S15 w os ob tk tj).abs.heap.get? a = some o := (abs_get ha h).trans hf
theorem topsF_of {w : World} {os : OsState} {s₁ : Shared} (B : BodyQ w os .next s₁) : TopsF w (s₁.heap.nsMap mainGlobals) s₁.heap := by
  obtain ⟨_, ob, tk, tj, f8, f16, rfl⟩ := B
  have e := tops_names w os ob tk tj
  simp only [List.map_cons, List.map_nil, List.cons.injEq, and_true] at e
  refine ⟨⟨e.1, e.2.1, e.2.2.1, e.2.2.2.1, e.2.2.2.2.1, e.2.2.2.2.2.1, e.2.2.2.2.2.2⟩, ?_, ?_, ?_, ?_, ?_, ?_, ?_⟩
  · exact ⟨_, (set_lit b1L rfl ⟨rfl, rfl, rfl⟩ (by kernel_rfl) (by kernel_rfl) (by kernel_rfl)).setOf (get15 w os ob tk tj (a := 50) (o := o50v3 w.params tk tj) (by decide) (by kernel_rfl) rfl) (show _ < 4096 from by show _ < _; simp)⟩
  · exact ⟨_, (set_lit c6L rfl ⟨rfl, rfl, rfl⟩ (by kernel_rfl) (by kernel_rfl) (by kernel_rfl)).setOf (get15 w os ob tk tj (a := 108) (o := o108v6 w.params tk tj) (by decide) (by kernel_rfl) rfl) (show _ < 4096 from by show _ < _; simp)⟩
  · exact ⟨_, (set_lit c7L rfl ⟨rfl, rfl, rfl⟩ (by kernel_rfl) (by kernel_rfl) (by kernel_rfl)).setOf (get15 w os ob tk tj (a := 120) (o := o120v7 w.params tk tj) (by decide) (by kernel_rfl) rfl) (show _ < 4096 from by show _ < _; simp)⟩
  · exact ⟨_, (set_lit c8L rfl ⟨rfl, rfl, rfl⟩ (by kernel_rfl) (by kernel_rfl) (by kernel_rfl)).setOf (get15 w os ob tk tj (a := 144) (o := o144v8 w.params tk tj) (by decide) (by kernel_rfl) rfl) (show _ < 4096 from by show _ < _; simp)⟩
  · exact ⟨_, f16.setOf (get15 w os ob tk tj (a := 162) (o := ob 162) (by decide) (by kernel_rfl) (by obtain ⟨_, es, ep, t, hd, _⟩ := f16; exact alive_of (by rw [hd]; nofun))) (by decide +kernel)⟩
  · obtain ⟨kvs, h1, h2⟩ := f8
    exact ⟨ob 61, kvs, get15 w os ob tk tj (a := 61) (by decide) (by kernel_rfl) (by obtain ⟨es, ep, _, hd, _⟩ := h2; exact alive_of (by rw [hd]; nofun)), h2, h1⟩
  · exact ⟨by decide, o173v14 w.params tk tj, get15 w os ob tk tj (by decide) (by kernel_rfl) rfl, o173_lit w tk tj⟩
noncomputable abbrev RL : OpenLaw := PySem.Challenge.rw_zd0020_01
noncomputable abbrev RR : RowW := RL.row.toRowW
noncomputable def partsAt (i : Nat) : Arguments × List Stmt × Scope × Pos := match (pw.main.body[i]? : Option Stmt) with
  | some (Stmt.FunctionDef _ a b _ _ _ sc _ _ p) => (a, b, sc, p)
  | _ => ({ posonlyargs := [], args := [], vararg := none, kwonlyargs := [], kw_defaults := [], kwarg := none, defaults := [] }, [], { kind := .function, names := [], isGenerator := false, isCoroutine := false, more := [] }, default)
noncomputable def defAt (i : Nat) (n : Str) : DefRec := ⟨n, (partsAt i).1, (partsAt i).2.1, (partsAt i).2.2.1, (partsAt i).2.2.2⟩
theorem law_def : defOf qV "law" = some (defAt 78 "law", []) := by kernel_rfl
theorem law_the : pw.theDef "law" = some ((defAt 78 "law").params, (defAt 78 "law").body, (defAt 78 "law").scope) := by kernel_rfl
theorem law_kw : kwWritten? (defAt 78 "law").params.kwonlyargs (defAt 78 "law").params.kw_defaults = some [] := by kernel_rfl
noncomputable def WalkGoal : Prop := ∀ (w : World) (s₀ s₁ : Shared) (mg mb : Str → Option Value), Ground qV looseV [] (XL qV []) w s₀ mg mb s₁.heap → TopsF w mg s₁.heap → s₁.gens = #[] → ∀ (args : List WData) (vs : List Value) (as : List Addr),
  RR.claim.pre args = true → WData.layableAll args = true → ReadsAllW [] (classAt s₀.heap) s₁.heap vs args as → WellAll w.params s₁.heap vs args → (∀ a ∈ as, (a == sysModules) = false) →
  ∃ f, mg "law" = some f ∧ wpAny (model pw w) callerA (PySem.call f vs) (fun v s' => GoodW RR.claim (classAt s₀.heap) (ExcName.means s₀.heap) args s₁ (.ok (.ret v)) s')
    (fun e s' => GoodW RR.claim (classAt s₀.heap) (ExcName.means s₀.heap) args s₁ (.error e) s') s₁
theorem frees_RR : frees RR = true := by decide +kernel
theorem bare_pw : pw.bare := ⟨rfl, rfl, rfl, rfl, rfl, by decide +kernel⟩
theorem opens_pw : opensWell pw = true := by decide +kernel
theorem assemble (walk : WalkGoal) (hw : RR.promised) : RR.claim.HoldsOpenBy (callStub RR.name) [RR.name] RL.row.keeps false := by
  obtain ⟨hsame, hu, ha, hap, hm⟩ := frees_parts frees_RR
  refine ⟨⟨bare_pw, opens_pw, rfl⟩, hw.witness, fun w => ⟨(behind w).1, fun s' hs' => ?_⟩⟩
  obtain ⟨s₀, hf, hg0, s, hT, hz, hgens, hg, G0, os, hB⟩ := (behind w).2 s' hs'
  have RF : RecFacts RR.records s.heap := recFacts_nil rfl
  refine ⟨s₀, hf, hg0, s, hT, fun n hn => ?_, RF.1, RF.2.1, ?_⟩
  · obtain rfl : n = RR.name := by simpa using hn
    exact pinned_of_view hg G0 law_def law_the law_kw
  have hG : leftWithCleanup s.gens = false := by rw [hgens]; simp [leftWithCleanup]
  refine ClaimW.callFrom_of_specN (c := RR.claim) hz hG fun args hpre hlay ord hord => ?_
  obtain ⟨⟨vs, s₁⟩, hlaid⟩ := Option.isSome_iff_exists.mp (layAllW_isSome (R := RR.records) (cl := classAt s.heap) (P := w.params) (ord := ord) G0.has args RR.args s (pre_splitW hpre).1)
  have keeps := layAllW_keeps _ _ _ hlaid
  have hal := layAllW_rest _ _ _ hlaid
  obtain ⟨as, hrd, hin, hold⟩ := reads_layAllW hord _ _ _ hlaid hlay s₁.heap (fun _ _ e => e)
  have G₁ := G0.keeps XL.keeps keeps
  have hlow : ∀ a ∈ as, (a == sysModules) = false := fun a ha => beq_eq_false_iff_ne.mpr fun e => by
    have := (hin.2.2 a ha).1
    subst e
    exact absurd G0.low (Nat.not_lt.mpr this)
  obtain ⟨f, hf, h⟩ := walk w s { s₁ with gens := #[] } _ _ G₁ ((topsF_of hB).keeps keeps) rfl args vs as hpre hlay hrd (well_layAllW hord args s _ hlaid _ fun _ _ e => e) hlow
  have hi := ident_freeW hu ha hap
  refine ⟨vs, s₁, hlaid, ?_⟩
  refine wpAny_bind (wpAny_nsGet G₁.T.g ?_)
  rw [show (s.heap.nsMap mainGlobals) RR.name = some f from hf]
  refine wpAny_bind (wpAny_mono h (fun v s' g => wpAny_pure ⟨_, rfl, ?_⟩) fun e s' g => ?_)
  · have z := g.endsN (c := RR.claim) (s₁ := s₁) hsame rfl hi hrd hold hal.2.2.1
    exact ⟨z.1, z.2.1, z.2.2, fun q => (nomatch q)⟩
  · have z := g.endsN (c := RR.claim) (s₁ := s₁) hsame rfl hi hrd hold hal.2.2.1
    exact ⟨z.1, z.2.1, z.2.2, fun q => (nomatch q)⟩
theorem twRes : @namesResolve = @PySem.W.Fast.tw8377067652309620493 := PySem.W.Fast.te8377067652309620493
theorem twRoad : @noRoadLSs = @PySem.W.Fast.tw8326940854005059898 := PySem.W.Fast.te8326940854005059898
theorem twMeet : @namesMeet = @PySem.W.Fast.tw17119622794617984870 := PySem.W.Fast.te17119622794617984870
theorem twReads : @readsOut = @PySem.W.Fast.tw13343964577679436407 := PySem.W.Fast.te13343964577679436407
theorem twLReads : @OpenLaw.reads = @PySem.W.Fast.tw6984425678791042302 := PySem.W.Fast.te6984425678791042302
theorem twBound : @OpenLaw.bound' = @PySem.W.Fast.tw797321630700447069 := PySem.W.Fast.te797321630700447069
theorem s_fence : (sreFenced RL.row.prog.main && ((moduleNames RL.row.prog.main.body).isEmpty || lookedIntoSs (moduleNames RL.row.prog.main.body) RL.row.prog.main.body)) = true := by decide +kernel
theorem s_res : namesResolve RL.row.prog = true := by rw [twRes]; decide +kernel
theorem s_world : RL.row.prog.boundNames.all (fun n => !worldNames.contains n) = true := by decide +kernel
theorem s_bare : (["vars", "dir", "locals"] : List Str).filter (readsOut RL.row.prog RL.row.prog.main.body) = [] := by rw [twReads]; decide +kernel
theorem s_road0 : noRoadLSs { strict := !(importedModules RL.row.prog.main.body).all cThrough.contains, foot := none, bare := [] } RL.row.prog.main.body = true := by rw [twRoad]; decide +kernel
theorem s_attr : (namesMeet RL.row.prog RL.row.prog.main.body fun _ n => attrL n) = true := by rw [twMeet]; decide +kernel
theorem s_looks : looksOpen RL.row.prog = true := by
  unfold looksOpen
  rw [s_bare]
  exact look_both (look_both (look_both (look_both s_fence s_res) s_world) s_road0) s_attr
theorem s_part : RL.row.partSaid = true := by
  unfold OpenRow.partSaid
  rw [s_looks, Bool.true_and]
  decide +kernel
theorem s_row : RL.row.wellSaid = true := by
  unfold OpenRow.wellSaid
  rw [s_part, Bool.true_and]
  decide +kernel
theorem s_road : noRoadLSs { strict := true, foot := some RL.bound', writes := RL.writes, may := RL.may } RL.footing = true := by rw [twRoad, twBound]; decide +kernel
theorem s_bound : (RL.bound'.all fun n => !builtinNamed n || RL.about == [n] || !RL.reads n) = true := by rw [twLReads, twBound]; decide +kernel
theorem said : RL.wellSaid = true := by
  unfold OpenLaw.wellSaid
  repeat' (first | with_reducible exact s_row | with_reducible exact s_road | with_reducible exact s_bound | with_reducible apply look_both)
  all_goals decide +kernel
theorem prom : RR.promised := ⟨[.list []], by decide +kernel, by decide +kernel⟩
theorem holds_of (walk : WalkGoal) : PySem.Challenge.rw_zd0020_01.Holds := ⟨said, row_said said, prom, assemble walk prom⟩
noncomputable abbrev TopG (mean : ExcName → Option Value) (mg mb : Str → Option Value) (h : Heap) : Prop := Top qV (looseW qV looseV) mean mg mb h
noncomputable abbrev GlobG (mg mb : Str → Option Value) (h : Heap) : Prop := Glob 0 mg mb (List.map itemOf (recsOf qV)) (scalarsOf [] ++ constsW qV) [] (namesW qV looseV) h
theorem glob_of {w : World} {s₀ : Shared} {mg mb : Str → Option Value} {h : Heap} (G : Ground qV looseV [] (XL qV []) w s₀ mg mb h) : GlobG mg mb h :=
  glob_more (Ground.glob G (by decide +kernel) (by decide +kernel)) (Ground.X G).2
theorem rec_of {i : Nat} {n : Str} (h : (recsOf qV).find? (fun d => d.name == n) = some (defAt i n)) : defAt i n ∈ recsOf qV := List.mem_of_find?_eq_some h
theorem nocell {sc : Scope} (h : (sc.names.all fun x => x.2 != NameKind.cell) = true) : ∀ x ∈ sc.names, x.2 ≠ .cell := fun x hx => by
  have := List.all_eq_true.mp h x hx
  simpa using this
theorem rec3 : defAt 3 "add_callers" ∈ recsOf qV := rec_of (by kernel_rfl)
open PySem PySem.W PyProof.Rows PySem.Calls PySem.Spec PyProof.V
noncomputable def putI (l : List (Str × Int)) (k : Str) (n : Int) : List (Str × Int) :=
  if l.any (fun kv => kv.1 = k) then l.map (fun kv => if kv.1 = k then (kv.1, n) else kv) else l ++ [(k, n)]
noncomputable def getI (l : List (Str × Int)) (k : Str) : Option Int := (l.find? fun kv => kv.1 = k).map (·.2)
theorem DI.at' {w : World} {h h' : Heap} {a : Addr} {l : List (Str × Int)} (D : DI w h a l) (hk : ∀ o, h.get? a = some o → h'.get? a = some o) : DI w h' a l :=
  let ⟨x, o, ho, r⟩ := D; ⟨x, o, hk _ ho, r⟩
theorem DI.dictOf {w : World} {h : Heap} {a : Addr} {l : List (Str × Int)} (D : DI w h a l) : ∃ kvs, h.DictOf (strKind pw w) a kvs ∧ All2 IntP kvs l :=
  let ⟨_, o, ho, kvs, h1, h2⟩ := D; ⟨kvs, Heap.dictOf_iff.mpr ⟨o, ho, h1⟩, h2⟩
theorem DI.ofDictOf {w : World} {h : Heap} {a : Addr} {l : List (Str × Int)} {kvs} (hs : (a == sysModules) = false) (D : h.DictOf (strKind pw w) a kvs) (A : All2 IntP kvs l) : DI w h a l :=
  let ⟨o, ho, h1⟩ := Heap.dictOf_iff.mp D; ⟨hs, o, ho, kvs, h1, A⟩
theorem IntP.any {K : Type} [DecidableEq K] {kvs : List (K × Value)} {l : List (K × Int)} (A : All2 IntP kvs l) (k : K) : kvs.any (fun kv => kv.1 = k) = l.any (fun kv => kv.1 = k) := by
  induction A with
  | nil => rfl
  | cons h _ ih => simp only [List.any_cons, ih, h.1]
theorem IntP.map {kvs : List (Str × Value)} {l : List (Str × Int)} (A : All2 IntP kvs l) (k : Str) (n : Int) (t : Tok) : All2 IntP (kvs.map (fun kv => if kv.1 = k then (kv.1, .int n t) else kv)) (l.map (fun kv => if kv.1 = k then (kv.1, n) else kv)) := by
  induction A with
  | nil => exact .nil
  | cons h _ ih =>
    refine .cons ?_ ih
    show IntP (if _ then _ else _) (if _ then _ else _)
    rw [h.1]
    split
    · exact ⟨rfl, t, rfl⟩
    · exact h
theorem IntP.put {kvs : List (Str × Value)} {l : List (Str × Int)} (A : All2 IntP kvs l) (k : Str) (n : Int) (t : Tok) : All2 IntP (stored kvs k (.int n t)) (putI l k n) := by
  unfold stored putI
  rw [IntP.any A k]
  split
  · exact IntP.map A k n t
  · exact A.append (.cons ⟨rfl, t, rfl⟩ .nil)
theorem IntP.get {kvs : List (Str × Value)} {l : List (Str × Int)} (A : All2 IntP kvs l) (k : Str) : (getI l k = none ∧ valueAt kvs k = none) ∨ ∃ n t, getI l k = some n ∧ valueAt kvs k = some (.int n t) := by
  induction A with
  | nil => exact .inl ⟨rfl, rfl⟩
  | @cons a b l m h _ ih =>
    unfold getI valueAt at *
    by_cases hk : b.1 = k
    · obtain ⟨h1, t, h2⟩ := h
      refine .inr ⟨b.2, t, ?_, ?_⟩
      · simp [List.find?_cons, hk]
      · simp [List.find?_cons, h1, hk, h2]
    · have hk' : a.1 ≠ k := h.1 ▸ hk
      simpa [List.find?_cons, hk, hk'] using ih
theorem All2.at {α β : Type} {R : α → β → Prop} {l : List α} {m : List β} (h : All2 R l m) : ∀ {i : Nat} {a : α}, l[i]? = some a → ∃ b, m[i]? = some b ∧ R a b := by
  induction h with
  | nil => intro i a e; simp at e
  | cons h _ ih =>
    intro i a e
    cases i with
    | zero => simp at e; subst e; exact ⟨_, rfl, h⟩
    | succ i => simp at e ⊢; exact ih e
section
variable {w : World} {A : Around} {s : Shared} {env : Env} {h₀ : Heap} {E : Value → Shared → Prop} {Q : Flow → Shared → Prop} {m : Str → Option Value} {news : List (Addr × Obj)}
theorem items_loop {xk xv tn : Str} {pk pv pt pos apos cpos tpos : Pos} {x1} {body : List Stmt} {d : Addr} {l : List (Str × Int)}
    (hh : A.handled = none) (F : Fr h₀ env.locals s.heap m) (N : News h₀ env.locals s.heap news) (hd0 : DI w h₀ d l)
    (ho : ∀ Q', Q' (.ref d) s → wpAny (model pw w) A (eval (.Name tn tpos) env) Q' E s)
    (J : List (Str × Int) → (Str → Option Value) → List (Addr × Obj) → Prop) (h0 : J [] m news)
    (step : ∀ dn k n rest t₁ t₂ m₁ news₁ s₁ it own, l = dn ++ (k, n) :: rest → J dn m₁ news₁ → (∀ p ∈ news₁, p.1 ≠ it) → (∀ p ∈ own, p.1 = it) →
      Fr h₀ env.locals s₁.heap (fun y => if y = xv then some (.int n t₂) else if y = xk then some (.str k t₁) else m₁ y) → News h₀ env.locals s₁.heap (own ++ news₁) →
      wpAny (model pw w) A (execs body env) (LoopStepU h₀ env.locals [it] own (J (dn ++ [(k, n)])) s₁) E s₁)
    (hQ : ∀ h' tk m' news', Fr h₀ env.locals h' m' → News h₀ env.locals h' news' → J l m' news' → Q .next { s with heap := h', toks := tk })
    (hxk : env.kindOf xk = some .local := by rfl) (hxv : env.kindOf xv = some .local := by rfl)
    (hp : (env.scope.kind == .class || (env.scope.kind == .module && env.locals != env.globals)) = false := by rfl)
    (hbase : attributeBase (.Name tn tpos) "items" env (eval (.Name tn tpos) env) = eval (.Name tn tpos) env := by rfl) (hline : (apos.endLine == cpos.line) = true := by rfl)
    (hs : ∀ x, foldedSetIterable (.Call (.Attribute (.Name tn tpos) "items" apos) [] [] cpos) env x = pure x := by intro _; rfl)
    (hE : PassesOwn (model pw w) A env E := by passes_own) :
    wpAny (model pw w) A (exec (.For (.Tuple [.Name xk pk, .Name xv pv] x1 pt) (.Call (.Attribute (.Name tn tpos) "items" apos) [] [] cpos) body [] pos) env) Q E s := by
  obtain ⟨hsys, od, hod, kvs, hdk, hA⟩ := id hd0
  have hdo : s.heap.DictOf (strKind pw w) d kvs := Heap.dictOf_iff.mpr ⟨od, F.keep _ _ hod, hdk⟩
  obtain ⟨ep, hat⟩ := hdo.dictAt
  refine wpAny_For (wpAny_Call_items hsys hdo hbase hline ho ?_) hs
  refine wpAny_pyIter_items (knd := strKind pw w) (d := d) (kvs := kvs) (ep := ep) ⟨_, Heap.get?_push_size _ rfl, rfl, rfl⟩ (hat.push _) ?_
  have F1 := F.push ({ cls := .type "dict_items", data := .fields #[.ref d] } : Obj)
  have N1 : News h₀ env.locals (s.heap.push ({ cls := .type "dict_items", data := .fields #[.ref d] } : Obj)) news := fun p hp => ⟨Heap.get?_push_of_some _ (N p hp).1, (N p hp).2⟩
  refine codeAny_forLoop_items_frU (knd := strKind pw w) (h₀ := h₀) (news := news) (R := fun r s' => match r with | .ok f => Q f s' | .error e => cameBackBy (model pw w) A env E e s') hh hxk hxv hp (Nat.ne_of_gt F1.ns.lt) (fun e => absurd (Heap.lt_size hod) (by rw [e]; exact Nat.not_lt.mpr F.above)) ?_ (next_is_new F1)
    (fun p hp hI => absurd (Heap.lt_size (N1 p hp).1) ((List.mem_singleton.mp hI) ▸ Nat.lt_irrefl _)) (Heap.get?_push_size _ rfl) ((hat.push _).push _) (F1.push _)
    (fun p hp => ⟨Heap.get?_push_of_some _ (N1 p hp).1, (N1 p hp).2⟩)
    (fun i m₁ news₁ => J (l.take i) m₁ news₁) (by simpa using h0) ?_ ?_
  · exact Nat.ne_of_lt (hat.push _).lt_size
  · intro i k v key m₁ news₁ s₁ own hx hkey hJ hoff hsub _ F₁ N₁
    obtain ⟨e, he, hk1, t₂, hv⟩ := hA.at hx
    obtain ⟨t₁, rfl⟩ := Value.isStrOf_shape hkey
    obtain ⟨ek, en⟩ := e
    have hk2 : k = ek := hk1
    subst hk2
    have hv' : v = .int en t₂ := hv
    subst hv'
    have hl : l = l.take i ++ (k, en) :: l.drop (i + 1) := by
      have := List.drop_eq_getElem_cons (List.getElem?_eq_some_iff.mp he).1
      rw [(List.getElem?_eq_some_iff.mp he).2] at this
      rw [← this, List.take_append_drop]
    have ht : l.take (i + 1) = l.take i ++ [(k, en)] := by rw [List.take_add_one, he]; rfl
    refine wpAny_passesOwn hE ?_
    rw [ht]
    refine step (l.take i) k en _ t₁ t₂ m₁ news₁ s₁ _ own hl hJ (fun p hp e => hoff p hp (List.mem_singleton.mpr e)) (fun p hp => ?_) F₁ N₁
    rcases List.mem_cons.mp (hsub p hp) with e | e
    · exact e
    · exact absurd hod (by rw [← List.mem_singleton.mp e, (N₁ p (List.mem_append_left _ hp)).2.2]; simp)
  · intro h' tk m' news' F' N' _ hJ
    exact hQ h' tk m' news' F' N' (by rw [hA.length, List.take_length] at hJ; exact hJ)
theorem DIo.len {o : Obj} {acc : List (Str × Int)} (h : DIo w o acc) : ∃ kvs, o.IsDictOf (strKind pw w) kvs ∧ All2 IntP kvs acc ∧ kvs.length = acc.length := let ⟨kvs, h1, h2⟩ := h; ⟨kvs, h1, h2, h2.length⟩
theorem setItem_DI {L d : Addr} {o : Obj} {own rest : List (Addr × Obj)} {acc : List (Str × Int)} {k : Str} {n : Int} {t₁ t₂ : Tok} {Q : Unit → Shared → Prop} (F : Fr h₀ L s.heap m) (N : News h₀ L s.heap (own ++ (d, o) :: rest)) (h1 : ∀ p ∈ own, p.1 ≠ d) (h2 : ∀ p ∈ rest, p.1 ≠ d)
    (hd : DIo w o acc) (hlen : acc.length ≤ 2000)
    (h : ∀ h' o', Fr h₀ L h' m → News h₀ L h' (own ++ (d, o') :: rest) → DIo w o' (putI acc k n) → Q () { s with heap := h', toks := s.toks + 1 }) :
    wpAny (model pw w) A (setItem (.ref d) (.str k t₁) (.int n t₂)) Q E s := by
  obtain ⟨kvs, hd1, hA, hl⟩ := hd.len
  have hin := N _ (List.mem_append_right own (.head _))
  refine wpAny_setItem_pairs (knd := strKind pw w) (k := k) (kvs := kvs) ?_ (Heap.dictOf_iff.mpr ⟨_, hin.1, hd1⟩) (fun h' hd' hs' => ?_) ?_
  · simp [PySem.strKind, Value.isStrOf]
  · obtain ⟨o', ho', hdo'⟩ := Heap.dictOf_iff.mp hd'
    exact h h' o' (F.change hs' hin.2.1 hin.2.2) (N.setIn h1 h2 hs' ho') ⟨_, hdo', IntP.put hA k n t₂⟩
  · rw [hl]; exact Nat.le_trans hlen (by decide)
theorem in_DI {d : Addr} {o : Obj} {acc : List (Str × Int)} {k : Str} {t₁ : Tok} {Q : Value → Shared → Prop} (ho : s.heap.get? d = some o) (hs : (d == sysModules) = false) (hd : DIo w o acc)
    (h : Q (.bool (getI acc k).isSome) { s with toks := s.toks + 1 }) : wpAny (model pw w) A (compareOp .In (.str k t₁) (.ref d)) Q E s := by
  obtain ⟨kvs, hd1, hA, hl⟩ := hd.len
  refine wpAny_in_of (knd := strKind pw w) (k := k) ?_ hs (Heap.dictOf_iff.mpr ⟨_, ho, hd1⟩).mapOf ?_
  · simp [PySem.strKind, Value.isStrOf]
  · rcases IntP.get hA k with ⟨e1, e2⟩ | ⟨n, t, e1, e2⟩ <;> rw [e2] <;> rw [e1] at h <;> exact h
theorem getItem_DI {d : Addr} {o : Obj} {acc : List (Str × Int)} {k : Str} {n : Int} {t₁ : Tok} {Q : Value → Shared → Prop} (ho : s.heap.get? d = some o) (hd : DIo w o acc) (hk : getI acc k = some n)
    (h : ∀ t, Q (.int n t) { s with toks := s.toks + 1 }) : wpAny (model pw w) A (getItem (.ref d) (.str k t₁)) Q E s := by
  obtain ⟨kvs, hd1, hA, hl⟩ := hd.len
  rcases IntP.get hA k with ⟨e1, e2⟩ | ⟨n, t, e1, e2⟩
  · rw [e1] at hk; cases hk
  · rw [e1] at hk; cases hk
    refine wpAny_getItem_of (knd := strKind pw w) (k := k) ?_ (Heap.dictOf_iff.mpr ⟨_, ho, hd1⟩).mapOf e2 (h t)
    simp [PySem.strKind, Value.isStrOf]
end
theorem putI_length (l : List (Str × Int)) (k : Str) (n : Int) : (putI l k n).length ≤ l.length + 1 := by
  unfold putI; split <;> simp
theorem fold_length {α : Type} (f : List (Str × Int) → α → List (Str × Int)) (hf : ∀ l a, (f l a).length ≤ l.length + 1) : ∀ (xs : List α) (l : List (Str × Int)), (xs.foldl f l).length ≤ l.length + xs.length
  | [], _ => Nat.le_refl _
  | x :: xs, l => by have := fold_length f hf xs (f l x); have := hf l x; simp only [List.foldl_cons, List.length_cons]; omega
theorem ldG {w : World} {mean : ExcName → Option Value} {mg mb : Str → Option Value} {A : Around} {s : Shared} {h₀ : Heap} {L : Addr} {m : Str → Option Value} {E : Value → Shared → Prop} {name : Str} {scope : Scope} {l a : Addr} {cd v : Value} {x : Str} {pos : Pos} {Q : Value → Shared → Prop}
    (T : TopG mean mg mb h₀) (F : Fr h₀ L s.heap m) (hv : mg x = some v) (h : Q v s) (hk : scope.kind = .function := by rfl) (hx : (envOf name scope l a cd).kindOf x = some .globalImplicit := by rfl) (hd : (x == ("__debug__" : Str)) = false := by rfl) :
    wpAny (model pw w) A (eval (.Name x pos) (envOf name scope l a cd)) Q E s :=
  Name_function_global hk hx (loadGlobal_global (T.g.keepsP F.keep) hv h) hd
theorem News.joins {h₀ h h' : Heap} {L r : Addr} {m : Str → Option Value} {o : Obj} {news : List (Addr × Obj)} (F : Fr h₀ L h m) (N : News h₀ L h news) (hk : ∀ b o, h.get? b = some o → h'.get? b = some o) (ho : h'.get? r = some o) (hf : h.get? r = none) : News h₀ L h' ((r, o) :: news) := by
  intro p hp
  rcases List.mem_cons.mp hp with rfl | hp
  · refine ⟨ho, fun e => ?_, ?_⟩
    · obtain ⟨oL, _, _, hL, _⟩ := F.ns
      have e' : r = L := e
      rw [e', hL] at hf
      cases hf
    · cases hq : h₀.get? r with
      | none => rfl
      | some o' => rw [F.keep _ _ hq] at hf; cases hf
  · exact N.keeps hk p hp
noncomputable def BI (mg mb : Str → Option Value) (x : Str) (v : Value) : Prop := mg x = none ∧ mb x = some v
structure WG (mean : ExcName → Option Value) (mg mb : Str → Option Value) (h : Heap) : Prop where
  T : TopG mean mg mb h
  b : h.Ns builtinsNs mb
  ord : BI mg mb "ord" (.builtin "ord")
  chr : BI mg mb "chr" (.builtin "chr")
  len : BI mg mb "len" (.builtin "len")
  sum : BI mg mb "sum" (.builtin "sum")
  min : BI mg mb "min" (.builtin "min")
  range : BI mg mb "range" (.type "range")
  str : BI mg mb "str" (.type "str")
  tuple : BI mg mb "tuple" (.type "tuple")
  isinstance : BI mg mb "isinstance" (.builtin "isinstance")
  nt : ∃ t, mg "NT_OFFSET" = some (.int 256 t)
  em : ∃ t, mg "ENDMARKER" = some (.int 0 t)
theorem WG.keeps {mean : ExcName → Option Value} {mg mb : Str → Option Value} {h h' : Heap} (W : WG mean mg mb h) (k : ∀ b o, h.get? b = some o → h'.get? b = some o) : WG mean mg mb h' :=
  { W with T := W.T.keeps k, b := W.b.keepsP k }
theorem ldB {w : World} {mean : ExcName → Option Value} {mg mb : Str → Option Value} {A : Around} {s : Shared} {h₀ : Heap} {L : Addr} {m : Str → Option Value} {E : Value → Shared → Prop} {name : Str} {scope : Scope} {l a : Addr} {cd v : Value} {x : Str} {pos : Pos} {Q : Value → Shared → Prop}
    (W : WG mean mg mb h₀) (F : Fr h₀ L s.heap m) (hv : BI mg mb x v) (h : Q v s) (hk : scope.kind = .function := by rfl) (hx : (envOf name scope l a cd).kindOf x = some .globalImplicit := by rfl) (hd : (x == ("__debug__" : Str)) = false := by rfl) :
    wpAny (model pw w) A (eval (.Name x pos) (envOf name scope l a cd)) Q E s :=
  Name_function_global hk hx (loadGlobal_builtin (W.T.g.keepsP F.keep) hv.1 (W.b.keepsP F.keep) hv.2 h) hd
theorem ldW {w : World} {mean : ExcName → Option Value} {mg mb : Str → Option Value} {A : Around} {s : Shared} {h₀ : Heap} {L : Addr} {m : Str → Option Value} {E : Value → Shared → Prop} {name : Str} {scope : Scope} {l a : Addr} {cd v : Value} {x : Str} {pos : Pos} {Q : Value → Shared → Prop}
    (W : WG mean mg mb h₀) (F : Fr h₀ L s.heap m) (hv : mg x = some v) (h : Q v s) (hk : scope.kind = .function := by rfl) (hx : (envOf name scope l a cd).kindOf x = some .globalImplicit := by rfl) (hd : (x == ("__debug__" : Str)) = false := by rfl) :
    wpAny (model pw w) A (eval (.Name x pos) (envOf name scope l a cd)) Q E s := ldG W.T F hv h hk hx hd
noncomputable def biL : List (Str × Value) := [("ord", .builtin "ord"), ("chr", .builtin "chr"), ("len", .builtin "len"), ("sum", .builtin "sum"), ("min", .builtin "min"), ("range", .type "range"), ("str", .type "str"), ("tuple", .type "tuple"), ("isinstance", .builtin "isinstance")]
theorem biL_boot : biL.map (fun p => bootBuiltins p.1) = biL.map (fun p => some p.2) := by kernel_rfl
theorem biL_free : (biL.all fun p => !(namesW qV looseV).contains p.1 && !bootMainNames.contains p.1 && p.1 != "__name__") = true := by kernel_rfl
theorem bi_of {mg mb : Str → Option Value} {h : Heap} (G : GlobG mg mb h) : ∀ i : Nat, ∀ p : Str × Value, biL[i]? = some p → BI mg mb p.1 p.2 := by
  intro i p hp
  have h1 := List.all_eq_true.mp biL_free p (List.mem_of_getElem? hp)
  simp only [Bool.and_eq_true, Bool.not_eq_true', List.contains_eq_mem, decide_eq_false_iff_not, bne_iff_ne, ne_eq] at h1
  refine ⟨G.free _ h1.1.1 h1.1.2, ?_⟩
  rw [G.builtins _ h1.2]
  have e := congrArg (fun l => l[i]?) biL_boot
  simp only [List.getElem?_map, hp, Option.map_some] at e
  exact Option.some.inj e
theorem cn_of {mg mb : Str → Option Value} {h : Heap} (G : GlobG mg mb h) {x : Str} {n : Int} (hx : ((scalarsOf [] ++ constsW qV).lookup x) = some (.int n)) : ∃ t, mg x = some (.int n t) := by
  obtain ⟨v, hv, hd⟩ := G.bound _ (PyProof.Rows.mem_of_lookup hx)
  obtain ⟨t, rfl⟩ : ∃ t, v = .int n t := by
    have := hd h
    cases this <;> exact ⟨_, rfl⟩
  exact ⟨t, hv⟩
theorem wg_of {w : World} {s₀ : Shared} {mg mb : Str → Option Value} {h : Heap} (G : Ground qV looseV [] (XL qV []) w s₀ mg mb h) : ∃ mean, WG mean mg mb h := by
  have GL := glob_of G
  have T := G.T
  exact ⟨_, T, GL.b, bi_of GL 0 _ rfl, bi_of GL 1 _ rfl, bi_of GL 2 _ rfl, bi_of GL 3 _ rfl, bi_of GL 4 _ rfl, bi_of GL 5 _ rfl, bi_of GL 6 _ rfl, bi_of GL 7 _ rfl, bi_of GL 8 _ rfl, cn_of GL (by kernel_rfl), cn_of GL (by kernel_rfl)⟩
end Mine
namespace Mine
open PySem PySem.W PyProof.Rows PySem.Calls PySem.Spec PyProof.V
local macro_rules | `(tactic| walk_at "eval Name") => `(tactic| first | refine ld (by assumption) (by rfl) ?_ | refine ldB (by assumption) (by assumption) (by assumption) ?_ | refine ldW (by assumption) (by assumption) (by assumption) ?_)
noncomputable def addI (l1 l2 : List (Str × Int)) : List (Str × Int) := l2.foldl (fun acc e => putI acc e.1 ((getI acc e.1).getD 0 + e.2)) l1
set_option maxHeartbeats 1000000 in
theorem addc {w : World} {mean : ExcName → Option Value} {mg mb : Str → Option Value} {A : Around} {s : Shared} {a1 a2 : Addr} {l1 l2 : List (Str × Int)} {Q : Value → Shared → Prop} {E : Value → Shared → Prop} (W : WG mean mg mb s.heap) (hroom : A.depth < recursionLimit) (hh : A.handled = none)
    (D1 : DI w s.heap a1 l1) (D2 : DI w s.heap a2 l2) (hl1 : l1.length ≤ 500) (hl2 : l2.length ≤ 500) (hQ : ∀ h' tk r, (∀ b o, s.heap.get? b = some o → h'.get? b = some o) → s.heap.get? r = none → DI w h' r (addI (l1.foldl (fun acc e => putI acc e.1 e.2) []) l2) → Q (.ref r) { s with heap := h', toks := tk })
    : ∃ f, mg "add_callers" = some (.ref f) ∧ wpAny (model pw w) A (call (.ref f) [.ref a1, .ref a2]) Q E s := by
  obtain ⟨a, o, pm, code, doc, h1, h2, h3, h4⟩ := W.T.fn _ rec3
  refine ⟨a, h1, wpAny_call (call_pos_ret hroom h2 h3 W.T.nolimit h4 (by kernel_rfl) (locs (by kernel_rfl)) (fun h₁ F => ?_) (by kernel_rfl) (by kernel_rfl) (by kernel_rfl) (nocell (by kernel_rfl)))⟩
  conv in (DefRec.body _) => whnf
  have NL := W.T.nolimit
  have B1 := W.isinstance
  have B2 := W.tuple
  have N : News s.heap s.heap.objs.size h₁ [] := News.nil
  repeat walk1
  rename Obj.IsDictOf (strKind pw w) _ _ => hdict
  rename (h₁.objs.size == sysModules) = false => hsys
  rename Fr _ _ _ _ => F2
  rename News _ _ _ _ => N2
  refine items_loop (h₀ := s.heap) (d := a1) (l := l1) (news := [(h₁.objs.size, _)]) hh F2 N2 D1 (fun Q' h => ?_) (fun dn m news => m "new_callers" = some (.ref h₁.objs.size) ∧ m "target" = some (.ref a1) ∧ m "source" = some (.ref a2) ∧ ∃ o, news = [(h₁.objs.size, o)] ∧ DIo w o (dn.foldl (fun acc e => putI acc e.1 e.2) [])) ?_ ?_ ?_
  · with_unfolding_all exact ld F2 (by rfl) h
  · exact ⟨rfl, rfl, rfl, _, rfl, _, hdict, .nil⟩
  · rintro dn k n rest t₁ t₂ m₁ _ s₁ it own hl ⟨hn1, hn2, hn3, o3, rfl, ho3⟩ hoff hown F3 N3
    repeat walk1
    with_unfolding_all refine ld F3 (v := .ref h₁.objs.size) (by exact hn1) ?_
    repeat walk1
    refine setItem_DI F3 N3 (fun p hp e => hoff _ (.head _) (by rw [← e]; exact hown p hp)) (fun _ h => nomatch h) ho3 ?_ (fun h' o' F4 N4 ho4 => ?_)
    · have := fold_length (fun acc (e : Str × Int) => putI acc e.1 e.2) (fun l e => putI_length l e.1 e.2) dn []
      have e := congrArg List.length hl
      simp only [List.length_append, List.length_cons, List.length_nil] at e this
      omega
    · repeat walk1
      refine .intro F4 N4 (fun p hp e => hoff _ (.head _) ?_) ⟨hn1, hn2, hn3, o', rfl, by rw [List.foldl_append]; exact ho4⟩
      rw [List.mem_singleton.mp hp] at e
      exact List.mem_singleton.mp e
  · rintro h5 tk5 m5 _ F5 N5 ⟨hn1, hn2, hn3, o5, rfl, ho5⟩
    have hl5 := fold_length (fun acc (e : Str × Int) => putI acc e.1 e.2) (fun l e => putI_length l e.1 e.2) l1 []
    generalize l1.foldl (fun acc e => putI acc e.1 e.2) [] = l1' at ho5 hl5 hQ
    clear F2 N2
    repeat walk1
    refine items_loop (h₀ := s.heap) (d := a2) (l := l2) (news := [(h₁.objs.size, _)]) hh F5 N5 D2 (fun Q' h => ?_) (fun dn m news => m "new_callers" = some (.ref h₁.objs.size) ∧ ∃ o, news = [(h₁.objs.size, o)] ∧ DIo w o (addI l1' dn)) ?_ ?_ ?_
    · with_unfolding_all exact ld F5 (by exact hn3) h
    · exact ⟨hn1, _, rfl, ho5⟩
    · rintro dn k n rest t₁ t₂ m₁ _ s₁ it own hl ⟨hn1, o3, rfl, ho3⟩ hoff hown F3 N3
      repeat walk1
      with_unfolding_all refine ld F3 (v := .ref h₁.objs.size) (by exact hn1) ?_
      have hin := (N3 _ (List.mem_append_right own (.head _))).1
      refine in_DI hin hsys ho3 ?_
      have hne : ∀ p ∈ own, p.1 ≠ h₁.objs.size := fun p hp e => hoff _ (.head _) (by rw [← e]; exact hown p hp)
      have hlen : (addI l1' dn).length ≤ 2000 := by
        have := fold_length (fun acc (e : Str × Int) => putI acc e.1 ((getI acc e.1).getD 0 + e.2)) (fun l e => putI_length l e.1 _) dn l1'
        have e := congrArg List.length hl
        simp only [List.length_append, List.length_cons, List.length_nil] at e hl5
        unfold addI
        omega
      cases hg : getI (addI l1' dn) k with
      | none =>
        rw [show (Option.none (α := Int)).isSome = false from rfl]
        repeat walk1
        with_unfolding_all refine ld F3 (v := .ref h₁.objs.size) (by exact hn1) ?_
        repeat walk1
        refine setItem_DI F3 N3 hne (fun _ h => nomatch h) ho3 hlen (fun h' o' F4 N4 ho4 => ?_)
        repeat walk1
        refine .intro F4 N4 (fun p hp e => hoff _ (.head _) ?_) ⟨hn1, o', rfl, ?_⟩
        · rw [List.mem_singleton.mp hp] at e
          exact List.mem_singleton.mp e
        · unfold addI at *
          rw [List.foldl_append]
          simp only [List.foldl_cons, List.foldl_nil, hg, Option.getD_none, Int.zero_add]
          exact ho4
      | some n0 =>
        rw [show (some n0).isSome = true from rfl]
        repeat walk1
        with_unfolding_all refine ld F3 (v := .ref h₁.objs.size) (by exact hn1) ?_
        repeat walk1
        refine getItem_DI hin ho3 hg (fun t3 => ?_)
        repeat walk1
        refine setItem_DI F3 N3 hne (fun _ h => nomatch h) ho3 hlen (fun h' o' F4 N4 ho4 => ?_)
        repeat walk1
        refine .intro F4 N4 (fun p hp e => hoff _ (.head _) ?_) ⟨hn1, o', rfl, ?_⟩
        · rw [List.mem_singleton.mp hp] at e
          exact List.mem_singleton.mp e
        · unfold addI at *
          rw [List.foldl_append]
          simp only [List.foldl_cons, List.foldl_nil, hg, Option.getD_some]
          exact ho4
    · rintro h6 tk6 m6 _ F6 N6 ⟨hn1, o6, rfl, ho6⟩
      repeat walk1
      with_unfolding_all refine ld F6 (v := .ref h₁.objs.size) (by exact hn1) ?_
      repeat walk1
      exact hQ _ _ _ F6.keep (N6 _ (.head _)).2.2 ⟨hsys, _, (N6 _ (.head _)).1, ho6⟩
theorem rec7 : defAt 7 "in_table_b1" ∈ recsOf qV := rec_of (by kernel_rfl)
theorem rec9 : defAt 9 "map_table_b3" ∈ recsOf qV := rec_of (by kernel_rfl)
theorem rec11 : defAt 11 "in_table_c6" ∈ recsOf qV := rec_of (by kernel_rfl)
theorem rec13 : defAt 13 "in_table_c7" ∈ recsOf qV := rec_of (by kernel_rfl)
theorem rec15 : defAt 15 "in_table_c8" ∈ recsOf qV := rec_of (by kernel_rfl)
theorem rec17 : defAt 17 "in_table_c9" ∈ recsOf qV := rec_of (by kernel_rfl)
section
variable {w : World} {mean : ExcName → Option Value} {mg mb : Str → Option Value} {A : Around} {s : Shared} {Q : Value → Shared → Prop} {E : Value → Shared → Prop}
set_option maxHeartbeats 1000000 in
theorem in_b1 (W : WG mean mg mb s.heap) (hroom : A.depth < recursionLimit) (TF : TopsF w mg s.heap) {x : Nat} {t : Tok} (hQ : ∀ h' tk, (∀ b o, s.heap.get? b = some o → h'.get? b = some o) → Q (.bool (b1L.contains x)) { s with heap := h', toks := tk }) :
    ∃ f, mg "in_table_b1" = some (.ref f) ∧ wpAny (model pw w) A (call (.ref f) [.str ⟨#[x]⟩ t]) Q E s := by
  obtain ⟨a, o, pm, code, doc, h1, h2, h3, h4⟩ := W.T.fn _ rec7
  refine ⟨a, h1, wpAny_call (call_pos_ret hroom h2 h3 W.T.nolimit h4 (by kernel_rfl) (locs (by kernel_rfl)) (fun h₁ F => ?_) (by kernel_rfl) (by kernel_rfl) (by kernel_rfl) (nocell (by kernel_rfl)))⟩
  conv in (DefRec.body _) => whnf
  have N : News s.heap s.heap.objs.size h₁ [] := News.nil
  have B1 := W.ord
  have B2 := TF.nm.b1
  repeat walk1
  obtain ⟨n, hS⟩ := (TF.keeps F.keep).b1
  refine wpAny_inSet_of (k := (x : Int)) (by simp [intKind, Value.isInt]) rfl hS ?_
  exact hQ _ _ F.keep
set_option maxHeartbeats 1000000 in
theorem in_c6 (W : WG mean mg mb s.heap) (hroom : A.depth < recursionLimit) (TF : TopsF w mg s.heap) {x : Nat} {t : Tok} (hQ : ∀ h' tk, (∀ b o, s.heap.get? b = some o → h'.get? b = some o) → Q (.bool (c6L.contains x)) { s with heap := h', toks := tk }) :
    ∃ f, mg "in_table_c6" = some (.ref f) ∧ wpAny (model pw w) A (call (.ref f) [.str ⟨#[x]⟩ t]) Q E s := by
  obtain ⟨a, o, pm, code, doc, h1, h2, h3, h4⟩ := W.T.fn _ rec11
  refine ⟨a, h1, wpAny_call (call_pos_ret hroom h2 h3 W.T.nolimit h4 (by kernel_rfl) (locs (by kernel_rfl)) (fun h₁ F => ?_) (by kernel_rfl) (by kernel_rfl) (by kernel_rfl) (nocell (by kernel_rfl)))⟩
  conv in (DefRec.body _) => whnf
  have N : News s.heap s.heap.objs.size h₁ [] := News.nil
  have B1 := W.ord
  have B2 := TF.nm.c6
  repeat walk1
  obtain ⟨n, hS⟩ := (TF.keeps F.keep).c6
  refine wpAny_inSet_of (k := (x : Int)) (by simp [intKind, Value.isInt]) rfl hS ?_
  exact hQ _ _ F.keep
set_option maxHeartbeats 1000000 in
theorem in_c7 (W : WG mean mg mb s.heap) (hroom : A.depth < recursionLimit) (TF : TopsF w mg s.heap) {x : Nat} {t : Tok} (hQ : ∀ h' tk, (∀ b o, s.heap.get? b = some o → h'.get? b = some o) → Q (.bool (c7L.contains x)) { s with heap := h', toks := tk }) :
    ∃ f, mg "in_table_c7" = some (.ref f) ∧ wpAny (model pw w) A (call (.ref f) [.str ⟨#[x]⟩ t]) Q E s := by
  obtain ⟨a, o, pm, code, doc, h1, h2, h3, h4⟩ := W.T.fn _ rec13
  refine ⟨a, h1, wpAny_call (call_pos_ret hroom h2 h3 W.T.nolimit h4 (by kernel_rfl) (locs (by kernel_rfl)) (fun h₁ F => ?_) (by kernel_rfl) (by kernel_rfl) (by kernel_rfl) (nocell (by kernel_rfl)))⟩
  conv in (DefRec.body _) => whnf
  have N : News s.heap s.heap.objs.size h₁ [] := News.nil
  have B1 := W.ord
  have B2 := TF.nm.c7
  repeat walk1
  obtain ⟨n, hS⟩ := (TF.keeps F.keep).c7
  refine wpAny_inSet_of (k := (x : Int)) (by simp [intKind, Value.isInt]) rfl hS ?_
  exact hQ _ _ F.keep
set_option maxHeartbeats 1000000 in
theorem in_c8 (W : WG mean mg mb s.heap) (hroom : A.depth < recursionLimit) (TF : TopsF w mg s.heap) {x : Nat} {t : Tok} (hQ : ∀ h' tk, (∀ b o, s.heap.get? b = some o → h'.get? b = some o) → Q (.bool (c8L.contains x)) { s with heap := h', toks := tk }) :
    ∃ f, mg "in_table_c8" = some (.ref f) ∧ wpAny (model pw w) A (call (.ref f) [.str ⟨#[x]⟩ t]) Q E s := by
  obtain ⟨a, o, pm, code, doc, h1, h2, h3, h4⟩ := W.T.fn _ rec15
  refine ⟨a, h1, wpAny_call (call_pos_ret hroom h2 h3 W.T.nolimit h4 (by kernel_rfl) (locs (by kernel_rfl)) (fun h₁ F => ?_) (by kernel_rfl) (by kernel_rfl) (by kernel_rfl) (nocell (by kernel_rfl)))⟩
  conv in (DefRec.body _) => whnf
  have N : News s.heap s.heap.objs.size h₁ [] := News.nil
  have B1 := W.ord
  have B2 := TF.nm.c8
  repeat walk1
  obtain ⟨n, hS⟩ := (TF.keeps F.keep).c8
  refine wpAny_inSet_of (k := (x : Int)) (by simp [intKind, Value.isInt]) rfl hS ?_
  exact hQ _ _ F.keep
set_option maxHeartbeats 1000000 in
theorem in_c9 (W : WG mean mg mb s.heap) (hroom : A.depth < recursionLimit) (TF : TopsF w mg s.heap) {x : Nat} {t : Tok} (hQ : ∀ h' tk, (∀ b o, s.heap.get? b = some o → h'.get? b = some o) → Q (.bool (S16f x)) { s with heap := h', toks := tk }) :
    ∃ f, mg "in_table_c9" = some (.ref f) ∧ wpAny (model pw w) A (call (.ref f) [.str ⟨#[x]⟩ t]) Q E s := by
  obtain ⟨a, o, pm, code, doc, h1, h2, h3, h4⟩ := W.T.fn _ rec17
  refine ⟨a, h1, wpAny_call (call_pos_ret hroom h2 h3 W.T.nolimit h4 (by kernel_rfl) (locs (by kernel_rfl)) (fun h₁ F => ?_) (by kernel_rfl) (by kernel_rfl) (by kernel_rfl) (nocell (by kernel_rfl)))⟩
  conv in (DefRec.body _) => whnf
  have N : News s.heap s.heap.objs.size h₁ [] := News.nil
  have B1 := W.ord
  have B2 := TF.nm.c9
  repeat walk1
  obtain ⟨n, hS⟩ := (TF.keeps F.keep).c9
  refine wpAny_inSet_of (k := (x : Int)) (by simp [intKind, Value.isInt]) rfl hS ?_
  exact hQ _ _ F.keep
theorem rec70 : defAt 70 "ISTERMINAL" ∈ recsOf qV := rec_of (by kernel_rfl)
set_option maxHeartbeats 1000000 in
theorem w_ISTERMINAL (W : WG mean mg mb s.heap) (hroom : A.depth < recursionLimit) {x : Int} {t : Tok} (hQ : ∀ h' tk, (∀ b o, s.heap.get? b = some o → h'.get? b = some o) → Q (.bool (decide (x < 256))) { s with heap := h', toks := tk }) :
    ∃ f, mg "ISTERMINAL" = some (.ref f) ∧ wpAny (model pw w) A (call (.ref f) [.int x t]) Q E s := by
  obtain ⟨a, o, pm, code, doc, h1, h2, h3, h4⟩ := W.T.fn _ rec70
  refine ⟨a, h1, wpAny_call (call_pos_ret hroom h2 h3 W.T.nolimit h4 (by kernel_rfl) (locs (by kernel_rfl)) (fun h₁ F => ?_) (by kernel_rfl) (by kernel_rfl) (by kernel_rfl) (nocell (by kernel_rfl)))⟩
  conv in (DefRec.body _) => whnf
  have N : News s.heap s.heap.objs.size h₁ [] := News.nil
  obtain ⟨t1, B1⟩ := W.nt
  obtain ⟨t2, B2⟩ := W.em
  repeat walk1
  exact hQ _ _ F.keep
theorem rec71 : defAt 71 "ISNONTERMINAL" ∈ recsOf qV := rec_of (by kernel_rfl)
set_option maxHeartbeats 1000000 in
theorem w_ISNONTERMINAL (W : WG mean mg mb s.heap) (hroom : A.depth < recursionLimit) {x : Int} {t : Tok} (hQ : ∀ h' tk, (∀ b o, s.heap.get? b = some o → h'.get? b = some o) → Q (.bool (decide (x ≥ 256))) { s with heap := h', toks := tk }) :
    ∃ f, mg "ISNONTERMINAL" = some (.ref f) ∧ wpAny (model pw w) A (call (.ref f) [.int x t]) Q E s := by
  obtain ⟨a, o, pm, code, doc, h1, h2, h3, h4⟩ := W.T.fn _ rec71
  refine ⟨a, h1, wpAny_call (call_pos_ret hroom h2 h3 W.T.nolimit h4 (by kernel_rfl) (locs (by kernel_rfl)) (fun h₁ F => ?_) (by kernel_rfl) (by kernel_rfl) (by kernel_rfl) (nocell (by kernel_rfl)))⟩
  conv in (DefRec.body _) => whnf
  have N : News s.heap s.heap.objs.size h₁ [] := News.nil
  obtain ⟨t1, B1⟩ := W.nt
  obtain ⟨t2, B2⟩ := W.em
  repeat walk1
  exact hQ _ _ F.keep
theorem rec72 : defAt 72 "ISEOF" ∈ recsOf qV := rec_of (by kernel_rfl)
set_option maxHeartbeats 1000000 in
theorem w_ISEOF (W : WG mean mg mb s.heap) (hroom : A.depth < recursionLimit) {x : Int} {t : Tok} (hQ : ∀ h' tk, (∀ b o, s.heap.get? b = some o → h'.get? b = some o) → Q (.bool (x == 0)) { s with heap := h', toks := tk }) :
    ∃ f, mg "ISEOF" = some (.ref f) ∧ wpAny (model pw w) A (call (.ref f) [.int x t]) Q E s := by
  obtain ⟨a, o, pm, code, doc, h1, h2, h3, h4⟩ := W.T.fn _ rec72
  refine ⟨a, h1, wpAny_call (call_pos_ret hroom h2 h3 W.T.nolimit h4 (by kernel_rfl) (locs (by kernel_rfl)) (fun h₁ F => ?_) (by kernel_rfl) (by kernel_rfl) (by kernel_rfl) (nocell (by kernel_rfl)))⟩
  conv in (DefRec.body _) => whnf
  have N : News s.heap s.heap.objs.size h₁ [] := News.nil
  obtain ⟨t1, B1⟩ := W.nt
  obtain ⟨t2, B2⟩ := W.em
  repeat walk1
  exact hQ _ _ F.keep
end
theorem rec4 : defAt 4 "count_calls" ∈ recsOf qV := rec_of (by kernel_rfl)
section
variable {w : World} {A : Around} {s : Shared} {env : Env} {E : Value → Shared → Prop}
theorem call_values {o : Expr} {apos pos : Pos} {d : Addr} {kvs : List (Str × Value)} {Q : Value → Shared → Prop} (hdS : (d == sysModules) = false) (hm : s.heap.DictOf (PySem.strKind pw w) d kvs)
    (hbase : attributeBase o "values" env (eval o env) = eval o env) (hline : (apos.endLine == pos.line) = true)
    (ho : ∀ Q', Q' (.ref d) s → wpAny (model pw w) A (eval o env) Q' E s)
    (hQ : Q (.ref s.heap.objs.size) { s with heap := s.heap.push { cls := .type "dict_values", data := .fields #[.ref d] } }) :
    wpAny (model pw w) A (eval (.Call (.Attribute o "values" apos) [] [] pos) env) Q E s := by
  refine wpAny_Call_method (T := "dict") (id := "dict.values") hbase rfl hline F.plainAttrs_dict F.slot_dict_values F.type_dict_values (ho _ ⟨hm.typeIs, hm.mapOf.noDict, ?_⟩)
  show wpAny _ _ (callWith pos (.builtin "dict.values") [.ref d] [] []) Q E s
  exact method_meetsIn F.slot_dict_values F.entry_dict_values rfl (PySem.evalArgs_none ⟨rfl, hm.typeIs, F.args_dict_values_1 _, _, meets_dict_values (PySem.strKind pw w) d hdS, ⟨kvs, hm⟩, hQ⟩)
theorem values_loop {h₀ : Heap} {Q : Flow → Shared → Prop} {m : Str → Option Value} {news : List (Addr × Obj)} {x tn : Str} {px pos apos cpos tpos : Pos} {body : List Stmt} {d : Addr} {l : List (Str × Int)}
    (hh : A.handled = none) (F : Fr h₀ env.locals s.heap m) (N : News h₀ env.locals s.heap news) (hd0 : DI w h₀ d l)
    (ho : ∀ Q', Q' (.ref d) s → wpAny (model pw w) A (eval (.Name tn tpos) env) Q' E s)
    (J : List (Str × Int) → (Str → Option Value) → Prop) (h0 : J [] m)
    (step : ∀ dn k n rest t₂ m₁ s₁ it own, l = dn ++ (k, n) :: rest → J dn m₁ →
      Fr h₀ env.locals s₁.heap (fun y => if y = x then some (.int n t₂) else m₁ y) → News h₀ env.locals s₁.heap (own ++ news) →
      wpAny (model pw w) A (execs body env) (LoopStepU h₀ env.locals [it] own (fun m₂ news₂ => news₂ = news ∧ J (dn ++ [(k, n)]) m₂) s₁) E s₁)
    (hQ : ∀ h' tk m', Fr h₀ env.locals h' m' → News h₀ env.locals h' news → J l m' → Q .next { s with heap := h', toks := tk })
    (hx : env.kindOf x = some .local := by rfl)
    (hp : (env.scope.kind == .class || (env.scope.kind == .module && env.locals != env.globals)) = false := by rfl)
    (hbase : attributeBase (.Name tn tpos) "values" env (eval (.Name tn tpos) env) = eval (.Name tn tpos) env := by rfl) (hline : (apos.endLine == cpos.line) = true := by rfl)
    (hs : ∀ x, foldedSetIterable (.Call (.Attribute (.Name tn tpos) "values" apos) [] [] cpos) env x = pure x := by intro _; rfl)
    (hE : PassesOwn (model pw w) A env E := by passes_own) :
    wpAny (model pw w) A (exec (.For (.Name x px) (.Call (.Attribute (.Name tn tpos) "values" apos) [] [] cpos) body [] pos) env) Q E s := by
  obtain ⟨hsys, od, hod, kvs, hdk, hA⟩ := id hd0
  have hdo : s.heap.DictOf (PySem.strKind pw w) d kvs := Heap.dictOf_iff.mpr ⟨od, F.keep _ _ hod, hdk⟩
  obtain ⟨ep, hat⟩ := hdo.dictAt
  refine For_invU h₀ hx hp (call_values hsys hdo hbase hline ho ?_) hs hE
  refine wpAny_pyIter_values (knd := PySem.strKind pw w) (d := d) (kvs := kvs) (ep := ep) ⟨_, Heap.get?_push_size _ rfl, rfl, rfl⟩ (hat.push _) ?_
  have F3 := F.push ({ cls := .type "dict_values", data := .fields #[.ref d] } : Obj)
  have hat3 := hat.push ({ cls := .type "dict_values", data := .fields #[.ref d] } : Obj)
  have N3 : News h₀ env.locals (s.heap.push ({ cls := .type "dict_values", data := .fields #[.ref d] } : Obj)) news := fun p hp => ⟨Heap.get?_push_of_some _ (N p hp).1, (N p hp).2⟩
  have hlt : d ≠ env.locals := fun e => absurd (Heap.lt_size hod) (by rw [e]; exact Nat.not_lt.mpr F.above)
  refine ⟨_, [_, d], [_], kvs.length, _, _, m, news, fun i m news' => news' = news ∧ J (l.take i) m, rfl, Walks.dictValues (knd := PySem.strKind pw w) hh _ d (Nat.ne_of_lt hat3.lt_size) kvs ep, ?_, ?_, ?_,
    ⟨⟨_, Heap.get?_push_size _ rfl, rfl, rfl⟩, hat3.push _⟩, F3.push _, fun p hp => ⟨Heap.get?_push_of_some _ (N3 p hp).1, (N3 p hp).2⟩, ⟨rfl, by simpa using h0⟩, ?_, ?_⟩
  · intro hm
    rcases List.mem_cons.mp hm with e | hm
    · exact absurd F3.ns.lt (e ▸ Nat.lt_irrefl _)
    · exact hlt (List.mem_singleton.mp hm).symm
  · intro b hb
    rw [List.mem_singleton.mp hb]
    exact next_is_new F3
  · intro p hp hI
    exact absurd (Heap.lt_size (N3 p hp).1) ((List.mem_singleton.mp hI) ▸ Nat.lt_irrefl _)
  · rintro i v m₁ news₁ s₁ own hi ⟨k, hx⟩ ⟨rfl, hJ⟩ hoff _ _ _ _ F₁ N₁
    obtain ⟨e, he, hk1, t2, hv⟩ := hA.at hx
    have hv' : v = .int e.2 t2 := hv
    subst hv'
    have hl : l = l.take i ++ (e.1, e.2) :: l.drop (i + 1) := by
      have := List.drop_eq_getElem_cons (List.getElem?_eq_some_iff.mp he).1
      rw [(List.getElem?_eq_some_iff.mp he).2] at this
      rw [← this, List.take_append_drop]
    have ht : l.take (i + 1) = l.take i ++ [(e.1, e.2)] := by rw [List.take_add_one, he]; rfl
    show wpAny _ _ _ (LoopStepU _ _ _ _ (fun m₂ news₂ => news₂ = news₁ ∧ J (l.take (i + 1)) m₂) s₁) _ _
    rw [ht]
    exact step (l.take i) e.1 e.2 _ t2 m₁ s₁ _ own hl hJ F₁ N₁
  · rintro h' tk m' news' F' N' _ ⟨rfl, hJ⟩
    exact hQ h' tk m' F' N' (by rw [hA.length, List.take_length] at hJ; exact hJ)
end
noncomputable def sumI (l : List (Str × Int)) : Int := (l.map (·.2)).sum
theorem sumI_snoc (l : List (Str × Int)) (k : Str) (n : Int) : sumI (l ++ [(k, n)]) = sumI l + n := by simp [sumI]
theorem sumI_take {l : List (Str × Int)} {i : Nat} {e : Str × Int} (h : l[i]? = some e) : sumI (l.take (i + 1)) = sumI (l.take i) + e.2 := by
  unfold sumI; rw [List.take_add_one, h]; simp
section
variable {w : World} {mean : ExcName → Option Value} {mg mb : Str → Option Value} {A : Around} {s : Shared} {Q : Value → Shared → Prop} {E : Value → Shared → Prop}
set_option maxHeartbeats 1000000 in
theorem countc (W : WG mean mg mb s.heap) (hroom : A.depth < recursionLimit) (hh : A.handled = none) {d : Addr} {l : List (Str × Int)} (D : DI w s.heap d l)
    (hQ : ∀ h' tk t, (∀ b o, s.heap.get? b = some o → h'.get? b = some o) → Q (.int (sumI l) t) { s with heap := h', toks := tk }) :
    ∃ f, mg "count_calls" = some (.ref f) ∧ wpAny (model pw w) A (call (.ref f) [.ref d]) Q E s := by
  obtain ⟨a, o, pm, code, doc, h1, h2, h3, h4⟩ := W.T.fn _ rec4
  refine ⟨a, h1, wpAny_call (call_pos_ret hroom h2 h3 W.T.nolimit h4 (by kernel_rfl) (locs (by kernel_rfl)) (fun h₁ F => ?_) (by kernel_rfl) (by kernel_rfl) (by kernel_rfl) (nocell (by kernel_rfl)))⟩
  conv in (DefRec.body _) => whnf
  have N : News s.heap s.heap.objs.size h₁ [] := News.nil
  iterate 5 walk1
  rename Fr _ _ _ _ => F2
  rename News _ _ _ _ => N2
  refine values_loop (h₀ := s.heap) (d := d) (l := l) (news := []) hh F2 N2 D (fun Q' h => ?_) (fun dn m => ∃ t, m "nc" = some (.int (sumI dn) t)) ?_ ?_ ?_
  · with_unfolding_all exact ld F2 (by rfl) h
  · exact ⟨_, rfl⟩
  · rintro dn k n rest t₂ m₁ s₁ it own hl ⟨t, hJ⟩ F3 N3
    repeat walk1
    with_unfolding_all refine ldn F3 (v := .int (sumI dn) t) (by exact hJ) ?_
    repeat walk1
    rename Fr _ _ _ _ => F4
    rename News _ _ _ _ => N4
    refine .intro F4 N4 (fun p hp => nomatch hp) ⟨rfl, ?_⟩
    rw [sumI_snoc]
    exact ⟨_, rfl⟩
  · rintro h' tk m' F' N' ⟨t, hJ⟩
    repeat walk1
    with_unfolding_all refine ld F' (v := .int (sumI l) t) (by exact hJ) ?_
    repeat walk1
    exact hQ _ _ _ F'.keep
end
section
variable {w : World} {mean : ExcName → Option Value} {mg mb : Str → Option Value} {A : Around} {s : Shared} {Q : Value → Shared → Prop} {E : Value → Shared → Prop}
theorem getM_get {K : Type} [DecidableEq K] {knd : PySem.KeyKind pw w K} {d : Addr} {kvs : List (K × Value)} {pl : Sem Bool} {Q : Value × List Value → Shared → Prop} (hd : s.heap.DictOf knd d kvs) (h : Q (.builtin "dict.get", [.ref d]) s) :
    wpAny (model pw w) A (getMethod (.ref d) "get" pl) Q E s := getMethod_builtin hd.typeIs PySem.F.plainAttrs_dict PySem.F.slot_dict_get PySem.F.type_dict_get hd.mapOf.noDict h
theorem call_g1 {K : Type} [DecidableEq K] {knd : PySem.KeyKind pw w K} {d : Addr} {kvs : List (K × Value)} {k : K} {key : Value} (hkey : knd.is k key = true) (lo : (d == sysModules) = false) (hd : s.heap.DictOf knd d kvs) (h : Q ((valueAt kvs k).getD .none) { s with toks := s.toks + 1 }) :
    wpAny (model pw w) A (call (.builtin "dict.get") [.ref d, key]) Q E s :=
  call_meetsIn PySem.F.slot_dict_get hd.typeIs PySem.F.entry_dict_get (PySem.F.args_dict_get_2 _ _) (meets_dict_get knd d hkey lo) ⟨_, hd.mapOf, h⟩
theorem call_g2 {K : Type} [DecidableEq K] {knd : PySem.KeyKind pw w K} {d : Addr} {kvs : List (K × Value)} {k : K} {key dflt : Value} (hkey : knd.is k key = true) (lo : (d == sysModules) = false) (hd : s.heap.DictOf knd d kvs) (h : Q ((valueAt kvs k).getD dflt) { s with toks := s.toks + 1 }) :
    wpAny (model pw w) A (call (.builtin "dict.get") [.ref d, key, dflt]) Q E s :=
  call_meetsIn PySem.F.slot_dict_get hd.typeIs PySem.F.entry_dict_get (PySem.F.args_dict_get_3 _ _ _) (meets_dict_get_default knd d hkey lo dflt) ⟨_, hd.mapOf, h⟩
theorem val_at {kvs : List (Int × Value)} {l : List (Int × Str)} (A : All2 ValP kvs l) (k : Int) {x : Str} (h : (l.find? fun kv => kv.1 = k).map (·.2) = some x) : ∃ t, valueAt kvs k = some (.str x t) := by
  induction A with
  | nil => simp at h
  | @cons a b l m h1 _ ih =>
    obtain ⟨h2, t, h3⟩ := h1
    unfold valueAt at *
    by_cases hk : b.1 = k
    · rw [List.find?_cons_of_pos (by simp [hk])] at h
      refine ⟨t, ?_⟩
      rw [List.find?_cons_of_pos (by simp [h2, hk])]
      have : b.2 = x := by simpa using h
      rw [Option.map_some, h3, this]
    · rw [List.find?_cons_of_neg (by simp [hk])] at h
      rw [List.find?_cons_of_neg (by simp [h2, hk])]
      exact ih h
set_option maxHeartbeats 1000000 in
theorem mapB3 (W : WG mean mg mb s.heap) (hroom : A.depth < recursionLimit) (TF : TopsF w mg s.heap) {x : Nat} {t : Tok} {y : Str} (hy : (b3E.find? fun kv => kv.1 = (x : Int)).map (·.2) = some y)
    (hQ : ∀ h' tk t, (∀ b o, s.heap.get? b = some o → h'.get? b = some o) → Q (.str y t) { s with heap := h', toks := tk }) :
    ∃ f, mg "map_table_b3" = some (.ref f) ∧ wpAny (model pw w) A (call (.ref f) [.str ⟨#[x]⟩ t]) Q E s := by
  obtain ⟨a, o, pm, code, doc, h1, h2, h3, h4⟩ := W.T.fn _ rec9
  refine ⟨a, h1, wpAny_call (call_pos_ret hroom h2 h3 W.T.nolimit h4 (by kernel_rfl) (locs (by kernel_rfl)) (fun h₁ F => ?_) (by kernel_rfl) (by kernel_rfl) (by kernel_rfl) (nocell (by kernel_rfl)))⟩
  conv in (DefRec.body _) => whnf
  have N : News s.heap s.heap.objs.size h₁ [] := News.nil
  have B1 := W.ord
  have B2 := TF.nm.b3
  obtain ⟨ob, kvs, hb1, hb2, hb3⟩ := TF.b3
  obtain ⟨ty, hval⟩ := val_at hb3 _ hy
  repeat walk1
  have hdk : h₁.DictOf (intKind pw w) 61 kvs := Heap.dictOf_iff.mpr ⟨ob, F.keep _ _ hb1, hb2⟩
  refine getM_get hdk ?_
  repeat walk1
  refine call_g1 (k := (x : Int)) (by simp [intKind, Value.isInt]) (by decide) hdk ?_
  rw [hval, Option.getD_some]
  repeat walk1
  rename Fr _ _ _ _ => F2
  exact hQ _ _ _ F2.keep
end
theorem rec2 : defAt 2 "add_func_stats" ∈ recsOf qV := rec_of (by kernel_rfl)
section
variable {w : World} {mean : ExcName → Option Value} {mg mb : Str → Option Value} {A : Around} {s : Shared} {Q : Value → Shared → Prop} {E : Value → Shared → Prop}
theorem fn_name {h : Heap} {n : Str} {d : DefRec} (W : WG mean mg mb h) (hd : d ∈ recsOf qV) (hn : d.name = n) : ∃ f o fd, mg n = some (.ref f) ∧ h.get? f = some o ∧ o.data = .func fd := by
  obtain ⟨a, o, pm, code, doc, h1, h2, h3, h4⟩ := W.T.fn _ hd
  exact ⟨a, o, _, hn ▸ h1, h2, h3⟩
theorem of_name {f : Addr} {n : Str} {vs : List Value} (hf : mg n = some (.ref f)) (h : ∃ f, mg n = some (.ref f) ∧ wpAny (model pw w) A (call (.ref f) vs) Q E s) : wpAny (model pw w) A (call (.ref f) vs) Q E s := by
  obtain ⟨g, hg, h⟩ := h
  rw [hf] at hg
  cases hg
  exact h
set_option maxHeartbeats 1000000 in
theorem addfs (W : WG mean mg mb s.heap) (hroom : A.depth + 2 < recursionLimit) (hh : A.handled = none) {b1 b2 d1 d2 : Addr} {t1 t2 t3 t4 u1 u2 u3 u4 : Tok} {c1 c2 c3 c4 e1 e2 e3 e4 : Int} {l1 l2 : List (Str × Int)}
    (T1 : IsTup s.heap b1 #[.int c1 t1, .int c2 t2, .int c3 t3, .int c4 t4, .ref d1]) (T2 : IsTup s.heap b2 #[.int e1 u1, .int e2 u2, .int e3 u3, .int e4 u4, .ref d2]) (D1 : DI w s.heap d1 l1) (D2 : DI w s.heap d2 l2) (hl1 : l1.length ≤ 500) (hl2 : l2.length ≤ 500)
    (hQ : ∀ h' tk r d x1 x2 x3 x4, (∀ b o, s.heap.get? b = some o → h'.get? b = some o) → s.heap.get? r = none → IsTup h' r #[.int (e1 + c1) x1, .int (e2 + c2) x2, .int (e3 + c3) x3, .int (e4 + c4) x4, .ref d] → s.heap.get? d = none → DI w h' d (addI (l1.foldl (fun acc e => putI acc e.1 e.2) []) l2) → Q (.ref r) { s with heap := h', toks := tk }) :
    ∃ f, mg "add_func_stats" = some (.ref f) ∧ wpAny (model pw w) A (call (.ref f) [.ref b1, .ref b2]) Q E s := by
  cases A
  cases hh
  obtain ⟨a, o, pm, code, doc, h1, h2, h3, h4⟩ := W.T.fn _ rec2
  refine ⟨a, h1, wpAny_call (call_pos_ret (by omega) h2 h3 W.T.nolimit h4 (by kernel_rfl) (locs (by kernel_rfl)) (fun h₁ F => ?_) (by kernel_rfl) (by kernel_rfl) (by kernel_rfl) (nocell (by kernel_rfl)))⟩
  conv in (DefRec.body _) => whnf
  have N : News s.heap s.heap.objs.size h₁ [] := News.nil
  have NL := W.T.nolimit
  obtain ⟨f3, o3, fd3, B1, B2, B3⟩ := fn_name W rec3 (n := "add_callers") (by kernel_rfl)
  repeat walk1
  rename Fr _ _ _ _ => F5
  rename News _ _ _ _ => N5
  refine of_name B1 (addc (W.keeps F5.keep) ?_ rfl (D1.keep F5.keep) (D2.keep F5.keep) hl1 hl2 fun h6 tk6 r hk6 hf6 hr => ?_)
  · exact Nat.lt_of_le_of_lt (by exact Nat.le_succ _) hroom
  have F6 := F5.keeps hk6
  obtain ⟨hsr, orr, hor, hDr⟩ := hr
  have N6 := Mine.News.joins F5 N5 hk6 hor hf6
  clear F5 N5
  repeat walk1
  rename Fr _ _ _ _ => F7
  rename News _ _ _ _ => N7
  exact hQ _ _ _ _ _ _ _ _ F7.keep (N7 _ (.head _)).2.2 (N7.isTup (.head _)) (N7 _ (.tail _ (.head _))).2.2 ⟨hsr, orr, (N7 _ (.tail _ (.head _))).1, hDr⟩
end
section
variable {w : World} {A : Around} {s : Shared} {E : Value → Shared → Prop}
theorem sliceApplied_two {sl : Addr} {u : Tok} {Q : Int × Int × Nat → Shared → Prop} (hs : s.heap.IsSliceOf sl .none (.int 2 u) .none) (h : Q ((0 : Int), 1, 2) s) :
    wpAny (model pw w) A (Builtin.Slice.sliceApplied (.ref sl) (pure (3 : Int))) Q E s := by
  obtain ⟨os, hos, hcs, hds⟩ := id hs
  unfold Builtin.Slice.sliceApplied Builtin.Slice.sliceFields
  refine wpAny_bind (wpAny_bind (wpAny_field hos hds (x := .none) rfl (wpAny_bind (wpAny_field hos hds (x := .int 2 u) rfl (wpAny_bind (wpAny_field hos hds (x := .none) rfl (wpAny_pure ?_)))))))
  refine wpAny_bind (slicePart_none ?_)
  show wpAny _ _ (if ((1 : Int) == 0) = true then _ else _) _ _ s
  rw [if_neg (by decide)]
  refine wpAny_bind (slicePart_none (wpAny_bind (slicePart_int (wpAny_bind (wpAny_pure ?_)))))
  exact wpAny_pure h
theorem getItem_tuple_two {t sl : Addr} {p q r : Value} {u : Tok} {Q : Value → Shared → Prop} (ht : IsTup s.heap t #[p, q, r]) (hs : s.heap.IsSliceOf sl .none (.int 2 u) .none)
    (h : Q (.ref s.heap.objs.size) { s with heap := s.heap.push { cls := .type "tuple", data := .seq #[p, q] } }) : wpAny (model pw w) A (getItem (.ref t) (.ref sl)) Q E s := by
  have hdrop : sizeOk (.seq #[p, q]) := by
    show 2 ≤ sizeLine
    decide
  obtain ⟨os, hos, hcs, hds⟩ := id hs
  have hTs : s.TypeIs (.ref sl) "slice" := ⟨os, hos, hcs⟩
  unfold getItem
  try with_reducible refine wpAny_holding ?_
  first | refine wpAny_bind (wpAny_pure ?_) | skip
  refine wpAny_bind (wpAny_sequenceKey ht.typeIs (by decide) ?_)
  refine wpAny_bind (wpAny_callSpecial?_slot (name := Str.ofString "__getitem__") ht.typeIs PyProof.Rows.slot_tuple_getitem
    (wpAny_call_entry PyProof.Rows.slot_tuple_getitem ht.typeIs PyProof.Rows.entry_tuple_getitem ?_ (PyProof.Rows.args_tuple_getitem _ _)))
  show wpAny _ _ (Builtin.Tuple.tupleItemsOf (.ref t) >>= _) _ _ s
  refine wpAny_bind (tupleItemsOf_ ht ?_)
  refine wpAny_bind (wpAny_typeOf hTs ?_)
  rw [if_pos (by decide)]
  refine wpAny_bind (sliceApplied_two hs ?_)
  show wpAny _ _ (if ((0 : Int) == 0 && (1 : Int) == 1 && (2 : Nat) == 3) = true then _ else _) _ _ s
  rw [if_neg (by decide)]
  first
    | exact wpAny_bind (m := Builtin.Tuple.tupleExact _) (wpAny_newObj_type (wpAny_pure ⟨_, rfl, wpAny_pure h⟩) hdrop)
    | exact wpAny_bind (m := Builtin.Tuple.tupleExact _) (wpAny_newObj_type (wpAny_bind (wpAny_pure (wpAny_pure ⟨_, rfl, wpAny_pure h⟩))) hdrop)
    | exact wpAny_bind (wpAny_bind (m := Builtin.Tuple.tupleExact _) (wpAny_newObj_type (wpAny_pure (wpAny_pure ⟨_, rfl, wpAny_pure h⟩)) hdrop))
theorem slice_tuple_two {h₀ : Heap} {L : Addr} {m : Str → Option Value} {news : List (Addr × Obj)} {value slice : Expr} {t : Addr} {p q r : Value} {u : Tok} {Q : Value → Shared → Prop}
    (F : Fr h₀ L s.heap m) (N : News h₀ L s.heap news) (ht : IsTup s.heap t #[p, q, r])
    (h : ∀ h', Fr h₀ L h' m → News h₀ L h' ((s.heap.objs.size + 1, { cls := .type "tuple", data := .seq #[p, q] }) :: news) → Q (.ref (s.heap.objs.size + 1)) { s with heap := h' })
    (hs : subscripted slice false (.ref t) (.ref s.heap.objs.size) = operate [.ref s.heap.objs.size, .ref t] (getItem (.ref t) (.ref s.heap.objs.size)) := by with_unfolding_all rfl)
    (hg : ∀ r, letTemporaryGo value (.ref t) r = pure () := by intro _; with_unfolding_all rfl) :
    wpAny (model pw w) A (subscriptTail value slice (.ref t) (.ref s.heap.objs.size)) Q E { s with heap := s.heap.push { cls := .type "slice", data := .fields #[.none, .int 2 u, .none] } } := by
  have ht' : IsTup (s.heap.push { cls := .type "slice", data := .fields #[.none, .int 2 u, .none] }) t #[p, q, r] := ht.keeps fun _ _ e => Heap.get?_push_of_some _ e
  refine subscriptTail_ops (s := { s with heap := s.heap.push { cls := .type "slice", data := .fields #[.none, .int 2 u, .none] } }) ht'.typeIs PyProof.Rows.slot_tuple_getitem.lookup
    (getItem_tuple_two ht' (Heap.IsSliceOf.new ..) ?_) hs hg
  have N1 := News.push (F.push { cls := .type "slice", data := .fields #[.none, .int 2 u, .none] }) (N.grown fun _ _ e => Heap.get?_push_of_some _ e) { cls := .type "tuple", data := .seq #[p, q] }
  rw [Heap.size_push] at N1
  show Q (.ref (s.heap.push _).objs.size) _
  rw [Heap.size_push]
  exact h _ ((F.push _).push _) N1
end
theorem mod_tup {w : World} {A : Around} {E : Value → Shared → Prop} {s : Shared} {X X' T : Str} {t : Tok} {Q : Value → Shared → Prop} {b : Addr} {its : Array Value} (ht : IsTup s.heap b its) (hX : X = X')
    (hm : Meets (PySem.Builtin.«str.__mod__» ⟨[.str X' t, .ref b], []⟩) (fun _ R s => IsTup s.heap b its ∧ ∀ t' k, R (.ok (.ret (.str T t'))) { s with toks := k }))
    (h : ∀ t' k, Q (.str T t') { s with toks := k }) : wpAny (model pw w) A (binaryOp .Mod (.str X t) (.ref b)) Q E s := by
  subst hX
  exact KPt.bin_left (T := "str") (U := "tuple") (op := .Mod) (by decide) (typeIs_str s X t) ht.typeIs F.fills_str_mod KPt.fills_tuple F.slot_str_mod
    (call_meets F.slot_str_mod (typeIs_str s X t) F.entry_str_mod (F.args_str_mod_2 _ _) hm ⟨ht, fun t' k => ⟨(fun e => nomatch e), h t' k⟩⟩)
theorem rec1 : defAt 1 "func_std_string" ∈ recsOf qV := rec_of (by kernel_rfl)
section
variable {w : World} {mean : ExcName → Option Value} {mg mb : Str → Option Value} {A : Around} {s : Shared} {Q : Value → Shared → Prop} {E : Value → Shared → Prop}
set_option maxHeartbeats 1000000 in
theorem fstd (W : WG mean mg mb s.heap) (hroom : A.depth < recursionLimit) (hh : A.handled = none) (hu : A.units + 50 < cLine) {d : Addr} {x y : Str} {n : Int} {t1 t2 t3 : Tok} (T : IsTup s.heap d #[.str x t1, .int n t2, .str y t3]) (hx : x ≠ "~") (hn0 : 0 ≤ n) (hn1 : n < 10 ^ 10) (hxl : x.length ≤ 10) (hyl : y.length ≤ 10)
    (hQ : ∀ h' tk t, (∀ b o, s.heap.get? b = some o → h'.get? b = some o) → Q (.str (x ++ ":" ++ Str.ofString (toString n) ++ "(" ++ y ++ ")") t) { s with heap := h', toks := tk }) :
    ∃ f, mg "func_std_string" = some (.ref f) ∧ wpAny (model pw w) A (call (.ref f) [.ref d]) Q E s := by
  cases A
  cases hh
  obtain ⟨a, o, pm, code, doc, h1, h2, h3, h4⟩ := W.T.fn _ rec1
  refine ⟨a, h1, wpAny_call (call_pos_ret hroom h2 h3 W.T.nolimit h4 (by kernel_rfl) (locs (by kernel_rfl)) (fun h₁ F => ?_) (by kernel_rfl) (by kernel_rfl) (by kernel_rfl) (nocell (by kernel_rfl)))⟩
  conv in (DefRec.body _) => whnf
  have N : News s.heap s.heap.objs.size h₁ [] := News.nil
  have NL := W.T.nolimit
  repeat walk1
  refine slice_tuple_two F N (F.tup T) (fun h5 F5 N5 => ?_)
  clear F N
  repeat walk1
  rename Fr _ _ _ _ => F6
  rename News _ _ _ _ => N6
  refine SeqAt.eq_tupleAt (e := fun j => if j = 0 then (x == "~") else (n == 0)) (N6.isTup (.tail _ (.head _))) (N6.isTup (.head _)) (Nat.lt_of_le_of_lt (Nat.add_le_add_left (show 3 ≤ 50 by decide) _) hu) (fun j h1 h2 => ?_) ?_
  · match j, h1 with
    | 0, _ => exact SeqAt.EqAt.str_str _ _ _ _
    | 1, _ => exact SeqAt.EqAt.int_int _ _ _ _
  have key : ∀ (u1 u2 : Tok), ((List.range (min (#[Value.str x t1, Value.int n t2] : Array Value).size (#[Value.str "~" u1, Value.int 0 u2] : Array Value).size)).all (fun j => if j = 0 then (x == "~") else (n == 0)) && (#[Value.str x t1, Value.int n t2] : Array Value).size == (#[Value.str "~" u1, Value.int 0 u2] : Array Value).size) = false := by
    intro u1 u2
    show (((x == "~") && ((n == 0) && true)) && true) = false
    rw [beq_eq_false_iff_ne.mpr hx]; rfl
  rw [key]
  repeat walk1
  rename Fr _ _ _ _ => F7
  refine' mod_tup (F7.tup T) (T := x ++ ":" ++ Str.ofString (toString n) ++ "(" ++ y ++ ")") ?kF ?km ?kh
  case kF => kpt_eq
  case km => kpt_run
  · intro t' k
    repeat walk1
    exact hQ _ _ _ F7.keep
end
open PySem PySem.W PyProof.Rows PySem.Calls PySem.Spec
noncomputable def TurnU (h₀ : Heap) (C : Addr) (wr : List Addr) (own : List (Addr × Obj)) (Jn : List (Addr × Obj) → Prop) (s₁ s₂ : Shared) : Prop :=
  ∃ h' tk m₂ news₂, s₂ = { s₁ with heap := h', toks := tk } ∧ Fr h₀ C h' m₂ ∧ News h₀ C h' (own ++ news₂) ∧ (∀ p ∈ news₂, p.1 ∉ wr) ∧ Jn news₂
theorem TurnU.intro {h₀ h' : Heap} {C : Addr} {wr : List Addr} {own news₂ : List (Addr × Obj)} {Jn : List (Addr × Obj) → Prop} {s₁ : Shared} {tk : Nat} {m₂ : Str → Option Value}
    (F : Fr h₀ C h' m₂) (N : News h₀ C h' (own ++ news₂)) (ha : ∀ p ∈ news₂, p.1 ∉ wr) (hJ : Jn news₂) : TurnU h₀ C wr own Jn s₁ { s₁ with heap := h', toks := tk } :=
  ⟨h', tk, m₂, news₂, rfl, F, N, ha, hJ⟩
noncomputable abbrev testsOf (ifs : List Expr) (env : Env) : Sem Bool := forIn ifs true fun c r => if r = true then do let ok ← isTrue c env (eval c env); pure (ForInStep.yield ok) else pure (ForInStep.yield r)
section
variable {prog : Program} {w : World} {A : Around} {E : Value → Shared → Prop} {env : Env} {s : Shared}
structure SrcU (prog : Program) (w : World) (A : Around) (s s₂ : Shared) (I : Addr) (fp wr : List Addr) (n : Nat) (P : Nat → Value → Prop) (St : Nat → Heap → Prop) : Prop where
  W : Walks prog w A I fp wr n P St
  sz : n ≤ sizeLine
  st : St 0 s₂.heap
  fp : ∀ b ∈ fp, b < s₂.heap.objs.size
  wr : ∀ b ∈ wr, s.heap.get? b = none
  same : ∃ h tk, s₂ = { s with heap := h, toks := tk }
  keep : ∀ b o, s.heap.get? b = some o → s₂.heap.get? b = some o
theorem fresh_at {h : Heap} {a : Addr} (ha : h.objs.size ≤ a) : h.get? a = none := Heap.get?_none_of_le ha
theorem fresh_old {h h' : Heap} (k : ∀ b o, h.get? b = some o → h'.get? b = some o) {a : Addr} (ha : h'.get? a = none) : h.get? a = none := by
  cases e : h.get? a with
  | none => rfl
  | some o => rw [k a o e] at ha; cases ha
theorem size_of_keep {h h' : Heap} {L : Addr} {m : Str → Option Value} (F : Fr h L h' m) : h.objs.size ≤ h'.objs.size := Nat.le_of_lt (Nat.lt_of_le_of_lt F.above F.ns.lt)
theorem lc_loop {elt target iter : Expr} {ifs : List Expr} {scope : Scope} {pos : Pos} {it acc : Value} {env : Env} {R : Result → Shared → Prop} (I : Nat → Shared → Prop)
    (turn : ∀ n s, I n s → wpAny (model prog w) A (pyNext it) (fun r s₁ => match r with
      | none => R (.ok .next) s₁
      | some v => wpAny (model prog w) A (letOwnedTupleGo target it v) (fun _ s₀ => wpAny (model prog w) A (assign target env v) (fun _ s₂ =>
          wpAny (model prog w) A (testsOf ifs env) (fun ok s₃ => if ok = true then wpAny (model prog w) A (eval elt env) (fun x s₄ =>
            wpAny (model prog w) A (call (.builtin "list.append") [acc, x]) (fun _ s₅ => ∃ m, m < n ∧ I m s₅) (notedBy (model prog w) A env fun e s' => R (.error e) s') s₄) (notedBy (model prog w) A env fun e s' => R (.error e) s') s₃
            else ∃ m, m < n ∧ I m s₃) (notedBy (model prog w) A env fun e s' => R (.error e) s') s₂)
          (notedBy (model prog w) A env fun e s' => R (.error e) s') s₀) (notedBy (model prog w) A env fun e s' => R (.error e) s') s₁) (notedBy (model prog w) A env fun e s' => R (.error e) s') s)
    (n : Nat) (h : I n s) : codeAny (model prog w) A (.compLoop (.ListComp elt [⟨target, iter, ifs, 0⟩] scope pos) 0 it acc env) R s := by
  refine codeAny_loop rfl I (fun n s hI => ?_) n h
  show wpAny _ A ((compTurn (.ListComp elt [⟨target, iter, ifs, 0⟩] scope pos) 0 it acc env).onRaise (fun x => do noteFrame x env; theTreesLotGoes x)) _ _ s
  refine wpAny_noted ?_
  rw [compTurn_list]
  refine wpAny_bind (wpAny_standAt (wpAny_bind (wpAny_mono (turn n s hI) (fun r s₁ h₁ => ?_) fun _ _ h' => h')))
  cases r with
  | none => exact wpAny_pure h₁
  | some v =>
    refine wpAny_bind (wpAny_mono h₁ (fun _ s₀ h₀' => ?_) fun _ _ h' => h')
    refine wpAny_bind (wpAny_mono h₀' (fun _ s₂ h₂ => wpAny_bind (wpAny_mono h₂ (fun ok s₃ h₃ => ?_) fun _ _ h' => h')) fun _ _ h' => h')
    cases ok with
    | false => exact wpAny_pure ⟨rfl, h₃⟩
    | true => exact wpAny_bind (wpAny_bind (wpAny_mono h₃ (fun x s₄ h₄ => wpAny_bind (wpAny_mono h₄ (fun _ s₅ h₅ => wpAny_pure (wpAny_pure ⟨rfl, h₅⟩)) fun _ _ h' => h')) fun _ _ h' => h'))
theorem lc_block {elt tgt iter : Expr} {ifs : List Expr} {scope : Scope} {cl : List (Str × Addr)} {pos : Pos} {s₂ : Shared} {I : Addr} {fp wr : List Addr} {n : Nat} {P : Nat → Value → Prop}
    {St : Nat → Heap → Prop} (S : SrcU prog w A s s₂ I fp wr n P St) (hsize : s.heap.objs.size ≤ s₂.heap.objs.size) {RR : Value → Addr → Result → Shared → Prop} (J : Nat → List Value → List (Addr × Obj) → Prop) (h0 : J 0 [] [])
    (hcell : ∀ y ∈ scope.names, y.2 ≠ .cell) (hkind : scope.kind = .function) (hgo : ∀ (E' : Value → Shared → Prop) i (s' : Shared) v (Q' : Unit → Shared → Prop), St i s'.heap → Q' () s' → wpAny (model prog w) A (letOwnedTupleGo tgt (.ref I) v) Q' E' s')
    (turn : ∀ C D i v ys news m₁ s₁ own E', i < n → P i v → J i ys news → (∀ p ∈ news, p.1 ∉ D :: wr) → (∀ p ∈ own, p.1 ∈ D :: fp) → (∃ o, (D, o) ∈ own) → Fr s.heap C s₁.heap m₁ → News s.heap C s₁.heap (own ++ news) →
      wpAny (model prog w) A (assign tgt (compEnvC scope cl C env) v) (fun _ s₂ => wpAny (model prog w) A (testsOf ifs (compEnvC scope cl C env)) (fun ok s₃ =>
        if ok = true then wpAny (model prog w) A (eval elt (compEnvC scope cl C env)) (fun y s₄ => TurnU s.heap C (D :: wr) own (J (i + 1) (ys ++ [y])) s₁ s₄) E' s₃ else TurnU s.heap C (D :: wr) own (J (i + 1) ys) s₁ s₃) E' s₂) E' s₁)
    (hRR : ∀ D C h' tk m' ys news, (∀ b o, s.heap.get? b = some o → h'.get? b = some o) → s.heap.get? D = none → s.heap.get? C = none → D ≠ C → h'.Ns C m' → h'.PlainList D ys.toArray → (∀ p ∈ news, h'.get? p.1 = some p.2 ∧ s.heap.get? p.1 = none ∧ p.1 ≠ D ∧ p.1 ≠ C) → J n ys news →
      RR (.ref D) C (.ok .next) { s with heap := h', toks := tk }) :
    wpAny (model prog w) A (newList []) (fun acc s₃ => wpAny (model prog w) A (newFunctionEnv scope env.globals cl [] env.qual none .none (some env)) (fun cenv s₄ =>
      codeAny (model prog w) A (.compStart (.ListComp elt [⟨tgt, iter, ifs, 0⟩] scope pos) 0 (.ref I) acc { cenv with scope := relabel scope env }) (RR acc cenv.locals) s₄) E s₃) E s₂ := by
  obtain ⟨W, hsz, hst, hfp, hwr, ⟨h2, tk2, rfl⟩, hkeep⟩ := S
  dsimp only at hst hfp hkeep hsize
  refine wpAny_newObj_type (wpAny_newFunctionEnv hcell (by intro y hy; simp at hy) (fun h₁ hns₁ hsb₁ => ?_) hkind)
  dsimp only at hns₁ hsb₁ ⊢
  generalize hH2 : h2.push { cls := .type "list", dict := none, data := .seq ([] : List Value).toArray } = H2 at hns₁ hsb₁ ⊢
  have hC : H2.objs.size = h2.objs.size + 1 := by rw [← hH2, Heap.size_push]
  have hDC : h2.objs.size ≠ H2.objs.size := by rw [hC]; exact Nat.ne_of_lt (Nat.lt_succ_self _)
  have below : ∀ b, b < h2.objs.size → b ≠ H2.objs.size := fun b hb => by rw [hC]; exact Nat.ne_of_lt (Nat.lt_succ_of_lt hb)
  have hDf : h2.objs.size ∉ fp := fun hm => Nat.lt_irrefl _ (hfp _ hm)
  have hCf : H2.objs.size ∉ fp := fun hm => by have := hfp _ hm; rw [hC] at this; exact Nat.lt_irrefl _ (Nat.lt_of_succ_lt this)
  have hCw : H2.objs.size ∉ wr := fun h => hCf (W.sub _ h)
  have hDw : h2.objs.size ∉ wr := fun h => hDf (W.sub _ h)
  have old : ∀ b o, h2.get? b = some o → h₁.get? b = some o := fun b o e => hsb₁.extBut b o (below b (Heap.lt_size e)) (Heap.get?_push_of_some _ (hH2 ▸ Heap.get?_push_of_some _ e))
  have hacc : h₁.PlainList h2.objs.size #[] := ⟨_, hsb₁.extBut _ _ hDC (Heap.get?_push_of_some _ (hH2 ▸ Heap.get?_push_size _ rfl))⟩
  have hst₁ : St 0 h₁ := W.frame _ _ _ hst fun b _ o e => old b o e
  have hDn : s.heap.get? h2.objs.size = none := fresh_at hsize
  have hCn : s.heap.get? H2.objs.size = none := fresh_at (by rw [hC]; exact Nat.le_succ_of_le hsize)
  have F₁ : Fr s.heap H2.objs.size h₁ (fun x => ([] : List (Str × Value)).reverse.lookup x) := ⟨hns₁, fun b o e => old b o (hkeep b o e), by rw [hC]; exact Nat.le_succ_of_le hsize⟩
  have loop : ∀ s₃ : Shared, (∃ tk, s₃ = { s with heap := h₁, toks := tk }) →
      codeAny (model prog w) A (.compLoop (.ListComp elt [⟨tgt, iter, ifs, 0⟩] scope pos) 0 (.ref I) (.ref h2.objs.size) (compEnvC scope cl H2.objs.size env)) (RR (.ref h2.objs.size) H2.objs.size) s₃ := by
    rintro s₃ ⟨tk3, rfl⟩
    refine lc_loop (fun k s' => ∃ h' tk m' ys news i, s' = { s with heap := h', toks := tk } ∧ St i h' ∧ h'.PlainList h2.objs.size ys.toArray ∧ Fr s.heap H2.objs.size h' m' ∧ News s.heap H2.objs.size h' news ∧
      (∀ p ∈ news, p.1 ∉ h2.objs.size :: wr) ∧ J i ys news ∧ ys.length ≤ i ∧ i ≤ n ∧ k = n + 1 - i) ?_ (n + 1) ⟨h₁, tk3, _, [], [], 0, rfl, hst₁, hacc, F₁, News.nil, (fun _ h => nomatch h), h0, Nat.le_refl _, Nat.zero_le _, rfl⟩
    rintro k s' ⟨h', tk, m', ys, news, i, rfl, hst', hacc', F', N', hoff, hJ, hys, hi, rfl⟩
    have oldw : ∀ b o, s.heap.get? b = some o → b ∉ wr := fun b o e hb => by rw [hwr b hb] at e; cases e
    have next : ∀ h₁' : Heap, (∀ b o, b ∉ wr → h'.get? b = some o → h₁'.get? b = some o) → Fr s.heap H2.objs.size h₁' m' ∧ News s.heap H2.objs.size h₁' news := fun g hk =>
      ⟨⟨F'.ns.at' fun o e => hk _ o hCw e, fun b o e => hk b o (oldw b o e) (F'.keep b o e), F'.above⟩, fun p hp => ⟨hk _ _ (fun hb => hoff p hp (.tail _ hb)) (N' p hp).1, (N' p hp).2⟩⟩
    by_cases hlt : i < n
    · refine W.item i _ _ _ hlt hst' fun v g tk₁ hP hstg hkg => ?_
      obtain ⟨Fg, Ng⟩ := next g hkg
      have haccg : g.PlainList h2.objs.size ys.toArray := hacc'.at fun o e => hkg _ o hDw e
      obtain ⟨nD, hDg⟩ := id haccg
      have NDg : News s.heap H2.objs.size g ((h2.objs.size, { cls := .type "list", data := .seq ys.toArray nD }) :: ownOf s.heap fp g) := by
        intro p hp
        rcases List.mem_cons.mp hp with rfl | hp
        · exact ⟨hDg, hDC, hDn⟩
        · exact news_ownOf hCf p hp
      have fin : ∀ s₅ Jn, TurnU s.heap H2.objs.size (h2.objs.size :: wr) ((h2.objs.size, { cls := .type "list", data := .seq ys.toArray nD }) :: ownOf s.heap fp g) Jn { s with heap := g, toks := tk₁ } s₅ →
          ∃ h₅ tk₅ m₅ news₅, s₅ = { s with heap := h₅, toks := tk₅ } ∧ St (i + 1) h₅ ∧ h₅.PlainList h2.objs.size ys.toArray ∧ Fr s.heap H2.objs.size h₅ m₅ ∧ News s.heap H2.objs.size h₅ news₅ ∧ (∀ p ∈ news₅, p.1 ∉ h2.objs.size :: wr) ∧ Jn news₅ := by
        rintro s₅ Jn ⟨h₅, tk₅, m₅, news₅, rfl, F₅, N₅, ha₅, hJ₅⟩
        refine ⟨h₅, tk₅, m₅, news₅, rfl, W.frame _ _ _ hstg fun b hb o e => ?_, ⟨nD, (N₅ _ (.head _)).1⟩, F₅, N₅.right, ha₅, hJ₅⟩
        cases hn : s.heap.get? b with
        | some o₀ =>
          have : o₀ = o := by have := Fg.keep b o₀ hn; rw [e] at this; exact (Option.some.inj this).symm
          exact this ▸ F₅.keep b o₀ hn
        | none => exact (N₅ _ (List.mem_append_left _ (.tail _ (mem_ownOf hb hn e)))).1
      refine hgo _ _ _ _ _ hstg ?_
      refine wpAny_mono (turn H2.objs.size h2.objs.size i v ys news m' { s with heap := g, toks := tk₁ } _ (notedBy (model prog w) A (compEnvC scope cl H2.objs.size env) fun e s' => RR (.ref h2.objs.size) H2.objs.size (.error e) s') hlt hP hJ hoff (fun p hp => ?_) ⟨_, .head _⟩ Fg (NDg.append Ng)) (fun _ s₃ h₃ => wpAny_mono h₃ (fun ok s₄ h₄ => ?_) fun _ _ e => e) fun _ _ e => e
      · rcases List.mem_cons.mp hp with rfl | hp
        · exact .head _
        · exact .tail _ (ownOf_sub p hp)
      · cases ok with
        | false =>
          simp only [Bool.false_eq_true, if_false] at h₄ ⊢
          obtain ⟨h₅, tk₅, m₅, news₅, rfl, hst₅, hacc₅, F₅, N₅, ha₅, hJ₅⟩ := fin _ _ h₄
          exact ⟨n + 1 - (i + 1), by omega, h₅, tk₅, m₅, ys, news₅, i + 1, rfl, hst₅, hacc₅, F₅, N₅, ha₅, hJ₅, Nat.le_succ_of_le hys, hlt, rfl⟩
        | true =>
          simp only [if_true] at h₄ ⊢
          refine wpAny_mono h₄ (fun y s₅ h₅ => ?_) fun _ _ e => e
          obtain ⟨h₅, tk₅, m₅, news₅, rfl, hst₅, hacc₅, F₅, N₅, ha₅, hJ₅⟩ := fin _ _ h₅
          have hle : ys.toArray.size ≤ sizeLine := by
            have : ys.toArray.size = ys.length := by simp
            omega
          refine wpAny_list_append_plain (hsz := hle) hacc₅ fun h₆ hl₆ hs₆ => ?_
          refine ⟨n + 1 - (i + 1), by omega, h₆, tk₅, m₅, ys ++ [y], news₅, i + 1, rfl, ?_, by simpa using hl₆, F₅.change hs₆ hDC hDn, fun p hp => ?_, ha₅, hJ₅, by simp; omega, hlt, rfl⟩
          · exact W.frame _ _ _ hst₅ fun b hb o e => hs₆.extBut b o (fun h => hDf (h ▸ hb)) e
          · exact ⟨hs₆.extBut _ _ (fun e => ha₅ p hp (e ▸ .head _)) (N₅ p hp).1, (N₅ p hp).2⟩
    · have hin : i = n := by omega
      subst hin
      refine W.done _ _ _ hst' fun g tk₁ hkg => ?_
      obtain ⟨Fg, Ng⟩ := next g hkg
      exact hRR _ _ g tk₁ m' ys news Fg.keep hDn hCn hDC Fg.ns (hacc'.at fun o e => hkg _ o hDw e) (fun p hp => ⟨(Ng p hp).1, (Ng p hp).2.2, fun e => hoff p hp (e ▸ .head _), (Ng p hp).2.1⟩) hJ
  exact codeAny_compStart_list (loop _ ⟨_, rfl⟩) (W.self 0 _ _ _ hst₁ (loop _ ⟨_, rfl⟩))
theorem lc_eval {elt tgt iter : Expr} {ifs : List Expr} {scope : Scope} {cl : List (Str × Addr)} {pos : Pos} {Q : Value → Shared → Prop}
    (hclos : closureFor scope env = pure cl) (hcell : ∀ y ∈ scope.names, y.2 ≠ .cell) (hkind : scope.kind = .function)
    (hnames : ∀ y ∈ scope.names, y.2 = .local → scope.names.lookup y.1 = some .local)
    (h : wpAny (model prog w) A (eval iter env) (fun xv s₁ => wpAny (model prog w) A (pyIter xv) (fun it s₂ => ∃ (I : Addr) (fp wr : List Addr) (n : Nat) (P : Nat → Value → Prop) (St : Nat → Heap → Prop) (J : Nat → List Value → List (Addr × Obj) → Prop), it = .ref I ∧ SrcU prog w A s s₂ I fp wr n P St ∧ s.heap.objs.size ≤ s₂.heap.objs.size ∧ (∀ (E' : Value → Shared → Prop) i (s' : Shared) v (Q' : Unit → Shared → Prop), St i s'.heap → Q' () s' → wpAny (model prog w) A (letOwnedTupleGo tgt (.ref I) v) Q' E' s') ∧ J 0 [] [] ∧
      (∀ C D i v ys news m₁ s₁ own E', i < n → P i v → J i ys news → (∀ p ∈ news, p.1 ∉ D :: wr) → (∀ p ∈ own, p.1 ∈ D :: fp) → (∃ o, (D, o) ∈ own) → Fr s.heap C s₁.heap m₁ → News s.heap C s₁.heap (own ++ news) →
      wpAny (model prog w) A (assign tgt (compEnvC scope cl C env) v) (fun _ s₂ => wpAny (model prog w) A (testsOf ifs (compEnvC scope cl C env)) (fun ok s₃ =>
        if ok = true then wpAny (model prog w) A (eval elt (compEnvC scope cl C env)) (fun y s₄ => TurnU s.heap C (D :: wr) own (J (i + 1) (ys ++ [y])) s₁ s₄) E' s₃ else TurnU s.heap C (D :: wr) own (J (i + 1) ys) s₁ s₃) E' s₂) E' s₁) ∧
      (∀ D h' tk ys news, (∀ b o, s.heap.get? b = some o → h'.get? b = some o) → s.heap.get? D = none → h'.PlainList D ys.toArray → (∀ p ∈ news, h'.get? p.1 = some p.2 ∧ s.heap.get? p.1 = none ∧ p.1 ≠ D) → J n ys news →
        Q (.ref D) { s with heap := h', toks := tk })) E s₁) E s)
    (hs : ∀ x, foldedSetIterable iter env x = pure x := by intro _; rfl) :
    wpAny (model prog w) A (eval (.ListComp elt [⟨tgt, iter, ifs, 0⟩] scope pos) env) Q E s := by
  rw [eval_ListComp]
  refine wpAny_comprehension_free (use := none) rfl hs hclos hkind hnames (wpAny_mono h (fun xv s₁ h₁ => wpAny_mono h₁ (fun it s₂ h₂ => ?_) fun _ _ e => e) fun _ _ e => e)
  obtain ⟨I, fp, wr, n, P, St, J, rfl, S, hsize, hgo, h0, turn, hQ⟩ := h₂
  refine lc_block (RR := fun acc C => compPost (model prog w) A E none Q acc C) S hsize J h0 hcell hkind hgo turn ?_
  intro D C h' tk m' ys news hk hD hC hDC hn hpl hnw hJ
  refine ⟨m', hn, fun h'' hs'' => hQ D h'' tk ys news (fun b o e => hs''.extBut b o (by rintro rfl; rw [hC] at e; cases e) (hk b o e)) hD (hpl.at fun o e => hs''.extBut _ _ hDC e) (fun p hp => ⟨hs''.extBut _ _ (hnw p hp).2.2.2 (hnw p hp).1, (hnw p hp).2.1, (hnw p hp).2.2.1⟩) hJ⟩
theorem lc_assign {elt tgt iter : Expr} {ifs : List Expr} {scope : Scope} {cl : List (Str × Addr)} {pos spos py : Pos} {y : Str} {m : Str → Option Value} {Q : Flow → Shared → Prop}
    (hm : s.heap.Ns env.locals m) (hy : env.kindOf y = some .local) (hp : (env.scope.kind == .class || (env.scope.kind == .module && env.locals != env.globals)) = false)
    (hsw : swapsWith (.ListComp elt [⟨tgt, iter, ifs, 0⟩] scope pos) (some (.Name y py)) spos.line env = pure true)
    (hclos : closureFor scope env = pure cl) (hcell : ∀ y ∈ scope.names, y.2 ≠ .cell) (hkind : scope.kind = .function)
    (hnames : ∀ y ∈ scope.names, y.2 = .local → scope.names.lookup y.1 = some .local)
    (h : wpAny (model prog w) A (eval iter env) (fun xv s₁ => wpAny (model prog w) A (pyIter xv) (fun it s₂ => ∃ (I : Addr) (fp wr : List Addr) (n : Nat) (P : Nat → Value → Prop) (St : Nat → Heap → Prop) (J : Nat → List Value → List (Addr × Obj) → Prop), it = .ref I ∧ SrcU prog w A s s₂ I fp wr n P St ∧ s.heap.objs.size ≤ s₂.heap.objs.size ∧ (∀ (E' : Value → Shared → Prop) i (s' : Shared) v (Q' : Unit → Shared → Prop), St i s'.heap → Q' () s' → wpAny (model prog w) A (letOwnedTupleGo tgt (.ref I) v) Q' E' s') ∧ J 0 [] [] ∧
      (∀ C D i v ys news m₁ s₁ own E', i < n → P i v → J i ys news → (∀ p ∈ news, p.1 ∉ D :: wr) → (∀ p ∈ own, p.1 ∈ D :: fp) → (∃ o, (D, o) ∈ own) → Fr s.heap C s₁.heap m₁ → News s.heap C s₁.heap (own ++ news) →
      wpAny (model prog w) A (assign tgt (compEnvC scope cl C env) v) (fun _ s₂ => wpAny (model prog w) A (testsOf ifs (compEnvC scope cl C env)) (fun ok s₃ =>
        if ok = true then wpAny (model prog w) A (eval elt (compEnvC scope cl C env)) (fun y s₄ => TurnU s.heap C (D :: wr) own (J (i + 1) (ys ++ [y])) s₁ s₄) E' s₃ else TurnU s.heap C (D :: wr) own (J (i + 1) ys) s₁ s₃) E' s₂) E' s₁) ∧
      (∀ D h' tk ys news, h'.Ns env.locals (fun z => if z = y then some (.ref D) else m z) → (∀ b o, b ≠ env.locals → s.heap.get? b = some o → h'.get? b = some o) → s.heap.get? D = none → h'.PlainList D ys.toArray → (∀ p ∈ news, h'.get? p.1 = some p.2 ∧ s.heap.get? p.1 = none ∧ p.1 ≠ D) → J n ys news →
        Q .next { s with heap := h', toks := tk })) E s₁) E s)
    (hs : ∀ x, foldedSetIterable iter env x = pure x := by intro _; rfl) :
    wpAny (model prog w) A (exec (.Assign [.Name y py] (.ListComp elt [⟨tgt, iter, ifs, 0⟩] scope pos) spos) env) Q E s := by
  rw [exec_Assign_Name_used _ _ _ _ hsw]
  refine wpAny_bind (wpAny_standAt (wpAny_bind ?_))
  show wpAny _ A (do let _ ← comprehension (.ListComp elt [⟨tgt, iter, ifs, 0⟩] scope pos) scope env _ (newList []) false (eval iter env) (some (assign (.Name y py) env))) _ _ s
  refine wpAny_bind (wpAny_mono (wpAny_comprehension_free (use := some (assign (.Name y py) env)) (Q := fun _ s' => Q .next s') rfl hs hclos hkind hnames
    (wpAny_mono h (fun xv s₁ h₁ => wpAny_mono h₁ (fun it s₂ h₂ => ?_) fun _ _ e => e) fun _ _ e => e)) (fun _ s' hq => wpAny_pure (wpAny_pure hq)) fun _ _ e => e)
  obtain ⟨I, fp, wr, n, P, St, J, rfl, S, hsize, hgo, h0, turn, hQ⟩ := h₂
  refine lc_block (RR := fun acc C => compPost (model prog w) A E (some (assign (.Name y py) env)) (fun _ s' => Q .next s') acc C) S hsize J h0 hcell hkind hgo turn ?_
  intro D C h' tk m' ys news hk hD hC hDC hnC hpl hnw hJ
  obtain ⟨oL, _, _, hoL, _⟩ := id hm
  have hLC : env.locals ≠ C := by rintro rfl; rw [hC] at hoL; cases hoL
  have hLD : env.locals ≠ D := by rintro rfl; rw [hD] at hoL; cases hoL
  show wpAny _ A (assign (.Name y py) env (.ref D)) _ _ _
  refine wpAny_assign_Name (wpAny_storeName_local hy (hm.at' fun o e => hk _ o e) (fun h₂ hn₂ hs₂ => ?_) hp)
  refine ⟨m', hnC.sameBut hs₂ (Ne.symm hLC), fun h₃ hs₃ => ?_⟩
  refine hQ D h₃ _ ys news (hn₂.sameBut hs₃ hLC) (fun b o hb e => hs₃.extBut b o (by rintro rfl; rw [hC] at e; cases e) (hs₂.extBut b o hb (hk b o e))) hD ((hpl.at fun o e => hs₂.extBut _ _ (Ne.symm hLD) e).at fun o e => hs₃.extBut _ _ hDC e) (fun p hp => ⟨hs₃.extBut _ _ (hnw p hp).2.2.2 (hs₂.extBut _ _ ?_ (hnw p hp).1), (hnw p hp).2.1, (hnw p hp).2.2.1⟩) hJ
  intro e
  have := (hnw p hp).2.1
  rw [e, hoL] at this
  cases this
end
section
variable {prog : Program} {w : World} {K : Type} [DecidableEq K] {knd : KeyKind prog w K} {A : Around} {E : Value → Shared → Prop} {env : Env} {s : Shared}
theorem dc_block {kx vx tgt iter : Expr} {ifs : List Expr} {scope : Scope} {cl : List (Str × Addr)} {pos : Pos} {s₂ : Shared} {I : Addr} {fp wr : List Addr} {n : Nat} {P : Nat → Value → Prop}
    {St : Nat → Heap → Prop} (S : SrcU prog w A s s₂ I fp wr n P St) (hsize : s.heap.objs.size ≤ s₂.heap.objs.size) {RR : Value → Addr → Result → Shared → Prop} (J : Nat → List (K × Value) → Prop) (h0 : J 0 [])
    (hcell : ∀ y ∈ scope.names, y.2 ≠ .cell) (hkind : scope.kind = .function) (ht : ∀ it v, letOwnedTupleGo tgt it v = pure ())
    (turn : ∀ C D i v ys m₁ s₁ own E', i < n → P i v → J i ys → (∀ p ∈ own, p.1 ∈ D :: fp) → (∃ o, (D, o) ∈ own) → Fr s.heap C s₁.heap m₁ → News s.heap C s₁.heap own →
      wpAny (model prog w) A (assign tgt (compEnvC scope cl C env) v) (fun _ s₂ => wpAny (model prog w) A (testsOf ifs (compEnvC scope cl C env)) (fun ok s₃ =>
        if ok = true then wpAny (model prog w) A (eval kx (compEnvC scope cl C env)) (fun kv s₄ => wpAny (model prog w) A (eval vx (compEnvC scope cl C env)) (fun vv s₅ => ∃ k, knd.is k kv = true ∧ TurnU s.heap C (D :: wr) own (fun _ => J (i + 1) (stored ys k vv)) s₁ s₅) E' s₄) E' s₃ else TurnU s.heap C (D :: wr) own (fun _ => J (i + 1) ys) s₁ s₃) E' s₂) E' s₁)
    (hRR : ∀ D C h' tk m' ys, (∀ b o, s.heap.get? b = some o → h'.get? b = some o) → s.heap.objs.size ≤ D → s.heap.get? C = none → D ≠ C → h'.Ns C m' → h'.DictOf knd D ys → J n ys →
      RR (.ref D) C (.ok .next) { s with heap := h', toks := tk }) :
    wpAny (model prog w) A newDict (fun acc s₃ => wpAny (model prog w) A (newFunctionEnv scope env.globals cl [] env.qual none .none (some env)) (fun cenv s₄ =>
      codeAny (model prog w) A (.compStart (.DictComp kx vx [⟨tgt, iter, ifs, 0⟩] scope pos) 0 (.ref I) acc { cenv with scope := relabel scope env }) (RR acc cenv.locals) s₄) E s₃) E s₂ := by
  obtain ⟨W, hsz, hst, hfp, hwr, ⟨h2, tk2, rfl⟩, hkeep⟩ := S
  dsimp only at hst hfp hkeep hsize
  refine wpAny_newObj_type (wpAny_newFunctionEnv hcell (by intro y hy; simp at hy) (fun h₁ hns₁ hsb₁ => ?_) hkind)
  dsimp only at hns₁ hsb₁ ⊢
  have hnew : (h2.push { cls := .type "dict", dict := none, data := .dict #[] }).DictOf knd h2.objs.size [] := Heap.DictOf.new h2
  generalize hH2 : h2.push { cls := .type "dict", dict := none, data := .dict #[] } = H2 at hns₁ hsb₁ hnew ⊢
  have hC : H2.objs.size = h2.objs.size + 1 := by rw [← hH2, Heap.size_push]
  have hDC : h2.objs.size ≠ H2.objs.size := by rw [hC]; exact Nat.ne_of_lt (Nat.lt_succ_self _)
  have below : ∀ b, b < h2.objs.size → b ≠ H2.objs.size := fun b hb => by rw [hC]; exact Nat.ne_of_lt (Nat.lt_succ_of_lt hb)
  have hDf : h2.objs.size ∉ fp := fun hm => Nat.lt_irrefl _ (hfp _ hm)
  have hCf : H2.objs.size ∉ fp := fun hm => by have := hfp _ hm; rw [hC] at this; exact Nat.lt_irrefl _ (Nat.lt_of_succ_lt this)
  have hCw : H2.objs.size ∉ wr := fun h => hCf (W.sub _ h)
  have hDw : h2.objs.size ∉ wr := fun h => hDf (W.sub _ h)
  have old : ∀ b o, h2.get? b = some o → h₁.get? b = some o := fun b o e => hsb₁.extBut b o (below b (Heap.lt_size e)) (Heap.get?_push_of_some _ (hH2 ▸ Heap.get?_push_of_some _ e))
  have hacc : h₁.DictOf knd h2.objs.size [] := hnew.at fun o e => hsb₁.extBut _ _ hDC (Heap.get?_push_of_some _ e)
  have hst₁ : St 0 h₁ := W.frame _ _ _ hst fun b _ o e => old b o e
  have hDn : s.heap.get? h2.objs.size = none := fresh_at hsize
  have hCn : s.heap.get? H2.objs.size = none := fresh_at (by rw [hC]; exact Nat.le_succ_of_le hsize)
  have F₁ : Fr s.heap H2.objs.size h₁ (fun x => ([] : List (Str × Value)).reverse.lookup x) := ⟨hns₁, fun b o e => old b o (hkeep b o e), by rw [hC]; exact Nat.le_succ_of_le hsize⟩
  have loop : ∀ s₃ : Shared, (∃ tk, s₃ = { s with heap := h₁, toks := tk }) →
      codeAny (model prog w) A (.compLoop (.DictComp kx vx [⟨tgt, iter, ifs, 0⟩] scope pos) 0 (.ref I) (.ref h2.objs.size) (compEnvC scope cl H2.objs.size env)) (RR (.ref h2.objs.size) H2.objs.size) s₃ := by
    rintro s₃ ⟨tk3, rfl⟩
    refine codeAny_compLoop_testsD (fun k s' => ∃ h' tk m' ys i, s' = { s with heap := h', toks := tk } ∧ St i h' ∧ h'.DictOf knd h2.objs.size ys ∧ Fr s.heap H2.objs.size h' m' ∧ J i ys ∧ ys.length ≤ i ∧ i ≤ n ∧ k = n + 1 - i) ?_ (n + 1) ⟨h₁, tk3, _, [], 0, rfl, hst₁, hacc, F₁, h0, Nat.le_refl _, Nat.zero_le _, rfl⟩ (fun v => ht _ v)
    rintro k s' ⟨h', tk, m', ys, i, rfl, hst', hacc', F', hJ, hys, hi, rfl⟩
    have oldw : ∀ b o, s.heap.get? b = some o → b ∉ wr := fun b o e hb => by rw [hwr b hb] at e; cases e
    have next : ∀ h₁' : Heap, (∀ b o, b ∉ wr → h'.get? b = some o → h₁'.get? b = some o) → Fr s.heap H2.objs.size h₁' m' := fun g hk =>
      ⟨F'.ns.at' fun o e => hk _ o hCw e, fun b o e => hk b o (oldw b o e) (F'.keep b o e), F'.above⟩
    by_cases hlt : i < n
    · refine W.item i _ _ _ hlt hst' fun v g tk₁ hP hstg hkg => ?_
      have Fg := next g hkg
      have haccg : g.DictOf knd h2.objs.size ys := hacc'.at fun o e => hkg _ o hDw e
      obtain ⟨oD, hDg, hDo⟩ := Heap.dictOf_iff.mp haccg
      have NDg : News s.heap H2.objs.size g ((h2.objs.size, oD) :: ownOf s.heap fp g) := by
        intro p hp
        rcases List.mem_cons.mp hp with rfl | hp
        · exact ⟨hDg, hDC, hDn⟩
        · exact news_ownOf hCf p hp
      have fin : ∀ s₅ Jn, TurnU s.heap H2.objs.size (h2.objs.size :: wr) ((h2.objs.size, oD) :: ownOf s.heap fp g) Jn { s with heap := g, toks := tk₁ } s₅ →
          ∃ h₅ tk₅ m₅, s₅ = { s with heap := h₅, toks := tk₅ } ∧ St (i + 1) h₅ ∧ h₅.DictOf knd h2.objs.size ys ∧ Fr s.heap H2.objs.size h₅ m₅ ∧ ∃ nw, Jn nw := by
        rintro s₅ Jn ⟨h₅, tk₅, m₅, news₅, rfl, F₅, N₅, ha₅, hJ₅⟩
        refine ⟨h₅, tk₅, m₅, rfl, W.frame _ _ _ hstg fun b hb o e => ?_, Heap.dictOf_iff.mpr ⟨oD, (N₅ _ (.head _)).1, hDo⟩, F₅, _, hJ₅⟩
        cases hn : s.heap.get? b with
        | some o₀ =>
          have : o₀ = o := by have := Fg.keep b o₀ hn; rw [e] at this; exact (Option.some.inj this).symm
          exact this ▸ F₅.keep b o₀ hn
        | none => exact (N₅ _ (List.mem_append_left _ (.tail _ (mem_ownOf hb hn e)))).1
      refine wpAny_mono (turn H2.objs.size h2.objs.size i v ys m' { s with heap := g, toks := tk₁ } _ (notedBy (model prog w) A (compEnvC scope cl H2.objs.size env) fun e s' => RR (.ref h2.objs.size) H2.objs.size (.error e) s') hlt hP hJ (fun p hp => ?_) ⟨_, .head _⟩ Fg NDg) (fun _ s₃ h₃ => wpAny_mono h₃ (fun ok s₄ h₄ => ?_) fun _ _ e => e) fun _ _ e => e
      · rcases List.mem_cons.mp hp with rfl | hp
        · exact .head _
        · exact .tail _ (ownOf_sub p hp)
      · cases ok with
        | false =>
          simp only [Bool.false_eq_true, if_false] at h₄ ⊢
          obtain ⟨h₅, tk₅, m₅, rfl, hst₅, hacc₅, F₅, _, hJ₅⟩ := fin _ _ h₄
          exact ⟨n + 1 - (i + 1), by omega, h₅, tk₅, m₅, ys, i + 1, rfl, hst₅, hacc₅, F₅, hJ₅, Nat.le_succ_of_le hys, hlt, rfl⟩
        | true =>
          simp only [if_true] at h₄ ⊢
          refine wpAny_mono h₄ (fun kv s₄' h₄' => wpAny_mono h₄' (fun vv s₅ h₅ => ?_) fun _ _ e => e) fun _ _ e => e
          obtain ⟨k, hk, h₅⟩ := h₅
          obtain ⟨h₅, tk₅, m₅, rfl, hst₅, hacc₅, F₅, _, hJ₅⟩ := fin _ _ h₅
          have hle : ys.length ≤ sizeLine := by omega
          refine wpAny_dictSet_pairs (hsz := hle) hk hacc₅ fun h₆ hl₆ hs₆ => ?_
          refine ⟨n + 1 - (i + 1), by omega, h₆, _, m₅, stored ys k vv, i + 1, rfl, ?_, hl₆, F₅.change hs₆ hDC hDn, hJ₅, ?_, hlt, rfl⟩
          · exact W.frame _ _ _ hst₅ fun b hb o e => hs₆.extBut b o (fun h => hDf (h ▸ hb)) e
          · have := stored_length_le ys k vv
            omega
    · have hin : i = n := by omega
      subst hin
      refine W.done _ _ _ hst' fun g tk₁ hkg => ?_
      have Fg := next g hkg
      exact hRR _ _ g tk₁ m' ys Fg.keep hsize hCn hDC Fg.ns (hacc'.at fun o e => hkg _ o hDw e) hJ
  exact codeAny_compStart_dict (loop _ ⟨_, rfl⟩) (W.self 0 _ _ _ hst₁ (loop _ ⟨_, rfl⟩))
theorem dc_eval {kx vx tgt iter : Expr} {ifs : List Expr} {scope : Scope} {cl : List (Str × Addr)} {pos : Pos} {Q : Value → Shared → Prop}
    (hclos : closureFor scope env = pure cl) (hcell : ∀ y ∈ scope.names, y.2 ≠ .cell) (hkind : scope.kind = .function)
    (hnames : ∀ y ∈ scope.names, y.2 = .local → scope.names.lookup y.1 = some .local) (ht : ∀ it v, letOwnedTupleGo tgt it v = pure ())
    (h : wpAny (model prog w) A (eval iter env) (fun xv s₁ => wpAny (model prog w) A (pyIter xv) (fun it s₂ => ∃ (I : Addr) (fp wr : List Addr) (n : Nat) (P : Nat → Value → Prop) (St : Nat → Heap → Prop) (J : Nat → List (K × Value) → Prop), it = .ref I ∧ SrcU prog w A s s₂ I fp wr n P St ∧ s.heap.objs.size ≤ s₂.heap.objs.size ∧ J 0 [] ∧
      (∀ C D i v ys m₁ s₁ own E', i < n → P i v → J i ys → (∀ p ∈ own, p.1 ∈ D :: fp) → (∃ o, (D, o) ∈ own) → Fr s.heap C s₁.heap m₁ → News s.heap C s₁.heap own →
      wpAny (model prog w) A (assign tgt (compEnvC scope cl C env) v) (fun _ s₂ => wpAny (model prog w) A (testsOf ifs (compEnvC scope cl C env)) (fun ok s₃ =>
        if ok = true then wpAny (model prog w) A (eval kx (compEnvC scope cl C env)) (fun kv s₄ => wpAny (model prog w) A (eval vx (compEnvC scope cl C env)) (fun vv s₅ => ∃ k, knd.is k kv = true ∧ TurnU s.heap C (D :: wr) own (fun _ => J (i + 1) (stored ys k vv)) s₁ s₅) E' s₄) E' s₃ else TurnU s.heap C (D :: wr) own (fun _ => J (i + 1) ys) s₁ s₃) E' s₂) E' s₁) ∧
      (∀ D h' tk ys, (∀ b o, s.heap.get? b = some o → h'.get? b = some o) → s.heap.objs.size ≤ D → h'.DictOf knd D ys → J n ys →
        Q (.ref D) { s with heap := h', toks := tk })) E s₁) E s)
    (hs : ∀ x, foldedSetIterable iter env x = pure x := by intro _; rfl) :
    wpAny (model prog w) A (eval (.DictComp kx vx [⟨tgt, iter, ifs, 0⟩] scope pos) env) Q E s := by
  rw [arm_eval_DictComp]
  refine wpAny_comprehension_free (use := none) rfl hs hclos hkind hnames (wpAny_mono h (fun xv s₁ h₁ => wpAny_mono h₁ (fun it s₂ h₂ => ?_) fun _ _ e => e) fun _ _ e => e)
  obtain ⟨I, fp, wr, n, P, St, J, rfl, S, hsize, h0, turn, hQ⟩ := h₂
  refine dc_block (knd := knd) (RR := fun acc C => compPost (model prog w) A E none Q acc C) S hsize J h0 hcell hkind ht turn ?_
  intro D C h' tk m' ys hk hD hC hDC hn hpl hJ
  refine ⟨m', hn, fun h'' hs'' => hQ D h'' tk ys (fun b o e => hs''.extBut b o (by rintro rfl; rw [hC] at e; cases e) (hk b o e)) hD (hpl.at fun o e => hs''.extBut _ _ hDC e) hJ⟩
theorem dc_assign {kx vx tgt iter : Expr} {ifs : List Expr} {scope : Scope} {cl : List (Str × Addr)} {pos spos py : Pos} {y : Str} {m : Str → Option Value} {Q : Flow → Shared → Prop}
    (hm : s.heap.Ns env.locals m) (hy : env.kindOf y = some .local) (hp : (env.scope.kind == .class || (env.scope.kind == .module && env.locals != env.globals)) = false)
    (hsw : swapsWith (.DictComp kx vx [⟨tgt, iter, ifs, 0⟩] scope pos) (some (.Name y py)) spos.line env = pure true)
    (hclos : closureFor scope env = pure cl) (hcell : ∀ y ∈ scope.names, y.2 ≠ .cell) (hkind : scope.kind = .function)
    (hnames : ∀ y ∈ scope.names, y.2 = .local → scope.names.lookup y.1 = some .local) (ht : ∀ it v, letOwnedTupleGo tgt it v = pure ())
    (h : wpAny (model prog w) A (eval iter env) (fun xv s₁ => wpAny (model prog w) A (pyIter xv) (fun it s₂ => ∃ (I : Addr) (fp wr : List Addr) (n : Nat) (P : Nat → Value → Prop) (St : Nat → Heap → Prop) (J : Nat → List (K × Value) → Prop), it = .ref I ∧ SrcU prog w A s s₂ I fp wr n P St ∧ s.heap.objs.size ≤ s₂.heap.objs.size ∧ J 0 [] ∧
      (∀ C D i v ys m₁ s₁ own E', i < n → P i v → J i ys → (∀ p ∈ own, p.1 ∈ D :: fp) → (∃ o, (D, o) ∈ own) → Fr s.heap C s₁.heap m₁ → News s.heap C s₁.heap own →
      wpAny (model prog w) A (assign tgt (compEnvC scope cl C env) v) (fun _ s₂ => wpAny (model prog w) A (testsOf ifs (compEnvC scope cl C env)) (fun ok s₃ =>
        if ok = true then wpAny (model prog w) A (eval kx (compEnvC scope cl C env)) (fun kv s₄ => wpAny (model prog w) A (eval vx (compEnvC scope cl C env)) (fun vv s₅ => ∃ k, knd.is k kv = true ∧ TurnU s.heap C (D :: wr) own (fun _ => J (i + 1) (stored ys k vv)) s₁ s₅) E' s₄) E' s₃ else TurnU s.heap C (D :: wr) own (fun _ => J (i + 1) ys) s₁ s₃) E' s₂) E' s₁) ∧
      (∀ D h' tk ys, h'.Ns env.locals (fun z => if z = y then some (.ref D) else m z) → (∀ b o, b ≠ env.locals → s.heap.get? b = some o → h'.get? b = some o) → s.heap.objs.size ≤ D → h'.DictOf knd D ys → J n ys →
        Q .next { s with heap := h', toks := tk })) E s₁) E s)
    (hs : ∀ x, foldedSetIterable iter env x = pure x := by intro _; rfl) :
    wpAny (model prog w) A (exec (.Assign [.Name y py] (.DictComp kx vx [⟨tgt, iter, ifs, 0⟩] scope pos) spos) env) Q E s := by
  rw [exec_Assign_Name_used _ _ _ _ hsw]
  refine wpAny_bind (wpAny_standAt (wpAny_bind ?_))
  show wpAny _ A (do let _ ← comprehension (.DictComp kx vx [⟨tgt, iter, ifs, 0⟩] scope pos) scope env _ newDict false (eval iter env) (some (assign (.Name y py) env))) _ _ s
  refine wpAny_bind (wpAny_mono (wpAny_comprehension_free (use := some (assign (.Name y py) env)) (Q := fun _ s' => Q .next s') rfl hs hclos hkind hnames
    (wpAny_mono h (fun xv s₁ h₁ => wpAny_mono h₁ (fun it s₂ h₂ => ?_) fun _ _ e => e) fun _ _ e => e)) (fun _ s' hq => wpAny_pure (wpAny_pure hq)) fun _ _ e => e)
  obtain ⟨I, fp, wr, n, P, St, J, rfl, S, hsize, h0, turn, hQ⟩ := h₂
  refine dc_block (knd := knd) (RR := fun acc C => compPost (model prog w) A E (some (assign (.Name y py) env)) (fun _ s' => Q .next s') acc C) S hsize J h0 hcell hkind ht turn ?_
  intro D C h' tk m' ys hk hD hC hDC hnC hpl hJ
  obtain ⟨oL, _, _, hoL, _⟩ := id hm
  have hLC : env.locals ≠ C := by rintro rfl; rw [hC] at hoL; cases hoL
  have hLD : env.locals ≠ D := by rintro rfl; rw [fresh_at hD] at hoL; cases hoL
  show wpAny _ A (assign (.Name y py) env (.ref D)) _ _ _
  refine wpAny_assign_Name (wpAny_storeName_local hy (hm.at' fun o e => hk _ o e) (fun h₂ hn₂ hs₂ => ?_) hp)
  refine ⟨m', hnC.sameBut hs₂ (Ne.symm hLC), fun h₃ hs₃ => ?_⟩
  exact hQ D h₃ _ ys (hn₂.sameBut hs₃ hLC) (fun b o hb e => hs₃.extBut b o (by rintro rfl; rw [hC] at e; cases e) (hs₂.extBut b o hb (hk b o e))) hD ((hpl.at fun o e => hs₂.extBut _ _ (Ne.symm hLD) e).at fun o e => hs₃.extBut _ _ hDC e) hJ
end
section
variable {w : World} {mean : ExcName → Option Value} {mg mb : Str → Option Value} {A : Around} {s : Shared} {h₀ : Heap} {L : Addr} {m : Str → Option Value} {E : Value → Shared → Prop} {name : Str} {scope : Scope} {a : Addr} {cd v : Value} {x : Str} {pos : Pos} {Q : Value → Shared → Prop}
theorem ldBC (W : WG mean mg mb h₀) (F : Fr h₀ L s.heap m) (hv : BI mg mb x v) (h : Q v s) (hk : scope.kind = .function := by rfl) (hx : (envOfC name scope L a cd).kindOf x = some .globalImplicit := by rfl) (hd : (x == ("__debug__" : Str)) = false := by rfl) :
    wpAny (model pw w) A (eval (.Name x pos) (envOfC name scope L a cd)) Q E s :=
  Name_function_global hk hx (loadGlobal_builtin (env := envOfC name scope L a cd) (W.T.g.keepsP F.keep) hv.1 (W.b.keepsP F.keep) hv.2 h) hd
theorem ldWC (W : WG mean mg mb h₀) (F : Fr h₀ L s.heap m) (hv : mg x = some v) (h : Q v s) (hk : scope.kind = .function := by rfl) (hx : (envOfC name scope L a cd).kindOf x = some .globalImplicit := by rfl) (hd : (x == ("__debug__" : Str)) = false := by rfl) :
    wpAny (model pw w) A (eval (.Name x pos) (envOfC name scope L a cd)) Q E s :=
  Name_function_global hk hx (loadGlobal_global (env := envOfC name scope L a cd) (W.T.g.keepsP F.keep) hv h) hd
variable {cscope : Scope} {cl : List (Str × Addr)} {C : Addr} {env : Env}
theorem ldK (F : Fr h₀ C s.heap m) (hv : m x = some v) (h : Q v s)
    (hk : cscope.kind = .function := by rfl) (hl : (compEnvC cscope cl C env).kindOf x = some .local := by rfl) (hd : (x == ("__debug__" : Str)) = false := by decide) :
    wpAny (model pw w) A (eval (.Name x pos) (compEnvC cscope cl C env)) Q E s := wpAny_Name (wpAny_loadName_local (env := compEnvC cscope cl C env) hk hl F.ns hv h) hd
theorem ldKC {c : Addr} (F : Fr h₀ C s.heap m) (hc : cl.lookup x = some c) (hv : h₀.IsCell c (some v)) (h : Q v s)
    (hk : cscope.kind = .function := by rfl) (hl : (compEnvC cscope cl C env).kindOf x = some .cell := by rfl) (hd : (x == ("__debug__" : Str)) = false := by decide) :
    wpAny (model pw w) A (eval (.Name x pos) (compEnvC cscope cl C env)) Q E s := by
  obtain ⟨o, ho, hd'⟩ := hv
  exact wpAny_Name (wpAny_loadName_cell (env := compEnvC cscope cl C env) hk hl hc ⟨o, F.keep _ _ ho, hd'⟩ h) hd
theorem stK {v : Value} {Q : Unit → Shared → Prop} {ns : List (Addr × Obj)} (F : Fr h₀ C s.heap m) (N : News h₀ C s.heap ns)
    (h : ∀ h', Fr h₀ C h' (fun y => if y = x then some v else m y) → News h₀ C h' ns → Q () { s with heap := h', toks := s.toks + 1 })
    (hl : (compEnvC cscope cl C env).kindOf x = some .local := by rfl) (hp : ((compEnvC cscope cl C env).scope.kind == .class || ((compEnvC cscope cl C env).scope.kind == .module && (compEnvC cscope cl C env).locals != (compEnvC cscope cl C env).globals)) = false := by rfl) :
    wpAny (model pw w) A (assign (.Name x pos) (compEnvC cscope cl C env) v) Q E s :=
  wpAny_assign_Name (wpAny_storeName_local (env := compEnvC cscope cl C env) hl F.ns (fun h' hn hs => h h' (F.set hn hs) (N.set hs)) hp)
end
theorem not_sys {mean : ExcName → Option Value} {mg mb : Str → Option Value} {h : Heap} {D : Addr} (W : WG mean mg mb h) (hD : h.objs.size ≤ D) : (D == sysModules) = false := by
  have h1 : mainGlobals < h.objs.size := W.T.g.lt
  have h2 : sysModules ≤ mainGlobals := by decide
  exact beq_eq_false_iff_ne.mpr (Nat.ne_of_gt (Nat.lt_of_le_of_lt h2 (Nat.lt_of_lt_of_le h1 hD)))
theorem size_ge {h h' : Heap} {L : Addr} {m : Str → Option Value} (F : Fr h L h' m) : h.objs.size ≤ h'.objs.size := Nat.le_of_lt (Nat.lt_of_le_of_lt F.above F.ns.lt)
section
variable {w : World} {A : Around} {s : Shared} {E : Value → Shared → Prop}
theorem SrcU.list {h1 : Heap} {tk : Nat} {a : Addr} {items : Array Value} (hh : A.handled = none) (hl : h1.IsList a items) (hk : ∀ b o, s.heap.get? b = some o → h1.get? b = some o) (hs : s.heap.objs.size ≤ h1.objs.size) (hsz : items.size ≤ sizeLine) :
    SrcU pw w A s { s with heap := h1.push { cls := .type "list_iterator", data := .fields #[.ref a, .int 0 0] }, toks := tk } h1.objs.size [h1.objs.size, a] [h1.objs.size] items.size (fun i v => items[i]? = some v) (fun i h => h.IsListIter h1.objs.size a i ∧ h.IsList a items) := by
  obtain ⟨oa, hoa, _⟩ := id hl
  have hlt := Heap.lt_size hoa
  refine ⟨Walks.list hh _ a (Nat.ne_of_lt hlt) items, hsz, ⟨⟨_, Heap.get?_push_size _ rfl, rfl, rfl⟩, hl.at fun o e => Heap.get?_push_of_some _ e⟩, fun b hb => ?_, fun b hb => ?_, ⟨_, _, rfl⟩, fun b o e => Heap.get?_push_of_some _ (hk b o e)⟩
  · show b < (h1.push _).objs.size
    rw [Heap.size_push]
    rcases List.mem_cons.mp hb with rfl | hb
    · exact Nat.lt_succ_self _
    · rw [List.mem_singleton.mp hb]; exact Nat.lt_succ_of_lt hlt
  · rw [List.mem_singleton.mp hb]; exact fresh_at hs
theorem SrcU.keys {h1 : Heap} {tk : Nat} {d : Addr} {K : Type} [DecidableEq K] {knd : PySem.KeyKind pw w K} {kvs : List (K × Value)} {ep : Nat} (hh : A.handled = none) (hd : h1.DictAt knd d kvs ep) (hk : ∀ b o, s.heap.get? b = some o → h1.get? b = some o) (hs : s.heap.objs.size ≤ h1.objs.size) (hsz : kvs.length ≤ sizeLine) :
    SrcU pw w A s { s with heap := h1.push { cls := .type "dict_keyiterator", data := .fields #[.ref d, .int 0 0, .int kvs.length 0, .int ep 0] }, toks := tk } h1.objs.size [h1.objs.size, d] [h1.objs.size] kvs.length (fun i v => ∃ k x, kvs[i]? = some (k, x) ∧ knd.is k v = true) (fun i h => h.IsKeyIter h1.objs.size d i kvs.length ep ∧ h.DictAt knd d kvs ep) := by
  have hlt := hd.lt_size
  refine ⟨Walks.dictKeys hh _ d (Nat.ne_of_lt hlt) kvs ep, hsz, ⟨⟨_, Heap.get?_push_size _ rfl, rfl, rfl⟩, hd.push _⟩, fun b hb => ?_, fun b hb => ?_, ⟨_, _, rfl⟩, fun b o e => Heap.get?_push_of_some _ (hk b o e)⟩
  · show b < (h1.push _).objs.size
    rw [Heap.size_push]
    rcases List.mem_cons.mp hb with rfl | hb
    · exact Nat.lt_succ_self _
    · rw [List.mem_singleton.mp hb]; exact Nat.lt_succ_of_lt hlt
  · rw [List.mem_singleton.mp hb]; exact fresh_at hs
theorem SrcU.range {h1 : Heap} {tk : Nat} {n : Nat} (hh : A.handled = none) (hk : ∀ b o, s.heap.get? b = some o → h1.get? b = some o) (hs : s.heap.objs.size ≤ h1.objs.size) (hsz : n ≤ sizeLine) :
    SrcU pw w A s { s with heap := h1.push { cls := .type "range_iterator", data := .fields #[rawInt 0, rawInt n, rawInt 1] }, toks := tk } h1.objs.size [h1.objs.size] [h1.objs.size] n (fun i v => ∃ t, v = .int (0 + (i : Int)) t) (fun i h => IsRangeIter h h1.objs.size (0 + (i : Nat) * 1) ((n : Int) - (i : Nat)) 1) := by
  refine ⟨LCg.range_walks hh 0 n, hsz, ?_, fun b hb => ?_, fun b hb => ?_, ⟨_, _, rfl⟩, fun b o e => Heap.get?_push_of_some _ (hk b o e)⟩
  · exact Heap.get?_push_size _ rfl
  · show b < (h1.push _).objs.size
    rw [Heap.size_push, List.mem_singleton.mp hb]
    exact Nat.lt_succ_self _
  · rw [List.mem_singleton.mp hb]; exact fresh_at hs
theorem letGo_name {target : Expr} {it v : Value} {Q : Unit → Shared → Prop} (ht : letOwnedTupleGo target it v = pure ()) (h : Q () s) : wpAny (model pw w) A (letOwnedTupleGo target it v) Q E s := wpAny_of_eq ht h
end
section
variable {w : World} {A : Around} {s : Shared} {env : Env} {h₀ : Heap} {E : Value → Shared → Prop} {Q : Flow → Shared → Prop} {m : Str → Option Value} {news : List (Addr × Obj)}
theorem for_str {tgt iter : Expr} {pos : Pos} {body : List Stmt} {y : Str} {t : Tok}
    (hh : A.handled = none) (F : Fr h₀ env.locals s.heap m) (N : News h₀ env.locals s.heap news)
    (ho : ∀ Q' : Value → Shared → Prop, (∀ k, Q' (.str y t) { s with toks := k }) → wpAny (model pw w) A (eval iter env) Q' E s)
    (J : Nat → (Str → Option Value) → List (Addr × Obj) → Prop) (h0 : J 0 m news)
    (step : ∀ i c u m₁ news₁ s₁ it oi, y.cps[i]? = some c → J i m₁ news₁ → (∀ p ∈ news₁, p.1 ≠ it) → (∀ v, oi.data ≠ .cell v) → Fr h₀ env.locals s₁.heap m₁ → News h₀ env.locals s₁.heap ((it, oi) :: news₁) →
      wpAny (model pw w) A (assign tgt env (.str ⟨#[c]⟩ u)) (fun _ s₃ => wpAny (model pw w) A (execs body env) (LoopStepU h₀ env.locals [it] [(it, oi)] (J (i + 1)) s₁) E s₃) E s₁)
    (hQ : ∀ h' tk m' news', Fr h₀ env.locals h' m' → News h₀ env.locals h' news' → J y.cps.size m' news' → Q .next { s with heap := h', toks := tk })
    (hg : ∀ it v, letOwnedTupleGo tgt it v = pure () := by intro _ _; rfl)
    (hs : ∀ x, foldedSetIterable iter env x = pure x := by intro _; rfl)
    (hE : PassesOwn (model pw w) A env E := by passes_own) :
    wpAny (model pw w) A (exec (.For tgt iter body [] pos) env) Q E s := by
  refine For_invT h₀ (ho _ fun k => ?_) hs hE
  have main : ∀ ty, (∀ A' : Around, A'.handled = none → Walks pw w A' s.heap.objs.size [s.heap.objs.size] [s.heap.objs.size] y.cps.size (SignAt y) (fun i h => h.IsStrIter s.heap.objs.size ty y t i)) →
      LoopAtT pw w A h₀ env tgt body Q E (.ref s.heap.objs.size) { s with heap := s.heap.push { cls := .type ty, data := .fields #[.str y t, .int 0 0] }, toks := k } := by
    intro ty W
    refine ⟨_, [_], [_], y.cps.size, _, _, m, news, J, rfl, W A hh, ?_, ?_, ?_, ⟨_, Heap.get?_push_size _ rfl, rfl, rfl⟩, F.push _, fun p hp => ⟨Heap.get?_push_of_some _ (N p hp).1, (N p hp).2⟩, fun i s' v Q' _ h => wpAny_of_eq (hg _ _) h, h0, ?_, ?_⟩
    · intro hm
      exact absurd F.ns.lt ((List.mem_singleton.mp hm) ▸ Nat.lt_irrefl _)
    · intro b hb
      rw [List.mem_singleton.mp hb]
      exact next_is_new F
    · intro p hp hI
      exact absurd (Heap.lt_size (N p hp).1) ((List.mem_singleton.mp hI) ▸ Nat.lt_irrefl _)
    · rintro i v m₁ news₁ s₁ own hi ⟨c, u, hc, rfl⟩ hJ hoff hsub hget hall ⟨oi, hoi, hci, hdi⟩ F₁ N₁
      have hown := hall s.heap.objs.size (.head _) (next_is_new F) oi hoi
      have N₂ : News h₀ env.locals s₁.heap ((s.heap.objs.size, oi) :: news₁) := fun p hp => by
        rcases List.mem_cons.mp hp with rfl | hp
        · exact N₁ _ (List.mem_append_left _ hown)
        · exact N₁ _ (List.mem_append_right _ hp)
      refine wpAny_mono (step i c u m₁ news₁ s₁ _ oi hc hJ (fun p hp e => hoff p hp (List.mem_singleton.mpr e)) (by rw [hdi]; nofun) F₁ N₂) (fun _ s₃ h₃ => wpAny_mono h₃ (fun f s₄ h₄ => ?_) fun _ _ e => e) fun _ _ e => e
      obtain ⟨rfl, h', tk, m₂, news₂, rfl, F₂, N₃, ha, hJ₂⟩ := h₄
      refine LoopStepU.intro F₂ (fun p hp => ?_) ha hJ₂
      rcases List.mem_append.mp hp with hp | hp
      · have e : p.1 = s.heap.objs.size := List.mem_singleton.mp (hsub p hp)
        have := hget p hp
        rw [e, hoi] at this
        have e2 : p = (s.heap.objs.size, oi) := Prod.ext e (Option.some.inj this).symm
        rw [e2]; exact N₃ _ (.head _)
      · exact N₃ _ (.tail _ hp)
    · intro h' tk m' news' F' N' _ hJ
      exact hQ h' tk m' news' F' N' hJ
  cases ha : y.cps.all (· < 128)
  · exact wpAny_pyIter_wide ha (main "str_iterator" fun A' hA => Walks.strWide hA _ y t)
  · exact wpAny_pyIter_ascii ha (main "str_ascii_iterator" fun A' hA => Walks.strAscii hA _ y t)
theorem for_list {tgt iter : Expr} {pos : Pos} {body : List Stmt} {l : Addr} {items : Array Value}
    (hh : A.handled = none) (F : Fr h₀ env.locals s.heap m) (N : News h₀ env.locals s.heap news) (hl : h₀.IsList l items)
    (ho : ∀ Q' : Value → Shared → Prop, Q' (.ref l) s → wpAny (model pw w) A (eval iter env) Q' E s)
    (J : Nat → (Str → Option Value) → List (Addr × Obj) → Prop) (h0 : J 0 m news)
    (step : ∀ i v m₁ news₁ s₁ it oi, items[i]? = some v → J i m₁ news₁ → (∀ p ∈ news₁, p.1 ≠ it) → (∀ v, oi.data ≠ .cell v) → Fr h₀ env.locals s₁.heap m₁ → News h₀ env.locals s₁.heap ((it, oi) :: news₁) →
      wpAny (model pw w) A (assign tgt env v) (fun _ s₃ => wpAny (model pw w) A (execs body env) (LoopStepU h₀ env.locals [it] [(it, oi)] (J (i + 1)) s₁) E s₃) E s₁)
    (hQ : ∀ h' tk m' news', Fr h₀ env.locals h' m' → News h₀ env.locals h' news' → J items.size m' news' → Q .next { s with heap := h', toks := tk })
    (hs : ∀ x, foldedSetIterable iter env x = pure x := by intro _; rfl)
    (hE : PassesOwn (model pw w) A env E := by passes_own) :
    wpAny (model pw w) A (exec (.For tgt iter body [] pos) env) Q E s := by
  obtain ⟨ol, hol, _⟩ := id hl
  have hls : s.heap.IsList l items := hl.at fun o e => F.keep l o e
  have hlt : l < h₀.objs.size := Heap.lt_size hol
  have hne : l ≠ s.heap.objs.size := Nat.ne_of_lt (Nat.lt_trans (Nat.lt_of_lt_of_le hlt F.above) F.ns.lt)
  refine For_invT h₀ (ho _ (wpAny_pyIter_list hls ?_)) hs hE
  refine ⟨_, [_, l], [_], items.size, _, _, m, news, J, rfl, Walks.list hh _ l hne items, ?_, ?_, ?_, ⟨⟨_, Heap.get?_push_size _ rfl, rfl, rfl⟩, hls.at fun o e => Heap.get?_push_of_some _ e⟩, F.push _, fun p hp => ⟨Heap.get?_push_of_some _ (N p hp).1, (N p hp).2⟩,
    fun i s' v Q' st hQ' => letGo_listiter st.1 hQ', h0, ?_, ?_⟩
  · intro hm
    rcases List.mem_cons.mp hm with e | hm
    · exact absurd F.ns.lt (e ▸ Nat.lt_irrefl _)
    · exact absurd (Nat.lt_of_lt_of_le hlt F.above) ((List.mem_singleton.mp hm) ▸ Nat.lt_irrefl _)
  · intro b hb
    rw [List.mem_singleton.mp hb]
    exact next_is_new F
  · intro p hp hI
    exact absurd (Heap.lt_size (N p hp).1) ((List.mem_singleton.mp hI) ▸ Nat.lt_irrefl _)
  · rintro i v m₁ news₁ s₁ own hi hv hJ hoff hsub hget hall ⟨⟨oi, hoi, hci, hdi⟩, _⟩ F₁ N₁
    have hown := hall s.heap.objs.size (.head _) (next_is_new F) oi hoi
    have N₂ : News h₀ env.locals s₁.heap ((s.heap.objs.size, oi) :: news₁) := fun p hp => by
      rcases List.mem_cons.mp hp with rfl | hp
      · exact N₁ _ (List.mem_append_left _ hown)
      · exact N₁ _ (List.mem_append_right _ hp)
    refine wpAny_mono (step i v m₁ news₁ s₁ _ oi hv hJ (fun p hp e => hoff p hp (List.mem_singleton.mpr e)) (by rw [hdi]; nofun) F₁ N₂) (fun _ s₃ h₃ => wpAny_mono h₃ (fun f s₄ h₄ => ?_) fun _ _ e => e) fun _ _ e => e
    obtain ⟨rfl, h', tk, m₂, news₂, rfl, F₂, N₃, ha, hJ₂⟩ := h₄
    refine LoopStepU.intro F₂ (fun p hp => ?_) ha hJ₂
    rcases List.mem_append.mp hp with hp | hp
    · rcases List.mem_cons.mp (hsub p hp) with e | e
      · have := hget p hp
        rw [e, hoi] at this
        have e2 : p = (s.heap.objs.size, oi) := Prod.ext e (Option.some.inj this).symm
        rw [e2]; exact N₃ _ (.head _)
      · have := (N₁ p (List.mem_append_left _ hp)).2.2
        rw [List.mem_singleton.mp e, hol] at this
        cases this
    · exact N₃ _ (.tail _ hp)
  · intro h' tk m' news' F' N' _ hJ
    exact hQ h' tk m' news' F' N' hJ
theorem for_range {tgt iter : Expr} {pos : Pos} {body : List Stmt} {n : Nat}
    (hh : A.handled = none)
    (J : Nat → (Str → Option Value) → List (Addr × Obj) → Prop)
    (ho : wpAny (model pw w) A (eval iter env) (fun v s₁ => ∃ h₁ tk r t u x, s₁ = { s with heap := h₁, toks := tk } ∧ v = .ref r ∧ IsRange h₁ r 0 n 1 t u x ∧ Builtin.Range.small 0 n 1 = true ∧ Builtin.Range.rangeSize 0 n 1 = n ∧ ∃ m news, Fr h₀ env.locals h₁ m ∧ News h₀ env.locals h₁ news ∧ J 0 m news) E s)
    (step : ∀ i u m₁ news₁ s₁ it oi, i < n → J i m₁ news₁ → (∀ p ∈ news₁, p.1 ≠ it) → (∀ v, oi.data ≠ .cell v) → Fr h₀ env.locals s₁.heap m₁ → News h₀ env.locals s₁.heap ((it, oi) :: news₁) →
      wpAny (model pw w) A (assign tgt env (.int i u)) (fun _ s₃ => wpAny (model pw w) A (execs body env) (LoopStepU h₀ env.locals [it] [(it, oi)] (J (i + 1)) s₁) E s₃) E s₁)
    (hQ : ∀ h' tk m' news', Fr h₀ env.locals h' m' → News h₀ env.locals h' news' → J n m' news' → Q .next { s with heap := h', toks := tk })
    (hg : ∀ it v, letOwnedTupleGo tgt it v = pure () := by intro _ _; rfl)
    (hs : ∀ x, foldedSetIterable iter env x = pure x := by intro _; rfl)
    (hE : PassesOwn (model pw w) A env E := by passes_own) :
    wpAny (model pw w) A (exec (.For tgt iter body [] pos) env) Q E s := by
  refine For_invT h₀ (wpAny_mono ho (fun v s₁ h₁ => ?_) fun _ _ e => e) hs hE
  obtain ⟨h₁, tk, r, t, u, x, rfl, rfl, hr, hsm, hrs, m, news, F, N, h0⟩ := h₁
  refine wpAny_pyIter_range hr hsm ?_
  rw [hrs]
  refine ⟨_, [_], [_], n, _, _, m, news, J, rfl, LCg.range_walks hh 0 n, ?_, ?_, ?_, Heap.get?_push_size _ rfl, F.push _, fun p hp => ⟨Heap.get?_push_of_some _ (N p hp).1, (N p hp).2⟩,
    fun i s' v Q' _ h => wpAny_of_eq (hg _ _) h, h0, ?_, ?_⟩
  · intro hm
    exact absurd F.ns.lt ((List.mem_singleton.mp hm) ▸ Nat.lt_irrefl _)
  · intro b hb
    rw [List.mem_singleton.mp hb]
    exact next_is_new F
  · intro p hp hI
    exact absurd (Heap.lt_size (N p hp).1) ((List.mem_singleton.mp hI) ▸ Nat.lt_irrefl _)
  · rintro i v m₁ news₁ s₁ own hi ⟨t', rfl⟩ hJ hoff hsub hget hall hoi F₁ N₁
    have hoi' : s₁.heap.get? h₁.objs.size = some _ := hoi
    have hown := hall h₁.objs.size (.head _) (next_is_new F) _ hoi'
    have N₂ : News h₀ env.locals s₁.heap ((h₁.objs.size, _) :: news₁) := fun p hp => by
      rcases List.mem_cons.mp hp with rfl | hp
      · exact N₁ _ (List.mem_append_left _ hown)
      · exact N₁ _ (List.mem_append_right _ hp)
    rw [Int.zero_add]
    refine wpAny_mono (step i t' m₁ news₁ s₁ _ _ hi hJ (fun p hp e => hoff p hp (List.mem_singleton.mpr e)) (by nofun) F₁ N₂) (fun _ s₃ h₃ => wpAny_mono h₃ (fun f s₄ h₄ => ?_) fun _ _ e => e) fun _ _ e => e
    obtain ⟨rfl, h', tk, m₂, news₂, rfl, F₂, N₃, ha, hJ₂⟩ := h₄
    refine LoopStepU.intro F₂ (fun p hp => ?_) ha hJ₂
    rcases List.mem_append.mp hp with hp | hp
    · have e : p.1 = h₁.objs.size := List.mem_singleton.mp (hsub p hp)
      have := hget p hp
      rw [e, hoi'] at this
      have e2 : p = (h₁.objs.size, _) := Prod.ext e (Option.some.inj this).symm
      rw [e2]; exact N₃ _ (.head _)
    · exact N₃ _ (.tail _ hp)
  · intro h' tk m' news' F' N' _ hJ
    exact hQ h' tk m' news' F' N' hJ
end
open PySem PySem.W PyProof.Rows
theorem putI_new {l : List (Str × Int)} {k : Str} {n : Int} (h : k ∉ l.map (·.1)) : putI l k n = l ++ [(k, n)] := by
  unfold putI
  rw [if_neg]
  intro hc
  obtain ⟨e, he, hk⟩ := List.any_eq_true.mp hc
  exact h (List.mem_map.mpr ⟨e, he, of_decide_eq_true hk⟩)
theorem putI_old {l : List (Str × Int)} {k : Str} {n : Int} (h : k ∈ l.map (·.1)) : putI l k n = l.map (fun kv => if kv.1 = k then (kv.1, n) else kv) := by
  unfold putI
  rw [if_pos]
  obtain ⟨e, he, hk⟩ := List.mem_map.mp h
  exact List.any_eq_true.mpr ⟨e, he, decide_eq_true hk⟩
theorem keys_putI_old {l : List (Str × Int)} {k : Str} {n : Int} (h : k ∈ l.map (·.1)) : (putI l k n).map (·.1) = l.map (·.1) := by
  rw [putI_old h, List.map_map]
  apply List.map_congr_left
  intro e _
  simp only [Function.comp]
  split <;> rfl
theorem fold_put_aux : ∀ (l acc : List (Str × Int)), ((acc ++ l).map (·.1)).Nodup → l.foldl (fun acc e => putI acc e.1 e.2) acc = acc ++ l
  | [], acc, _ => by simp
  | e :: l, acc, h => by
    have hk : e.1 ∉ acc.map (·.1) := by
      rw [List.map_append, List.map_cons] at h
      have := (List.nodup_append.mp h).2.2
      intro hc
      exact this _ hc _ (.head _) rfl
    rw [List.foldl_cons, putI_new hk, fold_put_aux l (acc ++ [(e.1, e.2)]) (by simpa using h)]
    simp
theorem fold_put {l : List (Str × Int)} (h : (l.map (·.1)).Nodup) : l.foldl (fun acc e => putI acc e.1 e.2) [] = l := by
  have := fold_put_aux l [] (by simpa using h)
  simpa using this
theorem getI_mem {l : List (Str × Int)} {k : Str} {n : Int} (hn : (l.map (·.1)).Nodup) (h : (k, n) ∈ l) : getI l k = some n := by
  induction l with
  | nil => cases h
  | cons e l ih =>
    unfold getI at *
    rw [List.map_cons, List.nodup_cons] at hn
    rcases List.mem_cons.mp h with rfl | h
    · simp
    · have hne : e.1 ≠ k := fun hc => hn.1 (hc ▸ List.mem_map.mpr ⟨(k, n), h, rfl⟩)
      rw [List.find?_cons_of_neg (by simpa using hne)]
      exact ih hn.2 h
theorem getI_none {l : List (Str × Int)} {k : Str} (h : k ∉ l.map (·.1)) : getI l k = none := by
  unfold getI
  rw [List.find?_eq_none.mpr]
  · rfl
  · intro e he hc
    exact h (List.mem_map.mpr ⟨e, he, of_decide_eq_true hc⟩)
theorem put_add {α : Type} (nm : α → Str) (f : α → Int) (T : List α) (hn : (T.map nm).Nodup) (k : Str) (d : Int) (hk : k ∈ T.map nm) :
    putI (T.map fun e => (nm e, f e)) k ((getI (T.map fun e => (nm e, f e)) k).getD 0 + d) = T.map fun e => (nm e, if nm e = k then f e + d else f e) := by
  have hm : (T.map fun e => (nm e, f e)).map (·.1) = T.map nm := by rw [List.map_map]; rfl
  rw [putI_old (by rw [hm]; exact hk), List.map_map]
  apply List.map_congr_left
  intro e he
  simp only [Function.comp]
  by_cases hc : nm e = k
  · have : getI (T.map fun e => (nm e, f e)) k = some (f e) := getI_mem (by rw [hm]; exact hn) (List.mem_map.mpr ⟨e, he, by rw [hc]⟩)
    rw [if_pos hc, if_pos hc, this]
    rfl
  · rw [if_neg hc, if_neg hc]
theorem addI_at {α : Type} (nm : α → Str) (T : List α) (hn : (T.map nm).Nodup) (d : Int) : ∀ (xs : List Str) (f : α → Int), xs.Nodup → (∀ x ∈ xs, x ∈ T.map nm) →
    addI (T.map fun e => (nm e, f e)) (xs.map fun x => (x, d)) = T.map fun e => (nm e, if nm e ∈ xs then f e + d else f e)
  | [], f, _, _ => by simp [addI]
  | x :: xs, f, hx, hs => by
    rw [List.nodup_cons] at hx
    unfold addI
    rw [List.map_cons, List.foldl_cons, put_add nm f T hn x d (hs x (.head _))]
    have := addI_at nm T hn d xs (fun e => if nm e = x then f e + d else f e) hx.2 (fun y hy => hs y (.tail _ hy))
    unfold addI at this
    rw [this]
    apply List.map_congr_left
    intro e _
    congr 1
    by_cases h1 : nm e = x
    · have h2 : nm e ∉ xs := h1 ▸ hx.1
      rw [if_neg h2, if_pos h1, if_pos (h1 ▸ .head _)]
    · by_cases h2 : nm e ∈ xs
      · rw [if_pos h2, if_neg h1, if_pos (.tail _ h2)]
      · rw [if_neg h2, if_neg h1, if_neg (fun h => by rcases List.mem_cons.mp h with h | h <;> contradiction)]
structure Tie where
  nm : Str
  a : Str
  b : Str
  w : Int
noncomputable def tasksL : List Str := ["k", "m", "s", "v"]
noncomputable def bump (c : Str → Int) (t : Str) : Str → Int := fun x => if x = t then c x + 1 else c x
noncomputable def mk (c : Str → Int) (e : Tie) : Int := e.w + c e.a - c e.b
noncomputable def marksAt (T : List Tie) (c : Str → Int) : List (Str × Int) := T.map fun e => (e.nm, mk c e)
inductive Reach (T : List Tie) (Lf : Str → Int) : (Str → Int) → Prop
  | zero : Reach T Lf (fun _ => 0)
  | step {c : Str → Int} {t : Str} : Reach T Lf c → t ∈ tasksL → c t < Lf t → (∀ e ∈ T, e.b = t → mk c e ≠ 0) → Reach T Lf (bump c t)
noncomputable def CInv (C : List (Str × Int)) (c : Str → Int) : Prop :=
  ∃ ks : List Str, ks.Nodup ∧ (∀ t ∈ ks, t ∈ tasksL) ∧ C = ks.map (fun t => (t, c t)) ∧ (∀ t ∈ ks, 0 < c t) ∧ ∀ t, t ∉ ks → c t = 0
structure GoodT (T : List Tie) : Prop where
  nodup : (T.map Tie.nm).Nodup
  nm : ∀ e ∈ T, ∃ ca cb d, e.a = ⟨#[ca]⟩ ∧ e.b = ⟨#[cb]⟩ ∧ e.nm = ⟨#[ca, 58, d, 40, cb, 41]⟩
  ta : ∀ e ∈ T, e.a ∈ tasksL
  tb : ∀ e ∈ T, e.b ∈ tasksL
theorem length_sub {α : Type} [DecidableEq α] : ∀ (l m : List α), l.Nodup → (∀ x ∈ l, x ∈ m) → l.length ≤ m.length
  | [], _, _, _ => Nat.zero_le _
  | x :: l, m, hn, hs => by
    rw [List.nodup_cons] at hn
    have hx : x ∈ m := hs x (.head _)
    have := length_sub l (m.erase x) hn.2 (fun y hy => (List.mem_erase_of_ne (show y ≠ x from fun e => hn.1 (e ▸ hy))).mpr (hs y (.tail _ hy)))
    rw [List.length_erase_of_mem hx] at this
    have hp : 0 < m.length := List.length_pos_of_mem hx
    simp only [List.length_cons]
    omega
theorem CInv.keys {C : List (Str × Int)} {c : Str → Int} (h : CInv C c) : (C.map (·.1)).Nodup ∧ C.length ≤ 4 := by
  obtain ⟨ks, h1, h2, rfl, _, _⟩ := h
  refine ⟨by rw [List.map_map]; simpa [Function.comp_def] using h1, ?_⟩
  rw [List.length_map]
  exact length_sub ks tasksL h1 h2
theorem CInv.get {C : List (Str × Int)} {c : Str → Int} (h : CInv C c) (t : Str) : (getI C t).getD 0 = c t := by
  have hk := h.keys.1
  obtain ⟨ks, h1, h2, rfl, h3, h4⟩ := h
  by_cases ht : t ∈ ks
  · rw [getI_mem hk (List.mem_map.mpr ⟨t, ht, rfl⟩)]; rfl
  · rw [getI_none (by rw [List.map_map]; simpa [Function.comp_def] using ht), h4 t ht]; rfl
theorem CInv.nil : CInv [] (fun _ => 0) := ⟨[], List.nodup_nil, nofun, rfl, nofun, fun _ _ => rfl⟩
theorem CInv.bump {C : List (Str × Int)} {c : Str → Int} (h : CInv C c) {t : Str} (ht : t ∈ tasksL) : CInv (addI C [(t, 1)]) (bump c t) := by
  have hk := h.keys.1
  have hg := h.get t
  obtain ⟨ks, h1, h2, rfl, h3, h4⟩ := h
  unfold addI
  simp only [List.foldl_cons, List.foldl_nil]
  by_cases hm : t ∈ ks
  · rw [put_add (fun t => t) c ks (by simpa using h1) t 1 (by simpa using hm)]
    refine ⟨ks, h1, h2, ?_, fun x hx => ?_, fun x hx => ?_⟩
    · apply List.map_congr_left
      intro x _
      simp only [Mine.bump]
    · unfold Mine.bump
      have := h3 x hx
      split <;> omega
    · unfold Mine.bump
      rw [if_neg (show ¬ x = t from fun e => hx (e ▸ hm))]
      exact h4 x hx
  · rw [hg, h4 t hm, putI_new (by rw [List.map_map]; simpa [Function.comp_def] using hm)]
    refine ⟨ks ++ [t], List.nodup_append.mpr ⟨h1, by simp, fun x hx y hy e => hm (by rw [List.mem_singleton.mp hy] at e; exact e ▸ hx)⟩, fun x hx => ?_, ?_, fun x hx => ?_, fun x hx => ?_⟩
    · rcases List.mem_append.mp hx with hx | hx
      · exact h2 x hx
      · rw [List.mem_singleton.mp hx]; exact ht
    · rw [List.map_append, List.map_cons, List.map_nil]
      congr 1
      · apply List.map_congr_left
        intro x hx
        unfold Mine.bump
        rw [if_neg (show ¬ x = t from fun e => hm (e ▸ hx))]
      · unfold Mine.bump
        rw [if_pos rfl, h4 t hm]
    · unfold Mine.bump
      rcases List.mem_append.mp hx with hx | hx
      · have := h3 x hx
        split <;> omega
      · rw [List.mem_singleton.mp hx, if_pos rfl, h4 t hm]; omega
    · unfold Mine.bump
      rw [if_neg (show ¬ x = t from fun e => hx (List.mem_append_right _ (by simp [e])))]
      exact h4 x (fun h => hx (List.mem_append_left _ h))
theorem marks_keys {T : List Tie} (c : Str → Int) (h : (T.map Tie.nm).Nodup) : ((marksAt T c).map (·.1)).Nodup := by
  unfold marksAt; rw [List.map_map]; exact h
theorem names_mem {T : List Tie} (h : (T.map Tie.nm).Nodup) (p : Tie → Bool) {e : Tie} (he : e ∈ T) : e.nm ∈ (T.filter p).map Tie.nm ↔ p e = true := by
  constructor
  · intro hm
    obtain ⟨e', he', hn⟩ := List.mem_map.mp hm
    obtain ⟨h1, h2⟩ := List.mem_filter.mp he'
    have : ∀ (T : List Tie), (T.map Tie.nm).Nodup → ∀ x ∈ T, ∀ y ∈ T, x.nm = y.nm → x = y := by
      intro T
      induction T with
      | nil => intro _ x hx; cases hx
      | cons z T ih =>
        intro hn x hx y hy e
        rw [List.map_cons, List.nodup_cons] at hn
        rcases List.mem_cons.mp hx with rfl | hx <;> rcases List.mem_cons.mp hy with rfl | hy
        · rfl
        · exact absurd (List.mem_map.mpr ⟨y, hy, e.symm⟩) hn.1
        · exact absurd (List.mem_map.mpr ⟨x, (by assumption : x ∈ T), e⟩) hn.1
        · exact ih hn.2 x hx y hy e
    rw [← this T h e' h1 e he hn]; exact h2
  · intro hp
    exact List.mem_map.mpr ⟨e, List.mem_filter.mpr ⟨he, hp⟩, rfl⟩
theorem filter_nodup {T : List Tie} (h : (T.map Tie.nm).Nodup) (p : Tie → Bool) : ((T.filter p).map Tie.nm).Nodup :=
  List.Nodup.sublist (List.Sublist.map _ List.filter_sublist) h
theorem marks_bump {T : List Tie} (hT : (T.map Tie.nm).Nodup) (c : Str → Int) (t : Str) :
    addI (addI (marksAt T c) (((T.filter fun e => e.b == t).map Tie.nm).map fun x => (x, -1))) (((T.filter fun e => e.a == t).map Tie.nm).map fun x => (x, 1)) = marksAt T (bump c t) := by
  unfold marksAt
  rw [addI_at Tie.nm T hT (-1) _ _ (filter_nodup hT _) (fun x hx => by obtain ⟨e, he, rfl⟩ := List.mem_map.mp hx; exact List.mem_map.mpr ⟨e, (List.mem_filter.mp he).1, rfl⟩)]
  rw [addI_at Tie.nm T hT 1 _ _ (filter_nodup hT _) (fun x hx => by obtain ⟨e, he, rfl⟩ := List.mem_map.mp hx; exact List.mem_map.mpr ⟨e, (List.mem_filter.mp he).1, rfl⟩)]
  apply List.map_congr_left
  intro e he
  congr 1
  simp only [names_mem hT _ he, beq_iff_eq, mk, bump]
  by_cases h1 : e.b = t <;> by_cases h2 : e.a = t <;> simp only [h1, h2, if_true, if_false] <;> omega
noncomputable def sumT (c : Str → Int) : Int := (tasksL.map c).sum
noncomputable def sumA (T : List Tie) (c : Str → Int) : Int := (T.map fun e => c e.a).sum
noncomputable def sumB (T : List Tie) (c : Str → Int) : Int := (T.map fun e => c e.b).sum
noncomputable def remL (Lf c : Str → Int) : Nat := ((tasksL.map fun t => Lf t - c t).sum).toNat
theorem sum_bump (c : Str → Int) (t : Str) : ∀ l : List Str, (l.map (bump c t)).sum = ((l.filter fun x => x == t).length : Int) + (l.map c).sum
  | [] => by simp
  | x :: l => by
    rw [List.map_cons, List.sum_cons, sum_bump c t l, List.map_cons, List.sum_cons]
    unfold bump
    by_cases h : x = t
    · rw [if_pos h, List.filter_cons_of_pos (by simpa using h), List.length_cons]; push_cast; omega
    · rw [if_neg h, List.filter_cons_of_neg (by simpa using h)]; omega
theorem filter_map_len {α : Type} (f : α → Str) (t : Str) (l : List α) : ((l.map f).filter fun x => x == t).length = (l.filter fun e => f e == t).length := by
  rw [List.filter_map, List.length_map]; rfl
theorem sumA_bump (T : List Tie) (c : Str → Int) (t : Str) : sumA T (bump c t) = ((T.filter fun e => e.a == t).length : Int) + sumA T c := by
  have := sum_bump c t (T.map Tie.a)
  rw [filter_map_len, List.map_map, List.map_map] at this
  exact this
theorem sumB_bump (T : List Tie) (c : Str → Int) (t : Str) : sumB T (bump c t) = ((T.filter fun e => e.b == t).length : Int) + sumB T c := by
  have := sum_bump c t (T.map Tie.b)
  rw [filter_map_len, List.map_map, List.map_map] at this
  exact this
theorem one_of {t : Str} (h : t ∈ tasksL) : (tasksL.filter fun x => x == t).length = 1 := by
  unfold tasksL at *
  simp only [List.mem_cons, List.not_mem_nil, or_false] at h
  rcases h with rfl | rfl | rfl | rfl <;> decide +kernel
theorem sumT_bump (c : Str → Int) {t : Str} (h : t ∈ tasksL) : sumT (bump c t) = 1 + sumT c := by
  unfold sumT
  rw [sum_bump, one_of h]; rfl
theorem sum_sub (f g : Str → Int) : ∀ l : List Str, (l.map fun t => f t - g t).sum = (l.map f).sum - (l.map g).sum
  | [] => by simp
  | x :: l => by simp only [List.map_cons, List.sum_cons, sum_sub f g l]; omega
theorem sum_le {f g : Str → Int} : ∀ l : List Str, (∀ t ∈ l, f t ≤ g t) → (l.map f).sum ≤ (l.map g).sum
  | [], _ => by simp
  | x :: l, h => by
    have := sum_le l (fun t ht => h t (.tail _ ht))
    have := h x (.head _)
    simp only [List.map_cons, List.sum_cons]; omega
theorem Reach.le {T : List Tie} {Lf c : Str → Int} (hL : ∀ t, 0 ≤ Lf t) (h : Reach T Lf c) : ∀ t, 0 ≤ c t ∧ c t ≤ Lf t := by
  induction h with
  | zero => exact fun t => ⟨Int.le_refl _, hL t⟩
  | @step c t _ ht hlt _ ih =>
    intro x
    have := ih x
    unfold bump
    split
    · next e => subst e; omega
    · exact this
theorem rem_bump {T : List Tie} {Lf c : Str → Int} (hL : ∀ t, 0 ≤ Lf t) {t : Str} (h : Reach T Lf (bump c t)) (ht : t ∈ tasksL) : remL Lf (bump c t) < remL Lf c := by
  unfold remL
  have h1 := sum_le (f := bump c t) (g := Lf) tasksL (fun x _ => (h.le hL x).2)
  have h2 := sumT_bump c ht
  unfold sumT at h2
  rw [sum_sub, sum_sub]
  omega
noncomputable def Enabled (T : List Tie) (Lf c : Str → Int) (t : Str) : Prop := c t < Lf t ∧ ∀ e ∈ T, e.b = t → mk c e ≠ 0
noncomputable def SumsOk (T : List Tie) (c : Str → Int) (k1 k2 k3 k4 : Int) : Prop := k1 = sumT c ∧ k2 = sumB T c ∧ k3 = sumA T c ∧ k4 = sumA T c - sumB T c
end Mine
namespace Mine
open PySem PySem.W PyProof.Rows PySem.Calls PySem.Spec PyProof.V
local macro_rules | `(tactic| walk_at "eval Name") => `(tactic| first
  | ((with_reducible refine inComp ?_); first | (name_kind "local"; refine ldK (by assumption) (by rfl) ?_) | (name_kind "cell" "free"; refine ldKC (by assumption) (by rfl) (by assumption) ?_))
  | ((with_reducible refine inCells ?_); first | (name_kind "local"; first | refine ldLoc (by assumption) (by rfl) ?_ | refine ldLoc (by assumption) (by assumption) ?_) | (name_kind "cell"; (rename News _ _ _ _ => N'); with_unfolding_all refine ldCN N' rfl (by news_mem) (by assumption) ?_) | (name_kind "globalImplicit"; first | refine ldBC (by assumption) (by assumption) (by assumption) ?_ | refine ldWC (by assumption) (by assumption) (by assumption) ?_)))
local macro_rules | `(tactic| walk_at "eval Nothing") => `(tactic| fail)
noncomputable def Kept (h₀ : Heap) (am0 : Addr) (nw : List (Addr × Obj)) (a : Addr) (o : Obj) : Prop := (h₀.get? a = some o ∧ a = am0) ∨ (a, o) ∈ nw
theorem Kept.get {h₀ h : Heap} {L am0 : Addr} {m : Str → Option Value} {nw : List (Addr × Obj)} {a : Addr} {o : Obj} (K : Kept h₀ am0 nw a o) (F : Fr h₀ L h m) (N : News h₀ L h nw) : h.get? a = some o :=
  K.elim (fun h => F.keep _ _ h.1) (fun hm => (N _ hm).1)
structure RunSt (w : World) (h₀ : Heap) (am0 : Addr) (T : List Tie) (al : Addr) (y : Str) (ty : Tok) (cm ct : Addr) (tv : Option Value) (c : Str → Int) (m : Str → Option Value) (news : List (Addr × Obj))
    (C : List (Str × Int)) (bk : Addr) (oB : Obj) (dk : Addr) (oD : Obj) (am : Addr) (oK oM oT : Obj) (nw : List (Addr × Obj)) (k1 k2 k3 k4 : Int) (t1 t2 t3 t4 : Tok) (nB : Nat) : Prop where
  news : news = (ct, oT) :: (cm, oM) :: (bk, oB) :: (dk, oD) :: nw
  cM : oM.data = .cell (some (.ref am))
  cT : oT.data = .cell tv
  order : m "order" = some (.str y ty)
  leaves : m "leaves" = some (.ref al)
  book : m "book" = some (.ref bk)
  bc : oB.cls = .type "tuple"
  bd : oB.data = .seq #[.int k1 t1, .int k2 t2, .int k3 t3, .int k4 t4, .ref dk] nB
  dks : (dk == sysModules) = false
  dD : DIo w oD C
  dC : CInv C c
  kK : Kept h₀ am0 nw am oK
  nwc : ∀ p ∈ nw, ∀ v, p.2.data ≠ .cell v
  ams : (am == sysModules) = false
  dK : DIo w oK (marksAt T c)
  sums : SumsOk T c k1 k2 k3 k4
noncomputable def RunS (w : World) (h₀ : Heap) (am0 : Addr) (T : List Tie) (al : Addr) (y : Str) (ty : Tok) (cm ct : Addr) (tv : Option Value) (c : Str → Int) (m : Str → Option Value) (news : List (Addr × Obj)) : Prop :=
  ∃ C bk oB dk oD am oK oM oT nw k1 k2 k3 k4 t1 t2 t3 t4 nB, RunSt w h₀ am0 T al y ty cm ct tv c m news C bk oB dk oD am oK oM oT nw k1 k2 k3 k4 t1 t2 t3 t4 nB
theorem nAdd {h₀ h : Heap} {L : Addr} {p : Addr × Obj} {l : List (Addr × Obj)} (h1 : h.get? p.1 = some p.2 ∧ p.1 ≠ L ∧ h₀.get? p.1 = none) (N : News h₀ L h l) : News h₀ L h (p :: l) := fun q hq => by
  rcases List.mem_cons.mp hq with rfl | hq
  · exact h1
  · exact N q hq
theorem RunS.elim {w : World} {h₀ : Heap} {am0 : Addr} {T : List Tie} {al : Addr} {y : Str} {ty : Tok} {cm ct : Addr} {tv : Option Value} {c : Str → Int} {m : Str → Option Value} {news : List (Addr × Obj)} {P : Prop} (x : RunS w h₀ am0 T al y ty cm ct tv c m news)
    (k : ∀ C bk oB dk oD am oK oM oT nw k1 k2 k3 k4 t1 t2 t3 t4 nB, RunSt w h₀ am0 T al y ty cm ct tv c m news C bk oB dk oD am oK oM oT nw k1 k2 k3 k4 t1 t2 t3 t4 nB → P) : P := by
  obtain ⟨C, bk, oB, dk, oD, am, oK, oM, oT, nw, k1, k2, k3, k4, t1, t2, t3, t4, nB, z⟩ := x
  exact k C bk oB dk oD am oK oM oT nw k1 k2 k3 k4 t1 t2 t3 t4 nB z
theorem valD {kvs : List (Str × Value)} {l : List (Str × Int)} (A : All2 IntP kvs l) (k : Str) (u : Tok) : ∃ t, (valueAt kvs k).getD (.int 0 u) = .int ((getI l k).getD 0) t := by
  rcases IntP.get A k with ⟨e1, e2⟩ | ⟨n, t, e1, e2⟩
  · exact ⟨u, by rw [e1, e2]; rfl⟩
  · exact ⟨t, by rw [e1, e2]; rfl⟩
theorem get2_DI {w : World} {A : Around} {E : Value → Shared → Prop} {s : Shared} {d : Addr} {o : Obj} {l : List (Str × Int)} {k : Str} {t1 u : Tok} {Q : Value → Shared → Prop} (ho : s.heap.get? d = some o) (hs : (d == sysModules) = false) (hd : DIo w o l)
    (h : ∀ t, Q (.int ((getI l k).getD 0) t) { s with toks := s.toks + 1 }) : wpAny (model pw w) A (call (.builtin "dict.get") [.ref d, .str k t1, .int 0 u]) Q E s := by
  obtain ⟨kvs, hD1, hD2⟩ := hd
  refine call_g2 (knd := PySem.strKind pw w) (kvs := kvs) (k := k) (by simp [PySem.strKind, Value.isStrOf]) hs (Heap.dictOf_iff.mpr ⟨_, ho, hD1⟩) ?_
  obtain ⟨t, e⟩ := valD hD2 k u
  rw [e]
  exact h t
theorem str_at {w : World} {A : Around} {E : Value → Shared → Prop} {s : Shared} {x : Str} {t u : Tok} {i : Int} {c : Nat} {value slice : Expr} {Q : Value → Shared → Prop} (hr : (decide (i < -(2 ^ 63 : Int)) || decide (i ≥ 2 ^ 63)) = false) (hc : (seqIndex? i x.length).bind (x.cps[·]?) = some c)
    (h : ∀ k u', Q (.str ⟨#[c]⟩ u') { s with toks := k })
    (hs : subscripted slice false (.str x t) (.int i u) = operate [.str x t, .int i u] (getItem (.str x t) (.int i u)) := by with_unfolding_all rfl)
    (ht : ∀ r, letTemporaryGo value (.str x t) r = pure () := by intro _; with_unfolding_all rfl) : wpAny (model pw w) A (subscriptTail value slice (.str x t) (.int i u)) Q E s :=
  subscriptTail_ops (typeIs_str s x t) PyProof.Rows.slot_str_getitem.lookup (PyProof.Rows.getItem_str hr hc (h _ _)) hs ht
noncomputable def StrV (v : Value) (x : Str) : Prop := ∃ t, v = .str x t
theorem All2.snoc {α β : Type} {R : α → β → Prop} {l : List α} {m : List β} {a : α} {b : β} (h : All2 R l m) (hab : R a b) : All2 R (l ++ [a]) (m ++ [b]) := h.append (.cons hab .nil)
theorem take_filter {α : Type} {l : List α} {i : Nat} {a : α} (p : α → Bool) (h : l[i]? = some a) : (l.take (i + 1)).filter p = (l.take i).filter p ++ (if p a then [a] else []) := by
  rw [List.take_add_one, h, List.filter_append]
  cases hp : p a <;> simp [hp]
noncomputable def scRun : Scope := { kind := .function, names := [("marks", .cell), ("leaves", .local), ("order", .local), ("book", .local), ("going", .local), ("task", .cell), ("ahead", .local), ("behind", .local), ("add_callers", .globalImplicit), ("add_func_stats", .globalImplicit), ("len", .globalImplicit)], isGenerator := false, isCoroutine := false, more := (defAt 76 "_law_run").scope.more }
theorem scRun_eq : (defAt 76 "_law_run").scope = scRun := by kernel_rfl
noncomputable def runIf : Stmt := match (defAt 76 "_law_run").body with
  | [_, _, .While _ [_, .For _ _ [st] _ _] _ _, _] => st
  | _ => .Pass default
theorem comp_done {h₀ h h' : Heap} {L : Addr} {m m' : Str → Option Value} {news : List (Addr × Obj)} (F : Fr h₀ L h m) (N : News h₀ L h news) (hns : h'.Ns L m') (hk : ∀ b o, b ≠ L → h.get? b = some o → h'.get? b = some o) : Fr h₀ L h' m' ∧ News h₀ L h' news :=
  ⟨⟨hns, fun b o e => hk b o (Nat.ne_of_lt (Nat.lt_of_lt_of_le (Heap.lt_size e) F.above)) (F.keep b o e), F.above⟩, fun p hp => ⟨hk _ _ (N p hp).2.1 (N p hp).1, (N p hp).2⟩⟩
theorem News.fresh_cons {h₀ h h' : Heap} {L D : Addr} {m : Str → Option Value} {o : Obj} {news : List (Addr × Obj)} (F : Fr h₀ L h m) (hD : h.get? D = none) (ho : h'.get? D = some o) (N : News h₀ L h' news) : News h₀ L h' ((D, o) :: news) := by
  intro p hp
  rcases List.mem_cons.mp hp with rfl | hp
  · refine ⟨ho, fun e => ?_, fresh_old F.keep hD⟩
    obtain ⟨oL, _, _, hL, _⟩ := F.ns
    have e' : D = L := e
    rw [e', hL] at hD; cases hD
  · exact N p hp
noncomputable def lstO (ys : List Value) (n : Nat) : Obj := { cls := .type "list", data := .seq ys.toArray n }
section
variable {w : World} {A : Around} {s : Shared} {Q : Flow → Shared → Prop} {E : Value → Shared → Prop}
set_option maxHeartbeats 400000 in
theorem comp_names {h₀ : Heap} {L a am : Addr} {nm yn : Str} {cd : Value} {m : Str → Option Value} {news : List (Addr × Obj)} {T : List Tie} {c : Str → Int} {pr : Tie → Str} {idx : Int} {ch : Nat} {u : Tok} {oK : Obj} {p1 p2 p3 p4 p5 p6 p7 p8 pos py spos : Pos}
    (hh : A.handled = none) (hT : T.length ≤ 100) (hi : (decide (idx < -(2 ^ 63 : Int)) || decide (idx ≥ 2 ^ 63)) = false) (hpr : ∀ e ∈ T, ∃ cc, pr e = ⟨#[cc]⟩ ∧ (seqIndex? idx e.nm.length).bind (e.nm.cps[·]?) = some cc)
    (F : Fr h₀ L s.heap m) (N : News h₀ L s.heap news) (hatM : s.heap.get? am = some oK) (ams : (am == sysModules) = false) (dK : DIo w oK (marksAt T c)) (cTask : s.heap.IsCell (L + 2) (some (.str ⟨#[ch]⟩ u))) (cMarks : ∀ Q' : Value → Shared → Prop, Q' (.ref am) s → wpAny (model pw w) A (eval (.Name "marks" p3) (envOfC nm scRun L a cd)) Q' E s)
    (hQ : ∀ D h' tk ys n, Fr h₀ L h' (fun z => if z = yn then some (.ref D) else m z) → News h₀ L h' ((D, lstO ys n) :: news) → s.heap.get? D = none → All2 StrV ys ((T.filter fun e => pr e == ⟨#[ch]⟩).map Tie.nm) → Q .next { s with heap := h', toks := tk })
    (hl : (envOfC nm scRun L a cd).kindOf yn = some .local := by rfl)
    (hsw : swapsWith (.ListComp (.Name "name" p1) [⟨.Name "name" p2, .Name "marks" p3, [.Compare (.Subscript (.Name "name" p4) (.Constant (.int idx) 0 p5) p6) [.Eq] [.Name "task" p7] p8], 0⟩] { kind := .function, names := [(".0", .local), ("name", .local), ("task", .free)], isGenerator := false, isCoroutine := false } pos) (some (.Name yn py)) spos.line (envOfC nm scRun L a cd) = pure true := by with_unfolding_all rfl) :
    wpAny (model pw w) A (exec (.Assign [.Name yn py] (.ListComp (.Name "name" p1) [⟨.Name "name" p2, .Name "marks" p3, [.Compare (.Subscript (.Name "name" p4) (.Constant (.int idx) 0 p5) p6) [.Eq] [.Name "task" p7] p8], 0⟩] { kind := .function, names := [(".0", .local), ("name", .local), ("task", .free)], isGenerator := false, isCoroutine := false } pos) spos) (envOfC nm scRun L a cd)) Q E s := by
  obtain ⟨kM, hM1, hM2⟩ := dK
  have hdm : s.heap.DictOf (PySem.strKind pw w) am kM := Heap.dictOf_iff.mpr ⟨_, hatM, hM1⟩
  obtain ⟨epM, hdmA⟩ := hdm.dictAt
  have hlenM : kM.length = T.length := by rw [hM2.length]; unfold marksAt; rw [List.length_map]
  refine lc_assign F.ns hl (by rfl) hsw (cl := [("task", L + 2)]) (by with_unfolding_all rfl) (by decide) (by rfl) (by decide) (cMarks _ ?_) (by intro _; rfl)
  refine wpAny_pyIter_dict ams hdmA ?_
  refine ⟨_, _, _, _, _, _, fun i ys news => news = [] ∧ All2 StrV ys (((T.take i).filter fun e => pr e == ⟨#[ch]⟩).map Tie.nm), rfl, SrcU.keys hh hdmA (fun _ _ e => e) (Nat.le_refl _) (by rw [hlenM]; exact Nat.le_trans hT (by decide)), ?_, fun E' i s' v Q' _ h => wpAny_of_eq (by rfl) h, ⟨rfl, .nil⟩, ?_, ?_⟩
  · show _ ≤ (s.heap.push _).objs.size
    rw [Heap.size_push]; exact Nat.le_succ _
  · rintro C1 D i v ys _ m₁ s₁ own E' hi2 ⟨k, xv, hkv, hkey⟩ ⟨rfl, hys⟩ hoff hsub hown F₁ N₁
    obtain ⟨kn, he, hk1, _⟩ := hM2.at hkv
    obtain ⟨e, he1, rfl⟩ : ∃ e, T[i]? = some e ∧ kn = (e.nm, mk c e) := by
      unfold marksAt at he
      rw [List.getElem?_map] at he
      obtain ⟨e, he1, he2⟩ := Option.map_eq_some_iff.mp he
      exact ⟨e, he1, he2.symm⟩
    have hk1 : k = e.nm := hk1
    subst hk1
    obtain ⟨tn, rfl⟩ := Value.isStrOf_shape hkey
    obtain ⟨cc, eb, hcc⟩ := hpr e (List.mem_of_getElem? he1)
    refine stK F₁ N₁ (fun h2 F₂ N₂ => ?_)
    refine wpAny_tests_one ?_
    iterate 4 walk1
    refine str_at (c := cc) hi hcc fun _ _ => ?_
    iterate 3 walk1
    rename Fr _ _ _ _ => F₃
    rename News _ _ _ _ => N₃
    by_cases hb : pr e = ⟨#[ch]⟩
    · rw [if_pos (by rw [← eb, hb]; simp)]
      iterate 1 walk1
      refine .intro F₃ N₃ (fun _ h => nomatch h) ⟨rfl, ?_⟩
      rw [take_filter _ he1, if_pos (by simpa using hb), List.map_append]
      exact hys.snoc ⟨_, rfl⟩
    · rw [if_neg (by rw [← eb]; simpa using hb)]
      refine .intro F₃ N₃ (fun _ h => nomatch h) ⟨rfl, ?_⟩
      rw [take_filter _ he1, if_neg (by simpa using hb), List.append_nil]
      exact hys
  · intro D h5 tk5 ys _ hns hk5 hD5 ⟨n, hpl⟩ _ ⟨_, hys⟩
    rw [hlenM, List.take_length] at hys
    obtain ⟨F5, N5⟩ := comp_done F N hns hk5
    exact hQ D h5 tk5 ys n F5 (Mine.News.fresh_cons F hD5 hpl N5) hD5 hys
theorem eq_nil {w : World} {A : Around} {s : Shared} {E : Value → Shared → Prop} {l b : Addr} {items : Array Value} {Q : Value → Shared → Prop} (hl : s.heap.IsList l items) (hb : s.heap.IsList b #[]) (hu : A.units < cLine) (h : Q (.bool (items.size == 0)) s) :
    wpAny (model pw w) A (compareOp .Eq (.ref l) (.ref b)) Q E s := by
  by_cases hz : items.size = 0
  · refine SeqAt.eq_listAt (e := fun _ => true) hl hb hz hu (fun j h1 h2 => absurd h2 (Nat.not_lt_zero _)) ?_
    rw [hz] at h ⊢
    exact h
  · refine SeqAt.eq_list_lengthsAt hl hb (by simpa using hz) hu ?_
    rw [beq_eq_false_iff_ne.mpr hz] at h
    exact h
theorem getItem_subscript {w : World} {A : Around} {s : Shared} {E : Value → Shared → Prop} {value slice : Expr} {d : Addr} {o : Obj} {acc : List (Str × Int)} {k : Str} {n : Int} {t₁ : Tok} {Q : Value → Shared → Prop} (ho : s.heap.get? d = some o) (hd : DIo w o acc) (hk : getI acc k = some n)
    (h : ∀ t k, Q (.int n t) { s with toks := k })
    (hs : subscripted slice false (.ref d) (.str k t₁) = operate [.ref d, .str k t₁] (getItem (.ref d) (.str k t₁)) := by with_unfolding_all rfl)
    (ht : ∀ r, letTemporaryGo value (.ref d) r = pure () := by intro _; with_unfolding_all rfl) : wpAny (model pw w) A (subscriptTail value slice (.ref d) (.str k t₁)) Q E s := by
  have hd' := hd
  obtain ⟨kvs, hD1, hD2⟩ := hd'
  have hdo : s.heap.DictOf (PySem.strKind pw w) d kvs := Heap.dictOf_iff.mpr ⟨_, ho, hD1⟩
  exact subscriptTail_ops hdo.typeIs F.slot_dict_getitem.lookup (getItem_DI ho hd hk (fun t => h _ _)) hs ht
set_option maxHeartbeats 400000 in
theorem comp_zero {s : Shared} {Q : Value → Shared → Prop} {L a am D1 : Addr} {nm : Str} {cd : Value} {T : List Tie} {Tf : List Tie} {c : Str → Int} {oK : Obj} {ys1 : List Value} {n1 : Nat} {p1 p2 p3 p4 p5 p6 p7 p8 pos : Pos}
    (hh : A.handled = none) (hT : T.length ≤ 100) (hTf : ∀ e ∈ Tf, e ∈ T) (hTl : Tf.length ≤ 100) (hn : (T.map Tie.nm).Nodup)
    (hatM : s.heap.get? am = some oK) (dK : DIo w oK (marksAt T c)) (cMarks : s.heap.IsCell (L + 1) (some (.ref am))) (hl : s.heap.get? D1 = some (lstO ys1 n1)) (hys : All2 StrV ys1 (Tf.map Tie.nm))
    (hA : ∀ Q' : Value → Shared → Prop, Q' (.ref D1) s → wpAny (model pw w) A (eval (.Name "ahead" p3) (envOfC nm scRun L a cd)) Q' E s)
    (hQ : ∀ D h' tk ys n, (∀ b o, s.heap.get? b = some o → h'.get? b = some o) → s.heap.get? D = none → h'.get? D = some (lstO ys n) → (ys.length = 0 ↔ ∀ e ∈ Tf, mk c e ≠ 0) → Q (.ref D) { s with heap := h', toks := tk }) :
    wpAny (model pw w) A (eval (.ListComp (.Name "name" p1) [⟨.Name "name" p2, .Name "ahead" p3, [.Compare (.Subscript (.Name "marks" p4) (.Name "name" p5) p6) [.Eq] [.Constant (.int 0) 0 p7] p8], 0⟩] { kind := .function, names := [(".0", .local), ("name", .local), ("marks", .free)], isGenerator := false, isCoroutine := false } pos) (envOfC nm scRun L a cd)) Q E s := by
  have hil : s.heap.IsList D1 ys1.toArray := ⟨_, hl, rfl, _, rfl⟩
  have hlen : ys1.toArray.size = Tf.length := by rw [List.size_toArray, hys.length, List.length_map]
  refine lc_eval (cl := [("marks", L + 1)]) (by with_unfolding_all rfl) (by decide) (by rfl) (by decide) (hA _ ?_) (by intro _; rfl)
  refine wpAny_pyIter_list hil ?_
  refine ⟨_, _, _, _, _, _, fun i ys news => news = [] ∧ (ys.length = 0 ↔ ∀ e ∈ Tf.take i, mk c e ≠ 0), rfl, SrcU.list hh hil (fun _ _ e => e) (Nat.le_refl _) (by rw [hlen]; exact Nat.le_trans hTl (by decide)), ?_, fun E' i s' v Q' _ h => wpAny_of_eq (by rfl) h, ⟨rfl, by simp⟩, ?_, ?_⟩
  · show _ ≤ (s.heap.push _).objs.size
    rw [Heap.size_push]; exact Nat.le_succ _
  · rintro C1 D i v ys _ m₁ s₁ own E' hi2 hv ⟨rfl, hz⟩ hoff hsub hown F₁ N₁
    have hv' : ys1[i]? = some v := by simpa using hv
    obtain ⟨x, hx, tn, rfl⟩ := hys.at hv'
    rw [List.getElem?_map] at hx
    obtain ⟨e, he, rfl⟩ := Option.map_eq_some_iff.mp hx
    have heT := hTf e (List.mem_of_getElem? he)
    have hget : getI (marksAt T c) e.nm = some (mk c e) := getI_mem (marks_keys c hn) (List.mem_map.mpr ⟨e, heT, rfl⟩)
    have ht : Tf.take (i + 1) = Tf.take i ++ [e] := by rw [List.take_add_one, he]; rfl
    refine stK F₁ N₁ (fun h2 F₂ N₂ => ?_)
    refine wpAny_tests_one ?_
    iterate 4 walk1
    refine getItem_subscript (F₂.keep _ _ hatM) dK hget (fun _ _ => ?_)
    iterate 3 walk1
    rename Fr _ _ _ _ => F₃
    rename News _ _ _ _ => N₃
    by_cases hb : mk c e = 0
    · rw [if_pos (by simpa using hb)]
      iterate 1 walk1
      refine .intro F₃ N₃ (fun _ h => nomatch h) ⟨rfl, ?_⟩
      rw [ht]
      constructor
      · intro h; simp at h
      · intro h; exact absurd hb (h e (by simp))
    · rw [if_neg (by simpa using hb)]
      refine .intro F₃ N₃ (fun _ h => nomatch h) ⟨rfl, ?_⟩
      rw [ht, hz]
      constructor
      · intro h x hx
        rcases List.mem_append.mp hx with hx | hx
        · exact h x hx
        · rw [List.mem_singleton.mp hx]; exact hb
      · intro h x hx
        exact h x (List.mem_append_left _ hx)
  · intro D h5 tk5 ys _ hk5 hD5 ⟨n, hpl⟩ _ ⟨_, hz⟩
    rw [hlen, List.take_length] at hz
    exact hQ D h5 tk5 ys n hk5 hD5 hpl hz
set_option maxHeartbeats 400000 in
theorem comp_puts {mean : ExcName → Option Value} {mg mb : Str → Option Value} {s : Shared} {Q : Value → Shared → Prop} {L a D1 : Addr} {nm xn : Str} {cd : Value} {xs : List Str} {d : Int} {ys1 : List Value} {n1 : Nat} {vx : Expr} {p1 p2 p3 pos : Pos}
    (W : WG mean mg mb s.heap) (hh : A.handled = none) (hx : xs.Nodup) (hxl : xs.length ≤ 100) (hl : s.heap.get? D1 = some (lstO ys1 n1)) (hys : All2 StrV ys1 xs)
    (hA : ∀ Q' : Value → Shared → Prop, Q' (.ref D1) s → wpAny (model pw w) A (eval (.Name xn p3) (envOfC nm scRun L a cd)) Q' E s)
    (hv : ∀ env E' (s' : Shared) (Q' : Value → Shared → Prop), (∀ t k, Q' (.int d t) { s' with toks := k }) → wpAny (model pw w) A (eval vx env) Q' E' s')
    (hQ : ∀ D h' tk, (∀ b o, s.heap.get? b = some o → h'.get? b = some o) → s.heap.get? D = none → DI w h' D (xs.map fun x => (x, d)) → Q (.ref D) { s with heap := h', toks := tk })
    (hs : ∀ x, foldedSetIterable (.Name xn p3) (envOfC nm scRun L a cd) x = pure x := by intro _; rfl) :
    wpAny (model pw w) A (eval (.DictComp (.Name "name" p1) vx [⟨.Name "name" p2, .Name xn p3, [], 0⟩] { kind := .function, names := [(".0", .local), ("name", .local)], isGenerator := false, isCoroutine := false } pos) (envOfC nm scRun L a cd)) Q E s := by
  have hil : s.heap.IsList D1 ys1.toArray := ⟨_, hl, rfl, _, rfl⟩
  have hlen : ys1.toArray.size = xs.length := by rw [List.size_toArray, hys.length]
  refine dc_eval (knd := PySem.strKind pw w) (cl := []) (by with_unfolding_all rfl) (by decide) (by rfl) (by decide) (fun _ _ => rfl) (hA _ ?_) hs
  refine wpAny_pyIter_list hil ?_
  refine ⟨_, _, _, _, _, _, fun i ys => All2 IntP ys ((xs.take i).map fun x => (x, d)), rfl, SrcU.list hh hil (fun _ _ e => e) (Nat.le_refl _) (by rw [hlen]; exact Nat.le_trans hxl (by decide)), ?_, .nil, ?_, ?_⟩
  · show _ ≤ (s.heap.push _).objs.size
    rw [Heap.size_push]; exact Nat.le_succ _
  · rintro C1 D i v ys m₁ s₁ own E' hi2 hv' hJ hsub hown F₁ N₁
    have hv2 : ys1[i]? = some v := by simpa using hv'
    obtain ⟨x, hx2, tn, rfl⟩ := hys.at hv2
    have ht : xs.take (i + 1) = xs.take i ++ [x] := by rw [List.take_add_one, hx2]; rfl
    refine stK F₁ N₁ (fun h2 F₂ N₂ => ?_)
    refine wpAny_tests_nil ?_
    rw [if_pos rfl]
    iterate 1 walk1
    refine hv _ _ _ _ (fun t k => ?_)
    refine ⟨x, by simp [PySem.strKind, Value.isStrOf], ?_⟩
    refine .intro F₂ (news₂ := []) (fun p hp => N₂ p (by simpa using hp)) (fun _ h => nomatch h) ?_
    have := IntP.put hJ x d t
    have hm : ((xs.take i).map fun x => (x, d)).map (·.1) = xs.take i := by rw [List.map_map]; simp [Function.comp_def]
    rw [putI_new (by
      rw [hm]
      intro hc
      have h1 : (xs.take i ++ [x]).Nodup := ht ▸ (List.Nodup.sublist (List.take_sublist _ _) hx)
      exact (List.nodup_append.mp h1).2.2 _ hc _ (by simp) rfl)] at this
    show All2 IntP _ ((xs.take (i + 1)).map fun x => (x, d))
    rw [ht, List.map_append]
    exact this
  · intro D h5 tk5 ys hk5 hD5 hdo hJ
    rw [hlen, List.take_length] at hJ
    exact hQ D h5 tk5 hk5 (fresh_at hD5) (DI.ofDictOf (not_sys W hD5) hdo hJ)
theorem dict_one {mean : ExcName → Option Value} {mg mb : Str → Option Value} {w : World} {A : Around} {s : Shared} {E : Value → Shared → Prop} {env : Env} {kx vx : Expr} {pos : Pos} {x : Str} {d : Int} {t1 : Tok} {Q : Value → Shared → Prop} (W : WG mean mg mb s.heap)
    (hk : ∀ (h1 : Heap) (Q' : Value → Shared → Prop), (∀ b o, s.heap.get? b = some o → h1.get? b = some o) → Q' (.str x t1) { s with heap := h1 } → wpAny (model pw w) A (eval kx env) Q' E { s with heap := h1 })
    (hv : ∀ (s' : Shared) (Q' : Value → Shared → Prop), (∀ t k, Q' (.int d t) { s' with toks := k }) → wpAny (model pw w) A (eval vx env) Q' E s')
    (hQ : ∀ D h' tk, (∀ b o, s.heap.get? b = some o → h'.get? b = some o) → s.heap.get? D = none → DI w h' D [(x, d)] → Q (.ref D) { s with heap := h', toks := tk }) :
    wpAny (model pw w) A (eval (.Dict [some kx] [vx] pos) env) Q E s := by
  refine wpAny_Dict_walk (knd := PySem.strKind pw w) rfl rfl (by simp) (by simp) ?_
  refine pairTrees_cons_walk (hk _ _ (fun b o e => Heap.get?_push_of_some _ e) (hv _ _ fun t k => pairTrees_nil_walk ?_))
  refine ⟨[(x, .int d t)], ⟨by simp [PySem.strKind, Value.isStrOf], rfl, trivial⟩, Heap.DictOf.new _, fun h' hd hs => ?_⟩
  have hkeep : ∀ b o, s.heap.get? b = some o → h'.get? b = some o := fun b o e => hs.extBut b o (Nat.ne_of_lt (Heap.lt_size e)) (Heap.get?_push_of_some _ e)
  exact hQ _ h' _ hkeep (fresh_at (Nat.le_refl _)) (DI.ofDictOf (not_sys W (Nat.le_refl _)) hd (.cons ⟨rfl, t, rfl⟩ .nil))
end
theorem ne_cell {h₀ h : Heap} {L c : Addr} {l : List (Addr × Obj)} {o : Obj} {v : Option Value} {p : Addr × Obj} (N : News h₀ L h l) (hc : (c, o) ∈ l) (hd : o.data = .cell v) (hp : p ∈ l) (hn : ∀ v, p.2.data ≠ .cell v) : p.1 ≠ c := fun e => by
  have h1 := (N p hp).1
  have h2 := (N _ hc).1
  rw [e] at h1
  have h2' : h.get? c = some o := h2
  rw [h2'] at h1
  exact hn v (by rw [← Option.some.inj h1]; exact hd)
theorem ne_of_fresh {h : Heap} {a b : Addr} {o : Obj} (ha : h.get? a = none) (hb : h.get? b = some o) : a ≠ b := fun e => by rw [e, hb] at ha; cases ha
theorem DIo.not_cell {w : World} {o : Obj} {l : List (Str × Int)} (h : DIo w o l) : ∀ v, o.data ≠ .cell v := by
  obtain ⟨kvs, ⟨es, ep, _, hd, _⟩, _⟩ := h
  intro v e
  rw [hd] at e
  cases e
noncomputable def runDo : List Stmt := match runIf with
  | .If _ [_, _, .If _ b _ _] _ _ => b
  | _ => []
section
variable {w : World} {mean : ExcName → Option Value} {mg mb : Str → Option Value} {A : Around} {s : Shared} {Q : Flow → Shared → Prop} {E : Value → Shared → Prop}
set_option maxHeartbeats 400000 in
theorem run_do {h₀ : Heap} {L a D1 D2 bk dk am : Addr} {oB oD oK oM oT : Obj} {nw : List (Addr × Obj)} {ys1 ys2 : List Value} {n1 n2 nB : Nat} {nm : Str} {cd : Value} {m : Str → Option Value} (W : WG mean mg mb h₀) (hroom : A.depth + 4 < recursionLimit) (hh : A.handled = none) {it al : Addr} {oi : Obj} {T : List Tie} {c : Str → Int} {ch : Nat} {u t1 t2 t3 t4 : Tok} {k1 k2 k3 k4 : Int} {C : List (Str × Int)}
    (G : GoodT T) (hT : T.length ≤ 100) (hx : (⟨#[ch]⟩ : Str) ∈ tasksL)
    (F : Fr h₀ L s.heap m) (N : News h₀ L s.heap ((L + 2, oT) :: (L + 1, oM) :: (D1, lstO ys1 n1) :: (D2, lstO ys2 n2) :: (it, oi) :: (bk, oB) :: (dk, oD) :: nw))
    (mA : m "ahead" = some (.ref D1)) (mBe : m "behind" = some (.ref D2)) (mB : m "book" = some (.ref bk)) (cM : oM.data = .cell (some (.ref am))) (cT : oT.data = .cell (some (.str ⟨#[ch]⟩ u)))
    (hys1 : All2 StrV ys1 ((T.filter fun e => e.b == ⟨#[ch]⟩).map Tie.nm)) (hys2 : All2 StrV ys2 ((T.filter fun e => e.a == ⟨#[ch]⟩).map Tie.nm))
    (bc : oB.cls = .type "tuple") (bd : oB.data = .seq #[.int k1 t1, .int k2 t2, .int k3 t3, .int k4 t4, .ref dk] nB) (dks : (dk == sysModules) = false) (dD : DIo w oD C) (dC : CInv C c)
    (kK : Kept h₀ am0 nw am oK) (hnw : ∀ p ∈ nw, ∀ v, p.2.data ≠ .cell v) (hoi : ∀ v, oi.data ≠ .cell v) (ams : (am == sysModules) = false) (dK : DIo w oK (marksAt T c)) (sums : SumsOk T c k1 k2 k3 k4)
    (hQ : ∀ h' tk m' bk' oB' dk' oD' am' oK' oM' t1 t2 t3 t4 nB', Fr h₀ L h' m' → News h₀ L h' ((it, oi) :: (L + 2, oT) :: (L + 1, oM') :: (bk', oB') :: (dk', oD') :: [(am', oK')]) → m' "going" = some (.bool true) → (∀ x : Str, x ≠ "going" → x ≠ "book" → m' x = m x) → m' "book" = some (.ref bk') →
      oM'.data = .cell (some (.ref am')) → oB'.cls = .type "tuple" → oB'.data = .seq #[.int (1 + k1) t1, .int (((T.filter fun e => e.b == ⟨#[ch]⟩).length : Int) + k2) t2, .int (((T.filter fun e => e.a == ⟨#[ch]⟩).length : Int) + k3) t3, .int (((T.filter fun e => e.a == ⟨#[ch]⟩).length : Int) - ((T.filter fun e => e.b == ⟨#[ch]⟩).length : Int) + k4) t4, .ref dk'] nB' →
      (dk' == sysModules) = false → DIo w oD' (addI C [(⟨#[ch]⟩, 1)]) → (am' == sysModules) = false → DIo w oK' (marksAt T (bump c ⟨#[ch]⟩)) → bk' ≠ it → dk' ≠ it → am' ≠ it → Q .next { s with heap := h', toks := tk }) :
    wpAny (model pw w) A (execs runDo (envOfC nm scRun L a cd)) Q E s := by
  cases A
  cases hh
  conv in runDo => whnf
  have NL := W.T.nolimit
  have hlf : (T.filter fun e => e.b == ⟨#[ch]⟩).length ≤ 100 := Nat.le_trans (List.length_filter_le _ _) hT
  have hlg : (T.filter fun e => e.a == ⟨#[ch]⟩).length ≤ 100 := Nat.le_trans (List.length_filter_le _ _) hT
  obtain ⟨fa, oa, fda, B1, B2, B3⟩ := fn_name W rec3 (n := "add_callers") (by kernel_rfl)
  obtain ⟨fb, ob, fdb, B4, B5, B6⟩ := fn_name W rec2 (n := "add_func_stats") (by kernel_rfl)
  have hatM := kK.get F (fun p hp => N p (.tail _ (.tail _ (.tail _ (.tail _ (.tail _ (.tail _ (.tail _ hp))))))))
  iterate 8 walk1
  rename News _ _ _ _ => N
  refine comp_puts (d := -1) (W.keeps F.keep) rfl (filter_nodup G.nodup fun e => e.b == ⟨#[ch]⟩) (by rw [List.length_map]; exact hlf) (N _ (.tail _ (.tail _ (.head _)))).1 hys1 (fun Q' h => ?_) (fun env E' s' Q' h => ?_) (fun D4 h9 tk9 hk9 hf9 hD4 => ?_)
  · iterate 1 walk1
    exact h
  · repeat walk1
    exact h _ _
  have F9 := F.keeps hk9
  have N9 := N.keepsAll hk9
  iterate 1 walk1
  refine of_name B1 (addc (l1 := marksAt T c) (W.keeps F9.keep) (Nat.lt_of_le_of_lt (Nat.le_add_right _ _) hroom) rfl ⟨ams, _, hk9 _ _ hatM, dK⟩ hD4 (by unfold marksAt; rw [List.length_map]; omega) (by rw [List.length_map, List.length_map]; omega) fun h10 tk10 r hk10 hf10 hr => ?_)
  rw [fold_put (marks_keys c G.nodup)] at hr
  have F10 := F9.keeps hk10
  obtain ⟨rs, orr, hor, hDr⟩ := hr
  have N10 := Mine.News.fresh_cons F9 hf10 hor (N9.keepsAll hk10)
  clear N N9 F9
  refine stCN (own := [(r, orr), (L + 2, oT)]) F10 N10 rfl cM (fun p hp => ?_) (fun p hp => ?_) (fun h11 oM1 F11 N11 cM1 => ?_)
  · rcases List.mem_cons.mp hp with rfl | hp
    · exact ne_cell N10 (.tail _ (.tail _ (.head _))) cM (.head _) hDr.not_cell
    · rw [List.mem_singleton.mp hp]; exact Nat.ne_of_gt (Nat.lt_succ_self _)
  · refine ne_cell N10 (.tail _ (.tail _ (.head _))) cM (.tail _ (.tail _ (.tail _ hp))) ?_
    simp only [List.mem_cons] at hp
    rcases hp with rfl | rfl | rfl | rfl | rfl | hp
    · nofun
    · nofun
    · exact hoi
    · rw [bd]; nofun
    · exact dD.not_cell
    · exact hnw p hp
  have hN : News h₀ L h11 ((L + 2, oT) :: (L + 1, oM1) :: (D1, lstO ys1 n1) :: (D2, lstO ys2 n2) :: (r, orr) :: (it, oi) :: (bk, oB) :: [(dk, oD)]) := nAdd (N11 _ (.tail _ (.head _))) (nAdd (N11 _ (.tail _ (.tail _ (.head _)))) (nAdd (N11 _ (.tail _ (.tail _ (.tail _ (.head _))))) (nAdd (N11 _ (.tail _ (.tail _ (.tail _ (.tail _ (.head _)))))) (nAdd (N11 _ (.head _)) (nAdd (N11 _ (.tail _ (.tail _ (.tail _ (.tail _ (.tail _ (.head _))))))) (nAdd (N11 _ (.tail _ (.tail _ (.tail _ (.tail _ (.tail _ (.tail _ (.head _)))))))) (nAdd (N11 _ (.tail _ (.tail _ (.tail _ (.tail _ (.tail _ (.tail _ (.tail _ (.head _))))))))) News.nil)))))))
  clear N10 F10 N11
  show wpAny _ _ _ _ _ _
  iterate 8 walk1
  rename News _ _ _ _ => N
  refine comp_puts (d := 1) (W.keeps F11.keep) rfl (filter_nodup G.nodup fun e => e.a == ⟨#[ch]⟩) (by rw [List.length_map]; exact hlg) (N _ (.tail _ (.tail _ (.tail _ (.head _))))).1 hys2 (fun Q' h => ?_) (fun env E' s' Q' h => ?_) (fun D5 h12 tk12 hk12 hf12 hD5 => ?_)
  · iterate 1 walk1
    exact h
  · repeat walk1
    exact h _ _
  have F12 := F11.keeps hk12
  have N12 := N.keepsAll hk12
  have el : addI (marksAt T c) (((T.filter fun e => e.b == ⟨#[ch]⟩).map Tie.nm).map fun x => (x, -1)) = T.map fun e => (e.nm, if e.nm ∈ (T.filter fun e => e.b == ⟨#[ch]⟩).map Tie.nm then mk c e + -1 else mk c e) :=
    addI_at Tie.nm T G.nodup (-1) _ _ (filter_nodup G.nodup _) (fun x hx => by obtain ⟨e, he, rfl⟩ := List.mem_map.mp hx; exact List.mem_map.mpr ⟨e, (List.mem_filter.mp he).1, rfl⟩)
  have ek : ((addI (marksAt T c) (((T.filter fun e => e.b == ⟨#[ch]⟩).map Tie.nm).map fun x => (x, -1))).map (·.1)).Nodup := by
    rw [el, List.map_map]; exact G.nodup
  iterate 1 walk1
  refine of_name B1 (addc (l1 := addI (marksAt T c) (((T.filter fun e => e.b == ⟨#[ch]⟩).map Tie.nm).map fun x => (x, -1))) (W.keeps F12.keep) (Nat.lt_of_le_of_lt (Nat.le_add_right _ _) hroom) rfl ⟨rs, _, (N12 _ (.tail _ (.tail _ (.tail _ (.tail _ (.head _)))))).1, hDr⟩ hD5 (by rw [el, List.length_map]; omega) (by rw [List.length_map, List.length_map]; omega) fun h13 tk13 r2 hk13 hf13 hr2 => ?_)
  rw [fold_put ek, marks_bump G.nodup] at hr2
  have F13 := F12.keeps hk13
  obtain ⟨rs2, orr2, hor2, hDr2⟩ := hr2
  have N13 := Mine.News.fresh_cons F12 hf13 hor2 (N12.keepsAll hk13)
  have hr2it : r2 ≠ it := ne_of_fresh hf13 (N12 _ (.tail _ (.tail _ (.tail _ (.tail _ (.tail _ (.head _)))))) ).1
  clear N N12 F12
  refine stCN (own := [(r2, orr2), (L + 2, oT)]) F13 N13 rfl cM1 (fun p hp => ?_) (fun p hp => ?_) (fun h14 oM2 F14 N14 cM2 => ?_)
  · rcases List.mem_cons.mp hp with rfl | hp
    · exact ne_cell N13 (.tail _ (.tail _ (.head _))) cM1 (.head _) hDr2.not_cell
    · rw [List.mem_singleton.mp hp]; exact Nat.ne_of_gt (Nat.lt_succ_self _)
  · refine ne_cell N13 (.tail _ (.tail _ (.head _))) cM1 (.tail _ (.tail _ (.tail _ hp))) ?_
    simp only [List.mem_cons, List.not_mem_nil, or_false] at hp
    rcases hp with rfl | rfl | rfl | rfl | rfl | rfl
    · nofun
    · nofun
    · exact hDr.not_cell
    · exact hoi
    · rw [bd]; nofun
    · exact dD.not_cell
  have hN : News h₀ L h14 ((L + 2, oT) :: (L + 1, oM2) :: (D1, lstO ys1 n1) :: (D2, lstO ys2 n2) :: (r2, orr2) :: (it, oi) :: (bk, oB) :: [(dk, oD)]) := nAdd (N14 _ (.tail _ (.head _))) (nAdd (N14 _ (.tail _ (.tail _ (.head _)))) (nAdd (N14 _ (.tail _ (.tail _ (.tail _ (.head _))))) (nAdd (N14 _ (.tail _ (.tail _ (.tail _ (.tail _ (.head _)))))) (nAdd (N14 _ (.head _)) (nAdd (N14 _ (.tail _ (.tail _ (.tail _ (.tail _ (.tail _ (.tail _ (.head _)))))))) (nAdd (N14 _ (.tail _ (.tail _ (.tail _ (.tail _ (.tail _ (.tail _ (.tail _ (.head _))))))))) (nAdd (N14 _ (.tail _ (.tail _ (.tail _ (.tail _ (.tail _ (.tail _ (.tail _ (.tail _ (.head _)))))))))) News.nil)))))))
  clear N13 F13 N14 F11
  have hTB : IsTup h14 bk #[.int k1 t1, .int k2 t2, .int k3 t3, .int k4 t4, .ref dk] := ⟨oB, (hN _ (.tail _ (.tail _ (.tail _ (.tail _ (.tail _ (.tail _ (.head _)))))))).1, bc, nB, bd⟩
  have hl1 : h14.IsList D1 ys1.toArray := ⟨_, (hN _ (.tail _ (.tail _ (.head _)))).1, rfl, _, rfl⟩
  have hl2 : h14.IsList D2 ys2.toArray := ⟨_, (hN _ (.tail _ (.tail _ (.tail _ (.head _))))).1, rfl, _, rfl⟩
  have BL := W.len
  show wpAny _ _ _ _ _ _
  have es1 : ys1.toArray.size = (T.filter fun e => e.b == ⟨#[ch]⟩).length := by rw [List.size_toArray, hys1.length, List.length_map]
  have es2 : ys2.toArray.size = (T.filter fun e => e.a == ⟨#[ch]⟩).length := by rw [List.size_toArray, hys2.length, List.length_map]
  have fit1 : (ys1.toArray.size : Int) < 2 ^ 63 := by rw [es1]; exact Int.lt_of_le_of_lt (Int.ofNat_le.mpr hlf) (by decide)
  have fit2 : (ys2.toArray.size : Int) < 2 ^ 63 := by rw [es2]; exact Int.lt_of_le_of_lt (Int.ofNat_le.mpr hlg) (by decide)
  iterate 18 walk1
  refine call_len_list hl1 fit1 ?_
  iterate 7 walk1
  refine call_len_list hl2 fit2 ?_
  iterate 8 walk1
  refine call_len_list hl2 fit2 ?_
  iterate 6 walk1
  refine call_len_list hl1 fit1 ?_
  iterate 2 walk1
  have cTask := cT
  refine dict_one (x := ⟨#[ch]⟩) (d := 1) (t1 := u) (W.keeps F14.keep) (fun g Q' hk h => ?_) (fun s' Q' h => ?_) (fun D6 h15 tk15 hk15 hf15 hD6 => ?_)
  · refine ldCN (hN.keepsAll hk) rfl (.head _) cT h
  · repeat walk1
    exact h _ _
  have F15 := F14.keeps hk15
  obtain ⟨ds6, oD6, hoD6, hDD6⟩ := hD6
  have N15 := Mine.News.fresh_cons F14 hf15 hoD6 (hN.keepsAll hk15)
  clear hN F14
  iterate 3 walk1
  rename Fr _ _ _ _ => F16
  rename News _ _ _ _ => N16
  have hN16 : News h₀ L _ ((it, oi) :: (L + 2, oT) :: (L + 1, oM2) :: [(r2, orr2)]) := nAdd (N16 _ (.tail _ (.tail _ (.tail _ (.tail _ (.tail _ (.tail _ (.tail _ (.head _))))))))) (nAdd (N16 _ (.tail _ (.tail _ (.head _)))) (nAdd (N16 _ (.tail _ (.tail _ (.tail _ (.head _))))) (nAdd (N16 _ (.tail _ (.tail _ (.tail _ (.tail _ (.tail _ (.tail _ (.head _)))))))) News.nil)))
  have hd16 := (N16 _ (.tail _ (.head _))).1
  have hit16 := (hN16 _ (.head _)).1
  have hb16 := (N16 _ (.tail _ (.tail _ (.tail _ (.tail _ (.tail _ (.tail _ (.tail _ (.tail _ (.head _)))))))))).1
  have hdk16 := (N16 _ (.tail _ (.tail _ (.tail _ (.tail _ (.tail _ (.tail _ (.tail _ (.tail _ (.tail _ (.head _))))))))))).1
  refine of_name B4 (addfs (W.keeps F16.keep) (Nat.lt_of_le_of_lt (Nat.add_le_add_left (by decide) _) hroom) rfl ⟨oB, hb16, bc, nB, bd⟩ (N16.isTup (.head _)) ⟨dks, _, hdk16, dD⟩ ⟨ds6, _, hd16, hDD6⟩ (Nat.le_trans dC.keys.2 (by decide)) (by simp) fun h17 tk17 r3 d3 x1 x2 x3 x4 hk17 hf17 hT17 hfd hDd => ?_)
  rw [fold_put dC.keys.1] at hDd
  rw [es1, es2] at hT17
  obtain ⟨oB3, hoB3, hcB3, nB3, hdB3⟩ := hT17
  obtain ⟨ds3, oD3, hoD3, hDD3⟩ := hDd
  have F17 := F16.keeps hk17
  have N17 := Mine.News.fresh_cons F16 hf17 hoB3 (Mine.News.fresh_cons F16 hfd hoD3 (hN16.keepsAll hk17))
  clear N16 hN16 F16 N15 F15
  repeat walk1
  rename Fr _ _ _ _ => F18
  rename News _ _ _ _ => N18
  refine hQ _ _ _ _ _ _ _ _ _ _ _ _ _ _ _ F18 (nAdd (N18 _ (.tail _ (.tail _ (.head _)))) (nAdd (N18 _ (.tail _ (.tail _ (.tail _ (.head _))))) (nAdd (N18 _ (.tail _ (.tail _ (.tail _ (.tail _ (.head _)))))) (nAdd (N18 _ (.head _)) (nAdd (N18 _ (.tail _ (.head _))) (nAdd (N18 _ (.tail _ (.tail _ (.tail _ (.tail _ (.tail _ (.head _))))))) News.nil)))))) rfl (fun x h1 h2 => ?_) rfl cM2 hcB3 hdB3 ds3 hDD3 rs2 hDr2 (ne_of_fresh hf17 hit16) (ne_of_fresh hfd hit16) hr2it
  · show (if x = "going" then _ else if x = "book" then _ else m x) = m x
    rw [if_neg h1, if_neg h2]
end
section
variable {w : World} {mean : ExcName → Option Value} {mg mb : Str → Option Value} {A : Around} {s : Shared} {Q : Flow → Shared → Prop} {E : Value → Shared → Prop}
set_option maxHeartbeats 400000 in
theorem run_if {h₀ : Heap} {L a cm ct : Addr} {nm : Str} {cd : Value} {m : Str → Option Value} (W : WG mean mg mb h₀) (hroom : A.depth + 4 < recursionLimit) (hh : A.handled = none) (hu : A.units + 50 < cLine) {al it : Addr} {oi : Obj} {y : Str} {ty : Tok} {L0 : List (Str × Int)} {T : List Tie} {Lf c : Str → Int} {ch : Nat} {u : Tok} {g : Bool} {news : List (Addr × Obj)}
    (hoi : ∀ v, oi.data ≠ .cell v) (hcm : cm = L + 1) (hct : ct = L + 2) (G : GoodT T) (hT : T.length ≤ 100) (hLf : ∀ t, (getI L0 t).getD 0 = Lf t) (DL : DI w h₀ al L0) (hx : (⟨#[ch]⟩ : Str) ∈ tasksL) (hg : m "going" = some (.bool g))
    (F : Fr h₀ L s.heap m) (N : News h₀ L s.heap ((it, oi) :: news)) (RS : RunS w h₀ am0 T al y ty cm ct (some (.str ⟨#[ch]⟩ u)) c m news)
    (hQ0 : ∀ h' tk m', ¬ Enabled T Lf c ⟨#[ch]⟩ → Fr h₀ L h' m' → News h₀ L h' ((it, oi) :: news) → m' "going" = some (.bool g) → RunS w h₀ am0 T al y ty cm ct (some (.str ⟨#[ch]⟩ u)) c m' news → Q .next { s with heap := h', toks := tk })
    (hQ1 : ∀ h' tk m' news', Enabled T Lf c ⟨#[ch]⟩ → Fr h₀ L h' m' → News h₀ L h' ((it, oi) :: news') → m' "going" = some (.bool true) → RunS w h₀ am0 T al y ty cm ct (some (.str ⟨#[ch]⟩ u)) (bump c ⟨#[ch]⟩) m' news' → (∀ p ∈ news', p.1 ≠ it) → Q .next { s with heap := h', toks := tk }) :
    wpAny (model pw w) A (exec runIf (envOfC nm scRun L a cd)) Q E s := by
  cases A
  cases hh
  refine RunS.elim RS fun C bk oB dk oD am oK oM oT nw k1 k2 k3 k4 t1 t2 t3 t4 nB X => ?_
  clear RS
  obtain ⟨rfl, cM, cT, h1, h2, h3, bc, bd, dks, dD, dC, kK, nwc, ams, dK, sums⟩ := X
  subst hcm
  subst hct
  conv in runIf => whnf
  have NL := W.T.nolimit
  have hTB : IsTup s.heap bk #[.int k1 t1, .int k2 t2, .int k3 t3, .int k4 t4, .ref dk] := ⟨oB, (N _ (.tail _ (.tail _ (.tail _ (.head _))))).1, bc, nB, bd⟩
  have hdk := (N _ (.tail _ (.tail _ (.tail _ (.tail _ (.head _)))))).1
  have hod := dD
  obtain ⟨kD, hD1, hD2⟩ := dD
  have hdk' : s.heap.DictOf (PySem.strKind pw w) dk kD := Heap.dictOf_iff.mpr ⟨_, hdk, hD1⟩
  obtain ⟨als, oL, hoL, hDL⟩ := id DL
  obtain ⟨kL, hL1, hL2⟩ := id hDL
  have hdl : s.heap.DictOf (PySem.strKind pw w) al kL := Heap.dictOf_iff.mpr ⟨_, F.keep _ _ hoL, hL1⟩
  repeat walk1
  refine getM_get hdk' ?_
  repeat walk1
  refine get2_DI hdk dks hod (fun t5 => ?_)
  repeat walk1
  refine getM_get hdl ?_
  repeat walk1
  refine get2_DI (F.keep _ _ hoL) als hDL (fun t6 => ?_)
  iterate 2 walk1
  rw [dC.get, hLf]
  rename News _ _ _ _ => N
  by_cases hlt : ¬ c ⟨#[ch]⟩ < Lf ⟨#[ch]⟩
  · rw [if_neg (by simpa using hlt)]
    repeat walk1
    exact hQ0 _ _ _ (fun h => hlt h.1) F N hg ⟨C, bk, oB, dk, oD, am, oK, oM, oT, nw, k1, k2, k3, k4, t1, t2, t3, t4, nB, ⟨rfl, cM, cT, h1, h2, h3, bc, bd, dks, hod, dC, kK, nwc, ams, dK, sums⟩⟩
  rw [if_pos (by simpa using hlt)]
  have hlt := Decidable.not_not.mp hlt
  iterate 1 walk1
  have hatM := kK.get F (fun p hp => N p (.tail _ (.tail _ (.tail _ (.tail _ (.tail _ hp))))))
  have cTask : s.heap.IsCell (L + 2) (some (.str ⟨#[ch]⟩ u)) := ⟨oT, (N _ (.tail _ (.head _))).1, cT⟩
  refine comp_names (pr := Tie.b) rfl hT (by decide +kernel) (fun e he => ?_) F N hatM ams dK cTask (fun Q' h => ?_) (fun D1 h5 tk5 ys1 n1 F5 N5 hf5 hys1 => ?_)
  · obtain ⟨ca, cb, dd, ea, eb, en⟩ := G.nm e he
    exact ⟨cb, eb, by rw [en]; kernel_rfl⟩
  · iterate 1 walk1
    exact h
  show wpAny _ _ _ _ _ _
  iterate 1 walk1
  have cTask5 : h5.IsCell (L + 2) (some (.str ⟨#[ch]⟩ u)) := ⟨oT, (N5 _ (.tail _ (.tail _ (.head _)))).1, cT⟩
  have hatM5 := kK.get F5 (fun p hp => N5 p (.tail _ (.tail _ (.tail _ (.tail _ (.tail _ (.tail _ hp)))))))
  refine comp_names (s := { s with heap := h5, toks := tk5 }) (pr := Tie.a) rfl hT (by decide +kernel) (fun e he => ?_) F5 N5 hatM5 ams dK cTask5 (fun Q' h => ?_) (fun D2 h6 tk6 ys2 n2 F6 N6 hf6 hys2 => ?_)
  · obtain ⟨ca, cb, dd, ea, eb, en⟩ := G.nm e he
    exact ⟨ca, ea, by rw [en]; kernel_rfl⟩
  · iterate 1 walk1
    exact h
  show wpAny _ _ _ _ _ _
  iterate 3 walk1
  have cMarks6 : h6.IsCell (L + 1) (some (.ref am)) := ⟨oM, (N6 _ (.tail _ (.tail _ (.tail _ (.tail _ (.head _)))))).1, cM⟩
  have hatM6 := kK.get F6 (fun p hp => N6 p (.tail _ (.tail _ (.tail _ (.tail _ (.tail _ (.tail _ (.tail _ hp))))))))
  have hlf : (T.filter fun e => e.b == ⟨#[ch]⟩).length ≤ 100 := Nat.le_trans (List.length_filter_le _ _) hT
  have hlg : (T.filter fun e => e.a == ⟨#[ch]⟩).length ≤ 100 := Nat.le_trans (List.length_filter_le _ _) hT
  refine comp_zero (s := { s with heap := h6, toks := tk6 }) rfl hT (fun e he => (List.mem_filter.mp he).1) hlf G.nodup hatM6 dK cMarks6 (N6 _ (.tail _ (.head _))).1 hys1 (fun Q' h => ?_) (fun D3 h7 tk7 ys3 n3 hk7 hf7 hD3 hz => ?_)
  · iterate 1 walk1
    exact h
  have F7 := F6.keeps hk7
  have N7 := Mine.News.fresh_cons F6 hf7 hD3 (N6.keepsAll hk7)
  iterate 3 walk1
  rename Fr _ _ _ _ => F8
  rename News _ _ _ _ => N8
  refine eq_nil (items := ys3.toArray) ⟨_, (N8 _ (.tail _ (.head _))).1, rfl, _, rfl⟩ (N8.isList (.head _)) (Nat.lt_of_le_of_lt (Nat.le_add_right _ _) hu) ?_
  iterate 1 walk1
  have N8' : News h₀ L _ ((D2, lstO ys2 n2) :: (D1, lstO ys1 n1) :: (it, oi) :: (L + 2, oT) :: (L + 1, oM) :: (bk, oB) :: (dk, oD) :: nw) := fun p hp => N8 p (.tail _ (.tail _ hp))
  clear N8 N7 N6 N5 F5 F6 F7
  by_cases hen : ¬ ∀ e ∈ T.filter (fun e => e.b == ⟨#[ch]⟩), mk c e ≠ 0
  · rw [if_neg (by rw [List.size_toArray]; simpa using fun h => hen (hz.mp h))]
    repeat walk1
    refine hQ0 _ _ _ (fun h => hen fun e he => h.2 e (List.mem_filter.mp he).1 (by simpa using (List.mem_filter.mp he).2)) F8 (fun p hp => N8' p (.tail _ (.tail _ hp))) hg ⟨C, bk, oB, dk, oD, am, oK, oM, oT, nw, k1, k2, k3, k4, t1, t2, t3, t4, nB, ⟨rfl, cM, cT, h1, h2, h3, bc, bd, dks, hod, dC, kK, nwc, ams, dK, sums⟩⟩
  have hen := Decidable.not_not.mp hen
  rw [if_pos (by rw [List.size_toArray]; simpa using hz.mpr hen)]
  have hE : Enabled T Lf c ⟨#[ch]⟩ := ⟨hlt, fun e he hb => hen e (List.mem_filter.mpr ⟨he, by simpa using hb⟩)⟩
  refine run_do (al := al) (it := it) (n1 := n1) (n2 := n2) W hroom rfl G hT hx F8 (nAdd (N8' _ (.tail _ (.tail _ (.tail _ (.head _))))) (nAdd (N8' _ (.tail _ (.tail _ (.tail _ (.tail _ (.head _)))))) (nAdd (N8' _ (.tail _ (.head _))) (nAdd (N8' _ (.head _)) (nAdd (N8' _ (.tail _ (.tail _ (.head _)))) (nAdd (N8' _ (.tail _ (.tail _ (.tail _ (.tail _ (.tail _ (.head _))))))) (nAdd (N8' _ (.tail _ (.tail _ (.tail _ (.tail _ (.tail _ (.tail _ (.head _)))))))) (fun p hp => N8' p (.tail _ (.tail _ (.tail _ (.tail _ (.tail _ (.tail _ (.tail _ hp))))))))))))))) (by rfl) (by rfl) (by exact h3) cM cT hys1 hys2 bc bd dks hod dC kK nwc hoi ams dK sums (fun h' tk m' bk' oB' dk' oD' am' oK' oM' u1 u2 u3 u4 nB' F9 N9 mg9 mo9 mb9 cM9 bc9 bd9 dks9 dD9 ams9 dK9 e1 e2 e3 => ?_)
  show wpAny _ _ _ _ _ _
  repeat walk1
  obtain ⟨q1, q2, q3, q4⟩ := sums
  refine hQ1 _ _ m' _ hE F9 N9 mg9 ⟨_, _, _, _, _, _, _, _, _, _, _, _, _, _, _, _, _, _, _, rfl, cM9, cT, (mo9 _ (by decide) (by decide)).trans h1, (mo9 _ (by decide) (by decide)).trans h2, mb9, bc9, bd9, dks9, dD9, dC.bump hx, .inr (.head _), ?_, ams9, dK9, ?_⟩ (fun p hp => ?_)
  · intro p hp
    rw [List.mem_singleton.mp hp]
    exact dK9.not_cell
  · exact ⟨by rw [q1, sumT_bump c hx], by rw [q2, sumB_bump], by rw [q3, sumA_bump], by rw [q4, sumA_bump, sumB_bump]; omega⟩
  · simp only [List.mem_cons, List.not_mem_nil, or_false] at hp
    rcases hp with rfl | rfl | rfl | rfl | rfl
    · exact (ne_cell N9 (.tail _ (.head _)) cT (.head _) hoi).symm
    · exact (ne_cell N9 (.tail _ (.tail _ (.head _))) cM9 (.head _) hoi).symm
    · exact e1
    · exact e2
    · exact e3
end
theorem rec76 : defAt 76 "_law_run" ∈ recsOf qV := rec_of (by kernel_rfl)
theorem News.rot4 {h₀ h : Heap} {L : Addr} {a b c d : Addr × Obj} (N : News h₀ L h [a, b, c, d]) : News h₀ L h [c, d, a, b] := fun p hp => N p (by
  simp only [List.mem_cons, List.not_mem_nil, or_false] at hp ⊢
  rcases hp with h | h | h | h <;> simp [h])
theorem sums_zero (T : List Tie) : SumsOk T (fun _ => 0) 0 0 0 0 := by
  have hz : ∀ {α : Type} (l : List α), (l.map fun _ => (0 : Int)).sum = 0 := by
    intro α l
    induction l with
    | nil => rfl
    | cons x l ih => rw [List.map_cons, List.sum_cons, ih]; rfl
  unfold SumsOk sumT sumA sumB
  simp only [hz]
  decide
section
variable {w : World} {mean : ExcName → Option Value} {mg mb : Str → Option Value} {A : Around} {s : Shared} {Q : Value → Shared → Prop} {E : Value → Shared → Prop}
set_option maxHeartbeats 400000 in
theorem lrun (W : WG mean mg mb s.heap) (hroom : A.depth + 5 < recursionLimit) (hh : A.handled = none) (hu : A.units + 60 < cLine) {am al : Addr} {y : Str} {ty : Tok} {L0 : List (Str × Int)} {Lf : Str → Int} {T : List Tie} (G : GoodT T) (hT : T.length ≤ 100) (hLf : ∀ t, (getI L0 t).getD 0 = Lf t) (hL : ∀ t, 0 ≤ Lf t) (DM : DI w s.heap am (marksAt T fun _ => 0)) (DL : DI w s.heap al L0)
    (hy : ∀ c ∈ y.cps.toList, (⟨#[c]⟩ : Str) ∈ tasksL)
    (hQ : ∀ h' tk c C r bk dk mk' k1 k2 k3 k4 t1 t2 t3 t4, (∀ b o, s.heap.get? b = some o → h'.get? b = some o) → Reach T Lf c → (∀ x ∈ y.cps.toList, ¬ Enabled T Lf c ⟨#[x]⟩) → CInv C c → SumsOk T c k1 k2 k3 k4 →
      IsTup h' r #[.ref bk, .ref mk'] → IsTup h' bk #[.int k1 t1, .int k2 t2, .int k3 t3, .int k4 t4, .ref dk] → DI w h' dk C → DI w h' mk' (marksAt T c) → s.heap.get? r = none → s.heap.get? bk = none → s.heap.get? dk = none → (mk' = am ∨ s.heap.get? mk' = none) → Q (.ref r) { s with heap := h', toks := tk }) :
    ∃ f, mg "_law_run" = some (.ref f) ∧ wpAny (model pw w) A (call (.ref f) [.ref am, .ref al, .str y ty]) Q E s := by
  cases A
  cases hh
  obtain ⟨a, o, pm, code, doc, h1, h2, h3, h4⟩ := W.T.fn _ rec76
  rw [scRun_eq] at h3
  refine ⟨a, h1, wpAny_call (call_cellsN_ret (scope := scRun) (Nat.lt_of_le_of_lt (Nat.le_add_right _ _) hroom) h2 h3 W.T.nolimit h4 (binds := [("marks", .ref am), ("leaves", .ref al), ("order", .str y ty)]) (by kernel_rfl) ?_ (by decide) (fun h₁ tk cells F N X => ?_) (by kernel_rfl) (by kernel_rfl) (by kernel_rfl))⟩
  · intro x hx
    rcases List.mem_cons.mp hx with rfl | hx
    · exact .inr ⟨by kernel_rfl, by kernel_rfl⟩
    · rcases List.mem_cons.mp hx with rfl | hx
      · exact .inl (by kernel_rfl)
      · rw [List.mem_singleton.mp hx]
        exact .inl (by kernel_rfl)
  conv in (DefRec.body _) => whnf
  have NL := W.T.nolimit
  have ec : cellsFrom (s.heap.objs.size + 1) scRun.names [] = [(("task" : Str), s.heap.objs.size + 2), (("marks" : Str), s.heap.objs.size + 1)] := by kernel_rfl
  rw [ec] at X
  obtain ⟨oT, oM, rfl, hT1, hM⟩ := X.two
  have hM' : oM.data = .cell (some (.ref am)) := hM
  clear hM
  have hT' : oT.data = .cell none := hT1
  clear hT1 X
  iterate 21 walk1
  rename Fr _ _ _ _ => F5
  rename News _ _ _ _ => N5
  rename Obj.IsDictOf (strKind pw w) _ _ => hdict
  rename (_ == sysModules) = false => hsys
  obtain ⟨hams, oam, hoam, hDam⟩ := id DM
  refine While_inv (h₀ := s.heap) (L := s.heap.objs.size) (fun n m news => ∃ going c tv, n = 2 * remL Lf c + (if going then 1 else 0) ∧ m "going" = some (.bool going) ∧ Reach T Lf c ∧
    (going = false → ∀ x ∈ y.cps.toList, ¬ Enabled T Lf c ⟨#[x]⟩) ∧ RunS w s.heap am T al y ty (s.heap.objs.size + 1) (s.heap.objs.size + 2) tv c m news) (n₀ := 2 * remL Lf (fun _ => 0) + 1) F5 (Mine.News.rot4 N5) ?_ ?_
  · exact ⟨true, fun _ => 0, none, by kernel_rfl, by kernel_rfl, .zero, fun h => Bool.noConfusion h, [], _, _, _, _, am, oam, oM, oT, [], 0, 0, 0, 0, _, _, _, _, _, rfl, hM', hT', by kernel_rfl, by kernel_rfl, by kernel_rfl, rfl, rfl, hsys, ⟨_, hdict, .nil⟩, .nil, .inl ⟨hoam, rfl⟩, List.forall_mem_nil _, hams, hDam, sums_zero T⟩
  clear F5 N5
  rintro n m news h₁' tk1 F1 N1 ⟨going, c, tv, rfl, hgo, hR, hst, hRS⟩
  iterate 3 walk1
  cases going with
  | false =>
    rw [if_neg (by decide)]
    refine RunS.elim hRS fun C bk oB dk oD am' oK oM' oT' nw k1 k2 k3 k4 t1 t2 t3 t4 nB X => ?_
    clear hRS
    obtain ⟨rfl, cM, cT, h1', h2', h3', bc, bd, dks, dD, dC, kK, nwc, ams, dK, sums⟩ := X
    show wpAny _ _ _ _ _ _
    repeat walk1
    rename Fr _ _ _ _ => F3
    rename News _ _ _ _ => N3
    exact hQ _ _ c C _ bk dk am' k1 k2 k3 k4 t1 t2 t3 t4 F3.keep hR (hst rfl) dC sums (N3.isTup (.head _)) ⟨oB, (N3 _ (.tail _ (.tail _ (.tail _ (.head _))))).1, bc, nB, bd⟩ ⟨dks, oD, (N3 _ (.tail _ (.tail _ (.tail _ (.tail _ (.head _)))))).1, dD⟩ ⟨ams, oK, kK.get F3 (fun p hp => N3 p (.tail _ (.tail _ (.tail _ (.tail _ (.tail _ hp)))))), dK⟩ (N3 _ (.head _)).2.2 (N3 _ (.tail _ (.tail _ (.tail _ (.head _))))).2.2 (N3 _ (.tail _ (.tail _ (.tail _ (.tail _ (.head _)))))).2.2 (kK.elim (fun h => .inl h.2) fun h => .inr (N3 _ (.tail _ (.tail _ (.tail _ (.tail _ (.tail _ h)))))).2.2)
  | true =>
    rw [if_pos rfl]
    iterate 5 walk1
    rename Fr _ _ _ _ => F2
    rename News _ _ _ _ => N2
    refine for_str (h₀ := s.heap) (y := y) (t := ty) rfl F2 N2 (fun Q' h => ?_) (fun i m news => ∃ c' g' tv, Reach T Lf c' ∧ m "going" = some (.bool g') ∧ RunS w s.heap am T al y ty (s.heap.objs.size + 1) (s.heap.objs.size + 2) tv c' m news ∧ (g' = true → remL Lf c' < remL Lf c) ∧
      (g' = false → c' = c ∧ ∀ j x, j < i → y.cps[j]? = some x → ¬ Enabled T Lf c ⟨#[x]⟩)) ?_ ?_ ?_
    · refine RunS.elim hRS fun C bk oB dk oD am' oK oM' oT' nw k1 k2 k3 k4 t1 t2 t3 t4 nB hrs => ?_
      clear hRS
      have ho := hrs.order
      iterate 1 walk1
      exact h _
    · refine ⟨c, false, tv, hR, by rfl, ?_, fun h => Bool.noConfusion h, fun _ => ⟨rfl, fun j x h => absurd h (Nat.not_lt_zero _)⟩⟩
      refine RunS.elim hRS fun C bk oB dk oD am' oK oM' oT' nw k1 k2 k3 k4 t1 t2 t3 t4 nB X => ?_
      clear hRS
      obtain ⟨rfl, cM, cT, h1', h2', h3', bc, bd, dks, dD, dC, kK, nwc, ams, dK, sums⟩ := X
      exact ⟨C, bk, oB, dk, oD, am', oK, oM', oT', nw, k1, k2, k3, k4, t1, t2, t3, t4, nB, ⟨rfl, cM, cT, h1', h2', h3', bc, bd, dks, dD, dC, kK, nwc, ams, dK, sums⟩⟩
    · rintro i ch u m₁ news₁ s₁ it oi hch ⟨c', g', tv', hR', hg', hRS', hg1, hg2⟩ hoff hoi F₁ N₁
      refine RunS.elim hRS' fun C bk oB dk oD am' oK oM' oT' nw k1 k2 k3 k4 t1 t2 t3 t4 nB X => ?_
      clear hRS'
      obtain ⟨rfl, cM, cT, h1', h2', h3', bc, bd, dks, dD, dC, kK, nwc, ams, dK, sums⟩ := X
      have hx : (⟨#[ch]⟩ : Str) ∈ tasksL := hy ch (by simpa using Array.mem_of_getElem? hch)
      refine wpAny_assign_Name (stCN (own := [(it, oi)]) F₁ N₁ rfl cT (fun p hp => ?_) (fun p hp => ?_) (fun h7 oT7 F7 N7 cT7 => ?_))
      · rw [List.mem_singleton.mp hp]
        exact ne_cell N₁ (.tail _ (.head _)) cT (.head _) hoi
      · rcases List.mem_cons.mp hp with rfl | hp
        · exact Nat.ne_of_lt (Nat.lt_succ_self _)
        · refine ne_cell N₁ (.tail _ (.head _)) cT (.tail _ (.tail _ (.tail _ hp))) ?_
          rcases List.mem_cons.mp hp with rfl | hp
          · rw [bd]; exact fun _ h => Data.noConfusion h
          · rcases List.mem_cons.mp hp with rfl | hp
            · exact dD.not_cell
            · exact nwc p hp
      iterate 1 walk1
      have hoff' : ∀ o1 : Obj, ∀ p ∈ (s.heap.objs.size + 2, o1) :: (s.heap.objs.size + 1, oM') :: (bk, oB) :: (dk, oD) :: nw, p.1 ∉ [it] := fun o1 p hp h => by
        rcases List.mem_cons.mp hp with rfl | hp
        · exact hoff _ (.head _) (List.mem_singleton.mp h)
        · exact hoff p (.tail _ hp) (List.mem_singleton.mp h)
      refine run_if (Lf := Lf) (c := c') (g := g') W (Nat.lt_of_le_of_lt (Nat.le_of_eq (by show _ + 1 + 4 = _ + 5; omega)) hroom) rfl (Nat.lt_of_le_of_lt (by show _ + 3 + 50 ≤ _ + 60; omega) hu) hoi rfl rfl G hT hLf DL hx hg' F7 N7 ⟨C, bk, oB, dk, oD, am', oK, oM', oT7, nw, k1, k2, k3, k4, t1, t2, t3, t4, nB, ⟨rfl, cM, cT7, h1', h2', h3', bc, bd, dks, dD, dC, kK, nwc, ams, dK, sums⟩⟩
        (fun h8 tk8 m8 hne F8 N8 hg8 hRS8 => ?_) (fun h8 tk8 m8 nw8 hen F8 N8 hg8 hRS8 hoff8 => ?_)
      · show wpAny _ _ _ _ _ _
        repeat walk1
        refine .intro F8 N8 (hoff' _) ⟨c', g', _, hR', hg8, hRS8, hg1, fun h => ⟨(hg2 h).1, fun j x hj hx2 => ?_⟩⟩
        obtain ⟨e1, e2⟩ := hg2 h
        subst e1
        rcases Nat.lt_or_eq_of_le (Nat.le_of_lt_succ hj) with hj | rfl
        · exact e2 j x hj hx2
        · rw [hch] at hx2
          cases hx2
          exact hne
      · show wpAny _ _ _ _ _ _
        repeat walk1
        have hRb := Reach.step hR' hx hen.1 hen.2
        have hrem := rem_bump hL hRb hx
        refine .intro F8 N8 (fun p hp h => hoff8 p hp (List.mem_singleton.mp h)) ⟨_, true, _, hRb, hg8, hRS8, fun _ => ?_, fun h => Bool.noConfusion h⟩
        cases g' with
        | true => exact Nat.lt_trans hrem (hg1 rfl)
        | false => rw [(hg2 rfl).1] at hrem ⊢; exact hrem
    · rintro h6 tk6 m6 news6 F6 N6 ⟨c', g', tv', hR', hg', hRS', hg1, hg2⟩
      show wpAny _ _ _ _ _ _
      repeat walk1
      refine .intro F6 N6 ?_ ⟨g', c', tv', rfl, hg', hR', fun h x hx => ?_, hRS'⟩
      · cases g' with
        | true =>
          have := hg1 rfl
          simp only [if_true]
          omega
        | false =>
          rw [(hg2 rfl).1]
          simp
      · obtain ⟨e1, e2⟩ := hg2 h
        obtain ⟨j, hj⟩ := List.getElem?_of_mem hx
        rw [e1]
        have hj' : y.cps[j]? = some x := by simpa using hj
        exact e2 j x (Array.getElem?_eq_some_iff.mp hj').1 hj'
end
section
variable {w : World} {A : Around} {s : Shared} {E : Value → Shared → Prop} {env : Env} {h₀ : Heap} {m : Str → Option Value} {ns : List (Addr × Obj)} {Q : Unit → Shared → Prop}
theorem unpack3 {n1 n2 n3 : Str} {p1 p2 p3 pos : Pos} {k : Nat} {p : Addr} {x y z : Value} (F : Fr h₀ env.locals s.heap m) (N : News h₀ env.locals s.heap ns) (ht : IsTup s.heap p #[x, y, z]) (hh : A.handled = none)
    (h : ∀ h' tk, Fr h₀ env.locals h' (fun q => if q = n3 then some z else if q = n2 then some y else if q = n1 then some x else m q) → News h₀ env.locals h' ns → Q () { s with heap := h', toks := tk })
    (h1 : env.kindOf n1 = some .local := by rfl) (h2 : env.kindOf n2 = some .local := by rfl) (h3 : env.kindOf n3 = some .local := by rfl)
    (hp : (env.scope.kind == .class || (env.scope.kind == .module && env.locals != env.globals)) = false := by rfl) :
    wpAny (model pw w) A (assign (.Tuple [.Name n1 p1, .Name n2 p2, .Name n3 p3] k pos) env (.ref p)) Q E s := by
  refine unpackN_ F N ht hh rfl rfl (fun h' F' N' => ?_)
  show wpAny _ _ (assignInOrder [assign (.Name n1 p1) env, assign (.Name n2 p2) env, assign (.Name n3 p3) env] [x, y, z]) _ _ _
  refine assignInOrder_cons (wpAny_assign_Name (wpAny_storeName_local h1 F'.ns (fun g1 hn1 hs1 => ?_) hp))
  have F1 := F'.set hn1 hs1
  have N1 := N'.set hs1
  refine assignInOrder_cons (wpAny_assign_Name (wpAny_storeName_local h2 F1.ns (fun g2 hn2 hs2 => ?_) hp))
  have F2 := F1.set hn2 hs2
  have N2 := N1.set hs2
  refine assignInOrder_cons (wpAny_assign_Name (wpAny_storeName_local h3 F2.ns (fun g3 hn3 hs3 => ?_) hp))
  exact assignInOrder_nil (h g3 _ (F2.set hn3 hs3) (N2.set hs3))
theorem unpack2 {n1 n2 : Str} {p1 p2 pos : Pos} {k : Nat} {p : Addr} {x y : Value} (F : Fr h₀ env.locals s.heap m) (N : News h₀ env.locals s.heap ns) (ht : IsTup s.heap p #[x, y]) (hh : A.handled = none)
    (h : ∀ h' tk, Fr h₀ env.locals h' (fun q => if q = n2 then some y else if q = n1 then some x else m q) → News h₀ env.locals h' ns → Q () { s with heap := h', toks := tk })
    (h1 : env.kindOf n1 = some .local := by rfl) (h2 : env.kindOf n2 = some .local := by rfl)
    (hp : (env.scope.kind == .class || (env.scope.kind == .module && env.locals != env.globals)) = false := by rfl) :
    wpAny (model pw w) A (assign (.Tuple [.Name n1 p1, .Name n2 p2] k pos) env (.ref p)) Q E s := by
  refine unpackN_ F N ht hh rfl rfl (fun h' F' N' => ?_)
  show wpAny _ _ (assignInOrder [assign (.Name n1 p1) env, assign (.Name n2 p2) env] [x, y]) _ _ _
  refine assignInOrder_cons (wpAny_assign_Name (wpAny_storeName_local h1 F'.ns (fun g1 hn1 hs1 => ?_) hp))
  have F1 := F'.set hn1 hs1
  have N1 := N'.set hs1
  refine assignInOrder_cons (wpAny_assign_Name (wpAny_storeName_local h2 F1.ns (fun g2 hn2 hs2 => ?_) hp))
  exact assignInOrder_nil (h g2 _ (F1.set hn2 hs2) (N1.set hs2))
end
theorem TurnU.introCons {h₀ h' : Heap} {C : Addr} {wr : List Addr} {own nb : List (Addr × Obj)} {q : Addr × Obj} {Jn : List (Addr × Obj) → Prop} {s₁ : Shared} {tk : Nat} {m₂ : Str → Option Value}
    (F : Fr h₀ C h' m₂) (N : News h₀ C h' (q :: (own ++ nb))) (hq : q.1 ∉ wr) (ha : ∀ p ∈ nb, p.1 ∉ wr) (hJ : Jn (q :: nb)) : TurnU h₀ C wr own Jn s₁ { s₁ with heap := h', toks := tk } := by
  refine .intro (news₂ := q :: nb) F (fun p hp => N p ?_) (fun p hp => ?_) hJ
  · rcases List.mem_append.mp hp with hp | hp
    · exact .tail _ (List.mem_append_left _ hp)
    · rcases List.mem_cons.mp hp with rfl | hp
      · exact .head _
      · exact .tail _ (List.mem_append_right _ hp)
  · rcases List.mem_cons.mp hp with rfl | hp
    · exact hq
    · exact ha p hp
noncomputable def TieV (h : Heap) (v : Value) (e : Tie) : Prop := ∃ p t1 t2 t3, v = .ref p ∧ IsTup h p #[.str e.a t1, .str e.b t2, .int e.w t3]
theorem TieV.keeps {h h' : Heap} {v : Value} {e : Tie} (x : TieV h v e) (k : ∀ b o, h.get? b = some o → h'.get? b = some o) : TieV h' v e :=
  let ⟨p, t1, t2, t3, e1, e2⟩ := x; ⟨p, t1, t2, t3, e1, e2.keeps k⟩
noncomputable def bareL (T : List Tie) : List (Str × Str) := (T.filter fun e => e.w == 0).map fun e => (e.a, e.b)
noncomputable def BareV (nb : List (Addr × Obj)) (v : Value) (e : Str × Str) : Prop := ∃ p o t1 t2 n, v = .ref p ∧ (p, o) ∈ nb ∧ o.cls = .type "tuple" ∧ o.data = .seq #[.str e.1 t1, .str e.2 t2] n
theorem BareV.more {nb nb' : List (Addr × Obj)} {v : Value} {e : Str × Str} (x : BareV nb v e) (k : ∀ p ∈ nb, p ∈ nb') : BareV nb' v e :=
  let ⟨p, o, t1, t2, n, e1, e2, r⟩ := x; ⟨p, o, t1, t2, n, e1, k _ e2, r⟩
theorem All2.imp {α β : Type} {R R' : α → β → Prop} (f : ∀ a b, R a b → R' a b) {l : List α} {m : List β} (h : All2 R l m) : All2 R' l m := by
  induction h with
  | nil => exact .nil
  | cons h _ ih => exact .cons (f _ _ h) ih
noncomputable def scOften : Scope := { kind := .function, names := [("ties", .local), ("leaves", .local), ("a", .local), ("b", .local), ("size", .local), ("bare", .local), ("often", .local), ("task", .cell), ("reached", .cell), ("step", .local), ("range", .globalImplicit), ("min", .globalImplicit)], isGenerator := false, isCoroutine := false, more := (defAt 77 "_law_often").scope.more }
theorem scOften_eq : (defAt 77 "_law_often").scope = scOften := by kernel_rfl
theorem rec77 : defAt 77 "_law_often" ∈ recsOf qV := rec_of (by kernel_rfl)
noncomputable def stOften (i : Nat) : Stmt := (((defAt 77 "_law_often").body)[i]?).getD (.Pass default)
section
variable {w : World} {A : Around} {s : Shared} {E : Value → Shared → Prop} {Q : Flow → Shared → Prop}
set_option maxHeartbeats 400000 in
theorem comp_bare {h₀ : Heap} {L a at' : Addr} {nm : Str} {cd : Value} {m : Str → Option Value} {news : List (Addr × Obj)} {T : List Tie} {items : Array Value}
    (hh : A.handled = none) (hT : T.length ≤ 100) (F : Fr h₀ L s.heap m) (N : News h₀ L s.heap news) (hl : s.heap.IsList at' items) (hi : All2 (TieV s.heap) items.toList T) (mt : m "ties" = some (.ref at'))
    (hQ : ∀ D h' tk ys n nb, Fr h₀ L h' (fun z => if z = "bare" then some (.ref D) else m z) → News h₀ L h' ((D, lstO ys n) :: (news ++ nb)) → (∀ p ∈ nb, ∃ its n, p.2.data = .seq its n) → All2 (BareV nb) ys (bareL T) → Q .next { s with heap := h', toks := tk }) :
    wpAny (model pw w) A (exec (stOften 0) (envOfC nm scOften L a cd)) Q E s := by
  cases A
  cases hh
  conv in stOften 0 => whnf
  have hsz : items.size = T.length := by rw [← hi.length, Array.length_toList]
  refine lc_assign F.ns (by rfl) (by rfl) (by with_unfolding_all rfl) (cl := []) (by with_unfolding_all rfl) (by decide) (by rfl) (by decide) ?_ (by intro _; rfl)
  iterate 1 walk1
  refine wpAny_pyIter_list hl ?_
  refine ⟨_, _, _, _, _, _, fun i ys nb => (∀ p ∈ nb, ∃ its n, p.2.data = .seq its n) ∧ All2 (BareV nb) ys (bareL (T.take i)), rfl, SrcU.list rfl hl (fun _ _ e => e) (Nat.le_refl _) (by rw [hsz]; exact Nat.le_trans hT (by decide)), ?_, fun E' i s' v Q' st h => letGo_listiter st.1 h, ⟨List.forall_mem_nil _, .nil⟩, ?_, ?_⟩
  · show _ ≤ (s.heap.push _).objs.size
    rw [Heap.size_push]; exact Nat.le_succ _
  · rintro C1 D i v ys nb m₁ s₁ own E' hi2 hv ⟨hnc, hys⟩ hoff hsub ⟨oD, hD⟩ F₁ N₁
    have hv' : items.toList[i]? = some v := by simpa using hv
    obtain ⟨e, he, p, t1, t2, t3, rfl, hp⟩ := hi.at hv'
    refine unpack3 F₁ N₁ (hp.keeps F₁.keep) rfl (fun h2 tk2 F₂ N₂ => ?_)
    refine wpAny_tests_one ?_
    iterate 5 walk1
    have ht : T.take (i + 1) = T.take i ++ [e] := by rw [List.take_add_one, he]; rfl
    by_cases hb : e.w = 0
    · rw [if_pos (by simpa using hb)]
      repeat walk1
      rename Fr _ _ _ _ => F₃
      rename News _ _ _ _ => N₃
      refine TurnU.introCons F₃ N₃ (fun hm => ?_) hoff ⟨fun q hq => ?_, ?_⟩
      · skip
        have h1 := Heap.lt_size (N₂ _ (List.mem_append_left _ hD)).1
        have h2 := F₂.ns.lt
        have h3 := F₂.above
        rcases List.mem_cons.mp hm with e | hm
        · exact Nat.lt_irrefl _ (Nat.lt_of_lt_of_eq h1 e)
        · have e := List.mem_singleton.mp hm
          exact Nat.lt_irrefl _ (Nat.lt_of_le_of_lt h3 (Nat.lt_of_lt_of_eq h2 e))
      · rcases List.mem_cons.mp hq with rfl | hq
        · exact ⟨_, _, rfl⟩
        · exact hnc q hq
      · unfold bareL at hys ⊢
        rw [ht, List.filter_append, List.map_append]
        have : (([e].filter fun e => e.w == 0).map fun e => (e.a, e.b)) = [(e.a, e.b)] := by rw [List.filter_cons_of_pos (by simpa using hb)]; rfl
        rw [this]
        exact (hys.imp (fun _ _ h => h.more fun _ h => .tail _ h)).snoc ⟨_, _, _, _, _, rfl, .head _, rfl, rfl⟩
    · rw [if_neg (by simpa using hb)]
      refine .intro F₂ N₂ hoff ⟨hnc, ?_⟩
      unfold bareL at hys ⊢
      rw [ht, List.filter_append, List.map_append]
      have : (([e].filter fun e => e.w == 0).map fun e => (e.a, e.b)) = [] := by rw [List.filter_cons_of_neg (by simpa using hb)]; rfl
      rw [this, List.append_nil]
      exact hys
  · intro D h5 tk5 ys nb hns hk5 hD5 ⟨n, hpl⟩ hnb ⟨hnc, hys⟩
    rw [hsz, List.take_length] at hys
    obtain ⟨F5, N5⟩ := comp_done F N hns hk5
    refine hQ D h5 tk5 ys n nb F5 (Mine.News.fresh_cons F hD5 hpl (fun p hp => ?_)) hnc hys
    rcases List.mem_append.mp hp with hp | hp
    · exact N5 p hp
    · obtain ⟨q1, q2, q3⟩ := hnb p hp
      refine ⟨q1, fun e => ?_, fresh_old F.keep q2⟩
      obtain ⟨oL, _, _, hoL, _⟩ := F.ns
      rw [e, hoL] at q2
      cases q2
end
noncomputable def BareAt (h : Heap) (v : Value) (e : Str × Str) : Prop := ∃ p t1 t2, v = .ref p ∧ IsTup h p #[.str e.1 t1, .str e.2 t2]
theorem BareAt.keeps {h h' : Heap} {v : Value} {e : Str × Str} (x : BareAt h v e) (k : ∀ b o, h.get? b = some o → h'.get? b = some o) : BareAt h' v e :=
  let ⟨p, t1, t2, e1, e2⟩ := x; ⟨p, t1, t2, e1, e2.keeps k⟩
theorem BareV.at {h : Heap} {nb : List (Addr × Obj)} {v : Value} {e : Str × Str} (x : BareV nb v e) (N : ∀ p ∈ nb, h.get? p.1 = some p.2) : BareAt h v e :=
  let ⟨p, o, t1, t2, n, e1, e2, e3, e4⟩ := x; ⟨p, t1, t2, e1, o, N _ e2, e3, n, e4⟩
noncomputable def reach0 (B : List (Str × Str)) (t : Str) : List Str := (B.filter fun e => e.1 == t).map (·.2)
noncomputable def reachN (B : List (Str × Str)) (r : List Str) : List Str := (B.filter fun e => r.contains e.1 && !r.contains e.2).map (·.2)
section
variable {w : World} {A : Around} {s : Shared} {E : Value → Shared → Prop} {Q : Value → Shared → Prop}
set_option maxHeartbeats 400000 in
theorem comp_r0 {L a D1 : Addr} {nm x : Str} {u : Tok} {cd : Value} {B : List (Str × Str)} {ys1 : List Value} {n1 : Nat} {k : Nat} {p1 p2 p3 p4 p5 p6 p7 p8 pos : Pos}
    (hh : A.handled = none) (hB : B.length ≤ 100) (hl : s.heap.get? D1 = some (lstO ys1 n1)) (hys : All2 (BareAt s.heap) ys1 B) (cTask : s.heap.IsCell (L + 1) (some (.str x u)))
    (hA : ∀ Q' : Value → Shared → Prop, Q' (.ref D1) s → wpAny (model pw w) A (eval (.Name "bare" p5) (envOfC nm scOften L a cd)) Q' E s)
    (hQ : ∀ D h' tk ys n, (∀ b o, s.heap.get? b = some o → h'.get? b = some o) → s.heap.get? D = none → h'.get? D = some (lstO ys n) → All2 StrV ys (reach0 B x) → Q (.ref D) { s with heap := h', toks := tk }) :
    wpAny (model pw w) A (eval (.ListComp (.Name "b" p1) [⟨.Tuple [.Name "a" p2, .Name "b" p3] k p4, .Name "bare" p5, [.Compare (.Name "a" p6) [.Eq] [.Name "task" p7] p8], 0⟩] { kind := .function, names := [(".0", .local), ("a", .local), ("b", .local), ("task", .free)], isGenerator := false, isCoroutine := false } pos) (envOfC nm scOften L a cd)) Q E s := by
  have hil : s.heap.IsList D1 ys1.toArray := ⟨_, hl, rfl, _, rfl⟩
  have hlen : ys1.toArray.size = B.length := by rw [List.size_toArray, hys.length]
  refine lc_eval (cl := [("task", L + 1)]) (by with_unfolding_all rfl) (by decide) (by rfl) (by decide) (hA _ ?_) (by intro _; rfl)
  refine wpAny_pyIter_list hil ?_
  refine ⟨_, _, _, _, _, _, fun i ys news => news = [] ∧ All2 StrV ys (reach0 (B.take i) x), rfl, SrcU.list hh hil (fun _ _ e => e) (Nat.le_refl _) (by rw [hlen]; exact Nat.le_trans hB (by decide)), ?_, fun E' i s' v Q' st h => letGo_listiter st.1 h, ⟨rfl, .nil⟩, ?_, ?_⟩
  · show _ ≤ (s.heap.push _).objs.size
    rw [Heap.size_push]; exact Nat.le_succ _
  · rintro C1 D i v ys _ m₁ s₁ own E' hi2 hv ⟨rfl, hz⟩ hoff hsub hown F₁ N₁
    have hv' : ys1[i]? = some v := by simpa using hv
    obtain ⟨e, he, p, t1, t2, rfl, hp⟩ := hys.at hv'
    have ht : B.take (i + 1) = B.take i ++ [e] := by rw [List.take_add_one, he]; rfl
    refine unpack2 F₁ N₁ (hp.keeps F₁.keep) hh (fun h2 tk2 F₂ N₂ => ?_)
    refine wpAny_tests_one ?_
    iterate 5 walk1
    rename Fr _ _ _ _ => F₃
    rename News _ _ _ _ => N₃
    have hnext : reach0 (B.take (i + 1)) x = reach0 (B.take i) x ++ (if e.1 == x then [e.2] else []) := by
      unfold reach0
      rw [ht, List.filter_append, List.map_append]
      congr 1
      cases hc : e.1 == x
      · rw [List.filter_cons_of_neg (by simpa using hc)]; rfl
      · rw [List.filter_cons_of_pos (by simpa using hc)]; rfl
    cases hb : e.1 == x with
    | true =>
      rw [if_pos rfl]
      iterate 1 walk1
      refine .intro F₃ N₃ (fun _ h => nomatch h) ⟨rfl, ?_⟩
      rw [hnext, hb, if_pos rfl]
      exact hz.snoc ⟨_, rfl⟩
    | false =>
      rw [if_neg (by decide)]
      refine .intro F₃ N₃ (fun _ h => nomatch h) ⟨rfl, ?_⟩
      rw [hnext, hb, if_neg (by decide), List.append_nil]
      exact hz
  · intro D h5 tk5 ys _ hk5 hD5 ⟨n, hpl⟩ _ ⟨_, hz⟩
    rw [hlen, List.take_length] at hz
    exact hQ D h5 tk5 ys n hk5 hD5 hpl hz
theorem in_strs {l : Addr} {ys : List Value} {xs : List Str} {x : Str} {u : Tok} (hl : s.heap.IsList l ys.toArray) (hys : All2 StrV ys xs) (h : Q (.bool (xs.contains x)) s) : wpAny (model pw w) A (compareOp .In (.str x u) (.ref l)) Q E s := by
  refine SeqAt.in_listAt (fun v => match v with | .str y _ => y == x | _ => false) hl (fun y hy => ?_) ?_
  · have hy' : y ∈ ys := by simpa using hy
    obtain ⟨i, hi⟩ := List.getElem?_of_mem hy'
    obtain ⟨z, _, t, rfl⟩ := hys.at hi
    exact SeqAt.EqAt.str_str _ _ _ _
  · have : (ys.toArray.any fun v => match v with | .str y _ => y == x | _ => false) = xs.contains x := by
      rw [List.any_toArray]
      clear h hl
      induction hys with
      | nil => rfl
      | @cons v y ys xs hv _ ih =>
        obtain ⟨t, rfl⟩ := hv
        rw [List.any_cons, ih, List.contains_cons]
        congr 1
        exact Bool.eq_iff_iff.mpr ⟨fun h => by rw [beq_iff_eq] at h ⊢; exact h.symm, fun h => by rw [beq_iff_eq] at h ⊢; exact h.symm⟩
    rw [this]
    exact h
theorem notIn_strs {l : Addr} {ys : List Value} {xs : List Str} {x : Str} {u : Tok} (hl : s.heap.IsList l ys.toArray) (hys : All2 StrV ys xs) (h : Q (.bool (!xs.contains x)) s) : wpAny (model pw w) A (compareOp .NotIn (.str x u) (.ref l)) Q E s := by
  refine SeqAt.notIn_listAt (fun v => match v with | .str y _ => y == x | _ => false) hl (fun y hy => ?_) ?_
  · have hy' : y ∈ ys := by simpa using hy
    obtain ⟨i, hi⟩ := List.getElem?_of_mem hy'
    obtain ⟨z, _, t, rfl⟩ := hys.at hi
    exact SeqAt.EqAt.str_str _ _ _ _
  · have : (ys.toArray.any fun v => match v with | .str y _ => y == x | _ => false) = xs.contains x := by
      rw [List.any_toArray]
      clear h hl
      induction hys with
      | nil => rfl
      | @cons v y ys xs hv _ ih =>
        obtain ⟨t, rfl⟩ := hv
        rw [List.any_cons, ih, List.contains_cons]
        congr 1
        exact Bool.eq_iff_iff.mpr ⟨fun h => by rw [beq_iff_eq] at h ⊢; exact h.symm, fun h => by rw [beq_iff_eq] at h ⊢; exact h.symm⟩
    rw [this]
    exact h
set_option maxHeartbeats 400000 in
theorem comp_r1 {L a D1 D2 : Addr} {nm : Str} {cd : Value} {B : List (Str × Str)} {R : List Str} {ys1 ys2 : List Value} {n1 n2 : Nat} {k : Nat} {p1 p2 p3 p4 p5 p6 p7 p8 p9 p10 p11 p12 pos : Pos}
    (hh : A.handled = none) (hB : B.length ≤ 100) (hl : s.heap.get? D1 = some (lstO ys1 n1)) (hys : All2 (BareAt s.heap) ys1 B) (hl2 : s.heap.get? D2 = some (lstO ys2 n2)) (hys2 : All2 StrV ys2 R) (cR : s.heap.IsCell (L + 2) (some (.ref D2)))
    (hA : ∀ Q' : Value → Shared → Prop, Q' (.ref D1) s → wpAny (model pw w) A (eval (.Name "bare" p5) (envOfC nm scOften L a cd)) Q' E s)
    (hQ : ∀ D h' tk ys n, (∀ b o, s.heap.get? b = some o → h'.get? b = some o) → s.heap.get? D = none → h'.get? D = some (lstO ys n) → All2 StrV ys (reachN B R) → Q (.ref D) { s with heap := h', toks := tk }) :
    wpAny (model pw w) A (eval (.ListComp (.Name "b" p1) [⟨.Tuple [.Name "a" p2, .Name "b" p3] k p4, .Name "bare" p5, [.BoolOp .And [.Compare (.Name "a" p6) [.In] [.Name "reached" p7] p8, .Compare (.Name "b" p9) [.NotIn] [.Name "reached" p10] p11] p12], 0⟩] { kind := .function, names := [(".0", .local), ("a", .local), ("b", .local), ("reached", .free)], isGenerator := false, isCoroutine := false } pos) (envOfC nm scOften L a cd)) Q E s := by
  have hil : s.heap.IsList D1 ys1.toArray := ⟨_, hl, rfl, _, rfl⟩
  have hil2 : s.heap.IsList D2 ys2.toArray := ⟨_, hl2, rfl, _, rfl⟩
  have hlen : ys1.toArray.size = B.length := by rw [List.size_toArray, hys.length]
  refine lc_eval (cl := [("reached", L + 2)]) (by with_unfolding_all rfl) (by decide) (by rfl) (by decide) (hA _ ?_) (by intro _; rfl)
  refine wpAny_pyIter_list hil ?_
  refine ⟨_, _, _, _, _, _, fun i ys news => news = [] ∧ All2 StrV ys (reachN (B.take i) R), rfl, SrcU.list hh hil (fun _ _ e => e) (Nat.le_refl _) (by rw [hlen]; exact Nat.le_trans hB (by decide)), ?_, fun E' i s' v Q' st h => letGo_listiter st.1 h, ⟨rfl, .nil⟩, ?_, ?_⟩
  · show _ ≤ (s.heap.push _).objs.size
    rw [Heap.size_push]; exact Nat.le_succ _
  · rintro C1 D i v ys _ m₁ s₁ own E' hi2 hv ⟨rfl, hz⟩ hoff hsub hown F₁ N₁
    have hv' : ys1[i]? = some v := by simpa using hv
    obtain ⟨e, he, p, t1, t2, rfl, hp⟩ := hys.at hv'
    have ht : B.take (i + 1) = B.take i ++ [e] := by rw [List.take_add_one, he]; rfl
    refine unpack2 F₁ N₁ (hp.keeps F₁.keep) hh (fun h2 tk2 F₂ N₂ => ?_)
    refine wpAny_tests_one ?_
    iterate 4 walk1
    have hnext : reachN (B.take (i + 1)) R = reachN (B.take i) R ++ (if R.contains e.1 && !R.contains e.2 then [e.2] else []) := by
      unfold reachN
      rw [ht, List.filter_append, List.map_append]
      congr 1
      cases hc : R.contains e.1 && !R.contains e.2
      · rw [List.filter_cons_of_neg (by rw [hc]; decide)]; rfl
      · rw [List.filter_cons_of_pos (by rw [hc])]; rfl
    refine in_strs (hil2.at fun o e => F₂.keep _ _ e) hys2 ?_
    iterate 1 walk1
    cases hb : R.contains e.1 with
    | false =>
      rw [hb, Bool.false_and] at hnext
      rw [if_neg (by decide)]
      show if false = true then _ else _
      rw [if_neg (by decide)]
      refine .intro F₂ N₂ (fun _ h => nomatch h) ⟨rfl, ?_⟩
      rw [hnext, if_neg (by decide), List.append_nil]
      exact hz
    | true =>
      rw [hb, Bool.true_and] at hnext
      rw [if_pos rfl]
      iterate 4 walk1
      refine notIn_strs (hil2.at fun o e => F₂.keep _ _ e) hys2 ?_
      iterate 1 walk1
      cases hb2 : R.contains e.2 with
      | true =>
        rw [hb2] at hnext
        rw [if_neg (by decide)]
        refine .intro F₂ N₂ (fun _ h => nomatch h) ⟨rfl, ?_⟩
        rw [hnext, if_neg (by decide), List.append_nil]
        exact hz
      | false =>
        rw [hb2] at hnext
        rw [if_pos (by decide)]
        iterate 1 walk1
        rw [if_pos rfl]
        iterate 1 walk1
        refine .intro F₂ N₂ (fun _ h => nomatch h) ⟨rfl, ?_⟩
        rw [hnext, if_pos (by decide)]
        exact hz.snoc ⟨_, rfl⟩
  · intro D h5 tk5 ys _ hk5 hD5 ⟨n, hpl⟩ _ ⟨_, hz⟩
    rw [hlen, List.take_length] at hz
    exact hQ D h5 tk5 ys n hk5 hD5 hpl hz
end
noncomputable def reachS (B : List (Str × Str)) (r : List Str) : List Str := r ++ reachN B r
noncomputable def reachK (B : List (Str × Str)) (t : Str) : Nat → List Str
  | 0 => reach0 B t
  | n + 1 => reachS B (reachK B t n)
noncomputable def oft0 (B : List (Str × Str)) (Lf : Str → Int) (t : Str) : Int := if (reachK B t 3).contains t then 0 else Lf t
noncomputable def stOftB (i : Nat) : Stmt := match stOften 2 with
  | .For _ _ b _ _ => (b[i]?).getD (.Pass default)
  | _ => .Pass default
theorem store_cell {w : World} {A : Around} {s : Shared} {E : Value → Shared → Prop} {h₀ : Heap} {L a c : Addr} {nm x : Str} {sc : Scope} {cd v : Value} {m : Str → Option Value} {o : Obj} {v₀ : Option Value} {l1 l2 : List (Addr × Obj)} {Q : Unit → Shared → Prop}
    (F : Fr h₀ L s.heap m) (N : News h₀ L s.heap (l1 ++ (c, o) :: l2)) (hd : o.data = .cell v₀) (hc : (cellsFrom (L + 1) sc.names []).lookup x = some c)
    (h1 : ∀ p ∈ l1, p.1 ≠ c ∨ ∀ v, p.2.data ≠ .cell v) (h2 : ∀ p ∈ l2, p.1 ≠ c ∨ ∀ v, p.2.data ≠ .cell v)
    (h : ∀ h' o', Fr h₀ L h' m → News h₀ L h' (l1 ++ (c, o') :: l2) → o'.data = .cell (some v) → Q () { s with heap := h' })
    (hk : sc.kind = .function := by rfl) (hl : (envOfC nm sc L a cd).kindOf x = some .cell := by rfl) :
    wpAny (model pw w) A (storeName (envOfC nm sc L a cd) x v) Q E s :=
  stCN F N hc hd (fun p hp => (h1 p hp).elim id (fun hn => ne_cell N (List.mem_append_right _ (.head _)) hd (List.mem_append_left _ hp) hn)) (fun p hp => (h2 p hp).elim id (fun hn => ne_cell N (List.mem_append_right _ (.head _)) hd (List.mem_append_right _ (.tail _ hp)) hn)) h hk hl
section
variable {w : World} {mean : ExcName → Option Value} {mg mb : Str → Option Value} {A : Around} {s : Shared} {E : Value → Shared → Prop} {Q : Flow → Shared → Prop}
set_option maxHeartbeats 400000 in
theorem often_rounds {h₀ : Heap} {L a D1 D2 od it : Addr} {oT oR oO oi : Obj} {nb : List (Addr × Obj)} {ys1 ys2 : List Value} {n1 n2 : Nat} {nm x : Str} {cd : Value} {m : Str → Option Value} {B : List (Str × Str)} {u : Tok} (W : WG mean mg mb h₀)
    (hh : A.handled = none) (hB : B.length ≤ 10) (F : Fr h₀ L s.heap m) (N : News h₀ L s.heap ((L + 1, oT) :: (L + 2, oR) :: (D1, lstO ys1 n1) :: (D2, lstO ys2 n2) :: (od, oO) :: (it, oi) :: nb)) (mB : m "bare" = some (.ref D1))
    (cR : oR.data = .cell (some (.ref D2))) (cT : oT.data = .cell (some (.str x u))) (nO : ∀ v, oO.data ≠ .cell v) (nI : ∀ v, oi.data ≠ .cell v) (nB : ∀ p ∈ nb, ∀ v, p.2.data ≠ .cell v) (hys1 : All2 (BareV nb) ys1 B) (hys2 : All2 StrV ys2 (reachK B x 0))
    (hE : PassesOwn (model pw w) A (envOfC nm scOften L a cd) E)
    (hQ : ∀ h' tk m' D ys n oR', Fr h₀ L h' m' → News h₀ L h' ((L + 1, oT) :: (L + 2, oR') :: (D1, lstO ys1 n1) :: (D, lstO ys n) :: (od, oO) :: (it, oi) :: nb) → (∀ q : Str, q ≠ "step" → m' q = m q) → oR'.data = .cell (some (.ref D)) → All2 StrV ys (reachK B x 3) → Q .next { s with heap := h', toks := tk }) :
    wpAny (model pw w) A (exec (stOftB 1) (envOfC nm scOften L a cd)) Q E s := by
  cases A
  cases hh
  conv in stOftB 1 => whnf
  have BR := W.range
  refine for_range (h₀ := h₀) (n := 3) rfl (fun k m' news => ∃ D ys n oR', news = (L + 1, oT) :: (L + 2, oR') :: (D1, lstO ys1 n1) :: (D, lstO ys n) :: (od, oO) :: (it, oi) :: nb ∧ (∀ q : Str, q ≠ "step" → m' q = m q) ∧ oR'.data = .cell (some (.ref D)) ∧ All2 StrV ys (reachK B x k)) ?_ ?_ ?_ (hE := hE)
  · iterate 6 walk1
    refine call_range_1 ?_
    exact ⟨_, _, _, _, _, _, rfl, rfl, Heap.get?_push_size _ rfl, by decide, by decide, m, _, F.push _, fun p hp => ⟨Heap.get?_push_of_some _ (N p hp).1, (N p hp).2⟩, D2, ys2, n2, oR, rfl, fun _ _ => rfl, cR, hys2⟩
  · rintro k u' m₁ news₁ s₁ it2 oi2 hk ⟨D, ys, n, oR', rfl, hm, cR', hys⟩ hoff hoi2 F₁ N₁
    have mB1 : m₁ "bare" = some (.ref D1) := (hm _ (by decide)).trans mB
    refine wpAny_assign_Name (stLocN F₁ N₁ (fun h2 F₂ N₂ => ?_))
    iterate 4 walk1
    rename News _ _ _ _ => N₂
    have hbare : All2 (BareAt h2) ys1 B := hys1.imp fun _ _ h => h.at fun p hp => (N₂ p (.tail _ (.tail _ (.tail _ (.tail _ (.tail _ (.tail _ (.tail _ hp)))))))).1
    refine comp_r1 rfl (Nat.le_trans hB (by decide)) (N₂ _ (.tail _ (.tail _ (.tail _ (.head _))))).1 hbare (N₂ _ (.tail _ (.tail _ (.tail _ (.tail _ (.head _)))))).1 hys ⟨oR', (N₂ _ (.tail _ (.tail _ (.head _)))).1, cR'⟩ (fun Q' h => ?_) (fun D3 h3 tk3 ys3 n3 hk3 hf3 hD3 hys3 => ?_)
    · with_unfolding_all refine ldLoc F₂ (v := .ref D1) (by exact mB1) h
    have F₃ := F₂.keeps hk3
    have N₃ := Mine.News.fresh_cons F₂ hf3 hD3 (N₂.keepsAll hk3)
    refine add_lists (vs := ys) (ws := ys3) F₃ N₃ ⟨_, (N₃ _ (.tail _ (.tail _ (.tail _ (.tail _ (.tail _ (.head _))))))).1, rfl, _, rfl⟩ ⟨_, (N₃ _ (.head _)).1, rfl, _, rfl⟩ (fun h4 F₄ N₄ => ?_) ?_
    · refine store_cell (l1 := [(h3.objs.size, _), (D3, lstO ys3 n3), (it2, oi2), (L + 1, oT)]) F₄ N₄ cR' rfl (fun p hp => ?_) (fun p hp => ?_) (fun h5 oR5 F₅ N₅ cR5 => ?_)
      · simp only [List.mem_cons, List.not_mem_nil, or_false] at hp
        rcases hp with rfl | rfl | rfl | rfl
        · exact .inr fun _ h => Data.noConfusion h
        · exact .inr fun _ h => Data.noConfusion h
        · exact .inr hoi2
        · exact .inl (Nat.ne_of_lt (Nat.lt_succ_self _))
      · simp only [List.mem_cons] at hp
        rcases hp with rfl | rfl | rfl | rfl | hp
        · exact .inr fun _ h => Data.noConfusion h
        · exact .inr fun _ h => Data.noConfusion h
        · exact .inr nO
        · exact .inr nI
        · exact .inr (nB p hp)
      · show wpAny _ _ _ _ _ _
        repeat walk1
        have hDne : h3.objs.size ≠ it2 := Nat.ne_of_gt (Heap.lt_size (N₃ _ (.tail _ (.head _))).1)
        refine .intro (news₂ := (L + 1, oT) :: (L + 2, oR5) :: (D1, lstO ys1 n1) :: (h3.objs.size, lstO (ys ++ ys3) 0) :: (od, oO) :: (it, oi) :: nb) F₅ (fun p hp => N₅ p ?_) (fun p hp => ?_) ⟨_, _, _, _, rfl, fun q hq => ?_, cR5, ?_⟩
        · simp only [List.cons_append, List.nil_append, List.mem_cons] at hp ⊢
          rcases hp with h | h | h | h | h | h | h | h
          · exact .inr (.inr (.inl h))
          · exact .inr (.inr (.inr (.inl h)))
          · exact .inr (.inr (.inr (.inr (.inl h))))
          · exact .inr (.inr (.inr (.inr (.inr (.inl h)))))
          · exact .inl h
          · exact .inr (.inr (.inr (.inr (.inr (.inr (.inr (.inl h)))))))
          · exact .inr (.inr (.inr (.inr (.inr (.inr (.inr (.inr (.inl h))))))))
          · exact .inr (.inr (.inr (.inr (.inr (.inr (.inr (.inr (.inr h))))))))
        · intro hm
          have hm := List.mem_singleton.mp hm
          simp only [List.mem_cons] at hp
          rcases hp with rfl | rfl | rfl | rfl | hp
          · exact hoff _ (.head _) hm
          · exact hoff (L + 2, oR') (.tail _ (.head _)) hm
          · exact hoff _ (.tail _ (.tail _ (.head _))) hm
          · exact hDne hm
          · exact hoff p (.tail _ (.tail _ (.tail _ (.tail _ (show p ∈ (od, oO) :: (it, oi) :: nb by simpa using hp))))) hm
        · show (if q = "step" then _ else m₁ q) = m q
          rw [if_neg hq]; exact hm q hq
        · show All2 StrV (ys ++ ys3) (reachK B x k ++ reachN B (reachK B x k))
          exact hys.append hys3
    · have h1 := hys.length
      have h2' := hys3.length
      have h3' : (reachK B x k).length ≤ 10 * (k + 1) := by
        have hf : ∀ (p : Str × Str → Bool), ((B.filter p).map (·.2)).length ≤ 10 := fun p => by rw [List.length_map]; exact Nat.le_trans (List.length_filter_le _ _) hB
        have : ∀ k, (reachK B x k).length ≤ 10 * (k + 1) := by
          intro k
          induction k with
          | zero => exact hf _
          | succ k ih =>
            show (reachK B x k ++ reachN B (reachK B x k)).length ≤ _
            rw [List.length_append]
            have := hf (fun e => (reachK B x k).contains e.1 && !(reachK B x k).contains e.2)
            unfold reachN
            omega
        exact this k
      have h4' : (reachN B (reachK B x k)).length ≤ 10 := by unfold reachN; rw [List.length_map]; exact Nat.le_trans (List.length_filter_le _ _) hB
      rw [h1, h2']
      exact Nat.le_trans (show _ ≤ 100 by omega) (by decide)
  · rintro h' tk m' news' F' N' ⟨D, ys, n, oR', rfl, hm, cR', hys⟩
    exact hQ h' tk m' D ys n oR' F' N' hm cR' hys
end
theorem ne_dict {w : World} {h₀ h : Heap} {L d : Addr} {l : List (Addr × Obj)} {o : Obj} {acc : List (Str × Int)} {p : Addr × Obj} (N : News h₀ L h l) (hc : (d, o) ∈ l) (hd : DIo w o acc) (hp : p ∈ l) (hn : ∀ es ep, p.2.data ≠ .dict es ep) : p.1 ≠ d := fun e => by
  obtain ⟨kvs, ⟨es, ep, _, hdd, _⟩, _⟩ := hd
  have h1 := (N p hp).1
  have h2 : h.get? d = some o := (N _ hc).1
  rw [e, h2] at h1
  exact hn es ep (by rw [← Option.some.inj h1]; exact hdd)
theorem kmsv_at {i ch : Nat} (h : (Str.ofString "kmsv").cps[i]? = some ch) : tasksL[i]? = some ⟨#[ch]⟩ := by
  have e : (Str.ofString "kmsv").cps = #[107, 109, 115, 118] := by kernel_rfl
  rw [e] at h
  match i, h with
  | 0, h => cases h; kernel_rfl
  | 1, h => cases h; kernel_rfl
  | 2, h => cases h; kernel_rfl
  | 3, h => cases h; kernel_rfl
  | n + 4, h => simp at h
theorem kmsv_size : (Str.ofString "kmsv").cps.size = 4 := by kernel_rfl
section
variable {w : World} {mean : ExcName → Option Value} {mg mb : Str → Option Value} {A : Around} {s : Shared} {E : Value → Shared → Prop} {Q : Flow → Shared → Prop}
set_option maxHeartbeats 400000 in
theorem often_tasks {h₀ : Heap} {L a D1 od al : Addr} {oT oR oO : Obj} {tvT tvR : Option Value} {nb : List (Addr × Obj)} {ys1 : List Value} {n1 : Nat} {nm : Str} {cd : Value} {m : Str → Option Value} {B : List (Str × Str)} {L0 : List (Str × Int)} {Lf : Str → Int} (W : WG mean mg mb h₀)
    (hh : A.handled = none) (hB : B.length ≤ 10) (F : Fr h₀ L s.heap m) (N : News h₀ L s.heap ((L + 1, oT) :: (L + 2, oR) :: (D1, lstO ys1 n1) :: (od, oO) :: nb)) (mB : m "bare" = some (.ref D1)) (mO : m "often" = some (.ref od)) (mL : m "leaves" = some (.ref al))
    (DL : DI w h₀ al L0) (hLf : ∀ t, (getI L0 t).getD 0 = Lf t)
    (cR : oR.data = .cell tvR) (cT : oT.data = .cell tvT) (dO : DIo w oO []) (nB : ∀ p ∈ nb, ∃ its n, p.2.data = .seq its n) (hys1 : All2 (BareV nb) ys1 B)
    (hE : PassesOwn (model pw w) A (envOfC nm scOften L a cd) E)
    (hQ : ∀ h' tk m' oT' oR' oO' tvT' tvR', Fr h₀ L h' m' → News h₀ L h' ((L + 1, oT') :: (L + 2, oR') :: (D1, lstO ys1 n1) :: (od, oO') :: nb) → (∀ q : Str, q ≠ "step" → m' q = m q) → oR'.data = .cell tvR' → oT'.data = .cell tvT' → DIo w oO' (tasksL.map fun t => (t, oft0 B Lf t)) → Q .next { s with heap := h', toks := tk }) :
    wpAny (model pw w) A (exec (stOften 2) (envOfC nm scOften L a cd)) Q E s := by
  cases A
  cases hh
  conv in stOften 2 => whnf
  have nBc : ∀ p ∈ nb, ∀ v, p.2.data ≠ .cell v := fun p hp v h => by obtain ⟨i, n, e⟩ := nB p hp; rw [e] at h; cases h
  have nBd : ∀ p ∈ nb, ∀ es ep, p.2.data ≠ .dict es ep := fun p hp es ep h => by obtain ⟨i, n, e⟩ := nB p hp; rw [e] at h; cases h
  refine for_str (h₀ := h₀) (y := "kmsv") (t := s.toks) (s := s) rfl F N (fun Q' h => ?_) (fun i m' news => ∃ oT oR oO tvT tvR, news = (L + 1, oT) :: (L + 2, oR) :: (D1, lstO ys1 n1) :: (od, oO) :: nb ∧ oT.data = .cell tvT ∧ oR.data = .cell tvR ∧ DIo w oO ((tasksL.take i).map fun t => (t, oft0 B Lf t)) ∧ (∀ q : Str, q ≠ "step" → m' q = m q)) ?_ ?_ ?_ (hE := hE)
  · iterate 1 walk1
    exact h _
  · exact ⟨oT, oR, oO, tvT, tvR, rfl, cT, cR, dO, fun _ _ => rfl⟩
  · rintro i ch u m₁ news₁ s₁ it oi hch ⟨oT, oR, oO, tvT, tvR, rfl, cT, cR, dO, hm⟩ hoff hoi F₁ N₁
    have hx := kmsv_at hch
    have hxt : (⟨#[ch]⟩ : Str) ∈ tasksL := List.mem_of_getElem? hx
    have hnext : (tasksL.take (i + 1)).map (fun t => (t, oft0 B Lf t)) = (tasksL.take i).map (fun t => (t, oft0 B Lf t)) ++ [(⟨#[ch]⟩, oft0 B Lf ⟨#[ch]⟩)] := by rw [List.take_add_one, hx, List.map_append]; rfl
    have odit : od ≠ it := hoff _ (.tail _ (.tail _ (.tail _ (.head _))))
    refine wpAny_assign_Name (store_cell (l1 := [(it, oi)]) F₁ N₁ cT rfl (fun p hp => ?_) (fun p hp => ?_) (fun h2 oT2 F₂ N₂ cT2 => ?_))
    · rw [List.mem_singleton.mp hp]; exact .inr hoi
    · simp only [List.mem_cons] at hp
      rcases hp with rfl | rfl | rfl | hp
      · exact .inl (Nat.ne_of_gt (Nat.lt_succ_self _))
      · exact .inr fun _ h => Data.noConfusion h
      · exact .inr dO.not_cell
      · exact .inr (nBc p hp)
    iterate 2 walk1
    have mB1 : m₁ "bare" = some (.ref D1) := (hm _ (by decide)).trans mB
    have hbare : All2 (BareAt h2) ys1 B := hys1.imp fun _ _ h => h.at fun p hp => (N₂ p (.tail _ (.tail _ (.tail _ (.tail _ (.tail _ hp)))))).1
    refine comp_r0 (x := ⟨#[ch]⟩) (u := u) rfl (Nat.le_trans hB (by decide)) (N₂ _ (.tail _ (.tail _ (.tail _ (.head _))))).1 hbare ⟨oT2, (N₂ _ (.tail _ (.head _))).1, cT2⟩ (fun Q' h => ?_) (fun D3 h3 tk3 ys3 n3 hk3 hf3 hD3 hys3 => ?_)
    · refine ldLoc F₂ mB1 h
    have F₃ := F₂.keeps hk3
    have N₃ := Mine.News.fresh_cons F₂ hf3 hD3 (N₂.keepsAll hk3)
    refine store_cell (l1 := [(D3, lstO ys3 n3), (it, oi), (L + 1, oT2)]) F₃ N₃ cR rfl (fun p hp => ?_) (fun p hp => ?_) (fun h4 oR4 F₄ N₄ cR4 => ?_)
    · simp only [List.mem_cons, List.not_mem_nil, or_false] at hp
      rcases hp with rfl | rfl | rfl
      · exact .inr fun _ h => Data.noConfusion h
      · exact .inr hoi
      · exact .inl (Nat.ne_of_lt (Nat.lt_succ_self _))
    · simp only [List.mem_cons] at hp
      rcases hp with rfl | rfl | hp
      · exact .inr fun _ h => Data.noConfusion h
      · exact .inr dO.not_cell
      · exact .inr (nBc p hp)
    show wpAny _ _ _ _ _ _
    iterate 1 walk1
    refine often_rounds (n1 := n1) (n2 := n3) (x := ⟨#[ch]⟩) (u := u) (oT := oT2) (oR := oR4) (oO := oO) (oi := oi) (D1 := D1) (D2 := D3) (od := od) (it := it) (nb := nb) W rfl hB F₄ (fun p hp => N₄ p ?_) mB1 cR4 cT2 dO.not_cell hoi nBc hys1 hys3 hE (fun h5 tk5 m5 D ys n oR5 F₅ N₅ hm5 cR5 hys5 => ?_)
    · simp only [List.cons_append, List.nil_append, List.mem_cons] at hp ⊢
      rcases hp with h | h | h | h | h | h | h
      · exact .inr (.inr (.inl h))
      · exact .inr (.inr (.inr (.inl h)))
      · exact .inr (.inr (.inr (.inr (.inl h))))
      · exact .inl h
      · exact .inr (.inr (.inr (.inr (.inr (.inl h)))))
      · exact .inr (.inl h)
      · exact .inr (.inr (.inr (.inr (.inr (.inr h)))))
    clear N₄ N₃ N₂ F₄ F₃ F₂
    have mO5 : m5 "often" = some (.ref od) := (hm5 _ (by decide)).trans ((hm _ (by decide)).trans mO)
    have mL5 : m5 "leaves" = some (.ref al) := (hm5 _ (by decide)).trans ((hm _ (by decide)).trans mL)
    show wpAny _ _ _ _ _ _
    repeat walk1
    have hi4 : tasksL.length ≤ 4 := by decide
    have hkn : (⟨#[ch]⟩ : Str) ∉ ((tasksL.take i).map (fun t => (t, oft0 B Lf t))).map (·.1) := by
      rw [List.map_map]
      have e : (tasksL.take i).map ((fun x => x.1) ∘ fun t => (t, oft0 B Lf t)) = tasksL.take i := by simp [Function.comp_def]
      rw [e]
      intro hc
      have h1 : (tasksL.take i ++ [(⟨#[ch]⟩ : Str)]).Nodup := by
        have h2 : tasksL.take (i + 1) = tasksL.take i ++ [(⟨#[ch]⟩ : Str)] := by rw [List.take_add_one, hx]; rfl
        rw [← h2]
        exact List.Nodup.sublist (List.take_sublist _ _) (by decide +kernel)
      exact (List.nodup_append.mp h1).2.2 _ hc _ (by simp) rfl
    rename News _ _ _ _ => N₅
    refine in_strs ⟨_, (N₅ _ (.tail _ (.tail _ (.tail _ (.head _))))).1, rfl, _, rfl⟩ hys5 ?_
    iterate 1 walk1
    cases hc : (reachK B ⟨#[ch]⟩ 3).contains ⟨#[ch]⟩ with
    | true =>
      rw [if_pos rfl]
      have hval : (0 : Int) = oft0 B Lf ⟨#[ch]⟩ := by unfold oft0; rw [hc, if_pos rfl]
      iterate 1 walk1
      iterate 2 walk1
      rename News _ _ _ _ => N₅
      refine setItem_DI (own := [(L + 1, oT2), (L + 2, oR5), (D1, lstO ys1 n1), (D, lstO ys n)]) (rest := (it, oi) :: nb) F₅ N₅ (fun p hp => ?_) (fun p hp => ?_) dO (by rw [List.length_map, List.length_take]; exact Nat.le_trans (Nat.min_le_right _ _) (Nat.le_trans hi4 (by decide))) (fun h6 oO6 F₆ N₆ dO6 => ?_)
      · simp only [List.mem_cons, List.not_mem_nil, or_false] at hp
        rcases hp with rfl | rfl | rfl | rfl
        · exact ne_dict N₅ (.tail _ (.tail _ (.tail _ (.tail _ (.head _))))) dO (.head _) (by rw [cT2]; exact fun _ _ h => Data.noConfusion h)
        · exact ne_dict N₅ (.tail _ (.tail _ (.tail _ (.tail _ (.head _))))) dO (.tail _ (.head _)) (by rw [cR5]; exact fun _ _ h => Data.noConfusion h)
        · exact ne_dict N₅ (.tail _ (.tail _ (.tail _ (.tail _ (.head _))))) dO (.tail _ (.tail _ (.head _))) (fun _ _ h => Data.noConfusion h)
        · exact ne_dict N₅ (.tail _ (.tail _ (.tail _ (.tail _ (.head _))))) dO (.tail _ (.tail _ (.tail _ (.head _)))) (fun _ _ h => Data.noConfusion h)
      · rcases List.mem_cons.mp hp with rfl | hp
        · exact Ne.symm odit
        · exact ne_dict N₅ (.tail _ (.tail _ (.tail _ (.tail _ (.head _))))) dO (.tail _ (.tail _ (.tail _ (.tail _ (.tail _ (.tail _ hp)))))) (nBd p hp)
      rw [putI_new hkn, hval, ← hnext] at dO6
      show wpAny _ _ _ _ _ _
      repeat walk1
      refine .intro (news₂ := (L + 1, oT2) :: (L + 2, oR5) :: (D1, lstO ys1 n1) :: (od, oO6) :: nb) F₆ (fun p hp => N₆ p ?_) (fun p hp hq => ?_) ⟨oT2, oR5, oO6, _, _, rfl, cT2, cR5, dO6, fun q hq => (hm5 q hq).trans (hm q hq)⟩
      · simp only [List.cons_append, List.nil_append, List.mem_cons] at hp ⊢
        rcases hp with h | h | h | h | h | h
        · exact .inr (.inr (.inr (.inr (.inr (.inl h)))))
        · exact .inl h
        · exact .inr (.inl h)
        · exact .inr (.inr (.inl h))
        · exact .inr (.inr (.inr (.inr (.inl h))))
        · exact .inr (.inr (.inr (.inr (.inr (.inr h)))))
      · have hq := List.mem_singleton.mp hq
        simp only [List.mem_cons] at hp
        rcases hp with rfl | rfl | rfl | rfl | hp
        · exact hoff (L + 1, oT) (.head _) hq
        · exact hoff (L + 2, oR) (.tail _ (.head _)) hq
        · exact hoff _ (.tail _ (.tail _ (.head _))) hq
        · exact odit hq
        · exact hoff p (.tail _ (.tail _ (.tail _ (.tail _ hp)))) hq
    | false =>
      rw [if_neg (by decide)]
      have hval : Lf ⟨#[ch]⟩ = oft0 B Lf ⟨#[ch]⟩ := by unfold oft0; rw [hc, if_neg (by decide)]
      obtain ⟨als, oL, hoL, hDL⟩ := id DL
      obtain ⟨kL, hL1, hL2⟩ := id hDL
      have hdl : h5.DictOf (PySem.strKind pw w) al kL := Heap.dictOf_iff.mpr ⟨_, F₅.keep _ _ hoL, hL1⟩
      repeat walk1
      refine getM_get hdl ?_
      repeat walk1
      refine get2_DI (F₅.keep _ _ hoL) als hDL (fun t6 => ?_)
      rw [hLf]
      iterate 2 walk1
      rename News _ _ _ _ => N₅
      refine setItem_DI (own := [(L + 1, oT2), (L + 2, oR5), (D1, lstO ys1 n1), (D, lstO ys n)]) (rest := (it, oi) :: nb) F₅ N₅ (fun p hp => ?_) (fun p hp => ?_) dO (by rw [List.length_map, List.length_take]; exact Nat.le_trans (Nat.min_le_right _ _) (Nat.le_trans hi4 (by decide))) (fun h6 oO6 F₆ N₆ dO6 => ?_)
      · simp only [List.mem_cons, List.not_mem_nil, or_false] at hp
        rcases hp with rfl | rfl | rfl | rfl
        · exact ne_dict N₅ (.tail _ (.tail _ (.tail _ (.tail _ (.head _))))) dO (.head _) (by rw [cT2]; exact fun _ _ h => Data.noConfusion h)
        · exact ne_dict N₅ (.tail _ (.tail _ (.tail _ (.tail _ (.head _))))) dO (.tail _ (.head _)) (by rw [cR5]; exact fun _ _ h => Data.noConfusion h)
        · exact ne_dict N₅ (.tail _ (.tail _ (.tail _ (.tail _ (.head _))))) dO (.tail _ (.tail _ (.head _))) (fun _ _ h => Data.noConfusion h)
        · exact ne_dict N₅ (.tail _ (.tail _ (.tail _ (.tail _ (.head _))))) dO (.tail _ (.tail _ (.tail _ (.head _)))) (fun _ _ h => Data.noConfusion h)
      · rcases List.mem_cons.mp hp with rfl | hp
        · exact Ne.symm odit
        · exact ne_dict N₅ (.tail _ (.tail _ (.tail _ (.tail _ (.head _))))) dO (.tail _ (.tail _ (.tail _ (.tail _ (.tail _ (.tail _ hp)))))) (nBd p hp)
      rw [putI_new hkn, hval, ← hnext] at dO6
      show wpAny _ _ _ _ _ _
      repeat walk1
      refine .intro (news₂ := (L + 1, oT2) :: (L + 2, oR5) :: (D1, lstO ys1 n1) :: (od, oO6) :: nb) F₆ (fun p hp => N₆ p ?_) (fun p hp hq => ?_) ⟨oT2, oR5, oO6, _, _, rfl, cT2, cR5, dO6, fun q hq => (hm5 q hq).trans (hm q hq)⟩
      · simp only [List.cons_append, List.nil_append, List.mem_cons] at hp ⊢
        rcases hp with h | h | h | h | h | h
        · exact .inr (.inr (.inr (.inr (.inr (.inl h)))))
        · exact .inl h
        · exact .inr (.inl h)
        · exact .inr (.inr (.inl h))
        · exact .inr (.inr (.inr (.inr (.inl h))))
        · exact .inr (.inr (.inr (.inr (.inr (.inr h)))))
      · have hq := List.mem_singleton.mp hq
        simp only [List.mem_cons] at hp
        rcases hp with rfl | rfl | rfl | rfl | hp
        · exact hoff (L + 1, oT) (.head _) hq
        · exact hoff (L + 2, oR) (.tail _ (.head _)) hq
        · exact hoff _ (.tail _ (.tail _ (.head _))) hq
        · exact odit hq
        · exact hoff p (.tail _ (.tail _ (.tail _ (.tail _ hp)))) hq
  · rintro h' tk m' news' F' N' ⟨oT, oR, oO, tvT, tvR, rfl, cT, cR, dO, hm⟩
    exact hQ h' tk m' oT oR oO tvT tvR F' N' hm cR cT dO
end
noncomputable def relax (l : List (Str × Int)) (e : Tie) : List (Str × Int) := putI l e.b (min ((getI l e.b).getD 0) ((getI l e.a).getD 0 + e.w))
theorem relax_keys {l : List (Str × Int)} {e : Tie} (h : l.map (·.1) = tasksL) (hb : e.b ∈ tasksL) : (relax l e).map (·.1) = tasksL := by
  unfold relax
  rw [keys_putI_old (by rw [h]; exact hb), h]
theorem getI_some {l : List (Str × Int)} {k : Str} (h : k ∈ l.map (·.1)) : getI l k = some ((getI l k).getD 0) := by
  obtain ⟨e, he, hk⟩ := List.mem_map.mp h
  unfold getI
  cases hf : l.find? (fun kv => decide (kv.1 = k)) with
  | none =>
    have := List.find?_eq_none.mp hf e he
    simp [hk] at this
  | some x => rfl
theorem fold_relax_keys {T : List Tie} (hT : ∀ e ∈ T, e.b ∈ tasksL) {l : List (Str × Int)} (h : l.map (·.1) = tasksL) : (T.foldl relax l).map (·.1) = tasksL := by
  induction T generalizing l with
  | nil => exact h
  | cons e T ih => exact ih (fun x hx => hT x (.tail _ hx)) (relax_keys h (hT e (.head _)))
noncomputable def stInner : Stmt := match stOften 3 with
  | .For _ _ [b] _ _ => b
  | _ => .Pass default
section
variable {w : World} {mean : ExcName → Option Value} {mg mb : Str → Option Value} {A : Around} {s : Shared} {E : Value → Shared → Prop} {Q : Flow → Shared → Prop}
set_option maxHeartbeats 400000 in
theorem often_inner {h₀ : Heap} {L a od at' : Addr} {oO : Obj} {nm : Str} {cd : Value} {m : Str → Option Value} {T : List Tie} {items : Array Value} {l : List (Str × Int)} {ex : List (Addr × Obj)} (W : WG mean mg mb h₀)
    (hh : A.handled = none) (G : GoodT T) (F : Fr h₀ L s.heap m) (N : News h₀ L s.heap ((od, oO) :: ex)) (hex : ∀ p ∈ ex, p.1 ≠ od) (mO : m "often" = some (.ref od)) (mT : m "ties" = some (.ref at'))
    (hl : h₀.IsList at' items) (hi : All2 (TieV h₀) items.toList T) (dO : DIo w oO l) (hk : l.map (·.1) = tasksL)
    (hE : PassesOwn (model pw w) A (envOfC nm scOften L a cd) E)
    (hQ : ∀ h' tk m' oO', Fr h₀ L h' m' → News h₀ L h' ((od, oO') :: ex) → (∀ q : Str, q ≠ "a" → q ≠ "b" → q ≠ "size" → m' q = m q) → DIo w oO' (T.foldl relax l) → Q .next { s with heap := h', toks := tk }) :
    wpAny (model pw w) A (exec stInner (envOfC nm scOften L a cd)) Q E s := by
  cases A
  cases hh
  conv in stInner => whnf
  have hsz : items.size = T.length := by rw [← hi.length, Array.length_toList]
  have BM := W.min
  refine for_list (h₀ := h₀) (l := at') (items := items) rfl F N hl (fun Q' h => ?_) (fun i m' news => ∃ oO, news = (od, oO) :: ex ∧ DIo w oO ((T.take i).foldl relax l) ∧ (∀ q : Str, q ≠ "a" → q ≠ "b" → q ≠ "size" → m' q = m q)) ?_ ?_ ?_ (hE := hE)
  · iterate 1 walk1
    exact h
  · exact ⟨oO, rfl, dO, fun _ _ _ _ => rfl⟩
  · rintro i v m₁ news₁ s₁ it oi hv ⟨oO, rfl, dO, hm⟩ hoff hoi F₁ N₁
    have hv' : items.toList[i]? = some v := by simpa using hv
    obtain ⟨e, he, p, t1, t2, t3, rfl, hp⟩ := hi.at hv'
    have heT := List.mem_of_getElem? he
    have hta := G.ta e heT
    have htb := G.tb e heT
    have ht : T.take (i + 1) = T.take i ++ [e] := by rw [List.take_add_one, he]; rfl
    have hk1 : ((T.take i).foldl relax l).map (·.1) = tasksL := fold_relax_keys (fun x hx => G.tb x (List.mem_of_mem_take hx)) hk
    have hlen : ((T.take i).foldl relax l).length ≤ 2000 := by
      have := congrArg List.length hk1
      rw [List.length_map] at this
      rw [this]
      decide
    generalize hcur : (T.take i).foldl relax l = cur at dO hk1 hlen
    refine unpack3 (env := envOfC nm scOften L a cd) F₁ N₁ (hp.keeps F₁.keep) rfl (fun h2 tk2 F₀₂ N₂ => ?_)
    obtain ⟨m₂, F₂, e1, e2, e3, e4, hm2⟩ : ∃ m₂, Fr h₀ L h2 m₂ ∧ m₂ "often" = some (.ref od) ∧ m₂ "a" = some (.str e.a t1) ∧ m₂ "b" = some (.str e.b t2) ∧ m₂ "size" = some (.int e.w t3) ∧ (∀ q : Str, q ≠ "a" → q ≠ "b" → q ≠ "size" → m₂ q = m q) :=
      ⟨_, F₀₂, (hm _ (by decide) (by decide) (by decide)).trans mO, by kernel_rfl, by kernel_rfl, by kernel_rfl, fun q q1 q2 q3 => by
        show (if q = "size" then _ else if q = "b" then _ else if q = "a" then _ else m₁ q) = m q
        rw [if_neg q3, if_neg q2, if_neg q1]; exact hm q q1 q2 q3⟩
    clear F₀₂
    iterate 9 walk1
    refine getItem_subscript (N₂ _ (.tail _ (.head _))).1 dO (getI_some (by rw [hk1]; exact htb)) (fun u1 tk3 => ?_)
    iterate 5 walk1
    refine getItem_subscript (N₂ _ (.tail _ (.head _))).1 dO (getI_some (by rw [hk1]; exact hta)) (fun u2 tk4 => ?_)
    iterate 6 walk1
    rename Fr _ _ _ _ => F₃
    rename News _ _ _ _ => N₃
    refine setItem_DI (own := [(it, oi)]) (rest := ex) F₃ N₃ (fun p hp => ?_) hex dO hlen (fun h6 oO6 F₆ N₆ dO6 => ?_)
    · rw [List.mem_singleton.mp hp]
      exact Ne.symm (hoff _ (.head _))
    show wpAny _ _ _ _ _ _
    repeat walk1
    refine .intro (news₂ := (od, oO6) :: ex) F₆ N₆ (fun p hp hq => ?_) ⟨oO6, rfl, ?_, hm2⟩
    · rcases List.mem_cons.mp hp with rfl | hp
      · exact hoff (od, oO) (.head _) (List.mem_singleton.mp hq)
      · exact hoff p (.tail _ hp) (List.mem_singleton.mp hq)
    · rw [ht, List.foldl_append, hcur]
      have ev : (if (getI cur e.a).getD 0 + e.w < (getI cur e.b).getD 0 then (getI cur e.a).getD 0 + e.w else (getI cur e.b).getD 0) = min ((getI cur e.b).getD 0) ((getI cur e.a).getD 0 + e.w) := by
        rw [Int.min_def]
        split <;> split <;> omega
      rw [ev] at dO6
      exact dO6
  · rintro h' tk m' news' F' N' ⟨oO, rfl, dO, hm⟩
    rw [hsz, List.take_length] at dO
    exact hQ h' tk m' oO F' N' hm dO
end
noncomputable def often0L (T : List Tie) (Lf : Str → Int) : List (Str × Int) := tasksL.map fun t => (t, oft0 (bareL T) Lf t)
noncomputable def oftenK (T : List Tie) (Lf : Str → Int) : Nat → List (Str × Int)
  | 0 => often0L T Lf
  | n + 1 => T.foldl relax (oftenK T Lf n)
theorem oftenK_keys {T : List Tie} (G : GoodT T) (Lf : Str → Int) : ∀ n, (oftenK T Lf n).map (·.1) = tasksL
  | 0 => by
    show (tasksL.map fun t => (t, oft0 (bareL T) Lf t)).map (·.1) = tasksL
    rw [List.map_map]
    simp [Function.comp_def]
  | n + 1 => fold_relax_keys G.tb (oftenK_keys G Lf n)
section
variable {w : World} {mean : ExcName → Option Value} {mg mb : Str → Option Value} {A : Around} {s : Shared} {E : Value → Shared → Prop} {Q : Flow → Shared → Prop}
set_option maxHeartbeats 400000 in
theorem often_relax {h₀ : Heap} {L a od at' : Addr} {oO : Obj} {nm : Str} {cd : Value} {m : Str → Option Value} {T : List Tie} {items : Array Value} {Lf : Str → Int} (W : WG mean mg mb h₀)
    (hh : A.handled = none) (G : GoodT T) (F : Fr h₀ L s.heap m) (N : News h₀ L s.heap [(od, oO)]) (mO : m "often" = some (.ref od)) (mT : m "ties" = some (.ref at'))
    (hl : h₀.IsList at' items) (hi : All2 (TieV h₀) items.toList T) (dO : DIo w oO (often0L T Lf))
    (hE : PassesOwn (model pw w) A (envOfC nm scOften L a cd) E)
    (hQ : ∀ h' tk m' oO', Fr h₀ L h' m' → News h₀ L h' [(od, oO')] → m' "often" = some (.ref od) → DIo w oO' (oftenK T Lf 3) → Q .next { s with heap := h', toks := tk }) :
    wpAny (model pw w) A (exec (stOften 3) (envOfC nm scOften L a cd)) Q E s := by
  cases A
  cases hh
  conv in stOften 3 => whnf
  have BR := W.range
  refine for_range (h₀ := h₀) (n := 3) rfl (fun k m' news => ∃ oO, news = [(od, oO)] ∧ m' "often" = some (.ref od) ∧ m' "ties" = some (.ref at') ∧ DIo w oO (oftenK T Lf k)) ?_ ?_ ?_ (hE := hE)
  · iterate 6 walk1
    refine call_range_1 ?_
    exact ⟨_, _, _, _, _, _, rfl, rfl, Heap.get?_push_size _ rfl, by decide, by decide, m, _, F.push _, fun p hp => ⟨Heap.get?_push_of_some _ (N p hp).1, (N p hp).2⟩, oO, rfl, mO, mT, dO⟩
  · rintro k u' m₁ news₁ s₁ it2 oi2 hk ⟨oO, rfl, m1, m2, dO⟩ hoff hoi2 F₁ N₁
    refine wpAny_assign_Name (stLocN F₁ N₁ (fun h2 F₂ N₂ => ?_))
    obtain ⟨m₂, F₃, e1, e2⟩ : ∃ m₂, Fr h₀ L h2 m₂ ∧ m₂ "often" = some (.ref od) ∧ m₂ "ties" = some (.ref at') := ⟨_, F₂, m1, m2⟩
    clear F₂
    have hod : od ≠ it2 := hoff _ (.head _)
    iterate 1 walk1
    refine often_inner (ex := [(it2, oi2)]) (oO := oO) (l := oftenK T Lf k) (T := T) W rfl G F₃ (fun p hp => N₂ p ?_) (fun p hp => ?_) e1 e2 hl hi dO (oftenK_keys G Lf k) hE (fun h5 tk5 m5 oO5 F₅ N₅ hm5 dO5 => ?_)
    · simp only [List.mem_cons, List.not_mem_nil, or_false] at hp ⊢
      exact hp.symm
    · rw [List.mem_singleton.mp hp]; exact hod.symm
    show wpAny _ _ _ _ _ _
    repeat walk1
    refine .intro (news₂ := [(od, oO5)]) F₅ (fun p hp => N₅ p ?_) (fun p hp hq => ?_) ⟨oO5, rfl, (hm5 _ (by decide) (by decide) (by decide)).trans e1, (hm5 _ (by decide) (by decide) (by decide)).trans e2, dO5⟩
    · simp only [List.mem_cons, List.not_mem_nil, or_false, List.cons_append, List.nil_append] at hp ⊢
      exact hp.symm
    · rw [List.mem_singleton.mp hp] at hq
      exact hod (List.mem_singleton.mp hq)
  · rintro h' tk m' news' F' N' ⟨oO, rfl, m1, m2, dO⟩
    exact hQ h' tk m' oO F' N' m1 dO
end
section
variable {w : World} {mean : ExcName → Option Value} {mg mb : Str → Option Value} {A : Around} {s : Shared} {E : Value → Shared → Prop} {Q : Value → Shared → Prop}
set_option maxHeartbeats 400000 in
theorem loften {at' al : Addr} {T : List Tie} {items : Array Value} {L0 : List (Str × Int)} {Lf : Str → Int} (W : WG mean mg mb s.heap) (hroom : A.depth + 3 < recursionLimit) (hh : A.handled = none) (G : GoodT T) (hT : T.length ≤ 10)
    (hl : s.heap.IsList at' items) (hi : All2 (TieV s.heap) items.toList T) (DL : DI w s.heap al L0) (hLf : ∀ t, (getI L0 t).getD 0 = Lf t)
    (hQ : ∀ h' tk r, (∀ b o, s.heap.get? b = some o → h'.get? b = some o) → s.heap.get? r = none → DI w h' r (oftenK T Lf 3) → Q (.ref r) { s with heap := h', toks := tk }) :
    ∃ f, mg "_law_often" = some (.ref f) ∧ wpAny (model pw w) A (call (.ref f) [.ref at', .ref al]) Q E s := by
  cases A
  cases hh
  obtain ⟨a, o, pm, code, doc, h1, h2, h3, h4⟩ := W.T.fn _ rec77
  rw [scOften_eq] at h3
  refine ⟨a, h1, wpAny_call (call_cellsN_ret (scope := scOften) (Nat.lt_of_le_of_lt (Nat.le_add_right _ _) hroom) h2 h3 W.T.nolimit h4 (binds := [("ties", .ref at'), ("leaves", .ref al)]) (by kernel_rfl) ?_ (by decide) (fun h₁ tk cells F N X => ?_) (by kernel_rfl) (by kernel_rfl) (by kernel_rfl))⟩
  · intro x hx
    rcases List.mem_cons.mp hx with rfl | hx
    · exact .inl (by kernel_rfl)
    · rw [List.mem_singleton.mp hx]
      exact .inl (by kernel_rfl)
  have eb : (defAt 77 "_law_often").body = [stOften 0, stOften 1, stOften 2, stOften 3, stOften 4] := by kernel_rfl
  rw [eb]
  have NL := W.T.nolimit
  have ec : cellsFrom (s.heap.objs.size + 1) scOften.names [] = [(("reached" : Str), s.heap.objs.size + 2), (("task" : Str), s.heap.objs.size + 1)] := by kernel_rfl
  rw [ec] at X
  obtain ⟨oR, oT, rfl, hR, hTt⟩ := X.two
  have hR' : oR.data = .cell none := hR
  have hT' : oT.data = .cell none := hTt
  clear hR hTt X
  obtain ⟨m₀, F₀, m1, m2⟩ : ∃ m₀, Fr s.heap s.heap.objs.size h₁ m₀ ∧ m₀ "ties" = some (.ref at') ∧ m₀ "leaves" = some (.ref al) := ⟨_, F, by kernel_rfl, by kernel_rfl⟩
  clear F
  have hpack : s.heap.IsList at' items ∧ True := ⟨hl, trivial⟩
  have hB : (bareL T).length ≤ 10 := by unfold bareL; rw [List.length_map]; exact Nat.le_trans (List.length_filter_le _ _) hT
  iterate 1 walk1
  refine comp_bare rfl (Nat.le_trans hT (by decide)) F₀ N (hl.at fun o e => F₀.keep _ o e) (All2.imp (fun _ _ h => h.keeps F₀.keep) hi) m1 (fun D h5 tk5 ys n nb F₅ N₅ hnb hys => ?_)
  obtain ⟨m₅, F₆, m3, m4, m5⟩ : ∃ m₅, Fr s.heap s.heap.objs.size h5 m₅ ∧ m₅ "ties" = some (.ref at') ∧ m₅ "leaves" = some (.ref al) ∧ m₅ "bare" = some (.ref D) := ⟨_, F₅, m1, m2, by kernel_rfl⟩
  clear F₅ F₀ N
  show wpAny _ _ _ _ _ _
  iterate 1 walk1
  conv in stOften 1 => whnf
  repeat walk1
  rename Fr _ _ _ _ => F7
  rename News _ _ _ _ => N7
  rename Obj.IsDictOf (strKind pw w) _ _ => hdict
  rename (_ == sysModules) = false => hsys
  rename Heap => h7
  obtain ⟨od, oO, m₆, G7, K7, hsys', hdict', q1, q2, q3, q4⟩ : ∃ od oO m₆, Fr s.heap s.heap.objs.size h7 m₆ ∧ News s.heap s.heap.objs.size h7 ((od, oO) :: (D, lstO ys n) :: ([(s.heap.objs.size + 2, oR), (s.heap.objs.size + 1, oT)] ++ nb)) ∧ (od == sysModules) = false ∧ oO.IsDictOf (PySem.strKind pw w) [] ∧ m₆ "often" = some (.ref od) ∧ m₆ "ties" = some (.ref at') ∧ m₆ "leaves" = some (.ref al) ∧ m₆ "bare" = some (.ref D) :=
    ⟨_, _, _, F7, N7, hsys, hdict, by kernel_rfl, m3, m4, m5⟩
  clear F7 N7 hsys hdict
  refine often_tasks (oT := oT) (oR := oR) (D1 := D) (n1 := n) (nb := nb) W rfl hB G7 (fun p hp => K7 p ?_) q4 q1 q3 DL hLf hR' hT' ⟨_, hdict', .nil⟩ hnb hys (by passes_own) (fun h8 tk8 m8 oT8 oR8 oO8 tvT8 tvR8 F₈ N₈ hm8 cR8 cT8 dO8 => ?_)
  · simp only [List.mem_cons, List.cons_append, List.nil_append] at hp ⊢
    rcases hp with h | h | h | h | h
    · exact .inr (.inr (.inr (.inl h)))
    · exact .inr (.inr (.inl h))
    · exact .inr (.inl h)
    · exact .inl h
    · exact .inr (.inr (.inr (.inr h)))
  have mo8 : m8 "often" = some (.ref od) := (hm8 _ (by decide)).trans q1
  have mt8 : m8 "ties" = some (.ref at') := (hm8 _ (by decide)).trans q2
  show wpAny _ _ _ _ _ _
  iterate 1 walk1
  refine often_relax (T := T) (Lf := Lf) (oO := oO8) W rfl G F₈ (fun p hp => N₈ p ?_) mo8 mt8 hpack.1 hi dO8 (by passes_own) (fun h9 tk9 m9 oO9 F₉ N₉ mo9 dO9 => ?_)
  · rw [List.mem_singleton.mp hp]
    exact .tail _ (.tail _ (.tail _ (.head _)))
  show wpAny _ _ _ _ _ _
  iterate 1 walk1
  conv in stOften 4 => whnf
  repeat walk1
  exact hQ _ _ _ F₉.keep (N₉ _ (.head _)).2.2 ⟨hsys', oO9, (N₉ _ (.head _)).1, dO9⟩
end
section
variable {w : World} {A : Around} {s : Shared} {env : Env} {h₀ : Heap} {E : Value → Shared → Prop} {Q : Flow → Shared → Prop} {m : Str → Option Value} {news : List (Addr × Obj)}
theorem for_brk {tgt iter : Expr} {pos : Pos} {body : List Stmt} {l : Addr} {items : Array Value}
    (hh : A.handled = none) (F : Fr h₀ env.locals s.heap m) (N : News h₀ env.locals s.heap news) (hl : h₀.IsList l items)
    (ho : ∀ Q' : Value → Shared → Prop, Q' (.ref l) s → wpAny (model pw w) A (eval iter env) Q' E s)
    (J : Nat → (Str → Option Value) → List (Addr × Obj) → Prop) (h0 : J 0 m news)
    (step : ∀ i v m₁ news₁ s₁ it oi, items[i]? = some v → J i m₁ news₁ → (∀ p ∈ news₁, p.1 ≠ it) → (∃ its, oi.data = .fields its) → (∃ h tk, s₁ = { s with heap := h, toks := tk }) → Fr h₀ env.locals s₁.heap m₁ → News h₀ env.locals s₁.heap ((it, oi) :: news₁) →
      wpAny (model pw w) A (assign tgt env v) (fun _ s₃ => wpAny (model pw w) A (execs body env) (fun f s₄ => LoopStepU h₀ env.locals [it] [(it, oi)] (J (i + 1)) s₁ f s₄ ∨ (f = .brk ∧ Q .next s₄)) E s₃) E s₁)
    (hQ : ∀ h' tk m' news', Fr h₀ env.locals h' m' → News h₀ env.locals h' news' → J items.size m' news' → Q .next { s with heap := h', toks := tk })
    (hs : ∀ x, foldedSetIterable iter env x = pure x := by intro _; rfl)
    (hE : PassesOwn (model pw w) A env E := by passes_own) :
    wpAny (model pw w) A (exec (.For tgt iter body [] pos) env) Q E s := by
  obtain ⟨ol, hol, _⟩ := id hl
  have hls : s.heap.IsList l items := hl.at fun o e => F.keep l o e
  have hlt : l < h₀.objs.size := Heap.lt_size hol
  have hne : l ≠ s.heap.objs.size := Nat.ne_of_lt (Nat.lt_trans (Nat.lt_of_lt_of_le hlt F.above) F.ns.lt)
  refine wpAny_For (wpAny_mono (ho (fun xv s₁ => wpAny (model pw w) A (pyIter xv) (fun it s₂ => codeAny (model pw w) A (.forLoop tgt it body [] env) (fun r s' => match r with | .ok f => Q f s' | .error e => cameBackBy (model pw w) A env E e s') s₂) E s₁) (wpAny_pyIter_list hls ?_)) (fun _ _ x => x) fun _ _ e => e) hs
  have W := Walks.list (prog := pw) (w := w) hh s.heap.objs.size l hne items
  have hLI : env.locals ≠ s.heap.objs.size := Nat.ne_of_lt F.ns.lt
  have hIn : h₀.get? s.heap.objs.size = none := next_is_new F
  refine codeAny_forLoop_any
    (fun k s' => ∃ h' tk m' news' i, s' = { s with heap := h', toks := tk } ∧ (h'.IsListIter s.heap.objs.size l i ∧ h'.IsList l items) ∧ Fr h₀ env.locals h' m' ∧ News h₀ env.locals h' news' ∧ (∀ p ∈ news', p.1 ≠ s.heap.objs.size) ∧ J i m' news' ∧ i ≤ items.size ∧ k = items.size + 1 - i) ?_ (items.size + 1)
    ⟨_, _, m, news, 0, rfl, ⟨⟨_, Heap.get?_push_size _ rfl, rfl, rfl⟩, hls.at fun o e => Heap.get?_push_of_some _ e⟩, F.push _, fun p hp => ⟨Heap.get?_push_of_some _ (N p hp).1, (N p hp).2⟩, fun p hp hI => absurd (Heap.lt_size (N p hp).1) (hI ▸ Nat.lt_irrefl _), h0, Nat.zero_le _, rfl⟩
  rintro k s' ⟨h', tk, m', news', i, rfl, hst', F', N', hnw', hJ, hi, rfl⟩
  have next : ∀ h₁ : Heap, (∀ b o, b ∉ [s.heap.objs.size] → h'.get? b = some o → h₁.get? b = some o) → Fr h₀ env.locals h₁ m' ∧ News h₀ env.locals h₁ news' := fun h₁ hk₁ =>
    ⟨⟨F'.ns.at' fun o e => hk₁ _ o (fun h => hLI (List.mem_singleton.mp h)) e, fun b o e => hk₁ b o (fun h => by rw [List.mem_singleton.mp h, hIn] at e; cases e) (F'.keep b o e), F'.above⟩, fun p hp => ⟨hk₁ _ _ (fun h => hnw' p hp (List.mem_singleton.mp h)) (N' p hp).1, (N' p hp).2⟩⟩
  by_cases hlt2 : i < items.size
  · refine W.item i _ _ _ hlt2 hst' fun v h₁ tk₁ hP hst₁ hk₁ => ?_
    obtain ⟨F₁, N₁⟩ := next h₁ hk₁
    obtain ⟨⟨oi, hoi, hci, hdi⟩, hl1⟩ := id hst₁
    have N₂ : News h₀ env.locals h₁ ((s.heap.objs.size, oi) :: news') := fun p hp => by
      rcases List.mem_cons.mp hp with rfl | hp
      · exact ⟨hoi, Ne.symm hLI, hIn⟩
      · exact N₁ p hp
    refine letGo_listiter hst₁.1 ?_
    refine wpAny_mono (wpAny_passesOwn hE (step i v m' news' { s with heap := h₁, toks := tk₁ } _ oi hP hJ hnw' ⟨_, hdi⟩ ⟨_, _, rfl⟩ F₁ N₂)) (fun _ s₂ h₂ => wpAny_mono (wpAny_passesOwn hE h₂) (fun f s₃ h₃ => ?_) fun _ _ e => e) fun _ _ e => e
    rcases h₃ with ⟨rfl, h₃', tk₃, m₂, news₂, rfl, F₃, N₃, ha₃, hJ₃⟩ | ⟨rfl, h₃⟩
    · exact ⟨items.size + 1 - (i + 1), by omega, h₃', tk₃, m₂, news₂, i + 1, rfl, ⟨⟨oi, (N₃ _ (.head _)).1, hci, hdi⟩, hl.at fun o e => F₃.keep l o e⟩, F₃, fun p hp => N₃ p (.tail _ hp), fun p hp e => ha₃ p hp (List.mem_singleton.mpr e), hJ₃, hlt2, rfl⟩
    · exact h₃
  · have hin : i = items.size := by omega
    subst hin
    refine W.done _ _ _ hst' fun h₁ tk₁ hk₁ => wpAny_execs_nil ?_
    obtain ⟨F₁, N₁⟩ := next h₁ hk₁
    exact hQ h₁ tk₁ m' news' F₁ N₁ hJ
end
end Mine
namespace Mine
open PySem PySem.W PyProof.Rows PySem.Calls PySem.Spec PyProof.V
theorem inOf {M : Model} {A : Around} {E : Value → Shared → Prop} {s : Shared} {e : Expr} {name : Str} {scope : Scope} {L a : Addr} {cd : Value} {Q : Value → Shared → Prop}
    (h : wpAny M A (eval e (envOf name scope L a cd)) Q E s) : wpAny M A (eval e (envOf name scope L a cd)) Q E s := h
local macro_rules | `(tactic| walk_at "eval Name") => `(tactic| first
  | ((with_reducible refine inComp ?_); first | (name_kind "local"; refine ldK (by assumption) (by rfl) ?_) | (name_kind "cell" "free"; refine ldKC (by assumption) (by rfl) (by assumption) ?_))
  | ((with_reducible refine inOf ?_); first | (name_kind "local"; first | refine ld (by assumption) (by rfl) ?_ | refine ld (by assumption) (by assumption) ?_) | (name_kind "globalImplicit"; first | refine ldB (by assumption) (by assumption) (by assumption) ?_ | refine ldW (by assumption) (by assumption) (by assumption) ?_)))
noncomputable def stRead (i : Nat) : Stmt := (((defAt 75 "_law_read").body)[i]?).getD (.Pass default)
noncomputable def brRead (i : Nat) : Stmt := match stRead 5 with
  | .For _ _ b _ _ => (b[i]?).getD (.Pass default)
  | _ => .Pass default
noncomputable def stTerm (i : Nat) : Stmt := match brRead 1 with
  | .If _ b _ _ => (b[i]?).getD (.Pass default)
  | _ => .Pass default
noncomputable def scRead : Scope := { kind := .function, names := [("row", .local), ("writings", .local), ("marks", .local), ("leaves", .local), ("pair", .local), ("name", .local), ("symbol", .local), ("writing", .local), ("ends", .local), ("sign", .local), ("folded", .local), ("EXACT_TOKEN_TYPES", .globalImplicit), ("ISEOF", .globalImplicit), ("ISTERMINAL", .globalImplicit), ("func_std_string", .globalImplicit), ("len", .globalImplicit), ("add_callers", .globalImplicit), ("ISNONTERMINAL", .globalImplicit), ("chr", .globalImplicit), ("in_table_b1", .globalImplicit), ("in_table_c8", .globalImplicit), ("in_table_c6", .globalImplicit), ("in_table_c7", .globalImplicit), ("in_table_c9", .globalImplicit), ("map_table_b3", .globalImplicit)], isGenerator := false, isCoroutine := false, more := (defAt 75 "_law_read").scope.more }
theorem scRead_eq : (defAt 75 "_law_read").scope = scRead := by kernel_rfl
theorem rec75 : defAt 75 "_law_read" ∈ recsOf qV := rec_of (by kernel_rfl)
noncomputable def wrL : List (Int × Str) := ettL.map fun e => (e.2, e.1)
structure RdSt (w : World) (m : Str → Option Value) (news : List (Addr × Obj)) (M Lv : List (Str × Int)) (pair name : Str) (wd : Addr) (oW : Obj) (md : Addr) (oM : Obj) (ld : Addr) (oL : Obj) (tp tn : Tok) : Prop where
  news : news = [(md, oM), (ld, oL), (wd, oW)]
  mW : m "writings" = some (.ref wd)
  mM : m "marks" = some (.ref md)
  mL : m "leaves" = some (.ref ld)
  mP : m "pair" = some (.str pair tp)
  mN : m "name" = some (.str name tn)
  dW : ∃ kvs, oW.IsDictOf (intKind pw w) kvs ∧ All2 ValP kvs wrL
  dM : DIo w oM M
  dL : DIo w oL Lv
  sM : (md == sysModules) = false
  sL : (ld == sysModules) = false
noncomputable def RdS (w : World) (m : Str → Option Value) (news : List (Addr × Obj)) (M Lv : List (Str × Int)) (pair name : Str) : Prop := ∃ wd oW md oM ld oL tp tn, RdSt w m news M Lv pair name wd oW md oM ld oL tp tn
noncomputable def revS (x : Str) : Str := ⟨#[x.cps.getD 1 0, x.cps.getD 0 0]⟩
noncomputable def nameS (ends : Str) (n : Nat) : Str := (⟨#[ends.cps.getD 0 0]⟩ : Str) ++ ":" ++ Str.ofString (toString (n : Int)) ++ "(" ++ (⟨#[ends.cps.getD 1 0]⟩ : Str) ++ ")"
section
variable {w : World} {mean : ExcName → Option Value} {mg mb : Str → Option Value} {A : Around} {s : Shared} {E : Value → Shared → Prop} {Q : Flow → Shared → Prop}
theorem getItem_int {value slice : Expr} {d : Addr} {o : Obj} {kvs : List (Int × Value)} {l : List (Int × Str)} {k : Int} {x : Str} {t₁ : Tok} {Q : Value → Shared → Prop} (ho : s.heap.get? d = some o) (hd : o.IsDictOf (intKind pw w) kvs) (hl : All2 ValP kvs l) (hk : (l.find? fun kv => kv.1 = k).map (·.2) = some x)
    (h : ∀ t k, Q (.str x t) { s with toks := k })
    (hs : subscripted slice false (.ref d) (.int k t₁) = operate [.ref d, .int k t₁] (getItem (.ref d) (.int k t₁)) := by with_unfolding_all rfl)
    (ht : ∀ r, letTemporaryGo value (.ref d) r = pure () := by intro _; with_unfolding_all rfl) : wpAny (model pw w) A (subscriptTail value slice (.ref d) (.int k t₁)) Q E s := by
  have hdo : s.heap.DictOf (intKind pw w) d kvs := Heap.dictOf_iff.mpr ⟨_, ho, hd⟩
  obtain ⟨t, hv⟩ := val_at hl k hk
  refine subscriptTail_ops hdo.typeIs F.slot_dict_getitem.lookup (wpAny_getItem_of (knd := intKind pw w) (k := k) ?_ hdo.mapOf hv (h t _)) hs ht
  simp [intKind, Value.isInt]
set_option maxHeartbeats 400000 in
theorem rd_ends {h₀ : Heap} {L a wd : Addr} {oW : Obj} {nm : Str} {cd : Value} {m : Str → Option Value} {news : List (Addr × Obj)} {x c0 c1 w0 : Nat} {wr pair : Str} {t tp : Tok} {kvs : List (Int × Value)}
    (hh : A.handled = none) (F : Fr h₀ L s.heap m) (N : News h₀ L s.heap news) (hwd : s.heap.get? wd = some oW) (mW : m "writings" = some (.ref wd)) (mS : m "symbol" = some (.int x t)) (mP : m "pair" = some (.str pair tp))
    (hd : oW.IsDictOf (intKind pw w) kvs) (hl : All2 ValP kvs wrL) (hk : (wrL.find? fun kv => kv.1 = (x : Int)).map (·.2) = some wr) (hw0 : (seqIndex? 0 wr.length).bind (wr.cps[·]?) = some w0) (hp : pair = ⟨#[c0, c1]⟩)
    (hQ : ∀ h' tk m' t1 t2, Fr h₀ L h' m' → News h₀ L h' news → m' "writing" = some (.str wr t1) → m' "ends" = some (.str (if w0 = 60 then revS pair else pair) t2) → (∀ q : Str, q ≠ "writing" → q ≠ "ends" → m' q = m q) → Q .next { s with heap := h', toks := tk }) :
    wpAny (model pw w) A (execs [stTerm 0, stTerm 1] (envOf nm scRead L a cd)) Q E s := by
  cases A
  cases hh
  iterate 1 walk1
  conv in stTerm 0 => whnf
  iterate 4 walk1
  refine getItem_int hwd hd hl hk (fun t1 k1 => ?_)
  iterate 2 walk1
  rename Heap => h3
  rename Fr _ _ _ _ => F1
  rename News _ _ _ _ => N1
  obtain ⟨m₁, F₁, q1, q2, q3⟩ : ∃ m₁, Fr h₀ L h3 m₁ ∧ m₁ "writing" = some (.str wr t1) ∧ m₁ "pair" = some (.str pair tp) ∧ (∀ q : Str, q ≠ "writing" → m₁ q = m q) :=
    ⟨_, F1, by kernel_rfl, mP, fun q hq => by show (if q = "writing" then _ else m q) = m q; rw [if_neg hq]⟩
  clear F1
  conv in stTerm 1 => whnf
  iterate 6 walk1
  refine str_at (c := w0) (by decide +kernel) hw0 fun _ _ => ?_
  iterate 3 walk1
  have he : ((⟨#[w0]⟩ : Str) == "<") = decide (w0 = 60) := by
    have e : ("<" : Str) = ⟨#[60]⟩ := by kernel_rfl
    rw [e]
    by_cases h : w0 = 60
    · subst h; rw [decide_eq_true rfl]; exact beq_self_eq_true _
    · rw [decide_eq_false h]
      exact beq_eq_false_iff_ne.mpr (fun h2 => h (by injection h2 with h3; simpa using h3))
  rw [he]
  by_cases hc : w0 = 60
  · rw [if_pos (by simpa using hc)]
    rw [if_pos hc] at hQ
    iterate 9 walk1
    refine slice_strK_nn (k := -1) (s := ⟨_, _, _, _, _⟩) F₁ N1 (by decide) (fun h4 t4 k4 F₄ N₄ => ?_) (hsz := ?_)
    · have hr : ∀ u, Txt.sliceBy pair none none (-1, u) = revS pair := fun u => by subst hp; kernel_rfl
      rw [hr]
      clear N1
      repeat walk1
      rename Heap => h5
      rename Fr _ _ _ _ => F5
      rename News _ _ _ _ => N5
      refine hQ h5 _ _ t1 t4 F5 N5 ?_ (by kernel_rfl) (fun q hq1 hq2 => ?_)
      · show (if ("writing" : Str) = "ends" then _ else m₁ "writing") = _
        rw [if_neg (by decide), q1]
      · show (if q = "ends" then _ else m₁ q) = m q
        rw [if_neg hq2]; exact q3 q hq1
    · subst hp
      show 2 ≤ sizeLine
      decide
  · rw [if_neg (by simpa using hc)]
    rw [if_neg hc] at hQ
    repeat walk1
    rename Heap => h4
    rename Fr _ _ _ _ => F4
    rename News _ _ _ _ => N4
    refine hQ h4 _ _ t1 tp F4 N4 ?_ (by kernel_rfl) (fun q hq1 hq2 => ?_)
    · show (if ("writing" : Str) = "ends" then _ else m₁ "writing") = _
      rw [if_neg (by decide), q1]
    · show (if q = "ends" then _ else m₁ q) = m q
      rw [if_neg hq2]; exact q3 q hq1
end
section
variable {w : World} {mean : ExcName → Option Value} {mg mb : Str → Option Value} {A : Around} {s : Shared} {E : Value → Shared → Prop} {Q : Flow → Shared → Prop}
theorem dict_two {env : Env} {kx vx : Expr} {pos : Pos} {x : Str} {d : Int} {t1 : Tok} {Q : Value → Shared → Prop} (W : WG mean mg mb s.heap)
    (hk : ∀ (h1 : Heap) (Q' : Value → Shared → Prop), (∀ b o, s.heap.get? b = some o → h1.get? b = some o) → Q' (.str x t1) { s with heap := h1 } → wpAny (model pw w) A (eval kx env) Q' E { s with heap := h1 })
    (hv : ∀ (h1 : Heap) (tk : Nat) (Q' : Value → Shared → Prop), (∀ b o, s.heap.get? b = some o → h1.get? b = some o) → (∀ t k, Q' (.int d t) { s with heap := h1, toks := k }) → wpAny (model pw w) A (eval vx env) Q' E { s with heap := h1, toks := tk })
    (hQ : ∀ D h' tk, (∀ b o, s.heap.get? b = some o → h'.get? b = some o) → s.heap.get? D = none → DI w h' D [(x, d)] → Q (.ref D) { s with heap := h', toks := tk }) :
    wpAny (model pw w) A (eval (.Dict [some kx] [vx] pos) env) Q E s := by
  refine wpAny_Dict_walk (knd := PySem.strKind pw w) rfl rfl (by simp) (by simp) ?_
  refine pairTrees_cons_walk (hk _ _ (fun b o e => Heap.get?_push_of_some _ e) (hv _ _ _ (fun b o e => Heap.get?_push_of_some _ e) fun t k => pairTrees_nil_walk ?_))
  refine ⟨[(x, .int d t)], ⟨by simp [PySem.strKind, Value.isStrOf], rfl, trivial⟩, Heap.DictOf.new _, fun h' hd hs => ?_⟩
  have hkeep : ∀ b o, s.heap.get? b = some o → h'.get? b = some o := fun b o e => hs.extBut b o (Nat.ne_of_lt (Heap.lt_size e)) (Heap.get?_push_of_some _ e)
  exact hQ _ h' _ hkeep (fresh_at (Nat.le_refl _)) (DI.ofDictOf (not_sys W (Nat.le_refl _)) hd (.cons ⟨rfl, t, rfl⟩ .nil))
set_option maxHeartbeats 400000 in
theorem rd_name {h₀ : Heap} {L a md : Addr} {oM : Obj} {nm : Str} {cd : Value} {m : Str → Option Value} {rest : List (Addr × Obj)} {d0 d1 : Nat} {wr : Str} {t te : Tok} {M : List (Str × Int)} (W : WG mean mg mb h₀)
    (hroom : A.depth + 3 < recursionLimit) (hh : A.handled = none) (hu : A.units + 50 < cLine) (F : Fr h₀ L s.heap m) (N : News h₀ L s.heap ((md, oM) :: rest)) (mM : m "marks" = some (.ref md)) (mWr : m "writing" = some (.str wr t)) (mE : m "ends" = some (.str ⟨#[d0, d1]⟩ te))
    (dM : DIo w oM M) (sM : (md == sysModules) = false) (hMn : (M.map (·.1)).Nodup) (hMl : M.length ≤ 100) (hd0 : d0 ≠ 126) (hwr : wr.length ≤ 10)
    (hQ : ∀ h' tk m' r oR tn, Fr h₀ L h' m' → News h₀ L h' ((r, oR) :: rest) → (r == sysModules) = false → DIo w oR (addI M [(nameS ⟨#[d0, d1]⟩ M.length, (wr.length : Int) - 1)]) → m' "marks" = some (.ref r) → m' "name" = some (.str (nameS ⟨#[d0, d1]⟩ M.length) tn) → (∀ q : Str, q ≠ "name" → q ≠ "marks" → m' q = m q) → (∀ p ∈ rest, r ≠ p.1) → Q .next { s with heap := h', toks := tk }) :
    wpAny (model pw w) A (execs [stTerm 2, stTerm 3] (envOf nm scRead L a cd)) Q E s := by
  cases A
  cases hh
  have NL := W.T.nolimit
  have BL := W.len
  obtain ⟨fa, oa, fda, B1, B2, B3⟩ := fn_name W rec3 (n := "add_callers") (by kernel_rfl)
  obtain ⟨fb, ob, fdb, B4, B5, B6⟩ := fn_name W rec1 (n := "func_std_string") (by kernel_rfl)
  obtain ⟨kM, hM1, hM2⟩ := id dM
  have hdm : s.heap.DictOf (PySem.strKind pw w) md kM := Heap.dictOf_iff.mpr ⟨_, (N _ (.head _)).1, hM1⟩
  have hkl : kM.length = M.length := hM2.length
  have fitM : (kM.length : Int) < 2 ^ 63 := by rw [hkl]; exact Int.lt_of_le_of_lt (Int.ofNat_le.mpr hMl) (by decide)
  iterate 1 walk1
  conv in stTerm 2 => whnf
  iterate 10 walk1
  refine str_at (c := d0) (by decide +kernel) (by kernel_rfl) fun _ _ => ?_
  iterate 7 walk1
  refine call_len_dict sM hdm fitM ?_
  rw [hkl]
  iterate 4 walk1
  refine str_at (c := d1) (by decide +kernel) (by kernel_rfl) fun _ _ => ?_
  iterate 3 walk1
  rename Fr _ _ _ _ => F2
  rename News _ _ _ _ => N2
  refine of_name B4 (fstd (W.keeps F2.keep) (Nat.lt_of_le_of_lt (Nat.le_add_right _ _) hroom) rfl hu (N2.isTup (.head _)) (fun e => hd0 ?_) (Int.ofNat_nonneg _) (Int.lt_of_le_of_lt (Int.ofNat_le.mpr hMl) (by decide)) (by show 1 ≤ 10; decide) (by show 1 ≤ 10; decide) (fun h5 tk5 t5 hk5 => ?_))
  · have e2 : ("~" : Str) = ⟨#[126]⟩ := by kernel_rfl
    rw [e2] at e
    injection e with e3
    simpa using e3
  have F5 := F2.keeps hk5
  have N5 : News h₀ L h5 ((md, oM) :: rest) := fun p hp => N2.keepsAll hk5 p (.tail _ hp)
  clear F2 N2
  have en : (⟨#[d0]⟩ : Str) ++ ":" ++ Str.ofString (toString (M.length : Int)) ++ "(" ++ (⟨#[d1]⟩ : Str) ++ ")" = nameS ⟨#[d0, d1]⟩ M.length := rfl
  rw [en]
  iterate 2 walk1
  conv in stTerm 3 => whnf
  rename Heap => h6
  rename Fr _ _ _ _ => F6
  rename News _ _ _ _ => N6
  obtain ⟨m₆, F₆, q1, q2, q3, q4⟩ : ∃ m₆, Fr h₀ L h6 m₆ ∧ m₆ "name" = some (.str (nameS ⟨#[d0, d1]⟩ M.length) t5) ∧ m₆ "marks" = some (.ref md) ∧ m₆ "writing" = some (.str wr t) ∧ (∀ q : Str, q ≠ "name" → m₆ q = m q) :=
    ⟨_, F6, by kernel_rfl, mM, mWr, fun q hq => by show (if q = "name" then _ else m q) = m q; rw [if_neg hq]⟩
  clear F6 F5 N5 F N
  generalize hx : nameS ⟨#[d0, d1]⟩ M.length = nn at *
  iterate 7 walk1
  refine dict_two (x := nn) (d := (wr.length : Int) - 1) (t1 := t5) (W.keeps F₆.keep) (fun g Q' hk h => ?_) (fun g tk' Q' hk h => ?_) (fun D6 h15 tk15 hk15 hf15 hD6 => ?_)
  · refine ld (F₆.keeps hk) q1 h
  · have Fg := F₆.keeps hk
    iterate 7 walk1
    refine PyProof.Rows.len_str (Int.not_le.mpr (Int.lt_of_le_of_lt (Int.ofNat_le.mpr hwr) (by decide))) ?_
    iterate 2 walk1
    exact h _ _
  have F7 := F₆.keeps hk15
  have N7 := N6.keepsAll hk15
  iterate 1 walk1
  refine of_name B1 (addc (l1 := M) (W.keeps F7.keep) (Nat.lt_of_le_of_lt (Nat.le_add_right _ _) hroom) rfl ⟨sM, _, (N7 _ (.head _)).1, dM⟩ hD6 (Nat.le_trans hMl (by decide)) (by simp) fun h10 tk10 r hk10 hf10 hr => ?_)
  rw [fold_put hMn] at hr
  have F10 := F7.keeps hk10
  obtain ⟨rs, orr, hor, hDr⟩ := hr
  have N10 : News h₀ L h10 ((r, orr) :: rest) := Mine.News.fresh_cons F7 hf10 hor (fun p hp => N7.keepsAll hk10 p (.tail _ hp))
  have hrest : ∀ p ∈ rest, r ≠ p.1 := fun p hp => fun e => by
    have h1 := (N7 p (.tail _ hp)).1
    rw [← e, hf10] at h1
    cases h1
  clear F7 N7 F₆ N6
  repeat walk1
  rename Heap => h11
  rename Fr _ _ _ _ => F11
  rename News _ _ _ _ => N11
  refine hQ h11 _ _ r orr t5 F11 N11 rs hDr (by kernel_rfl) ?_ (fun q hq1 hq2 => ?_) hrest
  · show (if ("name" : Str) = "marks" then _ else m₆ "name") = _
    rw [if_neg (by decide), q1]
  · show (if q = "marks" then _ else m₆ q) = m q
    rw [if_neg hq2]; exact q4 q hq1
end
noncomputable def stN (i : Nat) : Stmt := match brRead 2 with
  | .If _ b _ _ => (b[i]?).getD (.Pass default)
  | _ => .Pass default
noncomputable def stO : Stmt := match stN 1 with
  | .If _ _ [e] _ => e
  | _ => .Pass default
noncomputable def stA : Stmt := match stN 1 with
  | .If _ [e] _ _ => e
  | _ => .Pass default
noncomputable def stF (i : Nat) : Stmt := match stO with
  | .If _ b _ _ => (b[i]?).getD (.Pass default)
  | _ => .Pass default
noncomputable def stFa : Stmt := match stF 1 with
  | .If _ [e] _ _ => e
  | _ => .Pass default
noncomputable def stFb : Stmt := match stF 1 with
  | .If _ _ [e] _ => e
  | _ => .Pass default
section
variable {w : World} {mean : ExcName → Option Value} {mg mb : Str → Option Value} {A : Around} {s : Shared} {E : Value → Shared → Prop} {Q : Flow → Shared → Prop}
set_option maxHeartbeats 400000 in
theorem non_head {h₀ : Heap} {L a : Addr} {nm : Str} {cd : Value} {m : Str → Option Value} {news : List (Addr × Obj)} {x : Nat} {t : Tok} (W : WG mean mg mb h₀) (TF : TopsF w mg h₀)
    (hroom : A.depth + 3 < recursionLimit) (hh : A.handled = none) (F : Fr h₀ L s.heap m) (N : News h₀ L s.heap news) (mS : m "symbol" = some (.int x t)) (hx1 : 256 ≤ x) (hx2 : x < 1114112)
    (hQ : ∀ h' tk m' ts, Fr h₀ L h' m' → News h₀ L h' news → m' "sign" = some (.str ⟨#[x]⟩ ts) → (∀ q : Str, q ≠ "sign" → m' q = m q) → wpAny (model pw w) A (execs [stN 1] (envOf nm scRead L a cd)) Q E { s with heap := h', toks := tk }) :
    wpAny (model pw w) A (exec (brRead 2) (envOf nm scRead L a cd)) Q E s := by
  cases A
  cases hh
  have NL := W.T.nolimit
  have BC := W.chr
  obtain ⟨fa, oa, fda, B1, B2, B3⟩ := fn_name W rec71 (n := "ISNONTERMINAL") (by kernel_rfl)
  conv in brRead 2 => whnf
  iterate 8 walk1
  refine of_name B1 (w_ISNONTERMINAL (W.keeps F.keep) (Nat.lt_of_le_of_lt (Nat.le_add_right _ _) hroom) (fun h2 tk2 hk2 => ?_))
  have F2 := F.keeps hk2
  have N2 := N.keepsAll hk2
  clear F N
  iterate 1 walk1
  rw [if_pos (show decide ((x : Int) ≥ 256) = true from decide_eq_true (by omega))]
  show wpAny _ _ (execs [stN 0, stN 1] _) _ _ _
  iterate 1 walk1
  conv in stN 0 => whnf
  iterate 9 walk1
  rename Heap => h3
  rename Fr _ _ _ _ => F3
  rename News _ _ _ _ => N3
  refine hQ h3 _ _ _ F3 N3 (by rfl) (fun q hq => ?_)
  show (if q = "sign" then _ else m q) = m q
  rw [if_neg hq]
set_option maxHeartbeats 400000 in
theorem non_add {h₀ : Heap} {L a md : Addr} {oM : Obj} {nm : Str} {cd : Value} {m : Str → Option Value} {rest : List (Addr × Obj)} {tn : Tok} {name : Str} {M : List (Str × Int)} (W : WG mean mg mb h₀)
    (hroom : A.depth + 3 < recursionLimit) (hh : A.handled = none) (F : Fr h₀ L s.heap m) (N : News h₀ L s.heap ((md, oM) :: rest)) (mM : m "marks" = some (.ref md)) (mN : m "name" = some (.str name tn))
    (dM : DIo w oM M) (sM : (md == sysModules) = false) (hMn : (M.map (·.1)).Nodup) (hMl : M.length ≤ 100)
    (hQ : ∀ h' tk m' r oR, Fr h₀ L h' m' → News h₀ L h' ((r, oR) :: rest) → (r == sysModules) = false → DIo w oR (addI M [(name, 1)]) → m' "marks" = some (.ref r) → (∀ q : Str, q ≠ "marks" → m' q = m q) → (∀ p ∈ rest, r ≠ p.1) → Q .next { s with heap := h', toks := tk }) :
    wpAny (model pw w) A (exec stA (envOf nm scRead L a cd)) Q E s := by
  cases A
  cases hh
  have NL := W.T.nolimit
  obtain ⟨fc, oc, fdc, B7, B8, B9⟩ := fn_name W rec3 (n := "add_callers") (by kernel_rfl)
  conv in stA => whnf
  iterate 7 walk1
  refine dict_one (x := name) (d := 1) (t1 := tn) (W.keeps F.keep) (fun g Q' hk h => ?_) (fun s' Q' h => ?_) (fun D6 h15 tk15 hk15 hf15 hD6 => ?_)
  · refine ld (F.keeps hk) mN h
  · repeat walk1
    exact h _ _
  have F7 := F.keeps hk15
  have N7 := N.keepsAll hk15
  clear F N
  iterate 1 walk1
  refine of_name B7 (addc (l1 := M) (W.keeps F7.keep) (Nat.lt_of_le_of_lt (Nat.le_add_right _ _) hroom) rfl ⟨sM, _, (N7 _ (.head _)).1, dM⟩ hD6 (Nat.le_trans hMl (by decide)) (by simp) fun h10 tk10 r hk10 hf10 hr => ?_)
  rw [fold_put hMn] at hr
  have F10 := F7.keeps hk10
  obtain ⟨rs, orr, hor, hDr⟩ := hr
  have N10 : News h₀ L h10 ((r, orr) :: rest) := Mine.News.fresh_cons F7 hf10 hor (fun p hp => N7.keepsAll hk10 p (.tail _ hp))
  have hrest : ∀ p ∈ rest, r ≠ p.1 := fun p hp => fun e => by
    have h1 := (N7 p (.tail _ hp)).1
    rw [← e, hf10] at h1
    cases h1
  clear F7 N7
  iterate 1 walk1
  rename Heap => h11
  rename Fr _ _ _ _ => F11
  rename News _ _ _ _ => N11
  refine hQ h11 _ _ r orr F11 N11 rs hDr (by kernel_rfl) (fun q hq => ?_) hrest
  show (if q = "marks" then _ else m q) = m q
  rw [if_neg hq]
set_option maxHeartbeats 400000 in
theorem non_mark {h₀ : Heap} {L a md : Addr} {oM : Obj} {nm : Str} {cd : Value} {m : Str → Option Value} {rest : List (Addr × Obj)} {x : Nat} {ts tn : Tok} {name : Str} {M : List (Str × Int)} (W : WG mean mg mb h₀) (TF : TopsF w mg h₀)
    (hroom : A.depth + 3 < recursionLimit) (hh : A.handled = none) (F : Fr h₀ L s.heap m) (N : News h₀ L s.heap ((md, oM) :: rest)) (mM : m "marks" = some (.ref md)) (mN : m "name" = some (.str name tn))
    (dM : DIo w oM M) (sM : (md == sysModules) = false) (hMn : (M.map (·.1)).Nodup) (hMl : M.length ≤ 100) (mS : m "sign" = some (.str ⟨#[x]⟩ ts)) (hx : (b1L.contains (x : Int) || c8L.contains (x : Int)) = true)
    (hQ : ∀ h' tk m' r oR, Fr h₀ L h' m' → News h₀ L h' ((r, oR) :: rest) → (r == sysModules) = false → DIo w oR (addI M [(name, 1)]) → m' "marks" = some (.ref r) → (∀ q : Str, q ≠ "marks" → m' q = m q) → (∀ p ∈ rest, r ≠ p.1) → Q .next { s with heap := h', toks := tk }) :
    wpAny (model pw w) A (exec (stN 1) (envOf nm scRead L a cd)) Q E s := by
  cases A
  cases hh
  have NL := W.T.nolimit
  obtain ⟨fa, oa, fda, B1, B2, B3⟩ := fn_name W rec7 (n := "in_table_b1") (by kernel_rfl)
  obtain ⟨fb, ob, fdb, B4, B5, B6⟩ := fn_name W rec15 (n := "in_table_c8") (by kernel_rfl)
  conv in stN 1 => whnf
  iterate 9 walk1
  refine of_name B1 (in_b1 (W.keeps F.keep) (Nat.lt_of_le_of_lt (Nat.le_add_right _ _) hroom) (TF.keeps F.keep) (fun h2 tk2 hk2 => ?_))
  have F2 := F.keeps hk2
  have N2 := N.keepsAll hk2
  clear F N
  cases hb : b1L.contains (x : Int) with
  | true =>
    iterate 1 walk1
    rw [if_pos rfl, if_pos rfl]
    show wpAny _ _ (execs [stA] _) _ _ _
    iterate 1 walk1
    refine non_add W hroom rfl F2 N2 mM mN dM sM hMn hMl (fun h' tk m' r oR a1 a2 a3 a4 a5 a6 a7 => ?_)
    show wpAny _ _ _ _ _ _
    iterate 1 walk1
    exact hQ h' tk m' r oR a1 a2 a3 a4 a5 a6 a7
  | false =>
    rw [hb, Bool.false_or] at hx
    iterate 1 walk1
    rw [if_neg (by decide)]
    iterate 8 walk1
    refine of_name B4 (in_c8 (W.keeps F2.keep) (Nat.lt_of_le_of_lt (Nat.le_add_right _ _) hroom) (TF.keeps F2.keep) (fun h3 tk3 hk3 => ?_))
    have F3 := F2.keeps hk3
    have N3 := N2.keepsAll hk3
    clear F2 N2
    rw [hx]
    iterate 1 walk1
    rw [if_pos rfl, if_pos rfl]
    show wpAny _ _ (execs [stA] _) _ _ _
    iterate 1 walk1
    refine non_add W hroom rfl F3 N3 mM mN dM sM hMn hMl (fun h' tk m' r oR a1 a2 a3 a4 a5 a6 a7 => ?_)
    show wpAny _ _ _ _ _ _
    iterate 1 walk1
    exact hQ h' tk m' r oR a1 a2 a3 a4 a5 a6 a7
set_option maxHeartbeats 400000 in
theorem non_else {h₀ : Heap} {L a : Addr} {nm : Str} {cd : Value} {m : Str → Option Value} {news : List (Addr × Obj)} {x : Nat} {ts : Tok} (W : WG mean mg mb h₀) (TF : TopsF w mg h₀)
    (hroom : A.depth + 3 < recursionLimit) (hh : A.handled = none) (F : Fr h₀ L s.heap m) (N : News h₀ L s.heap news) (mS : m "sign" = some (.str ⟨#[x]⟩ ts)) (hx1 : b1L.contains (x : Int) = false) (hx2 : c8L.contains (x : Int) = false)
    (hQ : ∀ h' tk, Fr h₀ L h' m → News h₀ L h' news → wpAny (model pw w) A (execs [stO] (envOf nm scRead L a cd)) Q E { s with heap := h', toks := tk }) :
    wpAny (model pw w) A (exec (stN 1) (envOf nm scRead L a cd)) Q E s := by
  cases A
  cases hh
  have NL := W.T.nolimit
  obtain ⟨fa, oa, fda, B1, B2, B3⟩ := fn_name W rec7 (n := "in_table_b1") (by kernel_rfl)
  obtain ⟨fb, ob, fdb, B4, B5, B6⟩ := fn_name W rec15 (n := "in_table_c8") (by kernel_rfl)
  conv in stN 1 => whnf
  iterate 9 walk1
  refine of_name B1 (in_b1 (W.keeps F.keep) (Nat.lt_of_le_of_lt (Nat.le_add_right _ _) hroom) (TF.keeps F.keep) (fun h2 tk2 hk2 => ?_))
  have F2 := F.keeps hk2
  have N2 := N.keepsAll hk2
  clear F N
  rw [hx1]
  iterate 1 walk1
  rw [if_neg (by decide)]
  iterate 8 walk1
  refine of_name B4 (in_c8 (W.keeps F2.keep) (Nat.lt_of_le_of_lt (Nat.le_add_right _ _) hroom) (TF.keeps F2.keep) (fun h3 tk3 hk3 => ?_))
  have F3 := F2.keeps hk3
  have N3 := N2.keepsAll hk3
  clear F2 N2
  rw [hx2]
  iterate 1 walk1
  rw [if_neg (by decide)]
  iterate 1 walk1
  rw [if_neg (by decide)]
  show wpAny _ _ (execs [stO] _) _ _ _
  exact hQ _ _ F3 N3
end
section
variable {w : World} {mean : ExcName → Option Value} {mg mb : Str → Option Value} {A : Around} {s : Shared} {E : Value → Shared → Prop} {Q : Flow → Shared → Prop}
set_option maxHeartbeats 400000 in
theorem non_tables {h₀ : Heap} {L a : Addr} {nm : Str} {cd : Value} {m : Str → Option Value} {news : List (Addr × Obj)} {x : Nat} {ts : Tok} (W : WG mean mg mb h₀) (TF : TopsF w mg h₀)
    (hroom : A.depth + 3 < recursionLimit) (hh : A.handled = none) (F : Fr h₀ L s.heap m) (N : News h₀ L s.heap news) (mS : m "sign" = some (.str ⟨#[x]⟩ ts))
    (hQ0 : ∀ h' tk, (c6L.contains (x : Int) || c7L.contains (x : Int) || S16f x) = true → Fr h₀ L h' m → News h₀ L h' news → Q .next { s with heap := h', toks := tk })
    (hQ : ∀ h' tk, (c6L.contains (x : Int) || c7L.contains (x : Int) || S16f x) = false → Fr h₀ L h' m → News h₀ L h' news → wpAny (model pw w) A (execs [stF 0, stF 1] (envOf nm scRead L a cd)) Q E { s with heap := h', toks := tk }) :
    wpAny (model pw w) A (exec stO (envOf nm scRead L a cd)) Q E s := by
  cases A
  cases hh
  have NL := W.T.nolimit
  obtain ⟨fa, oa, fda, B1, B2, B3⟩ := fn_name W rec11 (n := "in_table_c6") (by kernel_rfl)
  obtain ⟨fb, ob, fdb, B4, B5, B6⟩ := fn_name W rec13 (n := "in_table_c7") (by kernel_rfl)
  obtain ⟨fc, oc, fdc, B7, B8, B9⟩ := fn_name W rec17 (n := "in_table_c9") (by kernel_rfl)
  conv in stO => whnf
  repeat walk1
  refine of_name B1 (in_c6 (W.keeps F.keep) (Nat.lt_of_le_of_lt (Nat.le_add_right _ _) hroom) (TF.keeps F.keep) (fun h2 tk2 hk2 => ?_))
  have F2 := F.keeps hk2
  have N2 := N.keepsAll hk2
  clear F N
  iterate 1 walk1
  cases h6 : c6L.contains (x : Int) with
  | true =>
    rw [if_pos rfl, if_neg (by decide)]
    repeat walk1
    exact hQ0 _ _ (by rw [h6]; rfl) F2 N2
  | false =>
    rw [if_neg (by decide)]
    iterate 8 walk1
    refine of_name B4 (in_c7 (W.keeps F2.keep) (Nat.lt_of_le_of_lt (Nat.le_add_right _ _) hroom) (TF.keeps F2.keep) (fun h3 tk3 hk3 => ?_))
    have F3 := F2.keeps hk3
    have N3 := N2.keepsAll hk3
    clear F2 N2
    iterate 1 walk1
    cases h7 : c7L.contains (x : Int) with
    | true =>
      rw [if_pos rfl, if_neg (by decide)]
      repeat walk1
      exact hQ0 _ _ (by rw [h6, h7]; rfl) F3 N3
    | false =>
      rw [if_neg (by decide)]
      iterate 8 walk1
      refine of_name B7 (in_c9 (W.keeps F3.keep) (Nat.lt_of_le_of_lt (Nat.le_add_right _ _) hroom) (TF.keeps F3.keep) (fun h4 tk4 hk4 => ?_))
      have F4 := F3.keeps hk4
      have N4 := N3.keepsAll hk4
      clear F3 N3
      iterate 1 walk1
      cases h9 : S16f (x : Int) with
      | true =>
        rw [if_pos rfl, if_neg (by decide)]
        repeat walk1
        exact hQ0 _ _ (by rw [h6, h7, h9]; rfl) F4 N4
      | false =>
        rw [if_neg (by decide)]
        iterate 1 walk1
        rw [if_pos (by decide)]
        show wpAny _ _ (execs [stF 0, stF 1] _) _ _ _
        exact hQ _ _ (by rw [h6, h7, h9]; rfl) F4 N4
set_option maxHeartbeats 400000 in
theorem non_fold {h₀ : Heap} {L a ld : Addr} {oL : Obj} {nm : Str} {cd : Value} {m : Str → Option Value} {rest : List (Addr × Obj)} {x : Nat} {ts : Tok} {y : Str} {Lv : List (Str × Int)} (W : WG mean mg mb h₀) (TF : TopsF w mg h₀)
    (hroom : A.depth + 3 < recursionLimit) (hh : A.handled = none) (F : Fr h₀ L s.heap m) (N : News h₀ L s.heap ((ld, oL) :: rest)) (mS : m "sign" = some (.str ⟨#[x]⟩ ts)) (mL : m "leaves" = some (.ref ld))
    (dL : DIo w oL Lv) (sL : (ld == sysModules) = false) (hLn : (Lv.map (·.1)).Nodup) (hLl : Lv.length ≤ 100) (hy : (b3E.find? fun kv => kv.1 = (x : Int)).map (·.2) = some y) (hyl : y.length ≤ 10)
    (hQ0 : ∀ h' tk m' ty, y.length = 2 → Fr h₀ L h' m' → News h₀ L h' ((ld, oL) :: rest) → m' "pair" = some (.str y ty) → (∀ q : Str, q ≠ "folded" → q ≠ "pair" → m' q = m q) → Q .next { s with heap := h', toks := tk })
    (hQ : ∀ h' tk m' r oR, y.length ≠ 2 → Fr h₀ L h' m' → News h₀ L h' ((r, oR) :: rest) → (r == sysModules) = false → DIo w oR (addI Lv [(y, 1)]) → m' "leaves" = some (.ref r) → (∀ q : Str, q ≠ "folded" → q ≠ "leaves" → m' q = m q) → (∀ p ∈ rest, r ≠ p.1) → Q .next { s with heap := h', toks := tk }) :
    wpAny (model pw w) A (execs [stF 0, stF 1] (envOf nm scRead L a cd)) Q E s := by
  cases A
  cases hh
  have NL := W.T.nolimit
  have BL := W.len
  obtain ⟨fa, oa, fda, B1, B2, B3⟩ := fn_name W (show defAt 9 "map_table_b3" ∈ recsOf qV from rec_of (by kernel_rfl)) (n := "map_table_b3") (by kernel_rfl)
  obtain ⟨fc, oc, fdc, B7, B8, B9⟩ := fn_name W rec3 (n := "add_callers") (by kernel_rfl)
  iterate 1 walk1
  conv in stF 0 => whnf
  iterate 7 walk1
  refine of_name B1 (mapB3 (W.keeps F.keep) (Nat.lt_of_le_of_lt (Nat.le_add_right _ _) hroom) (TF.keeps F.keep) hy (fun h2 tk2 t2 hk2 => ?_))
  have F2 := F.keeps hk2
  have N2 := N.keepsAll hk2
  clear F N
  iterate 2 walk1
  rename Heap => h3
  rename Fr _ _ _ _ => F3
  rename News _ _ _ _ => N3
  obtain ⟨m₃, F₃, q1, q2, q3⟩ : ∃ m₃, Fr h₀ L h3 m₃ ∧ m₃ "folded" = some (.str y t2) ∧ m₃ "leaves" = some (.ref ld) ∧ (∀ q : Str, q ≠ "folded" → m₃ q = m q) :=
    ⟨_, F3, by kernel_rfl, mL, fun q hq => by show (if q = "folded" then _ else m q) = m q; rw [if_neg hq]⟩
  clear F3
  conv in stF 1 => whnf
  iterate 8 walk1
  refine PyProof.Rows.len_str (Int.not_le.mpr (Int.lt_of_le_of_lt (Int.ofNat_le.mpr hyl) (by decide))) ?_
  iterate 3 walk1
  by_cases hc : y.length = 2
  · rw [if_pos (by rw [hc]; decide)]
    repeat walk1
    rename Heap => h4
    rename Fr _ _ _ _ => F4
    rename News _ _ _ _ => N4
    refine hQ0 h4 _ _ t2 hc F4 N4 (by kernel_rfl) (fun q hq1 hq2 => ?_)
    show (if q = "pair" then _ else m₃ q) = m q
    rw [if_neg hq2]; exact q3 q hq1
  · rw [if_neg (by rw [beq_iff_eq]; intro e; exact hc (by omega))]
    iterate 8 walk1
    refine dict_one (x := y) (d := 1) (t1 := t2) (W.keeps F₃.keep) (fun g Q' hk h => ?_) (fun s' Q' h => ?_) (fun D6 h15 tk15 hk15 hf15 hD6 => ?_)
    · refine PyProof.Rows.ld (F₃.keeps hk) q1 h
    · repeat walk1
      exact h _ _
    have F7 := F₃.keeps hk15
    have N7 := N3.keepsAll hk15
    clear F₃ N3
    iterate 1 walk1
    refine of_name B7 (addc (l1 := Lv) (W.keeps F7.keep) (Nat.lt_of_le_of_lt (Nat.le_add_right _ _) hroom) rfl ⟨sL, _, (N7 _ (.head _)).1, dL⟩ hD6 (Nat.le_trans hLl (by decide)) (by simp) fun h10 tk10 r hk10 hf10 hr => ?_)
    rw [fold_put hLn] at hr
    have F10 := F7.keeps hk10
    obtain ⟨rs, orr, hor, hDr⟩ := hr
    have N10 : News h₀ L h10 ((r, orr) :: rest) := Mine.News.fresh_cons F7 hf10 hor (fun p hp => N7.keepsAll hk10 p (.tail _ hp))
    have hrest : ∀ p ∈ rest, r ≠ p.1 := fun p hp => fun e => by
      have h1 := (N7 p (.tail _ hp)).1
      rw [← e, hf10] at h1
      cases h1
    clear F7 N7 F2 N2
    repeat walk1
    rename Heap => h11
    rename Fr _ _ _ _ => F11
    rename News _ _ _ _ => N11
    refine hQ h11 _ _ r orr hc F11 N11 rs hDr (by kernel_rfl) (fun q hq1 hq2 => ?_) hrest
    show (if q = "leaves" then _ else m₃ q) = m q
    rw [if_neg hq2]; exact q3 q hq1
end
structure RS4 where
  M : List (Str × Int)
  Lv : List (Str × Int)
  pair : Str
  name : Str
noncomputable def findW (x : Nat) : Option Str := (wrL.find? fun kv => kv.1 = (x : Int)).map (·.2)
noncomputable def findB (x : Nat) : Option Str := (b3E.find? fun kv => kv.1 = (x : Int)).map (·.2)
noncomputable def endsOf (wr pair : Str) : Str := if wr.cps.getD 0 0 = 60 then revS pair else pair
inductive RdStep : RS4 → Nat → RS4 → Prop
  | tie {st : RS4} {x : Nat} {wr : Str} {c0 c1 w0 : Nat} : 0 < x → x < 256 → findW x = some wr → (seqIndex? 0 wr.length).bind (wr.cps[·]?) = some w0 → wr.length ≤ 10 → st.pair = ⟨#[c0, c1]⟩ → c0 ≠ 126 → c1 ≠ 126 →
      RdStep st x { st with M := addI st.M [(nameS (if w0 = 60 then revS st.pair else st.pair) st.M.length, (wr.length : Int) - 1)], name := nameS (if w0 = 60 then revS st.pair else st.pair) st.M.length }
  | mark {st : RS4} {x : Nat} : 256 ≤ x → x < 1114112 → (b1L.contains (x : Int) || c8L.contains (x : Int)) = true → RdStep st x { st with M := addI st.M [(st.name, 1)] }
  | none {st : RS4} {x : Nat} : 256 ≤ x → x < 1114112 → b1L.contains (x : Int) = false → c8L.contains (x : Int) = false → (c6L.contains (x : Int) || c7L.contains (x : Int) || S16f x) = true → RdStep st x st
  | pair {st : RS4} {x : Nat} {y : Str} : 256 ≤ x → x < 1114112 → b1L.contains (x : Int) = false → c8L.contains (x : Int) = false → (c6L.contains (x : Int) || c7L.contains (x : Int) || S16f x) = false → findB x = some y → y.length = 2 → RdStep st x { st with pair := y }
  | leaf {st : RS4} {x : Nat} {y : Str} : 256 ≤ x → x < 1114112 → b1L.contains (x : Int) = false → c8L.contains (x : Int) = false → (c6L.contains (x : Int) || c7L.contains (x : Int) || S16f x) = false → findB x = some y → y.length ≤ 10 → y.length ≠ 2 → RdStep st x { st with Lv := addI st.Lv [(y, 1)] }
structure GoodS (st : RS4) : Prop where
  Mn : (st.M.map (·.1)).Nodup
  Ml : st.M.length ≤ 100
  Ln : (st.Lv.map (·.1)).Nodup
  Ll : st.Lv.length ≤ 100
noncomputable def RdS4 (w : World) (m : Str → Option Value) (news : List (Addr × Obj)) (st : RS4) : Prop := RdS w m news st.M st.Lv st.pair st.name
section
variable {w : World} {mean : ExcName → Option Value} {mg mb : Str → Option Value} {A : Around} {s : Shared} {E : Value → Shared → Prop} {Q : Flow → Shared → Prop}
set_option maxHeartbeats 400000 in
theorem rd_term_no {h₀ : Heap} {L a : Addr} {nm : Str} {cd : Value} {m : Str → Option Value} {news : List (Addr × Obj)} {x : Nat} {t : Tok} (W : WG mean mg mb h₀)
    (hroom : A.depth + 3 < recursionLimit) (hh : A.handled = none) (F : Fr h₀ L s.heap m) (N : News h₀ L s.heap news) (mS : m "symbol" = some (.int x t)) (hx1 : 256 ≤ x)
    (hQ : ∀ h' tk, Fr h₀ L h' m → News h₀ L h' news → Q .next { s with heap := h', toks := tk }) :
    wpAny (model pw w) A (exec (brRead 1) (envOf nm scRead L a cd)) Q E s := by
  cases A
  cases hh
  have NL := W.T.nolimit
  obtain ⟨fa, oa, fda, B1, B2, B3⟩ := fn_name W rec70 (n := "ISTERMINAL") (by kernel_rfl)
  conv in brRead 1 => whnf
  iterate 8 walk1
  refine of_name B1 (w_ISTERMINAL (W.keeps F.keep) (Nat.lt_of_le_of_lt (Nat.le_add_right _ _) hroom) (fun h2 tk2 hk2 => ?_))
  have F2 := F.keeps hk2
  have N2 := N.keepsAll hk2
  clear F N
  iterate 1 walk1
  rw [if_neg (show ¬ decide ((x : Int) < 256) = true from by rw [decide_eq_true_iff]; omega)]
  iterate 1 walk1
  exact hQ _ _ F2 N2
set_option maxHeartbeats 400000 in
theorem rd_term {h₀ : Heap} {L a : Addr} {nm : Str} {cd : Value} {m : Str → Option Value} {news : List (Addr × Obj)} {x : Nat} {t : Tok} (W : WG mean mg mb h₀)
    (hroom : A.depth + 3 < recursionLimit) (hh : A.handled = none) (F : Fr h₀ L s.heap m) (N : News h₀ L s.heap news) (mS : m "symbol" = some (.int x t)) (hx1 : x < 256)
    (hQ : ∀ h' tk, Fr h₀ L h' m → News h₀ L h' news → wpAny (model pw w) A (execs [stTerm 0, stTerm 1, stTerm 2, stTerm 3] (envOf nm scRead L a cd)) Q E { s with heap := h', toks := tk }) :
    wpAny (model pw w) A (exec (brRead 1) (envOf nm scRead L a cd)) Q E s := by
  cases A
  cases hh
  have NL := W.T.nolimit
  obtain ⟨fa, oa, fda, B1, B2, B3⟩ := fn_name W rec70 (n := "ISTERMINAL") (by kernel_rfl)
  conv in brRead 1 => whnf
  iterate 8 walk1
  refine of_name B1 (w_ISTERMINAL (W.keeps F.keep) (Nat.lt_of_le_of_lt (Nat.le_add_right _ _) hroom) (fun h2 tk2 hk2 => ?_))
  have F2 := F.keeps hk2
  have N2 := N.keepsAll hk2
  clear F N
  iterate 1 walk1
  rw [if_pos (show decide ((x : Int) < 256) = true from by rw [decide_eq_true_iff]; omega)]
  show wpAny _ _ (execs [stTerm 0, stTerm 1, stTerm 2, stTerm 3] _) _ _ _
  exact hQ _ _ F2 N2
set_option maxHeartbeats 400000 in
theorem non_no {h₀ : Heap} {L a : Addr} {nm : Str} {cd : Value} {m : Str → Option Value} {news : List (Addr × Obj)} {x : Nat} {t : Tok} (W : WG mean mg mb h₀)
    (hroom : A.depth + 3 < recursionLimit) (hh : A.handled = none) (F : Fr h₀ L s.heap m) (N : News h₀ L s.heap news) (mS : m "symbol" = some (.int x t)) (hx1 : x < 256)
    (hQ : ∀ h' tk, Fr h₀ L h' m → News h₀ L h' news → Q .next { s with heap := h', toks := tk }) :
    wpAny (model pw w) A (exec (brRead 2) (envOf nm scRead L a cd)) Q E s := by
  cases A
  cases hh
  have NL := W.T.nolimit
  obtain ⟨fa, oa, fda, B1, B2, B3⟩ := fn_name W rec71 (n := "ISNONTERMINAL") (by kernel_rfl)
  conv in brRead 2 => whnf
  iterate 8 walk1
  refine of_name B1 (w_ISNONTERMINAL (W.keeps F.keep) (Nat.lt_of_le_of_lt (Nat.le_add_right _ _) hroom) (fun h2 tk2 hk2 => ?_))
  have F2 := F.keeps hk2
  have N2 := N.keepsAll hk2
  clear F N
  iterate 1 walk1
  rw [if_neg (show ¬ decide ((x : Int) ≥ 256) = true from by rw [decide_eq_true_iff]; omega)]
  iterate 1 walk1
  exact hQ _ _ F2 N2
set_option maxHeartbeats 400000 in
theorem rd_eof {h₀ : Heap} {L a : Addr} {nm : Str} {cd : Value} {m : Str → Option Value} {news : List (Addr × Obj)} {x : Nat} {t : Tok} (W : WG mean mg mb h₀)
    (hroom : A.depth + 3 < recursionLimit) (hh : A.handled = none) (F : Fr h₀ L s.heap m) (N : News h₀ L s.heap news) (mS : m "symbol" = some (.int x t))
    (hQ0 : ∀ h' tk, x = 0 → Fr h₀ L h' m → News h₀ L h' news → Q .brk { s with heap := h', toks := tk })
    (hQ : ∀ h' tk, x ≠ 0 → Fr h₀ L h' m → News h₀ L h' news → Q .next { s with heap := h', toks := tk }) :
    wpAny (model pw w) A (exec (brRead 0) (envOf nm scRead L a cd)) Q E s := by
  cases A
  cases hh
  have NL := W.T.nolimit
  obtain ⟨fa, oa, fda, B1, B2, B3⟩ := fn_name W rec72 (n := "ISEOF") (by kernel_rfl)
  conv in brRead 0 => whnf
  iterate 8 walk1
  refine of_name B1 (w_ISEOF (W.keeps F.keep) (Nat.lt_of_le_of_lt (Nat.le_add_right _ _) hroom) (fun h2 tk2 hk2 => ?_))
  have F2 := F.keeps hk2
  have N2 := N.keepsAll hk2
  clear F N
  iterate 1 walk1
  by_cases hx : x = 0
  · rw [if_pos (show ((x : Int) == 0) = true from by rw [beq_iff_eq]; omega)]
    repeat walk1
    exact hQ0 _ _ hx F2 N2
  · rw [if_neg (show ¬ ((x : Int) == 0) = true from by rw [beq_iff_eq]; omega)]
    repeat walk1
    exact hQ _ _ hx F2 N2
end
theorem execs_two {M : Model} {A : Around} {E : Value → Shared → Prop} {s : Shared} {env : Env} {a b c d : Stmt} {Q : Flow → Shared → Prop}
    (h : wpAny M A (execs [a, b] env) (fun f s' => match f with | .next => wpAny M A (execs [c, d] env) Q E s' | f => Q f s') E s) : wpAny M A (execs [a, b, c, d] env) Q E s := by
  intro Γ p hΓ
  have h' := h Γ p hΓ
  rw [execs_cons, Sem.wp_bind'] at h' ⊢
  refine Sem.wp_mono M Γ _ (fun f p' s' h1 => ?_) (fun _ _ _ h' => h') _ _ h'
  cases f with
  | next =>
    dsimp only at h1 ⊢
    rw [execs_cons, Sem.wp_bind'] at h1 ⊢
    refine Sem.wp_mono M Γ _ (fun f p' s' h1 => ?_) (fun _ _ _ h' => h') _ _ h1
    cases f with
    | next => exact h1 Γ p' hΓ
    | _ => exact h1
  | _ => exact h1
section
variable {w : World} {mean : ExcName → Option Value} {mg mb : Str → Option Value} {A : Around} {s : Shared} {E : Value → Shared → Prop} {Q : Flow → Shared → Prop}
set_option maxHeartbeats 400000 in
theorem rd_turn {h₀ : Heap} {L a it : Addr} {oi : Obj} {nm : Str} {cd : Value} {m : Str → Option Value} {news : List (Addr × Obj)} {x : Nat} {t : Tok} {st st' : RS4} (W : WG mean mg mb h₀) (TF : TopsF w mg h₀)
    (hroom : A.depth + 3 < recursionLimit) (hh : A.handled = none) (hu : A.units + 50 < cLine) (F : Fr h₀ L s.heap m) (N : News h₀ L s.heap ((it, oi) :: news)) (hoff : ∀ p ∈ news, p.1 ≠ it) (mS : m "symbol" = some (.int x t)) (hx : x ≠ 0)
    (R : RdS4 w m news st) (G : GoodS st) (S : RdStep st x st')
    (hQ : ∀ h' tk m' news', Fr h₀ L h' m' → News h₀ L h' ((it, oi) :: news') → (∀ p ∈ news', p.1 ≠ it) → RdS4 w m' news' st' → Q .next { s with heap := h', toks := tk }) :
    wpAny (model pw w) A (execs [brRead 0, brRead 1, brRead 2] (envOf nm scRead L a cd)) Q E s := by
  obtain ⟨wd, oW, md, oM, ld, oL, tp, tn, ⟨rfl, mW, mM, mL, mP, mN, dW, dM, dL, sM, sL⟩⟩ := R
  refine wpAny_execs_cons (rd_eof W hroom hh F N mS (fun _ _ h => absurd h hx) (fun h2 tk2 _ F2 N2 => ?_))
  clear F N
  have offw := hoff _ (.tail _ (.tail _ (.head _)))
  have offm := hoff _ (.head _)
  have offl := hoff _ (.tail _ (.head _))
  refine wpAny_execs_cons ?_
  cases S with
  | tie a1 a2 a3 a4 a5 a6 a7 a8 =>
    rename_i wr c0 c1 w0
    obtain ⟨kvs, k1, k2⟩ := dW
    refine rd_term (s := { s with heap := h2, toks := tk2 }) W hroom hh F2 N2 mS a2 (fun h3 tk3 F3 N3 => ?_)
    refine execs_two (rd_ends (s := { s with heap := h3, toks := tk3 }) hh F3 N3 (N3 _ (.tail _ (.tail _ (.tail _ (.head _))))).1 mW mS mP k1 k2 a3 a4 a6 (fun h4 tk4 m4 t1 t2 F4 N4 q1 q2 q3 => ?_))
    dsimp only
    obtain ⟨d0, d1, he, hd0⟩ : ∃ d0 d1, (if w0 = 60 then revS st.pair else st.pair) = ⟨#[d0, d1]⟩ ∧ d0 ≠ 126 := by
      rw [a6]
      by_cases hw : w0 = 60
      · rw [if_pos hw]; exact ⟨c1, c0, rfl, a8⟩
      · rw [if_neg hw]; exact ⟨c0, c1, rfl, a7⟩
    rw [he] at q2 hQ
    refine rd_name (s := { s with heap := h4, toks := tk4 }) (rest := [(it, oi), (ld, oL), (wd, oW)]) W hroom hh hu F4 (fun p hp => N4 p ?_) ((q3 _ (by decide) (by decide)).trans mM) q1 q2 dM sM G.Mn G.Ml hd0 a5 (fun h5 tk5 m5 r oR tn5 F5 N5 rs dR e1 e2 e3 hr => ?_)
    · simp only [List.mem_cons, List.not_mem_nil, or_false] at hp ⊢
      rcases hp with h | h | h | h
      · exact .inr (.inl h)
      · exact .inl h
      · exact .inr (.inr (.inl h))
      · exact .inr (.inr (.inr h))
    refine wpAny_execs_cons (non_no (s := { s with heap := h5, toks := tk5 }) W hroom hh F5 N5 ((e3 _ (by decide) (by decide)).trans ((q3 _ (by decide) (by decide)).trans mS)) a2 (fun h6 tk6 F6 N6 => wpAny_execs_nil ?_))
    refine hQ h6 tk6 m5 [(r, oR), (ld, oL), (wd, oW)] F6 (fun p hp => N6 p ?_) (fun p hp => ?_) ⟨wd, oW, r, oR, ld, oL, tp, tn5, rfl, (e3 _ (by decide) (by decide)).trans ((q3 _ (by decide) (by decide)).trans mW), e1, (e3 _ (by decide) (by decide)).trans ((q3 _ (by decide) (by decide)).trans mL), (e3 _ (by decide) (by decide)).trans ((q3 _ (by decide) (by decide)).trans mP), e2, ⟨kvs, k1, k2⟩, dR, dL, rs, sL⟩
    · simp only [List.mem_cons, List.not_mem_nil, or_false] at hp ⊢
      rcases hp with h | h | h | h
      · exact .inr (.inl h)
      · exact .inl h
      · exact .inr (.inr (.inl h))
      · exact .inr (.inr (.inr h))
    · simp only [List.mem_cons, List.not_mem_nil, or_false] at hp
      rcases hp with rfl | rfl | rfl
      · exact hr _ (.head _)
      · exact offl
      · exact offw
  | mark a1 a2 a3 =>
    refine rd_term_no (s := { s with heap := h2, toks := tk2 }) W hroom hh F2 N2 mS a1 (fun h3 tk3 F3 N3 => wpAny_execs_cons ?_)
    refine non_head (s := { s with heap := h3, toks := tk3 }) W TF hroom hh F3 N3 mS a1 a2 (fun h4 tk4 m4 ts F4 N4 q1 q2 => wpAny_execs_cons ?_)
    refine non_mark (s := { s with heap := h4, toks := tk4 }) (rest := [(it, oi), (ld, oL), (wd, oW)]) W TF hroom hh F4 (fun p hp => N4 p ?_) ((q2 _ (by decide)).trans mM) ((q2 _ (by decide)).trans mN) dM sM G.Mn G.Ml q1 a3 (fun h5 tk5 m5 r oR F5 N5 rs dR e1 e3 hr => wpAny_execs_nil (wpAny_execs_nil ?_))
    · simp only [List.mem_cons, List.not_mem_nil, or_false] at hp ⊢
      rcases hp with h | h | h | h
      · exact .inr (.inl h)
      · exact .inl h
      · exact .inr (.inr (.inl h))
      · exact .inr (.inr (.inr h))
    refine hQ h5 tk5 m5 [(r, oR), (ld, oL), (wd, oW)] F5 (fun p hp => N5 p ?_) (fun p hp => ?_) ⟨wd, oW, r, oR, ld, oL, tp, tn, rfl, (e3 _ (by decide)).trans ((q2 _ (by decide)).trans mW), e1, (e3 _ (by decide)).trans ((q2 _ (by decide)).trans mL), (e3 _ (by decide)).trans ((q2 _ (by decide)).trans mP), (e3 _ (by decide)).trans ((q2 _ (by decide)).trans mN), dW, dR, dL, rs, sL⟩
    · simp only [List.mem_cons, List.not_mem_nil, or_false] at hp ⊢
      rcases hp with h | h | h | h
      · exact .inr (.inl h)
      · exact .inl h
      · exact .inr (.inr (.inl h))
      · exact .inr (.inr (.inr h))
    · simp only [List.mem_cons, List.not_mem_nil, or_false] at hp
      rcases hp with rfl | rfl | rfl
      · exact hr _ (.head _)
      · exact offl
      · exact offw
  | none a1 a2 a3 a4 a5 =>
    refine rd_term_no (s := { s with heap := h2, toks := tk2 }) W hroom hh F2 N2 mS a1 (fun h3 tk3 F3 N3 => wpAny_execs_cons ?_)
    refine non_head (s := { s with heap := h3, toks := tk3 }) W TF hroom hh F3 N3 mS a1 a2 (fun h4 tk4 m4 ts F4 N4 q1 q2 => wpAny_execs_cons ?_)
    refine non_else (s := { s with heap := h4, toks := tk4 }) W TF hroom hh F4 N4 q1 a3 a4 (fun h5 tk5 F5 N5 => wpAny_execs_cons ?_)
    refine non_tables (s := { s with heap := h5, toks := tk5 }) W TF hroom hh F5 N5 q1 (fun h6 tk6 _ F6 N6 => wpAny_execs_nil (wpAny_execs_nil (wpAny_execs_nil ?_))) (fun h6 tk6 hc => by rw [a5] at hc; cases hc)
    exact hQ h6 tk6 m4 _ F6 N6 hoff ⟨wd, oW, md, oM, ld, oL, tp, tn, rfl, (q2 _ (by decide)).trans mW, (q2 _ (by decide)).trans mM, (q2 _ (by decide)).trans mL, (q2 _ (by decide)).trans mP, (q2 _ (by decide)).trans mN, dW, dM, dL, sM, sL⟩
  | pair a1 a2 a3 a4 a5 a6 a7 =>
    refine rd_term_no (s := { s with heap := h2, toks := tk2 }) W hroom hh F2 N2 mS a1 (fun h3 tk3 F3 N3 => wpAny_execs_cons ?_)
    refine non_head (s := { s with heap := h3, toks := tk3 }) W TF hroom hh F3 N3 mS a1 a2 (fun h4 tk4 m4 ts F4 N4 q1 q2 => wpAny_execs_cons ?_)
    refine non_else (s := { s with heap := h4, toks := tk4 }) W TF hroom hh F4 N4 q1 a3 a4 (fun h5 tk5 F5 N5 => wpAny_execs_cons ?_)
    refine non_tables (s := { s with heap := h5, toks := tk5 }) W TF hroom hh F5 N5 q1 (fun h6 tk6 hc => by rw [a5] at hc; cases hc) (fun h6 tk6 _ F6 N6 => ?_)
    refine non_fold (s := { s with heap := h6, toks := tk6 }) (rest := [(it, oi), (md, oM), (wd, oW)]) W TF hroom hh F6 (fun p hp => N6 p ?_) q1 ((q2 _ (by decide)).trans mL) dL sL G.Ln G.Ll a6 (by rw [a7]; decide) (fun h7 tk7 m7 ty _ F7 N7 e1 e2 => wpAny_execs_nil (wpAny_execs_nil (wpAny_execs_nil ?_))) (fun h7 tk7 m7 r oR hne => absurd a7 hne)
    · simp only [List.mem_cons, List.not_mem_nil, or_false] at hp ⊢
      rcases hp with h | h | h | h
      · exact .inr (.inr (.inl h))
      · exact .inl h
      · exact .inr (.inl h)
      · exact .inr (.inr (.inr h))
    refine hQ h7 tk7 m7 [(md, oM), (ld, oL), (wd, oW)] F7 (fun p hp => N7 p ?_) hoff ⟨wd, oW, md, oM, ld, oL, ty, tn, rfl, (e2 _ (by decide) (by decide)).trans ((q2 _ (by decide)).trans mW), (e2 _ (by decide) (by decide)).trans ((q2 _ (by decide)).trans mM), (e2 _ (by decide) (by decide)).trans ((q2 _ (by decide)).trans mL), e1, (e2 _ (by decide) (by decide)).trans ((q2 _ (by decide)).trans mN), dW, dM, dL, sM, sL⟩
    simp only [List.mem_cons, List.not_mem_nil, or_false] at hp ⊢
    rcases hp with h | h | h | h
    · exact .inr (.inl h)
    · exact .inr (.inr (.inl h))
    · exact .inl h
    · exact .inr (.inr (.inr h))
  | leaf a1 a2 a3 a4 a5 a6 a7 a8 =>
    refine rd_term_no (s := { s with heap := h2, toks := tk2 }) W hroom hh F2 N2 mS a1 (fun h3 tk3 F3 N3 => wpAny_execs_cons ?_)
    refine non_head (s := { s with heap := h3, toks := tk3 }) W TF hroom hh F3 N3 mS a1 a2 (fun h4 tk4 m4 ts F4 N4 q1 q2 => wpAny_execs_cons ?_)
    refine non_else (s := { s with heap := h4, toks := tk4 }) W TF hroom hh F4 N4 q1 a3 a4 (fun h5 tk5 F5 N5 => wpAny_execs_cons ?_)
    refine non_tables (s := { s with heap := h5, toks := tk5 }) W TF hroom hh F5 N5 q1 (fun h6 tk6 hc => by rw [a5] at hc; cases hc) (fun h6 tk6 _ F6 N6 => ?_)
    refine non_fold (s := { s with heap := h6, toks := tk6 }) (rest := [(it, oi), (md, oM), (wd, oW)]) W TF hroom hh F6 (fun p hp => N6 p ?_) q1 ((q2 _ (by decide)).trans mL) dL sL G.Ln G.Ll a6 a7 (fun h7 tk7 m7 ty he => absurd he a8) (fun h7 tk7 m7 r oR _ F7 N7 rs dR e1 e2 hr => wpAny_execs_nil (wpAny_execs_nil (wpAny_execs_nil ?_)))
    · simp only [List.mem_cons, List.not_mem_nil, or_false] at hp ⊢
      rcases hp with h | h | h | h
      · exact .inr (.inr (.inl h))
      · exact .inl h
      · exact .inr (.inl h)
      · exact .inr (.inr (.inr h))
    refine hQ h7 tk7 m7 [(md, oM), (r, oR), (wd, oW)] F7 (fun p hp => N7 p ?_) (fun p hp => ?_) ⟨wd, oW, md, oM, r, oR, tp, tn, rfl, (e2 _ (by decide) (by decide)).trans ((q2 _ (by decide)).trans mW), (e2 _ (by decide) (by decide)).trans ((q2 _ (by decide)).trans mM), e1, (e2 _ (by decide) (by decide)).trans ((q2 _ (by decide)).trans mP), (e2 _ (by decide) (by decide)).trans ((q2 _ (by decide)).trans mN), dW, dM, dR, sM, rs⟩
    · simp only [List.mem_cons, List.not_mem_nil, or_false] at hp ⊢
      rcases hp with h | h | h | h
      · exact .inr (.inl h)
      · exact .inr (.inr (.inl h))
      · exact .inl h
      · exact .inr (.inr (.inr h))
    · simp only [List.mem_cons, List.not_mem_nil, or_false] at hp
      rcases hp with rfl | rfl | rfl
      · exact offm
      · exact hr _ (.head _)
      · exact offw
end
theorem ldKW {w : World} {mean : ExcName → Option Value} {mg mb : Str → Option Value} {A : Around} {s : Shared} {h₀ : Heap} {m : Str → Option Value} {E : Value → Shared → Prop} {v : Value} {x : Str} {pos : Pos} {Q : Value → Shared → Prop} {cscope : Scope} {cl : List (Str × Addr)} {C : Addr} {env : Env}
    (W : WG mean mg mb h₀) (F : Fr h₀ C s.heap m) (hv : mg x = some v) (h : Q v s) (hk : cscope.kind = .function := by rfl) (hx : (compEnvC cscope cl C env).kindOf x = some .globalImplicit := by rfl) (hg : env.globals = mainGlobals := by rfl) (hd : (x == ("__debug__" : Str)) = false := by rfl) :
    wpAny (model pw w) A (eval (.Name x pos) (compEnvC cscope cl C env)) Q E s :=
  Name_function_global hk hx (loadGlobal_global (env := compEnvC cscope cl C env) (hg ▸ W.T.g.keepsP F.keep) hv h) hd
theorem valP_keys {kvs : List (Int × Value)} {l : List (Int × Str)} (A : All2 ValP kvs l) : kvs.map (·.1) = l.map (·.1) := by
  induction A with
  | nil => rfl
  | cons h _ ih => rw [List.map_cons, List.map_cons, ih, h.1]
section
variable {w : World} {mean : ExcName → Option Value} {mg mb : Str → Option Value} {A : Around} {s : Shared} {E : Value → Shared → Prop} {Q : Flow → Shared → Prop}
set_option maxHeartbeats 400000 in
theorem comp_writings {h₀ : Heap} {L a : Addr} {nm : Str} {cd : Value} {m : Str → Option Value} {news : List (Addr × Obj)} (W : WG mean mg mb h₀) (TF : TopsF w mg h₀) (hh : A.handled = none) (F : Fr h₀ L s.heap m) (N : News h₀ L s.heap news)
    (hQ : ∀ D o h' tk kvs, Fr h₀ L h' (fun z => if z = "writings" then some (.ref D) else m z) → News h₀ L h' ((D, o) :: news) → o.IsDictOf (intKind pw w) kvs → All2 ValP kvs wrL → Q .next { s with heap := h', toks := tk }) :
    wpAny (model pw w) A (exec (stRead 0) (envOf nm scRead L a cd)) Q E s := by
  cases A
  cases hh
  conv in stRead 0 => whnf
  have mE := TF.nm.et
  have W1 := W.keeps F.keep
  have DE := TF.et.keep F.keep
  obtain ⟨es, oE, hoE, kvs, hE1, hE2⟩ := id DE
  have hde : s.heap.DictOf (PySem.strKind pw w) 173 kvs := Heap.dictOf_iff.mpr ⟨_, hoE, hE1⟩
  obtain ⟨ep, hat⟩ := hde.dictAt
  have hlen : kvs.length = ettL.length := hE2.length
  refine dc_assign (knd := intKind pw w) F.ns (by rfl) (by rfl) (by with_unfolding_all rfl) (cl := []) (by with_unfolding_all rfl) (by decide) (by rfl) (by decide) (fun _ _ => rfl) ?_ (by intro _; rfl)
  refine ldW W F mE ?_
  refine wpAny_pyIter_dict es hat ?_
  refine ⟨_, _, _, _, _, _, fun i ys => All2 ValP ys (wrL.take i), rfl, SrcU.keys rfl hat (fun _ _ e => e) (Nat.le_refl _) (by rw [hlen]; decide), ?_, .nil, ?_, ?_⟩
  · show _ ≤ (s.heap.push _).objs.size
    rw [Heap.size_push]; exact Nat.le_succ _
  · rintro C1 D i v ys m₁ s₁ own E' hi ⟨k, xv, hkv, hkey⟩ hJ hsub hown F₁ N₁
    obtain ⟨e, he, hk1, _⟩ := hE2.at hkv
    have hk1 : k = e.1 := hk1
    subst hk1
    obtain ⟨tn, rfl⟩ := Value.isStrOf_shape hkey
    have hg : getI ettL e.1 = some e.2 := getI_mem (by decide +kernel) (List.mem_of_getElem? he)
    have ht : wrL.take (i + 1) = wrL.take i ++ [(e.2, e.1)] := by
      unfold wrL
      rw [List.take_add_one, List.getElem?_map, he]; rfl
    refine stK F₁ N₁ (fun h2 F₂ N₂ => ?_)
    refine wpAny_tests_nil ?_
    rw [if_pos rfl]
    iterate 1 walk1
    refine ldKW W1 F₂ mE ?_
    iterate 1 walk1
    refine getItem_subscript (F₂.keep _ _ hoE) ⟨kvs, hE1, hE2⟩ hg (fun u1 tk1 => ?_)
    iterate 1 walk1
    refine ⟨e.2, by simp [intKind, Value.isInt], ?_⟩
    refine .intro F₂ (news₂ := []) (fun p hp => N₂ p (by simpa using hp)) (fun _ h => nomatch h) ?_
    show All2 ValP _ (wrL.take (i + 1))
    rw [ht]
    have hnew : e.2 ∉ ys.map (·.1) := by
      have hk2 : ys.map (·.1) = (wrL.take i).map (·.1) := by
        exact valP_keys hJ
      rw [hk2]
      intro hc
      have h1 : (wrL.take i ++ [(e.2, e.1)]).map (·.1) = (wrL.map (·.1)).take (i + 1) := by rw [← ht, List.map_take]
      have h2 : ((wrL.map (·.1)).take (i + 1)).Nodup := List.Nodup.sublist (List.take_sublist _ _) (by decide +kernel)
      rw [← h1, List.map_append] at h2
      exact (List.nodup_append.mp h2).2.2 _ hc _ (by simp) rfl
    have hst : stored ys e.2 (.str e.1 tn) = ys ++ [(e.2, .str e.1 tn)] := by
      unfold stored
      rw [if_neg]
      intro hc
      obtain ⟨q, hq, hq2⟩ := List.any_eq_true.mp hc
      exact hnew (List.mem_map.mpr ⟨q, hq, of_decide_eq_true hq2⟩)
    rw [hst]
    exact hJ.snoc ⟨rfl, tn, rfl⟩
  · intro D h5 tk5 ys hns hk5 hD5 hdo hJ
    have hl2 : wrL.take kvs.length = wrL := List.take_of_length_le (by rw [hlen]; decide)
    rw [hl2] at hJ
    obtain ⟨F5, N5⟩ := comp_done F N hns hk5
    obtain ⟨o, ho, hdo'⟩ := Heap.dictOf_iff.mp hdo
    exact hQ D o h5 tk5 ys F5 (Mine.News.fresh_cons F (fresh_at hD5) ho N5) hdo' hJ
end
section
variable {w : World} {mean : ExcName → Option Value} {mg mb : Str → Option Value} {A : Around} {s : Shared} {E : Value → Shared → Prop} {Q : Value → Shared → Prop}
set_option maxHeartbeats 400000 in
theorem lread {ar : Addr} {items : Array Value} {ns : List Nat} {st : Nat → RS4} {n : Nat} (W : WG mean mg mb s.heap) (TF : TopsF w mg s.heap) (hroom : A.depth + 4 < recursionLimit) (hh : A.handled = none) (hu : A.units + 60 < cLine)
    (hl : s.heap.IsList ar items) (hi : All2 (fun (v : Value) (x : Nat) => ∃ t, v = .int x t) items.toList ns) (hn : ns[n]? = some 0) (h0 : ∀ i x, i < n → ns[i]? = some x → x ≠ 0 ∧ RdStep (st i) x (st (i + 1))) (hG : ∀ i, i ≤ n → GoodS (st i)) (hst : st 0 = ⟨[], [], "  ", ""⟩)
    (hQ : ∀ h' tk r md ld, (∀ b o, s.heap.get? b = some o → h'.get? b = some o) → IsTup h' r #[.ref md, .ref ld] → DI w h' md (st n).M → DI w h' ld (st n).Lv → s.heap.get? r = none → s.heap.get? md = none → s.heap.get? ld = none → Q (.ref r) { s with heap := h', toks := tk }) :
    ∃ f, mg "_law_read" = some (.ref f) ∧ wpAny (model pw w) A (call (.ref f) [.ref ar]) Q E s := by
  cases A
  cases hh
  obtain ⟨a, o, pm, code, doc, h1, h2, h3, h4⟩ := W.T.fn _ rec75
  rw [scRead_eq] at h3
  refine ⟨a, h1, wpAny_call (call_pos_ret (scope := scRead) (Nat.lt_of_le_of_lt (Nat.le_add_right _ _) hroom) h2 h3 W.T.nolimit h4 (by kernel_rfl) (locs (by kernel_rfl)) (fun h₁ F => ?_) (by kernel_rfl) (by kernel_rfl) (by kernel_rfl) (nocell (by kernel_rfl)))⟩
  have eb : (defAt 75 "_law_read").body = [stRead 0, stRead 1, stRead 2, stRead 3, stRead 4, stRead 5, stRead 6] := by kernel_rfl
  rw [eb]
  have NL := W.T.nolimit
  obtain ⟨m₀, F₀, m1⟩ : ∃ m₀, Fr s.heap s.heap.objs.size h₁ m₀ ∧ m₀ "row" = some (.ref ar) := ⟨_, F, by kernel_rfl⟩
  clear F
  have N : News s.heap s.heap.objs.size h₁ [] := News.nil
  refine wpAny_execs_cons (comp_writings W TF rfl F₀ N (fun D oW h5 tk5 kvs F5 N5 dW aW => ?_))
  obtain ⟨m₅, F₅, m2, m3⟩ : ∃ m₅, Fr s.heap s.heap.objs.size h5 m₅ ∧ m₅ "row" = some (.ref ar) ∧ m₅ "writings" = some (.ref D) := ⟨_, F5, m1, by kernel_rfl⟩
  clear F5 F₀ N
  have hpack : s.heap.IsList ar items ∧ True := ⟨hl, trivial⟩
  clear hl
  dsimp only
  iterate 1 walk1
  conv in stRead 1 => whnf
  iterate 3 walk1
  rename Heap => g1
  rename Fr _ _ _ _ => F6
  rename Obj => oM
  rename oM.IsDictOf (strKind pw w) _ => dM
  rename (_ == sysModules) = false => sM
  rename News _ _ _ _ => N6
  obtain ⟨md, hmd⟩ : ∃ md, md = h5.objs.size := ⟨_, rfl⟩
  rw [← hmd] at sM
  obtain ⟨m₆, F₆, N₆, k1, k2, k3⟩ : ∃ m₆, Fr s.heap s.heap.objs.size g1 m₆ ∧ News s.heap s.heap.objs.size g1 [(md, oM), (D, oW)] ∧ m₆ "row" = some (.ref ar) ∧ m₆ "writings" = some (.ref D) ∧ m₆ "marks" = some (.ref md) := ⟨_, F6, by rw [hmd]; exact N6, m2, m3, by rw [hmd]; kernel_rfl⟩
  clear F6 N6
  iterate 1 walk1
  conv in stRead 2 => whnf
  iterate 3 walk1
  rename Heap => g2
  rename Fr _ _ _ _ => F7
  rename Obj => oL
  rename oL.IsDictOf (strKind pw w) _ => dL
  rename (_ == sysModules) = false => sL
  rename News _ _ _ _ => N7
  obtain ⟨ld, hld⟩ : ∃ ld, ld = g1.objs.size := ⟨_, rfl⟩
  rw [← hld] at sL
  obtain ⟨m₇, F₇, N₇, k1', k2', k3', k4'⟩ : ∃ m₇, Fr s.heap s.heap.objs.size g2 m₇ ∧ News s.heap s.heap.objs.size g2 [(ld, oL), (md, oM), (D, oW)] ∧ m₇ "row" = some (.ref ar) ∧ m₇ "writings" = some (.ref D) ∧ m₇ "marks" = some (.ref md) ∧ m₇ "leaves" = some (.ref ld) := ⟨_, F7, by rw [hld]; exact N7, k1, k2, k3, by rw [hld]; kernel_rfl⟩
  clear F7 N7 F₆ N₆
  iterate 1 walk1
  conv in stRead 3 => whnf
  iterate 3 walk1
  iterate 1 walk1
  conv in stRead 4 => whnf
  iterate 3 walk1
  rename Heap => g3
  rename Fr _ _ _ _ => F8
  rename News _ _ _ _ => N8
  obtain ⟨m₈, F₈, q1, q2, q3, q4, tp, tn, q5, q6⟩ : ∃ m₈, Fr s.heap s.heap.objs.size g3 m₈ ∧ m₈ "row" = some (.ref ar) ∧ m₈ "writings" = some (.ref D) ∧ m₈ "marks" = some (.ref md) ∧ m₈ "leaves" = some (.ref ld) ∧ ∃ tp tn, m₈ "pair" = some (.str "  " tp) ∧ m₈ "name" = some (.str "" tn) := ⟨_, F8, k1', k2', k3', k4', _, _, by rfl, by rfl⟩
  clear F8 F₇ N₇
  have N₈ : News s.heap s.heap.objs.size g3 [(md, oM), (ld, oL), (D, oW)] := fun p hp => N8 p (by
    simp only [List.mem_cons, List.not_mem_nil, or_false] at hp ⊢
    rcases hp with h | h | h
    · exact .inr (.inl h)
    · exact .inl h
    · exact .inr (.inr h))
  clear N8
  have hsz : items.size = ns.length := by rw [← hi.length, Array.length_toList]
  have hnlt : n < ns.length := (List.getElem?_eq_some_iff.mp hn).1
  have R0 : RdS4 w m₈ [(md, oM), (ld, oL), (D, oW)] (st 0) := by
    rw [hst]
    exact ⟨D, oW, md, oM, ld, oL, tp, tn, ⟨rfl, q2, q3, q4, q5, q6, ⟨kvs, dW, aW⟩, ⟨_, dM, .nil⟩, ⟨_, dL, .nil⟩, sM, sL⟩⟩
  iterate 1 walk1
  conv in stRead 5 => whnf
  have fin : ∀ (h9 : Heap) (tk9 : Nat) m9 news9, Fr s.heap s.heap.objs.size h9 m9 → News s.heap s.heap.objs.size h9 news9 → RdS4 w m9 news9 (st n) → ∀ A' : Around, wpAny (model pw w) A' (execs [stRead 6] (envOf (defAt 75 "_law_read").name scRead s.heap.objs.size a code)) (fun f s' => Q (match f with | .ret v => v | _ => .none) s') (fun _ _ => False) { s with heap := h9, toks := tk9 } := by
    rintro h9 tk9 m9 news9 F9 N9 ⟨wd, oW', md', oM', ld', oL', tp', tn', ⟨rfl, r1, r2, r3, r4, r5, r6, r7, r8, r9, r10⟩⟩ A'
    iterate 1 walk1
    conv in stRead 6 => whnf
    repeat walk1
    rename Heap => g9
    rename Fr _ _ _ _ => F10
    rename News _ _ _ _ => N10
    exact hQ _ _ _ md' ld' F10.keep (N10.isTup (.head _)) ⟨r9, oM', (N10 _ (.tail _ (.head _))).1, r7⟩ ⟨r10, oL', (N10 _ (.tail _ (.tail _ (.head _)))).1, r8⟩ (N10 _ (.head _)).2.2 (N10 _ (.tail _ (.head _))).2.2 (N10 _ (.tail _ (.tail _ (.head _)))).2.2
  refine for_brk (h₀ := s.heap) (l := ar) (items := items) rfl F₈ N₈ hpack.1 (fun Q' h => ?_) (fun i m' news' => i ≤ n ∧ RdS4 w m' news' (st i)) ⟨Nat.zero_le _, R0⟩ ?_ ?_
  · with_unfolding_all exact PyProof.Rows.ld F₈ q1 h
  · rintro i v m₁ news₁ s₁ it oi hv ⟨hin, hR⟩ hoff _ ⟨hh1, htk1, rfl⟩ F₁ N₁
    have hv' : items.toList[i]? = some v := by simpa using hv
    obtain ⟨x, hx, t, rfl⟩ := hi.at hv'
    refine wpAny_assign_Name (wpAny_storeName_local (by rfl) F₁.ns (fun h2 hn2 hs2 => ?_) (by rfl))
    have F2 := F₁.set hn2 hs2
    have N2 := N₁.set hs2
    obtain ⟨m₂, F₂, e0, e1⟩ : ∃ m₂, Fr s.heap s.heap.objs.size h2 m₂ ∧ m₂ "symbol" = some (.int x t) ∧ (∀ q : Str, q ≠ "symbol" → m₂ q = m₁ q) := ⟨_, F2, by kernel_rfl, fun q hq => by show (if q = "symbol" then _ else m₁ q) = m₁ q; rw [if_neg hq]⟩
    clear F2 F₁ N₁
    have hR2 : RdS4 w m₂ news₁ (st i) := by
      obtain ⟨wd, oW', md', oM', ld', oL', tp', tn', ⟨r0, r1, r2, r3, r4, r5, r6, r7, r8, r9, r10⟩⟩ := hR
      exact ⟨wd, oW', md', oM', ld', oL', tp', tn', ⟨r0, (e1 _ (by decide)).trans r1, (e1 _ (by decide)).trans r2, (e1 _ (by decide)).trans r3, (e1 _ (by decide)).trans r4, (e1 _ (by decide)).trans r5, r6, r7, r8, r9, r10⟩⟩
    show wpAny _ _ (execs [brRead 0, brRead 1, brRead 2] _) _ _ _
    rcases Nat.lt_or_eq_of_le hin with hlt | rfl
    · obtain ⟨hx0, hS⟩ := h0 i x hlt hx
      refine rd_turn (s := { s with heap := h2, toks := _ }) W TF (by show _ + 1 + 3 < _; exact Nat.lt_of_le_of_lt (by show _ + 1 + 3 ≤ _ + 4; omega) hroom) rfl (Nat.lt_of_le_of_lt (by show _ + 3 + 50 ≤ _ + 60; omega) hu) F₂ N2 hoff e0 hx0 hR2 (hG i hin) hS (fun h3 tk3 m3 news3 F3 N3 hoff3 R3 => .inl ?_)
      exact .intro F3 N3 (fun p hp hq => hoff3 p hp (List.mem_singleton.mp hq)) ⟨hlt, R3⟩
    · have hx0 : x = 0 := by rw [hn] at hx; exact (Option.some.inj hx).symm
      refine wpAny_execs_cons (rd_eof (s := { s with heap := h2, toks := _ }) W (by show _ + 1 + 3 < _; exact Nat.lt_of_le_of_lt (by show _ + 1 + 3 ≤ _ + 4; omega) hroom) rfl F₂ N2 e0 (fun h3 tk3 _ F3 N3 => .inr ⟨rfl, ?_⟩) (fun h3 tk3 hne => absurd hx0 hne))
      exact fin h3 tk3 m₂ _ F3 (fun p hp => N3 p (.tail _ hp)) hR2 _
  · rintro h' tk' m' news' F' N' ⟨hle, hR⟩
    rw [hsz] at hle
    exact absurd hnlt (Nat.not_lt.mpr hle)
end
noncomputable def stPlan (i : Nat) : Stmt := (((defAt 74 "_law_plan").body)[i]?).getD (.Pass default)
noncomputable def scPlan : Scope := { kind := .function, names := [("script", .local), ("signs", .local), ("turns", .local), ("unseen", .local), ("alone", .local), ("begun", .local), ("x", .local), ("numbers", .local), ("row", .local), ("ties", .local), ("leaves", .local), ("k", .local), ("sign", .local), ("pair", .local), ("turn", .local), ("back", .local), ("size", .local), ("stray", .local), ("mark", .local), ("letter", .local), ("task", .local), ("range", .globalImplicit), ("sum", .globalImplicit)], isGenerator := false, isCoroutine := false, more := (defAt 74 "_law_plan").scope.more }
theorem scPlan_eq : (defAt 74 "_law_plan").scope = scPlan := by kernel_rfl
theorem rec74 : defAt 74 "_law_plan" ∈ recsOf qV := rec_of (by kernel_rfl)
noncomputable def sgL : List (Int × Str) := [(13262, "km"), (13239, "mv"), (13240, "kv"), (8480, "sm"), (13276, "sv"), (13241, "mv"), (13261, "kk")]
noncomputable def tuL : List (Int × Int × Int) := [(21, 0, 0), (20, 1, 0), (45, 0, 2), (29, 1, 1), (20, 1, 0), (21, 0, 0), (34, 0, 1), (33, 1, 1)]
noncomputable def unL : List (Int × Int) := [(12283, 0), (8203, 1), (65533, 0), (833, 1), (917536, 0), (65024, 1), (12272, 0), (8238, 1)]
noncomputable def alL : List (Int × Str) := [(119818, "k"), (119820, "m"), (119826, "s"), (119829, "v"), (119870, "k"), (8499, "m"), (383, "s"), (119881, "v")]
noncomputable def TupIn (nb : List (Addr × Obj)) (v : Value) (P : Array Value → Prop) : Prop := ∃ p o n its, v = .ref p ∧ (p, o) ∈ nb ∧ o.cls = .type "tuple" ∧ o.data = .seq its n ∧ P its
noncomputable def IS (e : Int × Str) (its : Array Value) : Prop := ∃ t1 t2, its = #[.int e.1 t1, .str e.2 t2]
noncomputable def II (e : Int × Int) (its : Array Value) : Prop := ∃ t1 t2, its = #[.int e.1 t1, .int e.2 t2]
noncomputable def III (e : Int × Int × Int) (its : Array Value) : Prop := ∃ t1 t2 t3, its = #[.int e.1 t1, .int e.2.1 t2, .int e.2.2 t3]
section
variable {w : World} {mean : ExcName → Option Value} {mg mb : Str → Option Value} {A : Around} {s : Shared} {E : Value → Shared → Prop} {Q : Flow → Shared → Prop}
set_option maxHeartbeats 800000 in
theorem plan_signs {h₀ : Heap} {L a : Addr} {nm : Str} {cd : Value} {m : Str → Option Value} {news : List (Addr × Obj)} (W : WG mean mg mb h₀) (hh : A.handled = none) (F : Fr h₀ L s.heap m) (N : News h₀ L s.heap news)
    (hQ : ∀ D h' tk ys n nb, Fr h₀ L h' (fun z => if z = "signs" then some (.ref D) else m z) → News h₀ L h' ((D, lstO ys n) :: (nb ++ news)) → (∀ p ∈ nb, ∃ its n, p.2.data = .seq its n) → All2 (fun v e => TupIn nb v (IS e)) ys sgL → Q .next { s with heap := h', toks := tk }) :
    wpAny (model pw w) A (exec (stPlan 0) (envOf nm scPlan L a cd)) Q E s := by
  cases A
  cases hh
  have NL := W.T.nolimit
  conv in stPlan 0 => whnf
  repeat walk1
  rename Fr _ _ _ _ => F1
  rename News _ _ _ _ => N1
  refine hQ _ _ _ _ _ [_, _, _, _, _, _, _] F1 N1 (fun p hp => ?_) ?_
  · simp only [List.mem_cons, List.not_mem_nil, or_false] at hp
    rcases hp with rfl | rfl | rfl | rfl | rfl | rfl | rfl <;> exact ⟨_, _, rfl⟩
  · exact .cons ⟨_, _, _, _, rfl, .tail _ (.tail _ (.tail _ (.tail _ (.tail _ (.tail _ (.head _)))))), rfl, rfl, _, _, rfl⟩ (.cons ⟨_, _, _, _, rfl, .tail _ (.tail _ (.tail _ (.tail _ (.tail _ (.head _))))), rfl, rfl, _, _, rfl⟩ (.cons ⟨_, _, _, _, rfl, .tail _ (.tail _ (.tail _ (.tail _ (.head _)))), rfl, rfl, _, _, rfl⟩ (.cons ⟨_, _, _, _, rfl, .tail _ (.tail _ (.tail _ (.head _))), rfl, rfl, _, _, rfl⟩ (.cons ⟨_, _, _, _, rfl, .tail _ (.tail _ (.head _)), rfl, rfl, _, _, rfl⟩ (.cons ⟨_, _, _, _, rfl, .tail _ (.head _), rfl, rfl, _, _, rfl⟩ (.cons ⟨_, _, _, _, rfl, .head _, rfl, rfl, _, _, rfl⟩ (.nil)))))))
set_option maxHeartbeats 800000 in
theorem plan_turns {h₀ : Heap} {L a : Addr} {nm : Str} {cd : Value} {m : Str → Option Value} {news : List (Addr × Obj)} (W : WG mean mg mb h₀) (hh : A.handled = none) (F : Fr h₀ L s.heap m) (N : News h₀ L s.heap news)
    (hQ : ∀ D h' tk ys n nb, Fr h₀ L h' (fun z => if z = "turns" then some (.ref D) else m z) → News h₀ L h' ((D, lstO ys n) :: (nb ++ news)) → (∀ p ∈ nb, ∃ its n, p.2.data = .seq its n) → All2 (fun v e => TupIn nb v (III e)) ys tuL → Q .next { s with heap := h', toks := tk }) :
    wpAny (model pw w) A (exec (stPlan 1) (envOf nm scPlan L a cd)) Q E s := by
  cases A
  cases hh
  have NL := W.T.nolimit
  conv in stPlan 1 => whnf
  repeat walk1
  rename Fr _ _ _ _ => F1
  rename News _ _ _ _ => N1
  refine hQ _ _ _ _ _ [_, _, _, _, _, _, _, _] F1 N1 (fun p hp => ?_) ?_
  · simp only [List.mem_cons, List.not_mem_nil, or_false] at hp
    rcases hp with rfl | rfl | rfl | rfl | rfl | rfl | rfl | rfl <;> exact ⟨_, _, rfl⟩
  · exact .cons ⟨_, _, _, _, rfl, .tail _ (.tail _ (.tail _ (.tail _ (.tail _ (.tail _ (.tail _ (.head _))))))), rfl, rfl, _, _, _, rfl⟩ (.cons ⟨_, _, _, _, rfl, .tail _ (.tail _ (.tail _ (.tail _ (.tail _ (.tail _ (.head _)))))), rfl, rfl, _, _, _, rfl⟩ (.cons ⟨_, _, _, _, rfl, .tail _ (.tail _ (.tail _ (.tail _ (.tail _ (.head _))))), rfl, rfl, _, _, _, rfl⟩ (.cons ⟨_, _, _, _, rfl, .tail _ (.tail _ (.tail _ (.tail _ (.head _)))), rfl, rfl, _, _, _, rfl⟩ (.cons ⟨_, _, _, _, rfl, .tail _ (.tail _ (.tail _ (.head _))), rfl, rfl, _, _, _, rfl⟩ (.cons ⟨_, _, _, _, rfl, .tail _ (.tail _ (.head _)), rfl, rfl, _, _, _, rfl⟩ (.cons ⟨_, _, _, _, rfl, .tail _ (.head _), rfl, rfl, _, _, _, rfl⟩ (.cons ⟨_, _, _, _, rfl, .head _, rfl, rfl, _, _, _, rfl⟩ (.nil))))))))
set_option maxHeartbeats 800000 in
theorem plan_unseen {h₀ : Heap} {L a : Addr} {nm : Str} {cd : Value} {m : Str → Option Value} {news : List (Addr × Obj)} (W : WG mean mg mb h₀) (hh : A.handled = none) (F : Fr h₀ L s.heap m) (N : News h₀ L s.heap news)
    (hQ : ∀ D h' tk ys n nb, Fr h₀ L h' (fun z => if z = "unseen" then some (.ref D) else m z) → News h₀ L h' ((D, lstO ys n) :: (nb ++ news)) → (∀ p ∈ nb, ∃ its n, p.2.data = .seq its n) → All2 (fun v e => TupIn nb v (II e)) ys unL → Q .next { s with heap := h', toks := tk }) :
    wpAny (model pw w) A (exec (stPlan 2) (envOf nm scPlan L a cd)) Q E s := by
  cases A
  cases hh
  have NL := W.T.nolimit
  conv in stPlan 2 => whnf
  repeat walk1
  rename Fr _ _ _ _ => F1
  rename News _ _ _ _ => N1
  refine hQ _ _ _ _ _ [_, _, _, _, _, _, _, _] F1 N1 (fun p hp => ?_) ?_
  · simp only [List.mem_cons, List.not_mem_nil, or_false] at hp
    rcases hp with rfl | rfl | rfl | rfl | rfl | rfl | rfl | rfl <;> exact ⟨_, _, rfl⟩
  · exact .cons ⟨_, _, _, _, rfl, .tail _ (.tail _ (.tail _ (.tail _ (.tail _ (.tail _ (.tail _ (.head _))))))), rfl, rfl, _, _, rfl⟩ (.cons ⟨_, _, _, _, rfl, .tail _ (.tail _ (.tail _ (.tail _ (.tail _ (.tail _ (.head _)))))), rfl, rfl, _, _, rfl⟩ (.cons ⟨_, _, _, _, rfl, .tail _ (.tail _ (.tail _ (.tail _ (.tail _ (.head _))))), rfl, rfl, _, _, rfl⟩ (.cons ⟨_, _, _, _, rfl, .tail _ (.tail _ (.tail _ (.tail _ (.head _)))), rfl, rfl, _, _, rfl⟩ (.cons ⟨_, _, _, _, rfl, .tail _ (.tail _ (.tail _ (.head _))), rfl, rfl, _, _, rfl⟩ (.cons ⟨_, _, _, _, rfl, .tail _ (.tail _ (.head _)), rfl, rfl, _, _, rfl⟩ (.cons ⟨_, _, _, _, rfl, .tail _ (.head _), rfl, rfl, _, _, rfl⟩ (.cons ⟨_, _, _, _, rfl, .head _, rfl, rfl, _, _, rfl⟩ (.nil))))))))
set_option maxHeartbeats 800000 in
theorem plan_alone {h₀ : Heap} {L a : Addr} {nm : Str} {cd : Value} {m : Str → Option Value} {news : List (Addr × Obj)} (W : WG mean mg mb h₀) (hh : A.handled = none) (F : Fr h₀ L s.heap m) (N : News h₀ L s.heap news)
    (hQ : ∀ D h' tk ys n nb, Fr h₀ L h' (fun z => if z = "alone" then some (.ref D) else m z) → News h₀ L h' ((D, lstO ys n) :: (nb ++ news)) → (∀ p ∈ nb, ∃ its n, p.2.data = .seq its n) → All2 (fun v e => TupIn nb v (IS e)) ys alL → Q .next { s with heap := h', toks := tk }) :
    wpAny (model pw w) A (exec (stPlan 3) (envOf nm scPlan L a cd)) Q E s := by
  cases A
  cases hh
  have NL := W.T.nolimit
  conv in stPlan 3 => whnf
  repeat walk1
  rename Fr _ _ _ _ => F1
  rename News _ _ _ _ => N1
  refine hQ _ _ _ _ _ [_, _, _, _, _, _, _, _] F1 N1 (fun p hp => ?_) ?_
  · simp only [List.mem_cons, List.not_mem_nil, or_false] at hp
    rcases hp with rfl | rfl | rfl | rfl | rfl | rfl | rfl | rfl <;> exact ⟨_, _, rfl⟩
  · exact .cons ⟨_, _, _, _, rfl, .tail _ (.tail _ (.tail _ (.tail _ (.tail _ (.tail _ (.tail _ (.head _))))))), rfl, rfl, _, _, rfl⟩ (.cons ⟨_, _, _, _, rfl, .tail _ (.tail _ (.tail _ (.tail _ (.tail _ (.tail _ (.head _)))))), rfl, rfl, _, _, rfl⟩ (.cons ⟨_, _, _, _, rfl, .tail _ (.tail _ (.tail _ (.tail _ (.tail _ (.head _))))), rfl, rfl, _, _, rfl⟩ (.cons ⟨_, _, _, _, rfl, .tail _ (.tail _ (.tail _ (.tail _ (.head _)))), rfl, rfl, _, _, rfl⟩ (.cons ⟨_, _, _, _, rfl, .tail _ (.tail _ (.tail _ (.head _))), rfl, rfl, _, _, rfl⟩ (.cons ⟨_, _, _, _, rfl, .tail _ (.tail _ (.head _)), rfl, rfl, _, _, rfl⟩ (.cons ⟨_, _, _, _, rfl, .tail _ (.head _), rfl, rfl, _, _, rfl⟩ (.cons ⟨_, _, _, _, rfl, .head _, rfl, rfl, _, _, rfl⟩ (.nil))))))))
end
noncomputable def NatV (v : Value) : Prop := ∃ n t, v = .int n t ∧ 0 ≤ n
theorem pick_mem {items : Array Value} {lo hi st : Option Int} {v : Value} (h : v ∈ (slicePick items lo hi st).toList) : v ∈ items.toList := by
  unfold slicePick at h
  simp only [List.toList_toArray, List.mem_filterMap] at h
  obtain ⟨i, _, h⟩ := h
  exact Array.mem_toList_iff.mpr (Array.mem_of_getElem? h)
section
variable {w : World} {mean : ExcName → Option Value} {mg mb : Str → Option Value} {A : Around} {s : Shared} {E : Value → Shared → Prop} {Q : Flow → Shared → Prop}
set_option maxHeartbeats 400000 in
theorem plan_numbers {h₀ : Heap} {L a sc : Addr} {nm : Str} {cd : Value} {m : Str → Option Value} {news : List (Addr × Obj)} {items : Array Value} (W : WG mean mg mb h₀) (hh : A.handled = none) (F : Fr h₀ L s.heap m) (N : News h₀ L s.heap news)
    (hl : s.heap.IsList sc items) (hi : ∀ v ∈ items.toList, ∃ n t, v = .int n t) (hsz : items.size ≤ 1000) (mS : m "script" = some (.ref sc))
    (hQ : ∀ D h' tk ys n, Fr h₀ L h' (fun z => if z = "numbers" then some (.ref D) else m z) → News h₀ L h' ((D, lstO ys n) :: news) → (∀ v ∈ ys, NatV v) → ys.length ≤ 1000 → Q .next { s with heap := h', toks := tk }) :
    wpAny (model pw w) A (exec (stPlan 5) (envOf nm scPlan L a cd)) Q E s := by
  cases A
  cases hh
  have NL := W.T.nolimit
  conv in stPlan 5 => whnf
  refine lc_assign F.ns (by rfl) (by rfl) (by with_unfolding_all rfl) (cl := []) (by with_unfolding_all rfl) (by decide) (by rfl) (by decide) ?_ (by intro _; rfl)
  iterate 7 walk1
  refine subscriptTail_ops (Heap.IsList.typeIs (s := { s with heap := s.heap.push _ }) (hl.push _)) list_getitem_lookup
    (wpAny_getItem_list_slice (lo := none) (hi := some 60) (st := none) (hl.push _) (Heap.IsSliceOf.new ..) .none (.int _ _) .none (by simp) ?_ (Nat.le_trans hsz (by decide))) (by with_unfolding_all rfl) (by intro _; with_unfolding_all rfl)
  have hil : ((s.heap.push { cls := .type "slice", data := .fields #[.none, .int 60 s.toks, .none] }).push { cls := .type "list", data := .seq (slicePick items none (some 60) none) }).IsList (s.heap.push { cls := .type "slice", data := .fields #[.none, .int 60 s.toks, .none] }).objs.size (slicePick items none (some 60) none) := ⟨_, Heap.get?_push_size _ rfl, rfl, _, rfl⟩
  have hpk : ∀ b o, s.heap.get? b = some o → ((s.heap.push { cls := .type "slice", data := .fields #[.none, .int 60 s.toks, .none] }).push { cls := .type "list", data := .seq (slicePick items none (some 60) none) }).get? b = some o := fun b o e => Heap.get?_push_of_some _ (Heap.get?_push_of_some _ e)
  have hps : s.heap.objs.size ≤ ((s.heap.push { cls := .type "slice", data := .fields #[.none, .int 60 s.toks, .none] }).push { cls := .type "list", data := .seq (slicePick items none (some 60) none) }).objs.size := by rw [Heap.size_push, Heap.size_push]; omega
  generalize ((s.heap.push { cls := .type "slice", data := .fields #[.none, .int 60 s.toks, .none] }).push { cls := .type "list", data := .seq (slicePick items none (some 60) none) }) = H2 at hil hpk hps ⊢
  generalize (s.heap.push { cls := .type "slice", data := .fields #[.none, .int 60 s.toks, .none] }).objs.size = l2 at hil ⊢
  have hsz2 : (slicePick items none (some 60) none).size ≤ 1000 := Nat.le_trans (slicePick_size_le _ _ _ _) hsz
  refine wpAny_pyIter_list hil ?_
  refine ⟨_, _, _, _, _, _, fun i ys news => news = [] ∧ (∀ v ∈ ys, NatV v) ∧ ys.length ≤ i, rfl, SrcU.list rfl hil hpk hps (Nat.le_trans hsz2 (by decide)), ?_, fun E' i s' v Q' st h => wpAny_of_eq (by rfl) h, ⟨rfl, List.forall_mem_nil _, Nat.le_refl _⟩, ?_, ?_⟩
  · show _ ≤ (H2.push _).objs.size
    rw [Heap.size_push]; exact Nat.le_succ_of_le hps
  · rintro C1 D i v ys _ m₁ s₁ own E' hi2 hv ⟨rfl, hz, hy⟩ hoff hsub hown F₁ N₁
    have hv' : v ∈ (slicePick items none (some 60) none).toList := Array.mem_toList_iff.mpr (Array.mem_of_getElem? hv)
    obtain ⟨x, t, rfl⟩ := hi v (pick_mem hv')
    refine stK F₁ N₁ (fun h2 F₂ N₂ => ?_)
    refine wpAny_tests_nil ?_
    rw [if_pos rfl]
    repeat walk1
    refine .intro F₂ N₂ (fun _ h => nomatch h) ⟨rfl, fun v hv => ?_, by rw [List.length_append, List.length_singleton]; omega⟩
    rcases List.mem_append.mp hv with hv | hv
    · exact hz v hv
    · rw [List.mem_singleton.mp hv]
      exact ⟨_, _, rfl, Int.fmod_nonneg_of_pos _ (by decide)⟩
  · intro D h5 tk5 ys _ hns hk5 hD5 ⟨n, hpl⟩ _ ⟨_, hz, hy⟩
    obtain ⟨F5, N5⟩ := comp_done F N hns hk5
    exact hQ D h5 tk5 ys n F5 (Mine.News.fresh_cons F hD5 hpl N5) hz (Nat.le_trans hy hsz2)
noncomputable def IntV (v : Value) (n : Int) : Prop := ∃ t, v = .int n t
theorem preSum_take (ns : List Int) : ∀ i, i ≤ ns.length → preSum (fun j => ns.getD j 0) i = (ns.take i).sum
  | 0, _ => by simp [preSum]
  | i + 1, h => by
    have hi : ns[i]? = some (ns[i]'(by omega)) := List.getElem?_eq_getElem (by omega)
    rw [List.take_add_one, hi, List.sum_append]
    show preSum _ i + ns.getD i 0 = _
    rw [preSum_take ns i (by omega), List.getD_eq_getElem?_getD, hi]
    simp
theorem sum_ints {l : Addr} {ys : List Value} {ns : List Int} {Q : Value → Shared → Prop} (hh : A.handled = none) (hl : s.heap.IsList l ys.toArray) (hi : All2 IntV ys ns)
    (hQ : ∀ h' tk t, (∀ b o, s.heap.get? b = some o → h'.get? b = some o) → Q (.int ns.sum t) { s with heap := h', toks := tk }) : wpAny (model pw w) A (call (.builtin "sum") [.ref l]) Q E s := by
  have hlt : l < s.heap.objs.size := by obtain ⟨o, ho, _⟩ := hl; exact Heap.lt_size ho
  have hsz : ys.toArray.size = ns.length := by rw [List.size_toArray, hi.length]
  refine call_sum_walkG (wpAny_pyIter_list hl ?_)
  refine ⟨_, [_, l], [_], ys.toArray.size, _, _, fun j => ns.getD j 0, rfl, Walks.list (show A.in1.handled = none from hh) _ l (Nat.ne_of_lt hlt) ys.toArray, ⟨⟨_, Heap.get?_push_size _ rfl, rfl, rfl⟩, hl.at fun o e => Heap.get?_push_of_some _ e⟩, fun b hb => ?_, fun i v hv => ?_, fun h' tk t' hk => ?_⟩
  · show b < (s.heap.push _).objs.size
    rw [Heap.size_push]
    rcases List.mem_cons.mp hb with rfl | hb
    · exact Nat.lt_succ_self _
    · rw [List.mem_singleton.mp hb]; exact Nat.lt_succ_of_lt hlt
  · have hv' : ys[i]? = some v := by simpa using hv
    obtain ⟨n, hn, t, rfl⟩ := hi.at hv'
    exact ⟨t, by show Value.int n t = Value.int (ns.getD i 0) t; rw [List.getD_eq_getElem?_getD, hn]; rfl⟩
  · rw [hsz, preSum_take ns _ (Nat.le_refl _), List.take_length]
    exact hQ h' tk t' fun b o e => hk b o (fun hm => by rw [List.mem_singleton.mp hm] at e; exact absurd (Heap.lt_size e) (Nat.lt_irrefl _)) (Heap.get?_push_of_some _ e)
theorem nats_sum : ∀ {ys : List Value}, (∀ v ∈ ys, NatV v) → ∃ ns, All2 IntV ys ns ∧ 0 ≤ ns.sum
  | [], _ => ⟨[], .nil, Int.le_refl _⟩
  | v :: ys, h => by
    obtain ⟨n, t, rfl, hn⟩ := h _ (.head _)
    obtain ⟨ns, h1, h2⟩ := nats_sum (fun v hv => h v (.tail _ hv))
    exact ⟨n :: ns, .cons ⟨t, rfl⟩ h1, by rw [List.sum_cons]; omega⟩
noncomputable def stBody (i : Nat) : Stmt := match stPlan 9 with
  | .For _ _ b _ _ => (b[i]?).getD (.Pass default)
  | _ => .Pass default
set_option maxHeartbeats 400000 in
theorem plan_x {h₀ : Heap} {L a bg nu : Addr} {nm : Str} {cd : Value} {m : Str → Option Value} {news : List (Addr × Obj)} {ysb ysn : List Value} {nb' nn k : Nat} {tk0 : Tok} (W : WG mean mg mb h₀) (hh : A.handled = none) (F : Fr h₀ L s.heap m) (N : News h₀ L s.heap news)
    (hb : s.heap.get? bg = some (lstO ysb nb')) (hn : s.heap.get? nu = some (lstO ysn nn)) (mB : m "begun" = some (.ref bg)) (mN : m "numbers" = some (.ref nu)) (mK : m "k" = some (.int k tk0)) (hb6 : ysb.length = 6) (hk : k < 6) (hbv : ∀ v ∈ ysb, NatV v) (hnv : ∀ v ∈ ysn, NatV v) (hnl : ysn.length ≤ 1000)
    (hQ : ∀ h' tk x t, 0 ≤ x → Fr h₀ L h' (fun z => if z = "x" then some (.int x t) else m z) → News h₀ L h' news → Q .next { s with heap := h', toks := tk }) :
    wpAny (model pw w) A (exec (stBody 0) (envOf nm scPlan L a cd)) Q E s := by
  cases A
  cases hh
  have NL := W.T.nolimit
  have BS := W.sum
  conv in stBody 0 => whnf
  have hlb : s.heap.IsList bg ysb.toArray := ⟨_, hb, rfl, _, rfl⟩
  have hln : s.heap.IsList nu ysn.toArray := ⟨_, hn, rfl, _, rfl⟩
  obtain ⟨v0, hv0⟩ : ∃ v, ysb[k]? = some v := ⟨ysb[k]'(by omega), List.getElem?_eq_getElem (by omega)⟩
  obtain ⟨x0, t0, rfl, hx0⟩ := hbv v0 (List.mem_of_getElem? hv0)
  iterate 5 walk1
  refine item_list hlb (Int.ofNat_nonneg _) (Int.lt_of_lt_of_le (Int.ofNat_lt.mpr hk) (by decide)) (by simpa using hv0) ?_
  iterate 12 walk1
  refine subscriptTail_ops (Heap.IsList.typeIs (s := { s with heap := s.heap.push _ }) (hln.push _)) list_getitem_lookup
    (wpAny_getItem_list_slice (lo := some k) (hi := none) (st := some 6) (hln.push _) (Heap.IsSliceOf.new ..) (.int _ _) .none (.int _ _) (by decide) ?_ (by rw [List.size_toArray]; exact Nat.le_trans hnl (by decide))) (by with_unfolding_all rfl) (by intro _; with_unfolding_all rfl)
  have F1 := (F.push { cls := .type "slice", data := .fields #[.int k tk0, .none, .int 6 s.toks] }).push { cls := .type "list", data := .seq (slicePick ysn.toArray (some (k : Int)) none (some 6)) }
  have N1 : News h₀ L ((s.heap.push { cls := .type "slice", data := .fields #[.int k tk0, .none, .int 6 s.toks] }).push { cls := .type "list", data := .seq (slicePick ysn.toArray (some (k : Int)) none (some 6)) }) news := N.keepsAll fun b o e => Heap.get?_push_of_some _ (Heap.get?_push_of_some _ e)
  iterate 1 walk1
  obtain ⟨ns, hns, hs0⟩ := nats_sum (ys := (slicePick ysn.toArray (some (k : Int)) none (some 6)).toList) (fun v hv => hnv v (by simpa using pick_mem hv))
  refine sum_ints (ys := (slicePick ysn.toArray (some (k : Int)) none (some 6)).toList) (ns := ns) rfl ⟨_, Heap.get?_push_size _ rfl, rfl, _, by simp; rfl⟩ hns (fun h5 tk5 t5 hk5 => ?_)
  have F2 := F1.keeps hk5
  have N2 := N1.keepsAll hk5
  clear F1 N1 F N
  repeat walk1
  rename Heap => h6
  rename Fr _ _ _ _ => F6
  rename News _ _ _ _ => N6
  exact hQ h6 _ _ _ (Int.add_nonneg hx0 hs0) F6 N6
end
theorem pick_tab {α : Type} {R : Value → α → Prop} {ys : List Value} {l : List α} (h : All2 R ys l) {j : Int} (h0 : 0 ≤ j) (h1 : j < (l.length : Nat)) : ∃ v e, ys.toArray[j.toNat]? = some v ∧ e ∈ l ∧ R v e := by
  have hj : j.toNat < ys.length := by rw [h.length]; omega
  have hy : ys[j.toNat]? = some ys[j.toNat] := List.getElem?_eq_getElem hj
  obtain ⟨e, he, hR⟩ := h.at hy
  exact ⟨_, e, by simpa using hy, List.mem_of_getElem? he, hR⟩
section
variable {w : World} {mean : ExcName → Option Value} {mg mb : Str → Option Value} {A : Around} {s : Shared} {E : Value → Shared → Prop} {Q : Flow → Shared → Prop}
set_option maxHeartbeats 400000 in
theorem plan_u1 {h₀ : Heap} {L a sl : Addr} {nm : Str} {cd : Value} {m : Str → Option Value} {news tb : List (Addr × Obj)} {ys : List Value} {n : Nat} {x : Int} {tx : Tok} (W : WG mean mg mb h₀) (hh : A.handled = none) (F : Fr h₀ L s.heap m) (N : News h₀ L s.heap news)
    (hs : s.heap.get? sl = some (lstO ys n)) (htb : ∀ p ∈ tb, s.heap.get? p.1 = some p.2) (hys : All2 (fun v e => TupIn tb v (IS e)) ys sgL) (mL : m "signs" = some (.ref sl)) (mX : m "x" = some (.int x tx)) (hx : 0 ≤ x)
    (hQ : ∀ h' tk m' (e : Int × Str) t0 t1, e ∈ sgL → Fr h₀ L h' m' → News h₀ L h' news → m' "sign" = some (.int e.1 t0) → m' "pair" = some (.str e.2 t1) → (∀ q : Str, q ≠ "sign" → q ≠ "pair" → m' q = m q) → Q .next { s with heap := h', toks := tk }) :
    wpAny (model pw w) A (exec (stBody 1) (envOf nm scPlan L a cd)) Q E s := by
  cases A
  cases hh
  have NL := W.T.nolimit
  conv in stBody 1 => whnf
  have hl : s.heap.IsList sl ys.toArray := ⟨_, hs, rfl, _, rfl⟩
  iterate 7 walk1
  obtain ⟨v, e, hv, he, hV⟩ := pick_tab hys (j := _) (Int.fmod_nonneg_of_pos _ (show (0 : Int) < 7 by decide)) (Int.lt_of_lt_of_le (Int.fmod_lt_of_pos _ (show (0 : Int) < 7 by decide)) (show (7 : Int) ≤ (sgL.length : Nat) by decide))
  refine item_list hl (Int.fmod_nonneg_of_pos _ (by decide)) (Int.lt_trans (Int.fmod_lt_of_pos _ (show (0 : Int) < 7 by decide)) (by decide)) hv ?_
  obtain ⟨p, o, nn, its, rfl, hp, hc, hd, hP⟩ := hV
  obtain ⟨t0, t1, rfl⟩ := hP
  refine unpack2 (env := envOf nm scPlan L a cd) F N ⟨o, htb _ hp, hc, nn, hd⟩ rfl (fun h' tk F' N' => ?_)
  refine hQ h' tk _ e t0 t1 he F' N' (by kernel_rfl) (by kernel_rfl) (fun q q0 q1 => ?_)
  show (if q = "pair" then _ else if q = "sign" then _ else m q) = m q
  rw [if_neg q1, if_neg q0]
set_option maxHeartbeats 400000 in
theorem plan_u2 {h₀ : Heap} {L a sl : Addr} {nm : Str} {cd : Value} {m : Str → Option Value} {news tb : List (Addr × Obj)} {ys : List Value} {n : Nat} {x : Int} {tx : Tok} (W : WG mean mg mb h₀) (hh : A.handled = none) (F : Fr h₀ L s.heap m) (N : News h₀ L s.heap news)
    (hs : s.heap.get? sl = some (lstO ys n)) (htb : ∀ p ∈ tb, s.heap.get? p.1 = some p.2) (hys : All2 (fun v e => TupIn tb v (III e)) ys tuL) (mL : m "turns" = some (.ref sl)) (mX : m "x" = some (.int x tx)) (hx : 0 ≤ x)
    (hQ : ∀ h' tk m' (e : Int × Int × Int) t0 t1 t2, e ∈ tuL → Fr h₀ L h' m' → News h₀ L h' news → m' "turn" = some (.int e.1 t0) → m' "back" = some (.int e.2.1 t1) → m' "size" = some (.int e.2.2 t2) → (∀ q : Str, q ≠ "turn" → q ≠ "back" → q ≠ "size" → m' q = m q) → Q .next { s with heap := h', toks := tk }) :
    wpAny (model pw w) A (exec (stBody 2) (envOf nm scPlan L a cd)) Q E s := by
  cases A
  cases hh
  have NL := W.T.nolimit
  conv in stBody 2 => whnf
  have hl : s.heap.IsList sl ys.toArray := ⟨_, hs, rfl, _, rfl⟩
  iterate 10 walk1
  obtain ⟨v, e, hv, he, hV⟩ := pick_tab hys (j := _) (Int.fmod_nonneg_of_pos _ (show (0 : Int) < 8 by decide)) (Int.lt_of_lt_of_le (Int.fmod_lt_of_pos _ (show (0 : Int) < 8 by decide)) (show (8 : Int) ≤ (tuL.length : Nat) by decide))
  refine item_list hl (Int.fmod_nonneg_of_pos _ (by decide)) (Int.lt_trans (Int.fmod_lt_of_pos _ (show (0 : Int) < 8 by decide)) (by decide)) hv ?_
  obtain ⟨p, o, nn, its, rfl, hp, hc, hd, hP⟩ := hV
  obtain ⟨t0, t1, t2, rfl⟩ := hP
  refine unpack3 (env := envOf nm scPlan L a cd) F N ⟨o, htb _ hp, hc, nn, hd⟩ rfl (fun h' tk F' N' => ?_)
  refine hQ h' tk _ e t0 t1 t2 he F' N' (by kernel_rfl) (by kernel_rfl) (by kernel_rfl) (fun q q0 q1 q2 => ?_)
  show (if q = "size" then _ else if q = "back" then _ else if q = "turn" then _ else m q) = m q
  rw [if_neg q2, if_neg q1, if_neg q0]
set_option maxHeartbeats 400000 in
theorem plan_u3 {h₀ : Heap} {L a sl : Addr} {nm : Str} {cd : Value} {m : Str → Option Value} {news tb : List (Addr × Obj)} {ys : List Value} {n : Nat} {x : Int} {tx : Tok} (W : WG mean mg mb h₀) (hh : A.handled = none) (F : Fr h₀ L s.heap m) (N : News h₀ L s.heap news)
    (hs : s.heap.get? sl = some (lstO ys n)) (htb : ∀ p ∈ tb, s.heap.get? p.1 = some p.2) (hys : All2 (fun v e => TupIn tb v (II e)) ys unL) (mL : m "unseen" = some (.ref sl)) (mX : m "x" = some (.int x tx)) (hx : 0 ≤ x)
    (hQ : ∀ h' tk m' (e : Int × Int) t0 t1, e ∈ unL → Fr h₀ L h' m' → News h₀ L h' news → m' "stray" = some (.int e.1 t0) → m' "mark" = some (.int e.2 t1) → (∀ q : Str, q ≠ "stray" → q ≠ "mark" → m' q = m q) → Q .next { s with heap := h', toks := tk }) :
    wpAny (model pw w) A (exec (stBody 3) (envOf nm scPlan L a cd)) Q E s := by
  cases A
  cases hh
  have NL := W.T.nolimit
  conv in stBody 3 => whnf
  have hl : s.heap.IsList sl ys.toArray := ⟨_, hs, rfl, _, rfl⟩
  iterate 10 walk1
  obtain ⟨v, e, hv, he, hV⟩ := pick_tab hys (j := _) (Int.fmod_nonneg_of_pos _ (show (0 : Int) < 8 by decide)) (Int.lt_of_lt_of_le (Int.fmod_lt_of_pos _ (show (0 : Int) < 8 by decide)) (show (8 : Int) ≤ (unL.length : Nat) by decide))
  refine item_list hl (Int.fmod_nonneg_of_pos _ (by decide)) (Int.lt_trans (Int.fmod_lt_of_pos _ (show (0 : Int) < 8 by decide)) (by decide)) hv ?_
  obtain ⟨p, o, nn, its, rfl, hp, hc, hd, hP⟩ := hV
  obtain ⟨t0, t1, rfl⟩ := hP
  refine unpack2 (env := envOf nm scPlan L a cd) F N ⟨o, htb _ hp, hc, nn, hd⟩ rfl (fun h' tk F' N' => ?_)
  refine hQ h' tk _ e t0 t1 he F' N' (by kernel_rfl) (by kernel_rfl) (fun q q0 q1 => ?_)
  show (if q = "mark" then _ else if q = "stray" then _ else m q) = m q
  rw [if_neg q1, if_neg q0]
set_option maxHeartbeats 400000 in
theorem plan_u4 {h₀ : Heap} {L a sl : Addr} {nm : Str} {cd : Value} {m : Str → Option Value} {news tb : List (Addr × Obj)} {ys : List Value} {n : Nat} {x : Int} {tx : Tok} (W : WG mean mg mb h₀) (hh : A.handled = none) (F : Fr h₀ L s.heap m) (N : News h₀ L s.heap news)
    (hs : s.heap.get? sl = some (lstO ys n)) (htb : ∀ p ∈ tb, s.heap.get? p.1 = some p.2) (hys : All2 (fun v e => TupIn tb v (IS e)) ys alL) (mL : m "alone" = some (.ref sl)) (mX : m "x" = some (.int x tx)) (hx : 0 ≤ x)
    (hQ : ∀ h' tk m' (e : Int × Str) t0 t1, e ∈ alL → Fr h₀ L h' m' → News h₀ L h' news → m' "letter" = some (.int e.1 t0) → m' "task" = some (.str e.2 t1) → (∀ q : Str, q ≠ "letter" → q ≠ "task" → m' q = m q) → Q .next { s with heap := h', toks := tk }) :
    wpAny (model pw w) A (exec (stBody 4) (envOf nm scPlan L a cd)) Q E s := by
  cases A
  cases hh
  have NL := W.T.nolimit
  conv in stBody 4 => whnf
  have hl : s.heap.IsList sl ys.toArray := ⟨_, hs, rfl, _, rfl⟩
  iterate 10 walk1
  obtain ⟨v, e, hv, he, hV⟩ := pick_tab hys (j := _) (Int.fmod_nonneg_of_pos _ (show (0 : Int) < 8 by decide)) (Int.lt_of_lt_of_le (Int.fmod_lt_of_pos _ (show (0 : Int) < 8 by decide)) (show (8 : Int) ≤ (alL.length : Nat) by decide))
  refine item_list hl (Int.fmod_nonneg_of_pos _ (by decide)) (Int.lt_trans (Int.fmod_lt_of_pos _ (show (0 : Int) < 8 by decide)) (by decide)) hv ?_
  obtain ⟨p, o, nn, its, rfl, hp, hc, hd, hP⟩ := hV
  obtain ⟨t0, t1, rfl⟩ := hP
  refine unpack2 (env := envOf nm scPlan L a cd) F N ⟨o, htb _ hp, hc, nn, hd⟩ rfl (fun h' tk F' N' => ?_)
  refine hQ h' tk _ e t0 t1 he F' N' (by kernel_rfl) (by kernel_rfl) (fun q q0 q1 => ?_)
  show (if q = "task" then _ else if q = "letter" then _ else m q) = m q
  rw [if_neg q1, if_neg q0]
end
theorem News.cons2 {h₀ h : Heap} {L a b : Addr} {o o' : Obj} {rest : List (Addr × Obj)} (h1 : h.get? a = some o) (h2 : a ≠ L) (h3 : h₀.get? a = none) (h4 : h.get? b = some o') (h5 : b ≠ L ∧ h₀.get? b = none) (hr : News h₀ L h rest) : News h₀ L h ((a, o) :: (b, o') :: rest) := by
  intro p hp
  rcases List.mem_cons.mp hp with rfl | hp
  · exact ⟨h1, h2, h3⟩
  · rcases List.mem_cons.mp hp with rfl | hp
    · exact ⟨h4, h5.1, h5.2⟩
    · exact hr p hp
section
variable {w : World} {mean : ExcName → Option Value} {mg mb : Str → Option Value} {A : Around} {s : Shared} {E : Value → Shared → Prop} {Q : Flow → Shared → Prop}
set_option maxHeartbeats 400000 in
theorem plan_row {h₀ : Heap} {L a rw' : Addr} {nm : Str} {cd : Value} {m : Str → Option Value} {rest : List (Addr × Obj)} {ys : List Value} {n : Nat} {v1 v2 v3 v4 : Int} {t1 t2 t3 t4 : Tok} (W : WG mean mg mb h₀) (hh : A.handled = none) (F : Fr h₀ L s.heap m) (N : News h₀ L s.heap ((rw', lstO ys n) :: rest))
    (hne : ∀ p ∈ rest, p.1 ≠ rw') (mR : m "row" = some (.ref rw')) (m1 : m "sign" = some (.int v1 t1)) (m2 : m "turn" = some (.int v2 t2)) (m3 : m "stray" = some (.int v3 t3)) (m4 : m "letter" = some (.int v4 t4)) (hl : ys.length ≤ 1000)
    (hQ : ∀ h' tk n', Fr h₀ L h' m → News h₀ L h' ((rw', lstO (ys ++ [.int v1 t1, .int v2 t2, .int v3 t3, .int v4 t4]) n') :: rest) → Q .next { s with heap := h', toks := tk }) :
    wpAny (model pw w) A (exec (stBody 5) (envOf nm scPlan L a cd)) Q E s := by
  cases A
  cases hh
  have NL := W.T.nolimit
  conv in stBody 5 => whnf
  have hrow := (N _ (.head _)).1
  iterate 18 walk1
  rename Fr _ _ _ _ => F1
  rename News _ _ _ _ => N1
  have hrow2 := (N1 _ (.tail _ (.head _))).1
  have hnew2 := (N1 _ (.head _)).1
  refine call_meets PySem.F.slot_list_extend ⟨_, hrow2, rfl⟩ PySem.F.entry_list_extend (PySem.F.args_list_extend_2 _ _) (PySem.AutoSeq1.list_extend_list_list_0 rw' ys.toArray n _ #[.int v1 t1, .int v2 t2, .int v3 t3, .int v4 t4] _ ?_ ?_ ?_) ⟨hrow2, hnew2, ?_⟩
  · have h1 : (ys.toArray).size ≤ 1000 := by rw [List.size_toArray]; exact hl
    intro hc
    rw [Bool.and_eq_true] at hc
    have h2 := hc.2
    have h3 : (ys.toArray).size + 4 ≤ sizeLine := Nat.le_trans (Nat.add_le_add_right h1 4) (by decide)
    exact absurd (of_decide_eq_true h2) (Nat.not_lt.mpr h3)
  · rw [List.size_toArray]; exact Nat.le_trans hl (by decide)
  · rw [List.size_toArray]; exact Nat.le_trans (Nat.add_le_add_right hl _) (by show 1000 + 4 ≤ _; decide)
  have hti : rw' ≠ L := (N _ (.head _)).2.1
  have htn : h₀.get? rw' = none := (N _ (.head _)).2.2
  show Q .next _
  rename Heap => H1
  have hs := Heap.SameBut.update H1 rw' (Obj.mapSeq fun x => x ++ #[.int v1 t1, .int v2 t2, .int v3 t3, .int v4 t4])
  refine hQ _ _ (if (ys.toArray ++ #[Value.int v1 t1, .int v2 t2, .int v3 t3, .int v4 t4]).size == ys.toArray.size then n else n + 1) (F1.change hs hti htn) (fun q hq => ?_)
  rcases List.mem_cons.mp hq with rfl | hq
  · refine ⟨?_, hti, htn⟩
    rw [Heap.get?_update_self _ hrow2 rfl]
    show some _ = some _
    congr 1
    show Obj.mk _ _ _ _ = Obj.mk _ _ _ _
    simp [List.append_toArray]
  · exact ⟨hs.extBut _ _ (hne q hq) (N1 _ (.tail _ (.tail _ hq))).1, (N _ (.tail _ hq)).2⟩
set_option maxHeartbeats 400000 in
theorem plan_tie {h₀ : Heap} {L a ti : Addr} {nm : Str} {cd : Value} {m : Str → Option Value} {rest : List (Addr × Obj)} {ys : List Value} {n : Nat} {pair : Str} {bk sz mk' : Int} {ca cb : Nat} {t1 t2 t3 t4 : Tok} (W : WG mean mg mb h₀) (hh : A.handled = none) (F : Fr h₀ L s.heap m) (N : News h₀ L s.heap ((ti, lstO ys n) :: rest))
    (hne : ∀ p ∈ rest, p.1 ≠ ti) (mR : m "ties" = some (.ref ti)) (m1 : m "pair" = some (.str pair t1)) (m2 : m "back" = some (.int bk t2)) (m3 : m "size" = some (.int sz t3)) (m4 : m "mark" = some (.int mk' t4)) (hl : ys.length ≤ 1000)
    (hb : bk = 0 ∨ bk = 1) (hca : (seqIndex? bk pair.length).bind (pair.cps[·]?) = some ca) (hcb : (seqIndex? (1 - bk) pair.length).bind (pair.cps[·]?) = some cb)
    (hQ : ∀ h' tk n' p u1 u2 u3, Fr h₀ L h' m → News h₀ L h' ((ti, lstO (ys ++ [.ref p]) n') :: (p, { cls := .type "tuple", data := .seq #[.str ⟨#[ca]⟩ u1, .str ⟨#[cb]⟩ u2, .int (sz + mk') u3] }) :: rest) → p ≠ ti → (∀ q ∈ rest, p ≠ q.1) → Q .next { s with heap := h', toks := tk }) :
    wpAny (model pw w) A (exec (stBody 6) (envOf nm scPlan L a cd)) Q E s := by
  cases A
  cases hh
  have NL := W.T.nolimit
  conv in stBody 6 => whnf
  iterate 11 walk1
  refine str_at (c := ca) (by rcases hb with rfl | rfl <;> decide +kernel) hca fun _ _ => ?_
  iterate 7 walk1
  refine str_at (c := cb) (by rcases hb with rfl | rfl <;> decide +kernel) hcb fun _ _ => ?_
  iterate 7 walk1
  iterate 1 walk1
  rename Fr _ _ _ _ => F1
  rename News _ _ _ _ => N1
  have hfr : ∀ q ∈ (ti, lstO ys n) :: rest, s.heap.objs.size ≠ q.1 := fun q hq e => absurd (Heap.lt_size (N q hq).1) (e ▸ Nat.lt_irrefl _)
  refine wpAny_list_append_plain (items := ys.toArray) ⟨n, (N1 _ (.tail _ (.head _))).1⟩ (fun h' hpl hs => ?_) (by rw [List.size_toArray]; exact Nat.le_trans hl (by decide))
  obtain ⟨n', hn'⟩ := hpl
  have hne' : ∀ q ∈ rest, q.1 ≠ ti := hne
  have hti : ti ≠ L := (N _ (.head _)).2.1
  have htn : h₀.get? ti = none := (N _ (.head _)).2.2
  show Q .next _
  have hT := N1 _ (.head _)
  exact hQ h' _ n' s.heap.objs.size _ _ _ (F1.change hs hti htn) (Mine.News.cons2 (by simpa [lstO] using hn') hti htn (hs.extBut _ _ (hfr _ (.head _)) hT.1) hT.2 (fun q hq => ⟨hs.extBut _ _ (hne q hq) (N1 _ (.tail _ (.tail _ hq))).1, (N _ (.tail _ hq)).2⟩)) (hfr _ (.head _)) (fun q hq => hfr q (.tail _ hq))
end
structure Ent where
  sg : Int × Str
  tu : Int × Int × Int
  un : Int × Int
  al : Int × Str
structure EntOk (d : Ent) : Prop where
  sg : d.sg ∈ sgL
  tu : d.tu ∈ tuL
  un : d.un ∈ unL
  al : d.al ∈ alL
noncomputable def chAt (x : Str) (i : Int) : Nat := ((seqIndex? i x.length).bind (x.cps[·]?)).getD 0
noncomputable def Ent.a (d : Ent) : Str := ⟨#[chAt d.sg.2 d.tu.2.1]⟩
noncomputable def Ent.b (d : Ent) : Str := ⟨#[chAt d.sg.2 (1 - d.tu.2.1)]⟩
noncomputable def Ent.w (d : Ent) : Int := d.tu.2.2 + d.un.2
noncomputable def row4 (d : Ent) : List Int := [d.sg.1, d.tu.1, d.un.1, d.al.1]
noncomputable def lvStep (acc : List (Str × Int)) (d : Ent) : List (Str × Int) := putI acc d.al.2 ((getI acc d.al.2).getD 0 + 1)
noncomputable def TieIn (nb : List (Addr × Obj)) (v : Value) (d : Ent) : Prop := TupIn nb v (fun its => ∃ t1 t2 t3, its = #[.str d.a t1, .str d.b t2, .int d.w t3])
theorem TupIn.more {nb nb' : List (Addr × Obj)} {v : Value} {P : Array Value → Prop} (x : TupIn nb v P) (k : ∀ p ∈ nb, p ∈ nb') : TupIn nb' v P :=
  let ⟨p, o, n, its, e1, e2, r⟩ := x; ⟨p, o, n, its, e1, k _ e2, r⟩
theorem back_ok : ∀ e ∈ sgL, ∀ f ∈ tuL, (f.2.1 = 0 ∨ f.2.1 = 1) ∧ (seqIndex? f.2.1 e.2.length).bind (e.2.cps[·]?) = some (chAt e.2 f.2.1) ∧ (seqIndex? (1 - f.2.1) e.2.length).bind (e.2.cps[·]?) = some (chAt e.2 (1 - f.2.1)) := by decide +kernel
section
variable {w : World} {mean : ExcName → Option Value} {mg mb : Str → Option Value} {A : Around} {s : Shared} {E : Value → Shared → Prop} {Q : Flow → Shared → Prop}
set_option maxHeartbeats 400000 in
theorem plan_leaf {h₀ : Heap} {L a le : Addr} {oL : Obj} {nm : Str} {cd : Value} {m : Str → Option Value} {rest : List (Addr × Obj)} {x : Str} {t1 : Tok} {Lv : List (Str × Int)} (W : WG mean mg mb h₀) (hh : A.handled = none) (F : Fr h₀ L s.heap m) (N : News h₀ L s.heap ((le, oL) :: rest))
    (hne : ∀ p ∈ rest, p.1 ≠ le) (mL : m "leaves" = some (.ref le)) (mT : m "task" = some (.str x t1)) (dL : DIo w oL Lv) (sL : (le == sysModules) = false) (hl : Lv.length ≤ 1000)
    (hQ : ∀ h' tk oL', Fr h₀ L h' m → News h₀ L h' ((le, oL') :: rest) → DIo w oL' (putI Lv x ((getI Lv x).getD 0 + 1)) → Q .next { s with heap := h', toks := tk }) :
    wpAny (model pw w) A (exec (stBody 7) (envOf nm scPlan L a cd)) Q E s := by
  cases A
  cases hh
  have NL := W.T.nolimit
  conv in stBody 7 => whnf
  have hle := (N _ (.head _)).1
  obtain ⟨kL, hL1, hL2⟩ := id dL
  have hdl : s.heap.DictOf (PySem.strKind pw w) le kL := Heap.dictOf_iff.mpr ⟨_, hle, hL1⟩
  iterate 4 walk1
  refine getM_get hdl ?_
  iterate 6 walk1
  refine get2_DI hle sL dL (fun t6 => ?_)
  iterate 4 walk1
  refine setItem_DI (own := []) (rest := rest) F N (fun _ h => nomatch h) hne dL (Nat.le_trans hl (by decide)) (fun h6 oO6 F₆ N₆ dO6 => ?_)
  exact hQ h6 _ oO6 F₆ N₆ dO6
end
noncomputable def keyP : List Str := ["signs", "turns", "unseen", "alone", "begun", "numbers", "row", "ties", "leaves"]
theorem key_ne {q x : Str} (hq : q ∈ keyP) (hx : (keyP.contains x) = false) : q ≠ x := fun e => by
  subst e
  rw [List.contains_iff_mem.mpr hq] at hx
  cases hx
structure Tabs (h₀ : Heap) (tb : List (Addr × Obj)) (m₀ : Str → Option Value) : Prop where
  sg : ∃ D ys n, m₀ "signs" = some (.ref D) ∧ (D, lstO ys n) ∈ tb ∧ All2 (fun v e => TupIn tb v (IS e)) ys sgL
  tu : ∃ D ys n, m₀ "turns" = some (.ref D) ∧ (D, lstO ys n) ∈ tb ∧ All2 (fun v e => TupIn tb v (III e)) ys tuL
  un : ∃ D ys n, m₀ "unseen" = some (.ref D) ∧ (D, lstO ys n) ∈ tb ∧ All2 (fun v e => TupIn tb v (II e)) ys unL
  al : ∃ D ys n, m₀ "alone" = some (.ref D) ∧ (D, lstO ys n) ∈ tb ∧ All2 (fun v e => TupIn tb v (IS e)) ys alL
  bg : ∃ D ys n, m₀ "begun" = some (.ref D) ∧ (D, lstO ys n) ∈ tb ∧ ys.length = 6 ∧ ∀ v ∈ ys, NatV v
  nu : ∃ D ys n, m₀ "numbers" = some (.ref D) ∧ (D, lstO ys n) ∈ tb ∧ ys.length ≤ 1000 ∧ ∀ v ∈ ys, NatV v
structure PlSt (w : World) (m₀ m : Str → Option Value) (tb news : List (Addr × Obj)) (i : Nat) (rw' ti le : Addr) (ds : List Ent) (ysr yst : List Value) (nr nt : Nat) (oL : Obj) (nb : List (Addr × Obj)) : Prop where
  len : ds.length = i
  ok : ∀ d ∈ ds, EntOk d
  news : news = (rw', lstO ysr nr) :: (ti, lstO yst nt) :: (le, oL) :: (nb ++ tb)
  row : All2 IntV ysr (ds.flatMap row4)
  ties : All2 (TieIn nb) yst ds
  dL : DIo w oL (ds.foldl lvStep [])
  ml : ∀ q ∈ keyP, m q = m₀ q
  n1 : ∀ p ∈ (ti, lstO yst nt) :: (le, oL) :: (nb ++ tb), p.1 ≠ rw'
  n2 : ∀ p ∈ (le, oL) :: (nb ++ tb), p.1 ≠ ti
  n3 : ∀ p ∈ nb ++ tb, p.1 ≠ le
noncomputable def PlS (w : World) (m₀ m : Str → Option Value) (tb news : List (Addr × Obj)) (i : Nat) (rw' ti le : Addr) : Prop := ∃ ds ysr yst nr nt oL nb, PlSt w m₀ m tb news i rw' ti le ds ysr yst nr nt oL nb
theorem row4_len : ∀ ds : List Ent, (ds.map fun d => (row4 d).length).sum ≤ 4 * ds.length
  | [] => by simp
  | d :: ds => by
    have := row4_len ds
    rw [List.map_cons, List.sum_cons, List.length_cons]
    show 4 + _ ≤ _
    omega
theorem lv_len : ∀ (ds : List Ent) (acc : List (Str × Int)), (ds.foldl lvStep acc).length ≤ acc.length + ds.length
  | [], _ => Nat.le_refl _
  | d :: ds, acc => by
    have := lv_len ds (lvStep acc d)
    have h2 : (lvStep acc d).length ≤ acc.length + 1 := putI_length _ _ _
    simp only [List.foldl_cons, List.length_cons]; omega
section
variable {w : World} {mean : ExcName → Option Value} {mg mb : Str → Option Value} {A : Around} {s : Shared} {E : Value → Shared → Prop} {Q : Flow → Shared → Prop}
set_option maxHeartbeats 400000 in
theorem plan_turn {h₀ : Heap} {L a it rw' ti le : Addr} {oi : Obj} {nm : Str} {cd : Value} {m m₀ : Str → Option Value} {tb news : List (Addr × Obj)} {i : Nat} {tk0 : Tok} (W : WG mean mg mb h₀) (hh : A.handled = none) (F : Fr h₀ L s.heap m) (N : News h₀ L s.heap ((it, oi) :: news)) (hoff : ∀ p ∈ news, p.1 ≠ it)
    (hi : i < 6) (mK : m "k" = some (.int i tk0)) (T : Tabs h₀ tb m₀) (mr : m₀ "row" = some (.ref rw')) (mt : m₀ "ties" = some (.ref ti)) (mle : m₀ "leaves" = some (.ref le)) (sL : (le == sysModules) = false) (P : PlS w m₀ m tb news i rw' ti le)
    (hQ : ∀ h' tk m' news', Fr h₀ L h' m' → News h₀ L h' ((it, oi) :: news') → (∀ p ∈ news', p.1 ≠ it) → PlS w m₀ m' tb news' (i + 1) rw' ti le → Q .next { s with heap := h', toks := tk }) :
    wpAny (model pw w) A (execs [stBody 0, stBody 1, stBody 2, stBody 3, stBody 4, stBody 5, stBody 6, stBody 7] (envOf nm scPlan L a cd)) Q E s := by
  obtain ⟨ds, ysr, yst, nr, nt, oL, nb, ⟨plen, pok, rfl, prow, pties, pdL, pml, n1, n2, n3⟩⟩ := P
  obtain ⟨Ds, yss, ns', ms, hs1, hs2⟩ := T.sg
  obtain ⟨Dt, ystu, nt', mtu, ht1, ht2⟩ := T.tu
  obtain ⟨Du, ysu, nu', mu, hu1, hu2⟩ := T.un
  obtain ⟨Da, ysa, na', ma, ha1, ha2⟩ := T.al
  obtain ⟨Db, ysb, nb', mb', hb1, hb2, hb3⟩ := T.bg
  obtain ⟨Dn, ysn, nn', mn, hn1, hn2, hn3⟩ := T.nu
  have tbIn : ∀ {h : Heap} {ex : List (Addr × Obj)}, News h₀ L h ((it, oi) :: (rw', lstO ysr nr) :: (ti, lstO yst nt) :: (le, oL) :: (nb ++ tb)) → ∀ p ∈ tb, h.get? p.1 = some p.2 := fun N p hp => (N p (.tail _ (.tail _ (.tail _ (.tail _ (List.mem_append_right _ hp)))))).1
  have kc : ∀ {x : Str}, keyP.contains x = false → ∀ q ∈ keyP, q ≠ x := fun hx q hq => key_ne hq hx
  refine wpAny_execs_cons (plan_x (bg := Db) (nu := Dn) W hh F N (tbIn (ex := []) N _ hb1) (tbIn (ex := []) N _ hn1) ((pml _ (by decide)).trans mb') ((pml _ (by decide)).trans mn) mK hb2 hi hb3 hn3 hn2 (fun h1 tk1 x tx hx F1 N1 => ?_))
  obtain ⟨m₁, G1, e1, e2⟩ : ∃ m₁, Fr h₀ L h1 m₁ ∧ m₁ "x" = some (.int x tx) ∧ (∀ q : Str, q ≠ "x" → m₁ q = m q) := ⟨_, F1, by kernel_rfl, fun q hq => by show (if q = "x" then _ else m q) = m q; rw [if_neg hq]⟩
  clear F1 F N
  have k1 : ∀ q ∈ keyP, m₁ q = m₀ q := fun q hq => (e2 q (kc (by decide) q hq)).trans (pml q hq)
  refine wpAny_execs_cons (plan_u1 (s := { s with heap := h1, toks := tk1 }) (tb := tb) W hh G1 N1 (tbIn (ex := []) N1 _ hs1) (tbIn (ex := []) N1) hs2 ((k1 _ (by decide)).trans ms) e1 hx (fun h2 tk2 m₂ esg a0 a1 hsg G2 N2 f1 f2 f3 => ?_))
  have k2 : ∀ q ∈ keyP, m₂ q = m₀ q := fun q hq => (f3 q (kc (by decide) q hq) (kc (by decide) q hq)).trans (k1 q hq)
  refine wpAny_execs_cons (plan_u2 (s := { s with heap := h2, toks := tk2 }) (tb := tb) W hh G2 N2 (tbIn (ex := []) N2 _ ht1) (tbIn (ex := []) N2) ht2 ((k2 _ (by decide)).trans mtu) ((f3 _ (by decide) (by decide)).trans e1) hx (fun h3 tk3 m₃ etu b0 b1 b2 htu G3 N3 g1 g2 g3 g4 => ?_))
  have k3 : ∀ q ∈ keyP, m₃ q = m₀ q := fun q hq => (g4 q (kc (by decide) q hq) (kc (by decide) q hq) (kc (by decide) q hq)).trans (k2 q hq)
  refine wpAny_execs_cons (plan_u3 (s := { s with heap := h3, toks := tk3 }) (tb := tb) W hh G3 N3 (tbIn (ex := []) N3 _ hu1) (tbIn (ex := []) N3) hu2 ((k3 _ (by decide)).trans mu) ((g4 _ (by decide) (by decide) (by decide)).trans ((f3 _ (by decide) (by decide)).trans e1)) hx (fun h4 tk4 m₄ eun c0 c1 hun G4 N4 i1 i2 i3 => ?_))
  have k4 : ∀ q ∈ keyP, m₄ q = m₀ q := fun q hq => (i3 q (kc (by decide) q hq) (kc (by decide) q hq)).trans (k3 q hq)
  refine wpAny_execs_cons (plan_u4 (s := { s with heap := h4, toks := tk4 }) (tb := tb) W hh G4 N4 (tbIn (ex := []) N4 _ ha1) (tbIn (ex := []) N4) ha2 ((k4 _ (by decide)).trans ma) ((i3 _ (by decide) (by decide)).trans ((g4 _ (by decide) (by decide) (by decide)).trans ((f3 _ (by decide) (by decide)).trans e1))) hx (fun h5 tk5 m₅ eal d0 d1 hal G5 N5 j1 j2 j3 => ?_))
  have k5 : ∀ q ∈ keyP, m₅ q = m₀ q := fun q hq => (j3 q (kc (by decide) q hq) (kc (by decide) q hq)).trans (k4 q hq)
  clear G1 G2 G3 G4 N1 N2 N3 N4
  have s1 : m₅ "sign" = some (.int esg.1 a0) := (j3 _ (by decide) (by decide)).trans ((i3 _ (by decide) (by decide)).trans ((g4 _ (by decide) (by decide) (by decide)).trans f1))
  have s2 : m₅ "pair" = some (.str esg.2 a1) := (j3 _ (by decide) (by decide)).trans ((i3 _ (by decide) (by decide)).trans ((g4 _ (by decide) (by decide) (by decide)).trans f2))
  have s3 : m₅ "turn" = some (.int etu.1 b0) := (j3 _ (by decide) (by decide)).trans ((i3 _ (by decide) (by decide)).trans g1)
  have s4 : m₅ "back" = some (.int etu.2.1 b1) := (j3 _ (by decide) (by decide)).trans ((i3 _ (by decide) (by decide)).trans g2)
  have s5 : m₅ "size" = some (.int etu.2.2 b2) := (j3 _ (by decide) (by decide)).trans ((i3 _ (by decide) (by decide)).trans g3)
  have s6 : m₅ "stray" = some (.int eun.1 c0) := (j3 _ (by decide) (by decide)).trans i1
  have s7 : m₅ "mark" = some (.int eun.2 c1) := (j3 _ (by decide) (by decide)).trans i2
  have oi1 : it ≠ rw' := (hoff _ (.head _)).symm
  have oi2 : it ≠ ti := (hoff _ (.tail _ (.head _))).symm
  have oi3 : it ≠ le := (hoff _ (.tail _ (.tail _ (.head _)))).symm
  have hlr : ysr.length ≤ 1000 := by
    rw [prow.length, List.length_flatMap]
    have := row4_len ds
    omega
  have hlt : yst.length ≤ 1000 := by rw [pties.length]; omega
  refine wpAny_execs_cons (plan_row (n := nr) (s := { s with heap := h5, toks := tk5 }) (rest := (it, oi) :: (ti, lstO yst nt) :: (le, oL) :: (nb ++ tb)) W hh G5 (fun p hp => N5 p ?_) (fun p hp => ?_) ((k5 _ (by decide)).trans mr) s1 s3 s6 j1 hlr (fun h6 tk6 nr' G6 N6 => ?_))
  · simp only [List.mem_cons] at hp ⊢
    rcases hp with h | h | h
    · exact .inr (.inl h)
    · exact .inl h
    · exact .inr (.inr h)
  · rcases List.mem_cons.mp hp with rfl | hp
    · exact oi1
    · exact n1 p hp
  obtain ⟨hbk, hca, hcb⟩ := back_ok _ hsg _ htu
  refine wpAny_execs_cons (plan_tie (n := nt) (s := { s with heap := h6, toks := tk6 }) (ti := ti) (rest := (it, oi) :: (rw', lstO (ysr ++ [.int esg.1 a0, .int etu.1 b0, .int eun.1 c0, .int eal.1 d0]) nr') :: (le, oL) :: (nb ++ tb)) W hh G6 (fun p hp => N6 p ?_) (fun p hp => ?_) ((k5 _ (by decide)).trans mt) s2 s4 s5 s7 hlt hbk hca hcb (fun h7 tk7 nt2 p u1 u2 u3 G7 N7 hpt hpr => ?_))
  · simp only [List.mem_cons] at hp ⊢
    rcases hp with h | h | h | h
    · exact .inr (.inr (.inl h))
    · exact .inr (.inl h)
    · exact .inl h
    · exact .inr (.inr (.inr h))
  · rcases List.mem_cons.mp hp with rfl | hp
    · exact oi2
    · rcases List.mem_cons.mp hp with rfl | hp
      · exact fun e => n1 _ (.head _) e.symm
      · exact n2 p hp
  have hlv : (ds.foldl lvStep []).length ≤ 1000 := by
    have := lv_len ds []
    simp only [List.length_nil] at this
    omega
  obtain ⟨oP, hoP⟩ : ∃ oP, oP = ({ cls := .type "tuple", data := .seq #[.str ⟨#[chAt esg.2 etu.2.1]⟩ u1, .str ⟨#[chAt esg.2 (1 - etu.2.1)]⟩ u2, .int (etu.2.2 + eun.2) u3] } : Obj) := ⟨_, rfl⟩
  rw [← hoP] at N7
  have hp_it : p ≠ it := hpr _ (.head _)
  have hp_rw : p ≠ rw' := hpr _ (.tail _ (.head _))
  have hp_le : p ≠ le := hpr _ (.tail _ (.tail _ (.head _)))
  refine wpAny_execs_cons (plan_leaf (oL := oL) (s := { s with heap := h7, toks := tk7 }) (le := le) (rest := (it, oi) :: (rw', lstO (ysr ++ [.int esg.1 a0, .int etu.1 b0, .int eun.1 c0, .int eal.1 d0]) nr') :: (ti, lstO (yst ++ [.ref p]) nt2) :: (p, oP) :: (nb ++ tb)) W hh G7 (fun q hq => N7 q ?_) (fun q hq => ?_) ((k5 _ (by decide)).trans mle) j2 pdL sL hlv (fun h8 tk8 oL' G8 N8 dL' => wpAny_execs_nil ?_))
  · simp only [List.mem_cons] at hq ⊢
    rcases hq with h | h | h | h | h | h
    · exact .inr (.inr (.inr (.inr (.inl h))))
    · exact .inr (.inr (.inl h))
    · exact .inr (.inr (.inr (.inl h)))
    · exact .inl h
    · exact .inr (.inl h)
    · exact .inr (.inr (.inr (.inr (.inr h))))
  · simp only [List.mem_cons] at hq
    rcases hq with rfl | rfl | rfl | rfl | hq
    · exact oi3
    · exact fun e => n1 _ (.tail _ (.head _)) e.symm
    · exact fun e => n2 _ (.head _) e.symm
    · exact hp_le
    · exact n3 q hq
  refine hQ h8 tk8 m₅ ((rw', lstO (ysr ++ [.int esg.1 a0, .int etu.1 b0, .int eun.1 c0, .int eal.1 d0]) nr') :: (ti, lstO (yst ++ [.ref p]) nt2) :: (le, oL') :: (((p, oP) :: nb) ++ tb)) G8 (fun q hq => N8 q ?_) (fun q hq => ?_)
    ⟨ds ++ [⟨esg, etu, eun, eal⟩], _, _, _, _, oL', (p, oP) :: nb, ⟨by simp [plen], fun d hd => ?_, rfl, ?_, ?_, ?_, k5, fun q hq => ?_, fun q hq => ?_, fun q hq => ?_⟩⟩
  · simp only [List.mem_cons, List.cons_append] at hq ⊢
    rcases hq with h | h | h | h | h | h
    · exact .inr (.inl h)
    · exact .inr (.inr (.inl h))
    · exact .inr (.inr (.inr (.inl h)))
    · exact .inl h
    · exact .inr (.inr (.inr (.inr (.inl h))))
    · exact .inr (.inr (.inr (.inr (.inr h))))
  · simp only [List.mem_cons, List.cons_append] at hq
    rcases hq with rfl | rfl | rfl | rfl | hq
    · exact oi1.symm
    · exact oi2.symm
    · exact oi3.symm
    · exact hp_it
    · exact hoff q (.tail _ (.tail _ (.tail _ hq)))
  · rcases List.mem_append.mp hd with hd | hd
    · exact pok d hd
    · rw [List.mem_singleton.mp hd]; exact ⟨hsg, htu, hun, hal⟩
  · rw [List.flatMap_append]
    refine prow.append ?_
    simp only [List.flatMap_cons, List.flatMap_nil, List.append_nil]
    exact .cons ⟨_, rfl⟩ (.cons ⟨_, rfl⟩ (.cons ⟨_, rfl⟩ (.cons ⟨_, rfl⟩ .nil)))
  · exact (pties.imp fun _ _ h => h.more fun _ h => .tail _ h).snoc ⟨p, oP, 0, (#[.str ⟨#[chAt esg.2 etu.2.1]⟩ u1, .str ⟨#[chAt esg.2 (1 - etu.2.1)]⟩ u2, .int (etu.2.2 + eun.2) u3] : Array Value), rfl, .head _, by rw [hoP], by rw [hoP], u1, u2, u3, rfl⟩
  · rw [List.foldl_append]; exact dL'
  · simp only [List.mem_cons, List.cons_append] at hq
    rcases hq with rfl | rfl | rfl | hq
    · exact n1 (ti, lstO yst nt) (.head _)
    · exact n1 (le, oL) (.tail _ (.head _))
    · exact hp_rw
    · exact n1 q (.tail _ (.tail _ hq))
  · simp only [List.mem_cons, List.cons_append] at hq
    rcases hq with rfl | rfl | hq
    · exact n2 (le, oL) (.head _)
    · exact hpt
    · exact n2 q (.tail _ hq)
  · simp only [List.mem_cons, List.cons_append] at hq
    rcases hq with rfl | hq
    · exact hp_le
    · exact n3 q hq
end
noncomputable def EntV (h0 h : Heap) (v : Value) (d : Ent) : Prop := ∃ p t1 t2 t3, v = .ref p ∧ h0.get? p = none ∧ IsTup h p #[.str d.a t1, .str d.b t2, .int d.w t3]
section
variable {w : World} {mean : ExcName → Option Value} {mg mb : Str → Option Value} {A : Around} {s : Shared} {E : Value → Shared → Prop} {Q : Flow → Shared → Prop}
set_option maxHeartbeats 400000 in
theorem plan_begun {h₀ : Heap} {L a : Addr} {nm : Str} {cd : Value} {m : Str → Option Value} {news : List (Addr × Obj)} (W : WG mean mg mb h₀) (hh : A.handled = none) (F : Fr h₀ L s.heap m) (N : News h₀ L s.heap news)
    (hQ : ∀ D h' tk ys n, Fr h₀ L h' (fun z => if z = "begun" then some (.ref D) else m z) → News h₀ L h' ((D, lstO ys n) :: news) → ys.length = 6 → (∀ v ∈ ys, NatV v) → Q .next { s with heap := h', toks := tk }) :
    wpAny (model pw w) A (exec (stPlan 4) (envOf nm scPlan L a cd)) Q E s := by
  cases A
  cases hh
  have NL := W.T.nolimit
  conv in stPlan 4 => whnf
  repeat walk1
  rename Fr _ _ _ _ => F1
  rename News _ _ _ _ => N1
  refine hQ _ _ _ [_, _, _, _, _, _] _ F1 N1 rfl (fun v hv => ?_)
  simp only [List.mem_cons, List.not_mem_nil, or_false] at hv
  rcases hv with rfl | rfl | rfl | rfl | rfl | rfl <;> exact ⟨_, _, rfl, by decide⟩
end
section
variable {w : World} {mean : ExcName → Option Value} {mg mb : Str → Option Value} {A : Around} {s : Shared} {E : Value → Shared → Prop} {Q : Value → Shared → Prop}
theorem app_mem {p : Addr × Obj} {a b : List (Addr × Obj)} (h : p ∈ a) : p ∈ a ++ b := List.mem_append_left _ h
set_option maxHeartbeats 400000 in
theorem lplan {sc : Addr} {items : Array Value} (W : WG mean mg mb s.heap) (hroom : A.depth + 4 < recursionLimit) (hh : A.handled = none) (hl : s.heap.IsList sc items) (hi : ∀ v ∈ items.toList, ∃ n t, v = .int n t) (hsz : items.size ≤ 1000)
    (hQ : ∀ h' tk r rr tt ll ds rws ts, (∀ b o, s.heap.get? b = some o → h'.get? b = some o) → s.heap.get? r = none → IsTup h' r #[.ref rr, .ref tt, .ref ll] → ds.length = 6 → (∀ d ∈ ds, EntOk d) → h'.IsList rr rws → All2 IntV rws.toList (ds.flatMap row4 ++ [0]) → h'.IsList tt ts → All2 (EntV s.heap h') ts.toList ds → DI w h' ll (ds.foldl lvStep []) → s.heap.get? rr = none → s.heap.get? tt = none → s.heap.get? ll = none → Q (.ref r) { s with heap := h', toks := tk }) :
    ∃ f, mg "_law_plan" = some (.ref f) ∧ wpAny (model pw w) A (call (.ref f) [.ref sc]) Q E s := by
  cases A
  cases hh
  obtain ⟨a, o, pm, code, doc, h1, h2, h3, h4⟩ := W.T.fn _ rec74
  rw [scPlan_eq] at h3
  refine ⟨a, h1, wpAny_call (call_pos_ret (scope := scPlan) (Nat.lt_of_le_of_lt (Nat.le_add_right _ _) hroom) h2 h3 W.T.nolimit h4 (by kernel_rfl) (locs (by kernel_rfl)) (fun h₁ F => ?_) (by kernel_rfl) (by kernel_rfl) (by kernel_rfl) (nocell (by kernel_rfl)))⟩
  have eb : (defAt 74 "_law_plan").body = [stPlan 0, stPlan 1, stPlan 2, stPlan 3, stPlan 4, stPlan 5, stPlan 6, stPlan 7, stPlan 8, stPlan 9, stPlan 10] := by kernel_rfl
  rw [eb]
  have NL := W.T.nolimit
  obtain ⟨m₀, F₀, q0⟩ : ∃ m₀, Fr s.heap s.heap.objs.size h₁ m₀ ∧ m₀ "script" = some (.ref sc) := ⟨_, F, by kernel_rfl⟩
  clear F
  have N : News s.heap s.heap.objs.size h₁ [] := News.nil
  generalize hAA : Around.deeper _ _ = AA
  have hA : AA.handled = none := by rw [← hAA]; rfl
  with_reducible refine wpAny_execs_cons (plan_signs W hA F₀ N (fun D1 g1 k1 ys1 n1 nb1 F1 N1 _ hA1 => ?_))
  with_reducible refine wpAny_execs_cons (plan_turns W hA F1 N1 (fun D2 g2 k2 ys2 n2 nb2 F2 N2 _ hA2 => ?_))
  with_reducible refine wpAny_execs_cons (plan_unseen W hA F2 N2 (fun D3 g3 k3 ys3 n3 nb3 F3 N3 _ hA3 => ?_))
  with_reducible refine wpAny_execs_cons (plan_alone W hA F3 N3 (fun D4 g4 k4 ys4 n4 nb4 F4 N4 _ hA4 => ?_))
  with_reducible refine wpAny_execs_cons (plan_begun W hA F4 N4 (fun D5 g5 k5 ys5 n5 F5 N5 hb1 hb2 => ?_))
  obtain ⟨m₅, G5, p0, r1, r2, r3, r4, r5⟩ : ∃ m₅, Fr s.heap s.heap.objs.size g5 m₅ ∧ m₅ "script" = some (.ref sc) ∧ m₅ "signs" = some (.ref D1) ∧ m₅ "turns" = some (.ref D2) ∧ m₅ "unseen" = some (.ref D3) ∧ m₅ "alone" = some (.ref D4) ∧ m₅ "begun" = some (.ref D5) :=
    ⟨_, F5, Eq.trans (b := m₀ "script") (by kernel_rfl) q0, by kernel_rfl, by kernel_rfl, by kernel_rfl, by kernel_rfl, by kernel_rfl⟩
  clear F1 F2 F3 F4 F5 N1 N2 N3 N4 F₀ N
  with_reducible refine wpAny_execs_cons (plan_numbers (sc := sc) (items := items) W hA G5 N5 (hl.at fun o e => G5.keep _ o e) hi hsz p0 (fun D6 g6 k6 ys6 n6 F6 N6 hn1 hn2 => ?_))
  generalize htb : ((D6, lstO ys6 n6) :: (D5, lstO ys5 n5) :: (D4, lstO ys4 n4) :: (nb4 ++ (D3, lstO ys3 n3) :: (nb3 ++ (D2, lstO ys2 n2) :: (nb2 ++ (D1, lstO ys1 n1) :: (nb1 ++ []))))) = tb at N6
  have mem1 : ∀ p, p ∈ (D1, lstO ys1 n1) :: nb1 → p ∈ tb := fun p hp => by rw [← htb]; simp only [List.mem_cons, List.mem_append, List.append_nil] at hp ⊢; rcases hp with h | h <;> simp [h]
  have mem2 : ∀ p, p ∈ (D2, lstO ys2 n2) :: nb2 → p ∈ tb := fun p hp => by rw [← htb]; simp only [List.mem_cons, List.mem_append, List.append_nil] at hp ⊢; rcases hp with h | h <;> simp [h]
  have mem3 : ∀ p, p ∈ (D3, lstO ys3 n3) :: nb3 → p ∈ tb := fun p hp => by rw [← htb]; simp only [List.mem_cons, List.mem_append, List.append_nil] at hp ⊢; rcases hp with h | h <;> simp [h]
  have mem4 : ∀ p, p ∈ (D4, lstO ys4 n4) :: nb4 → p ∈ tb := fun p hp => by rw [← htb]; simp only [List.mem_cons, List.mem_append, List.append_nil] at hp ⊢; rcases hp with h | h <;> simp [h]
  have mem5 : (D5, lstO ys5 n5) ∈ tb := by rw [← htb]; exact .tail _ (.head _)
  have mem6 : (D6, lstO ys6 n6) ∈ tb := by rw [← htb]; exact .head _
  clear htb N5
  obtain ⟨m₆, F₆, v1, v2, v3, v4, v5, v6⟩ : ∃ m₆, Fr s.heap s.heap.objs.size g6 m₆ ∧ m₆ "signs" = some (.ref D1) ∧ m₆ "turns" = some (.ref D2) ∧ m₆ "unseen" = some (.ref D3) ∧ m₆ "alone" = some (.ref D4) ∧ m₆ "begun" = some (.ref D5) ∧ m₆ "numbers" = some (.ref D6) :=
    ⟨_, F6, Eq.trans (b := m₅ "signs") (by kernel_rfl) r1, Eq.trans (b := m₅ "turns") (by kernel_rfl) r2, Eq.trans (b := m₅ "unseen") (by kernel_rfl) r3, Eq.trans (b := m₅ "alone") (by kernel_rfl) r4, Eq.trans (b := m₅ "begun") (by kernel_rfl) r5, by kernel_rfl⟩
  clear F6
  dsimp only
  iterate 1 walk1
  conv in stPlan 6 => whnf
  iterate 5 walk1
  rename Heap => g7
  rename Fr _ _ _ _ => F7
  rename News _ _ _ _ => N7
  have dis : ∀ (g : Heap) (l : List (Addr × Obj)) (L : Addr), News s.heap L g l → ∀ p ∈ l, p.1 ≠ g.objs.size := fun g l L N p hp e => absurd (Heap.lt_size (N p hp).1) (e ▸ Nat.lt_irrefl _)
  obtain ⟨rw', hrw⟩ : ∃ r, r = g6.objs.size := ⟨_, rfl⟩
  have x1 : ∀ p ∈ tb, p.1 ≠ rw' := fun p hp => hrw ▸ dis _ _ _ N6 p hp
  obtain ⟨m₇, F₇, N₇, y1, y2⟩ : ∃ m₇, Fr s.heap s.heap.objs.size g7 m₇ ∧ News s.heap s.heap.objs.size g7 ((rw', lstO [] 0) :: tb) ∧ m₇ "row" = some (.ref rw') ∧ (∀ q : Str, q ≠ "row" → m₇ q = m₆ q) := ⟨_, F7, by rw [hrw]; exact N7, by rw [hrw]; kernel_rfl, fun q hq => by show (if q = "row" then _ else m₆ q) = m₆ q; rw [if_neg hq]⟩
  clear F7 N7 N6 F₆
  iterate 1 walk1
  conv in stPlan 7 => whnf
  iterate 5 walk1
  rename Heap => g8
  rename Fr _ _ _ _ => F8
  rename News _ _ _ _ => N8
  obtain ⟨ti, hti⟩ : ∃ r, r = g7.objs.size := ⟨_, rfl⟩
  have x2 : ∀ p ∈ (rw', lstO [] 0) :: tb, p.1 ≠ ti := fun p hp => hti ▸ dis _ _ _ N₇ p hp
  obtain ⟨m₈, F₈, N₈, y3, y4⟩ : ∃ m₈, Fr s.heap s.heap.objs.size g8 m₈ ∧ News s.heap s.heap.objs.size g8 ((ti, lstO [] 0) :: (rw', lstO [] 0) :: tb) ∧ m₈ "ties" = some (.ref ti) ∧ (∀ q : Str, q ≠ "ties" → m₈ q = m₇ q) := ⟨_, F8, by rw [hti]; exact N8, by rw [hti]; kernel_rfl, fun q hq => by show (if q = "ties" then _ else m₇ q) = m₇ q; rw [if_neg hq]⟩
  clear F8 N8 N₇ F₇
  iterate 1 walk1
  conv in stPlan 8 => whnf
  iterate 3 walk1
  rename Heap => g9
  rename Fr _ _ _ _ => F9
  rename Obj => oL
  rename oL.IsDictOf (strKind pw w) _ => dL
  rename (_ == sysModules) = false => sL
  rename News _ _ _ _ => N9
  obtain ⟨le, hle⟩ : ∃ r, r = g8.objs.size := ⟨_, rfl⟩
  rw [← hle] at sL
  have x3 : ∀ p ∈ (ti, lstO [] 0) :: (rw', lstO [] 0) :: tb, p.1 ≠ le := fun p hp => hle ▸ dis _ _ _ N₈ p hp
  obtain ⟨m₉, F₉, N₉, y5, y6⟩ : ∃ m₉, Fr s.heap s.heap.objs.size g9 m₉ ∧ News s.heap s.heap.objs.size g9 ((le, oL) :: (ti, lstO [] 0) :: (rw', lstO [] 0) :: tb) ∧ m₉ "leaves" = some (.ref le) ∧ (∀ q : Str, q ≠ "leaves" → m₉ q = m₈ q) := ⟨_, F9, by rw [hle]; exact N9, by rw [hle]; kernel_rfl, fun q hq => by show (if q = "leaves" then _ else m₈ q) = m₈ q; rw [if_neg hq]⟩
  clear F9 N9 N₈ F₈
  have old : ∀ q : Str, q ≠ "leaves" → q ≠ "ties" → q ≠ "row" → m₉ q = m₆ q := fun q a1 a2 a3 => (y6 q a1).trans ((y4 q a2).trans (y2 q a3))
  have T : Tabs s.heap tb m₉ := ⟨⟨D1, ys1, n1, (old _ (by decide) (by decide) (by decide)).trans v1, mem1 _ (.head _), hA1.imp fun _ _ h => h.more fun p hp => mem1 p (.tail _ hp)⟩,
    ⟨D2, ys2, n2, (old _ (by decide) (by decide) (by decide)).trans v2, mem2 _ (.head _), hA2.imp fun _ _ h => h.more fun p hp => mem2 p (.tail _ hp)⟩,
    ⟨D3, ys3, n3, (old _ (by decide) (by decide) (by decide)).trans v3, mem3 _ (.head _), hA3.imp fun _ _ h => h.more fun p hp => mem3 p (.tail _ hp)⟩,
    ⟨D4, ys4, n4, (old _ (by decide) (by decide) (by decide)).trans v4, mem4 _ (.head _), hA4.imp fun _ _ h => h.more fun p hp => mem4 p (.tail _ hp)⟩,
    ⟨D5, ys5, n5, (old _ (by decide) (by decide) (by decide)).trans v5, mem5, hb1, hb2⟩, ⟨D6, ys6, n6, (old _ (by decide) (by decide) (by decide)).trans v6, mem6, hn2, hn1⟩⟩
  have mr : m₉ "row" = some (.ref rw') := (y6 _ (by decide)).trans ((y4 _ (by decide)).trans y1)
  have mt : m₉ "ties" = some (.ref ti) := (y6 _ (by decide)).trans y3
  have P0 : PlS w m₉ m₉ tb ((rw', lstO [] 0) :: (ti, lstO [] 0) :: (le, oL) :: ([] ++ tb)) 0 rw' ti le := by
    refine ⟨[], [], [], 0, 0, oL, [], ⟨rfl, List.forall_mem_nil _, rfl, .nil, .nil, ⟨_, dL, .nil⟩, fun _ _ => rfl, fun p hp => ?_, fun p hp => ?_, fun p hp => ?_⟩⟩
    · simp only [List.mem_cons, List.nil_append] at hp
      rcases hp with rfl | rfl | hp
      · exact fun e => x2 _ (.head _) e.symm
      · exact fun e => x3 _ (.tail _ (.head _)) e.symm
      · exact x1 p hp
    · simp only [List.mem_cons, List.nil_append] at hp
      rcases hp with rfl | hp
      · exact fun e => x3 _ (.head _) e.symm
      · exact x2 p (.tail _ hp)
    · exact x3 p (.tail _ (.tail _ hp))
  have N10 : News s.heap s.heap.objs.size g9 ((rw', lstO [] 0) :: (ti, lstO [] 0) :: (le, oL) :: ([] ++ tb)) := fun p hp => N₉ p (by
    simp only [List.mem_cons, List.nil_append] at hp ⊢
    rcases hp with h | h | h | h
    · exact .inr (.inr (.inl h))
    · exact .inr (.inl h)
    · exact .inl h
    · exact .inr (.inr (.inr h)))
  clear N₉
  iterate 1 walk1
  conv in stPlan 9 => whnf
  have BR := W.range
  refine for_range (h₀ := s.heap) (n := 6) hA (fun i m' news' => PlS w m₉ m' tb news' i rw' ti le) ?_ ?_ ?_
  · iterate 6 walk1
    refine call_range_1 ?_
    exact ⟨_, _, _, _, _, _, rfl, rfl, Heap.get?_push_size _ rfl, by decide, by decide, m₉, _, F₉.push _, fun p hp => ⟨Heap.get?_push_of_some _ (N10 p hp).1, (N10 p hp).2⟩, P0⟩
  · rintro i u m₁ news₁ s₁ it oi hi6 P hoff hoi F₁ N₁
    refine wpAny_assign_Name (wpAny_storeName_local (by rfl) F₁.ns (fun h2 hn2 hs2 => ?_) (by rfl))
    have F2 := F₁.set hn2 hs2
    have N2 : News s.heap s.heap.objs.size h2 ((it, oi) :: news₁) := N₁.set hs2
    obtain ⟨m₂, F₂, e0, e1⟩ : ∃ m₂, Fr s.heap s.heap.objs.size h2 m₂ ∧ m₂ "k" = some (.int i u) ∧ (∀ q : Str, q ≠ "k" → m₂ q = m₁ q) := ⟨_, F2, by kernel_rfl, fun q hq => by show (if q = "k" then _ else m₁ q) = m₁ q; rw [if_neg hq]⟩
    clear F2 F₁ N₁
    have P2 : PlS w m₉ m₂ tb news₁ i rw' ti le := by
      obtain ⟨ds, ysr, yst, nr, nt, oL, nb, ⟨z1, z2, z3, z4, z5, z6, z7, z8, z9, z10⟩⟩ := P
      exact ⟨ds, ysr, yst, nr, nt, oL, nb, ⟨z1, z2, z3, z4, z5, z6, fun q hq => (e1 q (key_ne hq (by decide))).trans (z7 q hq), z8, z9, z10⟩⟩
    show wpAny _ _ (execs [stBody 0, stBody 1, stBody 2, stBody 3, stBody 4, stBody 5, stBody 6, stBody 7] _) _ _ _
    with_reducible refine plan_turn W hA F₂ N2 hoff hi6 e0 T mr mt y5 sL P2 (fun h3 tk3 m3 news3 F3 N3 hoff3 P3 => ?_)
    exact .intro F3 N3 (fun p hp hq => hoff3 p hp (List.mem_singleton.mp hq)) P3
  · rintro h' tk' m' news' F' N' ⟨ds, ysr, yst, nr, nt, oL', nb, ⟨z1, z2, rfl, z4, z5, z6, z7, z8, z9, z10⟩⟩
    have w1 : m' "row" = some (.ref rw') := (z7 _ (by decide)).trans mr
    have w2 : m' "ties" = some (.ref ti) := (z7 _ (by decide)).trans mt
    have w3 : m' "leaves" = some (.ref le) := (z7 _ (by decide)).trans y5
    show wpAny _ _ _ _ _ _
    iterate 1 walk1
    conv in stPlan 10 => whnf
    iterate 10 walk1
    rename Heap => g11
    rename Fr _ _ _ _ => F11
    rename News _ _ _ _ => N11
    have hlr : ysr.length ≤ 24 := by
      rw [z4.length, List.length_flatMap]
      have := row4_len ds
      omega
    refine add_lists (vs := ysr) (ws := [.int 0 _]) F11 N11 ⟨_, (N11 _ (.tail _ (.head _))).1, rfl, _, rfl⟩ ⟨_, (N11 _ (.head _)).1, rfl, _, rfl⟩ (fun h12 F12 N12 => ?_) (by show ysr.length + 1 ≤ _; exact Nat.le_trans (Nat.add_le_add_right hlr 1) (by decide))
    clear F11 N11
    repeat walk1
    rename Heap => g13
    rename Fr _ _ _ _ => F13
    rename News _ _ _ _ => N13
    have z5' : All2 (EntV s.heap g13) yst ds := z5.imp fun v d h => by
      obtain ⟨p, o, n, its, rfl, hp, hc, hd, t1, t2, t3, rfl⟩ := h
      have hN := N13 _ (.tail _ (.tail _ (.tail _ (.tail _ (.tail _ (.tail _ (List.mem_append_left _ hp)))))))
      exact ⟨p, t1, t2, t3, rfl, hN.2.2, o, hN.1, hc, n, hd⟩
    exact hQ _ _ _ _ ti le ds _ yst.toArray F13.keep (N13 _ (.head _)).2.2 (N13.isTup (.head _)) z1 z2 (N13.isList (.tail _ (.head _))) (by simpa using z4.append (.cons ⟨_, rfl⟩ .nil)) ⟨_, (N13 _ (.tail _ (.tail _ (.tail _ (.tail _ (.head _)))))).1, rfl, _, rfl⟩ (by simpa using z5') ⟨sL, oL', (N13 _ (.tail _ (.tail _ (.tail _ (.tail _ (.tail _ (.head _))))))).1, z6⟩ (N13 _ (.tail _ (.head _))).2.2 (N13 _ (.tail _ (.tail _ (.tail _ (.tail _ (.head _)))))).2.2 (N13 _ (.tail _ (.tail _ (.tail _ (.tail _ (.tail _ (.head _))))))).2.2
end
open PySem PySem.W PyProof.Rows
noncomputable def valI (l : List (Str × Int)) (t : Str) : Int := (getI l t).getD 0
theorem val_putI {l : List (Str × Int)} {k : Str} {n : Int} (hk : k ∈ l.map (·.1)) (x : Str) : valI (putI l k n) x = if x = k then n else valI l x := by
  unfold valI
  rw [putI_old hk]
  induction l with
  | nil => cases hk
  | cons e l ih =>
    unfold getI at *
    rw [List.map_cons, List.find?_cons, List.find?_cons]
    by_cases h1 : e.1 = k
    · rw [if_pos h1]
      by_cases h2 : e.1 = x
      · have h3 : x = k := h2.symm.trans h1
        simp [h2, h3]
      · have h3 : x ≠ k := fun h => h2 (h1.trans h.symm)
        simp only [h2, decide_false]
        rw [if_neg h3]
        by_cases hm : k ∈ l.map (·.1)
        · have := ih hm
          rw [if_neg h3] at this
          exact this
        · congr 2
          clear ih hk
          induction l with
          | nil => rfl
          | cons d l ih2 =>
            rw [List.map_cons, List.mem_cons, not_or] at hm
            rw [List.map_cons, if_neg (fun h => hm.1 h.symm), List.find?_cons, List.find?_cons, ih2 hm.2]
    · rw [if_neg h1]
      have hm : k ∈ l.map (·.1) := by
        rcases List.mem_cons.mp hk with h | h
        · exact absurd h.symm h1
        · exact h
      by_cases h2 : e.1 = x
      · have h3 : x ≠ k := fun h => h1 (h2.trans h)
        simp [h2, h3]
      · simp only [h2, decide_false]
        exact ih hm
theorem val_relax {l : List (Str × Int)} {e : Tie} (hk : l.map (·.1) = tasksL) (hb : e.b ∈ tasksL) (x : Str) : valI (relax l e) x = if x = e.b then min (valI l e.b) (valI l e.a + e.w) else valI l x := by
  unfold relax
  rw [val_putI (by rw [hk]; exact hb)]
  rfl
theorem relax_le {l : List (Str × Int)} {e : Tie} (hk : l.map (·.1) = tasksL) (hb : e.b ∈ tasksL) (x : Str) : valI (relax l e) x ≤ valI l x := by
  rw [val_relax hk hb]
  split
  · next h => subst h; exact Int.min_le_left _ _
  · exact Int.le_refl _
theorem fold_le : ∀ {T : List Tie}, (∀ e ∈ T, e.b ∈ tasksL) → ∀ {l : List (Str × Int)}, l.map (·.1) = tasksL → ∀ x, valI (T.foldl relax l) x ≤ valI l x
  | [], _, _, _, _ => Int.le_refl _
  | e :: T, hb, l, hk, x => by
    rw [List.foldl_cons]
    exact Int.le_trans (fold_le (fun y hy => hb y (.tail _ hy)) (relax_keys hk (hb e (.head _))) x) (relax_le hk (hb e (.head _)) x)
theorem fold_tie : ∀ {T : List Tie}, (∀ e ∈ T, e.b ∈ tasksL) → ∀ {l : List (Str × Int)}, l.map (·.1) = tasksL → ∀ e ∈ T, valI (T.foldl relax l) e.b ≤ valI l e.a + e.w
  | d :: T, hb, l, hk, e, he => by
    have hd := hb d (.head _)
    have hT : ∀ y ∈ T, y.b ∈ tasksL := fun y hy => hb y (.tail _ hy)
    have hk' := relax_keys (e := d) hk hd
    rw [List.foldl_cons]
    rcases List.mem_cons.mp he with rfl | he
    · refine Int.le_trans (fold_le hT hk' _) ?_
      rw [val_relax hk hd, if_pos rfl]
      exact Int.min_le_right _ _
    · refine Int.le_trans (fold_tie hT hk' e he) ?_
      have := relax_le hk hd e.a
      omega
theorem fold_ge {c : Str → Int} : ∀ {T : List Tie}, (∀ e ∈ T, e.b ∈ tasksL) → (∀ e ∈ T, c e.b ≤ c e.a + e.w) → ∀ {l : List (Str × Int)}, l.map (·.1) = tasksL → (∀ t, t ∈ tasksL → c t ≤ valI l t) → (∀ e ∈ T, e.a ∈ tasksL) → ∀ t, t ∈ tasksL → c t ≤ valI (T.foldl relax l) t
  | [], _, _, _, _, h, _, t, ht => h t ht
  | d :: T, hb, hc, l, hk, h, ha, t, ht => by
    have hd := hb d (.head _)
    rw [List.foldl_cons]
    refine fold_ge (fun y hy => hb y (.tail _ hy)) (fun y hy => hc y (.tail _ hy)) (relax_keys hk hd) (fun x hx => ?_) (fun y hy => ha y (.tail _ hy)) t ht
    rw [val_relax hk hd]
    split
    · next e =>
      subst e
      refine Int.le_min.mpr ⟨h _ hx, ?_⟩
      have := hc d (.head _)
      have := h _ (ha d (.head _))
      omega
    · exact h x hx
inductive BReach (B : List (Str × Str)) (t : Str) : Str → Prop
  | base {x : Str} : (t, x) ∈ B → BReach B t x
  | step {y x : Str} : BReach B t y → (y, x) ∈ B → BReach B t x
theorem reach0_mem {B : List (Str × Str)} {t x : Str} : x ∈ reach0 B t ↔ (t, x) ∈ B := by
  unfold reach0
  constructor
  · intro h
    obtain ⟨⟨a, b⟩, he, rfl⟩ := List.mem_map.mp h
    obtain ⟨h1, h2⟩ := List.mem_filter.mp he
    have : a = t := by simpa using h2
    subst this
    exact h1
  · intro h
    exact List.mem_map.mpr ⟨(t, x), List.mem_filter.mpr ⟨h, by simp⟩, rfl⟩
theorem reachK_sound {B : List (Str × Str)} {t : Str} : ∀ {n : Nat} {x : Str}, x ∈ reachK B t n → BReach B t x
  | 0, x, h => .base (reach0_mem.mp h)
  | n + 1, x, h => by
    rcases List.mem_append.mp (show x ∈ reachK B t n ++ reachN B (reachK B t n) from h) with h | h
    · exact reachK_sound h
    · unfold reachN at h
      obtain ⟨⟨a, b⟩, he, rfl⟩ := List.mem_map.mp h
      obtain ⟨h1, h2⟩ := List.mem_filter.mp he
      have h3 : a ∈ reachK B t n := by
        have := (Bool.and_eq_true_iff.mp h2).1
        simpa using this
      exact .step (reachK_sound h3) h1
theorem reachK_more {B : List (Str × Str)} {t : Str} {n : Nat} {x : Str} (h : x ∈ reachK B t n) : x ∈ reachK B t (n + 1) := List.mem_append_left _ h
theorem reachK_next {B : List (Str × Str)} {t : Str} {n : Nat} {x y : Str} (h : x ∈ reachK B t n) (hB : (x, y) ∈ B) : y ∈ reachK B t (n + 1) := by
  by_cases hy : y ∈ reachK B t n
  · exact reachK_more hy
  · refine List.mem_append_right _ ?_
    unfold reachN
    exact List.mem_map.mpr ⟨(x, y), List.mem_filter.mpr ⟨hB, by simp [h, hy]⟩, rfl⟩
theorem bareL_mem {T : List Tie} {a b : Str} : (a, b) ∈ bareL T ↔ ∃ e ∈ T, e.a = a ∧ e.b = b ∧ e.w = 0 := by
  unfold bareL
  constructor
  · intro h
    obtain ⟨e, he, h2⟩ := List.mem_map.mp h
    obtain ⟨h3, h4⟩ := List.mem_filter.mp he
    injection h2 with ha hb
    exact ⟨e, h3, ha, hb, by simpa using h4⟩
  · rintro ⟨e, he, rfl, rfl, hw⟩
    exact List.mem_map.mpr ⟨e, List.mem_filter.mpr ⟨he, by simpa using hw⟩, rfl⟩
theorem Reach.marks {T : List Tie} {Lf c : Str → Int} (hw : ∀ e ∈ T, 0 ≤ e.w) (h : Reach T Lf c) : ∀ e ∈ T, 0 ≤ mk c e := by
  induction h with
  | zero =>
    intro e he
    have := hw e he
    show 0 ≤ e.w + 0 - 0
    omega
  | @step c t _ ht hlt hm ih =>
    intro e he
    have h1 := ih e he
    have h2 := hm e he
    unfold mk bump at *
    by_cases hb : e.b = t <;> by_cases ha : e.a = t <;> simp only [ha, hb, if_true, if_false, true_implies] at * <;> omega
theorem BReach.le {T : List Tie} {c : Str → Int} (hm : ∀ e ∈ T, 0 ≤ mk c e) {t x : Str} (h : BReach (bareL T) t x) : c x ≤ c t := by
  have one : ∀ {a b : Str}, (a, b) ∈ bareL T → c b ≤ c a := fun h => by
    obtain ⟨e, he, rfl, rfl, hw⟩ := bareL_mem.mp h
    have := hm e he
    unfold mk at this
    omega
  induction h with
  | base h => exact one h
  | step _ h ih => exact Int.le_trans (one h) ih
theorem Reach.ring {T : List Tie} {Lf c : Str → Int} (hw : ∀ e ∈ T, 0 ≤ e.w) (h : Reach T Lf c) {t : Str} (hr : BReach (bareL T) t t) : c t = 0 := by
  induction h with
  | zero => rfl
  | @step c x hR _ _ hm ih =>
    unfold bump
    by_cases hx : t = x
    · exfalso
      subst hx
      have hmk := hR.marks hw
      have : ∃ p, (p, t) ∈ bareL T ∧ c p ≤ c t := by
        cases hr with
        | base h => exact ⟨t, h, Int.le_refl _⟩
        | step h1 h2 => exact ⟨_, h2, h1.le hmk⟩
      obtain ⟨p, hp, hle⟩ := this
      obtain ⟨e, he, rfl, rfl, hw0⟩ := bareL_mem.mp hp
      have h1 := hmk e he
      refine hm e he rfl ?_
      unfold mk at *
      omega
    · rw [if_neg hx]; exact ih
theorem least {c : Str → Int} : ∀ l : List Str, l ≠ [] → ∃ x ∈ l, ∀ y ∈ l, c x ≤ c y
  | [x], _ => ⟨x, .head _, fun y hy => by rw [List.mem_singleton.mp hy]; exact Int.le_refl _⟩
  | x :: z :: l, _ => by
    obtain ⟨m, hm, hl⟩ := least (z :: l) (by simp)
    by_cases h : c x ≤ c m
    · refine ⟨x, .head _, fun y hy => ?_⟩
      rcases List.mem_cons.mp hy with rfl | hy
      · exact Int.le_refl _
      · exact Int.le_trans h (hl y hy)
    · refine ⟨m, .tail _ hm, fun y hy => ?_⟩
      rcases List.mem_cons.mp hy with rfl | hy
      · omega
      · exact hl y hy
theorem ring_in {T : List Tie} {c : Str → Int} (hw : ∀ e ∈ T, 0 ≤ e.w) (U : List Str) (hU : ∀ t ∈ U, t ∈ tasksL) (hne : U ≠ []) (hin : ∀ t ∈ U, ∃ e ∈ T, e.b = t ∧ mk c e = 0 ∧ e.a ∈ U) : ∃ t ∈ U, t ∈ reachK (bareL T) t 3 := by
  obtain ⟨x0, hx0, hl⟩ := least (c := c) U hne
  have hf : ∀ t, ∃ p, (t ∈ U ∧ c t = c x0) → (p ∈ U ∧ c p = c x0 ∧ (p, t) ∈ bareL T) := fun t => by
    by_cases h : t ∈ U ∧ c t = c x0
    · obtain ⟨e, he, hb, hm, ha⟩ := hin t h.1
      have h1 := hw e he
      have h2 := hl _ ha
      unfold mk at hm
      rw [hb, h.2] at hm
      exact ⟨e.a, fun _ => ⟨ha, by omega, bareL_mem.mpr ⟨e, he, rfl, hb, by omega⟩⟩⟩
    · exact ⟨t, fun g => absurd g h⟩
  obtain ⟨f, hf⟩ := Classical.axiomOfChoice hf
  apply Classical.byContradiction
  intro hno
  have hno' : ∀ t ∈ U, t ∉ reachK (bareL T) t 3 := fun t ht h => hno ⟨t, ht, h⟩
  have key : ∀ x, (x ∈ U ∧ c x = c x0) → x ≠ f x ∧ x ≠ f (f x) ∧ x ≠ f (f (f x)) ∧ x ≠ f (f (f (f x))) := fun x hx => by
    obtain ⟨a1, a2, a3⟩ := hf x hx
    obtain ⟨b1, b2, b3⟩ := hf _ ⟨a1, a2⟩
    obtain ⟨c1, c2, c3⟩ := hf _ ⟨b1, b2⟩
    obtain ⟨d1, d2, d3⟩ := hf _ ⟨c1, c2⟩
    refine ⟨fun e => ?_, fun e => ?_, fun e => ?_, fun e => ?_⟩
    · rw [← e] at a3
      exact hno' x hx.1 (reachK_more (reachK_more (reachK_more (reach0_mem.mpr a3))))
    · rw [← e] at b3
      exact hno' x hx.1 (reachK_more (reachK_more (reachK_next (n := 0) (reach0_mem.mpr b3) a3)))
    · rw [← e] at c3
      exact hno' x hx.1 (reachK_more (reachK_next (reachK_next (n := 0) (reach0_mem.mpr c3) b3) a3))
    · rw [← e] at d3
      exact hno' x hx.1 (reachK_next (reachK_next (reachK_next (n := 0) (reach0_mem.mpr d3) c3) b3) a3)
  obtain ⟨a1, a2, a3⟩ := hf x0 ⟨hx0, rfl⟩
  obtain ⟨b1, b2, b3⟩ := hf _ ⟨a1, a2⟩
  obtain ⟨c1, c2, c3⟩ := hf _ ⟨b1, b2⟩
  obtain ⟨d1, d2, d3⟩ := hf _ ⟨c1, c2⟩
  have k0 := key x0 ⟨hx0, rfl⟩
  have k1 := key _ ⟨a1, a2⟩
  have k2 := key _ ⟨b1, b2⟩
  have k3 := key _ ⟨c1, c2⟩
  have hnd : [x0, f x0, f (f x0), f (f (f x0)), f (f (f (f x0)))].Nodup := by
    simp only [List.nodup_cons, List.mem_cons, List.not_mem_nil, or_false, not_or, List.nodup_nil, and_true, not_false_eq_true]
    exact ⟨k0, ⟨k1.1, k1.2.1, k1.2.2.1⟩, ⟨k2.1, k2.2.1⟩, k3.1⟩
  have := length_sub _ tasksL hnd (fun y hy => by
    simp only [List.mem_cons, List.not_mem_nil, or_false] at hy
    rcases hy with rfl | rfl | rfl | rfl | rfl
    · exact hU _ hx0
    · exact hU _ a1
    · exact hU _ b1
    · exact hU _ c1
    · exact hU _ d1)
  exact absurd this (show ¬ 5 ≤ 4 by decide)
theorem tasks_nodup : tasksL.Nodup := by decide +kernel
theorem val0 {T : List Tie} {Lf : Str → Int} {t : Str} (ht : t ∈ tasksL) : valI (oftenK T Lf 0) t = oft0 (bareL T) Lf t := by
  unfold valI
  show (getI (tasksL.map fun t => (t, oft0 (bareL T) Lf t)) t).getD 0 = _
  rw [getI_mem (n := oft0 (bareL T) Lf t) (by rw [List.map_map]; simpa [Function.comp_def] using tasks_nodup) (List.mem_map.mpr ⟨t, ht, rfl⟩)]
  rfl
section
variable {T : List Tie} {Lf c : Str → Int}
noncomputable def highL (T : List Tie) (Lf c : Str → Int) (i : Nat) : List Str := tasksL.filter fun t => decide (c t < valI (oftenK T Lf i) t)
theorem high_mem {i : Nat} {t : Str} : t ∈ highL T Lf c i ↔ t ∈ tasksL ∧ c t < valI (oftenK T Lf i) t := by
  unfold highL
  rw [List.mem_filter, decide_eq_true_iff]
theorem often_down (G : GoodT T) (i : Nat) (t : Str) : valI (oftenK T Lf (i + 1)) t ≤ valI (oftenK T Lf i) t := fold_le G.tb (oftenK_keys G Lf i) t
theorem often_down0 (G : GoodT T) : ∀ (i : Nat) (t : Str), valI (oftenK T Lf i) t ≤ valI (oftenK T Lf 0) t
  | 0, _ => Int.le_refl _
  | i + 1, t => Int.le_trans (often_down G i t) (often_down0 G i t)
theorem high_turn (G : GoodT T) (hw : ∀ e ∈ T, 0 ≤ e.w) (hR : Reach T Lf c) (hL : ∀ t, 0 ≤ Lf t) (hend : ∀ t, t ∈ tasksL → ¬ Enabled T Lf c t) (i : Nat) (hne : highL T Lf c i ≠ []) :
    ∃ t ∈ highL T Lf c i, ∃ e ∈ T, e.b = t ∧ mk c e = 0 ∧ e.a ∉ highL T Lf c i := by
  apply Classical.byContradiction
  intro hno
  have hc0 := hR.le hL
  have hin : ∀ t ∈ highL T Lf c i, t ∉ reachK (bareL T) t 3 ∧ ∃ e ∈ T, e.b = t ∧ mk c e = 0 ∧ e.a ∈ highL T Lf c i := fun t ht => by
    obtain ⟨h1, h2⟩ := high_mem.mp ht
    have h3 := often_down0 (Lf := Lf) G i t
    rw [val0 h1] at h3
    have h4 : t ∉ reachK (bareL T) t 3 := fun h => by
      unfold oft0 at h3
      rw [if_pos (by simpa using h)] at h3
      have := (hc0 t).1
      omega
    refine ⟨h4, ?_⟩
    unfold oft0 at h3
    rw [if_neg (by simpa using h4)] at h3
    have h5 := hend t h1
    have h6 : ¬ ∀ e ∈ T, e.b = t → mk c e ≠ 0 := fun h => h5 ⟨by omega, h⟩
    apply Classical.byContradiction
    intro h7
    refine h6 fun e he hb hm => ?_
    by_cases ha : e.a ∈ highL T Lf c i
    · exact h7 ⟨e, he, hb, hm, ha⟩
    · exact hno ⟨t, ht, e, he, hb, hm, ha⟩
  obtain ⟨t, ht, hr⟩ := ring_in hw (highL T Lf c i) (fun t ht => (high_mem.mp ht).1) hne (fun t ht => (hin t ht).2)
  exact (hin t ht).1 hr
theorem high_shrinks (G : GoodT T) (hw : ∀ e ∈ T, 0 ≤ e.w) (hR : Reach T Lf c) (hL : ∀ t, 0 ≤ Lf t) (hend : ∀ t, t ∈ tasksL → ¬ Enabled T Lf c t) (i : Nat) (hne : highL T Lf c i ≠ []) : (highL T Lf c (i + 1)).length < (highL T Lf c i).length := by
  obtain ⟨t, ht, e, he, hb, hm, ha⟩ := high_turn G hw hR hL hend i hne
  have h1 : t ∉ highL T Lf c (i + 1) := fun h => by
    have h2 := (high_mem.mp h).2
    have h3 := fold_tie G.tb (oftenK_keys G Lf i) e he
    have h4 : ¬ c e.a < valI (oftenK T Lf i) e.a := fun h => ha (high_mem.mpr ⟨G.ta e he, h⟩)
    have h5 : valI (oftenK T Lf (i + 1)) e.b ≤ valI (oftenK T Lf i) e.a + e.w := h3
    unfold mk at hm
    rw [hb] at hm h5
    omega
  have h2 : (t :: highL T Lf c (i + 1)).Nodup := List.nodup_cons.mpr ⟨h1, List.Nodup.sublist List.filter_sublist tasks_nodup⟩
  have := length_sub _ (highL T Lf c i) h2 (fun y hy => by
    rcases List.mem_cons.mp hy with rfl | hy
    · exact ht
    · obtain ⟨h3, h4⟩ := high_mem.mp hy
      exact high_mem.mpr ⟨h3, Int.lt_of_lt_of_le h4 (often_down G i y)⟩)
  rw [List.length_cons] at this
  exact this
theorem high_none (G : GoodT T) (hw : ∀ e ∈ T, 0 ≤ e.w) (hR : Reach T Lf c) (hL : ∀ t, 0 ≤ Lf t) (hend : ∀ t, t ∈ tasksL → ¬ Enabled T Lf c t) : highL T Lf c 3 = [] := by
  have h4 : (highL T Lf c 0).length ≤ 4 := List.length_filter_le _ _
  -- not all stand too high at first
  have h0 : (highL T Lf c 0).length ≤ 3 := by
    by_cases hne : highL T Lf c 0 = []
    · rw [hne]; exact Nat.zero_le _
    · obtain ⟨t, ht, e, he, hb, hm, ha⟩ := high_turn G hw hR hL hend 0 hne
      have h2 : (e.a :: highL T Lf c 0).Nodup := List.nodup_cons.mpr ⟨ha, List.Nodup.sublist List.filter_sublist tasks_nodup⟩
      have h3 := length_sub _ tasksL h2 (fun y hy => by
        rcases List.mem_cons.mp hy with rfl | hy
        · exact G.ta e he
        · exact (high_mem.mp hy).1)
      rw [List.length_cons] at h3
      have h5 : tasksL.length = 4 := rfl
      omega
  have stepd : ∀ i, highL T Lf c (i + 1) = [] ∨ (highL T Lf c (i + 1)).length < (highL T Lf c i).length := fun i => by
    by_cases hne : highL T Lf c i = []
    · left
      by_cases h : highL T Lf c (i + 1) = []
      · exact h
      · obtain ⟨y, hy⟩ := List.exists_mem_of_ne_nil _ h
        obtain ⟨h3, h4⟩ := high_mem.mp hy
        have : y ∈ highL T Lf c i := high_mem.mpr ⟨h3, Int.lt_of_lt_of_le h4 (often_down G i y)⟩
        rw [hne] at this
        cases this
    · exact .inr (high_shrinks G hw hR hL hend i hne)
  have z : ∀ i, highL T Lf c i = [] → (highL T Lf c i).length = 0 := fun i h => by rw [h]; rfl
  apply List.eq_nil_of_length_eq_zero
  rcases stepd 0 with h1 | h1 <;> rcases stepd 1 with h2 | h2 <;> rcases stepd 2 with h3 | h3 <;> (try have := z _ h1) <;> (try have := z _ h2) <;> (try have := z _ h3) <;> simp only [Nat.zero_add, Nat.reduceAdd] at * <;> omega
theorem often_end (G : GoodT T) (hw : ∀ e ∈ T, 0 ≤ e.w) (hR : Reach T Lf c) (hL : ∀ t, 0 ≤ Lf t) (hend : ∀ t, t ∈ tasksL → ¬ Enabled T Lf c t) : oftenK T Lf 3 = tasksL.map fun t => (t, c t) := by
  have hc0 := hR.le hL
  have hmk := hR.marks hw
  have low : ∀ i, ∀ t, t ∈ tasksL → c t ≤ valI (oftenK T Lf i) t := fun i => by
    induction i with
    | zero =>
      intro t ht
      rw [val0 ht]
      unfold oft0
      split
      · next h =>
        rw [hR.ring hw (reachK_sound (by simpa using h))]
        exact Int.le_refl _
      · exact (hc0 t).2
    | succ i ih =>
      exact fold_ge G.tb (fun e he => by have := hmk e he; unfold mk at this; omega) (oftenK_keys G Lf i) ih G.ta
  have hv : ∀ t, t ∈ tasksL → valI (oftenK T Lf 3) t = c t := fun t ht => by
    have h1 := low 3 t ht
    have h2 : ¬ c t < valI (oftenK T Lf 3) t := fun h => by
      have : t ∈ highL T Lf c 3 := high_mem.mpr ⟨ht, h⟩
      rw [high_none G hw hR hL hend] at this
      cases this
    omega
  have hk := oftenK_keys G Lf 3
  generalize oftenK T Lf 3 = l at hk hv
  have hnd : (l.map (·.1)).Nodup := by rw [hk]; exact tasks_nodup
  rw [← hk, List.map_map]
  apply List.ext_getElem
  · simp
  · intro i h1 h2
    rw [List.getElem_map]
    have hm : l[i] ∈ l := List.getElem_mem h1
    have ht : l[i].1 ∈ tasksL := hk ▸ List.mem_map.mpr ⟨_, hm, rfl⟩
    have := hv _ ht
    unfold valI at this
    rw [getI_mem hnd (k := l[i].1) (n := l[i].2) hm] at this
    show l[i] = (l[i].1, c l[i].1)
    rw [← this]
    rfl
end
noncomputable def wrOf (f : Int × Int × Int) : Str := (findW f.1.toNat).getD ""
noncomputable def w0Of (f : Int × Int × Int) : Nat := ((seqIndex? 0 (wrOf f).length).bind ((wrOf f).cps[·]?)).getD 0
theorem sg_ok : ∀ e ∈ sgL, 256 ≤ e.1.toNat ∧ e.1.toNat < 1114112 ∧ (e.1.toNat : Int) = e.1 ∧ b1L.contains (e.1.toNat : Int) = false ∧ c8L.contains (e.1.toNat : Int) = false ∧ (c6L.contains (e.1.toNat : Int) || c7L.contains (e.1.toNat : Int) || S16f e.1.toNat) = false ∧
    findB e.1.toNat = some e.2 ∧ e.2 = ⟨#[chAt e.2 0, chAt e.2 1]⟩ ∧ chAt e.2 0 ≠ 126 ∧ chAt e.2 1 ≠ 126 ∧ (⟨#[chAt e.2 0]⟩ : Str) ∈ tasksL ∧ (⟨#[chAt e.2 1]⟩ : Str) ∈ tasksL := by decide +kernel
theorem tu_ok : ∀ f ∈ tuL, 0 < f.1.toNat ∧ f.1.toNat < 256 ∧ (f.1.toNat : Int) = f.1 ∧ findW f.1.toNat = some (wrOf f) ∧ (seqIndex? 0 (wrOf f).length).bind ((wrOf f).cps[·]?) = some (w0Of f) ∧ (wrOf f).length ≤ 10 ∧ ((wrOf f).length : Int) - 1 = f.2.2 ∧
    ((f.2.1 = 0 ∧ w0Of f ≠ 60) ∨ (f.2.1 = 1 ∧ w0Of f = 60)) ∧ 0 ≤ f.2.2 := by decide +kernel
theorem un_ok : ∀ u ∈ unL, 256 ≤ u.1.toNat ∧ u.1.toNat < 1114112 ∧ (u.1.toNat : Int) = u.1 ∧ ((u.2 = 1 ∧ (b1L.contains (u.1.toNat : Int) || c8L.contains (u.1.toNat : Int)) = true) ∨
    (u.2 = 0 ∧ b1L.contains (u.1.toNat : Int) = false ∧ c8L.contains (u.1.toNat : Int) = false ∧ (c6L.contains (u.1.toNat : Int) || c7L.contains (u.1.toNat : Int) || S16f u.1.toNat) = true)) := by decide +kernel
theorem al_ok : ∀ l ∈ alL, 256 ≤ l.1.toNat ∧ l.1.toNat < 1114112 ∧ (l.1.toNat : Int) = l.1 ∧ b1L.contains (l.1.toNat : Int) = false ∧ c8L.contains (l.1.toNat : Int) = false ∧ (c6L.contains (l.1.toNat : Int) || c7L.contains (l.1.toNat : Int) || S16f l.1.toNat) = false ∧
    findB l.1.toNat = some l.2 ∧ l.2.length ≤ 10 ∧ l.2.length ≠ 2 ∧ l.2 ∈ tasksL := by decide +kernel
noncomputable def RdRun (s0 : RS4) (ns : List Nat) (s1 : RS4) : Prop := ∃ f : Nat → RS4, f 0 = s0 ∧ f ns.length = s1 ∧ (∀ i x, ns[i]? = some x → x ≠ 0 ∧ RdStep (f i) x (f (i + 1))) ∧ ∀ i, i ≤ ns.length → GoodS (f i)
theorem RdRun.nil {s0 : RS4} (h : GoodS s0) : RdRun s0 [] s0 := ⟨fun _ => s0, rfl, rfl, fun i x h => by simp at h, fun _ _ => h⟩
theorem RdRun.cons {s0 s1 s2 : RS4} {x : Nat} {ns : List Nat} (hx : x ≠ 0) (h : RdStep s0 x s1) (g : GoodS s0) (r : RdRun s1 ns s2) : RdRun s0 (x :: ns) s2 := by
  obtain ⟨f, h0, h1, h2, h3⟩ := r
  refine ⟨fun i => match i with | 0 => s0 | i + 1 => f i, rfl, h1, fun i y hy => ?_, fun i hi => ?_⟩
  · cases i with
    | zero =>
      obtain rfl : x = y := by simpa using hy
      exact ⟨hx, by show RdStep s0 x (f 0); rw [h0]; exact h⟩
    | succ i => exact h2 i y (by simpa using hy)
  · cases i with
    | zero => exact g
    | succ i => exact h3 i (by simpa using hi)
theorem RdRun.append {s0 s1 s2 : RS4} {l1 l2 : List Nat} (r1 : RdRun s0 l1 s1) (r2 : RdRun s1 l2 s2) : RdRun s0 (l1 ++ l2) s2 := by
  induction l1 generalizing s0 with
  | nil =>
    obtain ⟨f, h0, h1, _, _⟩ := r1
    have : s0 = s1 := h0.symm.trans h1
    subst this
    exact r2
  | cons x l ih =>
    obtain ⟨f, h0, h1, h2, h3⟩ := r1
    have hs := h2 0 x rfl
    have hg := h3 0 (Nat.zero_le _)
    rw [h0] at hs hg
    refine .cons hs.1 hs.2 hg (ih ⟨fun i => f (i + 1), rfl, by simpa using h1, fun i y hy => h2 (i + 1) y (by simpa using hy), fun i hi => h3 (i + 1) (by simpa using hi)⟩)
noncomputable def nmOf (d : Ent) (k : Nat) : Str := ⟨#[chAt d.sg.2 d.tu.2.1, 58, 48 + k, 40, chAt d.sg.2 (1 - d.tu.2.1), 41]⟩
noncomputable def tieOf (k : Nat) (d : Ent) : Tie := ⟨nmOf d k, d.a, d.b, d.w⟩
noncomputable def tiesI : Nat → List Ent → List Tie
  | _, [] => []
  | k, d :: ds => tieOf k d :: tiesI (k + 1) ds
theorem tiesI_append : ∀ (ds es : List Ent) (k : Nat), tiesI k (ds ++ es) = tiesI k ds ++ tiesI (k + ds.length) es
  | [], es, k => rfl
  | d :: ds, es, k => by
    show tieOf k d :: tiesI (k + 1) (ds ++ es) = tieOf k d :: (tiesI (k + 1) ds ++ tiesI (k + (ds.length + 1)) es)
    rw [tiesI_append, show k + (ds.length + 1) = k + 1 + ds.length by omega]
theorem tiesI_length : ∀ (ds : List Ent) (k : Nat), (tiesI k ds).length = ds.length
  | [], _ => rfl
  | _ :: ds, k => congrArg (· + 1) (tiesI_length ds (k + 1))
theorem tiesI_mem : ∀ {ds : List Ent} {k : Nat} {e : Tie}, e ∈ tiesI k ds → ∃ d ∈ ds, ∃ i, k ≤ i ∧ i < k + ds.length ∧ e = tieOf i d
  | d :: ds, k, e, h => by
    rcases List.mem_cons.mp h with rfl | h
    · exact ⟨d, .head _, k, Nat.le_refl _, by simp, rfl⟩
    · obtain ⟨d', h1, i, h2, h3, h4⟩ := tiesI_mem h
      exact ⟨d', .tail _ h1, i, by omega, by simp only [List.length_cons]; omega, h4⟩
theorem nmOf_ne {d d' : Ent} {k k' : Nat} (h : k ≠ k') : nmOf d k ≠ nmOf d' k' := fun e => by
  have := congrArg (fun s : Str => s.cps.getD 2 0) e
  have : 48 + k = 48 + k' := this
  omega
theorem tiesI_nodup : ∀ (ds : List Ent) (k : Nat), ((tiesI k ds).map Tie.nm).Nodup
  | [], _ => List.nodup_nil
  | d :: ds, k => by
    show (nmOf d k :: (tiesI (k + 1) ds).map Tie.nm).Nodup
    refine List.nodup_cons.mpr ⟨fun hc => ?_, tiesI_nodup ds (k + 1)⟩
    obtain ⟨e, he, h⟩ := List.mem_map.mp hc
    obtain ⟨d', _, i, h1, _, rfl⟩ := tiesI_mem he
    exact nmOf_ne (show i ≠ k by omega) h
theorem ent_ab {d : Ent} (h : EntOk d) : d.a ∈ tasksL ∧ d.b ∈ tasksL ∧ 0 ≤ d.w := by
  have h1 := sg_ok _ h.sg
  have h2 := tu_ok _ h.tu
  have h3 := un_ok _ h.un
  unfold Ent.a Ent.b Ent.w
  have hw : 0 ≤ d.un.2 := by rcases h3.2.2.2 with h | h <;> omega
  rcases h2.2.2.2.2.2.2.2.1 with h | h
  · rw [h.1]
    exact ⟨h1.2.2.2.2.2.2.2.2.2.2.1, h1.2.2.2.2.2.2.2.2.2.2.2, by have := h2.2.2.2.2.2.2.2.2; omega⟩
  · rw [h.1]
    exact ⟨h1.2.2.2.2.2.2.2.2.2.2.2, h1.2.2.2.2.2.2.2.2.2.2.1, by have := h2.2.2.2.2.2.2.2.2; omega⟩
theorem good_ties {ds : List Ent} (h : ∀ d ∈ ds, EntOk d) : GoodT (tiesI 0 ds) where
  nodup := tiesI_nodup ds 0
  nm := fun e he => by
    obtain ⟨d, hd, i, _, _, rfl⟩ := tiesI_mem he
    exact ⟨_, _, _, rfl, rfl, rfl⟩
  ta := fun e he => by
    obtain ⟨d, hd, i, _, _, rfl⟩ := tiesI_mem he
    exact (ent_ab (h d hd)).1
  tb := fun e he => by
    obtain ⟨d, hd, i, _, _, rfl⟩ := tiesI_mem he
    exact (ent_ab (h d hd)).2.1
theorem ties_w {ds : List Ent} (h : ∀ d ∈ ds, EntOk d) : ∀ e ∈ tiesI 0 ds, 0 ≤ e.w := fun e he => by
  obtain ⟨d, hd, i, _, _, rfl⟩ := tiesI_mem he
  exact (ent_ab (h d hd)).2.2
theorem nameS_eq {k : Nat} (hk : k < 6) (ca cb : Nat) : nameS ⟨#[ca, cb]⟩ k = ⟨#[ca, 58, 48 + k, 40, cb, 41]⟩ := by
  match k, hk with
  | 0, _ => kernel_rfl
  | 1, _ => kernel_rfl
  | 2, _ => kernel_rfl
  | 3, _ => kernel_rfl
  | 4, _ => kernel_rfl
  | 5, _ => kernel_rfl
noncomputable def M0 (T : List Tie) : List (Str × Int) := T.map fun e => (e.nm, e.w)
theorem M0_marks (T : List Tie) : M0 T = marksAt T fun _ => 0 := by
  unfold M0 marksAt mk
  simp
theorem M0_keys (T : List Tie) : (M0 T).map (·.1) = T.map Tie.nm := by unfold M0; rw [List.map_map]; rfl
theorem lv_keys {l : List (Str × Int)} (hn : (l.map (·.1)).Nodup) (ht : ∀ t ∈ l.map (·.1), t ∈ tasksL) {x : Str} (hx : x ∈ tasksL) (n : Int) : ((putI l x n).map (·.1)).Nodup ∧ ∀ t ∈ (putI l x n).map (·.1), t ∈ tasksL := by
  by_cases h : x ∈ l.map (·.1)
  · rw [keys_putI_old h]; exact ⟨hn, ht⟩
  · rw [putI_new h, List.map_append]
    refine ⟨List.nodup_append.mpr ⟨hn, by simp, fun a ha b hb e => ?_⟩, fun t h => ?_⟩
    · rw [List.mem_singleton.mp hb] at e
      have e : a = x := e
      exact h (e ▸ ha)
    · rcases List.mem_append.mp h with h | h
      · exact ht t h
      · rw [List.mem_singleton.mp h]; exact hx
noncomputable def rowN (d : Ent) : List Nat := [d.sg.1.toNat, d.tu.1.toNat, d.un.1.toNat, d.al.1.toNat]
theorem read_ent {d : Ent} (hd : EntOk d) {pre : List Ent} (hk : pre.length < 6) {Lv : List (Str × Int)} (hn : (Lv.map (·.1)).Nodup) (ht : ∀ t ∈ Lv.map (·.1), t ∈ tasksL) (p q : Str) :
    ∃ p' q', RdRun ⟨M0 (tiesI 0 pre), Lv, p, q⟩ (rowN d) ⟨M0 (tiesI 0 (pre ++ [d])), lvStep Lv d, p', q'⟩ := by
  obtain ⟨a1, a2, a3, a4, a5, a6, a7, a8, a9, a10, _⟩ := sg_ok _ hd.sg
  obtain ⟨b1, b2, b3, b4, b5, b6, b7, b8, _⟩ := tu_ok _ hd.tu
  obtain ⟨c1, c2, c3, c4⟩ := un_ok _ hd.un
  obtain ⟨e1, e2, e3, e4, e5, e6, e7, e8, e9, e10⟩ := al_ok _ hd.al
  have hlen : (M0 (tiesI 0 pre)).length = pre.length := by unfold M0; rw [List.length_map, tiesI_length]
  have hMn : ((M0 (tiesI 0 pre)).map (·.1)).Nodup := by rw [M0_keys]; exact tiesI_nodup pre 0
  have hLl : ∀ {l : List (Str × Int)}, (l.map (·.1)).Nodup → (∀ t ∈ l.map (·.1), t ∈ tasksL) → l.length ≤ 100 := fun {l} h1 h2 => by
    have := length_sub _ tasksL h1 h2
    rw [List.length_map] at this
    exact Nat.le_trans this (by decide)
  have hnm : nameS (if w0Of d.tu = 60 then revS d.sg.2 else d.sg.2) (M0 (tiesI 0 pre)).length = nmOf d pre.length := by
    rw [hlen, a8]
    unfold nmOf
    rcases b8 with ⟨h1, h2⟩ | ⟨h1, h2⟩
    · rw [if_neg h2, nameS_eq hk, h1]; rfl
    · rw [if_pos h2, show revS ⟨#[chAt d.sg.2 0, chAt d.sg.2 1]⟩ = ⟨#[chAt d.sg.2 1, chAt d.sg.2 0]⟩ from rfl, nameS_eq hk, h1]; rfl
  have hnew : nmOf d pre.length ∉ (M0 (tiesI 0 pre)).map (·.1) := fun hc => by
    rw [M0_keys] at hc
    obtain ⟨e, he, h⟩ := List.mem_map.mp hc
    obtain ⟨d', _, i, _, h1, rfl⟩ := tiesI_mem he
    exact nmOf_ne (show i ≠ pre.length by omega) h
  have g0 : ∀ p q, GoodS ⟨M0 (tiesI 0 pre), Lv, p, q⟩ := fun p q => ⟨hMn, by show (M0 _).length ≤ 100; omega, hn, hLl hn ht⟩
  -- the table after the operator
  let T1 : List Tie := tiesI 0 pre ++ [⟨nmOf d pre.length, d.a, d.b, d.tu.2.2⟩]
  have hT1n : (T1.map Tie.nm).Nodup := by
    rw [List.map_append]
    refine List.nodup_append.mpr ⟨tiesI_nodup pre 0, by simp, fun a ha b hb e => ?_⟩
    rw [List.mem_singleton.mp hb] at e
    rw [M0_keys] at hnew
    have e : a = nmOf d pre.length := e
    exact hnew (e ▸ ha)
  have hadd : addI (M0 (tiesI 0 pre)) [(nmOf d pre.length, d.tu.2.2)] = M0 T1 := by
    unfold addI
    rw [List.foldl_cons, List.foldl_nil, getI_none hnew, putI_new hnew]
    show M0 (tiesI 0 pre) ++ [(_, (0 : Int) + d.tu.2.2)] = _
    rw [Int.zero_add]
    show _ = (tiesI 0 pre ++ [_]).map _
    rw [List.map_append]
    rfl
  have hT1l : (M0 T1).length = pre.length + 1 := by
    unfold M0
    rw [List.length_map]
    show (tiesI 0 pre ++ [_]).length = _
    rw [List.length_append, tiesI_length]; rfl
  have g1 : ∀ p q, GoodS ⟨M0 T1, Lv, p, q⟩ := fun p q => ⟨by rw [M0_keys]; exact hT1n, by show (M0 _).length ≤ 100; omega, hn, hLl hn ht⟩
  have hT2 : tiesI 0 (pre ++ [d]) = tiesI 0 pre ++ [⟨nmOf d pre.length, d.a, d.b, d.w⟩] := by
    rw [tiesI_append, Nat.zero_add]; rfl
  have hlast : RdStep ⟨M0 (tiesI 0 (pre ++ [d])), Lv, d.sg.2, nmOf d pre.length⟩ d.al.1.toNat ⟨M0 (tiesI 0 (pre ++ [d])), lvStep Lv d, d.sg.2, nmOf d pre.length⟩ := .leaf e1 e2 e4 e5 e6 e7 e8 e9
  have hlk := lv_keys hn ht e10 ((getI Lv d.al.2).getD 0 + 1)
  have g2l : (M0 (tiesI 0 (pre ++ [d]))).length ≤ 100 := by
    unfold M0
    rw [List.length_map, tiesI_length, List.length_append, List.length_singleton]; omega
  have g2n : ((M0 (tiesI 0 (pre ++ [d]))).map (·.1)).Nodup := by rw [M0_keys]; exact tiesI_nodup _ 0
  have g2 : GoodS ⟨M0 (tiesI 0 (pre ++ [d])), Lv, d.sg.2, nmOf d pre.length⟩ := ⟨g2n, g2l, hn, hLl hn ht⟩
  have g3 : GoodS ⟨M0 (tiesI 0 (pre ++ [d])), lvStep Lv d, d.sg.2, nmOf d pre.length⟩ := ⟨g2n, g2l, hlk.1, hLl hlk.1 hlk.2⟩
  have hstray : RdStep ⟨M0 T1, Lv, d.sg.2, nmOf d pre.length⟩ d.un.1.toNat ⟨M0 (tiesI 0 (pre ++ [d])), Lv, d.sg.2, nmOf d pre.length⟩ := by
    rcases c4 with ⟨h1, h2⟩ | ⟨h1, h2, h3, h4⟩
    · have := RdStep.mark (st := ⟨M0 T1, Lv, d.sg.2, nmOf d pre.length⟩) c1 c2 h2
      have e : addI (M0 T1) [(nmOf d pre.length, 1)] = M0 (tiesI 0 (pre ++ [d])) := by
        have := addI_at Tie.nm T1 hT1n 1 [nmOf d pre.length] (fun e => e.w) (by simp) (fun x hx => by
          rw [List.mem_singleton.mp hx]
          exact List.mem_map.mpr ⟨_, List.mem_append_right _ (.head _), rfl⟩)
        show addI (T1.map fun e => (e.nm, e.w)) ([nmOf d pre.length].map fun x => (x, 1)) = _
        rw [this, hT2]
        show (tiesI 0 pre ++ [_]).map _ = (tiesI 0 pre ++ [_]).map _
        rw [List.map_append, List.map_append]
        congr 1
        · apply List.map_congr_left
          intro e he
          have hne : e.nm ∉ [nmOf d pre.length] := fun h => hnew (by rw [M0_keys]; exact List.mem_map.mpr ⟨e, he, List.mem_singleton.mp h⟩)
          rw [if_neg hne]
        · show [(_, if _ then _ else _)] = _
          rw [if_pos (.head _)]
          show [(_, d.tu.2.2 + 1)] = [(_, d.tu.2.2 + d.un.2)]
          rw [h1]
      rw [show (RS4.M ⟨M0 T1, Lv, d.sg.2, nmOf d pre.length⟩) = M0 T1 from rfl] at this
      rw [← e]
      exact this
    · have e : M0 (tiesI 0 (pre ++ [d])) = M0 T1 := by
        rw [hT2]
        show (tiesI 0 pre ++ [_]).map _ = (tiesI 0 pre ++ [_]).map _
        rw [List.map_append, List.map_append]
        congr 1
        show [(_, d.tu.2.2 + d.un.2)] = [(_, d.tu.2.2)]
        rw [h1, Int.add_zero]
      rw [e]
      exact .none c1 c2 h2 h3 h4
  have htie : RdStep ⟨M0 (tiesI 0 pre), Lv, d.sg.2, q⟩ d.tu.1.toNat ⟨M0 T1, Lv, d.sg.2, nmOf d pre.length⟩ := by
    have := RdStep.tie (st := ⟨M0 (tiesI 0 pre), Lv, d.sg.2, q⟩) b1 b2 b4 b5 b6 a8 a9 a10
    simp only [hnm, b7, hadd] at this
    exact this
  refine ⟨d.sg.2, nmOf d pre.length, ?_⟩
  unfold rowN
  refine .cons (by omega) (.pair a1 a2 a4 a5 a6 a7 (by rw [a8]; rfl)) (g0 _ _) ?_
  refine .cons (by omega) htie (g0 _ _) ?_
  refine .cons (by omega) hstray (g1 _ _) ?_
  exact .cons (by omega) hlast g2 (.nil g3)
theorem read_all : ∀ (ds : List Ent), (∀ d ∈ ds, EntOk d) → ∀ (pre : List Ent) (Lv : List (Str × Int)) (p q : Str), pre.length + ds.length ≤ 6 → (Lv.map (·.1)).Nodup → (∀ t ∈ Lv.map (·.1), t ∈ tasksL) →
    ∃ p' q', RdRun ⟨M0 (tiesI 0 pre), Lv, p, q⟩ (ds.flatMap rowN) ⟨M0 (tiesI 0 (pre ++ ds)), ds.foldl lvStep Lv, p', q'⟩
  | [], _, pre, Lv, p, q, hl, hn, ht => by
    refine ⟨p, q, ?_⟩
    rw [List.append_nil]
    refine .nil ⟨by rw [M0_keys]; exact tiesI_nodup pre 0, ?_, hn, ?_⟩
    · show (M0 _).length ≤ 100
      unfold M0
      rw [List.length_map, tiesI_length]; simp only [List.length_nil] at hl; omega
    · have := length_sub _ tasksL hn ht
      rw [List.length_map] at this
      exact Nat.le_trans this (by decide)
  | d :: ds, h, pre, Lv, p, q, hl, hn, ht => by
    simp only [List.length_cons] at hl
    obtain ⟨p1, q1, r1⟩ := read_ent (h d (.head _)) (pre := pre) (by omega) hn ht p q
    have hlk := lv_keys hn ht (al_ok _ (h d (.head _)).al).2.2.2.2.2.2.2.2.2 ((getI Lv d.al.2).getD 0 + 1)
    obtain ⟨p2, q2, r2⟩ := read_all ds (fun x hx => h x (.tail _ hx)) (pre ++ [d]) (lvStep Lv d) p1 q1 (by rw [List.length_append, List.length_singleton]; omega) hlk.1 hlk.2
    rw [List.append_assoc] at r2
    exact ⟨p2, q2, r1.append r2⟩
theorem lv_good : ∀ (ds : List Ent), (∀ d ∈ ds, EntOk d) → ∀ (Lv : List (Str × Int)), (Lv.map (·.1)).Nodup → (∀ t ∈ Lv.map (·.1), t ∈ tasksL) → (∀ t, 0 ≤ valI Lv t) → ((ds.foldl lvStep Lv).map (·.1)).Nodup ∧ (∀ t ∈ (ds.foldl lvStep Lv).map (·.1), t ∈ tasksL) ∧ ∀ t, 0 ≤ valI (ds.foldl lvStep Lv) t
  | [], _, _, hn, ht, hv => ⟨hn, ht, hv⟩
  | d :: ds, h, Lv, hn, ht, hv => by
    have hlk := lv_keys hn ht (al_ok _ (h d (.head _)).al).2.2.2.2.2.2.2.2.2 ((getI Lv d.al.2).getD 0 + 1)
    refine lv_good ds (fun x hx => h x (.tail _ hx)) _ hlk.1 hlk.2 (fun t => ?_)
    have hd := hv d.al.2
    unfold valI at hd
    by_cases hm : d.al.2 ∈ Lv.map (·.1)
    · rw [show lvStep Lv d = putI Lv d.al.2 ((getI Lv d.al.2).getD 0 + 1) from rfl, val_putI hm]
      split
      · omega
      · exact hv t
    · rw [show lvStep Lv d = putI Lv d.al.2 ((getI Lv d.al.2).getD 0 + 1) from rfl, putI_new hm]
      have h0 := hv t
      unfold valI getI at h0 ⊢
      rw [List.find?_append]
      cases hf : Lv.find? (fun kv => decide (kv.1 = t)) with
      | some x => rw [hf] at h0; exact h0
      | none =>
        rw [Option.none_or, List.find?_singleton]
        split
        · show 0 ≤ (getI Lv d.al.2).getD 0 + 1
          omega
        · exact Int.le_refl _
theorem row_nat {ds : List Ent} (h : ∀ d ∈ ds, EntOk d) : ds.flatMap row4 = (ds.flatMap rowN).map fun n : Nat => (n : Int) := by
  induction ds with
  | nil => rfl
  | cons d ds ih =>
    rw [List.flatMap_cons, List.flatMap_cons, List.map_append, ih fun x hx => h x (.tail _ hx)]
    congr 1
    have hd := h d (.head _)
    unfold row4 rowN
    simp only [List.map_cons, List.map_nil, (sg_ok _ hd.sg).2.2.1, (tu_ok _ hd.tu).2.2.1, (un_ok _ hd.un).2.2.1, (al_ok _ hd.al).2.2.1]
section
variable {w : World} {A : Around} {s : Shared}
noncomputable def EqIn (w : World) (A : Around) (s : Shared) (y x : Value) : Prop := ∀ (E : Value → Shared → Prop) (Q : Bool → Shared → Prop), Q true s → wpAny (model pw w) A (eqBool y x) Q E s
noncomputable def RcIn (w : World) (A : Around) (s : Shared) (y x : Value) : Prop := ∀ (E : Value → Shared → Prop) (Q : Value → Shared → Prop), Q (.bool true) s → wpAny (model pw w) A (richCompare .Eq y x) Q E s
theorem EqIn.int {n : Int} {t u : Tok} : EqIn w A s (.int n t) (.int n u) := fun E Q h => (SeqAt.EqAt.int_int n t n u) pw w E Q (by rw [show (n == n) = true by simp]; exact h)
theorem EqIn.of_refs {l b : Addr} (h : RcIn w A s (.ref l) (.ref b)) : EqIn w A s (.ref l) (.ref b) := fun E Q hq => by
  unfold eqBool
  refine wpAny_holding ?_
  refine wpAny_ite_split (fun _ => ?_) (fun _ => ?_)
  · exact wpAny_bind (wpAny_rule (wpAny_pure hq))
  · exact wpAny_bind (h E _ (wpAny_truthy_bool hq))
theorem tup_eq {l b : Addr} {items items2 : Array Value} (hl : IsTup s.heap l items) (hb : IsTup s.heap b items2) (hu : A.units < cLine) (hs : items.size = items2.size)
    (he : ∀ p ∈ items.toList.zip items2.toList, EqIn w A.in1 s p.1 p.2) : RcIn w A s (.ref l) (.ref b) := fun E Q h => by
  obtain ⟨⟨cls, dd, data, sl⟩, ho, hc, n, hd⟩ := id hl
  obtain ⟨⟨cls2, dd2, data2, sl2⟩, ho2, hc2, n2, hd2⟩ := id hb
  simp only at hc hd hc2 hd2
  subst hc hd hc2 hd2
  refine wpAny_richCompare_same_room (op := .Eq) ⟨_, ho, rfl⟩ ⟨_, ho2, rfl⟩ F.slot_tuple_eq (wpAny_call_entry F.slot_tuple_eq ⟨_, ho, rfl⟩ F.entry_tuple_eq ?_ (F.args_tuple_eq_2 _ _)) hu
  have f2 := AutoSeq1.sub_tuple_tuple
  obtain ⟨hp, g, d, tk, os⟩ := s
  wp_walk using wpAny_loadPart' ho, wpAny_loadPart' ho2, wpAny_forIn_list _ (fun rest b s' => b.1 = none ∧ s' = ⟨hp, g, d, tk, os⟩ ∧ ∀ p ∈ rest, EqIn w A.in1 ⟨hp, g, d, tk, os⟩ p.1 p.2) _
  case turn =>
    rintro ⟨y, x⟩ rest b s' ⟨hb', rfl, hR⟩
    refine wpAny_bind (hR _ (.head _) _ _ ?_)
    wp_walk
    exact ⟨rfl, rfl, fun p hp => hR p (.tail _ hp)⟩
  case fin =>
    rintro ⟨b1, b2⟩ s' ⟨hb', rfl, hR⟩
    simp only at hb'
    subst hb'
    wp_walk
    exact ⟨_, rfl, (by unfold Builtin.Tuple.tupleCompareSizes; exact fun x => Value.noConfusion x), by simpa [Builtin.Tuple.tupleCompareSizes, hs] using h⟩
  case h => exact ⟨rfl, rfl, he⟩
theorem tup_ne {l b : Addr} {items items2 : Array Value} {E : Value → Shared → Prop} {Q : Value → Shared → Prop} (hl : IsTup s.heap l items) (hb : IsTup s.heap b items2) (hu : A.units < cLine) (hs : items.size = items2.size)
    (he : ∀ p ∈ items.toList.zip items2.toList, EqIn w A.in1 s p.1 p.2) (h : Q (.bool false) s) : wpAny (model pw w) A (compareOp .NotEq (.ref l) (.ref b)) Q E s := by
  obtain ⟨⟨cls, dd, data, sl⟩, ho, hc, n, hd⟩ := id hl
  obtain ⟨⟨cls2, dd2, data2, sl2⟩, ho2, hc2, n2, hd2⟩ := id hb
  simp only at hc hd hc2 hd2
  subst hc hd hc2 hd2
  refine wpAny_richCompare_same_room (op := .NotEq) ⟨_, ho, rfl⟩ ⟨_, ho2, rfl⟩ F.slot_tuple_ne (wpAny_call_entry F.slot_tuple_ne ⟨_, ho, rfl⟩ F.entry_tuple_ne ?_ (F.args_tuple_ne_2 _ _)) hu
  have f2 := AutoSeq1.sub_tuple_tuple
  obtain ⟨hp, g, d, tk, os⟩ := s
  wp_walk using wpAny_loadPart' ho, wpAny_loadPart' ho2, wpAny_forIn_list _ (fun rest b s' => b.1 = none ∧ s' = ⟨hp, g, d, tk, os⟩ ∧ ∀ p ∈ rest, EqIn w A.in1 ⟨hp, g, d, tk, os⟩ p.1 p.2) _
  case turn =>
    rintro ⟨y, x⟩ rest b s' ⟨hb', rfl, hR⟩
    refine wpAny_bind (hR _ (.head _) _ _ ?_)
    wp_walk
    exact ⟨rfl, rfl, fun p hp => hR p (.tail _ hp)⟩
  case fin =>
    rintro ⟨b1, b2⟩ s' ⟨hb', rfl, hR⟩
    simp only at hb'
    subst hb'
    wp_walk
    exact ⟨_, rfl, (by unfold Builtin.Tuple.tupleCompareSizes; exact fun x => Value.noConfusion x), by simpa [Builtin.Tuple.tupleCompareSizes, hs, bne] using h⟩
  case h => exact ⟨rfl, rfl, he⟩
structure SameD (l1 l2 : List (Str × Int)) : Prop where
  len : l1.length = l2.length
  get : ∀ e ∈ l1, getI l2 e.1 = some e.2
theorem SameD.hits {kb : List (Str × Value)} {l2 : List (Str × Int)} (hb : All2 IntP kb l2) : ∀ {ka : List (Str × Value)} {l1 : List (Str × Int)}, All2 IntP ka l1 → (∀ e ∈ l1, getI l2 e.1 = some e.2) → KeqHits A s kb ka true := by
  intro ka l1 ha
  induction ha with
  | nil => intro _; exact .nil
  | @cons p e ka l1 hp _ ih =>
    intro hg
    obtain ⟨h1, t, h2⟩ := hp
    obtain ⟨k, v⟩ := p
    obtain rfl : k = e.1 := h1
    obtain rfl : v = .int e.2 t := h2
    have hge := hg e (.head _)
    rcases IntP.get hb e.1 with ⟨hn, _⟩ | ⟨n, u, hn, hv⟩
    · rw [hn] at hge; cases hge
    · rw [hn] at hge
      obtain rfl : n = e.2 := Option.some.inj hge
      have he := SeqAt.EqAt.int_int (A := A) (s := s) e.2 t e.2 u
      have hh := KeqHits.hit (r := ka) hv he (ih fun x hx => hg x (.tail _ hx))
      simpa using hh
theorem dict_eq {a b : Addr} {l1 l2 : List (Str × Int)} (D1 : DI w s.heap a l1) (D2 : DI w s.heap b l2) (hS : SameD l1 l2) (hu : A.units < cLine) : RcIn w A s (.ref a) (.ref b) := fun E Q h => by
  obtain ⟨ka, da, fa⟩ := D1.dictOf
  obtain ⟨kb, db, fb⟩ := D2.dictOf
  refine keq_eq D1.1 D2.1 da db hu (fun _ => SameD.hits fb fa hS.get) ?_
  rw [fa.length, fb.length, hS.len, beq_self_eq_true]; exact h
theorem dict_ne {a b : Addr} {l1 l2 : List (Str × Int)} {E : Value → Shared → Prop} {Q : Value → Shared → Prop} (D1 : DI w s.heap a l1) (D2 : DI w s.heap b l2) (hS : SameD l1 l2) (hu : A.units < cLine) (h : Q (.bool false) s) :
    wpAny (model pw w) A (compareOp .NotEq (.ref a) (.ref b)) Q E s := by
  obtain ⟨ka, da, fa⟩ := D1.dictOf
  obtain ⟨kb, db, fb⟩ := D2.dictOf
  refine keq_ne D1.1 D2.1 da db hu (fun _ => SameD.hits fb fa hS.get) ?_
  rw [fa.length, fb.length, hS.len, beq_self_eq_true]; exact h
theorem SameD.refl {l : List (Str × Int)} (h : (l.map (·.1)).Nodup) : SameD l l := ⟨rfl, fun _ he => getI_mem h he⟩
theorem res_ne {r r2 bk bk2 dk dk2 mk mk2 : Addr} {k1 k2 k3 k4 : Int} {t1 t2 t3 t4 u1 u2 u3 u4 : Tok} {C C2 M M2 : List (Str × Int)} {E : Value → Shared → Prop} {Q : Value → Shared → Prop}
    (h1 : IsTup s.heap r #[.ref bk, .ref mk]) (h2 : IsTup s.heap r2 #[.ref bk2, .ref mk2]) (h3 : IsTup s.heap bk #[.int k1 t1, .int k2 t2, .int k3 t3, .int k4 t4, .ref dk]) (h4 : IsTup s.heap bk2 #[.int k1 u1, .int k2 u2, .int k3 u3, .int k4 u4, .ref dk2])
    (d1 : DI w s.heap dk C) (d2 : DI w s.heap dk2 C2) (d3 : DI w s.heap mk M) (d4 : DI w s.heap mk2 M2) (hC : SameD C C2) (hM : SameD M M2) (hu : A.units < cLine) (hu1 : A.in1.units < cLine) (hu2 : A.in1.in1.units < cLine) (h : Q (.bool false) s) :
    wpAny (model pw w) A (compareOp .NotEq (.ref r) (.ref r2)) Q E s := by
  refine tup_ne h1 h2 hu rfl (fun p hp => ?_) h
  rcases List.mem_cons.mp hp with rfl | hp
  · refine EqIn.of_refs (tup_eq h3 h4 hu1 rfl (fun p hp => ?_))
    rcases List.mem_cons.mp hp with rfl | hp
    · exact EqIn.int
    rcases List.mem_cons.mp hp with rfl | hp
    · exact EqIn.int
    rcases List.mem_cons.mp hp with rfl | hp
    · exact EqIn.int
    rcases List.mem_cons.mp hp with rfl | hp
    · exact EqIn.int
    rw [List.mem_singleton.mp hp]
    exact EqIn.of_refs (dict_eq d1 d2 hC hu2)
  · rw [List.mem_singleton.mp hp]
    exact EqIn.of_refs (dict_eq d3 d4 hM hu1)
end
end Mine
namespace Mine
open PySem PySem.W PyProof.Rows PySem.Calls PySem.Spec PyProof.V
local macro_rules | `(tactic| walk_at "eval Name") => `(tactic| first
  | ((with_reducible refine inComp ?_); first | (name_kind "local"; refine ldK (by assumption) (by rfl) ?_) | (name_kind "cell" "free"; refine ldKC (by assumption) (by rfl) (by assumption) ?_))
  | ((with_reducible refine inCells ?_); first | (name_kind "local"; first | refine ldLoc (by assumption) (by rfl) ?_ | refine ldLoc (by assumption) (by assumption) ?_) | (name_kind "cell"; (rename News _ _ _ _ => N'); with_unfolding_all refine ldCN N' rfl (by news_mem) (by assumption) ?_) | (name_kind "globalImplicit"; first | refine ldBC (by assumption) (by assumption) (by assumption) ?_ | refine ldWC (by assumption) (by assumption) (by assumption) ?_)))
local macro_rules | `(tactic| walk_at "eval Nothing") => `(tactic| fail)
noncomputable def stLaw (i : Nat) : Stmt := (((defAt 78 "law").body)[i]?).getD (.Pass default)
noncomputable def scLaw : Scope := { kind := .function, names := [("script", .local), ("row", .local), ("ties", .cell), ("leaves", .local), ("marks", .local), ("allowed", .local), ("names", .cell), ("often", .cell), ("left", .local), ("taken", .local), ("put", .local), ("done", .local), ("due", .local), ("turn", .local), ("order", .local), ("first", .local), ("second", .local), ("book", .local), ("rest", .local), ("_law_plan", .globalImplicit), ("_law_read", .globalImplicit), ("range", .globalImplicit), ("_law_often", .globalImplicit), ("sum", .globalImplicit), ("_law_run", .globalImplicit), ("count_calls", .globalImplicit)], isGenerator := false, isCoroutine := false, more := (defAt 78 "law").scope.more }
theorem scLaw_eq : (defAt 78 "law").scope = scLaw := by kernel_rfl
theorem rec78 : defAt 78 "law" ∈ recsOf qV := rec_of (by kernel_rfl)
theorem cells_law (L : Addr) : cellsFrom (L + 1) scLaw.names [] = [(("often" : Str), L + 3), (("names" : Str), L + 2), (("ties" : Str), L + 1)] := rfl
noncomputable def NoCell (l : List (Addr × Obj)) : Prop := ∀ p ∈ l, ∀ v, p.2.data ≠ .cell v
section
variable {w : World} {mean : ExcName → Option Value} {mg mb : Str → Option Value} {A : Around} {s : Shared} {E : Value → Shared → Prop}
section
variable {h₀ : Heap} {L a : Addr} {nm : Str} {cd v : Value} {m : Str → Option Value} {rest : List (Addr × Obj)} {oT oN oO : Obj} {v0 : Option Value} {Q : Unit → Shared → Prop}
theorem st_ties (F : Fr h₀ L s.heap m) (N : News h₀ L s.heap ((L + 1, oT) :: (L + 2, oN) :: (L + 3, oO) :: rest)) (cT : oT.data = .cell v0) (hr : NoCell rest)
    (h : ∀ h' oT', Fr h₀ L h' m → News h₀ L h' ((L + 1, oT') :: (L + 2, oN) :: (L + 3, oO) :: rest) → oT'.data = .cell (some v) → Q () { s with heap := h' }) : wpAny (model pw w) A (storeName (envOfC nm scLaw L a cd) "ties" v) Q E s := by
  refine store_cell (l1 := []) (c := L + 1) F N cT (by rw [cells_law]; rfl) (fun _ h => nomatch h) (fun p hp => ?_) h
  rcases List.mem_cons.mp hp with rfl | hp
  · exact .inl (Nat.ne_of_gt (Nat.lt_succ_self _))
  rcases List.mem_cons.mp hp with rfl | hp
  · exact .inl (Nat.ne_of_gt (Nat.lt_of_lt_of_le (Nat.lt_succ_self _) (Nat.le_succ _)))
  exact .inr (hr p hp)
theorem st_names (F : Fr h₀ L s.heap m) (N : News h₀ L s.heap ((L + 1, oT) :: (L + 2, oN) :: (L + 3, oO) :: rest)) (cN : oN.data = .cell v0) (hr : NoCell rest)
    (h : ∀ h' oN', Fr h₀ L h' m → News h₀ L h' ((L + 1, oT) :: (L + 2, oN') :: (L + 3, oO) :: rest) → oN'.data = .cell (some v) → Q () { s with heap := h' }) : wpAny (model pw w) A (storeName (envOfC nm scLaw L a cd) "names" v) Q E s := by
  refine store_cell (l1 := [(L + 1, oT)]) (c := L + 2) F N cN (by rw [cells_law]; rfl) (fun p hp => ?_) (fun p hp => ?_) h
  · rw [List.mem_singleton.mp hp]; exact .inl (Nat.ne_of_lt (Nat.lt_succ_self _))
  rcases List.mem_cons.mp hp with rfl | hp
  · exact .inl (Nat.ne_of_gt (Nat.lt_succ_self _))
  exact .inr (hr p hp)
theorem st_often (F : Fr h₀ L s.heap m) (N : News h₀ L s.heap ((L + 1, oT) :: (L + 2, oN) :: (L + 3, oO) :: rest)) (cO : oO.data = .cell v0) (hr : NoCell rest)
    (h : ∀ h' oO', Fr h₀ L h' m → News h₀ L h' ((L + 1, oT) :: (L + 2, oN) :: (L + 3, oO') :: rest) → oO'.data = .cell (some v) → Q () { s with heap := h' }) : wpAny (model pw w) A (storeName (envOfC nm scLaw L a cd) "often" v) Q E s := by
  refine store_cell (l1 := [(L + 1, oT), (L + 2, oN)]) (c := L + 3) F N cO (by rw [cells_law]; rfl) (fun p hp => ?_) (fun p hp => ?_) h
  · rcases List.mem_cons.mp hp with rfl | hp
    · exact .inl (Nat.ne_of_lt (Nat.lt_of_lt_of_le (Nat.lt_succ_self _) (Nat.le_succ _)))
    · rw [List.mem_singleton.mp hp]; exact .inl (Nat.ne_of_lt (Nat.lt_succ_self _))
  exact .inr (hr p hp)
theorem News.fresh_all {h₀ h h' : Heap} {L : Addr} {m : Str → Option Value} {nb news : List (Addr × Obj)} (F : Fr h₀ L h m) (hb : ∀ p ∈ nb, h'.get? p.1 = some p.2 ∧ h.get? p.1 = none) (N : News h₀ L h' news) : News h₀ L h' (nb ++ news) := by
  intro p hp
  rcases List.mem_append.mp hp with hp | hp
  · refine ⟨(hb p hp).1, fun e => ?_, fresh_old F.keep (hb p hp).2⟩
    obtain ⟨oL, _, _, hL, _⟩ := F.ns
    have h2 := (hb p hp).2
    rw [e, hL] at h2; cases h2
  · exact N p hp
end
theorem intv_nat : ∀ {l : List Nat} {vs : List Value}, All2 IntV vs (l.map fun n : Nat => (n : Int)) → All2 (fun (v : Value) (x : Nat) => ∃ t, v = .int x t) vs l
  | [], _, h => by cases h; exact .nil
  | x :: l, _, h => by cases h with | cons h1 h2 => exact .cons h1 (intv_nat h2)
theorem ties_new {h0 h : Heap} {ts : List Value} {ds : List Ent} (x : All2 (EntV h0 h) ts ds) : ∃ nb, (∀ p ∈ nb, h.get? p.1 = some p.2 ∧ h0.get? p.1 = none) ∧ NoCell nb ∧ All2 (TieIn nb) ts ds := by
  induction x with
  | nil => exact ⟨[], List.forall_mem_nil _, List.forall_mem_nil _, .nil⟩
  | @cons v d ts ds hv _ ih =>
    obtain ⟨nb, h1, h2, h3⟩ := ih
    obtain ⟨p, t1, t2, t3, rfl, hn, o, ho, hc, n, hd⟩ := hv
    refine ⟨(p, o) :: nb, fun q hq => ?_, fun q hq => ?_, .cons ⟨p, o, n, _, rfl, .head _, hc, hd, t1, t2, t3, rfl⟩ (h3.imp fun _ _ h => h.more fun q hq => .tail _ hq)⟩
    · rcases List.mem_cons.mp hq with rfl | hq
      · exact ⟨ho, hn⟩
      · exact h1 q hq
    · rcases List.mem_cons.mp hq with rfl | hq
      · rw [hd]; exact fun v h => Data.noConfusion h
      · exact h2 q hq
section
variable {Q : Flow → Shared → Prop}
set_option maxHeartbeats 400000 in
theorem law_0 {h₀ : Heap} {L a sc : Addr} {nm : Str} {cd : Value} {m : Str → Option Value} {oT oN oO : Obj} {items : Array Value} (W : WG mean mg mb h₀) (hroom : A.depth + 4 < recursionLimit) (hh : A.handled = none)
    (F : Fr h₀ L s.heap m) (N : News h₀ L s.heap [(L + 1, oT), (L + 2, oN), (L + 3, oO)]) (cT : oT.data = .cell none) (mS : m "script" = some (.ref sc)) (hl : h₀.IsList sc items) (hi : ∀ v ∈ items.toList, ∃ n t, v = .int n t) (hsz : items.size ≤ 1000)
    (hQ : ∀ h' tk m' oT' rr oR tt oTT ll oL nb rws ts ds, Fr h₀ L h' m' → News h₀ L h' ((L + 1, oT') :: (L + 2, oN) :: (L + 3, oO) :: (rr, oR) :: (tt, oTT) :: (ll, oL) :: nb) → NoCell ((rr, oR) :: (tt, oTT) :: (ll, oL) :: nb) → oT'.data = .cell (some (.ref tt)) →
      m' "script" = some (.ref sc) → m' "row" = some (.ref rr) → m' "leaves" = some (.ref ll) → ds.length = 6 → (∀ d ∈ ds, EntOk d) → (oR.cls = .type "list" ∧ ∃ n, oR.data = .seq rws n) → All2 IntV rws.toList (ds.flatMap row4 ++ [0]) → (oTT.cls = .type "list" ∧ ∃ n, oTT.data = .seq ts n) → All2 (TieIn nb) ts.toList ds →
      (ll == sysModules) = false → DIo w oL (ds.foldl lvStep []) → Q .next { s with heap := h', toks := tk }) :
    wpAny (model pw w) A (exec (stLaw 0) (envOfC nm scLaw L a cd)) Q E s := by
  cases A
  cases hh
  have NL := W.T.nolimit
  obtain ⟨fa, oa, fda, B1, B2, B3⟩ := fn_name W rec74 (n := "_law_plan") (by kernel_rfl)
  conv in stLaw 0 => whnf
  iterate 7 walk1
  have hpack : h₀.IsList sc items ∧ True := ⟨hl, trivial⟩
  refine of_name B1 (lplan (W.keeps F.keep) (Nat.lt_of_le_of_lt (Nat.le_refl _) hroom) rfl (hpack.1.at fun o e => F.keep _ o e) hi hsz (fun h5 tk5 r rr tt ll ds rws ts hk5 hr hT hds hok hRl hRv hTl hTv hL hrr htt hll => ?_))
  obtain ⟨oR, hoR, hR1, hR2⟩ := hRl
  obtain ⟨oTT, hoT, hT1, hT2⟩ := hTl
  obtain ⟨sL, oL, hoL, dL⟩ := hL
  obtain ⟨nb, hb1, hb2, hb3⟩ := ties_new hTv
  have N5 : News h₀ L h5 ((L + 1, oT) :: (L + 2, oN) :: (L + 3, oO) :: (rr, oR) :: (tt, oTT) :: (ll, oL) :: nb) := fun p hp => by
    have k1 := N.keepsAll hk5
    have k2 : News h₀ L h5 ((rr, oR) :: (tt, oTT) :: (ll, oL) :: (nb ++ [])) := Mine.News.fresh_cons F hrr hoR (Mine.News.fresh_cons F htt hoT (Mine.News.fresh_cons F hll hoL (News.fresh_all F hb1 News.nil)))
    rw [List.append_nil] at k2
    rcases List.mem_cons.mp hp with h | hp
    · exact k1 p (h ▸ .head _)
    rcases List.mem_cons.mp hp with h | hp
    · exact k1 p (h ▸ .tail _ (.head _))
    rcases List.mem_cons.mp hp with h | hp
    · exact k1 p (h ▸ .tail _ (.tail _ (.head _)))
    exact k2 p hp
  have F5 := F.keeps hk5
  have hnc : NoCell ((rr, oR) :: (tt, oTT) :: (ll, oL) :: nb) := fun p hp => by
    rcases List.mem_cons.mp hp with rfl | hp
    · obtain ⟨n, hn⟩ := hR2
      show ∀ v, oR.data ≠ _
      rw [hn]; exact fun v h => Data.noConfusion h
    rcases List.mem_cons.mp hp with rfl | hp
    · obtain ⟨n, hn⟩ := hT2
      show ∀ v, oTT.data ≠ _
      rw [hn]; exact fun v h => Data.noConfusion h
    rcases List.mem_cons.mp hp with rfl | hp
    · exact dL.not_cell
    · exact hb2 p hp
  clear N F
  refine unpackN_ F5 N5 hT rfl rfl rfl (fun h6 F6 N6 => ?_)
  show wpAny _ _ (assignInOrder [assign (.Name "row" _) _, assign (.Name "ties" _) _, assign (.Name "leaves" _) _] [.ref rr, .ref tt, .ref ll]) _ _ _
  refine assignInOrder_cons (wpAny_assign_Name (wpAny_storeName_local (by rfl) F6.ns (fun g1 hn1 hs1 => ?_) (by rfl)))
  have F7 := F6.set hn1 hs1
  have N7 := N6.set hs1
  refine assignInOrder_cons (wpAny_assign_Name (st_ties F7 N7 cT hnc (fun g2 oT' F8 N8 cT' => ?_)))
  refine assignInOrder_cons (wpAny_assign_Name (wpAny_storeName_local (by rfl) F8.ns (fun g3 hn3 hs3 => ?_) (by rfl)))
  have F9 := F8.set hn3 hs3
  have N9 := N8.set hs3
  refine assignInOrder_nil ?_
  exact hQ g3 _ _ oT' rr oR tt oTT ll oL nb rws ts ds F9 N9 hnc cT' (Eq.trans (b := m "script") (by kernel_rfl) mS) (by kernel_rfl) (by kernel_rfl) hds hok ⟨hR1, hR2⟩ hRv ⟨hT1, hT2⟩ hb3 sL dL
set_option maxHeartbeats 400000 in
theorem law_1 {h₀ : Heap} {L a rr : Addr} {nm : Str} {cd : Value} {m : Str → Option Value} {oT oN oO oR : Obj} {rest : List (Addr × Obj)} {rws : Array Value} {ds : List Ent} (W : WG mean mg mb h₀) (TF : TopsF w mg h₀) (hroom : A.depth + 4 < recursionLimit) (hh : A.handled = none) (hu : A.units + 60 < cLine)
    (F : Fr h₀ L s.heap m) (N : News h₀ L s.heap ((L + 1, oT) :: (L + 2, oN) :: (L + 3, oO) :: rest)) (hr : NoCell rest) (mR : m "row" = some (.ref rr)) (hrr : (rr, oR) ∈ rest) (hR : oR.cls = .type "list" ∧ ∃ n, oR.data = .seq rws n) (hRv : All2 IntV rws.toList (ds.flatMap row4 ++ [0])) (hds : ds.length = 6) (hok : ∀ d ∈ ds, EntOk d)
    (hQ : ∀ h' tk m' md oM ld oL, Fr h₀ L h' m' → News h₀ L h' ((L + 1, oT) :: (L + 2, oN) :: (L + 3, oO) :: (md, oM) :: (ld, oL) :: rest) → (∀ q : Str, q ≠ "marks" → q ≠ "allowed" → m' q = m q) → m' "marks" = some (.ref md) → m' "allowed" = some (.ref ld) → (md == sysModules) = false → (ld == sysModules) = false →
      DIo w oM (marksAt (tiesI 0 ds) fun _ => 0) → DIo w oL (ds.foldl lvStep []) → Q .next { s with heap := h', toks := tk }) :
    wpAny (model pw w) A (exec (stLaw 1) (envOfC nm scLaw L a cd)) Q E s := by
  cases A
  cases hh
  have NL := W.T.nolimit
  obtain ⟨fa, oa, fda, B1, B2, B3⟩ := fn_name W rec75 (n := "_law_read") (by kernel_rfl)
  conv in stLaw 1 => whnf
  iterate 7 walk1
  obtain ⟨p', q', f, f0, f1, f2, f3⟩ := read_all ds hok [] [] "  " "" (by rw [hds]; decide) List.nodup_nil (List.forall_mem_nil _)
  have hR' : s.heap.IsList rr rws := ⟨oR, (N _ (.tail _ (.tail _ (.tail _ hrr)))).1, hR⟩
  have hv : All2 (fun (v : Value) (x : Nat) => ∃ t, v = .int x t) rws.toList (ds.flatMap rowN ++ [0]) := by
    rw [row_nat hok] at hRv
    have e : (ds.flatMap rowN).map (fun n : Nat => (n : Int)) ++ [0] = (ds.flatMap rowN ++ [0]).map (fun n : Nat => (n : Int)) := by rw [List.map_append]; rfl
    rw [e] at hRv
    exact intv_nat hRv
  refine of_name B1 (lread (ns := ds.flatMap rowN ++ [0]) (st := f) (n := (ds.flatMap rowN).length) (W.keeps F.keep) (TF.keeps F.keep) (Nat.lt_of_le_of_lt (Nat.le_refl _) hroom) rfl hu hR' hv (by rw [List.getElem?_append_right (Nat.le_refl _), Nat.sub_self]; rfl) (fun i x hi hx => ?_) f3 f0 (fun h5 tk5 r md ld hk5 hT hM hL hr5 hmd hld => ?_))
  · rw [List.getElem?_append_left hi] at hx
    exact f2 i x hx
  rw [f1] at hM hL
  obtain ⟨sM, oM, hoM, dM⟩ := hM
  obtain ⟨sL, oL, hoL, dL⟩ := hL
  have dM' : DIo w oM (marksAt (tiesI 0 ds) fun _ => 0) := by rw [← M0_marks]; exact dM
  have F5 := F.keeps hk5
  have k1 := N.keepsAll hk5
  have k2 : News h₀ L h5 [(md, oM), (ld, oL)] := Mine.News.fresh_cons F hmd hoM (Mine.News.fresh_cons F hld hoL News.nil)
  have N5 : News h₀ L h5 ((L + 1, oT) :: (L + 2, oN) :: (L + 3, oO) :: (md, oM) :: (ld, oL) :: rest) := fun p hp => by
    simp only [List.mem_cons] at hp
    rcases hp with rfl | rfl | rfl | rfl | rfl | hp
    · exact k1 _ (.head _)
    · exact k1 _ (.tail _ (.head _))
    · exact k1 _ (.tail _ (.tail _ (.head _)))
    · exact k2 _ (.head _)
    · exact k2 _ (.tail _ (.head _))
    · exact k1 _ (.tail _ (.tail _ (.tail _ hp)))
  clear N F k1 k2
  refine unpack2 F5 N5 hT rfl (fun h6 tk6 F6 N6 => ?_)
  refine hQ h6 _ _ md oM ld oL F6 N6 (fun q hq1 hq2 => ?_) (by kernel_rfl) (by kernel_rfl) sM sL dM' dL
  show (if q = "allowed" then _ else if q = "marks" then _ else m q) = m q
  rw [if_neg hq2, if_neg hq1]
end
end
theorem tiesI_get : ∀ (ds : List Ent) (k i : Nat), (tiesI k ds)[i]? = (ds[i]?).map (tieOf (k + i))
  | [], _, _ => by simp [tiesI]
  | d :: ds, k, 0 => rfl
  | d :: ds, k, i + 1 => by
    show (tiesI (k + 1) ds)[i]? = (ds[i]?).map _
    rw [tiesI_get ds (k + 1) i, show k + 1 + i = k + (i + 1) by omega]
theorem nm_eq (d : Ent) {i : Nat} (hi : i < 6) : d.a ++ ":" ++ Str.ofString (toString (i : Int)) ++ "(" ++ d.b ++ ")" = nmOf d i := nameS_eq hi _ _
noncomputable def rangeO (t : Tok) : Obj := { cls := .type "range", data := .fields #[.int 0 0, .int 6 t, .int 1 0] }
theorem ldKB {w : World} {mean : ExcName → Option Value} {mg mb : Str → Option Value} {A : Around} {s : Shared} {h₀ : Heap} {m : Str → Option Value} {E : Value → Shared → Prop} {v : Value} {x : Str} {pos : Pos} {Q : Value → Shared → Prop} {cscope : Scope} {cl : List (Str × Addr)} {C : Addr} {env : Env}
    (W : WG mean mg mb h₀) (F : Fr h₀ C s.heap m) (hv : BI mg mb x v) (h : Q v s) (hk : cscope.kind = .function := by rfl) (hx : (compEnvC cscope cl C env).kindOf x = some .globalImplicit := by rfl) (hg : env.globals = mainGlobals := by rfl) (hb : env.builtins = builtinsNs := by rfl) (hd : (x == ("__debug__" : Str)) = false := by rfl) :
    wpAny (model pw w) A (eval (.Name x pos) (compEnvC cscope cl C env)) Q E s :=
  Name_function_global hk hx (loadGlobal_builtin (env := compEnvC cscope cl C env) (hg ▸ W.T.g.keepsP F.keep) hv.1 (hb ▸ W.b.keepsP F.keep) hv.2 h) hd
section
variable {w : World} {mean : ExcName → Option Value} {mg mb : Str → Option Value} {A : Around} {s : Shared} {E : Value → Shared → Prop} {Q : Flow → Shared → Prop}
theorem tie_at {h : Heap} {nb : List (Addr × Obj)} {ts : Array Value} {ds : List Ent} (hb : All2 (TieIn nb) ts.toList ds) (hN : ∀ p ∈ nb, h.get? p.1 = some p.2) {i : Nat} {d : Ent} (hd : ds[i]? = some d) :
    ∃ p t1 t2 t3, ts[i]? = some (.ref p) ∧ IsTup h p #[.str d.a t1, .str d.b t2, .int d.w t3] := by
  have hlt : i < ts.toList.length := by rw [hb.length]; exact (List.getElem?_eq_some_iff.mp hd).1
  obtain ⟨d', hd', p, o, n, its, e1, e2, e3, e4, t1, t2, t3, rfl⟩ := hb.at (List.getElem?_eq_getElem hlt)
  rw [hd] at hd'
  cases hd'
  refine ⟨p, t1, t2, t3, ?_, o, hN _ e2, e3, n, e4⟩
  rw [← Array.getElem?_toList, List.getElem?_eq_getElem hlt, e1]
set_option maxHeartbeats 400000 in
theorem law_2 {h₀ : Heap} {L a tt : Addr} {nm : Str} {cd : Value} {m : Str → Option Value} {oT oN oO oTT : Obj} {rest nb : List (Addr × Obj)} {ts : Array Value} {ds : List Ent} (W : WG mean mg mb h₀) (hh : A.handled = none)
    (F : Fr h₀ L s.heap m) (N : News h₀ L s.heap ((L + 1, oT) :: (L + 2, oN) :: (L + 3, oO) :: rest)) (hr : NoCell rest) (cT : oT.data = .cell (some (.ref tt))) (cN : oN.data = .cell none) (hT : (tt, oTT) ∈ rest) (hTl : oTT.cls = .type "list" ∧ ∃ n, oTT.data = .seq ts n) (hb : All2 (TieIn nb) ts.toList ds) (hnb : ∀ p ∈ nb, p ∈ rest) (hds : ds.length = 6)
    (hQ : ∀ h' tk oN' D ys n, Fr h₀ L h' m → News h₀ L h' ((L + 1, oT) :: (L + 2, oN') :: (L + 3, oO) :: (D, lstO ys n) :: rest) → oN'.data = .cell (some (.ref D)) → All2 StrV ys ((tiesI 0 ds).map Tie.nm) → Q .next { s with heap := h', toks := tk }) :
    wpAny (model pw w) A (exec (stLaw 2) (envOfC nm scLaw L a cd)) Q E s := by
  cases A
  cases hh
  have NL := W.T.nolimit
  have BR := W.range
  have BS := W.str
  conv in stLaw 2 => whnf
  have hNrest : ∀ p ∈ rest, s.heap.get? p.1 = some p.2 := fun p hp => (N p (.tail _ (.tail _ (.tail _ hp)))).1
  have hil : s.heap.IsList tt ts := ⟨oTT, hNrest _ hT, hTl⟩
  have cTies : s.heap.IsCell (L + 1) (some (.ref tt)) := ⟨oT, (N _ (.head _)).1, cT⟩
  iterate 1 walk1
  refine lc_eval (cl := [("ties", L + 1)]) (by with_unfolding_all rfl) (by decide) (by rfl) (by decide) ?_ (by intro _; rfl)
  iterate 6 walk1
  refine call_range_1 ?_
  refine wpAny_pyIter_range (a := 0) (b := 6) (c := 1) (Heap.get?_push_size _ rfl) (by decide) ?_
  refine ⟨_, _, _, _, _, _, fun i ys news => news = [] ∧ All2 StrV ys (((tiesI 0 ds).map Tie.nm).take i), rfl, SrcU.range (n := 6) rfl (fun b o e => Heap.get?_push_of_some _ e) (by rw [Heap.size_push]; exact Nat.le_succ _) (by decide), ?_, fun E' i s' v Q' st h => wpAny_of_eq (by rfl) h, ⟨rfl, .nil⟩, ?_, ?_⟩
  · show _ ≤ ((s.heap.push _).push _).objs.size
    rw [Heap.size_push, Heap.size_push]; omega
  · rintro C1 D i v ys _ m₁ s₁ own E' hi2 ⟨t, rfl⟩ ⟨rfl, hz⟩ hoff hsub hown F₁ N₁
    rw [Int.zero_add]
    have WS : WG mean mg mb s.heap := W.keeps F.keep
    clear W F N
    obtain ⟨d, hd⟩ : ∃ d, ds[i]? = some d := ⟨ds[i]'(by rw [hds]; exact hi2), List.getElem?_eq_getElem _⟩
    obtain ⟨p, t1, t2, t3, hp1, hp2⟩ := tie_at hb (fun p hp => hNrest p (hnb p hp)) hd
    refine stK F₁ N₁ (fun h2 F₂ N₂ => ?_)
    refine wpAny_tests_nil ?_
    rw [if_pos rfl]
    have hil2 : h2.IsList tt ts := hil.at fun o e => F₂.keep _ _ e
    have hp3 : IsTup h2 p #[.str d.a t1, .str d.b t2, .int d.w t3] := hp2.keeps F₂.keep
    have hi6 : (i : Int) < 2 ^ 63 := Int.lt_of_lt_of_le (Int.ofNat_lt.mpr hi2) (by decide)
    have ea : d.a.length = 1 := rfl
    have eb : d.b.length = 1 := rfl
    iterate 9 walk1
    refine item_list hil2 (Int.ofNat_nonneg _) hi6 (by simpa using hp1) ?_
    iterate 1 walk1
    refine PyProof.Rows.tail_any hp3.typeIs PyProof.Rows.slot_tuple_getitem.lookup (PyProof.Rows.getItem_tuple (j := 0) (x := .str d.a t1) hp3 (by decide) (by decide) (by rfl) (by rfl) ?_) (by with_unfolding_all rfl)
    iterate 1 walk1
    refine PyProof.Rows.add_str (fun _ _ => ?_) (by rw [ea]; decide)
    iterate 1 walk1
    refine ldKB WS F₂ BS ?_
    repeat walk1
    refine item_list hil2 (Int.natCast_nonneg _) hi6 (by simpa using hp1) ?_
    iterate 1 walk1
    refine PyProof.Rows.tail_any hp3.typeIs PyProof.Rows.slot_tuple_getitem.lookup (PyProof.Rows.getItem_tuple (j := 1) (x := .str d.b t2) hp3 (by decide) (by decide) (by rfl) (by rfl) ?_) (by with_unfolding_all rfl)
    repeat walk1
    rename Fr _ _ _ _ => F₃
    rename News _ _ _ _ => N₃
    refine .intro F₃ N₃ (fun _ h => nomatch h) ⟨rfl, ?_⟩
    have et : ((tiesI 0 ds).map Tie.nm).take (i + 1) = ((tiesI 0 ds).map Tie.nm).take i ++ [nmOf d i] := by
      rw [List.take_add_one, List.getElem?_map, tiesI_get, hd, Nat.zero_add]
      rfl
    rw [et, ← nm_eq d hi2]
    exact hz.snoc ⟨_, rfl⟩
  · intro D h5 tk5 ys _ hk5 hD5 ⟨n, hpl⟩ _ ⟨_, hz⟩
    have e6 : ((tiesI 0 ds).map Tie.nm).take 6 = (tiesI 0 ds).map Tie.nm := List.take_of_length_le (by rw [List.length_map, tiesI_length, hds]; exact Nat.le_refl _)
    rw [e6] at hz
    have F5 := F.keeps hk5
    have N5 : News h₀ L h5 ((L + 1, oT) :: (L + 2, oN) :: (L + 3, oO) :: (D, lstO ys n) :: rest) := fun p hp => by
      have k1 := N.keepsAll hk5
      have k2 : News h₀ L h5 [(D, lstO ys n)] := Mine.News.fresh_cons F hD5 hpl News.nil
      simp only [List.mem_cons] at hp
      rcases hp with rfl | rfl | rfl | rfl | hp
      · exact k1 _ (.head _)
      · exact k1 _ (.tail _ (.head _))
      · exact k1 _ (.tail _ (.tail _ (.head _)))
      · exact k2 _ (.head _)
      · exact k1 _ (.tail _ (.tail _ (.tail _ hp)))
    refine st_names F5 N5 cN (fun p hp => ?_) (fun h6 oN' F6 N6 cN' => ?_)
    · rcases List.mem_cons.mp hp with rfl | hp
      · exact fun v h => Data.noConfusion h
      · exact hr p hp
    exact hQ h6 _ oN' D ys n F6 N6 cN' hz
end
theorem stored_app {ys : List (Str × Value)} {k : Str} {v : Value} (h : k ∉ ys.map (·.1)) : stored ys k v = ys ++ [(k, v)] := by
  unfold stored
  rw [if_neg]
  intro hc
  obtain ⟨q, hq, hq2⟩ := List.any_eq_true.mp hc
  exact h (List.mem_map.mpr ⟨q, hq, of_decide_eq_true hq2⟩)
theorem intP_keys {ys : List (Str × Value)} {l : List (Str × Int)} (A : All2 IntP ys l) : ys.map (·.1) = l.map (·.1) := by
  induction A with
  | nil => rfl
  | cons h _ ih => rw [List.map_cons, List.map_cons, ih, h.1]
theorem row_more {ys : List (Str × Value)} {l : List (Str × Int)} {i : Nat} {k : Str} {n : Int} {t : Tok} (A : All2 IntP ys (l.take i)) (hn : (l.map (·.1)).Nodup) (hi : l[i]? = some (k, n)) : All2 IntP (stored ys k (.int n t)) (l.take (i + 1)) := by
  have h1 : k ∉ ys.map (·.1) := by
    rw [intP_keys A]
    intro hc
    have hlt := (List.getElem?_eq_some_iff.mp hi).1
    have h2 : ((l.map (·.1)).take (i + 1)).Nodup := List.Nodup.sublist (List.take_sublist _ _) hn
    rw [← List.map_take, List.take_add_one, hi, List.map_append] at h2
    exact (List.nodup_append.mp h2).2.2 _ hc k (by simp) rfl
  rw [stored_app h1, List.take_add_one, hi]
  exact A.snoc ⟨rfl, t, rfl⟩
section
variable {w : World} {mean : ExcName → Option Value} {mg mb : Str → Option Value} {A : Around} {s : Shared} {E : Value → Shared → Prop} {Q : Flow → Shared → Prop}
theorem marks0_at {ds : List Ent} {i : Nat} {d : Ent} (hd : ds[i]? = some d) (c : Str → Int) : (marksAt (tiesI 0 ds) c)[i]? = some (nmOf d i, d.w + c d.a - c d.b) := by
  unfold marksAt
  rw [List.getElem?_map, tiesI_get, hd, Nat.zero_add]
  rfl
theorem name_at {ys : List Value} {ds : List Ent} (hys : All2 StrV ys ((tiesI 0 ds).map Tie.nm)) {i : Nat} {d : Ent} (hd : ds[i]? = some d) : ∃ t, ys[i]? = some (.str (nmOf d i) t) := by
  have hlt : i < ys.length := by rw [hys.length, List.length_map, tiesI_length]; exact (List.getElem?_eq_some_iff.mp hd).1
  obtain ⟨x, hx, t, e⟩ := hys.at (List.getElem?_eq_getElem hlt)
  rw [List.getElem?_map, tiesI_get, hd, Nat.zero_add] at hx
  cases hx
  exact ⟨t, by rw [List.getElem?_eq_getElem hlt, e]; rfl⟩
set_option maxHeartbeats 400000 in
theorem law_3 {h₀ : Heap} {L a tt nn md ld ll : Addr} {nm : Str} {cd : Value} {m : Str → Option Value} {oT oN oO oTT oM oLd oLl : Obj} {rest nb : List (Addr × Obj)} {ts : Array Value} {ds : List Ent} {ys : List Value} {nY : Nat} {Lv : List (Str × Int)} (W : WG mean mg mb h₀) (hh : A.handled = none) (hu : A.units < cLine)
    (F : Fr h₀ L s.heap m) (N : News h₀ L s.heap ((L + 1, oT) :: (L + 2, oN) :: (L + 3, oO) :: rest)) (hr : NoCell rest) (cT : oT.data = .cell (some (.ref tt))) (cN : oN.data = .cell (some (.ref nn))) (hT : (tt, oTT) ∈ rest) (hTl : oTT.cls = .type "list" ∧ ∃ n, oTT.data = .seq ts n) (hb : All2 (TieIn nb) ts.toList ds) (hnb : ∀ p ∈ nb, p ∈ rest) (hds : ds.length = 6)
    (hN : (nn, lstO ys nY) ∈ rest) (hys : All2 StrV ys ((tiesI 0 ds).map Tie.nm)) (hM : (md, oM) ∈ rest) (dM : DIo w oM (marksAt (tiesI 0 ds) fun _ => 0)) (sM : (md == sysModules) = false) (hLd : (ld, oLd) ∈ rest) (dLd : DIo w oLd Lv) (sLd : (ld == sysModules) = false)
    (hLl : (ll, oLl) ∈ rest) (dLl : DIo w oLl Lv) (sLl : (ll == sysModules) = false) (hLv : (Lv.map (·.1)).Nodup) (mM : m "marks" = some (.ref md)) (mA : m "allowed" = some (.ref ld)) (mL : m "leaves" = some (.ref ll))
    (hQ : ∀ h' tk, Fr h₀ L h' m → News h₀ L h' ((L + 1, oT) :: (L + 2, oN) :: (L + 3, oO) :: rest) → Q .next { s with heap := h', toks := tk }) :
    wpAny (model pw w) A (exec (stLaw 3) (envOfC nm scLaw L a cd)) Q E s := by
  cases A
  cases hh
  have NL := W.T.nolimit
  have BR := W.range
  conv in stLaw 3 => whnf
  have hNrest : ∀ p ∈ rest, s.heap.get? p.1 = some p.2 := fun p hp => (N p (.tail _ (.tail _ (.tail _ hp)))).1
  have hil : s.heap.IsList tt ts := ⟨oTT, hNrest _ hT, hTl⟩
  have hin : s.heap.IsList nn ys.toArray := ⟨_, hNrest _ hN, rfl, _, rfl⟩
  have cTies : s.heap.IsCell (L + 1) (some (.ref tt)) := ⟨oT, (N _ (.head _)).1, cT⟩
  have cNames : s.heap.IsCell (L + 2) (some (.ref nn)) := ⟨oN, (N _ (.tail _ (.head _))).1, cN⟩
  iterate 4 walk1
  refine dc_eval (knd := PySem.strKind pw w) (cl := [("ties", L + 1), ("names", L + 2)]) (by with_unfolding_all rfl) (by decide) (by rfl) (by decide) (by intro _ _; rfl) ?_ (by intro _; rfl)
  iterate 6 walk1
  refine call_range_1 ?_
  refine wpAny_pyIter_range (a := 0) (b := 6) (c := 1) (Heap.get?_push_size _ rfl) (by decide) ?_
  refine ⟨_, _, _, _, _, _, fun i kv => All2 IntP kv ((marksAt (tiesI 0 ds) fun _ => 0).take i), rfl, SrcU.range (n := 6) rfl (fun b o e => Heap.get?_push_of_some _ e) (by rw [Heap.size_push]; exact Nat.le_succ _) (by decide), ?_, .nil, ?_, ?_⟩
  · show _ ≤ ((s.heap.push _).push _).objs.size
    rw [Heap.size_push, Heap.size_push]; omega
  · rintro C1 D i v kv m₁ s₁ own E' hi2 ⟨t, rfl⟩ hz hsub hown F₁ N₁
    rw [Int.zero_add]
    have WS : WG mean mg mb s.heap := W.keeps F.keep
    have N0 := N
    clear W F N
    obtain ⟨d, hd⟩ : ∃ d, ds[i]? = some d := ⟨ds[i]'(by rw [hds]; exact hi2), List.getElem?_eq_getElem _⟩
    obtain ⟨p, t1, t2, t3, hp1, hp2⟩ := tie_at hb (fun p hp => hNrest p (hnb p hp)) hd
    obtain ⟨tn, hn1⟩ := name_at hys hd
    refine stK F₁ N₁ (fun h2 F₂ N₂ => ?_)
    refine wpAny_tests_nil ?_
    rw [if_pos rfl]
    have hil2 : h2.IsList tt ts := hil.at fun o e => F₂.keep _ _ e
    have hin2 : h2.IsList nn ys.toArray := hin.at fun o e => F₂.keep _ _ e
    have hp3 : IsTup h2 p #[.str d.a t1, .str d.b t2, .int d.w t3] := hp2.keeps F₂.keep
    have hi6 : (i : Int) < 2 ^ 63 := Int.lt_of_lt_of_le (Int.ofNat_lt.mpr hi2) (by decide)
    iterate 3 walk1
    refine item_list hin2 (Int.natCast_nonneg _) hi6 (x := .str (nmOf d i) tn) (by simpa using hn1) ?_
    iterate 4 walk1
    refine item_list hil2 (Int.natCast_nonneg _) hi6 (by simpa using hp1) ?_
    iterate 1 walk1
    refine PyProof.Rows.tail_any hp3.typeIs PyProof.Rows.slot_tuple_getitem.lookup (PyProof.Rows.getItem_tuple (j := 2) (x := .int d.w t3) hp3 (by decide) (by decide) (by rfl) (by rfl) ?_) (by with_unfolding_all rfl)
    refine ⟨nmOf d i, by simp [PySem.strKind, Value.isStrOf], ?_⟩
    have hnn := marks_keys (T := tiesI 0 ds) (fun _ => 0) (tiesI_nodup ds 0)
    have hrow := marks0_at hd (fun _ => 0)
    rw [show d.w + 0 - 0 = d.w by omega] at hrow
    exact .intro (news₂ := []) F₂ (by rw [List.append_nil]; exact N₂) (fun _ h => nomatch h) (row_more hz hnn hrow)
  · intro D h5 tk5 kv hk5 hD5 hpl hz
    have e6 : (marksAt (tiesI 0 ds) fun _ => 0).take 6 = marksAt (tiesI 0 ds) fun _ => 0 := List.take_of_length_le (by unfold marksAt; rw [List.length_map, tiesI_length, hds]; exact Nat.le_refl _)
    rw [e6] at hz
    have F5 := F.keeps hk5
    have N5 := N.keepsAll hk5
    have hget : ∀ p ∈ rest, h5.get? p.1 = some p.2 := fun p hp => (N5 p (.tail _ (.tail _ (.tail _ hp)))).1
    have hnn := marks_keys (T := tiesI 0 ds) (fun _ => 0) (tiesI_nodup ds 0)
    have D1 : DI w h5 md (marksAt (tiesI 0 ds) fun _ => 0) := ⟨sM, oM, hget _ hM, dM⟩
    have D2 : DI w h5 D (marksAt (tiesI 0 ds) fun _ => 0) := DI.ofDictOf (not_sys (W.keeps F.keep) hD5) hpl hz
    have D3 : DI w h5 ld Lv := ⟨sLd, oLd, hget _ hLd, dLd⟩
    have D4 : DI w h5 ll Lv := ⟨sLl, oLl, hget _ hLl, dLl⟩
    clear F N
    refine dict_ne D1 D2 (.refl hnn) hu ?_
    iterate 1 walk1
    rw [if_neg (by decide)]
    iterate 4 walk1
    refine dict_ne D3 D4 (.refl hLv) hu ?_
    iterate 1 walk1
    rw [if_neg (by decide)]
    repeat walk1
    exact hQ _ _ F5 N5
end
theorem ties_v {h : Heap} {nb : List (Addr × Obj)} (hN : ∀ p ∈ nb, h.get? p.1 = some p.2) : ∀ {ts : List Value} {ds : List Ent} (k : Nat), All2 (TieIn nb) ts ds → All2 (TieV h) ts (tiesI k ds)
  | _, [], _, x => by cases x; exact .nil
  | _, d :: ds, k, x => by
    cases x with
    | cons h1 h2 =>
      obtain ⟨p, o, n, its, rfl, e2, e3, e4, t1, t2, t3, rfl⟩ := h1
      exact .cons ⟨p, t1, t2, t3, rfl, o, hN _ e2, e3, n, e4⟩ (ties_v hN (k + 1) h2)
theorem News.put3 {h₀ h h' : Heap} {L : Addr} {m : Str → Option Value} {q1 q2 q3 : Addr × Obj} {nw rest : List (Addr × Obj)} (F : Fr h₀ L h m) (hb : ∀ p ∈ nw, h'.get? p.1 = some p.2 ∧ h.get? p.1 = none) (N : News h₀ L h' (q1 :: q2 :: q3 :: rest)) : News h₀ L h' (q1 :: q2 :: q3 :: (nw ++ rest)) := by
  have k2 := News.fresh_all F hb (News.nil (h₀ := h₀) (L := L) (h := h'))
  rw [List.append_nil] at k2
  intro p hp
  simp only [List.mem_cons, List.mem_append] at hp
  rcases hp with rfl | rfl | rfl | hp | hp
  · exact N _ (.head _)
  · exact N _ (.tail _ (.head _))
  · exact N _ (.tail _ (.tail _ (.head _)))
  · exact k2 p hp
  · exact N p (.tail _ (.tail _ (.tail _ hp)))
section
variable {w : World} {mean : ExcName → Option Value} {mg mb : Str → Option Value} {A : Around} {s : Shared} {E : Value → Shared → Prop} {Q : Flow → Shared → Prop}
set_option maxHeartbeats 400000 in
theorem law_4 {h₀ : Heap} {L a tt ll : Addr} {nm : Str} {cd : Value} {m : Str → Option Value} {oT oN oO oTT oLl : Obj} {rest nb : List (Addr × Obj)} {ts : Array Value} {ds : List Ent} {Lv : List (Str × Int)} (W : WG mean mg mb h₀) (hroom : A.depth + 3 < recursionLimit) (hh : A.handled = none)
    (F : Fr h₀ L s.heap m) (N : News h₀ L s.heap ((L + 1, oT) :: (L + 2, oN) :: (L + 3, oO) :: rest)) (hr : NoCell rest) (cT : oT.data = .cell (some (.ref tt))) (cO : oO.data = .cell none) (hT : (tt, oTT) ∈ rest) (hTl : oTT.cls = .type "list" ∧ ∃ n, oTT.data = .seq ts n) (hb : All2 (TieIn nb) ts.toList ds) (hnb : ∀ p ∈ nb, p ∈ rest) (hds : ds.length = 6) (hok : ∀ d ∈ ds, EntOk d)
    (hLl : (ll, oLl) ∈ rest) (dLl : DIo w oLl Lv) (sLl : (ll == sysModules) = false) (mL : m "leaves" = some (.ref ll))
    (hQ : ∀ h' tk oO' od oD, Fr h₀ L h' m → News h₀ L h' ((L + 1, oT) :: (L + 2, oN) :: (L + 3, oO') :: (od, oD) :: rest) → oO'.data = .cell (some (.ref od)) → (od == sysModules) = false → DIo w oD (oftenK (tiesI 0 ds) (valI Lv) 3) → Q .next { s with heap := h', toks := tk }) :
    wpAny (model pw w) A (exec (stLaw 4) (envOfC nm scLaw L a cd)) Q E s := by
  cases A
  cases hh
  have NL := W.T.nolimit
  obtain ⟨fa, oa, fda, B1, B2, B3⟩ := fn_name W rec77 (n := "_law_often") (by kernel_rfl)
  conv in stLaw 4 => whnf
  have hNrest : ∀ p ∈ rest, s.heap.get? p.1 = some p.2 := fun p hp => (N p (.tail _ (.tail _ (.tail _ hp)))).1
  have hil : s.heap.IsList tt ts := ⟨oTT, hNrest _ hT, hTl⟩
  have hpack : s.heap.IsList tt ts ∧ True := ⟨hil, trivial⟩
  clear hil
  iterate 9 walk1
  rename News _ _ _ _ => N
  refine of_name B1 (loften (T := tiesI 0 ds) (Lf := valI Lv) (W.keeps F.keep) hroom rfl (good_ties hok) (by rw [tiesI_length, hds]; decide) hpack.1 (ties_v (fun p hp => hNrest p (hnb p hp)) 0 hb) ⟨sLl, oLl, hNrest _ hLl, dLl⟩ (fun _ => rfl) (fun h5 tk5 r hk5 hf5 hD => ?_))
  obtain ⟨sD, oD, hoD, dD⟩ := hD
  have N5 := News.put3 (nw := [(r, oD)]) F (fun p hp => by rw [List.mem_singleton.mp hp]; exact ⟨hoD, hf5⟩) (N.keepsAll hk5)
  have F5 := F.keeps hk5
  clear F N
  refine st_often F5 N5 cO (fun p hp => ?_) (fun h6 oO' F6 N6 cO' => ?_)
  · rcases List.mem_cons.mp hp with rfl | hp
    · exact dD.not_cell
    · exact hr p hp
  exact hQ h6 _ oO' r oD F6 N6 cO' sD dD
end
theorem val_get {O : List (Str × Int)} (hO : O.map (·.1) = tasksL) {t : Str} (ht : t ∈ tasksL) : getI O t = some (valI O t) := getI_some (by rw [hO]; exact ht)
section
variable {w : World} {mean : ExcName → Option Value} {mg mb : Str → Option Value} {A : Around} {s : Shared} {E : Value → Shared → Prop} {Q : Flow → Shared → Prop}
set_option maxHeartbeats 400000 in
theorem law_5 {h₀ : Heap} {L a tt nn od : Addr} {nm : Str} {cd : Value} {m : Str → Option Value} {oT oN oO oTT oD : Obj} {rest nb : List (Addr × Obj)} {ts : Array Value} {ds : List Ent} {ys : List Value} {nY : Nat} {O : List (Str × Int)} (W : WG mean mg mb h₀) (hh : A.handled = none)
    (F : Fr h₀ L s.heap m) (N : News h₀ L s.heap ((L + 1, oT) :: (L + 2, oN) :: (L + 3, oO) :: rest)) (cT : oT.data = .cell (some (.ref tt))) (cN : oN.data = .cell (some (.ref nn))) (cO : oO.data = .cell (some (.ref od))) (hT : (tt, oTT) ∈ rest) (hTl : oTT.cls = .type "list" ∧ ∃ n, oTT.data = .seq ts n) (hb : All2 (TieIn nb) ts.toList ds) (hnb : ∀ p ∈ nb, p ∈ rest) (hds : ds.length = 6) (hok : ∀ d ∈ ds, EntOk d)
    (hN : (nn, lstO ys nY) ∈ rest) (hys : All2 StrV ys ((tiesI 0 ds).map Tie.nm)) (hD : (od, oD) ∈ rest) (dD : DIo w oD O) (hO : O.map (·.1) = tasksL)
    (hQ : ∀ h' tk lf oF, Fr h₀ L h' (fun z => if z = "left" then some (.ref lf) else m z) → News h₀ L h' ((L + 1, oT) :: (L + 2, oN) :: (L + 3, oO) :: (lf, oF) :: rest) → (lf == sysModules) = false → DIo w oF (marksAt (tiesI 0 ds) (valI O)) → Q .next { s with heap := h', toks := tk }) :
    wpAny (model pw w) A (exec (stLaw 5) (envOfC nm scLaw L a cd)) Q E s := by
  cases A
  cases hh
  have NL := W.T.nolimit
  have BR := W.range
  conv in stLaw 5 => whnf
  have hNrest : ∀ p ∈ rest, s.heap.get? p.1 = some p.2 := fun p hp => (N p (.tail _ (.tail _ (.tail _ hp)))).1
  have hil : s.heap.IsList tt ts := ⟨oTT, hNrest _ hT, hTl⟩
  have hin : s.heap.IsList nn ys.toArray := ⟨_, hNrest _ hN, rfl, _, rfl⟩
  have cTies : s.heap.IsCell (L + 1) (some (.ref tt)) := ⟨oT, (N _ (.head _)).1, cT⟩
  have cNames : s.heap.IsCell (L + 2) (some (.ref nn)) := ⟨oN, (N _ (.tail _ (.head _))).1, cN⟩
  have cOften : s.heap.IsCell (L + 3) (some (.ref od)) := ⟨oO, (N _ (.tail _ (.tail _ (.head _)))).1, cO⟩
  refine dc_assign (knd := PySem.strKind pw w) F.ns (by rfl) (by rfl) (by with_unfolding_all rfl) (cl := [("ties", L + 1), ("often", L + 3), ("names", L + 2)]) (by with_unfolding_all rfl) (by decide) (by rfl) (by decide) (by intro _ _; rfl) ?_ (by intro _; rfl)
  iterate 6 walk1
  refine call_range_1 ?_
  refine wpAny_pyIter_range (a := 0) (b := 6) (c := 1) (Heap.get?_push_size _ rfl) (by decide) ?_
  refine ⟨_, _, _, _, _, _, fun i kv => All2 IntP kv ((marksAt (tiesI 0 ds) (valI O)).take i), rfl, SrcU.range (n := 6) rfl (fun b o e => Heap.get?_push_of_some _ e) (by rw [Heap.size_push]; exact Nat.le_succ _) (by decide), ?_, .nil, ?_, ?_⟩
  · show _ ≤ ((s.heap.push _).push _).objs.size
    rw [Heap.size_push, Heap.size_push]; omega
  · rintro C1 D i v kv m₁ s₁ own E' hi2 ⟨t, rfl⟩ hz hsub hown F₁ N₁
    rw [Int.zero_add]
    have WS : WG mean mg mb s.heap := W.keeps F.keep
    have N0 := N
    clear W F N
    obtain ⟨d, hd⟩ : ∃ d, ds[i]? = some d := ⟨ds[i]'(by rw [hds]; exact hi2), List.getElem?_eq_getElem _⟩
    obtain ⟨p, t1, t2, t3, hp1, hp2⟩ := tie_at hb (fun p hp => hNrest p (hnb p hp)) hd
    obtain ⟨tn, hn1⟩ := name_at hys hd
    obtain ⟨hta, htb, _⟩ := ent_ab (hok d (List.mem_of_getElem? hd))
    refine stK F₁ N₁ (fun h2 F₂ N₂ => ?_)
    refine wpAny_tests_nil ?_
    rw [if_pos rfl]
    have hil2 : h2.IsList tt ts := hil.at fun o e => F₂.keep _ _ e
    have hin2 : h2.IsList nn ys.toArray := hin.at fun o e => F₂.keep _ _ e
    have hp3 : IsTup h2 p #[.str d.a t1, .str d.b t2, .int d.w t3] := hp2.keeps F₂.keep
    have hD2 : h2.get? od = some oD := F₂.keep _ _ (hNrest _ hD)
    have hi6 : (i : Int) < 2 ^ 63 := Int.lt_of_lt_of_le (Int.ofNat_lt.mpr hi2) (by decide)
    iterate 3 walk1
    refine item_list hin2 (Int.natCast_nonneg _) hi6 (x := .str (nmOf d i) tn) (by simpa using hn1) ?_
    iterate 6 walk1
    refine item_list hil2 (Int.natCast_nonneg _) hi6 (by simpa using hp1) ?_
    iterate 1 walk1
    refine PyProof.Rows.tail_any hp3.typeIs PyProof.Rows.slot_tuple_getitem.lookup (PyProof.Rows.getItem_tuple (j := 2) (x := .int d.w t3) hp3 (by decide) (by decide) (by rfl) (by rfl) ?_) (by with_unfolding_all rfl)
    iterate 6 walk1
    refine item_list hil2 (Int.natCast_nonneg _) hi6 (by simpa using hp1) ?_
    iterate 1 walk1
    refine PyProof.Rows.tail_any hp3.typeIs PyProof.Rows.slot_tuple_getitem.lookup (PyProof.Rows.getItem_tuple (j := 0) (x := .str d.a t1) hp3 (by decide) (by decide) (by rfl) (by rfl) ?_) (by with_unfolding_all rfl)
    refine getItem_subscript hD2 dD (val_get hO hta) (fun _ _ => ?_)
    iterate 7 walk1
    refine item_list hil2 (Int.natCast_nonneg _) hi6 (by simpa using hp1) ?_
    iterate 1 walk1
    refine PyProof.Rows.tail_any hp3.typeIs PyProof.Rows.slot_tuple_getitem.lookup (PyProof.Rows.getItem_tuple (j := 1) (x := .str d.b t2) hp3 (by decide) (by decide) (by rfl) (by rfl) ?_) (by with_unfolding_all rfl)
    refine getItem_subscript hD2 dD (val_get hO htb) (fun _ _ => ?_)
    iterate 1 walk1
    refine ⟨nmOf d i, by simp [PySem.strKind, Value.isStrOf], ?_⟩
    have hnn := marks_keys (T := tiesI 0 ds) (valI O) (tiesI_nodup ds 0)
    exact .intro (news₂ := []) F₂ (by rw [List.append_nil]; exact N₂) (fun _ h => nomatch h) (row_more hz hnn (marks0_at hd (valI O)))
  · intro D h5 tk5 kv hns hk5 hD5 hpl hz
    have e6 : (marksAt (tiesI 0 ds) (valI O)).take 6 = marksAt (tiesI 0 ds) (valI O) := List.take_of_length_le (by unfold marksAt; rw [List.length_map, tiesI_length, hds]; exact Nat.le_refl _)
    rw [e6] at hz
    obtain ⟨F5, N5⟩ := comp_done F N hns hk5
    obtain ⟨oF, hoF, hdF⟩ := Heap.dictOf_iff.mp hpl
    have N6 := News.put3 (nw := [(D, oF)]) F (fun p hp => by rw [List.mem_singleton.mp hp]; exact ⟨hoF, fresh_at hD5⟩) N5
    exact hQ h5 tk5 D oF F5 N6 (not_sys (W.keeps F.keep) hD5) ⟨_, hdF, hz⟩
end
section
variable {w : World} {mean : ExcName → Option Value} {mg mb : Str → Option Value} {A : Around} {s : Shared} {E : Value → Shared → Prop} {Q : Flow → Shared → Prop}
set_option maxHeartbeats 400000 in
theorem law_6 {h₀ : Heap} {L a tt od : Addr} {nm : Str} {cd : Value} {m : Str → Option Value} {oT oN oO oTT oD : Obj} {rest nb : List (Addr × Obj)} {ts : Array Value} {ds : List Ent} {O : List (Str × Int)} (W : WG mean mg mb h₀) (hh : A.handled = none)
    (F : Fr h₀ L s.heap m) (N : News h₀ L s.heap ((L + 1, oT) :: (L + 2, oN) :: (L + 3, oO) :: rest)) (cT : oT.data = .cell (some (.ref tt))) (cO : oO.data = .cell (some (.ref od))) (hT : (tt, oTT) ∈ rest) (hTl : oTT.cls = .type "list" ∧ ∃ n, oTT.data = .seq ts n) (hb : All2 (TieIn nb) ts.toList ds) (hnb : ∀ p ∈ nb, p ∈ rest) (hds : ds.length = 6) (hok : ∀ d ∈ ds, EntOk d)
    (hD : (od, oD) ∈ rest) (dD : DIo w oD O) (hO : O.map (·.1) = tasksL)
    (hQ : ∀ h' tk t, Fr h₀ L h' (fun z => if z = "taken" then some (.int (sumB (tiesI 0 ds) (valI O)) t) else m z) → News h₀ L h' ((L + 1, oT) :: (L + 2, oN) :: (L + 3, oO) :: rest) → Q .next { s with heap := h', toks := tk }) :
    wpAny (model pw w) A (exec (stLaw 6) (envOfC nm scLaw L a cd)) Q E s := by
  cases A
  cases hh
  have NL := W.T.nolimit
  have BS := W.sum
  conv in stLaw 6 => whnf
  have hNrest : ∀ p ∈ rest, s.heap.get? p.1 = some p.2 := fun p hp => (N p (.tail _ (.tail _ (.tail _ hp)))).1
  have hil : s.heap.IsList tt ts := ⟨oTT, hNrest _ hT, hTl⟩
  have hpack : s.heap.IsList tt ts ∧ True := ⟨hil, trivial⟩
  clear hil
  have cTies : s.heap.IsCell (L + 1) (some (.ref tt)) := ⟨oT, (N _ (.head _)).1, cT⟩
  have cOften : s.heap.IsCell (L + 3) (some (.ref od)) := ⟨oO, (N _ (.tail _ (.tail _ (.head _)))).1, cO⟩
  iterate 5 walk1
  refine lc_eval (cl := [("often", L + 3)]) (by with_unfolding_all rfl) (by decide) (by rfl) (by decide) ?_ (by intro _; rfl)
  iterate 1 walk1
  rename News _ _ _ _ => N
  have hil := hpack.1
  refine wpAny_pyIter_list hil ?_
  have hsz : ts.size = 6 := by rw [← Array.length_toList, hb.length, hds]
  refine ⟨_, _, _, _, _, _, fun i ys news => news = [] ∧ All2 IntV ys (((tiesI 0 ds).map fun e => valI O e.b).take i), rfl, SrcU.list rfl hil (fun _ _ e => e) (Nat.le_refl _) (by rw [hsz]; decide), ?_, fun E' i s' v Q' st h => letGo_listiter st.1 h, ⟨rfl, .nil⟩, ?_, ?_⟩
  · show _ ≤ (s.heap.push _).objs.size
    rw [Heap.size_push]; exact Nat.le_succ _
  · rintro C1 D i v ys _ m₁ s₁ own E' hi2 hv ⟨rfl, hz⟩ hoff hsub hown F₁ N₁
    have WS : WG mean mg mb s.heap := W.keeps F.keep
    clear W F N
    rw [hsz] at hi2
    obtain ⟨d, hd⟩ : ∃ d, ds[i]? = some d := ⟨ds[i]'(by rw [hds]; exact hi2), List.getElem?_eq_getElem _⟩
    obtain ⟨p, t1, t2, t3, hp1, hp2⟩ := tie_at hb (fun p hp => hNrest p (hnb p hp)) hd
    rw [hp1] at hv
    obtain rfl : Value.ref p = v := Option.some.inj hv
    obtain ⟨hta, htb, _⟩ := ent_ab (hok d (List.mem_of_getElem? hd))
    refine unpack3 F₁ N₁ (hp2.keeps F₁.keep) rfl (fun h2 tk2 F₂ N₂ => ?_)
    refine wpAny_tests_nil ?_
    rw [if_pos rfl]
    have hD2 : h2.get? od = some oD := F₂.keep _ _ (hNrest _ hD)
    iterate 3 walk1
    refine getItem_subscript hD2 dD (val_get hO htb) (fun _ _ => ?_)
    refine .intro F₂ N₂ (fun _ h => nomatch h) ⟨rfl, ?_⟩
    rw [List.take_add_one, List.getElem?_map, tiesI_get, hd, Nat.zero_add]
    exact hz.snoc ⟨_, rfl⟩
  · intro D h5 tk5 ys _ hk5 hD5 ⟨n, hpl⟩ _ ⟨_, hz⟩
    have e6 : ((tiesI 0 ds).map fun e => valI O e.b).take ts.size = (tiesI 0 ds).map fun e => valI O e.b := List.take_of_length_le (by rw [List.length_map, tiesI_length, hds, hsz]; exact Nat.le_refl _)
    rw [e6] at hz
    have F5 := F.keeps hk5
    have N5 := N.keepsAll hk5
    clear F N
    iterate 1 walk1
    refine sum_ints (ys := ys) rfl ⟨_, hpl, rfl, _, rfl⟩ hz (fun h6 tk6 t6 hk6 => ?_)
    have F6 := F5.keeps hk6
    have N6 := N5.keepsAll hk6
    clear F5 N5
    repeat walk1
    rename Heap => h7
    rename Fr _ _ _ _ => F7
    rename News _ _ _ _ => N7
    exact hQ h7 _ _ F7 N7
set_option maxHeartbeats 400000 in
theorem law_7 {h₀ : Heap} {L a tt od : Addr} {nm : Str} {cd : Value} {m : Str → Option Value} {oT oN oO oTT oD : Obj} {rest nb : List (Addr × Obj)} {ts : Array Value} {ds : List Ent} {O : List (Str × Int)} (W : WG mean mg mb h₀) (hh : A.handled = none)
    (F : Fr h₀ L s.heap m) (N : News h₀ L s.heap ((L + 1, oT) :: (L + 2, oN) :: (L + 3, oO) :: rest)) (cT : oT.data = .cell (some (.ref tt))) (cO : oO.data = .cell (some (.ref od))) (hT : (tt, oTT) ∈ rest) (hTl : oTT.cls = .type "list" ∧ ∃ n, oTT.data = .seq ts n) (hb : All2 (TieIn nb) ts.toList ds) (hnb : ∀ p ∈ nb, p ∈ rest) (hds : ds.length = 6) (hok : ∀ d ∈ ds, EntOk d)
    (hD : (od, oD) ∈ rest) (dD : DIo w oD O) (hO : O.map (·.1) = tasksL)
    (hQ : ∀ h' tk t, Fr h₀ L h' (fun z => if z = "put" then some (.int (sumA (tiesI 0 ds) (valI O)) t) else m z) → News h₀ L h' ((L + 1, oT) :: (L + 2, oN) :: (L + 3, oO) :: rest) → Q .next { s with heap := h', toks := tk }) :
    wpAny (model pw w) A (exec (stLaw 7) (envOfC nm scLaw L a cd)) Q E s := by
  cases A
  cases hh
  have NL := W.T.nolimit
  have BS := W.sum
  conv in stLaw 7 => whnf
  have hNrest : ∀ p ∈ rest, s.heap.get? p.1 = some p.2 := fun p hp => (N p (.tail _ (.tail _ (.tail _ hp)))).1
  have hil : s.heap.IsList tt ts := ⟨oTT, hNrest _ hT, hTl⟩
  have hpack : s.heap.IsList tt ts ∧ True := ⟨hil, trivial⟩
  clear hil
  have cTies : s.heap.IsCell (L + 1) (some (.ref tt)) := ⟨oT, (N _ (.head _)).1, cT⟩
  have cOften : s.heap.IsCell (L + 3) (some (.ref od)) := ⟨oO, (N _ (.tail _ (.tail _ (.head _)))).1, cO⟩
  iterate 5 walk1
  refine lc_eval (cl := [("often", L + 3)]) (by with_unfolding_all rfl) (by decide) (by rfl) (by decide) ?_ (by intro _; rfl)
  iterate 1 walk1
  rename News _ _ _ _ => N
  have hil := hpack.1
  refine wpAny_pyIter_list hil ?_
  have hsz : ts.size = 6 := by rw [← Array.length_toList, hb.length, hds]
  refine ⟨_, _, _, _, _, _, fun i ys news => news = [] ∧ All2 IntV ys (((tiesI 0 ds).map fun e => valI O e.a).take i), rfl, SrcU.list rfl hil (fun _ _ e => e) (Nat.le_refl _) (by rw [hsz]; decide), ?_, fun E' i s' v Q' st h => letGo_listiter st.1 h, ⟨rfl, .nil⟩, ?_, ?_⟩
  · show _ ≤ (s.heap.push _).objs.size
    rw [Heap.size_push]; exact Nat.le_succ _
  · rintro C1 D i v ys _ m₁ s₁ own E' hi2 hv ⟨rfl, hz⟩ hoff hsub hown F₁ N₁
    have WS : WG mean mg mb s.heap := W.keeps F.keep
    clear W F N
    rw [hsz] at hi2
    obtain ⟨d, hd⟩ : ∃ d, ds[i]? = some d := ⟨ds[i]'(by rw [hds]; exact hi2), List.getElem?_eq_getElem _⟩
    obtain ⟨p, t1, t2, t3, hp1, hp2⟩ := tie_at hb (fun p hp => hNrest p (hnb p hp)) hd
    rw [hp1] at hv
    obtain rfl : Value.ref p = v := Option.some.inj hv
    obtain ⟨hta, htb, _⟩ := ent_ab (hok d (List.mem_of_getElem? hd))
    refine unpack3 F₁ N₁ (hp2.keeps F₁.keep) rfl (fun h2 tk2 F₂ N₂ => ?_)
    refine wpAny_tests_nil ?_
    rw [if_pos rfl]
    have hD2 : h2.get? od = some oD := F₂.keep _ _ (hNrest _ hD)
    iterate 3 walk1
    refine getItem_subscript hD2 dD (val_get hO hta) (fun _ _ => ?_)
    refine .intro F₂ N₂ (fun _ h => nomatch h) ⟨rfl, ?_⟩
    rw [List.take_add_one, List.getElem?_map, tiesI_get, hd, Nat.zero_add]
    exact hz.snoc ⟨_, rfl⟩
  · intro D h5 tk5 ys _ hk5 hD5 ⟨n, hpl⟩ _ ⟨_, hz⟩
    have e6 : ((tiesI 0 ds).map fun e => valI O e.a).take ts.size = (tiesI 0 ds).map fun e => valI O e.a := List.take_of_length_le (by rw [List.length_map, tiesI_length, hds, hsz]; exact Nat.le_refl _)
    rw [e6] at hz
    have F5 := F.keeps hk5
    have N5 := N.keepsAll hk5
    clear F N
    iterate 1 walk1
    refine sum_ints (ys := ys) rfl ⟨_, hpl, rfl, _, rfl⟩ hz (fun h6 tk6 t6 hk6 => ?_)
    have F6 := F5.keeps hk6
    have N6 := N5.keepsAll hk6
    clear F5 N5
    repeat walk1
    rename Heap => h7
    rename Fr _ _ _ _ => F7
    rename News _ _ _ _ => N7
    exact hQ h7 _ _ F7 N7
set_option maxHeartbeats 400000 in
theorem law_8 {h₀ : Heap} {L a od : Addr} {nm : Str} {cd : Value} {m : Str → Option Value} {oT oN oO oD : Obj} {rest : List (Addr × Obj)} {O : List (Str × Int)} (W : WG mean mg mb h₀) (hh : A.handled = none)
    (F : Fr h₀ L s.heap m) (N : News h₀ L s.heap ((L + 1, oT) :: (L + 2, oN) :: (L + 3, oO) :: rest)) (cO : oO.data = .cell (some (.ref od)))
    (hD : (od, oD) ∈ rest) (dD : DIo w oD O) (sD : (od == sysModules) = false) (hO : O.map (·.1) = tasksL)
    (hQ : ∀ h' tk t, Fr h₀ L h' (fun z => if z = "done" then some (.int (O.map (·.2)).sum t) else m z) → News h₀ L h' ((L + 1, oT) :: (L + 2, oN) :: (L + 3, oO) :: rest) → Q .next { s with heap := h', toks := tk }) :
    wpAny (model pw w) A (exec (stLaw 8) (envOfC nm scLaw L a cd)) Q E s := by
  cases A
  cases hh
  have NL := W.T.nolimit
  have BS := W.sum
  conv in stLaw 8 => whnf
  have hNrest : ∀ p ∈ rest, s.heap.get? p.1 = some p.2 := fun p hp => (N p (.tail _ (.tail _ (.tail _ hp)))).1
  have cOften : s.heap.IsCell (L + 3) (some (.ref od)) := ⟨oO, (N _ (.tail _ (.tail _ (.head _)))).1, cO⟩
  obtain ⟨kO, hO1, hO2⟩ := id dD
  have hdo : s.heap.DictOf (PySem.strKind pw w) od kO := Heap.dictOf_iff.mpr ⟨_, hNrest _ hD, hO1⟩
  obtain ⟨epO, hdoA⟩ := hdo.dictAt
  have hlen : kO.length = 4 := by rw [hO2.length, ← List.length_map (f := (·.1)), hO]; rfl
  have hOn : (O.map (·.1)).Nodup := by rw [hO]; exact tasks_nodup
  iterate 5 walk1
  refine lc_eval (cl := [("often", L + 3)]) (by with_unfolding_all rfl) (by decide) (by rfl) (by decide) ?_ (by intro _; rfl)
  iterate 1 walk1
  rename News _ _ _ _ => N
  refine wpAny_pyIter_dict sD hdoA ?_
  refine ⟨_, _, _, _, _, _, fun i ys news => news = [] ∧ All2 IntV ys ((O.map (·.2)).take i), rfl, SrcU.keys rfl hdoA (fun _ _ e => e) (Nat.le_refl _) (by rw [hlen]; decide), ?_, fun E' i s' v Q' _ h => wpAny_of_eq (by rfl) h, ⟨rfl, .nil⟩, ?_, ?_⟩
  · show _ ≤ (s.heap.push _).objs.size
    rw [Heap.size_push]; exact Nat.le_succ _
  · rintro C1 D i v ys _ m₁ s₁ own E' hi2 ⟨k, xv, hkv, hkey⟩ ⟨rfl, hz⟩ hoff hsub hown F₁ N₁
    have WS : WG mean mg mb s.heap := W.keeps F.keep
    clear W F N
    obtain ⟨e, he, hk1, _⟩ := hO2.at hkv
    have hk1 : k = e.1 := hk1
    subst hk1
    obtain ⟨tn, rfl⟩ := Value.isStrOf_shape hkey
    refine stK F₁ N₁ (fun h2 F₂ N₂ => ?_)
    refine wpAny_tests_nil ?_
    rw [if_pos rfl]
    have hD2 : h2.get? od = some oD := F₂.keep _ _ (hNrest _ hD)
    iterate 3 walk1
    refine getItem_subscript hD2 dD (getI_mem (n := e.2) hOn (List.mem_of_getElem? he)) (fun _ _ => ?_)
    refine .intro F₂ N₂ (fun _ h => nomatch h) ⟨rfl, ?_⟩
    rw [List.take_add_one, List.getElem?_map, he]
    exact hz.snoc ⟨_, rfl⟩
  · intro D h5 tk5 ys _ hk5 hD5 ⟨n, hpl⟩ _ ⟨_, hz⟩
    have e6 : (O.map (·.2)).take kO.length = O.map (·.2) := List.take_of_length_le (by rw [List.length_map, hO2.length]; exact Nat.le_refl _)
    rw [e6] at hz
    have F5 := F.keeps hk5
    have N5 := N.keepsAll hk5
    clear F N
    iterate 1 walk1
    refine sum_ints (ys := ys) rfl ⟨_, hpl, rfl, _, rfl⟩ hz (fun h6 tk6 t6 hk6 => ?_)
    have F6 := F5.keeps hk6
    have N6 := N5.keepsAll hk6
    clear F5 N5
    repeat walk1
    rename Heap => h7
    rename Fr _ _ _ _ => F7
    rename News _ _ _ _ => N7
    exact hQ h7 _ _ F7 N7
end
noncomputable def posL (O : List (Str × Int)) : List (Str × Int) := O.filter fun e => decide (0 < e.2)
theorem row_pos {ys : List (Str × Value)} {l : List (Str × Int)} {i : Nat} {k : Str} {n : Int} {t : Tok} (A : All2 IntP ys (posL (l.take i))) (hn : (l.map (·.1)).Nodup) (hi : l[i]? = some (k, n)) (hp : 0 < n) : All2 IntP (stored ys k (.int n t)) (posL (l.take (i + 1))) := by
  have h1 : k ∉ ys.map (·.1) := by
    rw [intP_keys A]
    intro hc
    obtain ⟨e, he, hk⟩ := List.mem_map.mp hc
    have he := (List.mem_filter.mp he).1
    have h2 : ((l.map (·.1)).take (i + 1)).Nodup := List.Nodup.sublist (List.take_sublist _ _) hn
    rw [← List.map_take, List.take_add_one, hi, List.map_append] at h2
    exact (List.nodup_append.mp h2).2.2 _ (List.mem_map.mpr ⟨e, he, hk⟩) k (by simp) rfl
  rw [stored_app h1]
  unfold posL at *
  rw [List.take_add_one, hi, List.filter_append]
  show All2 IntP _ (_ ++ List.filter _ [(k, n)])
  rw [List.filter_cons_of_pos (by simpa using hp)]
  exact A.snoc ⟨rfl, t, rfl⟩
theorem row_zero {ys : List (Str × Value)} {l : List (Str × Int)} {i : Nat} {k : Str} {n : Int} (A : All2 IntP ys (posL (l.take i))) (hi : l[i]? = some (k, n)) (hp : ¬ 0 < n) : All2 IntP ys (posL (l.take (i + 1))) := by
  unfold posL at *
  rw [List.take_add_one, hi, List.filter_append]
  show All2 IntP _ (_ ++ List.filter _ [(k, n)])
  rw [List.filter_cons_of_neg (by simpa using hp)]
  simpa using A
section
variable {w : World} {mean : ExcName → Option Value} {mg mb : Str → Option Value} {A : Around} {s : Shared} {E : Value → Shared → Prop} {Q : Flow → Shared → Prop}
set_option maxHeartbeats 400000 in
theorem law_9 {h₀ : Heap} {L a od : Addr} {nm : Str} {cd : Value} {m : Str → Option Value} {oT oN oO oD : Obj} {rest : List (Addr × Obj)} {O : List (Str × Int)} {n1 n2 n3 : Int} {t1 t2 t3 : Tok} (W : WG mean mg mb h₀) (hh : A.handled = none)
    (F : Fr h₀ L s.heap m) (N : News h₀ L s.heap ((L + 1, oT) :: (L + 2, oN) :: (L + 3, oO) :: rest)) (cO : oO.data = .cell (some (.ref od)))
    (hD : (od, oD) ∈ rest) (dD : DIo w oD O) (sD : (od == sysModules) = false) (hO : O.map (·.1) = tasksL) (m1 : m "done" = some (.int n1 t1)) (m2 : m "taken" = some (.int n2 t2)) (m3 : m "put" = some (.int n3 t3))
    (hQ : ∀ h' tk du oU dd oE n u4, Fr h₀ L h' (fun z => if z = "due" then some (.ref du) else m z) → News h₀ L h' ((L + 1, oT) :: (L + 2, oN) :: (L + 3, oO) :: (du, oU) :: (dd, oE) :: rest) → oU.cls = .type "tuple" → oU.data = .seq #[.int n1 t1, .int n2 t2, .int n3 t3, .int (n3 - n2) u4, .ref dd] n → (dd == sysModules) = false → DIo w oE (posL O) → Q .next { s with heap := h', toks := tk }) :
    wpAny (model pw w) A (exec (stLaw 9) (envOfC nm scLaw L a cd)) Q E s := by
  cases A
  cases hh
  have NL := W.T.nolimit
  conv in stLaw 9 => whnf
  have hNrest : ∀ p ∈ rest, s.heap.get? p.1 = some p.2 := fun p hp => (N p (.tail _ (.tail _ (.tail _ hp)))).1
  have cOften : s.heap.IsCell (L + 3) (some (.ref od)) := ⟨oO, (N _ (.tail _ (.tail _ (.head _)))).1, cO⟩
  obtain ⟨kO, hO1, hO2⟩ := id dD
  have hdo : s.heap.DictOf (PySem.strKind pw w) od kO := Heap.dictOf_iff.mpr ⟨_, hNrest _ hD, hO1⟩
  obtain ⟨epO, hdoA⟩ := hdo.dictAt
  have hlen : kO.length = 4 := by rw [hO2.length, ← List.length_map (f := (·.1)), hO]; rfl
  have hOn : (O.map (·.1)).Nodup := by rw [hO]; exact tasks_nodup
  iterate 14 walk1
  refine dc_eval (knd := PySem.strKind pw w) (cl := [("often", L + 3)]) (by with_unfolding_all rfl) (by decide) (by rfl) (by decide) (by intro _ _; rfl) ?_ (by intro _; rfl)
  iterate 1 walk1
  rename News _ _ _ _ => N
  refine wpAny_pyIter_dict sD hdoA ?_
  refine ⟨_, _, _, _, _, _, fun i kv => All2 IntP kv (posL (O.take i)), rfl, SrcU.keys rfl hdoA (fun _ _ e => e) (Nat.le_refl _) (by rw [hlen]; decide), ?_, .nil, ?_, ?_⟩
  · show _ ≤ (s.heap.push _).objs.size
    rw [Heap.size_push]; exact Nat.le_succ _
  · rintro C1 D i v kv m₁ s₁ own E' hi2 ⟨k, xv, hkv, hkey⟩ hz hsub hown F₁ N₁
    have WS : WG mean mg mb s.heap := W.keeps F.keep
    clear W F N
    obtain ⟨⟨ke, n⟩, he, hk1, _⟩ := hO2.at hkv
    have hk1 : k = ke := hk1
    subst hk1
    obtain ⟨tn, rfl⟩ := Value.isStrOf_shape hkey
    refine stK F₁ N₁ (fun h2 F₂ N₂ => ?_)
    refine wpAny_tests_one ?_
    have hD2 : h2.get? od = some oD := F₂.keep _ _ (hNrest _ hD)
    have hg := getI_mem (k := k) (n := n) hOn (List.mem_of_getElem? he)
    iterate 4 walk1
    refine getItem_subscript hD2 dD hg (fun _ _ => ?_)
    iterate 3 walk1
    by_cases hp : 0 < n
    · rw [if_pos (by simpa using hp)]
      iterate 4 walk1
      refine getItem_subscript hD2 dD hg (fun _ _ => ?_)
      refine ⟨k, by simp [PySem.strKind, Value.isStrOf], ?_⟩
      exact .intro (news₂ := []) F₂ (by rw [List.append_nil]; exact N₂) (fun _ h => nomatch h) (row_pos hz hOn he hp)
    · rw [if_neg (by simpa using hp)]
      exact .intro (news₂ := []) F₂ (by rw [List.append_nil]; exact N₂) (fun _ h => nomatch h) (row_zero hz he hp)
  · intro D h5 tk5 kv hk5 hD5 hpl hz
    have e6 : O.take kO.length = O := List.take_of_length_le (by rw [hO2.length]; exact Nat.le_refl _)
    rw [e6] at hz
    obtain ⟨oE, hoE, hdE⟩ := Heap.dictOf_iff.mp hpl
    have N5 := News.put3 (nw := [(D, oE)]) F (fun p hp => by rw [List.mem_singleton.mp hp]; exact ⟨hoE, fresh_at hD5⟩) (N.keepsAll hk5)
    have F5 := F.keeps hk5
    have sE := not_sys (W.keeps F.keep) hD5
    clear F N
    repeat walk1
    rename Heap => h7
    rename Fr _ _ _ _ => F7
    rename News _ _ _ _ => N7
    have K7 : News h₀ L h7 ((L + 1, oT) :: (L + 2, oN) :: (L + 3, oO) :: (h5.objs.size, _) :: (D, oE) :: rest) := fun p hp => N7 p (by
      simp only [List.mem_cons, List.cons_append, List.nil_append] at hp ⊢
      rcases hp with h | h | h | h | h
      · exact .inr (.inl h)
      · exact .inr (.inr (.inl h))
      · exact .inr (.inr (.inr (.inl h)))
      · exact .inl h
      · exact .inr (.inr (.inr (.inr h))))
    exact hQ h7 _ _ _ D oE _ _ F7 K7 rfl rfl sE ⟨_, hdE, hz⟩
end
noncomputable def OrdOk (y : Str) : Prop := (∀ c ∈ y.cps.toList, (⟨#[c]⟩ : Str) ∈ tasksL) ∧ (∀ t ∈ tasksL, ∃ c ∈ y.cps.toList, t = (⟨#[c]⟩ : Str)) ∧ y.length ≤ 10
noncomputable def ordS (k : Int) : Str := Txt.slice "kmsvkms" (some k) (some (k + 4))
noncomputable def backS (y : Str) : Str := Txt.sliceBy y none none (-1, 0)
theorem backS_eq (y : Str) (u : Tok) : Txt.sliceBy y none none (-1, u) = backS y := rfl
theorem ord_ok {k : Int} (h0 : 0 ≤ k) (h1 : k < 4) : OrdOk (ordS k) ∧ OrdOk (backS (ordS k)) := by
  have : k = 0 ∨ k = 1 ∨ k = 2 ∨ k = 3 := by omega
  rcases this with rfl | rfl | rfl | rfl <;> (unfold OrdOk; decide +kernel)
section
variable {w : World} {mean : ExcName → Option Value} {mg mb : Str → Option Value} {A : Around} {s : Shared} {E : Value → Shared → Prop} {Q : Flow → Shared → Prop}
set_option maxHeartbeats 400000 in
theorem law_10 {h₀ : Heap} {L a sc : Addr} {nm : Str} {cd : Value} {m : Str → Option Value} {news : List (Addr × Obj)} {items : Array Value} (W : WG mean mg mb h₀) (hh : A.handled = none) (F : Fr h₀ L s.heap m) (N : News h₀ L s.heap news)
    (hl : h₀.IsList sc items) (hi : ∀ v ∈ items.toList, ∃ n t, v = .int n t) (hsz : items.size ≤ 1000) (mS : m "script" = some (.ref sc))
    (hQ : ∀ h' tk k t, 0 ≤ k → k < 4 → Fr h₀ L h' (fun z => if z = "turn" then some (.int k t) else m z) → News h₀ L h' news → Q .next { s with heap := h', toks := tk }) :
    wpAny (model pw w) A (exec (stLaw 10) (envOfC nm scLaw L a cd)) Q E s := by
  cases A
  cases hh
  have NL := W.T.nolimit
  have BS := W.sum
  conv in stLaw 10 => whnf
  have hl := hl.at fun o e => F.keep _ o e
  have hpack : s.heap.IsList sc items ∧ True := ⟨hl, trivial⟩
  clear hl
  iterate 6 walk1
  refine lc_eval (cl := []) (by with_unfolding_all rfl) (by decide) (by rfl) (by decide) ?_ (by intro _; rfl)
  have hl := hpack.1
  iterate 7 walk1
  refine subscriptTail_ops (Heap.IsList.typeIs (s := { s with heap := s.heap.push _ }) (hl.push _)) list_getitem_lookup
    (wpAny_getItem_list_slice (lo := none) (hi := some 60) (st := none) (hl.push _) (Heap.IsSliceOf.new ..) .none (.int _ _) .none (by simp) ?_ (Nat.le_trans hsz (by decide))) (by with_unfolding_all rfl) (by intro _; with_unfolding_all rfl)
  have hil : ((s.heap.push { cls := .type "slice", data := .fields #[.none, .int 60 s.toks, .none] }).push { cls := .type "list", data := .seq (slicePick items none (some 60) none) }).IsList (s.heap.push { cls := .type "slice", data := .fields #[.none, .int 60 s.toks, .none] }).objs.size (slicePick items none (some 60) none) := ⟨_, Heap.get?_push_size _ rfl, rfl, _, rfl⟩
  have hpk : ∀ b o, s.heap.get? b = some o → ((s.heap.push { cls := .type "slice", data := .fields #[.none, .int 60 s.toks, .none] }).push { cls := .type "list", data := .seq (slicePick items none (some 60) none) }).get? b = some o := fun b o e => Heap.get?_push_of_some _ (Heap.get?_push_of_some _ e)
  have hps : s.heap.objs.size ≤ ((s.heap.push { cls := .type "slice", data := .fields #[.none, .int 60 s.toks, .none] }).push { cls := .type "list", data := .seq (slicePick items none (some 60) none) }).objs.size := by rw [Heap.size_push, Heap.size_push]; omega
  generalize ((s.heap.push { cls := .type "slice", data := .fields #[.none, .int 60 s.toks, .none] }).push { cls := .type "list", data := .seq (slicePick items none (some 60) none) }) = H2 at hil hpk hps ⊢
  generalize (s.heap.push { cls := .type "slice", data := .fields #[.none, .int 60 s.toks, .none] }).objs.size = l2 at hil ⊢
  have hsz2 : (slicePick items none (some 60) none).size ≤ 1000 := Nat.le_trans (slicePick_size_le _ _ _ _) hsz
  refine wpAny_pyIter_list hil ?_
  refine ⟨_, _, _, _, _, _, fun i ys news => news = [] ∧ (∀ v ∈ ys, NatV v), rfl, SrcU.list rfl hil hpk hps (Nat.le_trans hsz2 (by decide)), ?_, fun E' i s' v Q' st h => wpAny_of_eq (by rfl) h, ⟨rfl, List.forall_mem_nil _⟩, ?_, ?_⟩
  · show _ ≤ (H2.push _).objs.size
    rw [Heap.size_push]; exact Nat.le_succ_of_le hps
  · rintro C1 D i v ys _ m₁ s₁ own E' hi2 hv ⟨rfl, hz⟩ hoff hsub hown F₁ N₁
    have hv' : v ∈ (slicePick items none (some 60) none).toList := Array.mem_toList_iff.mpr (Array.mem_of_getElem? hv)
    obtain ⟨x, t, rfl⟩ := hi v (pick_mem hv')
    refine stK F₁ N₁ (fun h2 F₂ N₂ => ?_)
    refine wpAny_tests_nil ?_
    rw [if_pos rfl]
    repeat walk1
    refine .intro F₂ N₂ (fun _ h => nomatch h) ⟨rfl, fun v hv => ?_⟩
    rcases List.mem_append.mp hv with hv | hv
    · exact hz v hv
    · rw [List.mem_singleton.mp hv]
      exact ⟨_, _, rfl, Int.fmod_nonneg_of_pos _ (by decide)⟩
  · intro D h5 tk5 ys _ hk5 hD5 ⟨n, hpl⟩ _ ⟨_, hz⟩
    have F5 := F.keeps hk5
    have N5 := N.keepsAll hk5
    clear F N
    obtain ⟨ns, hns, hs0⟩ := nats_sum hz
    iterate 1 walk1
    refine sum_ints (ys := ys) rfl ⟨_, hpl, rfl, _, rfl⟩ hns (fun h6 tk6 t6 hk6 => ?_)
    have F6 := F5.keeps hk6
    have N6 := N5.keepsAll hk6
    clear F5 N5
    repeat walk1
    rename Heap => h7
    rename Fr _ _ _ _ => F7
    rename News _ _ _ _ => N7
    exact hQ h7 _ _ _ (Int.fmod_nonneg_of_pos _ (by decide)) (Int.fmod_lt_of_pos _ (by decide)) F7 N7
set_option maxHeartbeats 400000 in
theorem law_11 {h₀ : Heap} {L a : Addr} {nm : Str} {cd : Value} {m : Str → Option Value} {news : List (Addr × Obj)} {k : Int} {t : Tok} (W : WG mean mg mb h₀) (hh : A.handled = none) (F : Fr h₀ L s.heap m) (N : News h₀ L s.heap news)
    (h0 : 0 ≤ k) (h1 : k < 4) (mT : m "turn" = some (.int k t))
    (hQ : ∀ h' tk t, Fr h₀ L h' (fun z => if z = "order" then some (.str (ordS k) t) else m z) → News h₀ L h' news → Q .next { s with heap := h', toks := tk }) :
    wpAny (model pw w) A (exec (stLaw 11) (envOfC nm scLaw L a cd)) Q E s := by
  cases A
  cases hh
  have NL := W.T.nolimit
  conv in stLaw 11 => whnf
  have F0 := F
  have N0 := N
  repeat walk1
  refine slice_strN_ss (s := ⟨_, _, _, _, _⟩) F0 N0 (fun h4 t4 k4 F₄ N₄ => ?_) (hsz := ?_)
  · show wpAny _ _ _ _ _ _
    clear F0 N0 F N
    repeat walk1
    rename Heap => h5
    rename Fr _ _ _ _ => F5
    rename News _ _ _ _ => N5
    exact hQ h5 _ _ F5 N5
  · decide +kernel
end
structure RunR (w : World) (rest : List (Addr × Obj)) (T : List Tie) (Lf : Str → Int) (r : Addr) (c : Str → Int) (oR : Obj) (bk : Addr) (oB : Obj) (dk : Addr) (oK : Obj) (mk' : Addr) (oM : Obj) (C : List (Str × Int)) (k1 k2 k3 k4 : Int) (t1 t2 t3 t4 : Tok) (n1 n2 : Nat) : Prop where
  mR : (r, oR) ∈ rest
  cR : oR.cls = .type "tuple"
  dR : oR.data = .seq #[.ref bk, .ref mk'] n1
  mB : (bk, oB) ∈ rest
  cB : oB.cls = .type "tuple"
  dB : oB.data = .seq #[.int k1 t1, .int k2 t2, .int k3 t3, .int k4 t4, .ref dk] n2
  mK : (dk, oK) ∈ rest
  sK : (dk == sysModules) = false
  dK : DIo w oK C
  mM : (mk', oM) ∈ rest
  sM : (mk' == sysModules) = false
  dM : DIo w oM (marksAt T c)
  reach : Reach T Lf c
  stop : ∀ t, t ∈ tasksL → ¬ Enabled T Lf c t
  cinv : CInv C c
  sums : SumsOk T c k1 k2 k3 k4
noncomputable def RunRes (w : World) (rest : List (Addr × Obj)) (T : List Tie) (Lf : Str → Int) (r : Addr) (c : Str → Int) : Prop := ∃ oR bk oB dk oK mk' oM C k1 k2 k3 k4 t1 t2 t3 t4 n1 n2, RunR w rest T Lf r c oR bk oB dk oK mk' oM C k1 k2 k3 k4 t1 t2 t3 t4 n1 n2
theorem RunRes.more {w : World} {rest rest' : List (Addr × Obj)} {T : List Tie} {Lf : Str → Int} {r : Addr} {c : Str → Int} (x : RunRes w rest T Lf r c) (k : ∀ p ∈ rest, p ∈ rest') : RunRes w rest' T Lf r c := by
  obtain ⟨oR, bk, oB, dk, oK, mk', oM, C, k1, k2, k3, k4, t1, t2, t3, t4, n1, n2, y⟩ := x
  exact ⟨oR, bk, oB, dk, oK, mk', oM, C, k1, k2, k3, k4, t1, t2, t3, t4, n1, n2, ⟨k _ y.mR, y.cR, y.dR, k _ y.mB, y.cB, y.dB, k _ y.mK, y.sK, y.dK, k _ y.mM, y.sM, y.dM, y.reach, y.stop, y.cinv, y.sums⟩⟩
section
variable {w : World} {mean : ExcName → Option Value} {mg mb : Str → Option Value} {A : Around} {s : Shared} {E : Value → Shared → Prop}
set_option maxHeartbeats 400000 in
theorem run_res {h₀ : Heap} {L md ld fa : Addr} {m : Str → Option Value} {q1 q2 q3 : Addr × Obj} {oM oLd : Obj} {rest : List (Addr × Obj)} {T : List Tie} {Lv : List (Str × Int)} {y : Str} {ty : Tok} {Q : Value → Shared → Prop} (W : WG mean mg mb h₀) (hroom : A.depth + 5 < recursionLimit) (hh : A.handled = none) (hu : A.units + 60 < cLine)
    (F : Fr h₀ L s.heap m) (N : News h₀ L s.heap (q1 :: q2 :: q3 :: rest)) (hr : NoCell rest) (G : GoodT T) (hT : T.length ≤ 100) (hL : ∀ t, 0 ≤ valI Lv t) (hy : OrdOk y) (hM : (md, oM) ∈ rest) (dM : DIo w oM (marksAt T fun _ => 0)) (sM : (md == sysModules) = false) (hLd : (ld, oLd) ∈ rest) (dLd : DIo w oLd Lv) (sLd : (ld == sysModules) = false)
    (B1 : mg "_law_run" = some (.ref fa))
    (hQ : ∀ h' tk r c rest', Fr h₀ L h' m → News h₀ L h' (q1 :: q2 :: q3 :: rest') → NoCell rest' → (∀ p ∈ rest, p ∈ rest') → RunRes w rest' T (valI Lv) r c → (∀ b o, s.heap.get? b = some o → h'.get? b = some o) → Q (.ref r) { s with heap := h', toks := tk }) :
    wpAny (model pw w) A (call (.ref fa) [.ref md, .ref ld, .str y ty]) Q E s := by
  have hNrest : ∀ p ∈ rest, s.heap.get? p.1 = some p.2 := fun p hp => (N p (.tail _ (.tail _ (.tail _ hp)))).1
  refine of_name B1 (lrun (T := T) (Lf := valI Lv) (L0 := Lv) (W.keeps F.keep) hroom hh hu G hT (fun _ => rfl) hL ⟨sM, oM, hNrest _ hM, dM⟩ ⟨sLd, oLd, hNrest _ hLd, dLd⟩ hy.1 (fun h' tk c C r bk dk mk' k1 k2 k3 k4 t1 t2 t3 t4 hk hR hst hC hS hTr hTb hDk hDm hr1 hr2 hr3 hr4 => ?_))
  obtain ⟨oR, hoR, hcR, n1, hdR⟩ := hTr
  obtain ⟨oB, hoB, hcB, n2, hdB⟩ := hTb
  obtain ⟨sK, oK, hoK, dK⟩ := hDk
  obtain ⟨sM', oM', hoM', dM'⟩ := hDm
  have hstop : ∀ t, t ∈ tasksL → ¬ Enabled T (valI Lv) c t := fun t ht => by
    obtain ⟨x, hx, rfl⟩ := hy.2.1 t ht
    exact hst x hx
  have k0 := N.keepsAll hk
  rcases hr4 with rfl | hr4
  · have eM : oM' = oM := Option.some.inj (hoM'.symm.trans (hk _ _ (hNrest _ hM)))
    subst eM
    have N5 := News.put3 (nw := [(r, oR), (bk, oB), (dk, oK)]) F (fun p hp => by
      simp only [List.mem_cons, List.not_mem_nil, or_false] at hp
      rcases hp with rfl | rfl | rfl
      · exact ⟨hoR, hr1⟩
      · exact ⟨hoB, hr2⟩
      · exact ⟨hoK, hr3⟩) k0
    refine hQ h' tk r c _ (F.keeps hk) N5 (fun p hp => ?_) (fun p hp => List.mem_append_right _ hp) ⟨oR, bk, oB, dk, oK, mk', oM', C, k1, k2, k3, k4, t1, t2, t3, t4, n1, n2, ⟨.head _, hcR, hdR, .tail _ (.head _), hcB, hdB, .tail _ (.tail _ (.head _)), sK, dK, List.mem_append_right _ hM, sM', dM', hR, hstop, hC, hS⟩⟩ hk
    rcases List.mem_append.mp hp with hp | hp
    · simp only [List.mem_cons, List.not_mem_nil, or_false] at hp
      rcases hp with rfl | rfl | rfl
      · rw [hdR]; exact fun _ h => Data.noConfusion h
      · rw [hdB]; exact fun _ h => Data.noConfusion h
      · exact dK.not_cell
    · exact hr p hp
  · have N5 := News.put3 (nw := [(r, oR), (bk, oB), (dk, oK), (mk', oM')]) F (fun p hp => by
      simp only [List.mem_cons, List.not_mem_nil, or_false] at hp
      rcases hp with rfl | rfl | rfl | rfl
      · exact ⟨hoR, hr1⟩
      · exact ⟨hoB, hr2⟩
      · exact ⟨hoK, hr3⟩
      · exact ⟨hoM', hr4⟩) k0
    refine hQ h' tk r c _ (F.keeps hk) N5 (fun p hp => ?_) (fun p hp => List.mem_append_right _ hp) ⟨oR, bk, oB, dk, oK, mk', oM', C, k1, k2, k3, k4, t1, t2, t3, t4, n1, n2, ⟨.head _, hcR, hdR, .tail _ (.head _), hcB, hdB, .tail _ (.tail _ (.head _)), sK, dK, .tail _ (.tail _ (.tail _ (.head _))), sM', dM', hR, hstop, hC, hS⟩⟩ hk
    rcases List.mem_append.mp hp with hp | hp
    · simp only [List.mem_cons, List.not_mem_nil, or_false] at hp
      rcases hp with rfl | rfl | rfl | rfl
      · rw [hdR]; exact fun _ h => Data.noConfusion h
      · rw [hdB]; exact fun _ h => Data.noConfusion h
      · exact dK.not_cell
      · exact dM'.not_cell
    · exact hr p hp
end
section
variable {w : World} {mean : ExcName → Option Value} {mg mb : Str → Option Value} {A : Around} {s : Shared} {E : Value → Shared → Prop} {Q : Flow → Shared → Prop}
set_option maxHeartbeats 400000 in
theorem law_12 {h₀ : Heap} {L a md ld : Addr} {nm : Str} {cd : Value} {m : Str → Option Value} {q1 q2 q3 : Addr × Obj} {oM oLd : Obj} {rest : List (Addr × Obj)} {T : List Tie} {Lv : List (Str × Int)} {y : Str} {ty : Tok} (W : WG mean mg mb h₀) (hroom : A.depth + 5 < recursionLimit) (hh : A.handled = none) (hu : A.units + 60 < cLine)
    (F : Fr h₀ L s.heap m) (N : News h₀ L s.heap (q1 :: q2 :: q3 :: rest)) (hr : NoCell rest) (G : GoodT T) (hT : T.length ≤ 100) (hL : ∀ t, 0 ≤ valI Lv t) (hy : OrdOk y) (hM : (md, oM) ∈ rest) (dM : DIo w oM (marksAt T fun _ => 0)) (sM : (md == sysModules) = false) (hLd : (ld, oLd) ∈ rest) (dLd : DIo w oLd Lv) (sLd : (ld == sysModules) = false)
    (mM : m "marks" = some (.ref md)) (mA : m "allowed" = some (.ref ld)) (mO : m "order" = some (.str y ty))
    (hQ : ∀ h' tk r c rest', Fr h₀ L h' (fun z => if z = "first" then some (.ref r) else m z) → News h₀ L h' (q1 :: q2 :: q3 :: rest') → NoCell rest' → (∀ p ∈ rest, p ∈ rest') → RunRes w rest' T (valI Lv) r c → Q .next { s with heap := h', toks := tk }) :
    wpAny (model pw w) A (exec (stLaw 12) (envOfC nm scLaw L a cd)) Q E s := by
  cases A
  cases hh
  have NL := W.T.nolimit
  obtain ⟨fa, oa, fda, B1, B2, B3⟩ := fn_name W rec76 (n := "_law_run") (by kernel_rfl)
  conv in stLaw 12 => whnf
  iterate 11 walk1
  refine run_res W hroom rfl hu F N hr G hT hL hy hM dM sM hLd dLd sLd B1 (fun h5 tk5 r c rest' F5 N5 hr5 hsub hres _ => ?_)
  refine wpAny_storeName_local (by rfl) F5.ns (fun h2 hn2 hs2 => ?_) (by rfl)
  exact hQ h2 _ r c rest' (F5.set hn2 hs2) (N5.set hs2) hr5 hsub hres
set_option maxHeartbeats 400000 in
theorem law_13 {h₀ : Heap} {L a md ld : Addr} {nm : Str} {cd : Value} {m : Str → Option Value} {q1 q2 q3 : Addr × Obj} {oM oLd : Obj} {rest : List (Addr × Obj)} {T : List Tie} {Lv : List (Str × Int)} {y : Str} {ty : Tok} (W : WG mean mg mb h₀) (hroom : A.depth + 5 < recursionLimit) (hh : A.handled = none) (hu : A.units + 60 < cLine)
    (F : Fr h₀ L s.heap m) (N : News h₀ L s.heap (q1 :: q2 :: q3 :: rest)) (hr : NoCell rest) (G : GoodT T) (hT : T.length ≤ 100) (hL : ∀ t, 0 ≤ valI Lv t) (hyl : y.length ≤ 10) (hy : OrdOk (backS y)) (hM : (md, oM) ∈ rest) (dM : DIo w oM (marksAt T fun _ => 0)) (sM : (md == sysModules) = false) (hLd : (ld, oLd) ∈ rest) (dLd : DIo w oLd Lv) (sLd : (ld == sysModules) = false)
    (mM : m "marks" = some (.ref md)) (mA : m "allowed" = some (.ref ld)) (mO : m "order" = some (.str y ty))
    (hQ : ∀ h' tk r c rest', Fr h₀ L h' (fun z => if z = "second" then some (.ref r) else m z) → News h₀ L h' (q1 :: q2 :: q3 :: rest') → NoCell rest' → (∀ p ∈ rest, p ∈ rest') → RunRes w rest' T (valI Lv) r c → Q .next { s with heap := h', toks := tk }) :
    wpAny (model pw w) A (exec (stLaw 13) (envOfC nm scLaw L a cd)) Q E s := by
  cases A
  cases hh
  have NL := W.T.nolimit
  obtain ⟨fa, oa, fda, B1, B2, B3⟩ := fn_name W rec76 (n := "_law_run") (by kernel_rfl)
  conv in stLaw 13 => whnf
  repeat walk1
  rename Fr _ _ _ _ => F₄
  rename News _ _ _ _ => N₄
  rw [backS_eq]
  refine run_res W hroom rfl hu F₄ N₄ hr G hT hL hy hM dM sM hLd dLd sLd B1 (fun h5 tk5 r c rest' F5 N5 hr5 hsub hres _ => ?_)
  refine wpAny_storeName_local (by rfl) F5.ns (fun h2 hn2 hs2 => ?_) (by rfl)
  exact hQ h2 _ r c rest' (F5.set hn2 hs2) (N5.set hs2) hr5 hsub hres
end
open PySem PySem.W PyProof.Rows
theorem sum_filter_zero {c : Str → Int} : ∀ {l : List Str}, (l.map c).sum = ((l.filter fun t => decide (c t ≠ 0)).map c).sum
  | [] => rfl
  | x :: l => by
    rw [List.map_cons, List.sum_cons, sum_filter_zero (l := l)]
    by_cases h : c x = 0
    · rw [List.filter_cons_of_neg (by simpa using h), h, Int.zero_add]
    · rw [List.filter_cons_of_pos (by simpa using h), List.map_cons, List.sum_cons]
theorem sum_perm {c : Str → Int} : ∀ {l m : List Str}, l.Nodup → m.Nodup → (∀ x, x ∈ l ↔ x ∈ m) → (l.map c).sum = (m.map c).sum
  | [], m, _, _, h => by
    cases m with
    | nil => rfl
    | cons x m => exact absurd ((h x).mpr (.head _)) (by simp)
  | x :: l, m, hl, hm, h => by
    have hx : x ∈ m := (h x).mp (.head _)
    rw [List.nodup_cons] at hl
    have e : (m.map c).sum = c x + ((m.erase x).map c).sum := by
      clear h hl
      induction m with
      | nil => cases hx
      | cons y m ih =>
        rw [List.nodup_cons] at hm
        by_cases hy : y = x
        · subst hy
          rw [List.erase_cons_head, List.map_cons, List.sum_cons]
        · rw [List.erase_cons_tail (by simpa using hy), List.map_cons, List.sum_cons, List.map_cons, List.sum_cons]
          rcases List.mem_cons.mp hx with rfl | hx
          · exact absurd rfl hy
          · rw [ih hm.2 hx]; omega
    rw [List.map_cons, List.sum_cons, e, sum_perm hl.2 (hm.erase x) (fun y => ?_)]
    rw [hm.mem_erase_iff]
    constructor
    · intro hy
      exact ⟨fun e => hl.1 (e ▸ hy), (h y).mp (.tail _ hy)⟩
    · rintro ⟨h1, h2⟩
      rcases List.mem_cons.mp ((h y).mpr h2) with h3 | h3
      · exact absurd h3 h1
      · exact h3
section
variable {T : List Tie} {c : Str → Int} {O C : List (Str × Int)}
theorem O_val (hO : O = tasksL.map fun t => (t, c t)) {t : Str} (ht : t ∈ tasksL) : valI O t = c t := by
  subst hO
  unfold valI
  rw [getI_mem (n := c t) (by rw [List.map_map]; simpa [Function.comp_def] using tasks_nodup) (List.mem_map.mpr ⟨t, ht, rfl⟩)]
  rfl
theorem O_keys (hO : O = tasksL.map fun t => (t, c t)) : O.map (·.1) = tasksL := by
  subst hO
  rw [List.map_map]
  simp [Function.comp_def]
theorem O_sum (hO : O.map (·.1) = tasksL) : (O.map (·.2)).sum = sumT (valI O) := by
  unfold sumT
  have hn : (O.map (·.1)).Nodup := by rw [hO]; exact tasks_nodup
  rw [← hO, List.map_map]
  congr 1
  apply List.map_congr_left
  intro e he
  show e.2 = valI O e.1
  unfold valI
  rw [getI_mem (n := e.2) hn he]
  rfl
theorem sumT_eq (hO : O = tasksL.map fun t => (t, c t)) : sumT c = sumT (valI O) := by
  unfold sumT
  congr 1
  exact List.map_congr_left fun t ht => (O_val hO ht).symm
theorem sumA_eq (G : GoodT T) (hO : O = tasksL.map fun t => (t, c t)) : sumA T c = sumA T (valI O) := by
  unfold sumA
  congr 1
  exact List.map_congr_left fun e he => (O_val hO (G.ta e he)).symm
theorem sumB_eq (G : GoodT T) (hO : O = tasksL.map fun t => (t, c t)) : sumB T c = sumB T (valI O) := by
  unfold sumB
  congr 1
  exact List.map_congr_left fun e he => (O_val hO (G.tb e he)).symm
theorem marks_eq (G : GoodT T) (hO : O = tasksL.map fun t => (t, c t)) : marksAt T c = marksAt T (valI O) := by
  unfold marksAt mk
  exact List.map_congr_left fun e he => by rw [O_val hO (G.ta e he), O_val hO (G.tb e he)]
theorem pos_eq (hO : O = tasksL.map fun t => (t, c t)) : posL O = (tasksL.filter fun t => decide (0 < c t)).map fun t => (t, c t) := by
  subst hO
  unfold posL
  rw [List.filter_map]
  rfl
theorem C_same (hC : CInv C c) (hp : ∀ t, 0 ≤ c t) (hO : O = tasksL.map fun t => (t, c t)) : SameD C (posL O) ∧ (C.map (·.2)).sum = sumT (valI O) := by
  rw [← sumT_eq hO, pos_eq hO]
  obtain ⟨ks, h1, h2, rfl, h3, h4⟩ := hC
  have hm : ∀ x, x ∈ ks ↔ x ∈ tasksL.filter fun t => decide (0 < c t) := fun x => by
    rw [List.mem_filter, decide_eq_true_iff]
    constructor
    · exact fun h => ⟨h2 x h, h3 x h⟩
    · rintro ⟨_, h⟩
      by_cases hx : x ∈ ks
      · exact hx
      · rw [h4 x hx] at h; omega
  have hn : (tasksL.filter fun t => decide (0 < c t)).Nodup := List.Nodup.sublist List.filter_sublist tasks_nodup
  refine ⟨⟨?_, fun e he => ?_⟩, ?_⟩
  · rw [List.length_map, List.length_map]
    exact Nat.le_antisymm (length_sub _ _ h1 fun x hx => (hm x).mp hx) (length_sub _ _ hn fun x hx => (hm x).mpr hx)
  · obtain ⟨t, ht, rfl⟩ := List.mem_map.mp he
    exact getI_mem (by rw [List.map_map]; simpa [Function.comp_def] using hn) (List.mem_map.mpr ⟨t, (hm t).mp ht, rfl⟩)
  · rw [List.map_map]
    show (ks.map c).sum = sumT c
    unfold sumT
    rw [sum_filter_zero (l := tasksL)]
    refine sum_perm h1 (List.Nodup.sublist List.filter_sublist tasks_nodup) fun x => ?_
    rw [hm x, List.mem_filter, List.mem_filter, decide_eq_true_iff, decide_eq_true_iff]
    constructor
    · rintro ⟨a, b⟩; exact ⟨a, by omega⟩
    · rintro ⟨a, b⟩; exact ⟨a, by have := hp x; omega⟩
theorem marks_sum (T : List Tie) (c : Str → Int) : ((marksAt T c).map (·.2)).sum = ((marksAt T fun _ => 0).map (·.2)).sum + (sumA T c - sumB T c) := by
  unfold marksAt sumA sumB
  rw [List.map_map, List.map_map]
  induction T with
  | nil => rfl
  | cons e T ih =>
    simp only [List.map_cons, List.sum_cons, Function.comp_def, mk] at ih ⊢
    omega
end
structure RunI (w : World) (rest : List (Addr × Obj)) (T : List Tie) (O : List (Str × Int)) (r : Addr) (oR : Obj) (bk : Addr) (oB : Obj) (dk : Addr) (oK : Obj) (mk' : Addr) (oM : Obj) (C : List (Str × Int)) (t1 t2 t3 t4 : Tok) (n1 n2 : Nat) : Prop where
  mR : (r, oR) ∈ rest
  cR : oR.cls = .type "tuple"
  dR : oR.data = .seq #[.ref bk, .ref mk'] n1
  mB : (bk, oB) ∈ rest
  cB : oB.cls = .type "tuple"
  dB : oB.data = .seq #[.int (sumT (valI O)) t1, .int (sumB T (valI O)) t2, .int (sumA T (valI O)) t3, .int (sumA T (valI O) - sumB T (valI O)) t4, .ref dk] n2
  mK : (dk, oK) ∈ rest
  sK : (dk == sysModules) = false
  dK : DIo w oK C
  same : SameD C (posL O)
  sum : (C.map (·.2)).sum = sumT (valI O)
  len : C.length ≤ 4
  mM : (mk', oM) ∈ rest
  sM : (mk' == sysModules) = false
  dM : DIo w oM (marksAt T (valI O))
noncomputable def RunIs (w : World) (rest : List (Addr × Obj)) (T : List Tie) (O : List (Str × Int)) (r : Addr) : Prop := ∃ oR bk oB dk oK mk' oM C t1 t2 t3 t4 n1 n2, RunI w rest T O r oR bk oB dk oK mk' oM C t1 t2 t3 t4 n1 n2
theorem RunRes.told {w : World} {rest : List (Addr × Obj)} {T : List Tie} {Lf : Str → Int} {r : Addr} {c : Str → Int} (G : GoodT T) (hw : ∀ e ∈ T, 0 ≤ e.w) (hL : ∀ t, 0 ≤ Lf t) (x : RunRes w rest T Lf r c) : RunIs w rest T (oftenK T Lf 3) r := by
  obtain ⟨oR, bk, oB, dk, oK, mk', oM, C, k1, k2, k3, k4, t1, t2, t3, t4, n1, n2, y⟩ := x
  have hO := often_end G hw y.reach hL y.stop
  obtain ⟨e1, e2, e3, e4⟩ := y.sums
  have hs := C_same y.cinv (fun t => (y.reach.le hL t).1) hO
  refine ⟨oR, bk, oB, dk, oK, mk', oM, C, t1, t2, t3, t4, n1, n2, ⟨y.mR, y.cR, y.dR, y.mB, y.cB, ?_, y.mK, y.sK, y.dK, hs.1, hs.2, y.cinv.keys.2, y.mM, y.sM, ?_⟩⟩
  · rw [← sumT_eq hO, ← sumA_eq G hO, ← sumB_eq G hO, ← e1, ← e2, ← e3, ← e4' e3 e2 e4]
    exact y.dB
  · rw [← marks_eq G hO]; exact y.dM
where e4' {a b d x y : Int} (h1 : a = x) (h2 : b = y) (h3 : d = x - y) : d = a - b := by omega
structure DueI (w : World) (rest : List (Addr × Obj)) (T : List Tie) (O : List (Str × Int)) (du : Addr) (oU : Obj) (dd : Addr) (oE : Obj) (lf : Addr) (oF : Obj) (t1 t2 t3 t4 : Tok) (n : Nat) : Prop where
  mU : (du, oU) ∈ rest
  cU : oU.cls = .type "tuple"
  dU : oU.data = .seq #[.int (sumT (valI O)) t1, .int (sumB T (valI O)) t2, .int (sumA T (valI O)) t3, .int (sumA T (valI O) - sumB T (valI O)) t4, .ref dd] n
  mE : (dd, oE) ∈ rest
  sE : (dd == sysModules) = false
  dE : DIo w oE (posL O)
  mF : (lf, oF) ∈ rest
  sF : (lf == sysModules) = false
  dF : DIo w oF (marksAt T (valI O))
noncomputable def DueIs (w : World) (rest : List (Addr × Obj)) (T : List Tie) (O : List (Str × Int)) (du lf : Addr) : Prop := ∃ oU dd oE oF t1 t2 t3 t4 n, DueI w rest T O du oU dd oE lf oF t1 t2 t3 t4 n
section
variable {w : World} {mean : ExcName → Option Value} {mg mb : Str → Option Value} {A : Around} {s : Shared} {E : Value → Shared → Prop} {Q : Flow → Shared → Prop}
theorem in1_lt {A : Around} (hu : A.units + 60 < cLine) : A.in1.units < cLine := Nat.lt_of_le_of_lt (by show _ ≤ A.units + 60; simp) hu
theorem in2_lt {A : Around} (hu : A.units + 60 < cLine) : A.in1.in1.units < cLine := Nat.lt_of_le_of_lt (by show _ ≤ A.units + 60; simp) hu
theorem told_ne {r du lf p : Addr} {rest : List (Addr × Obj)} {T : List Tie} {O : List (Str × Int)} {Q : Value → Shared → Prop} (hN : ∀ p ∈ rest, s.heap.get? p.1 = some p.2) (R : RunIs w rest T O r) (D : DueIs w rest T O du lf) (hG : ((marksAt T (valI O)).map (·.1)).Nodup)
    (hp : IsTup s.heap p #[.ref du, .ref lf]) (hu : A.units < cLine) (hu1 : A.in1.units < cLine) (hu2 : A.in1.in1.units < cLine) (h : Q (.bool false) s) :
    wpAny (model pw w) A (compareOp .NotEq (.ref r) (.ref p)) Q E s := by
  obtain ⟨oR, bk, oB, dk, oK, mk', oM, C, t1, t2, t3, t4, n1, n2, y⟩ := R
  obtain ⟨oU, dd, oE, oF, u1, u2, u3, u4, n, z⟩ := D
  exact res_ne ⟨oR, hN _ y.mR, y.cR, n1, y.dR⟩ hp ⟨oB, hN _ y.mB, y.cB, n2, y.dB⟩ ⟨oU, hN _ z.mU, z.cU, n, z.dU⟩ ⟨y.sK, oK, hN _ y.mK, y.dK⟩ ⟨z.sE, oE, hN _ z.mE, z.dE⟩ ⟨y.sM, oM, hN _ y.mM, y.dM⟩ ⟨z.sF, oF, hN _ z.mF, z.dF⟩ y.same (.refl hG) hu hu1 hu2 h
set_option maxHeartbeats 400000 in
theorem law_14 {h₀ : Heap} {L a r1 r2 du lf : Addr} {nm : Str} {cd : Value} {m : Str → Option Value} {q1 q2 q3 : Addr × Obj} {rest : List (Addr × Obj)} {T : List Tie} {O : List (Str × Int)} (W : WG mean mg mb h₀) (hh : A.handled = none) (hu : A.units + 60 < cLine)
    (F : Fr h₀ L s.heap m) (N : News h₀ L s.heap (q1 :: q2 :: q3 :: rest)) (hG : ((marksAt T (valI O)).map (·.1)).Nodup) (R1 : RunIs w rest T O r1) (R2 : RunIs w rest T O r2) (D : DueIs w rest T O du lf)
    (mF : m "first" = some (.ref r1)) (mS : m "second" = some (.ref r2)) (mD : m "due" = some (.ref du)) (mL : m "left" = some (.ref lf))
    (hQ : ∀ h' tk, Fr h₀ L h' m → News h₀ L h' (q1 :: q2 :: q3 :: rest) → Q .next { s with heap := h', toks := tk }) :
    wpAny (model pw w) A (exec (stLaw 14) (envOfC nm scLaw L a cd)) Q E s := by
  cases A
  cases hh
  have NL := W.T.nolimit
  conv in stLaw 14 => whnf
  iterate 11 walk1
  rename Heap => h2
  rename Fr _ _ _ _ => F2
  rename News _ _ _ _ => N2
  have g2 : ∀ p ∈ rest, h2.get? p.1 = some p.2 := fun p hp => (N2 p (.tail _ (.tail _ (.tail _ (.tail _ hp))))).1
  refine told_ne g2 R1 D hG (N2.isTup (.head _)) (Nat.lt_of_le_of_lt (Nat.le_add_right _ _) hu) (in1_lt hu) (in2_lt hu) ?_
  have N3 : News h₀ L h2 (q1 :: q2 :: q3 :: rest) := fun p hp => N2 p (.tail _ hp)
  clear F N N2
  iterate 1 walk1
  rw [if_neg (by decide)]
  iterate 10 walk1
  rename Heap => h4
  rename Fr _ _ _ _ => F4
  rename News _ _ _ _ => N4
  have g4 : ∀ p ∈ rest, h4.get? p.1 = some p.2 := fun p hp => (N4 p (.tail _ (.tail _ (.tail _ (.tail _ hp))))).1
  refine told_ne g4 R2 D hG (N4.isTup (.head _)) (Nat.lt_of_le_of_lt (Nat.le_add_right _ _) hu) (in1_lt hu) (in2_lt hu) ?_
  have N5 : News h₀ L h4 (q1 :: q2 :: q3 :: rest) := fun p hp => N4 p (.tail _ hp)
  clear N4 N3 F2
  iterate 1 walk1
  rw [if_neg (by decide)]
  repeat walk1
  exact hQ _ _ F4 N5
set_option maxHeartbeats 400000 in
theorem law_15 {h₀ : Heap} {L a r1 bk mk' : Addr} {oR : Obj} {n1 : Nat} {nm : Str} {cd : Value} {m : Str → Option Value} {news : List (Addr × Obj)} (W : WG mean mg mb h₀) (hh : A.handled = none)
    (F : Fr h₀ L s.heap m) (N : News h₀ L s.heap news) (mR : (r1, oR) ∈ news) (cR : oR.cls = .type "tuple") (dR : oR.data = .seq #[.ref bk, .ref mk'] n1) (mF : m "first" = some (.ref r1))
    (hQ : ∀ h' tk m', Fr h₀ L h' m' → News h₀ L h' news → m' "book" = some (.ref bk) → m' "rest" = some (.ref mk') → (∀ q : Str, q ≠ "book" → q ≠ "rest" → m' q = m q) → Q .next { s with heap := h', toks := tk }) :
    wpAny (model pw w) A (exec (stLaw 15) (envOfC nm scLaw L a cd)) Q E s := by
  cases A
  cases hh
  have NL := W.T.nolimit
  conv in stLaw 15 => whnf
  iterate 2 walk1
  refine unpack2 F N ⟨oR, (N _ mR).1, cR, n1, dR⟩ rfl (fun h6 tk6 F6 N6 => ?_)
  refine hQ h6 _ _ F6 N6 (by kernel_rfl) (by kernel_rfl) (fun q hq1 hq2 => ?_)
  show (if q = "rest" then _ else if q = "book" then _ else m q) = m q
  rw [if_neg hq2, if_neg hq1]
set_option maxHeartbeats 400000 in
theorem law_16 {h₀ : Heap} {L a bk dk mk' md : Addr} {oB oK oM oMd : Obj} {n2 : Nat} {k1 k2 k3 k4 n0 : Int} {t1 t2 t3 t4 t0 : Tok} {nm : Str} {cd : Value} {m : Str → Option Value} {news : List (Addr × Obj)} {C M M0 : List (Str × Int)} (W : WG mean mg mb h₀) (hroom : A.depth + 3 < recursionLimit) (hh : A.handled = none)
    (F : Fr h₀ L s.heap m) (N : News h₀ L s.heap news) (mB : (bk, oB) ∈ news) (cB : oB.cls = .type "tuple") (dB : oB.data = .seq #[.int k1 t1, .int k2 t2, .int k3 t3, .int k4 t4, .ref dk] n2)
    (mK : (dk, oK) ∈ news) (sK : (dk == sysModules) = false) (dK : DIo w oK C) (mM : (mk', oM) ∈ news) (sM : (mk' == sysModules) = false) (dM : DIo w oM M) (mD : (md, oMd) ∈ news) (sD : (md == sysModules) = false) (dD : DIo w oMd M0)
    (e1 : m "book" = some (.ref bk)) (e2 : m "rest" = some (.ref mk')) (e3 : m "marks" = some (.ref md)) (e4 : m "done" = some (.int n0 t0)) (h1 : sumI C = n0) (h2 : sumI M = sumI M0 + k4)
    (hQ : ∀ h' tk, Fr h₀ L h' m → Q (.ret (.bool true)) { s with heap := h', toks := tk }) :
    wpAny (model pw w) A (exec (stLaw 16) (envOfC nm scLaw L a cd)) Q E s := by
  cases A
  cases hh
  have NL := W.T.nolimit
  obtain ⟨fa, oa, fda, B1, B2, B3⟩ := fn_name W rec4 (n := "count_calls") (by kernel_rfl)
  conv in stLaw 16 => whnf
  have hB : IsTup s.heap bk #[.int k1 t1, .int k2 t2, .int k3 t3, .int k4 t4, .ref dk] := ⟨oB, (N _ mB).1, cB, n2, dB⟩
  have D1 : DI w s.heap dk C := ⟨sK, oK, (N _ mK).1, dK⟩
  have D2 : DI w s.heap mk' M := ⟨sM, oM, (N _ mM).1, dM⟩
  have D3 : DI w s.heap md M0 := ⟨sD, oMd, (N _ mD).1, dD⟩
  clear N
  iterate 10 walk1
  refine PyProof.Rows.tail_any hB.typeIs PyProof.Rows.slot_tuple_getitem.lookup (PyProof.Rows.getItem_tuple (j := 4) (x := .ref dk) hB (by decide) (by decide) (by rfl) (by rfl) ?_) (by with_unfolding_all rfl)
  iterate 1 walk1
  refine of_name B1 (countc (s := { s with toks := s.toks + 1 }) (W.keeps F.keep) (Nat.lt_of_le_of_lt (Nat.le_add_right _ _) hroom) rfl D1 (fun h5 tk5 u5 hk5 => ?_))
  have F5 := F.keeps hk5
  have hB5 := hB.keeps hk5
  have D25 := DI.keep D2 hk5
  have D35 := DI.keep D3 hk5
  clear F hB D1 D2 D3
  iterate 3 walk1
  rw [if_pos (by simpa using h1)]
  iterate 8 walk1
  refine of_name B1 (countc (s := { s with heap := h5, toks := tk5 }) (W.keeps F5.keep) (Nat.lt_of_le_of_lt (Nat.le_add_right _ _) hroom) rfl D25 (fun h6 tk6 u6 hk6 => ?_))
  have F6 := F5.keeps hk6
  have hB6 := hB5.keeps hk6
  have D36 := DI.keep D35 hk6
  clear F5 hB5 D25 D35
  iterate 7 walk1
  refine of_name B1 (countc (s := { s with heap := h6, toks := tk6 }) (W.keeps F6.keep) (Nat.lt_of_le_of_lt (Nat.le_add_right _ _) hroom) rfl D36 (fun h7 tk7 u7 hk7 => ?_))
  have F7 := F6.keeps hk7
  have hB7 := hB6.keeps hk7
  clear F6 hB6 D36
  iterate 3 walk1
  refine PyProof.Rows.tail_any hB7.typeIs PyProof.Rows.slot_tuple_getitem.lookup (PyProof.Rows.getItem_tuple (j := 3) (x := .int k4 t4) hB7 (by decide) (by decide) (by rfl) (by rfl) ?_) (by with_unfolding_all rfl)
  repeat walk1
  rw [show (sumI M == sumI M0 + k4) = true by simpa using h2]
  exact hQ _ _ F7
end
open PySem PySem.W PyProof.Rows PySem.Calls
theorem items_ints {R : WRecords} {cl : Str → Option Addr} {h : Heap} : ∀ {xs : List WData} {vs : List Value} {as : List Addr}, WShape.hasItems R xs .int = true → ReadsAllW R cl h vs xs as → (∀ v ∈ vs, ∃ n t, v = .int n t) ∧ vs.length = xs.length
  | [], vs, as, _, r => by
    obtain ⟨rfl, _⟩ := readsAllW_nil_inv r
    exact ⟨fun v hv => (nomatch hv), rfl⟩
  | d :: ds, vs, as, hx, r => by
    obtain ⟨v, vs', a1, a2, rfl, _, r1, r2⟩ := readsAllW_cons_inv r
    have hx' : WShape.has R d .int = true ∧ WShape.hasItems R ds .int = true := by simpa [WShape.hasItems] using hx
    obtain ⟨i, rfl⟩ := hasW_int hx'.1
    obtain ⟨t, rfl, _⟩ := readsW_int_inv r1
    obtain ⟨h1, h2⟩ := items_ints hx'.2 r2
    exact ⟨fun v hv => by
      rcases List.mem_cons.mp hv with rfl | hv
      · exact ⟨_, _, rfl⟩
      · exact h1 v hv, by rw [List.length_cons, List.length_cons, h2]⟩
theorem args_open {cl : Str → Option Addr} {h : Heap} {args : List WData} {vs : List Value} {as : List Addr} (hpre : RR.claim.pre args = true) (hrd : ReadsAllW [] cl h vs args as) :
    ∃ l items, vs = [.ref l] ∧ h.IsList l items ∧ (∀ v ∈ items.toList, ∃ n t, v = .int n t) ∧ items.size ≤ 1000 := by
  obtain ⟨hsh, hcond⟩ := pre_splitW hpre
  obtain ⟨d, r, rfl, hd, hr⟩ := hasAllW_cons (show WShape.hasAll _ args [.list .int] = true from hsh)
  obtain rfl := hasAllW_nil hr
  obtain ⟨xs, rfl, hxs⟩ := hasW_list hd
  obtain ⟨v, vs', a1, a2, rfl, _, r1, r2⟩ := readsAllW_cons_inv hrd
  obtain ⟨rfl, _⟩ := readsAllW_nil_inv r2
  obtain ⟨l, items, as', rfl, hl, ri, _⟩ := readsW_list_inv r1
  obtain ⟨h1, h2⟩ := items_ints hxs ri
  refine ⟨l, items, rfl, hl, h1, ?_⟩
  have hc := (holds_andW (show (WTm.and (.not (.lt (.lit (.int (63 : Nat))) (.len (.arg 0)))) (.lit (.bool true))).holds [] _ = true from hcond)).1
  have h3 : xs.length ≤ 63 := by
    apply Nat.le_of_not_lt
    intro hlt
    have hlt' : (63 : Int) < xs.length := by omega
    simp [WTm.holds, WTm.value] at hc
    rw [show less? (WData.int 63) (WData.int (xs.length : Int)) = some (decide ((63 : Int) < xs.length)) from rfl, decide_eq_true hlt'] at hc
    simp at hc
  rw [Array.length_toList] at h2
  omega
noncomputable def LawWalk : Prop := ∀ (w : World) (mean : ExcName → Option Value) (mg mb : Str → Option Value) (A : Around) (s : Shared) (sc : Addr) (items : Array Value) (E : Value → Shared → Prop) (Q : Value → Shared → Prop), WG mean mg mb s.heap → TopsF w mg s.heap → A.depth + 10 < recursionLimit → A.handled = none → A.units + 200 < cLine →
  s.heap.IsList sc items → (∀ v ∈ items.toList, ∃ n t, v = .int n t) → items.size ≤ 1000 → (∀ h' tk, (∀ b o, s.heap.get? b = some o → h'.get? b = some o) → Q (.bool true) { s with heap := h', toks := tk }) →
  ∃ f, mg "law" = some (.ref f) ∧ wpAny (model pw w) A (call (.ref f) [.ref sc]) Q E s
theorem walk_of (H : LawWalk) : WalkGoal := by
  intro w s₀ s₁ mg mb G TF hgens args vs as hpre _ hrd _ _
  obtain ⟨mean, W⟩ := wg_of G
  obtain ⟨l, items, rfl, hl, hi, hsz⟩ := args_open hpre hrd
  have hQ : ∀ h' tk, (∀ b o, s₁.heap.get? b = some o → h'.get? b = some o) → GoodW RR.claim (classAt s₀.heap) (ExcName.means s₀.heap) args s₁ (.ok (.ret (.bool true))) { s₁ with heap := h', toks := tk } := fun h' tk hk =>
    ⟨.inl ⟨.bool true, .bool true, [], rfl, fun _ => rfl, .bool true, postW_of (by wrow_shape) (by wtm_val) (by w_fin), fun _ => ⟨List.nodup_nil, fun a ha => (nomatch ha)⟩⟩, hk, rfl, hgens⟩
  obtain ⟨f, hf, hw⟩ := H w mean mg mb callerA s₁ l items (fun e s' => GoodW RR.claim (classAt s₀.heap) (ExcName.means s₀.heap) args s₁ (.error e) s') (fun v s' => GoodW RR.claim (classAt s₀.heap) (ExcName.means s₀.heap) args s₁ (.ok (.ret v)) s') W TF (by decide) rfl (by decide) hl hi hsz hQ
  exact ⟨_, hf, hw⟩
theorem frLetter {h₀ h : Heap} {L : Addr} {m : Str → Option Value} {x : Str} {v : Option Value} (F : Fr h₀ L h (fun z => if z = x then v else m z)) : ∃ m', Fr h₀ L h m' ∧ m' x = v ∧ ∀ q, q ≠ x → m' q = m q :=
  ⟨_, F, if_pos rfl, fun _ hq => if_neg hq⟩
theorem NoCell.cons {p : Addr × Obj} {l : List (Addr × Obj)} (h : ∀ v, p.2.data ≠ .cell v) (hl : NoCell l) : NoCell (p :: l) := fun q hq => by
  rcases List.mem_cons.mp hq with rfl | hq
  · exact h
  · exact hl q hq
theorem mem3 {p a b c : Addr × Obj} {l : List (Addr × Obj)} (h : p ∈ l) : p ∈ a :: b :: c :: l := .tail _ (.tail _ (.tail _ h))
theorem ord_len {y : Str} (h : OrdOk y) : y.length ≤ 10 := h.2.2
section
variable {w : World} {mean : ExcName → Option Value} {mg mb : Str → Option Value} {A : Around} {s : Shared} {E : Value → Shared → Prop} {Q : Value → Shared → Prop}
set_option maxHeartbeats 4000000 in
theorem llaw : LawWalk := by
  intro w mean mg mb A s sc items E Q W TF hroom hh hu hl hi hsz hQ
  cases A
  cases hh
  obtain ⟨a, o, pm, code, doc, h1, h2, h3, h4⟩ := W.T.fn _ rec78
  rw [scLaw_eq] at h3
  refine ⟨a, h1, wpAny_call (call_cellsN_ret (scope := scLaw) (Nat.lt_of_le_of_lt (Nat.le_add_right _ _) hroom) h2 h3 W.T.nolimit h4 (binds := [("script", .ref sc)]) (by kernel_rfl) ?_ (by decide) (fun h₁ tk cells F N X => ?_) (by kernel_rfl) (by kernel_rfl) (by kernel_rfl))⟩
  · intro x hx
    rw [List.mem_singleton.mp hx]
    exact .inl (by kernel_rfl)
  have eb : (defAt 78 "law").body = [stLaw 0, stLaw 1, stLaw 2, stLaw 3, stLaw 4, stLaw 5, stLaw 6, stLaw 7, stLaw 8, stLaw 9, stLaw 10, stLaw 11, stLaw 12, stLaw 13, stLaw 14, stLaw 15, stLaw 16] := by kernel_rfl
  rw [eb]
  rw [cells_law] at X
  obtain ⟨oO, oN, oT, rfl, cO, cN, cT⟩ : ∃ oO oN oT, cells = [(s.heap.objs.size + 3, oO), (s.heap.objs.size + 2, oN), (s.heap.objs.size + 1, oT)] ∧ oO.data = .cell none ∧ oN.data = .cell none ∧ oT.data = .cell none := by
    cases X with
    | cons x X =>
      obtain ⟨o1, o2, rfl, x1, x2⟩ := X.two
      exact ⟨_, o1, o2, rfl, x, x1, x2⟩
  clear X
  obtain ⟨m₀, F₀, mS⟩ : ∃ m₀, Fr s.heap s.heap.objs.size h₁ m₀ ∧ m₀ "script" = some (.ref sc) := ⟨_, F, by kernel_rfl⟩
  clear F
  have N₀ : News s.heap s.heap.objs.size h₁ [(s.heap.objs.size + 1, oT), (s.heap.objs.size + 2, oN), (s.heap.objs.size + 3, oO)] := fun p hp => N p (by
    simp only [List.mem_cons, List.not_mem_nil, or_false] at hp ⊢
    rcases hp with h | h | h
    · exact .inr (.inr h)
    · exact .inr (.inl h)
    · exact .inl h)
  clear N
  generalize hAA : Around.deeper _ _ = AA
  have hA : AA.handled = none := by rw [← hAA]; rfl
  have hd : AA.depth + 5 < recursionLimit := by rw [← hAA]; exact Nat.lt_of_le_of_lt (by show _ + 1 + 5 ≤ _ + 10; omega) hroom
  have hn : AA.units + 60 < cLine := by rw [← hAA]; exact Nat.lt_of_le_of_lt (by show _ + 3 + 60 ≤ _ + 200; omega) hu
  clear hAA
  with_reducible refine wpAny_execs_cons (law_0 W (Nat.lt_of_le_of_lt (Nat.add_le_add_left (by decide) _) hd) hA F₀ N₀ cT mS hl hi hsz (fun g0 k0 m1 oT1 rr oR tt oTT ll oL nb rws ts ds F1 N1 hc1 cT1 mS1 mR1 mL1 hds hok hR hRv hTl hTv sL dL => ?_))
  dsimp only
  obtain ⟨hLn, _, hLp⟩ := lv_good ds hok [] List.nodup_nil (List.forall_mem_nil _) (fun t => Int.le_refl 0)
  have hG : GoodT (tiesI 0 ds) := good_ties hok
  have hw : ∀ e ∈ tiesI 0 ds, 0 ≤ e.w := fun e he => by
    obtain ⟨d, hd, i, _, _, rfl⟩ := tiesI_mem he
    exact (ent_ab (hok d hd)).2.2
  have hTn : (tiesI 0 ds).length ≤ 100 := by rw [tiesI_length, hds]; decide
  have hO := oftenK_keys hG (valI (ds.foldl lvStep [])) 3
  have hmR : (rr, oR) ∈ (rr, oR) :: (tt, oTT) :: (ll, oL) :: nb := .head _
  have hmT : (tt, oTT) ∈ (rr, oR) :: (tt, oTT) :: (ll, oL) :: nb := .tail _ (.head _)
  have hmL : (ll, oL) ∈ (rr, oR) :: (tt, oTT) :: (ll, oL) :: nb := .tail _ (.tail _ (.head _))
  have hmB : ∀ p ∈ nb, p ∈ (rr, oR) :: (tt, oTT) :: (ll, oL) :: nb := fun p hp => .tail _ (.tail _ (.tail _ hp))
  generalize (rr, oR) :: (tt, oTT) :: (ll, oL) :: nb = rest1 at N1 hc1 hmR hmT hmL hmB
  with_reducible refine wpAny_execs_cons (law_1 W TF (Nat.lt_of_le_of_lt (Nat.add_le_add_left (by decide) _) hd) hA hn F1 N1 hc1 mR1 hmR hR hRv hds hok (fun g1 k1 m2 md oM ld oLd F2 N2 hq2 mM2 mA2 sM sLd dM dLd => ?_))
  dsimp only
  have mS2 := (hq2 "script" (by decide) (by decide)).trans mS1
  have mL2 := (hq2 "leaves" (by decide) (by decide)).trans mL1
  have hc2 : NoCell ((md, oM) :: (ld, oLd) :: rest1) := .cons dM.not_cell (.cons dLd.not_cell hc1)
  have hmM : (md, oM) ∈ (md, oM) :: (ld, oLd) :: rest1 := .head _
  have hmA : (ld, oLd) ∈ (md, oM) :: (ld, oLd) :: rest1 := .tail _ (.head _)
  have s2 : ∀ p ∈ rest1, p ∈ (md, oM) :: (ld, oLd) :: rest1 := fun p hp => .tail _ (.tail _ hp)
  generalize (md, oM) :: (ld, oLd) :: rest1 = rest2 at N2 hc2 hmM hmA s2
  clear N1 F1 F₀ N₀
  with_reducible refine wpAny_execs_cons (law_2 W hA F2 N2 hc2 cT1 cN (s2 _ hmT) hTl hTv (fun p hp => s2 _ (hmB p hp)) hds (fun g2 k2 oN' D ys n F3 N3 cN' hys => ?_))
  dsimp only
  have hc3 : NoCell ((D, lstO ys n) :: rest2) := .cons (fun v h => Data.noConfusion h) hc2
  have hmN : (D, lstO ys n) ∈ (D, lstO ys n) :: rest2 := .head _
  have s3 : ∀ p ∈ rest2, p ∈ (D, lstO ys n) :: rest2 := fun p hp => .tail _ hp
  generalize (D, lstO ys n) :: rest2 = rest3 at N3 hc3 hmN s3
  have hmT3 := s3 _ (s2 _ hmT)
  have hmL3 := s3 _ (s2 _ hmL)
  have hmB3 : ∀ p ∈ nb, p ∈ rest3 := fun p hp => s3 _ (s2 _ (hmB p hp))
  have hmM3 := s3 _ hmM
  have hmA3 := s3 _ hmA
  clear N2 F2 hmT hmL hmB hmM hmA s2 s3 hmR hc1 hc2
  with_reducible refine wpAny_execs_cons (law_3 W hA (Nat.lt_of_le_of_lt (Nat.le_add_right _ _) hn) F3 N3 hc3 cT1 cN' hmT3 hTl hTv hmB3 hds hmN hys hmM3 dM sM hmA3 dLd sLd hmL3 dL sL hLn mM2 mA2 mL2 (fun g3 k3 F4 N4 => ?_))
  dsimp only
  clear N3 F3
  with_reducible refine wpAny_execs_cons (law_4 W (Nat.lt_of_le_of_lt (Nat.add_le_add_left (by decide) _) hd) hA F4 N4 hc3 cT1 cO hmT3 hTl hTv hmB3 hds hok hmL3 dL sL mL2 (fun g4 k4 oO' od oD F5 N5 cO' sD dD => ?_))
  dsimp only
  clear N4 F4
  have hc4 : NoCell ((od, oD) :: rest3) := .cons dD.not_cell hc3
  have s4 : ∀ p ∈ rest3, p ∈ (od, oD) :: rest3 := fun p hp => .tail _ hp
  have hmD : (od, oD) ∈ (od, oD) :: rest3 := .head _
  generalize (od, oD) :: rest3 = rest4 at N5 hc4 s4 hmD
  have hmB4 : ∀ p ∈ nb, p ∈ rest4 := fun p hp => s4 _ (hmB3 p hp)
  with_reducible refine wpAny_execs_cons (law_5 W hA F5 N5 cT1 cN' cO' (s4 _ hmT3) hTl hTv hmB4 hds hok (s4 _ hmN) hys hmD dD hO (fun g5 k5 lf oF F6 N6 sF dF => ?_))
  dsimp only
  clear F5 N5
  obtain ⟨m6, F6', mF6, hq6⟩ := frLetter F6
  clear F6
  have hc5 : NoCell ((lf, oF) :: rest4) := .cons dF.not_cell hc4
  have s5 : ∀ p ∈ rest4, p ∈ (lf, oF) :: rest4 := fun p hp => .tail _ hp
  have hmF : (lf, oF) ∈ (lf, oF) :: rest4 := .head _
  generalize (lf, oF) :: rest4 = rest5 at N6 hc5 s5 hmF
  have hmT5 := s5 _ (s4 _ hmT3)
  have hmB5 : ∀ p ∈ nb, p ∈ rest5 := fun p hp => s5 _ (hmB4 p hp)
  have hmD5 := s5 _ hmD
  have hmM5 := s5 _ (s4 _ hmM3)
  have hmA5 := s5 _ (s4 _ hmA3)
  clear hmB3 hmB4 hmT3 hmD hmM3 hmA3 s4 s5 hmN
  with_reducible refine wpAny_execs_cons (law_6 W hA F6' N6 cT1 cO' hmT5 hTl hTv hmB5 hds hok hmD5 dD hO (fun g6 k6 u6 F7 N7 => ?_))
  dsimp only
  clear F6' N6
  obtain ⟨m7, F7', mT7, hq7⟩ := frLetter F7
  clear F7
  with_reducible refine wpAny_execs_cons (law_7 W hA F7' N7 cT1 cO' hmT5 hTl hTv hmB5 hds hok hmD5 dD hO (fun g7 k7 u7 F8 N8 => ?_))
  dsimp only
  clear F7' N7
  obtain ⟨m8, F8', mP8, hq8⟩ := frLetter F8
  clear F8
  with_reducible refine wpAny_execs_cons (law_8 W hA F8' N8 cO' hmD5 dD sD hO (fun g8 k8 u8 F9 N9 => ?_))
  dsimp only
  clear F8' N8
  obtain ⟨m9, F9', mD9, hq9⟩ := frLetter F9
  clear F9
  with_reducible refine wpAny_execs_cons (law_9 W hA F9' N9 cO' hmD5 dD sD hO mD9 (((hq9 "taken" (by decide)).trans (hq8 "taken" (by decide))).trans mT7) ((hq9 "put" (by decide)).trans mP8) (fun g9 k9 du oU dd oE nU u9 F10 N10 cU dU sE dE => ?_))
  dsimp only
  clear F9' N9
  obtain ⟨m10, F10', mU10, hq10⟩ := frLetter F10
  clear F10
  have old10 : ∀ q : Str, q ≠ "left" → q ≠ "taken" → q ≠ "put" → q ≠ "done" → q ≠ "due" → m10 q = m2 q := fun q a1 a2 a3 a4 a5 => (hq10 q a5).trans ((hq9 q a4).trans ((hq8 q a3).trans ((hq7 q a2).trans (hq6 q a1))))
  have mF10 : m10 "left" = some (.ref lf) := (hq10 _ (by decide)).trans ((hq9 _ (by decide)).trans ((hq8 _ (by decide)).trans ((hq7 _ (by decide)).trans mF6)))
  have mS10 := (old10 "script" (by decide) (by decide) (by decide) (by decide) (by decide)).trans mS2
  have mM10 := (old10 "marks" (by decide) (by decide) (by decide) (by decide) (by decide)).trans mM2
  have mA10 := (old10 "allowed" (by decide) (by decide) (by decide) (by decide) (by decide)).trans mA2
  have mD10 := (hq10 "done" (by decide)).trans mD9
  rw [O_sum hO] at dU mD10
  have DU : DueIs w ((du, oU) :: (dd, oE) :: rest5) (tiesI 0 ds) (oftenK (tiesI 0 ds) (valI (ds.foldl lvStep [])) 3) du lf := ⟨oU, dd, oE, oF, _, _, _, _, nU, ⟨.head _, cU, dU, .tail _ (.head _), sE, dE, .tail _ (.tail _ hmF), sF, dF⟩⟩
  have hc6 : NoCell ((du, oU) :: (dd, oE) :: rest5) := .cons (by rw [dU]; exact fun v h => Data.noConfusion h) (.cons dE.not_cell hc5)
  have hmM6 : (md, oM) ∈ (du, oU) :: (dd, oE) :: rest5 := .tail _ (.tail _ hmM5)
  have hmA6 : (ld, oLd) ∈ (du, oU) :: (dd, oE) :: rest5 := .tail _ (.tail _ hmA5)
  generalize (du, oU) :: (dd, oE) :: rest5 = rest6 at N10 DU hc6 hmM6 hmA6
  clear old10 hq6 hq7 hq8 hq9 hq10 hmB5 hmT5 hmD5 hmM5 hmA5 dU cU sE dE hmF
  with_reducible refine wpAny_execs_cons (law_10 W hA F10' N10 hl hi hsz mS10 (fun g10 k10 kk uk hk0 hk1 F11 N11 => ?_))
  dsimp only
  clear F10' N10
  obtain ⟨m11, F11', mT11, hq11⟩ := frLetter F11
  clear F11
  with_reducible refine wpAny_execs_cons (law_11 W hA F11' N11 hk0 hk1 mT11 (fun g11 k11 uo F12 N12 => ?_))
  dsimp only
  clear F11' N11
  obtain ⟨m12, F12', mO12, hq12⟩ := frLetter F12
  clear F12
  have old12 : ∀ q : Str, q ≠ "turn" → q ≠ "order" → m12 q = m10 q := fun q a1 a2 => (hq12 q a2).trans (hq11 q a1)
  have hord := ord_ok hk0 hk1
  with_reducible refine wpAny_execs_cons (law_12 W hd hA hn F12' N12 hc6 hG hTn hLp hord.1 hmM6 dM sM hmA6 dLd sLd ((old12 _ (by decide) (by decide)).trans mM10) ((old12 _ (by decide) (by decide)).trans mA10) mO12 (fun g12 k12 r1 c1 rest7 F13 N13 hc7 s7 R1 => ?_))
  dsimp only
  clear F12' N12
  obtain ⟨m13, F13', mR13, hq13⟩ := frLetter F13
  clear F13
  with_reducible refine wpAny_execs_cons (law_13 W hd hA hn F13' N13 hc7 hG hTn hLp (ord_len hord.1) hord.2 (s7 _ hmM6) dM sM (s7 _ hmA6) dLd sLd ((hq13 _ (by decide)).trans ((old12 _ (by decide) (by decide)).trans mM10)) ((hq13 _ (by decide)).trans ((old12 _ (by decide) (by decide)).trans mA10)) ((hq13 _ (by decide)).trans mO12) (fun g13 k13 r2 c2 rest8 F14 N14 hc8 s8 R2 => ?_))
  dsimp only
  clear F13' N13
  obtain ⟨m14, F14', mR14, hq14⟩ := frLetter F14
  clear F14
  have old14 : ∀ q : Str, q ≠ "turn" → q ≠ "order" → q ≠ "first" → q ≠ "second" → m14 q = m10 q := fun q a1 a2 a3 a4 => (hq14 q a4).trans ((hq13 q a3).trans (old12 q a1 a2))
  have T1 := (R1.more s8).told hG hw hLp
  have T2 := R2.told hG hw hLp
  have DU8 : DueIs w rest8 (tiesI 0 ds) (oftenK (tiesI 0 ds) (valI (ds.foldl lvStep [])) 3) du lf := by
    obtain ⟨oU, dd, oE, oF, t1, t2, t3, t4, n, z⟩ := DU
    exact ⟨oU, dd, oE, oF, t1, t2, t3, t4, n, ⟨s8 _ (s7 _ z.mU), z.cU, z.dU, s8 _ (s7 _ z.mE), z.sE, z.dE, s8 _ (s7 _ z.mF), z.sF, z.dF⟩⟩
  have mFi := (hq14 "first" (by decide)).trans mR13
  with_reducible refine wpAny_execs_cons (law_14 W hA hn F14' N14 (marks_keys _ (tiesI_nodup ds 0)) T1 T2 DU8 mFi mR14 ((old14 _ (by decide) (by decide) (by decide) (by decide)).trans mU10) ((old14 _ (by decide) (by decide) (by decide) (by decide)).trans mF10) (fun g14 k14 F15 N15 => ?_))
  dsimp only
  clear F14' N14
  obtain ⟨oR1, bk, oB, dk, oK, mk', oM', C, t1, t2, t3, t4, n1, n2, y⟩ := T1
  with_reducible refine wpAny_execs_cons (law_15 W hA F15 N15 (mem3 y.mR) y.cR y.dR mFi (fun g15 k15 m16 F16 N16 mB16 mR16 hq16 => ?_))
  dsimp only
  clear F15 N15
  have old16 : ∀ q : Str, q ≠ "turn" → q ≠ "order" → q ≠ "first" → q ≠ "second" → q ≠ "book" → q ≠ "rest" → m16 q = m10 q := fun q a1 a2 a3 a4 a5 a6 => (hq16 q a5 a6).trans (old14 q a1 a2 a3 a4)
  have hs1 : sumI C = sumT (valI (oftenK (tiesI 0 ds) (valI (ds.foldl lvStep [])) 3)) := y.sum
  have hs2 : sumI (marksAt (tiesI 0 ds) (valI (oftenK (tiesI 0 ds) (valI (ds.foldl lvStep [])) 3))) = sumI (marksAt (tiesI 0 ds) fun _ => 0) + (sumA (tiesI 0 ds) (valI (oftenK (tiesI 0 ds) (valI (ds.foldl lvStep [])) 3)) - sumB (tiesI 0 ds) (valI (oftenK (tiesI 0 ds) (valI (ds.foldl lvStep [])) 3))) := marks_sum _ _
  with_reducible refine wpAny_execs_cons (law_16 (M := marksAt (tiesI 0 ds) (valI (oftenK (tiesI 0 ds) (valI (ds.foldl lvStep [])) 3))) (M0 := marksAt (tiesI 0 ds) fun _ => 0) (C := C) W (Nat.lt_of_le_of_lt (Nat.add_le_add_left (by decide) _) hd) hA F16 N16 (mem3 y.mB) y.cB y.dB (mem3 y.mK) y.sK y.dK (mem3 y.mM) y.sM y.dM (mem3 (s8 _ (s7 _ hmM6))) sM dM mB16 mR16 ((old16 _ (by decide) (by decide) (by decide) (by decide) (by decide) (by decide)).trans mM10) ((old16 _ (by decide) (by decide) (by decide) (by decide) (by decide) (by decide)).trans mD10) hs1 hs2 (fun g16 k16 F17 => ?_))
  exact hQ _ _ F17.keep
end
theorem law_walk : WalkGoal := walk_of llaw
theorem law_holds : PySem.Challenge.rw_zd0020_01.Holds := holds_of law_walk
end Mine
theorem PySem.Challenge.cw_zd0020_01_holds : PySem.Challenge.rw_zd0020_01.Holds :=
  Mine.law_holds
