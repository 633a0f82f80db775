import PyProof.Rows.All
import Wide.All
import OpenK.AllK
import Wide.FinOn
import Lean
import PySem.Challenge.RW_re0123_01
set_option Elab.async false

section
open PySem PySem.W PyProof.Rows
namespace Mine

abbrev Sh := SharedT

/-- a straight evaluator of a tree; calls go through cl -/
noncomputable def evS {α : Type} (S : Setting) (cl : Ctx → Pos → SharedT → Option (Result × SharedT)) (Γ : Ctx) (t : Sem α) : Pos → SharedT → Option (Except Value α × Pos × SharedT) :=
  @Sem.rec α (fun _ => Pos → SharedT → Option (Except Value α × Pos × SharedT))
    (fun a p s => some (.ok a, p, s))
    (fun e p s => some (.error e, p, s))
    (fun _ _ _ => none)
    (fun _ _ _ => none)
    (fun _ _ ih p s => ih () p s)
    (fun p' _ ih _ s => ih () p' s)
    (fun a _ _ ih p s => match Nat.blt a s.n with
      | true => match s.tree.get a with
        | some o => match alive o with
          | some o' => ih o' p s
          | none => none
        | none => none
      | false => none)
    (fun a _ f _ ih p s => match Nat.blt a s.n with
      | true => match s.tree.get a with
        | some o => match alive o with
          | some _ => ih () p { s with tree := s.tree.set a f }
          | none => none
        | none => none
      | false => none)
    (fun o _ ih p s => match ((s.tree.ins s.n o).get s.n).isSome with
      | true => ih s.n p { s with tree := s.tree.ins s.n o, n := s.n + 1 }
      | false => none)
    (fun a _ ih p s => match Nat.blt a s.n with
      | true => match s.tree.get a with
        | some o => ih (alive o) p s
        | none => none
      | false => ih none p s)
    (fun _ _ ih p s => ih () p s)
    (fun _ _ _ _ _ => none)
    (fun _ ih p s => ih s.toks p { s with toks := s.toks + 1 })
    (fun _ ih p s => ih S p s)
    (fun _ _ _ _ _ _ => none)
    (fun _ _ _ _ _ _ => none)
    (fun c h _ _ _ ih p s => match cl (Γ.enter c h p) p s with
      | some (r, s') => ih r p s'
      | none => none)
    (fun own _ ih p s => ih (if own then Γ.own else Γ.handled) p s)
    (fun _ _ _ _ _ => none)
    (fun _ _ _ _ _ => none)
    (fun _ _ _ _ _ _ _ => none)
    (fun _ _ _ _ _ _ _ => none)
    (fun _ ih p s => ih ((Γ.code, p) :: Γ.below) p s)
    (fun _ _ _ _ _ => none)
    (fun _ ih p s => ih 0 p s)
    (fun _ _ _ _ _ _ _ _ => none)
    t

noncomputable def evC (den : Code → Sem Fin) (S : Setting) : Nat → Ctx → Pos → SharedT → Option (Result × SharedT) :=
  @Nat.rec (fun _ => Ctx → Pos → SharedT → Option (Result × SharedT)) (fun _ _ _ => none)
    (fun _ ih Γ p s => match evS S ih Γ (den Γ.code) p s with
      | some (.ok (.done f), _, s') => some (.ok f, s')
      | some (.ok (.again c), p', s') => match c.quiet with
        | true => ih (Γ.goto c) p' s'
        | false => none
      | some (.error e, _, s') => some (.error e, s')
      | none => none)
end Mine
end

section
open PySem PySem.W PyProof.Rows
namespace Mine
open Sem (wp)

theorem evS_sound {α : Type} {M : Model} {cl : Ctx → Pos → SharedT → Option (Result × SharedT)}
    (hcl : ∀ Γ p s r s', cl Γ p s = some (r, s') → Returns M Γ p s.abs r s'.abs) {Γ : Ctx} (t : Sem α) :
    ∀ (p : Pos) (s : SharedT) (r : Except Value α) (p' : Pos) (s' : SharedT), evS ⟨M.prog, M.w.params⟩ cl Γ t p s = some (r, p', s') →
    ∀ (Q : α → Pos → Shared → Prop) (E : Value → Pos → Shared → Prop), (match r with | .ok a => Q a p' s'.abs | .error e => E e p' s'.abs) → wp M Γ t Q E p s.abs := by
  induction t with
  | pure a => intro p s r p' s' h Q E hq; cases h; exact hq
  | raise e => intro p s r p' s' h Q E hq; cases h; exact hq
  | unsupported w => intro p s r p' s' h; cases h
  | finish e => intro p s r p' s' h; cases h
  | rule tag k ih => intro p s r p' s' h Q E hq; exact ih () p s r p' s' h Q E hq
  | «at» q k ih => intro p s r p' s' h Q E hq; exact ih () q s r p' s' h Q E hq
  | load a part k ih =>
    intro p s r p' s' h Q E hq
    have h : (match Nat.blt a s.n with
      | true => match s.tree.get a with
        | some o => match alive o with
          | some o' => evS ⟨M.prog, M.w.params⟩ cl Γ (k o') p s
          | none => none
        | none => none
      | false => none) = some (r, p', s') := h
    cases e : Nat.blt a s.n with
    | false => rw [e] at h; cases h
    | true =>
      rw [e] at h
      cases g : s.tree.get a with
      | none => rw [g] at h; cases h
      | some o =>
        rw [g] at h
        cases al : alive o with
        | none => simp only [al] at h; cases h
        | some o' =>
          simp only [al] at h
          exact ⟨o', (abs_get (Nat.le_of_ble_eq_true e) g).trans al, ih o' p s r p' s' h Q E hq⟩
  | update a part f k ih =>
    intro p s r p' s' h Q E hq
    have h : (match Nat.blt a s.n with
      | true => match s.tree.get a with
        | some o => match alive o with
          | some _ => evS ⟨M.prog, M.w.params⟩ cl Γ (k ()) p { s with tree := s.tree.set a f }
          | none => none
        | none => none
      | false => none) = some (r, p', s') := h
    cases e : Nat.blt a s.n with
    | false => rw [e] at h; cases h
    | true =>
      rw [e] at h
      cases g : s.tree.get a with
      | none => rw [g] at h; cases h
      | some o =>
        rw [g] at h
        cases al : alive o with
        | none => simp only [al] at h; cases h
        | some o' =>
          simp only [al] at h
          refine ⟨by rw [show s.abs.heap.get? a = some o' from (abs_get (Nat.le_of_ble_eq_true e) g).trans al]; rfl, ?_⟩
          have := ih () p _ r p' s' h Q E hq
          rw [show ({ s with tree := s.tree.set a f } : SharedT).abs = { s.abs with heap := s.abs.heap.update a f } by
            unfold SharedT.abs; dsimp only; rw [absHeap_set g]] at this
          exact this
  | alloc o k ih =>
    intro p s r p' s' h Q E hq
    have h : (match ((s.tree.ins s.n o).get s.n).isSome with
      | true => evS ⟨M.prog, M.w.params⟩ cl Γ (k s.n) p { s with tree := s.tree.ins s.n o, n := s.n + 1 }
      | false => none) = some (r, p', s') := h
    cases e : ((s.tree.ins s.n o).get s.n).isSome with
    | false => rw [e] at h; cases h
    | true =>
      rw [e] at h
      have := ih s.n p _ r p' s' h Q E hq
      show wp M Γ (k s.abs.heap.objs.size) Q E p { s.abs with heap := s.abs.heap.push o }
      rw [show s.abs.heap.objs.size = s.n from absHeap_size _ _ _]
      rw [show ({ s with tree := s.tree.ins s.n o, n := s.n + 1 } : SharedT).abs = { s.abs with heap := s.abs.heap.push o } by
        unfold SharedT.abs; dsimp only; rw [absHeap_ins e]] at this
      exact this
  | loadIfAlive a k ih =>
    intro p s r p' s' h Q E hq
    have h : (match Nat.blt a s.n with
      | true => match s.tree.get a with
        | some o => evS ⟨M.prog, M.w.params⟩ cl Γ (k (alive o)) p s
        | none => none
      | false => evS ⟨M.prog, M.w.params⟩ cl Γ (k none) p s) = some (r, p', s') := h
    show wp M Γ (k (s.abs.heap.get? a)) Q E p s.abs
    cases e : Nat.blt a s.n with
    | false =>
      rw [e] at h
      rw [show s.abs.heap.get? a = none from abs_get_none (fun q => by have q' : Nat.blt a s.n = true := Nat.ble_eq_true_of_le q; rw [q'] at e; cases e)]
      exact ih none p s r p' s' h Q E hq
    | true =>
      rw [e] at h
      cases g : s.tree.get a with
      | none => rw [g] at h; cases h
      | some o =>
        rw [g] at h
        rw [show s.abs.heap.get? a = alive o from abs_get (Nat.le_of_ble_eq_true e) g]
        exact ih (alive o) p s r p' s' h Q E hq
  | point l k ih => intro p s r p' s' h Q E hq; exact ih () p s r p' s' h Q E hq
  | register a k ih => intro p s r p' s' h; cases h
  | fresh k ih => intro p s r p' s' h Q E hq; exact ih s.toks p { s with toks := s.toks + 1 } r p' s' h Q E hq
  | ask k ih => intro p s r p' s' h Q E hq; exact ih _ p s r p' s' h Q E hq
  | choose src n k ih => intro p s r p' s' h; cases h
  | os q l k ih => intro p s r p' s' h; cases h
  | call c hd g l k ih =>
    intro p s r p' s' h Q E hq
    have h : (match cl (Γ.enter c hd p) p s with
      | some (r, s') => evS ⟨M.prog, M.w.params⟩ cl Γ (k r) p s'
      | none => none) = some (r, p', s') := h
    cases e : cl (Γ.enter c hd p) p s with
    | none => rw [e] at h; cases h
    | some x =>
      obtain ⟨r₁, s₁⟩ := x
      rw [e] at h
      exact ⟨r₁, s₁.abs, hcl _ _ _ _ _ e, ih r₁ p s₁ r p' s' h Q E hq⟩
  | handled own k ih => intro p s r p' s' h Q E hq; exact ih _ p s r p' s' h Q E hq
  | newGen c k ih => intro p s r p' s' h; cases h
  | genState g k ih => intro p s r p' s' h; cases h
  | resume g r l k ih => intro p s r p' s' h; cases h
  | «yield» v g l k ih => intro p s r p' s' h; cases h
  | stack k ih => intro p s r p' s' h Q E hq; exact ih _ p s r p' s' h Q E hq
  | fork c k ih => intro p s r p' s' h; cases h
  | thread k ih => intro p s r p' s' h Q E hq; exact ih 0 p s r p' s' h Q E hq
  | await a f d l k ih => intro p s r p' s' h; cases h

theorem evC_sound {M : Model} : ∀ (n : Nat) (Γ : Ctx) (p : Pos) (s : SharedT) (r : Result) (s' : SharedT), evC M.den ⟨M.prog, M.w.params⟩ n Γ p s = some (r, s') → Returns M Γ p s.abs r s'.abs := by
  intro n
  induction n with
  | zero => intro Γ p s r s' h; cases h
  | succ n ih =>
    intro Γ p s r s' h
    have h : (match evS ⟨M.prog, M.w.params⟩ (evC M.den ⟨M.prog, M.w.params⟩ n) Γ (M.den Γ.code) p s with
      | some (.ok (.done f), _, s') => some (.ok f, s')
      | some (.ok (.again c), p', s') => match c.quiet with
        | true => evC M.den ⟨M.prog, M.w.params⟩ n (Γ.goto c) p' s'
        | false => none
      | some (.error e, _, s') => some (.error e, s')
      | none => none) = some (r, s') := h
    suffices hw : wpCode M Γ (fun r0 s0 => r0 = r ∧ s0 = s'.abs) p s.abs by
      obtain ⟨r0, s0, hr, rfl, rfl⟩ := hw
      exact hr
    rw [wpCode_iff_wp]
    cases e : evS ⟨M.prog, M.w.params⟩ (evC M.den ⟨M.prog, M.w.params⟩ n) Γ (M.den Γ.code) p s with
    | none => rw [e] at h; cases h
    | some x =>
      obtain ⟨rr, p₁, s₁⟩ := x
      rw [e] at h
      refine evS_sound ih (M.den Γ.code) p s rr p₁ s₁ e _ _ ?_
      cases rr with
      | error x =>
        have h : some (Except.error x, s₁) = some (r, s') := h
        cases h; exact ⟨rfl, rfl⟩
      | ok f =>
        cases f with
        | done f => have h : some (Except.ok f, s₁) = some (r, s') := h
                    cases h; exact ⟨rfl, rfl⟩
        | again c =>
          have h : (match c.quiet with
            | true => evC M.den ⟨M.prog, M.w.params⟩ n (Γ.goto c) p₁ s₁
            | false => none) = some (r, s') := h
          cases q : c.quiet with
          | false => rw [q] at h; cases h
          | true =>
            rw [q] at h
            exact ⟨q, r, s'.abs, ih _ _ _ _ _ h, rfl, rfl⟩
end Mine
end

section
open PySem PySem.W PyProof.Rows
namespace Mine

section
variable {prog : Program} {w : World} {A : Around} {E : Value → Shared → Prop} {s : Shared}

/-- the pairs of a display of int keys and str values -/
def KV : List (Int × Str) → List (Int × Value) → Prop
  | [], [] => True
  | p :: ps, kv :: kvs => kv.1 = p.1 ∧ (∃ t, kv.2 = .str p.2 t) ∧ KV ps kvs
  | _, _ => False

theorem KV.length : ∀ {ps : List (Int × Str)} {kvs : List (Int × Value)}, KV ps kvs → kvs.length = ps.length
  | [], [], _ => rfl
  | _ :: _, _ :: _, h => by rw [List.length_cons, List.length_cons, KV.length h.2.2]
  | [], _ :: _, h => h.elim
  | _ :: _, [], h => h.elim
theorem KV.append : ∀ {ps qs : List (Int × Str)} {kvs mvs : List (Int × Value)}, KV ps kvs → KV qs mvs → KV (ps ++ qs) (kvs ++ mvs)
  | [], _, [], _, _, h => h
  | _ :: _, _, _ :: _, _, h, h' => ⟨h.1, h.2.1, KV.append h.2.2 h'⟩
  | [], _, _ :: _, _, h, _ => h.elim
  | _ :: _, _, [], _, h, _ => h.elim
theorem KV.keys : ∀ {ps : List (Int × Str)} {kvs : List (Int × Value)}, KV ps kvs → kvs.map (·.1) = ps.map (·.1)
  | [], [], _ => rfl
  | _ :: _, _ :: _, h => by rw [List.map_cons, List.map_cons, h.1, KV.keys h.2.2]
  | [], _ :: _, h => h.elim
  | _ :: _, [], h => h.elim

/-- the two trees of a pair -/
def it2 (pos : Pos) (p : Int × Str) : Sem Value × Sem Value := (mkInt p.1, (do let y ← mkText p.2; standAt pos; pure y))

theorem stored_fresh {kvs : List (Int × Value)} {k : Int} {v : Value} (h : k ∉ kvs.map (·.1)) : stored kvs k v = kvs ++ [(k, v)] := by
  unfold stored
  rw [if_neg]
  intro q
  obtain ⟨kv, hkv, he⟩ := List.any_eq_true.mp q
  exact h (List.mem_map.mpr ⟨kv, hkv, of_decide_eq_true he⟩)

/-- storing a long run -/
theorem store_run {pos : Pos} {d : Addr} : ∀ (ps : List (Int × Str)) (acc : List (Int × Value)) (s : Shared) (Q : PUnit → Shared → Prop), s.heap.DictOf (intKind prog w) d acc → acc.length + ps.length ≤ 100000 →
    (acc.map (·.1) ++ ps.map (·.1)).Nodup →
    (∀ h' t' kvs, h'.DictOf (intKind prog w) d (acc ++ kvs) → KV ps kvs → Heap.SameBut d s.heap h' → Q PUnit.unit { s with heap := h', toks := t' }) →
    wpAny (model prog w) A (forIn (ps.map (it2 pos)) PUnit.unit fun (x : Sem Value × Sem Value) (_ : PUnit) => (do
      let kv ← x.1
      let vv ← holding [kv] x.2
      holding [kv, vv] (dictSet d kv vv)
      pure (ForInStep.yield PUnit.unit) : Sem (ForInStep PUnit))) Q E s
  | [], acc, s, Q, hm, _, _, hQ => by
    rw [List.map_nil, List.forIn_nil]
    exact wpAny_pure (hQ s.heap s.toks [] (by simpa using hm) trivial (Heap.SameBut.refl _ _))
  | p :: ps, acc, s, Q, hm, hsz, hn, hQ => by
    rw [List.length_cons] at hsz
    rw [List.map_cons, List.forIn_cons]
    refine wpAny_bind (wpAny_bind (wpAny_mkInt (wpAny_bind (wpAny_holding (wpAny_bind (wpAny_mkText (wpAny_bind (wpAny_standAt (wpAny_pure ?_)))))))))
    have hn1 : p.1 ∉ acc.map (·.1) := by
      intro q
      have := (List.nodup_append.mp hn).2.2 _ q p.1 (by simp)
      exact this rfl
    refine wpAny_bind (wpAny_holding (wpAny_dictSet_pairs (knd := intKind prog w) (k := p.1) (hsz := by rw [sizeLine_eq]; omega) (intKind_is _ _ _ _) hm fun h₁ hm₁ hs₁ => wpAny_pure ?_))
    rw [stored_fresh hn1] at hm₁
    refine store_run ps _ _ Q hm₁ (by simp; omega) (by simpa [List.append_assoc] using hn) fun h' t' kvs hm' hk hs' => ?_
    refine hQ h' t' ((p.1, .str p.2 (s.toks + 1)) :: kvs) (by simpa [List.append_assoc] using hm') ⟨rfl, ⟨_, rfl⟩, hk⟩ (hs₁.trans hs')

theorem evalPairs_run {pos : Pos} : ∀ (ps : List (Int × Str)) (s : Shared) (Q : List (Value × Value) → Shared → Prop),
    (∀ t' vs kvs, Carries (intKind prog w) vs kvs → KV ps kvs → Q vs { s with toks := t' }) → wpAny (model prog w) A (evalPairs (ps.map (it2 pos))) Q E s
  | [], s, Q, h => evalPairs_nil (h s.toks [] [] trivial trivial)
  | p :: ps, s, Q, h => by
    rw [List.map_cons]
    refine evalPairs_cons (wpAny_mkInt (wpAny_bind (wpAny_mkText (wpAny_bind (wpAny_standAt (wpAny_pure ?_))))))
    exact evalPairs_run ps _ _ fun t' vs kvs hc hk => h t' _ ((p.1, .str p.2 (s.toks + 1)) :: kvs) ⟨intKind_is _ _ _ _, rfl, hc⟩ ⟨rfl, ⟨_, rfl⟩, hk⟩

theorem dictOf_new {h : Heap} : (h.push { cls := .type "dict", data := .dict #[] }).DictOf (intKind prog w) h.objs.size [] :=
  ⟨_, #[], 0, Heap.get?_push_size _ rfl, ⟨rfl, rfl, rfl⟩, rfl, fun e he => by simp at he, .nil, by simp⟩

theorem sub_run {pos : Pos} {ps : List (Int × Str)} {Q : Addr → Shared → Prop} (hsz : ps.length ≤ 1000) (hn : (ps.map (·.1)).Nodup)
    (hQ : ∀ h' t' kvs, h'.DictOf (intKind prog w) s.heap.objs.size kvs → KV ps kvs → h'.objs.size = s.heap.objs.size + 1 → (∀ b o, s.heap.get? b = some o → h'.get? b = some o) → Q s.heap.objs.size { s with heap := h', toks := t' }) :
    wpAny (model prog w) A (subDict (ps.map (it2 pos))) Q E s := by
  have key : ∀ h' : Heap, Heap.SameBut s.heap.objs.size (s.heap.push { cls := .type "dict", data := .dict #[] }) h' → h'.objs.size = s.heap.objs.size + 1 ∧ (∀ b o, s.heap.get? b = some o → h'.get? b = some o) := fun h' hs =>
    ⟨hs.1.trans (by simp [Heap.push]), fun b o e => (hs.2 b (Nat.ne_of_lt (Heap.lt_size e))).trans (Heap.get?_push_of_some _ e)⟩
  by_cases hl : (ps.map (it2 pos)).length ≤ 15
  · refine wpAny_subDict (knd := intKind prog w) hl (evalPairs_run ps _ _ fun t' vs kvs hc hk => ⟨kvs, hc, dictOf_new, fun h' hm hs => ?_⟩)
    obtain ⟨k1, k2⟩ := key h' hs
    refine hQ h' _ kvs ?_ hk k1 k2
    rwa [merged_nil_of_nodup kvs (by rw [hk.keys]; exact hn)] at hm
  · unfold subDict
    refine wpAny_bind (wpAny_alloc (wpAny_bind (wpAny_holding ?_)))
    rw [if_neg hl]
    refine wpAny_bind (wpAny_rule (wpAny_bind ?_))
    refine store_run (d := s.heap.objs.size) ps [] _ _ dictOf_new (by simp; omega) (by simpa using hn) fun h' t' kvs hm hk hs => wpAny_pure (wpAny_pure ?_)
    obtain ⟨k1, k2⟩ := key h' hs
    exact hQ h' t' kvs (by simpa using hm) hk k1 k2
end
end Mine
end

section
open PySem PySem.W PyProof.Rows
namespace Mine
section
variable {prog : Program} {w : World} {A : Around} {E : Value → Shared → Prop} {s : Shared}

/-- a loop that counts up, by a promise for each place -/
theorem countUp {M : Model} {f : Nat → PUnit → Sem (ForInStep PUnit)} {I : Nat → Shared → Prop} {Q : PUnit → Shared → Prop} (n : Nat)
    (step : ∀ i s, i < n → I i s → wpAny M A (f i PUnit.unit) (fun r s' => r = .yield PUnit.unit ∧ I (i + 1) s') E s) (last : ∀ s, I n s → Q PUnit.unit s) :
    ∀ (k j : Nat) (s : Shared), j + k = n → I j s → wpAny M A (forIn (List.range' j k) PUnit.unit f) Q E s
  | 0, j, s, e, h => wpAny_pure (last s (by rw [← e]; exact h))
  | k + 1, j, s, e, h => by
    rw [List.range'_succ, List.forIn_cons]
    refine wpAny_bind (wpAny_mono (step j s (by omega) h) ?_ fun _ _ q => q)
    rintro _ s' ⟨rfl, h'⟩
    exact countUp n step last k (j + 1) s' (by omega) h'

/-- a key comes once -/
theorem not_before : ∀ {more : List (Int × Value)} {i : Nat} {p : Int × Value}, (more.map (·.1)).Nodup → more[i]? = some p → p.1 ∉ (more.take i).map (·.1)
  | _ :: _, 0, _, _, _ => by simp
  | q :: more, i + 1, p, hn, h => by
    rw [List.map_cons, List.nodup_cons] at hn
    have hp : more[i]? = some p := h
    rw [List.take_succ_cons, List.map_cons, List.mem_cons, not_or]
    exact ⟨fun e => hn.1 (e ▸ List.mem_map_of_mem (List.mem_of_getElem? hp)), not_before hn.2 hp⟩

theorem no_entry {l : List DictEntry} {kvs : List (Int × Value)} {k : Int} (P : Pairs (intKind prog w) l kvs) (hk : k ∉ kvs.map (·.1)) : l.findIdx? (fun e => (intKind prog w).is k e.key) = none := by
  rw [P.findIdx]
  exact List.findIdx?_eq_none_iff.mpr fun p hp => decide_eq_false (by rintro rfl; exact hk (List.mem_map_of_mem hp))

/-- what lies at a place of a dict with int keys -/
theorem entry_at {l : List DictEntry} {kvs : List (Int × Value)} (P : Pairs (intKind prog w) l kvs) (K : ∀ e ∈ l, ∃ k, (intKind prog w).is k e.key = true ∧ e.hash = (intKind prog w).hash k) {i : Nat} (h : i < kvs.length) :
    ∃ k t v, kvs[i]? = some (k, v) ∧ l[i]? = some ⟨hashInt k, .int k t, v⟩ := by
  have hl : i < l.length := by rw [P.length]; exact h
  obtain ⟨g1, g2⟩ := P.get? (List.getElem?_eq_getElem hl) (List.getElem?_eq_getElem h)
  obtain ⟨k, c1, c2⟩ := K _ (List.getElem_mem hl)
  have e := (intKind prog w).inj _ _ _ c1 g1
  subst e
  obtain ⟨t, ht⟩ := Value.isInt_shape g1
  refine ⟨_, t, _, List.getElem?_eq_getElem h, ?_⟩
  rw [List.getElem?_eq_getElem hl]
  generalize l[i] = en at c2 g2 ht
  obtain ⟨a, b, c⟩ := en
  cases c2; cases g2; cases ht; rfl

theorem put_fresh {d : Addr} {kvs : List (Int × Value)} {k : Int} {t : Tok} {v : Value} {Q : Unit → Shared → Prop} (hm : s.heap.DictOf (intKind prog w) d kvs) (hk : k ∉ kvs.map (·.1)) (hsz : kvs.length ≤ 100000)
    (hQ : ∀ h', h'.DictOf (intKind prog w) d (kvs ++ [(k, v)]) → Heap.SameBut d s.heap h' → Q () { s with heap := h' }) :
    wpAny (model prog w) A (dictPut d (hashInt k) (.int k t) v) Q E s := by
  obtain ⟨o, ⟨l⟩, ep, at_d, exact_d, data_d, keys, P, once⟩ := hm
  have P : Pairs (intKind prog w) l kvs := P
  have self : (intKind prog w).is k (.int k t) = true := intKind_is ..
  have room : (⟨l⟩ : Array DictEntry).size ≤ sizeLine := by
    have := P.length
    rw [sizeLine_eq]; show l.length ≤ _; omega
  refine wpAny_bind (wpAny_dictFind_of (knd := intKind prog w) self at_d data_d keys ?_)
  rw [show (⟨l⟩ : Array DictEntry).findIdx? (fun e => (intKind prog w).is k e.key) = none by simpa using no_entry P hk]
  have data' := Obj.data_mapDictKeys (f := (·.push ⟨hashInt k, .int k t, v⟩)) data_d
  refine wpAny_updateDictKeys (hz := room) at_d data_d (hQ _ ⟨_, _, _, Heap.get?_update_self _ at_d (Obj.isFreed_of_dict data'), exact_d.mapDictKeys _, data', keys.push self v, ?_, ?_⟩ (Heap.SameBut.update ..))
  · have := P.append self (hashInt k) v
    simpa using this
  · have := (List.perm_append_singleton k (kvs.map (·.1))).nodup_iff.mpr (List.nodup_cons.mpr ⟨hk, once⟩)
    simpa using this

theorem merge_run {d o : Addr} {kvs more : List (Int × Value)} {Q : Unit → Shared → Prop} (hdo : d ≠ o) (hoS : (o == sysModules) = false)
    (hd : s.heap.DictOf (intKind prog w) d kvs) (ho : s.heap.DictOf (intKind prog w) o more) (hn : (kvs.map (·.1) ++ more.map (·.1)).Nodup) (hsz : kvs.length + more.length ≤ 50000) (h0 : kvs ≠ [])
    (hQ : ∀ h', h'.DictOf (intKind prog w) d (kvs ++ more) → Heap.SameBut d s.heap h' → Q () { s with heap := h' }) :
    wpAny (model prog w) A (mergeMapping d (.ref o) false) Q E s := by
  have ⟨obD, ⟨ld⟩, _, atD, _, dataD, _, PD, _⟩ := hd
  have ⟨obO, ⟨lo⟩, epO, atO, exO, dataO, keysO, PO, onceO⟩ := ho
  have PD : Pairs (intKind prog w) ld kvs := PD
  have PO : Pairs (intKind prog w) lo more := PO
  have isDict : s.TypeIs (.ref o) "dict" := ⟨obO, atO, exO.1⟩
  have count : (⟨lo⟩ : Array DictEntry).size = more.length := PO.length
  have some_D : (⟨ld⟩ : Array DictEntry).isEmpty = false := by
    cases PD with
    | nil => exact absurd rfl h0
    | cons _ _ _ => rfl
  unfold mergeMapping
  refine wpAny_bind (wpAny_isInstance (U := "dict") (b := true) isDict (by kernel_rfl) ?_)
  dsimp only
  rw [if_pos rfl]
  refine wpAny_bind (wpAny_specialOf isDict PySem.F.slot_dict_iter.lookup (wpAny_bind (wpAny_pure ?_)))
  rw [show ((some (Value.builtin "dict.__iter__")) == some (Value.builtin "dict.__iter__")) = true from by decide]
  dsimp only
  rw [hoS, if_neg Bool.false_ne_true]
  refine wpAny_bind (wpAny_dictEntries atD dataD ?_)
  rw [some_D, if_neg Bool.false_ne_true]
  refine wpAny_bind (wpAny_dictEntries atO dataO (wpAny_bind (wpAny_dictEpoch atO dataO (wpAny_bind ?_))))
  rw [count, List.range_eq_range']
  refine countUp (I := fun i s' => ∃ h', s' = { s with heap := h' } ∧ h'.DictOf (intKind prog w) d (kvs ++ more.take i) ∧ Heap.SameBut d s.heap h') more.length ?_ ?_ more.length 0 s (Nat.zero_add _) ⟨s.heap, rfl, by simpa using hd, Heap.SameBut.refl _ _⟩
  · rintro i _ hi ⟨h1, rfl, D1, same1⟩
    obtain ⟨k, t, v, at_i, en_i⟩ := entry_at PO (fun e he => keysO e (by simpa using he)) hi
    have atO1 : h1.get? o = some obO := (same1.2 o fun e => hdo e.symm).trans atO
    refine wpAny_bind (wpAny_dictEntries atO1 dataO ?_)
    rw [show (⟨lo⟩ : Array DictEntry)[i]? = some ⟨hashInt k, .int k t, v⟩ from (List.getElem?_toArray ..).trans en_i]
    dsimp only
    rw [if_neg Bool.false_ne_true]
    have new : k ∉ (kvs ++ more.take i).map (·.1) := by
      rw [List.map_append, List.mem_append, not_or]
      exact ⟨fun q => (List.nodup_append.mp hn).2.2 k q k (List.mem_map_of_mem (List.mem_of_getElem? at_i)) rfl, not_before onceO at_i⟩
    refine wpAny_bind (wpAny_holding (put_fresh D1 new (by rw [List.length_append, List.length_take]; omega) fun h2 D2 same2 => ?_))
    refine wpAny_bind (wpAny_dictEpoch ((same2.2 o fun e => hdo e.symm).trans atO1) dataO ?_)
    rw [bne_self_eq_false, if_neg Bool.false_ne_true]
    refine wpAny_pure ⟨rfl, h2, rfl, ?_, same1.trans same2⟩
    have : more.take (i + 1) = more.take i ++ [(k, v)] := by rw [List.take_add_one, at_i]; rfl
    rw [this, ← List.append_assoc]; exact D2
  · rintro _ ⟨h1, rfl, D1, same1⟩
    rw [List.take_length] at D1
    exact wpAny_pure (hQ h1 D1 same1)
end
end Mine
end

section
open PySem PySem.W PyProof.Rows
namespace Mine
section
variable {prog : Program} {w : World} {A : Around} {E : Value → Shared → Prop} {s : Shared}

def it3 (pos : Pos) (p : Int × Str) : Option (Sem Value) × Sem Value := (some (it2 pos p).1, (it2 pos p).2)

/-- what the loop holds -/
def Held (prog : Program) (w : World) (s : Shared) (done : List (Int × Str)) (main : Option Addr) (j : Nat) (s' : Shared) : Prop :=
  ∃ h' t', s' = { s with heap := h', toks := t' } ∧ h'.objs.size = s.heap.objs.size + j ∧ (∀ b o, s.heap.get? b = some o → h'.get? b = some o) ∧
    ((j = 0 ∧ done = [] ∧ main = none) ∨ (j ≠ 0 ∧ done ≠ [] ∧ main = some s.heap.objs.size ∧ ∃ kvs, KV done kvs ∧ h'.DictOf (intKind prog w) s.heap.objs.size kvs))

theorem flush_none {pos : Pos} {done run : List (Int × Str)} {j : Nat} {s₁ : Shared} {Q : Addr → Shared → Prop}
    (H : Held prog w s done none j s₁) (hr : run ≠ []) (hn : ((done ++ run).map (·.1)).Nodup) (hsz : done.length + run.length ≤ 1000)
    (hQ : ∀ d s', Held prog w s (done ++ run) (some d) (j + 1) s' → Q d s') : wpAny (model prog w) A (subDict (run.map (it2 pos))) Q E s₁ := by
  obtain ⟨h₁, t₁, rfl, hsize, hkeep, hcase⟩ := H
  have hnr : (run.map (·.1)).Nodup := by rw [List.map_append] at hn; exact (List.nodup_append.mp hn).2.1
  rcases hcase with ⟨rfl, rfl, _⟩ | ⟨_, _, hd, _⟩
  · refine sub_run (by simp at hsz; omega) hnr fun h' t' kvs hm hk hs hkp => ?_
    have hsz0 : h₁.objs.size = s.heap.objs.size := by simpa using hsize
    refine hQ _ _ ⟨h', t', rfl, ?_, fun b o e => hkp b o (hkeep b o e), .inr ⟨by simp, by simpa using hr, ?_, kvs, by simpa using hk, ?_⟩⟩
    · show h'.objs.size = _; rw [hs]; show h₁.objs.size + 1 = _; omega
    · show some h₁.objs.size = _; rw [hsz0]
    · rw [← hsz0]; exact hm
  · cases hd

theorem flush_some {pos : Pos} {done run : List (Int × Str)} {d : Addr} {j : Nat} {s₁ : Shared} {Q : Shared → Prop} (hb : sysModules < s.heap.objs.size)
    (H : Held prog w s done (some d) j s₁) (hn : ((done ++ run).map (·.1)).Nodup) (hsz : done.length + run.length ≤ 1000)
    (hQ : ∀ s', Held prog w s (done ++ run) (some d) (j + 1) s' → Q s') :
    wpAny (model prog w) A (subDict (run.map (it2 pos))) (fun sub s₂ => wpAny (model prog w) A (mergeMapping d (.ref sub) false) (fun _ s₃ => Q s₃) E s₂) E s₁ := by
  obtain ⟨h₁, t₁, rfl, hsize, hkeep, hcase⟩ := H
  have hnr : (run.map (·.1)).Nodup := by rw [List.map_append] at hn; exact (List.nodup_append.mp hn).2.1
  rcases hcase with ⟨_, _, hd⟩ | ⟨hj, hd0, hd, kvs, hkv, hD⟩
  · cases hd
  · obtain rfl := Option.some.inj hd
    refine sub_run (by omega) hnr fun h' t' mvs hm hk hs hkp => ?_
    have hlt : s.heap.objs.size < h₁.objs.size := by omega
    have hD' : h'.DictOf (intKind prog w) s.heap.objs.size kvs := by
      obtain ⟨o, es, ep, ho, r⟩ := hD
      exact ⟨o, es, ep, hkp _ _ ho, r⟩
    have hkl := hkv.length
    have hml := hk.length
    refine merge_run (s := { s with heap := h', toks := t' }) (d := s.heap.objs.size) (o := h₁.objs.size) (kvs := kvs) (more := mvs) (Nat.ne_of_lt hlt) (beq_eq_false_iff_ne.mpr fun e => ?_) hD' hm ?_ (by omega) ?_ fun h'' hm'' hs'' => ?_
    · rw [e] at hlt; exact absurd (Nat.lt_trans hlt hb) (Nat.lt_irrefl _)
    · rw [hkv.keys, hk.keys, ← List.map_append]; exact hn
    · intro e; rw [e] at hkl; exact hd0 (List.length_eq_zero_iff.mp (by simpa using hkl.symm))
    · refine hQ _ ⟨h'', t', rfl, ?_, fun b o e => ?_, .inr ⟨by simp, by simp [hd0], rfl, kvs ++ mvs, hkv.append hk, hm''⟩⟩
      · rw [hs''.1]; show h'.objs.size = _; rw [hs]; show h₁.objs.size + 1 = _; omega
      · exact (hs''.2 b (Nat.ne_of_lt (Heap.lt_size e))).trans (hkp b o (hkeep b o e))

theorem display_run {pos : Pos} {ps : List (Int × Str)} {Q : Value → Shared → Prop} (hb : sysModules < s.heap.objs.size) (h0 : ps ≠ []) (hn : (ps.map (·.1)).Nodup) (hsz : ps.length ≤ 1000)
    (hQ : ∀ h' t' kvs, h'.objs.size = s.heap.objs.size + (ps.length + 16) / 17 → (∀ b o, s.heap.get? b = some o → h'.get? b = some o) → KV ps kvs → h'.DictOf (intKind prog w) s.heap.objs.size kvs →
      Q (.ref s.heap.objs.size) { s with heap := h', toks := t' }) :
    wpAny (model prog w) A (dictDisplay (ps.map (it3 pos))) Q E s := by
  unfold dictDisplay
  dsimp only
  refine wpAny_bind ?_
  refine wpAny_forIn_list _
    (fun rest (b : Option Addr × List (Sem Value × Sem Value)) s' => ∃ done run restp j, done ++ run ++ restp = ps ∧ rest = restp.map (it3 pos) ∧ b.2 = run.map (it2 pos) ∧ run.length < 17 ∧ done.length = 17 * j ∧ Held prog w s done b.1 j s')
    _ ?_ ?_ _ _ ⟨[], [], ps, 0, by simp, rfl, rfl, by simp, by simp, s.heap, s.toks, rfl, rfl, fun _ _ e => e, .inl ⟨rfl, rfl, rfl⟩⟩
  · rintro x rest ⟨main, run⟩ s' ⟨done, runp, restp, j, hps, hrest, hrun, hl, hdl, H⟩
    dsimp only at hrun H
    subst hrun
    cases restp with
    | nil => cases hrest
    | cons p restp =>
      rw [List.map_cons] at hrest
      injection hrest with hx hrest
      subst hx hrest
      dsimp only [it3]
      have happ : List.map (it2 pos) runp ++ [((it2 pos p).1, (it2 pos p).2)] = (runp ++ [p]).map (it2 pos) := by simp
      simp only [happ]
      have hps' : done ++ (runp ++ [p]) ++ restp = ps := by rw [← hps]; simp
      have hn' : ((done ++ (runp ++ [p])).map (·.1)).Nodup := by
        rw [← hps', List.map_append] at hn; exact (List.nodup_append.mp hn).1
      have hl' : done.length + (runp ++ [p]).length ≤ 1000 := by rw [← hps'] at hsz; simp at hsz ⊢; omega
      by_cases h17 : runp.length + 1 = 17
      · rw [if_pos (by simp [h17])]
        simp only [show ((runp ++ [p]).map (it2 pos)).isEmpty = false by simp, Bool.false_eq_true, if_false]
        cases main with
        | none =>
          refine wpAny_bind (wpAny_bind (flush_none H (by simp) hn' hl' fun d s₂ H' => wpAny_pure (wpAny_pure ?_)))
          exact ⟨done ++ (runp ++ [p]), [], restp, j + 1, by rw [← hps]; simp, rfl, rfl, by simp, by simp; omega, H'⟩
        | some d =>
          refine wpAny_bind (wpAny_bind (wpAny_holding (wpAny_mono (flush_some (E := fun _ _ => False) hb H hn' hl' fun s₃ H' => H') (fun sub s₂ h₂ => ?_) fun _ _ e => e.elim)))
          refine wpAny_bind (wpAny_onRaise (wpAny_holding (wpAny_mono h₂ (fun _ s₃ H' => wpAny_pure (wpAny_pure ?_)) fun _ _ e => e.elim)))
          exact ⟨done ++ (runp ++ [p]), [], restp, j + 1, by rw [← hps]; simp, rfl, rfl, by simp, by simp; omega, H'⟩
      · rw [if_neg (by simp; omega)]
        refine wpAny_pure ⟨done, runp ++ [p], restp, j, by rw [← hps]; simp, rfl, rfl, by simp; omega, hdl, H⟩
  · rintro ⟨main, run⟩ s' ⟨done, runp, restp, j, hps, hrest, hrun, hl, hdl, H⟩
    dsimp only at hrun H ⊢
    subst hrun
    have hr0 : restp = [] := by cases restp with
      | nil => rfl
      | cons => cases hrest
    subst hr0
    rw [List.append_nil] at hps
    have last : ∀ (m : Option Addr) (s₂ : Shared) (j' : Nat), (ps.length + 16) / 17 = j' → Held prog w s ps m j' s₂ → ∃ d, m = some d ∧ Q (.ref d) s₂ := fun m s₂ j' hj' H' => by
      obtain ⟨h', t', rfl, hs', hk', hc⟩ := H'
      rcases hc with ⟨_, hd, _⟩ | ⟨_, _, hm, kvs, hkv, hD⟩
      · exact absurd hd h0
      · exact ⟨_, hm, hQ h' t' kvs (by rw [hs', hj']) hk' hkv hD⟩
    cases runp with
    | nil =>
      rw [List.append_nil] at hps
      subst hps
      obtain ⟨d, rfl, hq⟩ := last main s' j (by omega) H
      simp only [List.map_nil, List.isEmpty_nil, if_true]
      exact wpAny_bind (wpAny_pure (wpAny_pure hq))
    | cons p runp =>
      have hl2 : ps.length = 17 * j + (p :: runp).length := by rw [← hps]; simp [hdl]
      have hj : (ps.length + 16) / 17 = j + 1 := by simp at hl2 hl; omega
      have hn' : ((done ++ (p :: runp)).map (·.1)).Nodup := by rw [hps]; exact hn
      have hl' : done.length + (p :: runp).length ≤ 1000 := by rw [← hps] at hsz; simpa using hsz
      simp only [show ((p :: runp).map (it2 pos)).isEmpty = false by simp, Bool.false_eq_true, if_false]
      cases main with
      | none =>
        refine wpAny_bind (wpAny_bind (flush_none H (by simp) hn' hl' fun d s₂ H' => wpAny_pure ?_))
        rw [hps] at H'
        obtain ⟨d', hd, hq⟩ := last _ s₂ _ hj H'
        cases hd
        exact wpAny_pure hq
      | some d =>
        refine wpAny_bind (wpAny_bind (wpAny_holding (wpAny_mono (flush_some (E := fun _ _ => False) hb H hn' hl' fun s₃ H' => H') (fun sub s₂ h₂ => ?_) fun _ _ e => e.elim)))
        refine wpAny_bind (wpAny_onRaise (wpAny_holding (wpAny_mono h₂ (fun _ s₃ H' => wpAny_pure ?_) fun _ _ e => e.elim)))
        rw [hps] at H'
        obtain ⟨d', hd, hq⟩ := last _ s₃ _ hj H'
        cases hd
        exact wpAny_pure hq

def kvKey : Option Expr → Option Int
  | some (.Constant (.int k) _ _) => some k
  | _ => none
def kvVal : Expr → Option Str
  | .Constant (.str v) _ _ => some v
  | _ => none
def constPairs : List (Option Expr) → List Expr → Option (List (Int × Str))
  | [], [] => some []
  | k :: ks, v :: vs => (kvKey k).bind fun k => (kvVal v).bind fun v => (constPairs ks vs).map ((k, v) :: ·)
  | _, _ => none
theorem kvKey_is {e : Option Expr} {k : Int} (h : kvKey e = some k) : ∃ a b, e = some (.Constant (.int k) a b) := by
  unfold kvKey at h
  split at h
  · cases h; exact ⟨_, _, rfl⟩
  · cases h
theorem kvVal_is {e : Expr} {k : Str} (h : kvVal e = some k) : ∃ a b, e = .Constant (.str k) a b := by
  unfold kvVal at h
  split at h
  · cases h; exact ⟨_, _, rfl⟩
  · cases h

theorem constPairs_items {env : Env} {pos : Pos} : ∀ {ks : List (Option Expr)} {vs : List Expr} {ps : List (Int × Str)}, constPairs ks vs = some ps →
    (evalEachOpt ks env).zip ((evalEach vs env).map fun v => do let x ← v; standAt pos; pure x) = ps.map (it3 pos)
  | [], [], ps, h => by cases h; rfl
  | [], _ :: _, ps, h => by cases h
  | _ :: _, [], ps, h => by cases h
  | k :: ks, v :: vs, ps, h => by
    obtain ⟨k', hk, h⟩ := Option.bind_eq_some_iff.mp (show (kvKey k).bind _ = some ps from h)
    obtain ⟨v', hv, h⟩ := Option.bind_eq_some_iff.mp h
    obtain ⟨qs, hq, rfl⟩ := Option.map_eq_some_iff.mp h
    obtain ⟨a, b, rfl⟩ := kvKey_is hk
    obtain ⟨a', b', rfl⟩ := kvVal_is hv
    have ih := constPairs_items (env := env) (pos := pos) hq
    rw [List.map_cons, ← ih]
    rfl

theorem wpAny_bigDict {env : Env} {pos : Pos} {ks : List (Option Expr)} {vs : List Expr} {ps : List (Int × Str)} {Q : Value → Shared → Prop} (hc : constPairs ks vs = some ps)
    (hb : sysModules < s.heap.objs.size) (h0 : ps ≠ []) (hn : (ps.map (·.1)).Nodup) (hsz : ps.length ≤ 1000)
    (hQ : ∀ h' t' kvs, h'.objs.size = s.heap.objs.size + (ps.length + 16) / 17 → (∀ b o, s.heap.get? b = some o → h'.get? b = some o) → KV ps kvs → h'.DictOf (intKind prog w) s.heap.objs.size kvs →
      Q (.ref s.heap.objs.size) { s with heap := h', toks := t' }) : wpAny (model prog w) A (eval (.Dict ks vs pos) env) Q E s := by
  rw [arm_eval_Dict, constPairs_items hc]
  exact wpAny_bind (wpAny_standAt (display_run hb h0 hn hsz hQ))
end
end Mine
end

section
open PySem PySem.W PyProof.Rows
namespace Mine
open Sem (wp)

theorem halted_before {den : Code → Sem Fin} {prog : Program} {w : World} : ∀ {n : Nat} {s : Shared} {t : Thread} {o : Outcome} {s' : Shared}, runN den prog w n s t = .halted o s' →
    ∃ k s₁ t₁, runN den prog w k s t = .running s₁ t₁ ∧ step den prog w s₁ t₁ = .halt o s'
  | 0, _, _, _, _, h => by cases h
  | n + 1, s, t, o, s', h => by
    simp only [runN] at h
    cases hs : step den prog w s t with
    | halt o₁ s₁ =>
      rw [hs] at h
      injection h with h1 h2
      subst h1 h2
      exact ⟨0, s, t, rfl, hs⟩
    | go s₁ t₁ =>
      rw [hs] at h
      obtain ⟨k, s₂, t₂, hk, he⟩ := halted_before h
      exact ⟨k + 1, s₂, t₂, by simp only [runN, hs]; exact hk, he⟩

theorem halt_done {den : Code → Sem Fin} {prog : Program} {w : World} {s : Shared} {t : Thread} {f : Flow} {s' : Shared} (h : step den prog w s t = .halt (.done f) s') : through t = true ∧ s' = s := by
  obtain ⟨heap, gens, drawn, toks, os⟩ := s
  obtain ⟨cur, code, pos, stack⟩ := t
  cases cur with
  | pure fin =>
    cases fin with
    | again c => unfold step at h; cases h
    | done f' =>
      unfold step at h
      dsimp only at h
      cases stack with
      | nil =>
        dsimp only [finish] at h
        split at h
        · cases h
        · cases h; exact ⟨rfl, rfl⟩
      | cons fr rest => cases fr <;> cases h
  | _ =>
    unfold step at h
    try dsimp only [finish] at h
    first
      | (cases h; done)
      | ((repeat' split at h) <;> (cases h; done))

/-- a run of the claim's caller, as far as its last step -/
theorem run_of_wp {prog : Program} {w : World} {s : Shared} {t : Sem Fin} {R : Shared → Prop} (hz : s.asleep)
    (h : wp (model prog w) ⟨.builtin "claim.caller" {}, none, none, [], none⟩ t (fun fin _ s' => fin = .done (.ret .none) ∧ R s' ∧ s'.gens = #[]) (fun _ _ _ => False) default s) :
    ∃ n t₁ s₁, schedN (denote table) prog w n (.single s ⟨t, .builtin "claim.caller" {}, default, []⟩) = .running (.single s₁ t₁) ∧ through t₁ = true ∧ R s₁ ∧ s₁.gens = #[] ∧ s₁.heap.life = s.heap.life := by
  have h' := Sem.wp_mono (post' := Sem.finPost (model prog w) ⟨.builtin "claim.caller" {}, none, none, [], none⟩ fun r s' => (r = .ok (.ret .none) ∧ R s' ∧ s'.gens = #[]) ∧ leftWithCleanup s'.gens = false)
    (exc' := fun e _ s' => ((Except.error e : Result) = .ok (.ret .none) ∧ R s' ∧ s'.gens = #[]) ∧ leftWithCleanup s'.gens = false) (model prog w) _ t (fun fin p' s' hq => by
      obtain ⟨rfl, hR, hg⟩ := hq
      exact ⟨⟨rfl, hR, hg⟩, (Shared.noSusp_of_empty hg).noCleanup⟩) (fun _ _ _ hq => hq.elim) default s h
  obtain ⟨n, r, s', hn, ⟨rfl, hR, hg⟩⟩ := (wp_iff_halts (M := model prog w) t (fun r s' => r = .ok (.ret .none) ∧ R s' ∧ s'.gens = #[]) default s).mp h'
  obtain ⟨s'', h1, h2, hc⟩ := runNI_real (denote table) prog w hn (outcomeOf_ends _)
  have e : s'' = s' := Shared.eq_of_forget_eq' h2 (Shared.noSusp_of_empty hg)
  subst e
  have hseq : Sequential (denote table) prog w s ⟨t, .builtin "claim.caller" {}, default, []⟩ := ⟨hc, fun k s₂ hk => by
    have a := runN_mono (denote table) prog w n k s _ _ s'' h1
    have b := runN_mono (denote table) prog w k n s _ _ s₂ hk
    rw [Nat.add_comm, b] at a
    injection a with a1 _
    cases a1⟩
  obtain ⟨k, s₁, t₁, hk, hs⟩ := halted_before h1
  obtain ⟨ht, rfl⟩ := halt_done hs
  exact ⟨k, t₁, s'', by rw [schedN_eq_runN (denote table) prog w s _ hz hseq k, hk]; rfl, ht, hR, hg, runN_life_running hk⟩

/-- laying objects behind a tree -/
def insAll : BT → Nat → List Obj → Option BT
  | T, _, [] => some T
  | T, n, o :: os => match ((T.ins n o).get n).isSome with
    | true => insAll (T.ins n o) (n + 1) os
    | false => none
theorem insAll_abs {life : Life} : ∀ {os : List Obj} {T T' : BT} {n : Nat}, insAll T n os = some T' → absHeap T' (n + os.length) life = ⟨(absHeap T n life).objs ++ os.toArray, life⟩
  | [], T, T', n, h => by cases h; simp [absHeap]
  | o :: os, T, T', n, h => by
    unfold insAll at h
    cases e : ((T.ins n o).get n).isSome with
    | false => rw [e] at h; cases h
    | true =>
      rw [e] at h
      have := insAll_abs (life := life) h
      rw [absHeap_ins e] at this
      rw [List.length_cons, show n + (os.length + 1) = n + 1 + os.length by omega, this]
      simp [Heap.push]

def ofShared (s : Shared) : Option SharedT := (insAll .nil 0 s.heap.objs.toList).map fun T => ⟨T, s.heap.objs.size, s.heap.life, s.gens, s.drawn, s.toks, s.os⟩
theorem ofShared_abs {s : Shared} {S : SharedT} (h : ofShared s = some S) : S.abs = s := by
  obtain ⟨T, hT, rfl⟩ := Option.map_eq_some_iff.mp h
  have := insAll_abs (life := s.heap.life) hT
  obtain ⟨⟨objs, life⟩, gens, drawn, toks, os⟩ := s
  unfold SharedT.abs
  dsimp only at this ⊢
  rw [Nat.zero_add, Array.length_toList] at this
  rw [this]
  simp [absHeap, BT.list]

abbrev envT (sc : Scope) (code : Value) (fr : Addr) : Env := { scope := sc, locals := mainNs, globals := mainNs, cells := [], code, frame := some fr }
abbrev Γtop : Ctx := ⟨.builtin "claim.caller" {}, none, none, [], none⟩

/-- the opening of the top: code, frame, block, the statements ahead of the table -/
noncomputable def topA (den : Code → Sem Fin) (S : Setting) (mc : Sem Value) (nf : Value → Sem Addr) (bs : List Stmt → Env → Sem Unit) (ex : List Stmt → Env → Sem Flow) (sc : Scope) (stmts pre : List Stmt) (s : SharedT) :
    Option (Value × Addr × Pos × Pos × SharedT) :=
  match evS S (evC den S 200) Γtop mc default s with
  | some (.ok code, p1, s1) => match evS S (evC den S 200) Γtop (nf code) p1 s1 with
    | some (.ok fr, p2, s2) => match evS S (evC den S 200) (Γtop.enter (.body stmts (envT sc code fr)) none p2) (bs stmts (envT sc code fr)) p2 s2 with
      | some (.ok (), p3, s3) => match evS S (evC den S 200) (Γtop.enter (.body stmts (envT sc code fr)) none p2) (ex pre (envT sc code fr)) p3 s3 with
        | some (.ok .next, p4, s4) => some (code, fr, p2, p4, s4)
        | _ => none
      | _ => none
    | _ => none
  | _ => none

/-- the rest of the top, behind the table -/
noncomputable def topB (den : Code → Sem Fin) (S : Setting) (bn : Env → Str → Value → Sem Unit) (ex : List Stmt → Env → Sem Flow) (sc : Scope) (stmts post : List Stmt) (x : Str) (xpos : Pos) (code : Value) (fr : Addr) (p2 : Pos)
    (s : SharedT) (os : List Obj) (life : Life) (toks : Nat) : Option SharedT :=
  match insAll s.tree s.n os with
  | some T => match evS S (evC den S 200) (Γtop.enter (.body stmts (envT sc code fr)) none p2) (bn (envT sc code fr) x (.ref s.n)) xpos ⟨T, s.n + os.length, life, s.gens, s.drawn, toks, s.os⟩ with
    | some (.ok (), p6, s6) => match evS S (evC den S 200) (Γtop.enter (.body stmts (envT sc code fr)) none p2) (ex post (envT sc code fr)) p6 s6 with
      | some (.ok .next, _, s7) => some s7
      | _ => none
    | _ => none
  | none => none

theorem wp_execs_append {M : Model} {Γ : Ctx} {env : Env} {b : List Stmt} {Q : Flow → Pos → Shared → Prop} {E : Value → Pos → Shared → Prop} : ∀ (a : List Stmt) (p : Pos) (s : Shared),
    wp M Γ (execs a env) (fun f p' s' => match f with | .next => wp M Γ (execs b env) Q E p' s' | f => Q f p' s') E p s → wp M Γ (execs (a ++ b) env) Q E p s
  | [], p, s, h => h
  | st :: a, p, s, h => by
    have e : ∀ l, execs (st :: l) env = (do match ← exec st env with | .next => execs l env | f => pure f) := fun _ => rfl
    rw [e] at h
    rw [List.cons_append, e]
    rw [Sem.wp_bind'] at h ⊢
    refine Sem.wp_mono M Γ _ (fun f p' s' hf => ?_) (fun _ _ _ he => he) p s h
    cases f with
    | next => exact wp_execs_append a p' s' hf
    | _ => exact hf

theorem objs_of_get {h : Heap} {a : Addr} {o : Obj} (e : h.get? a = some o) : h.objs[a]? = some o := by
  unfold Heap.get? at e
  split at e
  · cases e
  · exact e

theorem grown_objs {g h' : Heap} {k : Nat} (hal : ∀ b, b < g.objs.size → ∃ o, g.get? b = some o) (hsz : h'.objs.size = g.objs.size + k) (hkeep : ∀ b o, g.get? b = some o → h'.get? b = some o) :
    h' = ⟨g.objs ++ (h'.objs.toList.drop g.objs.size).toArray, h'.life⟩ := by
  obtain ⟨objs, life⟩ := h'
  dsimp only at *
  congr 1
  apply Array.ext_getElem?
  intro i
  rw [Array.getElem?_append]
  split
  · rename_i hi
    obtain ⟨o, ho⟩ := hal i hi
    rw [objs_of_get ho, ← objs_of_get (hkeep i o ho)]
  · rename_i hi
    rw [show (List.drop g.objs.size objs.toList).toArray[i - g.objs.size]? = (List.drop g.objs.size objs.toList)[i - g.objs.size]? from List.getElem?_toArray, List.getElem?_drop, Array.getElem?_toList]
    congr 1
    omega

theorem quickIn (Γ : Ctx) : Γ.In ⟨Γ.handled, frameCount Γ.below + Γ.code.weight, none, none, Γ.units⟩ := ⟨rfl, Nat.le_refl _, fun _ h => (nomatch h), fun _ h => (nomatch h), Nat.le_refl _⟩

theorem top_wp {prog : Program} {w : World} {s₀ : Shared} {t₀ s4 : SharedT} {ks : List (Option Expr)} {vs : List Expr} {ps : List (Int × Str)} {pre post : List Stmt} {x : Str} {xpos dpos pos : Pos} {code : Value} {fr : Addr} {p2 p4 : Pos}
    {R : Shared → Prop} (h0 : t₀.abs = s₀) (hb : behindTheImports prog = pre ++ .Assign [.Name x xpos] (.Dict ks vs dpos) pos :: post)
    (hc : constPairs ks vs = some ps) (hp0 : ps ≠ []) (hpn : (ps.map (·.1)).Nodup) (hpl : ps.length ≤ 1000)
    (hA : topA (denote table) ⟨prog, w.params⟩ (moduleCode prog.main) (fun c => newBodyFrame c mainNs mainNs) blockStart execs prog.main.scope (behindTheImports prog) pre t₀ = some (code, fr, p2, p4, s4))
    (hs4 : sysModules < s4.n) (hal : ∀ b, b < s4.n → ∃ o, s4.abs.heap.get? b = some o) (hg : s4.gens = #[])
    (hB : ∀ os life toks kvs, os.length = (ps.length + 16) / 17 → KV ps kvs → (∃ o, os[0]? = some o ∧ o.IsDictOf (intKind prog w) kvs) → ∃ s7, topB (denote table) ⟨prog, w.params⟩ bindName execs prog.main.scope (behindTheImports prog) post x xpos code fr p2 s4 os life toks = some s7 ∧ s7.gens = #[] ∧ R s7.abs) :
    wp (model prog w) Γtop (do
      let code ← moduleCode prog.main
      let frame ← newBodyFrame code mainNs mainNs
      let _ ← run (.body (behindTheImports prog) { scope := prog.main.scope, locals := mainNs, globals := mainNs, cells := [], code, frame := some frame })
      ret .none) (fun fin _ s' => fin = .done (.ret .none) ∧ R s' ∧ s'.gens = #[]) (fun _ _ _ => False) default s₀ := by
  have snd {α : Type} {Γ : Ctx} {t : Sem α} {p : Pos} {s : SharedT} {r : α} {p' : Pos} {s' : SharedT} (h : evS ⟨prog, w.params⟩ (evC (denote table) ⟨prog, w.params⟩ 200) Γ t p s = some (.ok r, p', s')) {Q : α → Pos → Shared → Prop} {E : Value → Pos → Shared → Prop} (hq : Q r p' s'.abs) :
      wp (model prog w) Γ t Q E p s.abs := evS_sound (M := model prog w) (evC_sound 200) t p s _ p' s' h Q E hq
  unfold topA at hA
  split at hA
  · rename_i code₁ p1 s1 e1
    split at hA
    · rename_i fr₁ p2₁ s2 e2
      split at hA
      · rename_i p3 s3 e3
        split at hA
        · rename_i p4₁ s4₁ e4
          obtain ⟨rfl, rfl, rfl, rfl, rfl⟩ : code₁ = code ∧ fr₁ = fr ∧ p2₁ = p2 ∧ p4₁ = p4 ∧ s4₁ = s4 := by simpa using hA
          subst h0
          rw [Sem.wp_bind']
          refine snd e1 ?_
          rw [Sem.wp_bind']
          refine snd e2 ?_
          rw [Sem.wp_bind']
          show wpCode _ _ _ _ _
          rw [wpCode_iff_wp]
          show wp (model prog w) (Γtop.enter (.body (behindTheImports prog) (envT prog.main.scope code₁ fr₁)) none p2₁) (denote table (.body (behindTheImports prog) (envT prog.main.scope code₁ fr₁))) _ _ _ _
          unfold denote
          rw [Sem.wp_bind']
          refine snd e3 ?_
          rw [Sem.wp_bind', Sem.wp_onRaise]
          have hE : ∀ {Q : Flow → Pos → Shared → Prop} {E : Value → Pos → Shared → Prop} {p : Pos} {s : Shared}, wp (model prog w) (Γtop.enter (.body (behindTheImports prog) (envT prog.main.scope code₁ fr₁)) none p2₁) (execs (behindTheImports prog) (envT prog.main.scope code₁ fr₁)) Q (fun _ _ _ => False) p s →
              wp (model prog w) (Γtop.enter (.body (behindTheImports prog) (envT prog.main.scope code₁ fr₁)) none p2₁) (execs (behindTheImports prog) (envT prog.main.scope code₁ fr₁)) Q E p s := fun h => Sem.wp_mono _ _ _ (fun _ _ _ h => h) (fun _ _ _ h => h.elim) _ _ h
          refine hE ?_
          generalize hΓ : Γtop.enter (.body (behindTheImports prog) (envT prog.main.scope code₁ fr₁)) none p2₁ = Γ at *
          rw [hb]
          refine wp_execs_append pre _ _ (snd e4 ?_)
          dsimp only
          have ec : ∀ (st : Stmt) (l : List Stmt) (env : Env), execs (st :: l) env = (do match ← exec st env with | .next => execs l env | f => pure f) := fun _ _ _ => rfl
          rw [ec, exec_Assign_Name _ _ _ _ _ rfl]
          simp only [Sem.wp_bind', Sem.wp_cmd_standAt, Sem.wp_pure']
          refine wpAny_bigDict (prog := prog) (w := w) (Q := fun v s' => ∀ p', wp (model prog w) Γ (bindName (envT prog.main.scope code₁ fr₁) x v) _ _ xpos s') (E := fun _ _ => False) hc (by show sysModules < s4₁.abs.heap.objs.size; rw [show s4₁.abs.heap.objs.size = s4₁.n from absHeap_size _ _ _]; exact hs4) hp0 hpn hpl (fun h' t' kvs hsz hkeep hkv hD p' => ?_) Γ pos (quickIn Γ) |> fun h => Sem.wp_mono _ _ _ (fun v p' s' hv => hv p') (fun _ _ _ he => he.elim) _ _ h
          have hn : s4₁.abs.heap.objs.size = s4₁.n := absHeap_size _ _ _
          have hgrow := grown_objs (g := s4₁.abs.heap) (fun b hb' => hal b (hn ▸ hb')) hsz hkeep
          obtain ⟨o, hod⟩ := Heap.dictOf_iff.mp hD
          have hlen : (h'.objs.toList.drop s4₁.n).length = (ps.length + 16) / 17 := by
            rw [List.length_drop, Array.length_toList, hsz, hn]; omega
          obtain ⟨s7, hB7, hg7, hR7⟩ := hB (h'.objs.toList.drop s4₁.n) h'.life t' kvs hlen hkv ⟨o, by rw [List.getElem?_drop, Nat.add_zero, Array.getElem?_toList, ← hn]; exact objs_of_get hod.1, hod.2⟩
          unfold topB at hB7
          split at hB7
          · rename_i T hT
            have hab : ({ s4₁.abs with heap := h', toks := t' } : Shared) = (⟨T, s4₁.n + (h'.objs.toList.drop s4₁.n).length, h'.life, s4₁.gens, s4₁.drawn, t', s4₁.os⟩ : SharedT).abs := by
              unfold SharedT.abs
              dsimp only
              rw [insAll_abs hT]
              rw [hn] at hgrow
              rw [show (absHeap s4₁.tree s4₁.n h'.life).objs = s4₁.abs.heap.objs from rfl, ← hgrow]
            rw [hab, hn]
            split at hB7
            · rename_i p6 s6 e6
              rw [hΓ] at e6
              refine snd e6 ?_
              split at hB7
              · rename_i p7 s7' e7
                rw [hΓ] at e7
                obtain rfl : s7' = s7 := by simpa using hB7
                refine snd e7 ?_
                exact ⟨rfl, hR7, hg7⟩
              · cases hB7
            · cases hB7
          · cases hB7
        · cases hA
      · cases hA
    · cases hA
  · cases hA
end Mine
end

section
open PySem PySem.W PyProof.Rows PySem.Calls
namespace Mine

/-- the ints of a list -/
def Ints : List Value → List Int → Prop
  | [], [] => True
  | v :: vs, n :: ns => (∃ t, v = .int n t) ∧ Ints vs ns
  | _, _ => False

theorem ints_of {P : Params} {h : Heap} {R : WRecords} : ∀ {vs : List Value} {ds : List WData}, WellAll P h vs ds → (∀ d ∈ ds, WShape.has R d .int = true) → ∃ ns, Ints vs ns ∧ ds = ns.map .int ∧ ns.length = ds.length
  | _, _, .nil, _ => ⟨[], trivial, rfl, rfl⟩
  | _, _, .cons (v := v) (d := d) hw hws, hs => by
    obtain ⟨ns, h1, h2, h3⟩ := ints_of hws fun d hd => hs d (.tail _ hd)
    have hd := hs d (.head _)
    cases hw with
    | int i t => exact ⟨i :: ns, ⟨⟨t, rfl⟩, h1⟩, by rw [h2]; rfl, by simp [h3]⟩
    | _ => exact absurd (show false = true from hd) (by decide)

theorem items_int {R : WRecords} : ∀ {ds : List WData} {e : WShape}, WShape.hasItems R ds e = true → ∀ d ∈ ds, WShape.has R d e = true
  | d :: ds, e, h, d', hd => by
    rw [WShape.hasItems] at h
    obtain ⟨h1, h2⟩ := Bool.and_eq_true_iff.mp h
    rcases List.mem_cons.mp hd with rfl | hd
    · exact h1
    · exact items_int h2 d' hd

abbrev Goes (prog : Program) (w : World) (f : Value) (vs : List Value) (s₁ : Shared) : Prop :=
  wpAny (model prog w) callerA (PySem.call f vs) (fun v s' => v = .bool true ∧ (∀ b o, s₁.heap.get? b = some o → s'.heap.get? b = some o) ∧ s'.os = s₁.os ∧ s'.gens = #[]) (fun _ _ => False) s₁

theorem law_row {l : OpenLaw} {P : World → Shared → Prop} (said : l.row.wellSaid = true) (hprom : l.row.toRowW.promised) (hbare : l.prog.bare) (hopen : opensWell l.prog = true) (hbd : l.bound = none) (hmo : l.most = some 63)
    (hwr : l.writes = false)
    (behind : ∀ w : World, (∃ s, AfterRun (opening l.prog) w s) ∧ ∀ s, AfterRun (opening l.prog) w s → ∃ s₀, fenceModules? l.prog s = some s₀ ∧ s₀.gens = #[] ∧ ∃ s₁, TopRan l.prog w s₀ s₁ ∧ s₁.asleep ∧ s₁.gens = #[] ∧ isTheDefsW l.prog s₁.heap l.name ∧ P w s₁)
    (call : ∀ (w : World) (s s₁ : Shared) (a : Addr) (vs : List Value) (ns : List Int), P w s → (∀ b o, s.heap.get? b = some o → s₁.heap.get? b = some o) → s₁.gens = #[] →
      s₁.heap.get? a = some { cls := .type "list", data := .seq vs.toArray } → Ints vs ns → ns.length ≤ 63 → WData.layableAll [.list (ns.map .int)] = true →
      ∃ mg f, s₁.heap.Ns mainGlobals mg ∧ mg l.name = some f ∧ Goes l.prog w f [.ref a] s₁) : l.row.Holds := by
  refine ⟨said, hprom, ⟨⟨hbare, hopen, rfl⟩, hprom.witness, fun w => ⟨(behind w).1, fun s' hs' => ?_⟩⟩⟩
  obtain ⟨s₀, hf, hg0, s, hT, hz, hgens, hdef, hP⟩ := (behind w).2 s' hs'
  refine ⟨s₀, hf, hg0, s, hT, fun n hn => ?_, fun x hx => (nomatch hx), fun x hx => (nomatch hx), ?_⟩
  · obtain rfl : n = l.name := by simpa [OpenLaw.row] using hn
    exact hdef
  refine ClaimW.callFrom_of_specG (c := l.row.toRowW.claim) (tree := fun vs => do
    match ← nsGet mainNs l.name with
    | some f => do ret (← PySem.call f vs)
    | none => unsupported "claim.caller:no-such-global") hz hgens fun args hpre hlay ord hord => ?_
  obtain ⟨hsh, hpr⟩ := pre_splitW hpre
  obtain ⟨⟨vs, s₁⟩, hlaid⟩ := Option.isSome_iff_exists.mp (layAllW_isSome (R := l.row.toRowW.records) (cl := classAt s.heap) (P := w.params) (ord := ord) (fun c hc => by simp [OpenLaw.row, WRecords.fields?] at hc) args l.row.toRowW.args s hsh)
  have keeps := layAllW_keeps _ _ _ hlaid
  have hal := layAllW_rest _ _ _ hlaid
  obtain ⟨as, hrd, hin, hold⟩ := reads_layAllW hord _ _ _ hlaid hlay s₁.heap (fun _ _ e => e)
  have L : Laid l.row.toRowW.records w s s₁ args vs as := ⟨⟨ord, hord, hlaid⟩, hrd, hin, hold, keeps, hal.1.trans hgens, hal.2.2.1⟩
  have hwell := L.well
  refine ⟨vs, s₁, hlaid, ?_⟩
  obtain ⟨d, r, rfl, hd, hr⟩ := hasAllW_cons (R := l.row.toRowW.records) (e := .list .int) (es := []) hsh
  obtain rfl := hasAllW_nil hr
  obtain ⟨ds, rfl, hit⟩ := hasW_list hd
  cases hwell with
  | cons hw hws =>
    cases hws
    cases hw with
    | list hget hall =>
      rename_i a vals
      obtain ⟨ns, hI, hds, hlen⟩ := ints_of (R := l.row.toRowW.records) hall (items_int hit)
      have h63 : ns.length ≤ 63 := by
        have hp : l.pre.holds l.row.toRowW.records { args := [.list ds] } = true := hpr
        unfold OpenLaw.pre at hp
        rw [hmo, hbd] at hp
        unfold WTm.holds at hp
        rw [w_and (w_not (w_lt w_lit (w_len_list (w_arg rfl)))) w_lit] at hp
        rw [hlen]
        by_cases q : ((63 : Nat) : Int) < (ds.length : Int)
        · rw [show decide (((63 : Nat) : Int) < (ds.length : Int)) = true from decide_eq_true q] at hp
          cases hp
        · omega
      subst hds
      obtain ⟨mg, f, hmg, hf, hgo⟩ := call w s s₁ a vals ns hP keeps L.gens hget hI h63 hlay
      have hi : ∀ x y, l.row.toRowW.claim.ident x y = true := ident_freeW rfl rfl rfl
      refine wpAny_bind (wpAny_nsGet hmg ?_)
      rw [hf]
      refine wpAny_bind (wpAny_mono hgo (fun v s' hq => wpAny_pure ?_) fun _ _ he => he.elim)
      obtain ⟨rfl, hk, hos, hg⟩ := hq
      have hpost : l.row.toRowW.claim.post [.list (ns.map .int)] (.bool true) [.list (ns.map .int)] = true :=
        postW_of (r := l.row.toRowW) (X := true) (by rfl) ((w_eq_bool (w_res rfl) w_lit).trans (by rfl)) rfl
      have G : GoodWG l.row.toRowW.claim (classAt s.heap) (ExcName.means s.heap) [.list (ns.map .int)] s₁ (.ok (.ret (.bool true))) s' :=
        GoodW.toG ⟨.inl ⟨_, .bool true, [], rfl, fun cls => rfl, .bool true, hpost, fun _ => ⟨.nil, fun _ hx => (nomatch hx)⟩⟩, hk, hos, hg⟩
      obtain ⟨z1, z2, z3⟩ := G.laid (c := l.row.toRowW.claim) rfl rfl hi L
      refine ⟨_, rfl, z1, z2, z3, fun q => ?_⟩
      exact absurd (hwr.symm.trans q) Bool.false_ne_true
end Mine
end

section
open PySem PySem.W PyProof.Rows
set_option maxRecDepth 100000
set_option maxHeartbeats 0
namespace Mine

noncomputable abbrev pw := PySem.Challenge.pw_re0123_01
noncomputable def stmts : List Stmt := behindTheImports pw
noncomputable def preS : List Stmt := stmts.take 11
noncomputable def postS : List Stmt := stmts.drop 12
def dictParts : Option Stmt → Str × Pos × List (Option Expr) × List Expr × Pos × Pos
  | some (.Assign [.Name x xp] (.Dict ks vs dp) p) => (x, xp, ks, vs, dp, p)
  | _ => (default, default, [], [], default, default)
noncomputable def dX : Str := (dictParts stmts[11]?).1
noncomputable def dXp : Pos := (dictParts stmts[11]?).2.1
noncomputable def dKs : List (Option Expr) := (dictParts stmts[11]?).2.2.1
noncomputable def dVs : List Expr := (dictParts stmts[11]?).2.2.2.1
noncomputable def dDp : Pos := (dictParts stmts[11]?).2.2.2.2.1
noncomputable def dP : Pos := (dictParts stmts[11]?).2.2.2.2.2
theorem stmts_split : behindTheImports pw = preS ++ .Assign [.Name dX dXp] (.Dict dKs dVs dDp) dP :: postS := by kernel_rfl!

noncomputable def b3 : List (Int × Str) := (constPairs dKs dVs).getD []
def rising : List (Int × Str) → Bool
  | [] => true
  | p :: r => (match r with | [] => true | q :: _ => decide (p.1 < q.1)) && rising r
theorem rising_lt : ∀ {l : List (Int × Str)}, rising l = true → l.Pairwise fun p q => p.1 < q.1
  | [], _ => .nil
  | [p], _ => by simp
  | p :: q :: r, h => by
    simp only [rising, Bool.and_eq_true, decide_eq_true_eq] at h
    have ih : (q :: r).Pairwise fun p q => p.1 < q.1 := rising_lt (by simp only [rising, Bool.and_eq_true]; exact h.2)
    refine List.Pairwise.cons ?_ ih
    intro x hx
    rcases List.mem_cons.mp hx with rfl | hx
    · exact h.1
    · exact Int.lt_trans h.1 ((List.pairwise_cons.mp ih).1 x hx)
theorem b3_is : constPairs dKs dVs = some b3 := by
  have h : (constPairs dKs dVs).isSome = true := by kernel_rfl!
  unfold b3
  obtain ⟨x, hx⟩ := Option.isSome_iff_exists.mp h
  rw [hx]; rfl
theorem b3_len : b3.length = 650 := by kernel_rfl!
theorem b3_rising : rising b3 = true := by kernel_rfl!
theorem b3_nodup : (b3.map (·.1)).Nodup := List.pairwise_map.mpr ((rising_lt b3_rising).imp fun h => Int.ne_of_lt h)

noncomputable def qv : Program := view pw [0, 1, 2, 3, 4, 7, 8, 9, 11, 13, 14, 15, 16, 17, 18, 19, 20]
def loose : List Str := ["_twin_re_1", "_twin_re_2", "b1_set", "b3_exceptions"]

def i0 (n : Int) : Value := .int n 0
def tup1 : Obj := { cls := .type "tuple", data := .seq #[i0 14, i0 4, i0 0, i0 1, i0 1, i0 6, i0 1, i0 16, i0 46, i0 1] }
def pat1 : Obj := { cls := .type "re.Pattern", data := .fields #[.str (Str.ofString "(?m)^\\.") 301, .int 40 314, i0 0, .none, .none, .ref 42, i0 0] }
def tup2 : Obj := { cls := .type "tuple", data := .seq #[i0 14, i0 9, i0 4, i0 1, i0 2, i0 16, i0 10, i0 16, i0 13, i0 0, i0 7, i0 7, i0 16, i0 13, i0 16, i0 10, i0 15, i0 18, i0 5, i0 16, i0 10, i0 15, i0 13, i0 11, i0 16, i0 13, i0 5, i0 5, i0 0, i0 16, i0 10, i0 1, i0 15, i0 2, i0 0, i0 1] }
def pat2 : Obj := { cls := .type "re.Pattern", data := .fields #[.str (Str.ofString "(?:\\r\\n|\\n|\\r(?!\\n))") 317, .int 32 356, i0 0, .none, .none, .ref 47, i0 0] }
def b1es : Array (Int × Value) := #[(65024, .int 65024 385), (65025, .int 65025 386), (65026, .int 65026 387), (65027, .int 65027 388), (65028, .int 65028 389), (65029, .int 65029 390),
  (6150, .int 6150 371), (65030, .int 65030 391), (65031, .int 65031 392), (65032, .int 65032 393), (65033, .int 65033 394), (6155, .int 6155 372),
  (6156, .int 6156 373), (6157, .int 6157 374), (8203, .int 8203 375), (8204, .int 8204 376), (8205, .int 8205 377), (65034, .int 65034 395),
  (65035, .int 65035 396), (65036, .int 65036 397), (65037, .int 65037 398), (65038, .int 65038 399), (65039, .int 65039 400), (173, .int 173 369),
  (847, .int 847 370), (8288, .int 8288 378), (65279, .int 65279 379)]
def b1tab (led : Bool) : SetTable := { mask := 127, place := #[0, 1, 2, 3, 4, 5, 6, 7, 8, 9, 10, 11, 12, 13, 14, 15, 16, 17, 18, 19, 20, 21, 22, 45, 79, 96, 127], dummies := #[], finger := 0, led, moves := 2, plain := true }
def b1obj (led : Bool) : Obj := { cls := .type "set", data := .set b1es 29 (b1tab led) }

/-- what is looked at behind the top, besides the library's look -/
noncomputable def obs (nm : Heap → Addr → Str → Option Value) (s : SharedT) : List (Option Value) × List (Option Obj) :=
  ([nm s.abs.heap mainGlobals "_twin_re_1", nm s.abs.heap mainGlobals "_twin_re_2", nm s.abs.heap mainGlobals "b1_set", nm s.abs.heap mainGlobals "b3_exceptions"],
   [s.tree.get 42, s.tree.get 43, s.tree.get 47, s.tree.get 48, s.tree.get 63, s.tree.get 74])

def allAlive (s : SharedT) : Bool := (List.range s.n).all fun b => match s.tree.get b with
  | some o => match o.data with
    | .freed => false
    | _ => true
  | none => false
noncomputable def chk (x : Shared × SharedT × SharedT) : Bool :=
  x.1.heap.isNs mainGlobals && x.1.gens.size == 0 && staticsOk (importedModules pw.main.body) x.1.heap x.2.2.abs.heap && namesBound pw x.2.2.abs.heap && laidKept x.1.heap x.2.2.abs.heap &&
    x.2.1.gens.size == 0 && x.2.2.gens.size == 0 && x.2.1.n == 74 && allAlive x.2.1 && x.2.2.n == 156 && x.1.heap.objs.size == 28
def keptOf (s : SharedT) : List (Option Obj) := (List.range 28).map fun b => match b == mainNs || b == cStatics with | true => none | false => s.tree.get b
def keptOf0 (s : Shared) : List (Option Obj) := (List.range 28).map fun b => match b == mainNs || b == cStatics with | true => none | false => s.heap.objs.toList[b]?

noncomputable def R (fo : World → Option Shared) (den : Code → Sem Fin) (mc : Sem Value) (nf : Value → Sem Addr) (bs : List Stmt → Env → Sem Unit) (ex : List Stmt → Env → Sem Flow) (bn : Env → Str → Value → Sem Unit)
    (w : World) (os : List Obj) (life : Life) (toks : Nat) : Option (Shared × SharedT × SharedT) :=
  (fo w).bind fun s0 => (ofShared s0).bind fun t0 => (topA den ⟨pw, w.params⟩ mc nf bs ex pw.main.scope stmts preS t0).bind fun x =>
    (topB den ⟨pw, w.params⟩ bn ex pw.main.scope stmts postS dX dXp x.1 x.2.1 x.2.2.1 x.2.2.2.2 os life toks).map fun s7 => (s0, x.2.2.2.2, s7)

noncomputable abbrev fo (w : World) : Option Shared := (importEnds treeTable (opening pw) w 900 (start (opening pw)).1 (start (opening pw)).2).bind (fenceModules? pw)
noncomputable abbrev foQ (w : World) : Option Shared := (PySem.W.Fast.tw10274390034422433532 PySem.W.Fast.tw14364793385576792824 (opening pw) w 900 (PySem.W.Fast.tw1435165496053646825 (opening pw)).1 (PySem.W.Fast.tw1435165496053646825 (opening pw)).2).bind (PySem.W.Fast.tw14289696077712309145 pw)
noncomputable abbrev denQ : Code → Sem Fin := PySem.W.Fast.tw11892475500146522536 PySem.W.Fast.tw14364793385576792824
noncomputable abbrev mcQ : Sem Value := PySem.W.Fast.tw17154629097778926822 pw.main
noncomputable abbrev nfQ : Value → Sem Addr := fun c => PySem.W.Fast.tw12822647523644345616 c mainNs mainNs

noncomputable abbrev RQ (w : World) (o : Nat → Obj) (life : Life) (toks : Nat) := R foQ denQ mcQ nfQ PySem.W.Fast.tw1066825118222455980 PySem.W.Fast.tw12563942051412417395 PySem.W.Fast.tw7536695828754713326 w ((List.range 39).map o) life toks
noncomputable abbrev RO (w : World) (o : Nat → Obj) (life : Life) (toks : Nat) := R fo (denote treeTable) (moduleCode pw.main) (fun c => newBodyFrame c mainNs mainNs) blockStart execs bindName w ((List.range 39).map o) life toks
theorem RQ_eq (w : World) (o : Nat → Obj) (life : Life) (toks : Nat) : RQ w o life toks = RO w o life toks := by
  unfold RQ RO foQ fo denQ mcQ nfQ
  rw [← PySem.W.Fast.te10274390034422433532, ← PySem.W.Fast.te14364793385576792824, ← PySem.W.Fast.te1435165496053646825, ← PySem.W.Fast.te14289696077712309145, ← PySem.W.Fast.te11892475500146522536, ← PySem.W.Fast.te17154629097778926822,
    ← PySem.W.Fast.te12822647523644345616, ← PySem.W.Fast.te1066825118222455980, ← PySem.W.Fast.te12563942051412417395, ← PySem.W.Fast.te7536695828754713326]

abbrev Seen := Bool × (List (Option Value) × List (Option Obj)) × List (Option Obj)
noncomputable def exp (w : World) (o : Nat → Obj) : List (Option Value) × List (Option Obj) :=
  ([some (.ref 43), some (.ref 48), some (.ref 63), some (.ref 74)], [some tup1, some pat1, some tup2, some pat2, some (b1obj (!w.params.followText "set-order")), some (o 0)])
noncomputable def lookQ (x : Shared × SharedT × SharedT) := (chk x, obs PySem.W.Fast.tw8920871248978507458 x.2.2, PySem.W.Fast.tw4187177175401517315 qv loose (PySem.W.Fast.tw5923862056798008813 pw.main.body) (fun _ => true) true x.2.2.abs, keptOf x.2.2, x.2.2.os)
noncomputable def lookO (x : Shared × SharedT × SharedT) := (chk x, obs Heap.nsMap x.2.2, openSeen qv loose (importedModules pw.main.body) (fun _ => true) true x.2.2.abs, keptOf x.2.2, x.2.2.os)
noncomputable def good (w : World) (o : Nat → Obj) (x : Shared × SharedT × SharedT) := (true, exp w o, openGood qv loose, keptOf0 x.1, x.1.os)
theorem look_eq : lookQ = lookO := by
  unfold lookQ lookO
  rw [← PySem.W.Fast.te8920871248978507458, ← PySem.W.Fast.te4187177175401517315, ← PySem.W.Fast.te5923862056798008813]
theorem evT (w : World) (o : Nat → Obj) (life : Life) (toks : Nat) : ((RQ (w.withFollow "special-get-raises" true) o life toks).map lookQ, (RQ (w.withFollow "special-get-raises" true) o life toks).isSome) =
    ((RQ (w.withFollow "special-get-raises" true) o life toks).map (good (w.withFollow "special-get-raises" true) o), true) := by kernel_rfl!
theorem evF (w : World) (o : Nat → Obj) (life : Life) (toks : Nat) : ((RQ (w.withFollow "special-get-raises" false) o life toks).map lookQ, (RQ (w.withFollow "special-get-raises" false) o life toks).isSome) =
    ((RQ (w.withFollow "special-get-raises" false) o life toks).map (good (w.withFollow "special-get-raises" false) o), true) := by kernel_rfl!
theorem evAll (w : World) : ∀ (o : Nat → Obj) (life : Life) (toks : Nat), ((RO w o life toks).map lookO, (RO w o life toks).isSome) = ((RO w o life toks).map (good w o), true) := by
  refine byRow2 "special-get-raises" (P := fun w => ∀ (o : Nat → Obj) (life : Life) (toks : Nat), ((RO w o life toks).map lookO, (RO w o life toks).isSome) = ((RO w o life toks).map (good w o), true)) (fun w o life toks => ?_) (fun w o life toks => ?_) w
  · rw [← RQ_eq, ← look_eq]; exact evF w o life toks
  · rw [← RQ_eq, ← look_eq]; exact evT w o life toks

theorem evSome (w : World) (o : Nat → Obj) (life : Life) (toks : Nat) : ∃ x, RO w o life toks = some x ∧ lookO x = good w o x := by
  have h := evAll w o life toks
  obtain ⟨h1, h2⟩ := Prod.mk.inj h
  obtain ⟨x, hx⟩ := Option.isSome_iff_exists.mp h2
  rw [hx] at h1
  exact ⟨x, hx, Option.some.inj h1⟩
end Mine
end

section
open PySem PySem.W PyProof.Rows PySem.Calls
set_option maxRecDepth 100000
namespace Mine

structure Facts (prog : Program) (w : World) (mg : Str → Option Value) (h : Heap) : Prop where
  re1 : mg "_twin_re_1" = some (.ref 43)
  re2 : mg "_twin_re_2" = some (.ref 48)
  set : mg "b1_set" = some (.ref 63)
  dict : mg "b3_exceptions" = some (.ref 74)
  o42 : h.get? 42 = some tup1
  o43 : h.get? 43 = some pat1
  o47 : h.get? 47 = some tup2
  o48 : h.get? 48 = some pat2
  o63 : ∃ led, h.get? 63 = some (b1obj led)
  d74 : ∃ kvs, h.DictOf (intKind prog w) 74 kvs ∧ KV b3 kvs

theorem Facts.keeps {prog : Program} {w : World} {mg : Str → Option Value} {h h' : Heap} (F : Facts prog w mg h) (k : ∀ b o, h.get? b = some o → h'.get? b = some o) : Facts prog w mg h' :=
  ⟨F.re1, F.re2, F.set, F.dict, k _ _ F.o42, k _ _ F.o43, k _ _ F.o47, k _ _ F.o48, let ⟨l, e⟩ := F.o63; ⟨l, k _ _ e⟩,
    let ⟨kvs, d, e⟩ := F.d74; ⟨kvs, let ⟨o, es, ep, ho, r⟩ := d; ⟨o, es, ep, k _ _ ho, r⟩, e⟩⟩

/-- what stands behind the top -/
def Behind (w : World) (s : Shared) : Prop :=
  Ground qv loose [] (fun _ _ => True) w s (s.heap.nsMap mainGlobals) (s.heap.nsMap builtinsNs) s.heap ∧ s.heap.isNs mainGlobals = true ∧ Facts pw w (s.heap.nsMap mainGlobals) s.heap

def Ran (w : World) (s0 : Shared) (s4 : SharedT) (s₁ : Shared) : Prop :=
  ∃ (o : Nat → Obj) (s7' : SharedT) (kvs : List (Int × Value)), s7'.abs = s₁ ∧ lookO (s0, s4, s7') = good w o (s0, s4, s7') ∧ KV b3 kvs ∧ (o 0).IsDictOf (intKind pw w) kvs

theorem lt_of_blt {a b : Nat} (h : Nat.blt a b = true) : a < b := Nat.le_of_ble_eq_true h

theorem alive_of {s : SharedT} (h : allAlive s = true) (b : Nat) (hb : b < s.n) : ∃ o, s.abs.heap.get? b = some o := by
  have := List.all_eq_true.mp h b (List.mem_range.mpr hb)
  cases g : s.tree.get b with
  | none => rw [g] at this; cases this
  | some o =>
    rw [g] at this
    refine ⟨o, (abs_get hb g).trans ?_⟩
    obtain ⟨c, d, dt, sl⟩ := o
    cases dt <;> first | rfl | cases this

theorem behind01 (w : World) : (∃ s, AfterRun (opening pw) w s) ∧ ∀ s, AfterRun (opening pw) w s → ∃ s₀, fenceModules? pw s = some s₀ ∧ s₀.gens = #[] ∧ ∃ s₁, TopRan pw w s₀ s₁ ∧ s₁.asleep ∧ s₁.gens = #[] ∧
    isTheDefsW pw s₁.heap (Str.ofString "law") ∧ Behind w s₁ := by
  -- the opening
  obtain ⟨x₀, hx₀, hl₀⟩ := evSome w (fun _ => default) {} 0
  obtain ⟨s0, hs0, hr⟩ := Option.bind_eq_some_iff.mp hx₀
  obtain ⟨t0, ht0, hr⟩ := Option.bind_eq_some_iff.mp hr
  obtain ⟨⟨code, fr, p2, p4, s4⟩, hA, hr⟩ := Option.bind_eq_some_iff.mp hr
  obtain ⟨s7₀, hB₀, rfl⟩ := Option.map_eq_some_iff.mp hr
  obtain ⟨si, hi, hf⟩ := Option.bind_eq_some_iff.mp hs0
  rw [← table_eq_tree] at hi
  have A := AfterImport.of_importEnds hi
  refine ⟨⟨si, A⟩, fun s' hs' => ?_⟩
  obtain rfl : s' = si := AfterImport.unique hs' A
  have z : s0.asleep := Shared.asleep_of_life (fence_lifeW hf) A.life
  have hc₀ := congrArg (fun q => q.1) hl₀
  have hc₀ : chk (s0, s4, s7₀) = true := hc₀
  unfold chk at hc₀
  simp only [Bool.and_eq_true, beq_iff_eq] at hc₀
  obtain ⟨⟨⟨⟨⟨⟨⟨⟨⟨⟨c1, c2⟩, _⟩, _⟩, _⟩, c6⟩, _⟩, c8⟩, c9⟩, _⟩, c11⟩ := hc₀
  have hg0 : s0.gens = #[] := Array.eq_empty_of_size_eq_zero c2
  refine ⟨s0, hf, hg0, ?_⟩
  -- the run
  have hB : ∀ os life toks kvs, os.length = (b3.length + 16) / 17 → KV b3 kvs → (∃ o, os[0]? = some o ∧ o.IsDictOf (intKind pw w) kvs) →
      ∃ s7, topB (denote table) ⟨pw, w.params⟩ bindName execs pw.main.scope (behindTheImports pw) postS dX dXp code fr p2 s4 os life toks = some s7 ∧ s7.gens = #[] ∧
        Ran w s0 s4 s7.abs := fun os life toks kvs hlen hkv hdict => by
    obtain ⟨o0, ho0, hod⟩ := hdict
    rw [b3_len] at hlen
    have hos : os = (List.range 39).map fun j => os.getD j default := by
      apply List.ext_getElem?
      intro i
      rw [List.getElem?_map]
      by_cases hi' : i < 39
      · rw [List.getElem?_range hi', Option.map_some, List.getD_eq_getElem?_getD, List.getElem?_eq_getElem (by rw [hlen]; exact hi')]; rfl
      · rw [List.getElem?_eq_none (by rw [hlen]; omega), List.getElem?_eq_none (by rw [List.length_range]; omega)]; rfl
    obtain ⟨x, hx, hl⟩ := evSome w (fun j => os.getD j default) life toks
    unfold RO R at hx
    rw [hs0] at hx
    simp only [Option.bind_some] at hx
    rw [ht0] at hx
    simp only [Option.bind_some] at hx
    rw [hA] at hx
    simp only [Option.bind_some] at hx
    obtain ⟨s7, hB7, rfl⟩ := Option.map_eq_some_iff.mp hx
    rw [← hos, ← table_eq_tree] at hB7
    have hc : chk (s0, s4, s7) = true := congrArg (fun q => q.1) hl
    unfold chk at hc
    simp only [Bool.and_eq_true, beq_iff_eq] at hc
    refine ⟨s7, hB7, Array.eq_empty_of_size_eq_zero hc.1.1.1.1.2, _, s7, kvs, rfl, hl, hkv, ?_⟩
    rw [List.getD_eq_getElem?_getD, ho0]
    exact hod
  obtain ⟨n, t₁, s₁, hsch, hth, ⟨o, s7, kvs, rfl, hl, hkv, hod⟩, hgens, hlife⟩ := run_of_wp (prog := pw) (w := w) (s := s0) (R := Ran w s0 s4) z
    (top_wp (prog := pw) (w := w) (ofShared_abs ht0) stmts_split b3_is (by intro e; have := b3_len; rw [e] at this; cases this) b3_nodup (by rw [b3_len]; decide) (by rw [table_eq_tree]; exact hA)
      (by rw [c8]; decide) (alive_of c9) (Array.eq_empty_of_size_eq_zero c6) hB)
  have hc : chk (s0, s4, s7) = true := congrArg (fun q => q.1) hl
  have hob : obs Heap.nsMap s7 = exp w o := congrArg (fun q => q.2.1) hl
  have hos : openSeen qv loose (importedModules pw.main.body) (fun _ => true) true s7.abs = openGood qv loose := congrArg (fun q => q.2.2.1) hl
  have hkp : keptOf s7 = keptOf0 s0 := congrArg (fun q => q.2.2.2.1) hl
  have hosq : s7.os = s0.os := congrArg (fun q => q.2.2.2.2) hl
  unfold chk at hc
  simp only [Bool.and_eq_true, beq_iff_eq] at hc
  obtain ⟨⟨⟨⟨⟨⟨⟨⟨⟨⟨_, _⟩, k1⟩, k2⟩, k3⟩, _⟩, _⟩, _⟩, _⟩, k10⟩, _⟩ := hc
  obtain ⟨G, _, g1, g2, g3, g4, g5⟩ := ground_of_open (q := qv) (loose := loose) (Xt := fun _ => true) (XP := fun _ _ => True) (w := w) (fun _ _ => trivial) (by decide +kernel) hos
  refine ⟨s7.abs, ⟨⟨n, t₁, hsch, hth⟩, hlife, Shared.rest_eq hosq, fun b ob hb hn => ?_, g2, statics_of_ok k1, g3, g4, g5, fun g hg => ?_, names_of_bound k2, laid_of_kept k3⟩, Shared.asleep_of_life hlife z, hgens, ?_, G, g1, ?_⟩
  · have hb28 : b < 28 := Nat.lt_of_lt_of_eq (Heap.lt_size hb) c11
    have hne : (b == mainNs || b == cStatics) = false := by
      rw [Bool.or_eq_false_iff]
      exact ⟨beq_eq_false_iff_ne.mpr fun e => hn (.inl e), beq_eq_false_iff_ne.mpr fun e => hn (.inr (.inl e))⟩
    have h1 := congrArg (fun l => l[b]?) hkp
    unfold keptOf keptOf0 at h1
    simp only [List.getElem?_map, List.getElem?_range hb28, Option.map_some, hne] at h1
    have h2 := Option.some.inj h1
    rw [Array.getElem?_toList, objs_of_get hb] at h2
    refine (abs_get (by rw [k10]; exact Nat.lt_of_lt_of_le hb28 (by decide)) h2).trans ?_
    have hfr := (Heap.get?_some_iff.mp hb).2
    obtain ⟨c, d, dt, sl⟩ := ob
    cases dt <;> first | rfl | cases hfr
  · rw [hgens] at hg; simp at hg
  · exact pinned_of_view g1 G (by rfl) (by rfl) (by rfl)
  · have e1 : ([s7.abs.heap.nsMap mainGlobals "_twin_re_1", s7.abs.heap.nsMap mainGlobals "_twin_re_2", s7.abs.heap.nsMap mainGlobals "b1_set", s7.abs.heap.nsMap mainGlobals "b3_exceptions"] : List (Option Value)) = [some (.ref 43), some (.ref 48), some (.ref 63), some (.ref 74)] := congrArg Prod.fst hob
    have e2 : ([s7.tree.get 42, s7.tree.get 43, s7.tree.get 47, s7.tree.get 48, s7.tree.get 63, s7.tree.get 74] : List (Option Obj)) = [some tup1, some pat1, some tup2, some pat2, some (b1obj (!w.params.followText "set-order")), some (o 0)] := congrArg Prod.snd hob
    simp only [List.cons.injEq, and_true] at e1 e2
    obtain ⟨m1, m2, m3, m4⟩ := e1
    obtain ⟨t1, t2, t3, t4, t5, t6⟩ := e2
    have lt : ∀ {b : Nat}, b < 156 → b < s7.n := fun h => by rw [k10]; exact h
    refine ⟨m1, m2, m3, m4, (abs_get (lt (by decide)) t1).trans rfl, (abs_get (lt (by decide)) t2).trans rfl, (abs_get (lt (by decide)) t3).trans rfl, (abs_get (lt (by decide)) t4).trans rfl, ⟨_, (abs_get (lt (by decide)) t5).trans rfl⟩, kvs, ?_, hkv⟩
    refine Heap.dictOf_iff.mpr ⟨o 0, (abs_get (lt (by decide)) t6).trans ?_, hod⟩
    obtain ⟨es, ep, hx, hd, _⟩ := hod
    generalize o 0 = ob at hd hx
    obtain ⟨c, d, dt, sl⟩ := ob
    have hd : dt = .dict es ep := hd
    subst hd
    rfl
end Mine
end

section
open PySem PySem.W PyProof.Rows PySem.Calls
set_option linter.all false
namespace Mine

/-- plain data -/
inductive PV where
  | none
  | bool (b : Bool)
  | int (i : Int)
  | str (s : Str)
  | tup (l : List PV)
  | lst (l : List PV)
  | ref (a : Addr)

/-- the part of the heap that stays as it is -/
abbrev St := Addr → Option Obj

mutual
inductive Rep (st : St) : Value → PV → Prop
  | none : Rep st .none .none
  | bool (b) : Rep st (.bool b) (.bool b)
  | int (i t) : Rep st (.int i t) (.int i)
  | str (s t) : Rep st (.str s t) (.str s)
  | tup {a vs n ps} : st a = some { cls := .type "tuple", data := .seq vs n } → Reps st vs.toList ps → Rep st (.ref a) (.tup ps)
  | lst {a vs n ps} : st a = some { cls := .type "list", data := .seq vs n } → Reps st vs.toList ps → Rep st (.ref a) (.lst ps)
  | ref (a) : Rep st (.ref a) (.ref a)
inductive Reps (st : St) : List Value → List PV → Prop
  | nil : Reps st [] []
  | cons {v vs p ps} : Rep st v p → Reps st vs ps → Reps st (v :: vs) (p :: ps)
end

abbrev Le (st st' : St) : Prop := ∀ a o, st a = some o → st' a = some o

mutual
theorem Rep.le {st st' : St} (h : Le st st') : ∀ {v : Value} {p : PV}, Rep st v p → Rep st' v p
  | _, _, .none => .none
  | _, _, .bool b => .bool b
  | _, _, .int i t => .int i t
  | _, _, .str s t => .str s t
  | _, _, .tup e r => .tup (h _ _ e) (Reps.le h r)
  | _, _, .lst e r => .lst (h _ _ e) (Reps.le h r)
  | _, _, .ref a => .ref a
theorem Reps.le {st st' : St} (h : Le st st') : ∀ {vs : List Value} {ps : List PV}, Reps st vs ps → Reps st' vs ps
  | _, _, .nil => .nil
  | _, _, .cons e r => .cons (Rep.le h e) (Reps.le h r)
end
theorem Reps.length {st : St} : ∀ {vs : List Value} {ps : List PV}, Reps st vs ps → vs.length = ps.length
  | _, _, .nil => rfl
  | _, _, .cons _ r => by simp [Reps.length r]
theorem Reps.get {st : St} : ∀ {vs : List Value} {ps : List PV} {i : Nat} {p : PV}, Reps st vs ps → ps[i]? = some p → ∃ v, vs[i]? = some v ∧ Rep st v p
  | _, _, 0, _, .cons e _, h => by simp at h; subst h; exact ⟨_, rfl, e⟩
  | _, _, i + 1, _, .cons _ r, h => by simpa using Reps.get r (by simpa using h)
theorem Reps.get' {st : St} : ∀ {vs : List Value} {ps : List PV} {i : Nat} {v : Value}, Reps st vs ps → vs[i]? = some v → ∃ p, ps[i]? = some p ∧ Rep st v p
  | _, _, 0, _, .cons e _, h => by simp at h; subst h; exact ⟨_, rfl, e⟩
  | _, _, i + 1, _, .cons _ r, h => by simpa using Reps.get' r (by simpa using h)
theorem Reps.append {st : St} : ∀ {vs ws : List Value} {ps qs : List PV}, Reps st vs ps → Reps st ws qs → Reps st (vs ++ ws) (ps ++ qs)
  | _, _, _, _, .nil, h => h
  | _, _, _, _, .cons e r, h => .cons e (Reps.append r h)
theorem Reps.take {st : St} (n : Nat) : ∀ {vs : List Value} {ps : List PV}, Reps st vs ps → Reps st (vs.take n) (ps.take n) := by
  induction n with
  | zero => intro vs ps _; simpa using Reps.nil
  | succ n ih => intro vs ps h; cases h with
    | nil => simpa using Reps.nil
    | cons e r => simpa using Reps.cons e (ih r)
theorem Reps.drop {st : St} (n : Nat) : ∀ {vs : List Value} {ps : List PV}, Reps st vs ps → Reps st (vs.drop n) (ps.drop n) := by
  induction n with
  | zero => intro vs ps h; simpa using h
  | succ n ih => intro vs ps h; cases h with
    | nil => simpa using Reps.nil
    | cons e r => simpa using ih r

/-- the program, the world, what the top has laid -/
structure Cx where
  prog : Program
  w : World
  q : Program
  loose : List Str
  mean : ExcName → Option Value
  mg : Str → Option Value
  mb : Str → Option Value
  X : Heap → Prop
  hX : ∀ h h', X h → (∀ b o, h.get? b = some o → h'.get? b = some o) → X h'

abbrev Cx.M (C : Cx) : Model := model C.prog C.w
structure Cx.On (C : Cx) (h : Heap) : Prop where
  top : Top C.q C.loose C.mean C.mg C.mb h
  x : C.X h
theorem Cx.On.keeps {C : Cx} {h h' : Heap} (x : C.On h) (k : ∀ b o, h.get? b = some o → h'.get? b = some o) : C.On h' := ⟨x.top.keeps k, C.hX _ _ x.x k⟩
def Cx.Good (C : Cx) (st : St) : Prop := ∃ h, C.On h ∧ ∀ a o, h.get? a = some o → st a = some o
theorem Cx.Good.le {C : Cx} {st st' : St} (g : C.Good st) (h : Le st st') : C.Good st' := let ⟨x, a, b⟩ := g; ⟨x, a, fun c o e => h _ _ (b c o e)⟩

/-- room for k more frames -/
structure Room (k : Nat) (A : Around) : Prop where
  depth : A.depth + k ≤ 900
  units : A.units + 200 * (k + 1) ≤ 9000
  handled : A.handled = none
theorem Room.mono {k j : Nat} {A : Around} (r : Room k A) (h : j ≤ k) : Room j A := ⟨by have := r.depth; omega, by have := r.units; omega, r.handled⟩
theorem Room.deeper {k : Nat} {A : Around} (r : Room (k + 1) A) (env : Env) : Room k (A.deeper env) := ⟨by have := r.depth; simp only [Around.deeper]; omega, by have := r.units; simp only [Around.deeper]; omega, r.handled⟩
theorem Room.in1 {k : Nat} {A : Around} (r : Room (k + 1) A) : Room k A.in1 := ⟨by have := r.depth; show A.depth + k ≤ 900; omega, by have := r.units; show A.units + 1 + 200 * (k + 1) ≤ 9000; omega, r.handled⟩

/-- another heap, other tokens, no more -/
def Same (s s' : Shared) : Prop := ∃ h tk, s' = { s with heap := h, toks := tk }
theorem Same.refl (s : Shared) : Same s s := ⟨s.heap, s.toks, rfl⟩
theorem Same.trans {s s' s'' : Shared} : Same s s' → Same s' s'' → Same s s''
  | ⟨_, _, e⟩, ⟨_, _, e'⟩ => ⟨_, _, by rw [e', e]⟩
theorem Same.gens {s s' : Shared} : Same s s' → s'.gens = s.gens
  | ⟨_, _, e⟩ => by rw [e]
theorem Same.os {s s' : Shared} : Same s s' → s'.os = s.os
  | ⟨_, _, e⟩ => by rw [e]
theorem Same.mk (s : Shared) (h : Heap) (tk : Nat) : Same s { s with heap := h, toks := tk } := ⟨h, tk, rfl⟩

/-- what an expression may do to the state -/
structure Then (st : St) (s : Shared) (st' : St) (s' : Shared) : Prop where
  le : Le st st'
  sub : ∀ a o, st' a = some o → s'.heap.get? a = some o
  fresh : ∀ a o, st' a = some o → st a = some o ∨ s.heap.get? a = none
  keep : ∀ b o, s.heap.get? b = some o → s'.heap.get? b = some o
  same : Same s s'
theorem Then.refl {st : St} {s : Shared} (h : ∀ a o, st a = some o → s.heap.get? a = some o) : Then st s st s :=
  ⟨fun _ _ e => e, h, fun _ _ e => .inl e, fun _ _ e => e, .refl s⟩
theorem Then.toks {st : St} {s : Shared} {tk : Nat} (h : ∀ a o, st a = some o → s.heap.get? a = some o) : Then st s st { s with toks := tk } :=
  ⟨fun _ _ e => e, h, fun _ _ e => .inl e, fun _ _ e => e, ⟨_, _, rfl⟩⟩
theorem Then.keeps {st : St} {s s' : Shared} (h : ∀ a o, st a = some o → s.heap.get? a = some o) (hs : Same s s') (hk : ∀ b o, s.heap.get? b = some o → s'.heap.get? b = some o) : Then st s st s' :=
  ⟨fun _ _ e => e, fun a o e => hk _ _ (h a o e), fun _ _ e => .inl e, hk, hs⟩
theorem Then.trans {st st' st'' : St} {s s' s'' : Shared} (x : Then st s st' s') (y : Then st' s' st'' s'') : Then st s st'' s'' :=
  ⟨fun a o e => y.le _ _ (x.le _ _ e), y.sub, fun a o e => (y.fresh a o e).elim (fun e => x.fresh a o e) fun e => .inr (by
    cases q : s.heap.get? a with
    | none => rfl
    | some o' => rw [x.keep _ _ q] at e; cases e), fun b o e => y.keep _ _ (x.keep _ _ e), x.same.trans y.same⟩
/-- a step that keeps the objects -/
theorem Then.more {st st' : St} {s s' s'' : Shared} (x : Then st s st' s') (hs : Same s' s'') (hk : ∀ b o, s'.heap.get? b = some o → s''.heap.get? b = some o) : Then st s st' s'' :=
  x.trans (Then.keeps x.sub hs hk)

theorem mem_of_lookup {a : Addr} {o : Obj} : ∀ {l : List (Addr × Obj)}, l.lookup a = some o → (a, o) ∈ l
  | (b, x) :: l, h => by
    rw [List.lookup_cons] at h
    by_cases q : (a == b) = true
    · rw [q] at h; cases h; rw [beq_iff_eq.mp q]; exact .head _
    · rw [Bool.not_eq_true _ |>.mp q] at h; exact .tail _ (mem_of_lookup h)

/-- one new object comes to the stable part -/
def St.add (st : St) (a : Addr) (o : Obj) : St := fun b => match st b with | some o' => some o' | none => if b = a then some o else none
theorem St.add_le {st : St} {a : Addr} {o : Obj} : Le st (st.add a o) := fun b o' e => by simp [St.add, e]
theorem St.add_self {st : St} {a : Addr} {o : Obj} (h : st a = none) : st.add a o a = some o := by simp [St.add, h]
theorem St.add_cases {st : St} {a b : Addr} {o o' : Obj} (h : st.add a o b = some o') : st b = some o' ∨ (b = a ∧ o' = o) := by
  unfold St.add at h
  cases q : st b with
  | some x => simp only [q] at h; cases h; exact .inl rfl
  | none =>
    simp only [q] at h
    by_cases e : b = a
    · rw [if_pos e] at h; cases h; exact .inr ⟨e, rfl⟩
    · rw [if_neg e] at h; cases h
theorem Then.add {st : St} {s s' : Shared} {a : Addr} {o : Obj} (h : ∀ a o, st a = some o → s.heap.get? a = some o) (hn : s'.heap.get? a = some o) (hf : s.heap.get? a = none)
    (hk : ∀ b o, s.heap.get? b = some o → s'.heap.get? b = some o) (hs : Same s s') : Then st s (st.add a o) s' where
  le := St.add_le
  sub := fun b o' e => by
    rcases St.add_cases e with e | ⟨rfl, rfl⟩
    · exact hk _ _ (h _ _ e)
    · exact hn
  fresh := fun b o' e => by
    rcases St.add_cases e with e | ⟨rfl, rfl⟩
    · exact .inl e
    · exact .inr hf
  keep := hk
  same := hs
theorem none_of {st : St} {s : Shared} {a : Addr} (h : ∀ a o, st a = some o → s.heap.get? a = some o) (hf : s.heap.get? a = none) : st a = none := by
  cases q : st a with
  | none => rfl
  | some o => rw [h _ _ q] at hf; cases hf

/-- the frame: the names' plain data; the lists that are its own -/
structure Fm where
  m : Str → Option PV
  ow : Addr → Option (List PV)

structure OwnAt (st : St) (env : Env) (s : Shared) (a : Addr) (ps : List PV) : Prop where
  off : st a = none
  loc : a ≠ env.locals
  cel : ∀ x c, env.cells.lookup x = some c → a ≠ c
  is : ∃ vs n, s.heap.get? a = some { cls := .type "list", data := .seq vs n } ∧ Reps st vs.toList ps

structure Inv (C : Cx) (st : St) (env : Env) (F : Fm) (s : Shared) : Prop where
  sub : ∀ a o, st a = some o → s.heap.get? a = some o
  good : C.Good st
  offL : st env.locals = none
  offC : ∀ x c, env.cells.lookup x = some c → st c = none ∧ c ≠ env.locals
  inj : ∀ x y c, env.cells.lookup x = some c → env.cells.lookup y = some c → x = y
  ns : ∃ vm, s.heap.Ns env.locals vm ∧ ∀ x p, env.kindOf x = some .local → F.m x = some p → ∃ v, vm x = some v ∧ Rep st v p
  cel : ∀ x p, (env.kindOf x = some .cell ∨ env.kindOf x = some .free) → F.m x = some p → ∃ c v, env.cells.lookup x = some c ∧ s.heap.IsCell c (some v) ∧ Rep st v p
  aliveC : ∀ x c, env.cells.lookup x = some c → ∃ v, s.heap.IsCell c v
  own : ∀ a ps, F.ow a = some ps → OwnAt st env s a ps
  gens : s.gens = #[]

theorem Inv.on {C : Cx} {st : St} {env : Env} {F : Fm} {s : Shared} (I : Inv C st env F s) : C.On s.heap :=
  let ⟨_, a, b⟩ := I.good; a.keeps fun c o e => I.sub _ _ (b c o e)

theorem IsCell.alive {h : Heap} {c : Addr} {v : Option Value} (x : h.IsCell c v) : ∃ o, h.get? c = some o := let ⟨o, ho, _⟩ := x; ⟨o, ho⟩
theorem Ns.alive {h : Heap} {c : Addr} {m} (x : h.Ns c m) : ∃ o, h.get? c = some o := let ⟨o, _, _, ho, _⟩ := x; ⟨o, ho⟩
theorem Then.off {st st' : St} {s s' : Shared} (t : Then st s st' s') {a : Addr} (h : st a = none) (ha : ∃ o, s.heap.get? a = some o) : st' a = none := by
  cases q : st' a with
  | none => rfl
  | some o =>
    obtain ⟨ob, ho⟩ := ha
    rcases t.fresh _ _ q with e | e
    · rw [h] at e; cases e
    · rw [ho] at e; cases e

theorem Inv.step {C : Cx} {st st' : St} {env : Env} {F : Fm} {s s' : Shared} (I : Inv C st env F s) (t : Then st s st' s') : Inv C st' env F s' where
  sub := t.sub
  good := I.good.le t.le
  offL := t.off I.offL (let ⟨_, hn, _⟩ := I.ns; Ns.alive hn)
  offC := fun x c hc => ⟨t.off (I.offC x c hc).1 (let ⟨_, h⟩ := I.aliveC x c hc; IsCell.alive h), (I.offC x c hc).2⟩
  inj := I.inj
  ns := let ⟨vm, hn, hm⟩ := I.ns; ⟨vm, hn.keeps t.keep, fun x p hk hx => let ⟨v, a, b⟩ := hm x p hk hx; ⟨v, a, b.le t.le⟩⟩
  cel := fun x p hk hx => let ⟨c, v, a, b, d⟩ := I.cel x p hk hx; ⟨c, v, a, b.keeps t.keep, d.le t.le⟩
  aliveC := fun x c hc => let ⟨v, h⟩ := I.aliveC x c hc; ⟨v, h.keeps t.keep⟩
  own := fun a ps h => let ⟨h1, h2, h3, vs, n, h4, h5⟩ := I.own a ps h; ⟨t.off h1 ⟨_, h4⟩, h2, h3, vs, n, t.keep _ _ h4, h5.le t.le⟩
  gens := t.same.gens.trans I.gens

/-- the part of Inv that names no frame -/
structure Ok (C : Cx) (st : St) (s : Shared) : Prop where
  sub : ∀ a o, st a = some o → s.heap.get? a = some o
  good : C.Good st
  gens : s.gens = #[]
theorem Inv.ok {C : Cx} {st : St} {env : Env} {F : Fm} {s : Shared} (I : Inv C st env F s) : Ok C st s := ⟨I.sub, I.good, I.gens⟩
theorem Ok.step {C : Cx} {st st' : St} {s s' : Shared} (I : Ok C st s) (t : Then st s st' s') : Ok C st' s' := ⟨t.sub, I.good.le t.le, t.same.gens.trans I.gens⟩
theorem Ok.on {C : Cx} {st : St} {s : Shared} (I : Ok C st s) : C.On s.heap :=
  let ⟨_, a, b⟩ := I.good; a.keeps fun c o e => I.sub _ _ (b c o e)

/-- a tree gives this plain value -/
def Gv (C : Cx) (k : Nat) (t : Sem Value) (st : St) (s : Shared) (p : PV) : Prop :=
  ∀ (A : Around) (Q : Value → Shared → Prop), Room k A → (∀ v st' s', Rep st' v p → Then st s st' s' → Q v s') → wpAny C.M A t Q (fun _ _ => False) s
/-- an expression has this plain value -/
def Ev (C : Cx) (k : Nat) (env : Env) (F : Fm) (e : Expr) (p : PV) : Prop :=
  ∀ (st : St) (s : Shared), Inv C st env F s → Gv C k (eval e env) st s p
/-- a test comes out as b -/
def Ts (C : Cx) (k : Nat) (env : Env) (F : Fm) (e : Expr) (b : Bool) : Prop :=
  ∀ (A : Around) (st : St) (s : Shared) (Q : Bool → Shared → Prop), Room k A → Inv C st env F s →
    (∀ st' s', Then st s st' s' → Q b s') → wpAny C.M A (isTrue e env (eval e env)) Q (fun _ _ => False) s
/-- a row of expressions -/
inductive Evs (C : Cx) (k : Nat) (env : Env) (F : Fm) : List Expr → List PV → Prop
  | nil : Evs C k env F [] []
  | cons {e es p ps} : Ev C k env F e p → Evs C k env F es ps → Evs C k env F (e :: es) (p :: ps)

theorem Gv.mono {C : Cx} {k j : Nat} {t : Sem Value} {st : St} {s : Shared} {p : PV} (h : Gv C j t st s p) (hj : j ≤ k) : Gv C k t st s p := fun A Q R hQ => h A Q (R.mono hj) hQ
theorem Ev.mono {C : Cx} {k j : Nat} {env : Env} {F : Fm} {e : Expr} {p : PV} (h : Ev C j env F e p) (hj : j ≤ k) : Ev C k env F e p := fun st s I => (h st s I).mono hj
theorem Gv.of {C : Cx} {k : Nat} {t : Sem Value} {st st' : St} {s s' : Shared} {p : PV} (h : Gv C k t st' s' p) (x : Then st s st' s') {A : Around} {Q : Value → Shared → Prop} (R : Room k A)
    (hQ : ∀ v st'' s'', Rep st'' v p → Then st s st'' s'' → Q v s'') : wpAny C.M A t Q (fun _ _ => False) s' :=
  h A Q R fun v st'' s'' hv t => hQ v st'' s'' hv (x.trans t)

section
variable {C : Cx} {k : Nat} {env : Env} {F : Fm}

theorem Ev.int {i : Int} {kd : Nat} {pos : Pos} : Ev C k env F (.Constant (.int i) kd pos) (.int i) := fun _ _ I _ _ _ hQ =>
  wpAny_Constant_int (hQ _ _ _ (.int _ _) (Then.toks I.sub))
theorem Ev.str {x : Str} {kd : Nat} {pos : Pos} : Ev C k env F (.Constant (.str x) kd pos) (.str x) := fun _ _ I _ _ _ hQ =>
  Constant_str (hQ _ _ _ (.str _ _) (Then.toks I.sub))
theorem Ev.bool {b : Bool} {kd : Nat} {pos : Pos} : Ev C k env F (.Constant (.bool b) kd pos) (.bool b) := fun _ _ I _ _ _ hQ =>
  wpAny_pure (hQ _ _ _ (.bool _) (Then.refl I.sub))
theorem Ev.noneC {kd : Nat} {pos : Pos} : Ev C k env F (.Constant .none kd pos) .none := fun _ _ I _ _ _ hQ =>
  wpAny_Constant_none (hQ _ _ _ .none (Then.refl I.sub))

theorem Ev.loc {x : Str} {pos : Pos} {p : PV} (hm : F.m x = some p) (hk : env.scope.kind = .function := by rfl) (hx : env.kindOf x = some .local := by rfl) (hd : (x == ("__debug__" : Str)) = false := by decide) :
    Ev C k env F (.Name x pos) p := fun _ _ I _ _ _ hQ => by
  obtain ⟨vm, hn, hv⟩ := I.ns
  obtain ⟨v, h1, h2⟩ := hv x p hx hm
  exact wpAny_Name (wpAny_loadName_local hk hx hn h1 (hQ _ _ _ h2 (Then.refl I.sub))) hd
theorem Ev.cell {x : Str} {pos : Pos} {p : PV} (hm : F.m x = some p) (hk : env.scope.kind = .function := by rfl) (hx : env.kindOf x = some .cell := by rfl) (hd : (x == ("__debug__" : Str)) = false := by decide) :
    Ev C k env F (.Name x pos) p := fun _ _ I _ _ _ hQ => by
  obtain ⟨c, v, h1, h2, h3⟩ := I.cel x p (.inl hx) hm
  exact wpAny_Name (wpAny_loadName_cell hk hx h1 h2 (hQ _ _ _ h3 (Then.refl I.sub))) hd
/-- a str of the top -/
theorem Ev.top {x : Str} {pos : Pos} {y : Str} (hy : valOf C.q x = some (.str y)) (hk : env.scope.kind = .function := by rfl) (hx : env.kindOf x = some .globalImplicit := by rfl) (hg : env.globals = mainGlobals := by rfl)
    (hd : (x == ("__debug__" : Str)) = false := by decide) : Ev C k env F (.Name x pos) (.str y) := fun _ _ I _ _ _ hQ => by
  obtain ⟨v, hv, hr⟩ := I.on.top.const x _ hy
  cases hr default
  exact Name_function_global hk hx (loadGlobal_global (hg ▸ I.on.top.g) hv (hQ _ _ _ (.str _ _) (Then.refl I.sub))) hd

/-- an operation on two values -/
def Op2 (C : Cx) (k : Nat) (f : Value → Value → Sem Value) (a b p : PV) : Prop := ∀ st s v u, Ok C st s → Rep st v a → Rep st u b → Gv C k (f v u) st s p

theorem Ev.bin {l r : Expr} {op : Operator} {pos : Pos} {a b p : PV} (ha : Ev C k env F l a) (hb : Ev C k env F r b) (h : Op2 C k (binaryOp op) a b p) : Ev C k env F (.BinOp l op r pos) p := fun st s I A Q R hQ =>
  wpAny_BinOp (ha st s I A _ R fun v st₁ s₁ h1 t1 => hb st₁ s₁ (I.step t1) A _ R fun u st₂ s₂ h2 t2 =>
    (h st₂ s₂ v u ((I.step t1).step t2).ok (h1.le t2.le) h2).of (t1.trans t2) R hQ)
theorem Ev.cmp {l r : Expr} {op : CmpOp} {pos : Pos} {a b p : PV} (ha : Ev C k env F l a) (hb : Ev C k env F r b) (h : Op2 C k (compareOp op) a b p) (hm : behindInMarks op r = false := by with_unfolding_all rfl) :
    Ev C k env F (.Compare l [op] [r] pos) p := fun st s I A Q R hQ =>
  wpAny_Compare1 (ha st s I A _ R fun v st₁ s₁ h1 t1 => hb st₁ s₁ (I.step t1) A _ R fun u st₂ s₂ h2 t2 =>
    (h st₂ s₂ v u ((I.step t1).step t2).ok (h1.le t2.le) h2).of (t1.trans t2) R hQ) hm
theorem Ts.cmp {l r : Expr} {op : CmpOp} {pos : Pos} {a b : PV} {c : Bool} (ha : Ev C k env F l a) (hb : Ev C k env F r b) (h : Op2 C k (compareOp op) a b (.bool c)) (hm : behindInMarks op r = false := by with_unfolding_all rfl) :
    Ts C k env F (.Compare l [op] [r] pos) c := fun A st s Q R I hQ =>
  wpAny_isTrue_Compare1 (ha st s I A _ R fun v st₁ s₁ h1 t1 => hb st₁ s₁ (I.step t1) A _ R fun u st₂ s₂ h2 t2 =>
    (h st₂ s₂ v u ((I.step t1).step t2).ok (h1.le t2.le) h2).of (t1.trans t2) R fun z st₃ s₃ h3 t3 => by
      cases h3
      exact wpAny_truthy_bool (hQ st₃ s₃ t3)) hm

theorem Ts.not {x : Expr} {pos : Pos} {c : Bool} (h : Ts C k env F x c) : Ts C k env F (.UnaryOp .Not x pos) (!c) := fun A st s _ R I hQ =>
  isTrue_not (h A st s _ R I fun st' s' t => hQ st' s' t)
theorem Ts.and2 {x y : Expr} {pos : Pos} {c d : Bool} (hx : Ts C k env F x c) (hy : c = true → Ts C k env F y d) : Ts C k env F (.BoolOp .And [x, y] pos) (c && d) := fun A st s Q R I hQ => by
  refine isTrue_and (hx A st s _ R I fun st₁ s₁ t1 => ?_)
  cases c with
  | false => exact hQ st₁ s₁ t1
  | true => exact isTrue_and (hy rfl A st₁ s₁ _ R (I.step t1) fun st₂ s₂ t2 => by
      cases d with
      | false => exact hQ st₂ s₂ (t1.trans t2)
      | true => exact isTrue_and_nil (hQ st₂ s₂ (t1.trans t2)))
theorem Ts.or2 {x y : Expr} {pos : Pos} {c d : Bool} (hx : Ts C k env F x c) (hy : c = false → Ts C k env F y d) : Ts C k env F (.BoolOp .Or [x, y] pos) (c || d) := fun A st s Q R I hQ => by
  refine isTrue_or (hx A st s _ R I fun st₁ s₁ t1 => ?_)
  cases c with
  | true => exact hQ st₁ s₁ t1
  | false => exact isTrue_or (hy rfl A st₁ s₁ _ R (I.step t1) fun st₂ s₂ t2 => by
      cases d with
      | true => exact hQ st₂ s₂ (t1.trans t2)
      | false => exact isTrue_or_nil (hQ st₂ s₂ (t1.trans t2)))
/-- a plain test of a bool -/
theorem Ts.bool {e : Expr} {c : Bool} (h : Ev C k env F e (.bool c)) (he : isTrue e env (eval e env) = (do let v ← eval e env; standAt e.pos; holding [v] (truthy v)) := by rfl) : Ts C k env F e c := fun A st s _ R I hQ =>
  isTrue_plain (h st s I A _ R fun v st' s' hv t => by cases hv; exact wpAny_truthy_bool (hQ st' s' t)) he
theorem Ev.ifexp {t a b : Expr} {pos : Pos} {c : Bool} {p : PV} (ht : Ts C k env F t c) (ha : c = true → Ev C k env F a p) (hb : c = false → Ev C k env F b p) : Ev C k env F (.IfExp t a b pos) p := fun st s I A Q R hQ => by
  refine IfExp_ (ht A st s _ R I fun st₁ s₁ t1 => ?_)
  cases c with
  | true => exact (ha rfl st₁ s₁ (I.step t1)).of t1 R hQ
  | false => exact (hb rfl st₁ s₁ (I.step t1)).of t1 R hQ
end
end Mine
end

section
open PySem PySem.W PyProof.Rows PySem.Calls
set_option linter.all false
namespace Mine

theorem size_free {h : Heap} : h.get? h.objs.size = none := by
  cases e : h.get? h.objs.size with
  | none => rfl
  | some o => exact absurd (Heap.lt_size e) (Nat.lt_irrefl _)
theorem free_ge {h : Heap} {a : Addr} (x : h.objs.size ≤ a) : h.get? a = none := by
  cases e : h.get? a with
  | none => rfl
  | some o => exact absurd (Heap.lt_size e) (Nat.not_lt.mpr x)
theorem Then.push {st : St} {s : Shared} {o : Obj} {tk : Nat} (h : ∀ a o, st a = some o → s.heap.get? a = some o) (ho : (s.heap.push o).get? s.heap.objs.size = some o) : Then st s (st.add s.heap.objs.size o) { s with heap := s.heap.push o, toks := tk } :=
  Then.add h ho size_free (fun b o' e => Heap.get?_push_of_some _ e) ⟨_, _, rfl⟩
theorem Rep.newList {st : St} {s : Shared} {a : Addr} {vs : List Value} {n : Nat} {ps : List PV} (h : ∀ a o, st a = some o → s.heap.get? a = some o) (hf : s.heap.get? a = Option.none) (r : Reps st vs ps) :
    Rep (st.add a { cls := .type "list", data := .seq vs.toArray n }) (.ref a) (.lst ps) := .lst (St.add_self (none_of h hf)) (r.le St.add_le)
theorem Rep.newTup {st : St} {s : Shared} {a : Addr} {vs : List Value} {n : Nat} {ps : List PV} (h : ∀ a o, st a = some o → s.heap.get? a = some o) (hf : s.heap.get? a = Option.none) (r : Reps st vs ps) :
    Rep (st.add a { cls := .type "tuple", data := .seq vs.toArray n }) (.ref a) (.tup ps) := .tup (St.add_self (none_of h hf)) (r.le St.add_le)

mutual
def PV.data : PV → PyData
  | .none => .none
  | .bool b => .bool b
  | .int i => .int i
  | .str s => .str s
  | .tup l => .tuple (PV.datas l)
  | .lst l => .list (PV.datas l)
  | .ref _ => .none
def PV.datas : List PV → List PyData
  | [] => []
  | p :: ps => PV.data p :: PV.datas ps
end
mutual
def PV.flat : PV → Bool
  | .tup l => PV.flats l
  | .lst l => PV.flats l
  | .ref _ => false
  | _ => true
def PV.flats : List PV → Bool
  | [] => true
  | p :: ps => PV.flat p && PV.flats ps
end
mutual
theorem Rep.reads {st : St} {h : Heap} (x : ∀ a o, st a = some o → h.get? a = some o) : ∀ {v : Value} {p : PV}, Rep st v p → p.flat = true → ∃ as, Reads h v p.data as
  | _, _, .none, _ => ⟨_, .none⟩
  | _, _, .bool b, _ => ⟨_, .bool b⟩
  | _, _, .int i t, _ => ⟨_, .int i t⟩
  | _, _, .str s t, _ => ⟨_, .str s t⟩
  | _, _, .tup e r, f => let ⟨as, q⟩ := Reps.reads x r (by simpa [PV.flat] using f); ⟨_, by rw [PV.data]; exact .tuple (x _ _ e) rfl rfl q⟩
  | _, _, .lst e r, f => let ⟨as, q⟩ := Reps.reads x r (by simpa [PV.flat] using f); ⟨_, by rw [PV.data]; exact .list (x _ _ e) rfl rfl q⟩
  | _, _, .ref a, f => by simp [PV.flat] at f
theorem Reps.reads {st : St} {h : Heap} (x : ∀ a o, st a = some o → h.get? a = some o) : ∀ {vs : List Value} {ps : List PV}, Reps st vs ps → PV.flats ps = true → ∃ as, ReadsAll h vs (PV.datas ps) as
  | _, _, .nil, _ => ⟨_, .nil⟩
  | _, _, .cons e r, f => by
    simp only [PV.flats, Bool.and_eq_true] at f
    obtain ⟨as, h1⟩ := Rep.reads x e f.1
    obtain ⟨bs, h2⟩ := Reps.reads x r f.2
    exact ⟨_, .cons h1 h2⟩
end

section
variable {C : Cx} {k : Nat} {env : Env} {F : Fm}

-- ints
theorem op_add {a b : Int} : Op2 C k (binaryOp .Add) (.int a) (.int b) (.int (a + b)) := fun st s v u I h1 h2 A Q _ hQ => by
  cases h1; cases h2; exact add_int (hQ _ _ _ (.int _ _) (Then.toks I.sub))
theorem op_sub {a b : Int} : Op2 C k (binaryOp .Sub) (.int a) (.int b) (.int (a - b)) := fun st s v u I h1 h2 A Q _ hQ => by
  cases h1; cases h2; exact sub_int (hQ _ _ _ (.int _ _) (Then.toks I.sub))
theorem op_iadd {a b : Int} : Op2 C k (inplaceOp .Add) (.int a) (.int b) (.int (a + b)) := fun st s v u I h1 h2 A Q _ hQ => by
  cases h1; cases h2; exact iadd_int (hQ _ _ _ (.int _ _) (Then.toks I.sub))
theorem op_isub {a b : Int} : Op2 C k (inplaceOp .Sub) (.int a) (.int b) (.int (a - b)) := fun st s v u I h1 h2 A Q _ hQ => by
  cases h1; cases h2; exact isub_int (hQ _ _ _ (.int _ _) (Then.toks I.sub))
theorem op_div {a b : Int} (hb : 0 < b) (hl : b.natAbs.log2 < 9000 := by decide) : Op2 C k (binaryOp .FloorDiv) (.int a) (.int b) (.int (a / b)) := fun st s v u I h1 h2 A Q _ hQ => by
  cases h1; cases h2
  refine floordiv_int (by omega) ?_ (.inl (PyProof.noPylong_of_log2 hl))
  rw [Int.fdiv_eq_ediv_of_nonneg _ (by omega)]
  exact hQ _ _ _ (.int _ _) (Then.toks I.sub)
theorem op_mod {a b : Int} (hb : 0 < b) : Op2 C k (binaryOp .Mod) (.int a) (.int b) (.int (a % b)) := fun st s v u I h1 h2 A Q _ hQ => by
  cases h1; cases h2
  refine mod_int' (by omega) ?_
  rw [Int.fmod_eq_emod_of_nonneg _ (by omega)]
  exact hQ _ _ _ (.int _ _) (Then.toks I.sub)
theorem op_eq {a b : Int} : Op2 C k (compareOp .Eq) (.int a) (.int b) (.bool (a == b)) := fun st s v u I h1 h2 A Q _ hQ => by
  cases h1; cases h2; exact eq_int (hQ _ _ _ (.bool _) (Then.refl I.sub))
theorem op_lt {a b : Int} : Op2 C k (compareOp .Lt) (.int a) (.int b) (.bool (decide (a < b))) := fun st s v u I h1 h2 A Q _ hQ => by
  cases h1; cases h2; exact lt_int (hQ _ _ _ (.bool _) (Then.refl I.sub))
theorem op_le {a b : Int} : Op2 C k (compareOp .LtE) (.int a) (.int b) (.bool (decide (a ≤ b))) := fun st s v u I h1 h2 A Q _ hQ => by
  cases h1; cases h2; exact le_int (hQ _ _ _ (.bool _) (Then.refl I.sub))
theorem op_gt {a b : Int} : Op2 C k (compareOp .Gt) (.int a) (.int b) (.bool (decide (a > b))) := fun st s v u I h1 h2 A Q _ hQ => by
  cases h1; cases h2; exact gt_int (hQ _ _ _ (.bool _) (Then.refl I.sub))
theorem op_ge {a b : Int} : Op2 C k (compareOp .GtE) (.int a) (.int b) (.bool (decide (a ≥ b))) := fun st s v u I h1 h2 A Q _ hQ => by
  cases h1; cases h2; exact ge_int (hQ _ _ _ (.bool _) (Then.refl I.sub))
theorem op_bne {a b : Bool} : Op2 C k (compareOp .NotEq) (.bool a) (.bool b) (.bool (a != b)) := fun st s v u I h1 h2 A Q _ hQ => by
  cases h1; cases h2; exact ne_bool (hQ _ _ _ (.bool _) (Then.refl I.sub))
theorem Ev.neg {x : Expr} {pos : Pos} {a : Int} (h : Ev C k env F x (.int a)) : Ev C k env F (.UnaryOp .USub x pos) (.int (-a)) := fun st s I A Q R hQ =>
  wpAny_UnaryOp (h st s I A _ R fun v st' s' hv t => by cases hv; exact neg_int (hQ _ _ _ (.int _ _) (t.more ⟨_, _, rfl⟩ fun _ _ e => e)))
def PV.some : PV → Bool
  | .none => false
  | _ => true
theorem op_isnot {p : PV} : Op2 C k (compareOp .IsNot) p .none (.bool p.some) := fun st s v u I h1 h2 A Q _ hQ => by
  cases h2
  refine isNot_none ?_
  have : (!(v == Value.none)) = p.some := by cases h1 <;> rfl
  rw [this]
  exact hQ _ _ _ (.bool _) (Then.refl I.sub)
-- texts
theorem op_seq {a b : Str} : Op2 C k (compareOp .Eq) (.str a) (.str b) (.bool (a == b)) := fun st s v u I h1 h2 A Q _ hQ => by
  cases h1; cases h2; exact eq_str (hQ _ _ _ (.bool _) (Then.refl I.sub))
theorem op_sadd {a b : Str} (hl : a.length + b.length ≤ sizeLine) : Op2 C k (binaryOp .Add) (.str a) (.str b) (.str (a ++ b)) := fun st s v u I h1 h2 A Q _ hQ => by
  cases h1; cases h2
  exact add_str (hsz := hl) fun t' tk => hQ _ st _ (.str _ _) (Then.toks I.sub)
theorem op_smul {a : Str} {n : Int} (hl : MulOk a n) : Op2 C k (binaryOp .Mult) (.str a) (.int n) (.str (Txt.mul a n)) := fun st s v u I h1 h2 A Q _ hQ => by
  cases h1; cases h2
  exact SB.mul hl fun t' tk => hQ _ st _ (.str _ _) (Then.toks I.sub)
theorem op_snotin {a b : Str} : Op2 C k (compareOp .NotIn) (.str a) (.str b) (.bool (!Txt.contains b a)) := fun st s v u I h1 h2 A Q _ hQ => by
  cases h1; cases h2; exact SB.notContains (hQ _ _ _ (.bool _) (Then.refl I.sub))
-- lists
theorem op_ladd {a b : List PV} (hl : a.length + b.length ≤ sizeLine) : Op2 C k (binaryOp .Add) (.lst a) (.lst b) (.lst (a ++ b)) := fun st s v u I h1 h2 A Q _ hQ => by
  cases h1 with
  | lst e1 r1 => cases h2 with
    | lst e2 r2 =>
      rename_i a₁ vs n a₂ ws n'
      have l1 := r1.length
      have l2 := r2.length
      simp only [Array.length_toList] at l1 l2
      refine P.add_list (I.sub _ _ e1) (I.sub _ _ e2) ?_ (by omega)
      refine hQ _ _ _ ?_ (Then.push (tk := s.toks) I.sub (Heap.get?_push_size _ rfl))
      have : vs ++ ws = (vs.toList ++ ws.toList).toArray := by simp
      rw [this]
      exact Rep.newList I.sub size_free (r1.append r2)
theorem op_dne {a b : PV} (ha : a.flat = true) (hb : b.flat = true) (h1 : a.data.canLay0 = true) (h2 : b.data.canLay0 = true) (h3 : 9000 + min a.data.depth b.data.depth < cLine) :
    Op2 C k (compareOp .NotEq) a b (.bool (!PyData.eqv a.data b.data)) := fun st s v u I r1 r2 A Q R hQ => by
  obtain ⟨as, q1⟩ := Rep.reads (h := s.heap) I.sub r1 ha
  obtain ⟨bs, q2⟩ := Rep.reads (h := s.heap) I.sub r2 hb
  exact SeqAt.compareNe_reads q1 q2 h1 h2 (by have := R.units; omega) (hQ _ _ _ (.bool _) (Then.refl I.sub))
end
end Mine
end

section
open PySem PySem.W PyProof.Rows PySem.Calls
set_option linter.all false
namespace Mine

theorem isL {st : St} {s : Shared} {a : Addr} {vs : Array Value} {n : Nat} (h : ∀ a o, st a = some o → s.heap.get? a = some o) (e : st a = some { cls := .type "list", data := .seq vs n }) : s.heap.IsList a vs :=
  ⟨_, h _ _ e, rfl, n, rfl⟩
theorem isT {st : St} {s : Shared} {a : Addr} {vs : Array Value} {n : Nat} (h : ∀ a o, st a = some o → s.heap.get? a = some o) (e : st a = some { cls := .type "tuple", data := .seq vs n }) : IsTup s.heap a vs :=
  ⟨_, h _ _ e, rfl, n, rfl⟩

section
variable {C : Cx} {k : Nat} {env : Env} {F : Fm}

/-- the tail of a subscript by a built-in type -/
theorem tail_any {A : Around} {E : Value → Shared → Prop} {s : Shared} {value slice : Expr} {o i : Value} {T id : String} {ops : List Value} {Q : Value → Shared → Prop} (hT : s.TypeIs o T)
    (hl : typeLookup (.type T) "__getitem__" = pure (some (.builtin id))) (h : wpAny C.M A (getItem o i) Q E s)
    (hs : subscripted slice false o i = operate ops (getItem o i)) : wpAny C.M A (subscriptTail value slice o i) Q E s := by
  unfold subscriptTail
  refine wpAny_bind ?_
  rw [getitemInPython_of_ne hT.not_modules]
  refine wpAny_bind (wpAny_specialOf hT hl ?_)
  have fin : wpAny C.M A (subscripted slice false o i) (fun r s₃ => wpAny C.M A (letTemporaryGo value o r >>= fun _ => pure r) Q E s₃) E s := by
    rw [hs]
    exact wpAny_operating (wpAny_mono h (fun r s₃ h₃ => wpAny_bind (wpAny_letTemporaryGo (wpAny_pure h₃))) fun _ _ x => x)
  first
    | exact wpAny_pure (wpAny_bind fin)
    | exact wpAny_bind (wpAny_pure (wpAny_bind fin))
    | exact wpAny_bind fin

/-- where an index falls -/
def At (i : Int) (n : Nat) (j : Nat) : Prop := j < n ∧ (i = j ∨ i = (j : Int) - n)
theorem At.nat {j n : Nat} (h : j < n) : At (j : Int) n j := ⟨h, .inl rfl⟩
theorem At.seq {i : Int} {n j : Nat} (h : At i n j) : seqIndex? i n = some j := by
  obtain ⟨h1, h2⟩ := h
  unfold seqIndex?
  rcases h2 with rfl | rfl
  · have e : ¬ (j : Int) < 0 := by omega
    simp only [e, if_false]
    have : (decide (0 ≤ (j : Int)) && decide ((j : Int) < n)) = true := by simp; omega
    rw [if_pos this]; simp
  · have e : (j : Int) - n < 0 := by omega
    simp only [e, if_true]
    have : (decide (0 ≤ (j : Int) - n + n) && decide ((j : Int) - n + n < n)) = true := by simp; omega
    rw [if_pos this]; congr 1; omega

abbrev Plain (slice : Expr) : Prop := ∀ o i, subscripted slice false o i = operate [o, i] (getItem o i)

theorem Ev.item_tup {e i : Expr} {pos : Pos} {ps : List PV} {n : Int} {j : Nat} {p : PV} (he : Ev C k env F e (.tup ps)) (hi : Ev C k env F i (.int n)) (hj : At n ps.length j) (hp : ps[j]? = some p)
    (hs : Plain i := by intro _ _; rfl) (hb : ps.length < 2 ^ 60 := by decide) : Ev C k env F (.Subscript e i pos) p := fun st s I A Q R hQ => by
  refine Subscript_ (he st s I A _ R fun v st₁ s₁ h1 t1 => hi st₁ s₁ (I.step t1) A _ R fun u st₂ s₂ h2 t2 => ?_)
  have h1' := h1.le t2.le
  cases h2
  cases h1' with
  | tup e r =>
    have ht := isT t2.sub e
    have hl := r.length
    simp only [Array.length_toList] at hl
    obtain ⟨v, hv, rv⟩ := r.get hp
    refine tail_any ht.typeIs slot_tuple_getitem.lookup (getItem_tuple ht (by obtain ⟨_, h | h⟩ := hj <;> omega) (by obtain ⟨_, h | h⟩ := hj <;> omega) (by rw [hl]; exact hj.seq) (by simpa using hv) ?_) (hs _ _)
    exact hQ _ _ _ rv (t1.trans t2)
theorem Ev.item_lst {e i : Expr} {pos : Pos} {ps : List PV} {n : Int} {j : Nat} {p : PV} (he : Ev C k env F e (.lst ps)) (hi : Ev C k env F i (.int n)) (hj : At n ps.length j) (hp : ps[j]? = some p)
    (hs : Plain i := by intro _ _; rfl) (hb : ps.length < 2 ^ 60 := by decide) : Ev C k env F (.Subscript e i pos) p := fun st s I A Q R hQ => by
  refine Subscript_ (he st s I A _ R fun v st₁ s₁ h1 t1 => hi st₁ s₁ (I.step t1) A _ R fun u st₂ s₂ h2 t2 => ?_)
  have h1' := h1.le t2.le
  cases h2
  cases h1' with
  | lst e r =>
    have ht := isL t2.sub e
    have hl := r.length
    simp only [Array.length_toList] at hl
    obtain ⟨v, hv, rv⟩ := r.get hp
    have hv : _ = some v := hv
    have q := hQ _ _ _ rv (t1.trans t2)
    refine tail_any ht.typeIs slot_list_getitem.lookup ?_ (hs _ _)
    obtain ⟨h0, h | h⟩ := hj
    · refine wpAny_getItem_list ht (by omega) (by omega) ?_ q
      subst h; simpa using hv
    · refine wpAny_getItem_list_neg ht (by omega) (by omega) (by omega) ?_ q
      subst h
      rw [hl, show ((j : Int) - ps.length + ps.length).toNat = j by omega]
      simpa using hv
/-- the part of a slice -/
inductive EvP (C : Cx) (k : Nat) (env : Env) (F : Fm) : Option Expr → Option Int → Prop
  | none : EvP C k env F none none
  | some {e i} : Ev C k env F e (.int i) → EvP C k env F (some e) (some i)
theorem EvP.wp {e : Option Expr} {i : Option Int} (h : EvP C k env F e i) {st : St} {s : Shared} (I : Inv C st env F s) {A : Around} {Q : Value → Shared → Prop} (R : Room k A)
    (hQ : ∀ v st' s', (∃ x : Option (Int × Tok), v = partValue x ∧ x.map (·.1) = i) → Then st s st' s' → Q v s') : wpAny C.M A (evalPart e env) Q (fun _ _ => False) s := by
  cases h with
  | none => exact wpAny_evalPart_none (hQ _ _ _ ⟨Option.none, rfl, rfl⟩ (Then.refl I.sub))
  | some h => exact wpAny_evalPart_some (h st s I A _ R fun v st' s' hv t => by cases hv; exact hQ _ _ _ ⟨Option.some (_, _), rfl, rfl⟩ t)
theorem isPart_of (x : Option (Int × Tok)) : IsPart (partValue x) (x.map (·.1)) := by
  cases x with
  | none => exact .none
  | some q => exact .int _ _

def cut {α : Type} (l : List α) (lo hi : Option Int) : List α :=
  (l.drop (lo.elim 0 (clipAt l.length))).take (hi.elim l.length (clipAt l.length) - lo.elim 0 (clipAt l.length))

theorem Ev.slice_lst {e : Expr} {lo hi : Option Expr} {p pos : Pos} {ps : List PV} {l u : Option Int} (he : Ev C k env F e (.lst ps)) (hl : EvP C k env F lo l) (hu : EvP C k env F hi u) (hb : ps.length ≤ sizeLine := by decide) :
    Ev C k env F (.Subscript e (.Slice lo hi Option.none p) pos) (.lst (cut ps l u)) := fun st s I A Q R hQ => by
  refine Subscript_ (he st s I A _ R fun v st₁ s₁ h1 t1 => wpAny_Slice (hl.wp (I.step t1) R fun vl st₂ s₂ h2 t2 => hu.wp ((I.step t1).step t2) R fun vu st₃ s₃ h3 t3 => ?_))
  obtain ⟨x, rfl, rfl⟩ := h2
  obtain ⟨y, rfl, rfl⟩ := h3
  refine wpAny_evalPart_none ?_
  have h1' := (h1.le t2.le).le t3.le
  cases h1' with
  | lst e r =>
    rename_i a vs n
    have t4 : Then st₃ s₃ st₃ { s₃ with heap := s₃.heap.push { cls := .type "slice", data := .fields #[partValue x, partValue y, .none] } } := Then.keeps t3.sub ⟨_, _, rfl⟩ fun b o e => Heap.get?_push_of_some _ e
    have ht := isL t4.sub e
    have hlen := r.length
    simp only [Array.length_toList] at hlen
    refine tail_any (slice := .Slice lo hi Option.none p) (ops := [_, _]) ht.typeIs slot_list_getitem.lookup (wpAny_getItem_list_slice ht (Heap.IsSliceOf.new ..) (isPart_of x) (isPart_of y) .none (by simp) ?_ (by rw [hlen]; exact hb)) rfl
    refine hQ _ _ _ ?_ (((t1.trans t2).trans t3).trans (t4.trans (Then.push (tk := s₃.toks) t4.sub (Heap.get?_push_size _ rfl))))
    rw [slicePick_plain]
    refine Rep.newList t4.sub size_free ?_
    unfold cut
    rw [← hlen]
    exact (r.drop _).take _

def Scut (x : Str) (l u : Option Int) : Str := Txt.slice x l u
/-- the arguments of a call, the items of a display -/
theorem Evs.wp {es : List Expr} {ps : List PV} (h : Evs C k env F es ps) : ∀ {st : St} {s : Shared} (_ : Inv C st env F s) {A : Around} {Q : List Value → Shared → Prop} (_ : Room k A) {l : List (Bool × Sem Value)},
    l = es.map (fun e => (false, eval e env)) → (∀ vs st' s', Reps st' vs ps → Then st s st' s' → Q vs s') → wpAny C.M A (spliced l) Q (fun _ _ => False) s := by
  induction h with
  | nil => intro st s I A Q R l hl hQ; subst hl; exact spliced_nil (hQ _ _ _ .nil (Then.refl I.sub))
  | cons he _ ih =>
    intro st s I A Q R l hl hQ
    subst hl
    exact spliced_cons (he st s I A _ R fun v st₁ s₁ hv t1 => ih (I.step t1) R rfl fun vs st₂ s₂ hvs t2 => hQ _ _ _ (.cons (hv.le t2.le) hvs) (t1.trans t2))
theorem Evs.length {es : List Expr} {ps : List PV} (h : Evs C k env F es ps) : es.length = ps.length := by
  induction h with
  | nil => rfl
  | cons _ _ ih => simp [ih]

abbrev Flat (es : List Expr) (env : Env) (pos : Pos) : Prop := backTo pos (starEach es env) = es.map (fun e => (false, eval e env))

def notStar : Expr → Bool
  | .Starred _ _ => false
  | _ => true
theorem starEach_cons {e : Expr} {es : List Expr} {env : Env} (h : notStar e = true) : starEach (e :: es) env = (false, eval e env) :: starEach es env := by
  cases e <;> first | rfl | cases h
theorem flat_of {env : Env} {pos : Pos} : ∀ {es : List Expr}, es.all notStar = true → Flat es env pos
  | [], _ => rfl
  | e :: es, h => by
    rw [List.all_cons, Bool.and_eq_true] at h
    have ih := flat_of (env := env) (pos := pos) h.2
    show backTo pos (starEach (e :: es) env) = _
    rw [starEach_cons h.1]
    show (false, eval e env) :: backTo pos (starEach es env) = _
    rw [ih]; rfl

theorem Ev.list {es : List Expr} {pos : Pos} {ps : List PV} (h : Evs C k env F es ps) (hf : Flat es env pos := by exact flat_of (by rfl)) (hb : es.length ≤ sizeLine := by decide) : Ev C k env F (.List es pos) (.lst ps) := fun st s I A Q R hQ => by
  refine wpAny_List (h.wp I R hf fun vs st₁ s₁ hvs t1 => ⟨by rw [hvs.length, ← h.length]; exact hb, ?_⟩)
  exact hQ _ _ _ (Rep.newList t1.sub size_free hvs) (t1.trans (Then.push (tk := s₁.toks) t1.sub (Heap.get?_push_size _ rfl)))
theorem Ev.tuple {es : List Expr} {pos : Pos} {kd : Nat} {ps : List PV} (h : Evs C k env F es ps) (hf : Flat es env pos := by exact flat_of (by rfl)) (hb : es.length ≤ sizeLine := by decide) : Ev C k env F (.Tuple es kd pos) (.tup ps) := fun st s I A Q R hQ => by
  refine wpAny_Tuple (h.wp I R hf fun vs st₁ s₁ hvs t1 => ⟨by rw [hvs.length, ← h.length]; exact hb, ?_⟩)
  exact hQ _ _ _ (Rep.newTup t1.sub size_free hvs) (t1.trans (Then.push (tk := s₁.toks) t1.sub (Heap.get?_push_size _ rfl)))
end
end Mine
end

section
open PySem PySem.W PyProof.Rows PySem.Calls
set_option linter.all false
namespace Mine

def Fm.set (F : Fm) (x : Str) (p : PV) : Fm := { F with m := fun y => if y = x then some p else F.m y }

/-- what a statement may do -/
structure Mod (env : Env) (st : St) (ow : Addr → Option (List PV)) (s : Shared) (st' : St) (ow' : Addr → Option (List PV)) (s' : Shared) : Prop where
  le : Le st st'
  fresh : ∀ a o, st' a = some o → st a = some o ∨ s.heap.get? a = none ∨ ow a ≠ none
  keep : ∀ b o, b ≠ env.locals → (∀ x, env.cells.lookup x ≠ some b) → ow b = none → s.heap.get? b = some o → s'.heap.get? b = some o
  own : ∀ b, ow' b ≠ none → ow b ≠ none ∨ s.heap.get? b = none
  alive : ∀ b o, s.heap.get? b = some o → ∃ o', s'.heap.get? b = some o'
  same : Same s s'

theorem Mod.refl {env : Env} {st : St} {ow : Addr → Option (List PV)} {s : Shared} : Mod env st ow s st ow s :=
  ⟨fun _ _ e => e, fun _ _ e => .inl e, fun _ _ _ _ _ e => e, fun _ h => .inl h, fun _ o e => ⟨o, e⟩, .refl s⟩
theorem Then.mod {env : Env} {st st' : St} {ow : Addr → Option (List PV)} {s s' : Shared} (t : Then st s st' s') : Mod env st ow s st' ow s' :=
  ⟨t.le, fun a o e => (t.fresh a o e).elim .inl fun h => .inr (.inl h), fun b o _ _ _ e => t.keep b o e, fun _ h => .inl h, fun b o e => ⟨o, t.keep b o e⟩, t.same⟩
theorem dead_of {s s' : Shared} (h : ∀ b o, s.heap.get? b = some o → ∃ o', s'.heap.get? b = some o') {b : Addr} (x : s'.heap.get? b = none) : s.heap.get? b = none := by
  cases q : s.heap.get? b with
  | none => rfl
  | some o => obtain ⟨o', h'⟩ := h b o q; rw [h'] at x; cases x
theorem Mod.trans {env : Env} {st st' st'' : St} {ow ow' ow'' : Addr → Option (List PV)} {s s' s'' : Shared} (x : Mod env st ow s st' ow' s') (y : Mod env st' ow' s' st'' ow'' s'') : Mod env st ow s st'' ow'' s'' where
  le := fun a o e => y.le _ _ (x.le _ _ e)
  fresh := fun a o e => by
    rcases y.fresh a o e with h | h | h
    · exact x.fresh a o h
    · exact .inr (.inl (dead_of x.alive h))
    · rcases x.own a h with h | h
      · exact .inr (.inr h)
      · exact .inr (.inl h)
  keep := fun b o h1 h2 h3 e => y.keep b o h1 h2 (by
    cases q : ow' b with
    | none => rfl
    | some l =>
      rcases x.own b (by rw [q]; simp) with h | h
      · exact absurd h3 h
      · rw [h] at e; cases e) (x.keep b o h1 h2 h3 e)
  own := fun b h => (y.own b h).elim (fun h => x.own b h) fun h => .inr (dead_of x.alive h)
  alive := fun b o e => let ⟨o', e'⟩ := x.alive b o e; y.alive b o' e'
  same := x.same.trans y.same
theorem Mod.noOwn {env : Env} {st st' : St} {ow ow' : Addr → Option (List PV)} {s s' : Shared} (x : Mod env st ow s st' ow' s') : Mod env st ow s st' (fun _ => none) s' :=
  { x with own := fun b h => absurd rfl h }

inductive Out where
  | next (F : Fm)
  | ret (p : PV)

/-- the end of a run of statements -/
structure Fin1 (C : Cx) (st : St) (env : Env) (F : Fm) (s : Shared) (P : Out → Prop) (Q : Flow → Shared → Prop) : Prop where
  next : ∀ F' st' s', P (.next F') → Inv C st' env F' s' → Mod env st F.ow s st' F'.ow s' → Q .next s'
  ret : ∀ p v st' s', P (.ret p) → Rep st' v p → Ok C st' s' → Mod env st F.ow s st' (fun _ => none) s' → Q (.ret v) s'

def Tr (C : Cx) (k : Nat) (env : Env) (F : Fm) (t : Sem Flow) (P : Out → Prop) : Prop :=
  ∀ A st s Q, Room k A → Inv C st env F s → Fin1 C st env F s P Q → wpAny C.M A t Q (fun _ _ => False) s
abbrev Ex (C : Cx) (k : Nat) (env : Env) (F : Fm) (x : Stmt) (P : Out → Prop) : Prop := Tr C k env F (exec x env) P
abbrev Exs (C : Cx) (k : Nat) (env : Env) (F : Fm) (xs : List Stmt) (P : Out → Prop) : Prop := Tr C k env F (execs xs env) P

theorem Fin1.after {C : Cx} {st st' : St} {env : Env} {F F' : Fm} {s s' : Shared} {P : Out → Prop} {Q : Flow → Shared → Prop} (x : Fin1 C st env F s P Q) (m : Mod env st F.ow s st' F'.ow s') : Fin1 C st' env F' s' P Q :=
  ⟨fun F'' st'' s'' hp I m' => x.next F'' st'' s'' hp I (m.trans m'), fun p v st'' s'' hp r o m' => x.ret p v st'' s'' hp r o (m.trans m')⟩

theorem Tr.mono {C : Cx} {k : Nat} {env : Env} {F : Fm} {t : Sem Flow} {P P' : Out → Prop} (h : Tr C k env F t P) (hp : ∀ o, P o → P' o) : Tr C k env F t P' := fun A st s Q R I x =>
  h A st s Q R I ⟨fun F' st' s' h => x.next F' st' s' (hp _ h), fun p v st' s' h => x.ret p v st' s' (hp _ h)⟩

/-- what comes behind a statement -/
def Behind1 (C : Cx) (k : Nat) (env : Env) (xs : List Stmt) (P : Out → Prop) : Out → Prop
  | .next F => Exs C k env F xs P
  | .ret p => P (.ret p)

section
variable {C : Cx} {k : Nat} {env : Env} {F : Fm} {P : Out → Prop}

theorem Exs.nil (h : P (.next F)) : Exs C k env F [] P := fun A st s Q R I x => wpAny_execs_nil (x.next F st s h I .refl)
theorem Exs.cons {a : Stmt} {xs : List Stmt} (h : Ex C k env F a (Behind1 C k env xs P)) : Exs C k env F (a :: xs) P := fun A st s Q R I x => by
  refine wpAny_execs_cons (h A st s _ R I ⟨fun F' st' s' hp I' m => hp A st' s' Q R I' (x.after m), fun p v st' s' hp r o m => x.ret p v st' s' hp r o m⟩)

theorem Ex.ret {e : Expr} {pos : Pos} {p : PV} (h : Ev C k env F e p) (hp : P (.ret p)) : Ex C k env F (.Return (some e) pos) P := fun A st s Q R I x =>
  wpAny_Return_some (h st s I A _ R fun v st' s' hv t => x.ret p v st' s' hp hv (I.ok.step t) t.mod.noOwn)
theorem Ex.if {t : Expr} {a b : List Stmt} {pos : Pos} {c : Bool} (ht : Ts C k env F t c) (ha : c = true → Exs C k env F a P) (hb : c = false → Exs C k env F b P) : Ex C k env F (.If t a b pos) P := fun A st s Q R I x => by
  refine wpAny_If (ht A st s _ R I fun st' s' t => ?_)
  cases c with
  | true => exact ha rfl A st' s' Q R (I.step t) (x.after t.mod)
  | false => exact hb rfl A st' s' Q R (I.step t) (x.after t.mod)
theorem Ex.assert {t : Expr} {msg : Option Expr} {pos : Pos} (ht : Ts C k env F t true) (hp : P (.next F)) : Ex C k env F (.Assert t msg pos) P := fun A st s Q R I x =>
  wpAny_Assert_holds (ht A st s _ R I fun st' s' t => ⟨rfl, x.next F st' s' hp (I.step t) t.mod⟩)

theorem Inv.setL {st : St} {s : Shared} {x : Str} {v : Value} {p : PV} {h' : Heap} {tk : Nat} (I : Inv C st env F s) (hx : env.kindOf x = some .local) (r : Rep st v p)
    (hn : ∀ vm, s.heap.Ns env.locals vm → h'.Ns env.locals (fun y => if y = x then some v else vm y)) (hs : Heap.SameBut env.locals s.heap h') : Inv C st env (F.set x p) { s with heap := h', toks := tk } where
  sub := fun a o e => hs.extBut a o (by rintro rfl; rw [I.offL] at e; cases e) (I.sub a o e)
  good := I.good
  offL := I.offL
  offC := I.offC
  inj := I.inj
  ns := by
    obtain ⟨vm, h1, h2⟩ := I.ns
    refine ⟨_, hn vm h1, fun y q hy hm => ?_⟩
    show ∃ u, (if y = x then some v else vm y) = some u ∧ Rep st u q
    by_cases e : y = x
    · subst e
      have hm : (if y = y then some p else F.m y) = some q := hm
      rw [if_pos rfl] at hm ⊢
      cases hm
      exact ⟨v, rfl, r⟩
    · have hm : (if y = x then some p else F.m y) = some q := hm
      rw [if_neg e] at hm ⊢
      exact h2 y q hy hm
  cel := fun y q hy hm => by
    have e : y ≠ x := by rintro rfl; rw [hx] at hy; rcases hy with h | h <;> cases h
    have hm : (if y = x then some p else F.m y) = some q := hm
    rw [if_neg e] at hm
    obtain ⟨c, u, h1, h2, h3⟩ := I.cel y q hy hm
    exact ⟨c, u, h1, h2.sameBut hs (I.offC y c h1).2, h3⟩
  aliveC := fun y c hc => let ⟨u, h⟩ := I.aliveC y c hc; ⟨u, h.sameBut hs (I.offC y c hc).2⟩
  own := fun a ps h => let ⟨h1, h2, h3, vs, n, h4, h5⟩ := I.own a ps h; ⟨h1, h2, h3, vs, n, hs.extBut a _ h2 h4, h5⟩
  gens := I.gens
theorem Mod.setL {st : St} {s : Shared} {ow : Addr → Option (List PV)} {h' : Heap} {tk : Nat} (hn : ∃ vm, s.heap.Ns env.locals vm) (hn' : ∃ vm, h'.Ns env.locals vm) (hs : Heap.SameBut env.locals s.heap h') : Mod env st ow s st ow { s with heap := h', toks := tk } where
  le := fun _ _ e => e
  fresh := fun _ _ e => .inl e
  keep := fun b o hb _ _ e => hs.extBut b o hb e
  own := fun _ h => .inl h
  alive := fun b o e => by
    by_cases q : b = env.locals
    · subst q; obtain ⟨vm, h⟩ := hn'; exact Ns.alive h
    · exact ⟨o, hs.extBut b o q e⟩
  same := ⟨_, _, rfl⟩

theorem Inv.setC {st : St} {s : Shared} {x : Str} {v : Value} {p : PV} {c : Addr} {h' : Heap} (I : Inv C st env F s) (hx : env.kindOf x = some .cell) (r : Rep st v p) (hc : env.cells.lookup x = some c)
    (hv : h'.IsCell c (some v)) (hs : Heap.SameBut c s.heap h') : Inv C st env (F.set x p) { s with heap := h' } where
  sub := fun a o e => hs.extBut a o (by rintro rfl; rw [(I.offC x _ hc).1] at e; cases e) (I.sub a o e)
  good := I.good
  offL := I.offL
  offC := I.offC
  inj := I.inj
  ns := by
    obtain ⟨vm, h1, h2⟩ := I.ns
    refine ⟨vm, h1.sameBut hs (Ne.symm (I.offC x c hc).2), fun y q hy hm => ?_⟩
    have e : y ≠ x := by rintro rfl; rw [hx] at hy; cases hy
    have hm : (if y = x then some p else F.m y) = some q := hm
    rw [if_neg e] at hm
    exact h2 y q hy hm
  cel := fun y q hy hm => by
    have hm : (if y = x then some p else F.m y) = some q := hm
    by_cases e : y = x
    · subst e
      rw [if_pos rfl] at hm
      cases hm
      exact ⟨c, v, hc, hv, r⟩
    · rw [if_neg e] at hm
      obtain ⟨d, u, h1, h2, h3⟩ := I.cel y q hy hm
      exact ⟨d, u, h1, h2.sameBut hs (by rintro rfl; exact e (I.inj _ _ _ h1 hc)), h3⟩
  aliveC := fun y d hd => by
    by_cases e : y = x
    · subst e; rw [hc] at hd; cases hd; exact ⟨_, hv⟩
    · obtain ⟨u, h⟩ := I.aliveC y d hd
      exact ⟨u, h.sameBut hs (by rintro rfl; exact e (I.inj _ _ _ hd hc))⟩
  own := fun a ps h => let ⟨h1, h2, h3, vs, n, h4, h5⟩ := I.own a ps h; ⟨h1, h2, h3, vs, n, hs.extBut a _ (h3 x c hc) h4, h5⟩
  gens := I.gens
theorem Mod.setC {st : St} {s : Shared} {ow : Addr → Option (List PV)} {x : Str} {v : Value} {c : Addr} {h' : Heap} (hc : env.cells.lookup x = some c) (hv : h'.IsCell c (some v)) (hs : Heap.SameBut c s.heap h') :
    Mod env st ow s st ow { s with heap := h' } where
  le := fun _ _ e => e
  fresh := fun _ _ e => .inl e
  keep := fun b o _ hb _ e => hs.extBut b o (by rintro rfl; exact hb x hc) e
  own := fun _ h => .inl h
  alive := fun b o e => by
    by_cases q : b = c
    · subst q; exact IsCell.alive hv
    · exact ⟨o, hs.extBut b o q e⟩
  same := ⟨_, _, rfl⟩

/-- a name of the frame: a local or a cell -/
def Nm (env : Env) (x : Str) : Prop := env.scope.kind = .function ∧ (env.kindOf x = some .local ∨ (env.kindOf x = some .cell ∧ (env.cells.lookup x).isSome = true))

theorem Nm.store {x : Str} (hx : Nm env x) {st : St} {s : Shared} {A : Around} {v : Value} {p : PV} {Q : Unit → Shared → Prop} (I : Inv C st env F s) (r : Rep st v p)
    (h : ∀ s', Inv C st env (F.set x p) s' → Mod env st F.ow s st F.ow s' → Q () s') : wpAny C.M A (storeName env x v) Q (fun _ _ => False) s := by
  obtain ⟨hf, hl | ⟨hc, hs⟩⟩ := hx
  · obtain ⟨vm, hn, _⟩ := I.ns
    refine wpAny_storeName_local hl hn (fun h' hn' hs => h _ (I.setL hl r (fun vm' hv => ?_) hs) (Mod.setL ⟨vm, hn⟩ ⟨_, hn'⟩ hs)) (by rw [hf]; rfl)
    have := funext (Heap.Ns.agree hn hv)
    subst this
    exact hn'
  · obtain ⟨c, hc'⟩ := Option.isSome_iff_exists.mp hs
    obtain ⟨u, hu⟩ := I.aliveC x c hc'
    exact wpAny_storeName_cell hf hc hc' hu fun h' hv hs => h _ (I.setC hc r hc' hv hs) (Mod.setC hc' hv hs)

theorem Ex.assign {x : Str} {xp pos : Pos} {e : Expr} {p : PV} (h : Ev C k env F e p) (hp : P (.next (F.set x p))) (hx : Nm env x) (hs : swapsWith e (some (.Name x xp)) pos.line env = pure false := by rfl) :
    Ex C k env F (.Assign [.Name x xp] e pos) P := fun A st s Q R I fin =>
  wpAny_Assign_Name (h st s I A _ R fun v st' s' hv t => hx.store (I.step t) hv fun s'' I' m => fin.next _ _ _ hp I' (t.mod.trans m)) hs
end
end Mine
end

section
open PySem PySem.W PyProof.Rows PySem.Calls
set_option linter.all false
namespace Mine

/-- a name of the built-ins -/
def Cx.B (C : Cx) (x : Str) (v : Value) : Prop := ∀ h, C.On h → C.mg x = none ∧ C.mb x = some v
theorem Cx.builtin {C : Cx} {x : Str} {v : Value} (h1 : x ∉ startupNames) (h2 : x ∉ C.loose) (h3 : x ∉ (recsOf C.q).map (·.name)) (h4 : x ∉ (litsOf C.q).map (·.1)) (h5 : x ∉ (clssOf C.q C.loose).map (·.name)) (h6 : x ≠ "__name__") (h7 : bootBuiltins x = some v) : C.B x v :=
  fun h O => ⟨O.top.free x h1 h2 h3 h4 h5, (O.top.builtins x h6).trans h7⟩

/-- a function environment -/
structure FnEnv (env : Env) : Prop where
  kind : env.scope.kind = .function
  glob : env.globals = mainGlobals
  blt : env.builtins = builtinsNs

section
variable {C : Cx} {k : Nat} {env : Env} {F : Fm}

theorem name_builtin (N : FnEnv env) {x : Str} {pos : Pos} {v : Value} (hB : C.B x v) (hx : env.kindOf x = some .globalImplicit) (hd : (x == ("__debug__" : Str)) = false) {st : St} {s : Shared} (I : Inv C st env F s)
    {A : Around} {Q : Value → Shared → Prop} (h : Q v s) : wpAny C.M A (eval (.Name x pos) env) Q (fun _ _ => False) s := by
  obtain ⟨h1, h2⟩ := hB _ I.on
  exact Name_function_global N.kind hx (loadGlobal_builtin (N.glob ▸ I.on.top.g) h1 (N.blt ▸ I.on.top.b) h2 h) hd

/-- a call of a value with plain arguments -/
def Bi (C : Cx) (k : Nat) (f : Value) (ps : List PV) (p : PV) : Prop := ∀ st s vs, Ok C st s → Reps st vs ps → Gv C k (call f vs) st s p

theorem callWith_b {f : Value} (hf : (∃ id, f = .builtin id) ∨ ∃ T, f = .type T) {e : Expr} {es : List Expr} {pos : Pos} {ps : List PV} (h : Evs C k env F (e :: es) ps) (hfl : Flat (e :: es) env pos) {st : St} {s : Shared} (I : Inv C st env F s)
    {A : Around} {Q : Value → Shared → Prop} (R : Room k A) (hQ : ∀ vs st' s', Reps st' vs ps → Then st s st' s' → wpAny C.M A (call f vs) Q (fun _ _ => False) s') :
    wpAny C.M A (callWith pos f [] (backTo pos (starEach (e :: es) env)) []) Q (fun _ _ => False) s := by
  rw [hfl]
  have hp : ((e :: es).map fun e => (false, eval e env)).any (·.1) = false := by
    rw [List.any_map]; simp
  rcases hf with ⟨id, rfl⟩ | ⟨T, rfl⟩
  · exact callWith_builtin hp (evalArgs_plain (h.wp I R rfl hQ))
  · exact PySem.callWith_type hp (evalArgs_plain (h.wp I R rfl hQ))

theorem Ev.callB (N : FnEnv env) {x : Str} {np pos : Pos} {e : Expr} {es : List Expr} {ps : List PV} {p : PV} {f : Value} (hB : C.B x f) (hf : (∃ id, f = .builtin id) ∨ ∃ T, f = .type T) (h : Evs C k env F (e :: es) ps) (hb : Bi C k f ps p)
    (hx : env.kindOf x = some .globalImplicit := by rfl) (hfl : Flat (e :: es) env pos := by exact flat_of (by rfl)) (hd : (x == ("__debug__" : Str)) = false := by decide) : Ev C k env F (.Call (.Name x np) (e :: es) [] pos) p := fun st s I A Q R hQ => by
  show wpAny C.M A (do callWith pos (← eval (.Name x np) env) [] (backTo pos (starEach (e :: es) env)) (backToKw pos (keywordEach [] env))) Q _ s
  refine wpAny_bind (name_builtin N hB hx hd I ?_)
  exact callWith_b hf h hfl I R fun vs st' s' hvs t => (hb st' s' vs (I.ok.step t) hvs).of t R hQ

-- what the built-ins give
theorem bi_len_str {x : Str} (hl : x.length ≤ 2 ^ 60) : Bi C k (.builtin "len") [.str x] (.int x.length) := fun st s vs O h A Q R hQ => by
  cases h with | cons h1 h2 => cases h2; cases h1; exact len_str (by omega) (hQ _ _ _ (.int _ _) (Then.toks O.sub))
theorem bi_len_lst {ps : List PV} (hl : ps.length ≤ 2 ^ 60) : Bi C k (.builtin "len") [.lst ps] (.int ps.length) := fun st s vs O h A Q R hQ => by
  cases h with | cons h1 h2 =>
    cases h2
    cases h1 with | lst e r =>
      have hlen := r.length
      simp only [Array.length_toList] at hlen
      rw [← hlen] at hQ
      exact len_list (isL O.sub e) (by omega) (hQ _ _ _ (.int _ _) (Then.toks O.sub))
theorem bi_ord {c : Nat} : Bi C k (.builtin "ord") [.str ⟨#[c]⟩] (.int c) := fun st s vs O h A Q R hQ => by
  cases h with | cons h1 h2 => cases h2; cases h1; exact P.ord_of_char (hQ _ _ _ (.int _ _) (Then.toks O.sub))
theorem ints_toks {st : St} : ∀ {vs : List Value} {ns : List Int}, Reps st vs (ns.map .int) → ∃ xs : List (Int × Tok), vs = xs.map (fun x => .int x.1 x.2) ∧ xs.map (·.1) = ns
  | _, [], h => by cases h; exact ⟨[], rfl, rfl⟩
  | _, n :: ns, h => by
    cases h with | cons h1 h2 =>
      cases h1
      obtain ⟨xs, rfl, rfl⟩ := ints_toks h2
      exact ⟨(n, _) :: xs, rfl, rfl⟩
theorem bi_sum {ns : List Int} : Bi C k (.builtin "sum") [.lst (ns.map .int)] (.int ns.sum) := fun st s vs O h A Q R hQ => by
  cases h with | cons h1 h2 =>
    cases h2
    cases h1 with | lst e r =>
      obtain ⟨xs, hxs, rfl⟩ := ints_toks r
      rename_i a arr n
      have ha : arr = intItems xs.toArray := by
        apply Array.ext'
        rw [hxs]; simp [intItems]
      subst ha
      refine sum_intListG R.handled (isL O.sub e) fun h' tk t' hk => ?_
      have e2 : preSum (numAt xs.toArray) xs.toArray.size = (xs.map (·.1)).sum := by
        rw [preSum_eq, List.take_of_length_le (by simp)]
      rw [e2]
      exact hQ _ _ _ (.int _ _) (Then.keeps O.sub ⟨_, _, rfl⟩ hk)
end

theorem anyE {M : Model} {A : Around} {α : Type} {t : Sem α} {Q : α → Shared → Prop} {E : Value → Shared → Prop} {s : Shared} (h : wpAny M A t Q (fun _ _ => False) s) : wpAny M A t Q E s := wpAny_mono h (fun _ _ q => q) fun _ _ e => e.elim
theorem size24 : sizeLine = 16777216 := by decide
/-- an iterator over plain data -/
structure It (C : Cx) (st : St) (s : Shared) (st' : St) (s' : Shared) (I : Addr) (ps : List PV) (fp : List Addr) (P : Nat → Value → Prop) (S : Nat → Heap → Prop) : Prop where
  then_ : Then st s st' s'
  walks : ∀ A : Around, A.handled = none → Walks C.prog C.w A I fp [I] ps.length P S
  start : S 0 s'.heap
  item : ∀ i v, P i v → ∀ p, ps[i]? = some p → Rep st' v p
  foot : ∀ b ∈ fp, b = I ∨ st' b ≠ none
  new : s.heap.get? I = none
  live : ∀ i h, S i h → ∃ o, h.get? I = some o
  off : st' I = none
  size : ps.length ≤ sizeLine

def Itr (C : Cx) (k : Nat) (env : Env) (F : Fm) (e : Expr) (ps : List PV) : Prop :=
  ∀ st s A (Q : Value → Shared → Prop), Inv C st env F s → Room k A →
    (∀ st' s' I fp P S, It C st s st' s' I ps fp P S → Q (.ref I) s') → wpAny C.M A (eval e env) (fun x s₁ => wpAny C.M A (pyIter x) Q (fun _ _ => False) s₁) (fun _ _ => False) s

theorem lt_push {h : Heap} {o : Obj} : h.objs.size < (h.push o).objs.size := by rw [Heap.size_push]; exact Nat.lt_succ_self _
theorem alive_lt {h : Heap} {a : Addr} {o : Obj} (e : h.get? a = some o) : a < h.objs.size := Heap.lt_size e
theorem off_size {st : St} {s : Shared} (h : ∀ a o, st a = some o → s.heap.get? a = some o) : st s.heap.objs.size = none := none_of h size_free
theorem Then.size_new {st st' : St} {s s' : Shared} (t : Then st s st' s') {a : Addr} (h : s'.heap.objs.size ≤ a) : s.heap.get? a = none := by
  cases q : s.heap.get? a with
  | none => rfl
  | some o => have := alive_lt (t.keep _ _ q); exact absurd this (Nat.not_lt.mpr h)

section
variable {C : Cx} {k : Nat} {env : Env} {F : Fm}

theorem Itr.lst {e : Expr} {ps : List PV} (h : Ev C k env F e (.lst ps)) (hb : ps.length ≤ sizeLine := by decide) : Itr C k env F e ps := fun st s A Q I R hQ => by
  refine h st s I A _ R fun v st₁ s₁ hv t1 => ?_
  cases hv with
  | lst e r =>
    rename_i a vs n
    have hl := isL t1.sub e
    have ne : a ≠ s₁.heap.objs.size := Nat.ne_of_lt (alive_lt (t1.sub _ _ e))
    have hlen := r.length
    simp only [Array.length_toList] at hlen
    refine wpAny_pyIter_list hl (hQ st₁ _ _ [s₁.heap.objs.size, a] (fun i v => vs[i]? = some v) (fun i h => h.IsListIter s₁.heap.objs.size a i ∧ h.IsList a vs) ?_)
    refine ⟨t1.more ⟨_, _, rfl⟩ fun b o e => Heap.get?_push_of_some _ e, fun A' hA => by rw [← hlen]; exact Walks.list hA _ a ne vs, ⟨⟨_, Heap.get?_push_size _ rfl, rfl, rfl⟩, hl.push _⟩, fun i v hv p hp => ?_, fun b hb => ?_, t1.size_new (Nat.le_refl _), fun i h hh => let ⟨o, ho, _⟩ := hh.1; ⟨o, ho⟩, off_size t1.sub, hb⟩
    · obtain ⟨v', h1, h2⟩ := r.get hp
      rw [Array.getElem?_toList, hv] at h1
      cases h1; exact h2
    · rcases List.mem_cons.mp hb with rfl | hb
      · exact .inl rfl
      · right; rw [List.mem_singleton.mp hb, e]; simp

def signs (x : Str) : List PV := x.cps.toList.map fun c => PV.str ⟨#[c]⟩
theorem Itr.str {e : Expr} {x : Str} (h : Ev C k env F e (.str x)) (hb : x.length ≤ sizeLine) : Itr C k env F e (signs x) := fun st s A Q I R hQ => by
  refine h st s I A _ R fun v st₁ s₁ hv t1 => ?_
  cases hv
  have hlen : (signs x).length = x.cps.size := by simp [signs]
  have core : ∀ (o : Obj) (S : Nat → Heap → Prop), (∀ A' : Around, A'.handled = none → Walks C.prog C.w A' s₁.heap.objs.size [s₁.heap.objs.size] [s₁.heap.objs.size] x.cps.size (SignAt x) S) → S 0 (s₁.heap.push o) →
      (∀ i h, S i h → ∃ o, h.get? s₁.heap.objs.size = some o) → Q (.ref s₁.heap.objs.size) { s₁ with heap := s₁.heap.push o } := fun o S hW hS hl => hQ st₁ _ _ [s₁.heap.objs.size] (SignAt x) S (by
    refine ⟨t1.more ⟨_, _, rfl⟩ fun b o e => Heap.get?_push_of_some _ e, fun A' hA => by rw [hlen]; exact hW A' hA, hS, fun i v hv p hp => ?_, fun b hb => .inl (List.mem_singleton.mp hb), t1.size_new (Nat.le_refl _), hl, off_size t1.sub, by rw [hlen]; exact hb⟩
    obtain ⟨c, u, hc, rfl⟩ := hv
    unfold signs at hp
    rw [List.getElem?_map, Array.getElem?_toList, hc] at hp
    cases hp
    exact .str _ _)
  cases ha : x.cps.all (· < 128)
  · exact wpAny_pyIter_wide ha (core _ _ (fun A' hA => Walks.strWide hA _ x _) ⟨_, Heap.get?_push_size _ rfl, rfl, rfl⟩ fun i h hh => let ⟨o, ho, _⟩ := hh; ⟨o, ho⟩)
  · exact wpAny_pyIter_ascii ha (core _ _ (fun A' hA => Walks.strAscii hA _ x _) ⟨_, Heap.get?_push_size _ rfl, rfl, rfl⟩ fun i h hh => let ⟨o, ho, _⟩ := hh; ⟨o, ho⟩)

def rng (a : Int) (n : Nat) : List PV := (List.range n).map fun (i : Nat) => PV.int (a + (i : Int))
theorem range_it {st : St} {s : Shared} {r : Addr} {a b : Int} {t u v : Tok} {n : Nat} {A : Around} {Q : Value → Shared → Prop} (h : ∀ a o, st a = some o → s.heap.get? a = some o) (hr : IsRange s.heap r a b 1 t u v)
    (ha : -(2 ^ 62) ≤ a) (ha' : a < 2 ^ 62) (hb : -(2 ^ 62) ≤ b) (hb' : b < 2 ^ 62) (hn : n = (b - a).toNat) (hsz : n ≤ sizeLine)
    (hQ : ∀ s' I fp P S, It C st s st s' I (rng a n) fp P S → Q (.ref I) s') : wpAny C.M A (pyIter (.ref r)) Q (fun _ _ => False) s := by
  have hlen : (rng a n).length = n := by simp [rng]
  refine wpAny_pyIter_range hr (small_one ha ha' hb hb') (hQ _ _ [s.heap.objs.size] _ _ ⟨Then.keeps h ⟨_, _, rfl⟩ fun b o e => Heap.get?_push_of_some _ e, fun A' hA => by rw [hlen]; exact Walks.range hA _ a 1 n, ?_, fun i v hv p hp => ?_,
    fun b hb => .inl (List.mem_singleton.mp hb), size_free, fun i h hh => ⟨_, hh⟩, off_size h, by rw [hlen]; exact hsz⟩)
  · have e1 : Builtin.Range.rangeSize a b 1 = n := by rw [rangeSize_one]; split <;> omega
    rw [e1]
    show Heap.get? _ _ = _
    rw [Heap.get?_push_size _ rfl]
    simp [rawInt]
  · obtain ⟨t, rfl⟩ := hv
    unfold rng at hp
    rw [List.getElem?_map] at hp
    obtain ⟨j, hj, rfl⟩ := Option.map_eq_some_iff.mp hp
    have := (List.getElem?_eq_some_iff.mp hj).2
    simp at this
    subst this
    rw [Int.mul_one]
    exact .int _ _
theorem Itr.range1 (N : FnEnv env) {np pos : Pos} {e : Expr} {b : Int} {n : Nat} (hB : C.B "range" (.type "range")) (h : Ev C k env F e (.int b)) (hn : n = b.toNat) (hb : b ≤ 2 ^ 20) (hb' : -(2 ^ 62) ≤ b := by omega)
    (hx : env.kindOf "range" = some .globalImplicit := by rfl) (hfl : Flat [e] env pos := by exact flat_of (by rfl)) : Itr C k env F (.Call (.Name "range" np) [e] [] pos) (rng 0 n) := fun st s A Q I R hQ => by
  show wpAny C.M A (do callWith pos (← eval (.Name "range" np) env) [] (backTo pos (starEach [e] env)) (backToKw pos (keywordEach [] env))) _ _ s
  refine wpAny_bind (name_builtin N hB hx (by decide) I ?_)
  refine callWith_b (.inr ⟨_, rfl⟩) (.cons h .nil) hfl I R fun vs st' s' hvs t => ?_
  cases hvs with | cons h1 h2 =>
    cases h2; cases h1
    rename_i tk
    refine call_range_1 ?_
    have t2 : Then st s st' { s' with heap := s'.heap.push { cls := .type "range", data := .fields #[.int 0 s'.toks, .int b tk, .int 1 (s'.toks + 1)] }, toks := s'.toks + 1 + 1 } := t.more ⟨_, _, rfl⟩ fun b o e => Heap.get?_push_of_some _ e
    refine range_it t2.sub (IsRange.new _ _ _ _ _ _ _) (by omega) (by omega) hb' (by omega) (by rw [hn]; congr 1; omega) (by simp only [size24]; omega) fun s'' I' fp P S X => hQ _ _ _ _ _ _ { X with then_ := t2.trans X.then_, new := ?_ }
    cases q : s.heap.get? I' with
    | none => rfl
    | some o => have := t2.keep _ _ q; rw [X.new] at this; cases this
theorem Itr.range2 (N : FnEnv env) {np pos : Pos} {e₁ e₂ : Expr} {a b : Int} {n : Nat} (hB : C.B "range" (.type "range")) (h₁ : Ev C k env F e₁ (.int a)) (h₂ : Ev C k env F e₂ (.int b)) (hn : n = (b - a).toNat) (ha : 0 ≤ a) (ha' : a ≤ 2 ^ 60) (hb : b ≤ 2 ^ 20)
    (hb' : -(2 ^ 62) ≤ b) (hx : env.kindOf "range" = some .globalImplicit := by rfl) (hfl : Flat [e₁, e₂] env pos := by exact flat_of (by rfl)) : Itr C k env F (.Call (.Name "range" np) [e₁, e₂] [] pos) (rng a n) := fun st s A Q I R hQ => by
  show wpAny C.M A (do callWith pos (← eval (.Name "range" np) env) [] (backTo pos (starEach [e₁, e₂] env)) (backToKw pos (keywordEach [] env))) _ _ s
  refine wpAny_bind (name_builtin N hB hx (by decide) I ?_)
  refine callWith_b (.inr ⟨_, rfl⟩) (.cons h₁ (.cons h₂ .nil)) hfl I R fun vs st' s' hvs t => ?_
  cases hvs with | cons h1 h2 =>
    cases h2 with | cons h2 h3 =>
      cases h3; cases h1; cases h2
      rename_i ta tb
      refine call_range_2 ?_
      have t2 : Then st s st' { s' with heap := s'.heap.push { cls := .type "range", data := .fields #[.int a ta, .int b tb, .int 1 s'.toks] }, toks := s'.toks + 1 } := t.more ⟨_, _, rfl⟩ fun b o e => Heap.get?_push_of_some _ e
      refine range_it t2.sub (IsRange.new _ _ _ _ _ _ _) (by omega) (by omega) hb' (by omega) hn (by simp only [size24]; omega) fun s'' I' fp P S X => hQ _ _ _ _ _ _ { X with then_ := t2.trans X.then_, new := ?_ }
      cases q : s.heap.get? I' with
      | none => rfl
      | some o => have := t2.keep _ _ q; rw [X.new] at this; cases this
end
end Mine
end

section
open PySem PySem.W PyProof.Rows PySem.Calls
set_option linter.all false
namespace Mine

section
variable {C : Cx} {k : Nat} {env : Env} {F : Fm} {P : Out → Prop}

theorem Inv.but {st : St} {s : Shared} {I : Addr} {h' : Heap} {tk : Nat} (X : Inv C st env F s) (h1 : st I = none) (h2 : I ≠ env.locals) (h3 : ∀ x c, env.cells.lookup x = some c → I ≠ c) (h4 : F.ow I = none)
    (hk : ∀ b o, b ≠ I → s.heap.get? b = some o → h'.get? b = some o) : Inv C st env F { s with heap := h', toks := tk } where
  sub := fun a o e => hk a o (by rintro rfl; rw [h1] at e; cases e) (X.sub a o e)
  good := X.good
  offL := X.offL
  offC := X.offC
  inj := X.inj
  ns := let ⟨vm, a, b⟩ := X.ns; ⟨vm, a.at' fun o e => hk _ o (Ne.symm h2) e, b⟩
  cel := fun x p hk' hx => let ⟨c, v, a, ⟨o, ho, b⟩, d⟩ := X.cel x p hk' hx; ⟨c, v, a, ⟨o, hk c o (Ne.symm (h3 x c a)) ho, b⟩, d⟩
  aliveC := fun x c hc => let ⟨v, o, ho, b⟩ := X.aliveC x c hc; ⟨v, o, hk c o (Ne.symm (h3 x c hc)) ho, b⟩
  own := fun a ps h => let ⟨a1, a2, a3, vs, n, a4, a5⟩ := X.own a ps h; ⟨a1, a2, a3, vs, n, hk a _ (by rintro rfl; rw [h4] at h; cases h) a4, a5⟩
  gens := X.gens
theorem Mod.but {st st' : St} {ow ow' : Addr → Option (List PV)} {s s' : Shared} {I : Addr} {h' : Heap} {tk : Nat} (X : Mod env st ow s st' ow' s') (hI : s.heap.get? I = none) (hk : ∀ b o, b ≠ I → s'.heap.get? b = some o → h'.get? b = some o) :
    Mod env st ow s st' ow' { s' with heap := h', toks := tk } where
  le := X.le
  fresh := X.fresh
  keep := fun b o a1 a2 a3 e => hk b o (by rintro rfl; rw [hI] at e; cases e) (X.keep b o a1 a2 a3 e)
  own := X.own
  alive := fun b o e => let ⟨o', e'⟩ := X.alive b o e; ⟨o', hk b o' (by rintro rfl; rw [hI] at e; cases e) e'⟩
  same := X.same.trans ⟨_, _, rfl⟩

theorem Inv.new_off {st : St} {s : Shared} {I : Addr} (X : Inv C st env F s) (hI : s.heap.get? I = none) : I ≠ env.locals ∧ (∀ x c, env.cells.lookup x = some c → I ≠ c) ∧ F.ow I = none := by
  refine ⟨?_, ?_, ?_⟩
  · rintro rfl; obtain ⟨vm, h, _⟩ := X.ns; obtain ⟨o, ho⟩ := Ns.alive h; rw [hI] at ho; cases ho
  · rintro x c hc rfl; obtain ⟨v, h⟩ := X.aliveC x _ hc; obtain ⟨o, ho⟩ := IsCell.alive h; rw [hI] at ho; cases ho
  · cases q : F.ow I with
    | none => rfl
    | some ps => obtain ⟨_, _, _, vs, n, ho, _⟩ := X.own I ps q; rw [hI] at ho; cases ho

/-- a loop over plain data -/
theorem Ex.for {x : Str} {xp pos : Pos} {iter : Expr} {body : List Stmt} {ps : List PV} (hi : Itr C k env F iter ps) (hx : Nm env x) (J : Nat → Fm → Prop) (h0 : J 0 F)
    (step : ∀ i p F', ps[i]? = some p → J i F' → Exs C k env (F'.set x p) body fun o => match o with | .next F'' => J (i + 1) F'' | .ret q => P (.ret q))
    (hend : ∀ F', J ps.length F' → P (.next F')) (hs : ∀ x, foldedSetIterable iter env x = pure x := by intro _; rfl) : Ex C k env F (.For (.Name x xp) iter body [] pos) P := fun A st s Q R I fin => by
  refine wpAny_For ?_ hs
  refine hi st s A _ I R fun st₂ s₂ Ia fp Pi S X => ?_
  have hoff := I.new_off X.new
  refine codeAny_forLoop (fun n s' => ∃ i F' st', J i F' ∧ Inv C st' env F' s' ∧ Mod env st F.ow s st' F'.ow s' ∧ Le st₂ st' ∧ st' Ia = none ∧ F'.ow Ia = none ∧ S i s'.heap ∧ i ≤ ps.length ∧ n = ps.length + 1 - i) ?_ (ps.length + 1)
    ⟨0, F, st₂, h0, I.step X.then_, X.then_.mod, fun _ _ e => e, X.off, hoff.2.2, X.start, Nat.zero_le _, rfl⟩
  rintro n s' ⟨i, F', st', hJ, I', m', le', off', own', hS, hle, rfl⟩
  have hW := X.walks A R.handled
  have onlyI : ∀ {h₁ : Heap}, (∀ b o, b ∉ [Ia] → s'.heap.get? b = some o → h₁.get? b = some o) → ∀ b o, b ≠ Ia → s'.heap.get? b = some o → h₁.get? b = some o := fun hk b o hb e => hk b o (by simpa using hb) e
  by_cases hlt : i < ps.length
  · refine hW.item i s' _ _ hlt hS fun v h₁ tk₁ hP hS₁ hk₁ => ?_
    obtain ⟨p, hp⟩ : ∃ p, ps[i]? = some p := ⟨ps[i], by simp [hlt]⟩
    have rv := (X.item i v hP p hp).le le'
    have I₁ : Inv C st' env F' { s' with heap := h₁, toks := tk₁ } := I'.but off' hoff.1 hoff.2.1 own' (onlyI hk₁)
    have m₁ : Mod env st F.ow s st' F'.ow { s' with heap := h₁, toks := tk₁ } := m'.but X.new (onlyI hk₁)
    obtain ⟨oI, hoI⟩ := X.live _ _ hS₁
    refine wpAny_assign_Name (anyE (hx.store I₁ rv fun s₃ I₃ m₃ => anyE (step i p F' hp hJ A st' s₃ _ R I₃ ⟨fun F'' st'' s'' hJ'' I'' m'' => ?_, fun q u st'' s'' hq ru ok m'' => ?_⟩)))
    · have mm : Mod env st' F'.ow { s' with heap := h₁, toks := tk₁ } st'' F''.ow s'' := m₃.trans m''
      refine ⟨ps.length + 1 - (i + 1), by omega, i + 1, F'', st'', hJ'', I'', m₁.trans mm, fun a o e => mm.le _ _ (le' _ _ e), ?_, ?_, ?_, hlt, rfl⟩
      · cases q : st'' Ia with
        | none => rfl
        | some o =>
          rcases mm.fresh _ _ q with h | h | h
          · rw [off'] at h; cases h
          · have h : h₁.get? Ia = none := h
            rw [hoI] at h; cases h
          · exact absurd own' h
      · cases q : F''.ow Ia with
        | none => rfl
        | some l =>
          rcases mm.own Ia (by rw [q]; simp) with h | h
          · exact absurd own' h
          · have h : h₁.get? Ia = none := h
            rw [hoI] at h; cases h
      · refine hW.frame _ _ _ hS₁ fun b hb o e => ?_
        rcases X.foot b hb with rfl | hb'
        · exact mm.keep b o hoff.1 (fun x hx' => hoff.2.1 x b hx' rfl) own' e
        · have hst : st' b ≠ none := by
            cases q : st₂ b with
            | none => exact absurd q hb'
            | some o' => rw [le' _ _ q]; simp
          cases q : st' b with
          | none => exact absurd q hst
          | some o' =>
            have e1 := I₁.sub _ _ q
            have e2 := I''.sub _ _ (mm.le _ _ q)
            have e1 : h₁.get? b = some o' := e1
            rw [e1] at e; cases e; exact e2
    · exact fin.ret q u st'' s'' hq ru ok ((m₁.trans m₃).trans m'')
  · have hin : i = ps.length := by omega
    subst hin
    refine hW.done s' _ _ hS fun h₁ tk₁ hk₁ => wpAny_execs_nil ?_
    exact fin.next F' st' _ (hend F' hJ) (I'.but off' hoff.1 hoff.2.1 own' (onlyI hk₁)) (m'.but X.new (onlyI hk₁))

theorem Ex.aug {x : Str} {xp pos : Pos} {op : Operator} {e : Expr} {a b p : PV} (hm : F.m x = some a) (hl : env.kindOf x = some .local) (h : Ev C k env F e b) (ho : Op2 C k (inplaceOp op) a b p) (hp : P (.next (F.set x p))) (hx : Nm env x) :
    Ex C k env F (.AugAssign (.Name x xp) op e pos) P := fun A st s Q R I fin => by
  obtain ⟨vm, hn, hv⟩ := I.ns
  obtain ⟨v, h1, h2⟩ := hv x a hl hm
  refine wpAny_AugAssign_Name (wpAny_loadName_local hx.1 hl hn h1 (h st s I A _ R fun u st₂ s₂ hu t2 => (ho st₂ s₂ v u (I.step t2).ok (h2.le t2.le) hu).of t2 R fun z st₃ s₃ hz t3 => ?_))
  exact hx.store (I.step t3) hz fun s₄ I₄ m₄ => fin.next _ _ _ hp I₄ (t3.mod.trans m₄)
end
end Mine
end

section
open PySem PySem.W PyProof.Rows PySem.Calls
set_option linter.all false
namespace Mine

/-- the frame of a comprehension -/
def FC (scope : Scope) (F : Fm) (x : Str) (p : PV) : Fm where
  m := fun y => if y = x then some p else if scope.names.lookup y = some .free then F.m y else none
  ow := fun _ => none

/-- the scope of a comprehension in a frame -/
structure CompOk (scope : Scope) (env : Env) (x : Str) : Prop where
  kind : scope.kind = .function
  cell : ∀ y ∈ scope.names, y.2 ≠ .cell
  names : ∀ y ∈ scope.names, y.2 = .local → scope.names.lookup y.1 = some .local
  nodup : ∀ y ∈ scope.names, y.2 = .free → scope.names.lookup y.1 = some .free
  x : scope.names.lookup x = some .local
  free : ∀ y ∈ scope.names, y.2 = .free → (env.cells.lookup y.1).isSome = true ∧ (env.kindOf y.1 = some .cell ∨ env.kindOf y.1 = some .free)
  fn : env.scope.kind = .function

theorem forIn_free {env : Env} : ∀ (names : List (Str × NameKind)) (cs : List (Str × Addr)), (∀ y ∈ names, y.2 = .free → (env.cells.lookup y.1).isSome = true) →
    ∃ cl, (forIn names cs fun (y : Str × NameKind) (r : List (Str × Addr)) => (do
      if y.2 == NameKind.free then do let a ← cellOf env y.1; pure (ForInStep.yield ((y.1, a) :: r)) else pure (ForInStep.yield r) : Sem (ForInStep (List (Str × Addr))))) = pure cl ∧
      (∀ y c, cl.lookup y = some c → cs.lookup y = some c ∨ env.cells.lookup y = some c) ∧ (∀ y, (y, NameKind.free) ∈ names → cl.lookup y = env.cells.lookup y) ∧ (∀ y, cs.lookup y = env.cells.lookup y → cl.lookup y = env.cells.lookup y)
  | [], cs, _ => ⟨cs, rfl, fun y c h => .inl h, fun y h => (nomatch h), fun y h => h⟩
  | (n, kd) :: r, cs, h => by
    rw [List.forIn_cons]
    by_cases hk : kd = .free
    · subst hk
      obtain ⟨a, ha⟩ := Option.isSome_iff_exists.mp (h _ (.head _) rfl)
      have ha : env.cells.lookup n = some a := ha
      obtain ⟨cl, h1, h2, h3, h4⟩ := forIn_free r ((n, a) :: cs) fun y hy => h y (.tail _ hy)
      have same : ∀ y, y = n → ((n, a) :: cs).lookup y = env.cells.lookup y := fun y e => by subst e; rw [List.lookup_cons_self, ha]
      refine ⟨cl, ?_, fun y c hy => ?_, fun y hy => ?_, fun y hy => ?_⟩
      · rw [← h1]
        have : cellOf env n = pure a := by unfold cellOf; rw [ha]
        simp only [beq_self_eq_true, if_true, this]
        rfl
      · rcases h2 y c hy with e | e
        · by_cases q : y = n
          · right; rw [← same y q]; exact e
          · left; rw [List.lookup_cons, beq_eq_false_iff_ne.mpr q] at e; exact e
        · exact .inr e
      · rcases List.mem_cons.mp hy with e | hy
        · cases e; exact h4 _ (same _ rfl)
        · exact h3 y hy
      · refine h4 y ?_
        by_cases q : y = n
        · exact same y q
        · rw [List.lookup_cons, beq_eq_false_iff_ne.mpr q]; exact hy
    · obtain ⟨cl, h1, h2, h3, h4⟩ := forIn_free r cs fun y hy => h y (.tail _ hy)
      refine ⟨cl, ?_, h2, fun y hy => ?_, h4⟩
      · rw [← h1]
        have : (kd == NameKind.free) = false := by cases kd <;> first | rfl | exact absurd rfl hk
        simp only [this, Bool.false_eq_true, if_false]
        rfl
      · rcases List.mem_cons.mp hy with e | hy
        · cases e; exact absurd rfl hk
        · exact h3 y hy

theorem closure_ok {scope : Scope} {env : Env} {x : Str} (K : CompOk scope env x) : ∃ cl, closureFor scope env = pure cl ∧ (∀ y c, cl.lookup y = some c → env.cells.lookup y = some c) ∧
    (∀ y, scope.names.lookup y = some .free → cl.lookup y = env.cells.lookup y) := by
  obtain ⟨cl, h1, h2, h3, _⟩ := forIn_free (env := env) scope.names [] fun y hy he => (K.free y hy he).1
  refine ⟨cl, ?_, fun y c hy => (h2 y c hy).elim (fun e => (nomatch e)) id, fun y hy => h3 y (PySem.mem_of_lookup hy)⟩
  rw [← h1]
  unfold closureFor
  simp only [bind_pure]

theorem lookup_relabel {env : Env} {y : Str} : ∀ (names : List (Str × NameKind)),
    (names.map fun (n, k) => if (k == NameKind.free && env.scope.kind == .function && env.kindOf n == some .cell) then (n, NameKind.cell) else (n, k)).lookup y =
      (names.lookup y).map fun k => if (k == NameKind.free && env.scope.kind == .function && env.kindOf y == some .cell) then NameKind.cell else k
  | [] => rfl
  | (n, k) :: r => by
    have ih := lookup_relabel (env := env) (y := y) r
    show List.lookup y ((if (k == NameKind.free && env.scope.kind == .function && env.kindOf n == some .cell) = true then (n, NameKind.cell) else (n, k)) :: _) = _
    by_cases e : y = n
    · subst e
      rw [show List.lookup y ((y, k) :: r) = some k from List.lookup_cons_self ..]
      by_cases c : (k == NameKind.free && env.scope.kind == .function && env.kindOf y == some .cell) = true
      · rw [if_pos c, List.lookup_cons_self, Option.map_some, if_pos c]
      · rw [if_neg c, List.lookup_cons_self, Option.map_some, if_neg c]
    · have e' : (y == n) = false := beq_eq_false_iff_ne.mpr e
      by_cases c : (k == NameKind.free && env.scope.kind == .function && env.kindOf n == some .cell) = true
      · rw [if_pos c, List.lookup_cons, List.lookup_cons, e']; exact ih
      · rw [if_neg c, List.lookup_cons, List.lookup_cons, e']; exact ih

theorem Then.but {st st' : St} {s s' : Shared} {I : Addr} {h' : Heap} {tk : Nat} (X : Then st s st' s') (hI : s.heap.get? I = none) (ho : st' I = none) (hk : ∀ b o, b ≠ I → s'.heap.get? b = some o → h'.get? b = some o) :
    Then st s st' { s' with heap := h', toks := tk } where
  le := X.le
  sub := fun a o e => hk a o (by rintro rfl; rw [ho] at e; cases e) (X.sub a o e)
  fresh := X.fresh
  keep := fun b o e => hk b o (by rintro rfl; rw [hI] at e; cases e) (X.keep b o e)
  same := X.same.trans ⟨_, _, rfl⟩

/-- all tests of a comprehension's clause -/
def Tss (C : Cx) (k : Nat) (env : Env) (F : Fm) : List Expr → Bool → Prop
  | [], b => b = true
  | [c], b => Ts C k env F c b
  | _, _ => False

section
variable {C : Cx} {k : Nat} {env : Env} {F : Fm}

theorem comp_inv {scope : Scope} {x : Str} {cl : List (Str × Addr)} {Ca : Addr} {st st' : St} {s s' : Shared} {p : PV} {v : Value} {m : Str → Option Value} (K : CompOk scope env x) (I : Inv C st env F s) (t : Then st s st' s')
    (hcl : ∀ y c, cl.lookup y = some c → env.cells.lookup y = some c) (hcl' : ∀ y, scope.names.lookup y = some .free → cl.lookup y = env.cells.lookup y)
    (hC : s.heap.get? Ca = none) (hC' : st' Ca = none) (hn : s'.heap.Ns Ca m) (hm : m x = some v) (r : Rep st' v p) : Inv C st' (compEnvC scope cl Ca env) (FC scope F x p) s' := by
  have I' := I.step t
  have kind : ∀ y, (compEnvC scope cl Ca env).kindOf y = (scope.names.lookup y).map fun k => if (k == NameKind.free && env.scope.kind == .function && env.kindOf y == some .cell) then NameKind.cell else k := fun y => lookup_relabel _
  have neC : ∀ y c, cl.lookup y = some c → c ≠ Ca := fun y c hc e => by
    subst e
    obtain ⟨u, h⟩ := I.aliveC y c (hcl y c hc)
    obtain ⟨o, ho⟩ := IsCell.alive h
    rw [hC] at ho; cases ho
  refine ⟨I'.sub, I'.good, hC', fun y c hc => ⟨(I'.offC y c (hcl y c hc)).1, neC y c hc⟩, fun y z c h1 h2 => I.inj y z c (hcl _ _ h1) (hcl _ _ h2), ⟨m, hn, fun y q hy hq => ?_⟩, fun y q hy hq => ?_, fun y c hc => I'.aliveC y c (hcl y c hc), fun a ps h => (nomatch h), I'.gens⟩
  · have hq : (if y = x then some p else if scope.names.lookup y = some .free then F.m y else none) = some q := hq
    by_cases e : y = x
    · subst e; rw [if_pos rfl] at hq; cases hq; exact ⟨v, hm, r⟩
    · rw [if_neg e] at hq
      by_cases f : scope.names.lookup y = some .free
      · rw [kind, f] at hy
        simp only [Option.map_some, Option.some.injEq] at hy
        split at hy <;> cases hy
      · rw [if_neg f] at hq; cases hq
  · have hq : (if y = x then some p else if scope.names.lookup y = some .free then F.m y else none) = some q := hq
    by_cases e : y = x
    · subst e
      rw [kind, K.x] at hy
      rcases hy with h | h <;> simp at h
    · rw [if_neg e] at hq
      by_cases f : scope.names.lookup y = some .free
      · rw [if_pos f] at hq
        obtain ⟨c, u, h1, h2, h3⟩ := I'.cel y q (K.free (y, .free) (PySem.mem_of_lookup f) rfl).2 hq
        exact ⟨c, u, (hcl' y f).trans h1, h2, h3⟩
      · rw [if_neg f] at hq; cases hq

theorem comp_core {elt iter : Expr} {x : Str} {px : Pos} {ifs : List Expr} {scope : Scope} {pos : Pos} {cl : List (Str × Addr)} {ps : List PV} (keep : PV → Bool) (f : PV → PV) (K : CompOk scope env x)
    (hcl : ∀ y c, cl.lookup y = some c → env.cells.lookup y = some c) (hcl' : ∀ y, scope.names.lookup y = some .free → cl.lookup y = env.cells.lookup y)
    (htest : ∀ p ∈ ps, ∀ cl Ca, Tss C k (compEnvC scope cl Ca env) (FC scope F x p) ifs (keep p))
    (helt : ∀ p ∈ ps, keep p = true → ∀ cl Ca, Ev C k (compEnvC scope cl Ca env) (FC scope F x p) elt (f p))
    {st st₂ : St} {s s₂ : Shared} {A : Around} {Ia : Addr} {fp : List Addr} {Pi : Nat → Value → Prop} {S : Nat → Heap → Prop} (I : Inv C st env F s) (R : Room k A) (X : It C st s st₂ s₂ Ia ps fp Pi S)
    {RR : Value → Addr → Result → Shared → Prop}
    (hRR : ∀ D Ca st' s', Then st s st' s' → Rep st' (.ref D) (.lst ((ps.filter keep).map f)) → s.heap.get? Ca = none → st' Ca = none → (∃ m, s'.heap.Ns Ca m) → RR (.ref D) Ca (.ok .next) s') :
    wpAny C.M A (newList []) (fun acc s₃ => wpAny C.M A (newFunctionEnv scope env.globals cl [] env.qual none .none (some env)) (fun cenv s₄ =>
      codeAny C.M A (.compStart (.ListComp elt [⟨.Name x px, iter, ifs, 0⟩] scope pos) 0 (.ref Ia) acc { cenv with scope := relabel scope env }) (RR acc cenv.locals) s₄) (fun _ _ => False) s₃) (fun _ _ => False) s₂ := by
  refine wpAny_newObj_type (wpAny_newFunctionEnv K.cell (by intro y hy; simp at hy) (fun h₁ hns₁ hsb₁ => ?_) K.kind)
  dsimp only at hns₁ hsb₁ ⊢
  have hnewD : (s₂.heap.push { cls := .type "list", dict := none, data := .seq ([] : List Value).toArray }).get? s₂.heap.objs.size = some { cls := .type "list", dict := none, data := .seq ([] : List Value).toArray } := Heap.get?_push_size _ rfl
  generalize hH2 : s₂.heap.push { cls := .type "list", dict := none, data := .seq ([] : List Value).toArray } = H2 at hns₁ hsb₁ hnewD ⊢
  have hC : H2.objs.size = s₂.heap.objs.size + 1 := by rw [← hH2, Heap.size_push]
  have old2 : ∀ b o, s₂.heap.get? b = some o → H2.get? b = some o := fun b o e => hH2 ▸ Heap.get?_push_of_some _ e
  have newD : s₂.heap.get? s₂.heap.objs.size = none := size_free
  have newC : s₂.heap.get? H2.objs.size = none := free_ge (by rw [hC]; exact Nat.le_succ _)
  have hDC : s₂.heap.objs.size ≠ H2.objs.size := by rw [hC]; exact Nat.ne_of_lt (Nat.lt_succ_self _)
  have aliveL : ∀ b o, s₂.heap.get? b = some o → b ≠ H2.objs.size := fun b o e => by have h := alive_lt e; rw [hC]; exact Nat.ne_of_lt (Nat.lt_succ_of_lt h)
  have deadD : s.heap.get? s₂.heap.objs.size = none := X.then_.size_new (Nat.le_refl _)
  have deadC : s.heap.get? H2.objs.size = none := X.then_.size_new (by rw [hC]; exact Nat.le_succ _)
  generalize s₂.heap.objs.size = D at *
  generalize H2.objs.size = Ca at *
  have old : ∀ b o, s₂.heap.get? b = some o → h₁.get? b = some o := fun b o e => hsb₁.extBut b o (aliveL b o e) (Heap.get?_push_of_some _ (old2 b o e))
  have offD : st₂ D = none := none_of X.then_.sub newD
  have offC : st₂ Ca = none := none_of X.then_.sub newC
  obtain ⟨oI, hoI⟩ := X.live _ _ X.start
  have neIC : Ia ≠ Ca := by rintro rfl; rw [newC] at hoI; cases hoI
  have neID : Ia ≠ D := by rintro rfl; rw [newD] at hoI; cases hoI
  have hW := X.walks A R.handled
  have footC : ∀ b ∈ fp, b ≠ Ca := fun b hb e => by
    rcases X.foot b hb with h | h
    · exact neIC (h.symm.trans e)
    · subst e; exact h offC
  have footD : ∀ b ∈ fp, b ≠ D := fun b hb e => by
    rcases X.foot b hb with h | h
    · exact neID (h.symm.trans e)
    · subst e; exact h offD
  have hacc : h₁.PlainList D #[] := ⟨_, hsb₁.extBut D _ hDC (Heap.get?_push_of_some _ hnewD)⟩
  have h0 : ∀ tk, Then st s st₂ { s₂ with heap := h₁, toks := tk } := fun tk => X.then_.more ⟨_, _, rfl⟩ old
  have start₁ : S 0 h₁ := hW.frame _ _ _ X.start fun b _ o e => old b o e
  have loop : ∀ s₃ : Shared, s₃ = { s₂ with heap := h₁, toks := s₂.toks + ([] : List (Str × Value)).length } →
      codeAny C.M A (.compLoop (.ListComp elt [⟨.Name x px, iter, ifs, 0⟩] scope pos) 0 (.ref Ia) (.ref D) (compEnvC scope cl Ca env)) (RR (.ref D) Ca) s₃ := by
    rintro s₃ rfl
    refine codeAny_compLoop_tests (fun n s' => ∃ i st' ys, Then st s st' s' ∧ Le st₂ st' ∧ st' D = none ∧ st' Ca = none ∧ st' Ia = none ∧ s'.heap.PlainList D ys ∧ Reps st' ys.toList (((ps.take i).filter keep).map f) ∧ (∃ m, s'.heap.Ns Ca m) ∧
      S i s'.heap ∧ i ≤ ps.length ∧ n = ps.length + 1 - i) ?_ (ps.length + 1) ⟨0, st₂, #[], h0 _, fun _ _ e => e, offD, offC, X.off, hacc, by simpa using Reps.nil, ⟨_, hns₁⟩, start₁, Nat.zero_le _, rfl⟩
    rintro n s' ⟨i, st', ys, T, le', offD', offC', offI', hys, hr, ⟨m, hm⟩, hS, hle, rfl⟩
    by_cases hlt : i < ps.length
    · refine hW.item i s' _ _ hlt hS fun v h₂ tk₂ hP hS₂ hk₂ => ?_
      have hk₂' : ∀ b o, b ≠ Ia → s'.heap.get? b = some o → h₂.get? b = some o := fun b o hb e => hk₂ b o (by simpa using hb) e
      obtain ⟨p, hp⟩ : ∃ p, ps[i]? = some p := ⟨ps[i], by simp [hlt]⟩
      have hpm : p ∈ ps := List.mem_of_getElem? hp
      have T₂ : Then st s st' { s' with heap := h₂, toks := tk₂ } := T.but X.new offI' hk₂'
      have hm₂ : h₂.Ns Ca m := hm.at' fun o e => hk₂' _ o (Ne.symm neIC) e
      refine wpAny_assign_Name (wpAny_storeName_local (env := compEnvC scope cl Ca env) (lookup_relabel_local K.x) hm₂ (fun h₃ hn₃ hs₃ => ?_) (by simp [compEnvC, relabel, K.kind]))
      have T₃ : Then st s st' { s' with heap := h₃, toks := tk₂ + 1 } := T₂.but deadC offC' fun b o hb e => hs₃.extBut b o hb e
      have rv := (X.item i v hP p hp).le le'
      have I₃ := comp_inv (p := p) (v := v) K I T₃ hcl hcl' deadC offC' hn₃ (by simp) rv
      have hys₃ : h₃.PlainList D ys := (hys.at fun o e => hk₂' _ o (Ne.symm neID) e).at fun o e => hs₃.extBut D o hDC e
      have hS₃ : S (i + 1) h₃ := hW.frame _ _ _ hS₂ fun b hb o e => hs₃.extBut b o (footC b hb) e
      have hlen := hr.length
      have snoc : ps.take (i + 1) = ps.take i ++ [p] := by rw [List.take_succ, hp]; rfl
      have after : ∀ st₄ s₄, Then st' { s' with heap := h₃, toks := tk₂ + 1 } st₄ s₄ → if keep p = true then wpAny C.M A (eval elt (compEnvC scope cl Ca env)) (fun x s₄ =>
              wpAny C.M A (call (.builtin "list.append") [.ref D, x]) (fun _ s₅ => ∃ m, m < ps.length + 1 - i ∧ ∃ i st' ys, Then st s st' s₅ ∧ Le st₂ st' ∧ st' D = none ∧ st' Ca = none ∧ st' Ia = none ∧ s₅.heap.PlainList D ys ∧ Reps st' ys.toList (((ps.take i).filter keep).map f) ∧ (∃ m, s₅.heap.Ns Ca m) ∧
                S i s₅.heap ∧ i ≤ ps.length ∧ m = ps.length + 1 - i) (fun _ _ => False) s₄) (fun _ _ => False) s₄
            else ∃ m, m < ps.length + 1 - i ∧ ∃ i st' ys, Then st s st' s₄ ∧ Le st₂ st' ∧ st' D = none ∧ st' Ca = none ∧ st' Ia = none ∧ s₄.heap.PlainList D ys ∧ Reps st' ys.toList (((ps.take i).filter keep).map f) ∧ (∃ m, s₄.heap.Ns Ca m) ∧
                S i s₄.heap ∧ i ≤ ps.length ∧ m = ps.length + 1 - i := fun st₄ s₄ T₄ => by
        have offD₄ : st₄ D = none := T₄.off offD' (let ⟨n, e⟩ := hys₃; ⟨_, e⟩)
        have offC₄ : st₄ Ca = none := T₄.off offC' (Ns.alive hn₃)
        have offI₄ : st₄ Ia = none := T₄.off offI' (X.live _ _ hS₃)
        have hys₄ := hys₃.at fun o e => T₄.keep _ _ e
        have hS₄ : S (i + 1) s₄.heap := hW.frame _ _ _ hS₃ fun b _ o e => T₄.keep b o e
        cases hkp : keep p with
        | false =>
          simp only [Bool.false_eq_true, if_false]
          refine ⟨ps.length + 1 - (i + 1), by omega, i + 1, st₄, ys, T₃.trans T₄, fun a o e => T₄.le _ _ (le' _ _ e), offD₄, offC₄, offI₄, hys₄, ?_, ⟨_, hn₃.keeps T₄.keep⟩, hS₄, hlt, rfl⟩
          rw [snoc, List.filter_append]
          simpa [hkp] using hr.le T₄.le
        | true =>
          simp only [if_true]
          refine helt p hpm hkp cl Ca st₄ s₄ (I₃.step T₄) A _ R fun y st₅ s₅ hy T₅ => ?_
          have hys₅ := hys₄.at fun o e => T₅.keep _ _ e
          have hsz : ys.size ≤ sizeLine := by
            have e1 : ((ps.take i).filter keep).length ≤ (ps.take i).length := List.length_filter_le _ _
            have e2 : (ps.take i).length ≤ ps.length := by rw [List.length_take]; exact Nat.min_le_right _ _
            have e3 := X.size
            simp only [Array.length_toList, List.length_map] at hlen
            omega
          refine wpAny_list_append_plain (hsz := hsz) hys₅ fun h₆ hl₆ hs₆ => ?_
          have offD₅ := T₅.off offD₄ (let ⟨n, e⟩ := hys₄; ⟨_, e⟩)
          have T₆ : Then st s st₅ { s₅ with heap := h₆ } := ((T₃.trans T₄).trans T₅).but (tk := s₅.toks) deadD offD₅ fun b o hb e => hs₆.extBut b o hb e
          refine ⟨ps.length + 1 - (i + 1), by omega, i + 1, st₅, ys.push y, T₆, fun a o e => T₅.le _ _ (T₄.le _ _ (le' _ _ e)), offD₅, T₅.off offC₄ (Ns.alive (hn₃.keeps T₄.keep)), T₅.off offI₄ (X.live _ _ hS₄), hl₆, ?_,
            ⟨_, ((hn₃.keeps T₄.keep).keeps T₅.keep).sameBut hs₆ (Ne.symm hDC)⟩, hW.frame _ _ _ hS₄ fun b hb o e => hs₆.extBut b o (footD b hb) (T₅.keep b o e), hlt, rfl⟩
          rw [snoc, List.filter_append]
          have := ((hr.le T₄.le).le T₅.le).append (.cons hy .nil)
          simpa [hkp] using this
      match ifs, htest p hpm cl Ca with
      | [], ht =>
        have ht : keep p = true := ht
        refine wpAny_tests_nil ?_
        have := after st' _ (Then.refl T₃.sub)
        rw [ht] at this
        simp only [if_true] at this ⊢
        exact wpAny_mono this (fun x s₄ h => anyE h) fun _ _ e => e.elim
      | [c], ht =>
        refine wpAny_tests_one (anyE (ht A st' _ _ R I₃ fun st₄ s₄ T₄ => ?_))
        have := after st₄ s₄ T₄
        cases hkp : keep p with
        | false => rw [hkp] at this; simpa using this
        | true =>
          rw [hkp] at this
          simp only [if_true] at this ⊢
          exact wpAny_mono this (fun x s₄ h => anyE h) fun _ _ e => e.elim
      | _ :: _ :: _, ht => exact ht.elim
    · have hin : i = ps.length := by omega
      subst hin
      refine hW.done s' _ _ hS fun h₂ tk₂ hk₂ => ?_
      have hk₂' : ∀ b o, b ≠ Ia → s'.heap.get? b = some o → h₂.get? b = some o := fun b o hb e => hk₂ b o (by simpa using hb) e
      have T₂ : Then st s st' { s' with heap := h₂, toks := tk₂ } := T.but X.new offI' hk₂'
      obtain ⟨n, hD⟩ := hys.at fun o e => hk₂' _ o (Ne.symm neID) e
      refine hRR D Ca (st'.add D { cls := .type "list", data := .seq ys n }) _ ⟨fun a o e => St.add_le _ _ (T₂.le _ _ e), fun a o e => ?_, fun a o e => ?_, T₂.keep, T₂.same⟩ (.lst (St.add_self offD') (hr.le St.add_le |> fun q => by simpa using q)) deadC ?_ ⟨m, hm.at' fun o e => hk₂' _ o (Ne.symm neIC) e⟩
      · rcases St.add_cases e with e | ⟨rfl, rfl⟩
        · exact T₂.sub _ _ e
        · exact hD
      · rcases St.add_cases e with e | ⟨rfl, rfl⟩
        · exact T₂.fresh _ _ e
        · exact .inr deadD
      · cases q : st'.add D { cls := .type "list", data := .seq ys n } Ca with
        | none => rfl
        | some o =>
          rcases St.add_cases q with e | ⟨e, _⟩
          · rw [offC'] at e; cases e
          · exact absurd e.symm hDC
  exact codeAny_compStart_list (loop _ rfl) (hW.self 0 _ _ _ start₁ (loop _ rfl))
end
end Mine
end

section
open PySem PySem.W PyProof.Rows PySem.Calls
set_option linter.all false
namespace Mine

section
variable {C : Cx} {k : Nat} {env : Env} {F : Fm} {P : Out → Prop}

theorem Ev.comp {elt iter : Expr} {x : Str} {px : Pos} {ifs : List Expr} {scope : Scope} {pos : Pos} {ps : List PV} (hi : Itr C k env F iter ps) (keep : PV → Bool) (f : PV → PV) (K : CompOk scope env x)
    (htest : ∀ p ∈ ps, ∀ cl Ca, Tss C k (compEnvC scope cl Ca env) (FC scope F x p) ifs (keep p))
    (helt : ∀ p ∈ ps, keep p = true → ∀ cl Ca, Ev C k (compEnvC scope cl Ca env) (FC scope F x p) elt (f p)) (hs : ∀ x, foldedSetIterable iter env x = pure x := by intro _; rfl) :
    Ev C k env F (.ListComp elt [⟨.Name x px, iter, ifs, 0⟩] scope pos) (.lst ((ps.filter keep).map f)) := fun st s I A Q R hQ => by
  obtain ⟨cl, h1, h2, h3⟩ := closure_ok K
  rw [eval_ListComp]
  refine wpAny_comprehension_free (use := Option.none) rfl hs h1 K.kind K.names (hi st s A _ I R fun st₂ s₂ Ia fp Pi S X => ?_)
  refine comp_core (RR := fun acc Cc => compPost C.M A (fun _ _ => False) Option.none Q acc Cc) keep f K h2 h3 htest helt I R X fun D Ca st' s' T r dead off hm => ?_
  obtain ⟨m, hm⟩ := hm
  exact ⟨m, hm, fun h' hs' => hQ _ st' _ r (T.but (tk := s'.toks) dead off fun b o hb e => hs'.extBut b o hb e)⟩

theorem Ex.comp {y : Str} {py spos : Pos} {elt iter : Expr} {x : Str} {px : Pos} {ifs : List Expr} {scope : Scope} {pos : Pos} {ps : List PV} (hi : Itr C k env F iter ps) (keep : PV → Bool) (f : PV → PV) (K : CompOk scope env x) (hy : Nm env y)
    (hsw : swapsWith (.ListComp elt [⟨.Name x px, iter, ifs, 0⟩] scope pos) (some (.Name y py)) spos.line env = pure true)
    (htest : ∀ p ∈ ps, ∀ cl Ca, Tss C k (compEnvC scope cl Ca env) (FC scope F x p) ifs (keep p))
    (helt : ∀ p ∈ ps, keep p = true → ∀ cl Ca, Ev C k (compEnvC scope cl Ca env) (FC scope F x p) elt (f p)) (hP : P (.next (F.set y (.lst ((ps.filter keep).map f))))) (hs : ∀ x, foldedSetIterable iter env x = pure x := by intro _; rfl) :
    Ex C k env F (.Assign [.Name y py] (.ListComp elt [⟨.Name x px, iter, ifs, 0⟩] scope pos) spos) P := fun A st s Q R I fin => by
  obtain ⟨cl, h1, h2, h3⟩ := closure_ok K
  rw [exec_Assign_Name_used _ _ _ _ hsw]
  refine wpAny_bind (wpAny_standAt (wpAny_bind ?_))
  show wpAny _ A (do let _ ← comprehension (.ListComp elt [⟨.Name x px, iter, ifs, 0⟩] scope pos) scope env _ (newList []) false (eval iter env) (some (PySem.assign (.Name y py) env))) _ _ s
  refine wpAny_bind (wpAny_mono (wpAny_comprehension_free (use := some (PySem.assign (.Name y py) env)) (Q := fun _ s' => Q .next s') rfl hs h1 K.kind K.names
    (hi st s A _ I R fun st₂ s₂ Ia fp Pi S X => ?_)) (fun _ s' hq => wpAny_pure (wpAny_pure hq)) fun _ _ e => e)
  refine comp_core (RR := fun acc Cc => compPost C.M A (fun _ _ => False) (some (PySem.assign (.Name y py) env)) (fun _ s' => Q .next s') acc Cc) keep f K h2 h3 htest helt I R X fun D Ca st' s' T r dead off hm => ?_
  obtain ⟨m, hm⟩ := hm
  show wpAny _ A (PySem.assign (.Name y py) env (.ref D)) _ _ _
  have I' := I.step T
  have no := I.new_off dead
  refine wpAny_assign_Name (hy.store I' r fun s'' I'' m'' => ?_)
  have keepCa : ∀ o, s'.heap.get? Ca = some o → s''.heap.get? Ca = some o := fun o e => m''.keep Ca o no.1 (fun x hx => no.2.1 x Ca hx rfl) no.2.2 e
  refine ⟨m, hm.at' keepCa, fun h' hs' => ?_⟩
  refine fin.next _ st' _ hP (I''.but (tk := s''.toks) off no.1 no.2.1 no.2.2 fun b o hb e => hs'.extBut b o hb e) ((T.mod.trans m'').but dead fun b o hb e => hs'.extBut b o hb e)
end

/-- a def of the program: called with these, it gives this -/
def Fn (C : Cx) (k : Nat) (x : Str) (ps : List PV) (p : PV) : Prop := ∀ a, C.mg x = some (.ref a) → Bi C k (.ref a) ps p

section
variable {C : Cx} {k : Nat} {env : Env} {F : Fm} {P : Out → Prop}

theorem Ev.callF (N : FnEnv env) {x : Str} {np pos : Pos} {e : Expr} {es : List Expr} {ps : List PV} {p : PV} {d : DefRec} (hd : (recsOf C.q).find? (fun d => d.name == x) = some d) (hf : Fn C k x ps p) (h : Evs C k env F (e :: es) ps)
    (hx : env.kindOf x = some .globalImplicit := by rfl) (hfl : Flat (e :: es) env pos := by exact flat_of (by rfl)) (hn : (x == ("__debug__" : Str)) = false := by decide) : Ev C k env F (.Call (.Name x np) (e :: es) [] pos) p := fun st s I A Q R hQ => by
  show wpAny C.M A (do callWith pos (← eval (.Name x np) env) [] (backTo pos (starEach (e :: es) env)) (backToKw pos (keywordEach [] env))) Q _ s
  have hdn : d.name = x := beq_iff_eq.mp (List.find?_some (p := fun d : DefRec => d.name == x) hd)
  have hdm := List.mem_of_find?_eq_some hd
  obtain ⟨a, o, pm, code, doc, hg, _⟩ := I.on.top.fn d hdm
  rw [hdn] at hg
  refine wpAny_bind (Name_function_global N.kind hx (loadGlobal_global (N.glob ▸ I.on.top.g) hg ?_) hn)
  rw [hfl]
  have key : ∀ vs st' s', Reps st' vs ps → Then st s st' s' → ∃ o fd, (s'.heap.get? a = some o ∧ o.data = .func fd) ∧ wpAny C.M A (call (.ref a) vs) Q (fun _ _ => False) s' := fun vs st' s' hvs t => by
    obtain ⟨a', o', pm', code', doc', hg', ho', hdat', _⟩ := (I.step t).on.top.fn d hdm
    rw [hdn, hg] at hg'
    cases hg'
    exact ⟨o', _, ⟨ho', hdat'⟩, (hf a hg st' s' vs (I.ok.step t) hvs).of t R hQ⟩
  obtain ⟨o₀, fd₀, ho₀, hfd₀⟩ : ∃ o fd, s.heap.get? a = some o ∧ o.data = .func fd := by
    obtain ⟨a', o', pm', code', doc', hg', ho', hdat', _⟩ := I.on.top.fn d hdm
    rw [hdn, hg] at hg'
    cases hg'
    exact ⟨o', _, ho', hdat'⟩
  refine callWith_function (o := o₀) (fd := fd₀) (evalArgs_plain (h.wp I R rfl fun vs st' s' hvs t => ⟨⟨t.keep _ _ ho₀, hfd₀⟩, ?_⟩))
  obtain ⟨_, _, _, hw⟩ := key vs st' s' hvs t
  exact hw

/-- the names' data at the entry -/
def entry (names : List Str) (ps : List PV) : Fm where
  m := fun x => (names.zip ps).lookup x
  ow := fun _ => none

theorem bind_get {kindOf : Str → Option NameKind} : ∀ (binds : List (Str × Value)) (m : Str → Option Value) (x : Str), (kindOf x = some .local → bindL kindOf binds m x = ((binds.reverse.lookup x).or (m x))) ∧ (kindOf x ≠ some .local → bindC kindOf binds m x = ((binds.reverse.lookup x).or (m x)))
  | [], m, x => ⟨fun _ => rfl, fun _ => rfl⟩
  | (n, v) :: r, m, x => by
    have hl : ∀ y, (((n, v) :: r).reverse.lookup y).or (m y) = ((r.reverse.lookup y).or (if y = n then some v else m y)) := fun y => by
      rw [List.reverse_cons, List.lookup_append]
      cases r.reverse.lookup y with
      | some z => rfl
      | none =>
        by_cases q : y = n
        · subst q; simp
        · have : (y == n) = false := beq_eq_false_iff_ne.mpr q
          simp [List.lookup_cons, this, q]
    constructor
    · intro hk
      rw [bindL, (bind_get r _ x).1 hk, hl]
      congr 1
      by_cases q : x = n
      · subst q; simp [hk]
      · split <;> simp [q]
    · intro hk
      rw [bindC, (bind_get r _ x).2 hk, hl]
      congr 1
      by_cases q : x = n
      · subst q; simp [hk]
      · split <;> simp [q]

theorem lookup_zip {st : St} {x : Str} {p : PV} : ∀ {names : List Str} {vs : List Value} {ps : List PV}, Reps st vs ps → (names.zip ps).lookup x = some p → ∃ v, (names.zip vs).lookup x = some v ∧ Rep st v p
  | [], _, _, _, h => by simp at h
  | n :: ns, [], [], _, h => by simp at h
  | n :: ns, v :: vs, q :: qs, .cons r rs, h => by
    rw [List.zip_cons_cons, List.lookup_cons] at h ⊢
    cases hb : x == n with
    | true => rw [hb] at h; cases h; exact ⟨v, rfl, r⟩
    | false => rw [hb] at h; exact lookup_zip rs h
theorem lookup_rev {x : Str} {v : Value} : ∀ {l : List (Str × Value)}, (l.map (·.1)).Nodup → l.lookup x = some v → l.reverse.lookup x = some v
  | (n, u) :: r, hn, h => by
    rw [List.map_cons, List.nodup_cons] at hn
    rw [List.reverse_cons, List.lookup_append]
    rw [List.lookup_cons] at h
    cases hb : x == n with
    | true =>
      rw [hb] at h; cases h
      have hx : x = n := beq_iff_eq.mp hb
      have : r.reverse.lookup x = none := by
        cases q : r.reverse.lookup x with
        | none => rfl
        | some z =>
          have := PySem.mem_of_lookup q
          exact absurd (List.mem_map.mpr ⟨(x, z), List.mem_reverse.mp this, rfl⟩) (hx ▸ hn.1)
      rw [this]; simp [hx]
    | false =>
      rw [hb] at h
      rw [lookup_rev hn.2 h]; rfl

/-- a def by its body -/
theorem Fn.of {x : Str} {d : DefRec} {ps : List PV} {p : PV} (hd : (recsOf C.q).find? (fun d => d.name == x) = some d) (hps : ps.length = d.params.args.length)
    (hbind : ∀ (pm cd doc : Value) (vs : List Value), vs.length = d.params.args.length → bindArgs (docDef d.name d.params d.body d.scope pm cd doc) ⟨vs, []⟩ = pure ((d.params.args.map (·.arg)).zip vs))
    (hnd : (d.params.args.map (·.arg)).Nodup)
    (hkind : ∀ n ∈ d.params.args.map (·.arg), ∀ L, d.scope.names.lookup n = some .local ∨ (d.scope.names.lookup n = some .cell ∧ ((cellsFrom (L + 1) d.scope.names []).lookup n).isSome = true))
    (hk : d.scope.kind = .function) (hco : d.scope.isCoroutine = false) (hgen : d.scope.isGenerator = false)
    (h : ∀ L a cd, FnEnv (envOfC d.name d.scope L a cd) → Exs C k (envOfC d.name d.scope L a cd) (entry (d.params.args.map (·.arg)) ps) d.body fun o => o = .ret p) : Fn C (k + 1) x ps p := fun a hg st s vs O hvs A Q R hQ => by
  have hdn : d.name = x := beq_iff_eq.mp (List.find?_some (p := fun d : DefRec => d.name == x) hd)
  have hdm := List.mem_of_find?_eq_some hd
  obtain ⟨a', o, pm, code, doc, hg', ho, hdat, hrec⟩ := O.on.top.fn d hdm
  rw [hdn, hg] at hg'
  cases hg'
  have hvl : vs.length = d.params.args.length := hvs.length.trans hps
  have hzl : ((d.params.args.map (·.arg)).zip vs).map (·.1) = d.params.args.map (·.arg) := List.map_fst_zip (by rw [List.length_map, hvl]; exact Nat.le_refl _)
  refine wpAny_call (call_cells_ret (binds := (d.params.args.map (·.arg)).zip vs) ?_ ho hdat O.on.top.nolimit hrec (hbind pm code doc vs hvl) (fun y hy => hkind y.1 (by rw [← hzl]; exact List.mem_map.mpr ⟨y, hy, rfl⟩) _) (fun h₁ tk Fr Cl => ?_) hco hgen hk)
  · have := R.depth
    show A.depth < 1000
    omega
  · generalize hL : s.heap.objs.size = L at *
    have hB : FnEnv (envOfC d.name d.scope L a code) := ⟨hk, rfl, rfl⟩
    have off : ∀ b, L ≤ b → st b = none := fun b hb => none_of O.sub (free_ge (by rw [hL]; exact hb))
    have I : Inv C st (envOfC d.name d.scope L a code) (entry (d.params.args.map (·.arg)) ps) { s with heap := h₁, toks := tk } := by
      refine ⟨fun b o e => Fr.keep b o (O.sub b o e), O.good, off L (Nat.le_refl _), fun y c hc => ?_, fun y z c h1 h2 => ?_, ⟨_, Fr.ns, fun y q hy hq => ?_⟩, fun y q hy hq => ?_, fun y c hc => ⟨_, Cl.cell y c hc⟩, fun a ps h => (nomatch h), O.gens⟩
      · have hlt := Cl.above y c (PySem.mem_of_lookup hc)
        exact ⟨off c (Nat.le_of_lt hlt), Nat.ne_of_gt hlt⟩
      · exact name_of_addr Cl.apart (PySem.mem_of_lookup h1) (PySem.mem_of_lookup h2)
      · obtain ⟨v, h1, h2⟩ := lookup_zip hvs hq
        refine ⟨v, ?_, h2⟩
        rw [(bind_get _ _ y).1 hy, lookup_rev (by rw [hzl]; exact hnd) h1]; rfl
      · obtain ⟨v, h1, h2⟩ := lookup_zip hvs hq
        have hy' : (envOfC d.name d.scope L a code).kindOf y ≠ some .local := by rcases hy with h | h <;> rw [h] <;> decide
        have hm : y ∈ d.params.args.map (·.arg) := by rw [← hzl]; exact List.mem_map.mpr ⟨_, PySem.mem_of_lookup h1, rfl⟩
        rcases hkind y hm L with hl | ⟨hc, hs⟩
        · exact absurd hl hy'
        · obtain ⟨c, hc'⟩ := Option.isSome_iff_exists.mp hs
          refine ⟨c, v, hc', ?_, h2⟩
          have := Cl.cell y c hc'
          rw [(bind_get _ _ y).2 hy', lookup_rev (by rw [hzl]; exact hnd) h1] at this
          exact this
    refine h L a code hB _ st _ _ (R.deeper _) I ⟨fun F' st' s' hp => (nomatch hp), fun p' v st' s' hp hv ok m => ?_⟩
    cases hp
    have same : Same s s' := Same.trans ⟨_, _, rfl⟩ m.same
    refine hQ v st' s' hv ⟨m.le, ok.sub, fun b o e => ?_, fun b o e => ?_, same⟩
    · rcases m.fresh b o e with h | h | h
      · exact .inl h
      · right
        cases q : s.heap.get? b with
        | none => rfl
        | some o' => have h : h₁.get? b = none := h
                     rw [Fr.keep _ _ q] at h; cases h
      · exact absurd rfl h
    · have hb := alive_lt e
      rw [hL] at hb
      refine m.keep b o (Nat.ne_of_lt hb) (fun y hy => ?_) rfl (Fr.keep b o e)
      have := Cl.above y b (PySem.mem_of_lookup hy)
      exact Nat.lt_irrefl _ (Nat.lt_trans hb this)
end
end Mine
end

section
open PySem PySem.W PyProof.Rows PySem.Calls
set_option linter.all false
set_option maxRecDepth 100000
namespace Mine
abbrev RM := Sre.M

theorem step_done {m : RM} (h : m.outcome.isSome = true) : m.step = m := by unfold Sre.M.step; rw [if_pos h]
theorem runFor_done {m : RM} (h : m.outcome.isSome = true) : ∀ n, m.runFor n = m
  | 0 => rfl
  | n + 1 => by unfold Sre.M.runFor; rw [if_pos h]
theorem runFor_succ (m : RM) (n : Nat) : m.runFor (n + 1) = m.step.runFor n := by
  cases h : m.outcome.isSome with
  | true => rw [runFor_done h, step_done h, runFor_done h]
  | false => conv => lhs; unfold Sre.M.runFor
             rw [if_neg (by rw [h]; exact Bool.false_ne_true)]
theorem runFor_add : ∀ (a b : Nat) (m : RM), m.runFor (a + b) = (m.runFor a).runFor b
  | 0, b, m => by rw [Nat.zero_add]; rfl
  | a + 1, b, m => by rw [Nat.succ_add, runFor_succ, runFor_succ, runFor_add a b]

theorem drive {M₀ : Model} {A : Around} {E : Value → Shared → Prop} {s : Shared} {Q : RM → Shared → Prop} : ∀ (t j : Nat) (m : RM), j < t → (m.runFor (4 * j)).outcome.isSome = true → Q (m.runFor (4 * j)) s → wpAny M₀ A (Builtin.Re.reDrive t m) Q E s
  | 0, j, m, h, _, _ => absurd h (Nat.not_lt_zero _)
  | t + 1, j, m, hj, ho, hq => by
    unfold Builtin.Re.reDrive
    show wpAny M₀ A (if (m.runFor 4).outcome.isSome = true then pure (m.runFor 4) else do rule "sre.turn"; Builtin.Re.reDrive t (m.runFor 4)) Q E s
    cases j with
    | zero =>
      have ho : m.outcome.isSome = true := ho
      rw [runFor_done ho, if_pos ho]
      exact wpAny_pure hq
    | succ j =>
      have e : m.runFor (4 * (j + 1)) = (m.runFor 4).runFor (4 * j) := by rw [← runFor_add]; congr 1; omega
      rw [e] at ho hq
      by_cases h : (m.runFor 4).outcome.isSome = true
      · rw [if_pos h]
        rw [runFor_done h] at hq
        exact wpAny_pure hq
      · rw [if_neg h]
        exact wpAny_bind (wpAny_rule (drive t j _ (by omega) ho hq))

/-- it comes to this end within so many steps -/
def Ends (m : RM) (n : Nat) (o : Sre.Outcome) (P : RM → Prop) : Prop := ∃ m', m.runFor n = m' ∧ m'.outcome = some o ∧ P m'
theorem Ends.step {m m₁ : RM} {n : Nat} {o : Sre.Outcome} {P : RM → Prop} (e : m.step = m₁) (h : Ends m₁ n o P) : Ends m (n + 1) o P := by
  obtain ⟨m', h1, h2⟩ := h
  exact ⟨m', by rw [runFor_succ, e, h1], h2⟩
theorem Ends.mono {m : RM} {n k : Nat} {o : Sre.Outcome} {P : RM → Prop} (h : Ends m n o P) (hk : n ≤ k) : Ends m k o P := by
  obtain ⟨m', h1, h2, h3⟩ := h
  refine ⟨m', ?_, h2, h3⟩
  obtain ⟨d, rfl⟩ := Nat.le.dest hk
  rw [runFor_add, h1, runFor_done (by rw [h2]; rfl)]

theorem runToEnd {M₀ : Model} {A : Around} {E : Value → Shared → Prop} {s : Shared} {Q : Option RM → Shared → Prop} {m : RM} {n : Nat} {o : Sre.Outcome} {P : RM → Prop} (h : Ends m n o P) (hn : n < 2 ^ 64)
    (hq : match o with | .matched => ∀ m', P m' → Q (some m') s | .failed => Q none s | .stuck _ => False) : wpAny M₀ A (Builtin.Re.reRunToEnd m) Q E s := by
  obtain ⟨m', h1, h2, h3⟩ := h.mono (k := 4 * n) (by omega)
  unfold Builtin.Re.reRunToEnd
  refine wpAny_bind (drive (2 ^ 64) n m hn (by rw [h1, h2]; rfl) ?_)
  rw [h1]
  refine wpAny_bind (wpAny_forIn_list _ (fun _ _ s' => s' = s) _ (fun x rest b s' hs => ?_) (fun b s' hs => ?_) _ _ rfl)
  · subst hs
    split
    · exact wpAny_bind (wpAny_rule (wpAny_pure rfl))
    · exact wpAny_pure rfl
  · subst hs
    rw [h2]
    cases o with
    | matched => exact wpAny_pure (hq m' h3)
    | failed => exact wpAny_pure hq
    | stuck w => exact hq.elim
end Mine
end

section
open PySem PySem.W PyProof.Rows PySem.Calls
set_option linter.all false
set_option maxRecDepth 100000
namespace Mine
theorem plain_re : PlainAttrs "re.Pattern" :=
  ⟨⟨"object.__getattribute__", by rw [typeLookup_type, builtinLookup_eq_fast]; kernel_rfl, by decide +kernel⟩, by rw [typeLookup_type, builtinLookup_eq_fast]; kernel_rfl⟩
theorem slot_re_sub : Slot "re.Pattern" "sub" "re.Pattern.sub" :=
  .of (owner := "re.Pattern") (n := "sub") (by rw [typeLookup_type, builtinLookup_eq_fast]; kernel_rfl) (by decide +kernel) (by decide +kernel) (by decide +kernel)
    (by first | exact .inl (by decide +kernel) | exact .inr (by decide +kernel)) (by rw [isSubtype_type]; kernel_rfl)
theorem type_re_sub : typeOf (.builtin "re.Pattern.sub") = pure (.type "method_descriptor") := by show builtinType _ = _; rw [builtinType_eq_fast]; kernel_rfl
theorem entry_re_sub : entryFor table "re.Pattern.sub" = some Builtin.«re.Pattern.sub» := entryFor_of_tree (by kernel_rfl)
theorem entry_re_loop : entryFor table "re.Pattern.sub.loop" = some Builtin.«re.Pattern.sub.loop» := entryFor_of_tree (by kernel_rfl)
end Mine
end

section
open PySem PySem.W PyProof.Rows PySem.Calls
set_option linter.all false
set_option maxRecDepth 100000
namespace Mine
abbrev RSeen := Sre.Seen

def code1 : Array Nat := #[14, 4, 0, 1, 1, 6, 1, 16, 46, 1]
def code2 : Array Nat := #[14, 9, 4, 1, 2, 16, 10, 16, 13, 0, 7, 7, 16, 13, 16, 10, 15, 18, 5, 16, 10, 15, 13, 11, 16, 13, 5, 5, 0, 16, 10, 1, 15, 2, 0, 1]

/-- the machine of the first pattern at a start -/
def fr1 (s : Nat) (first : Bool) : Sre.Frame := { wait := .nextStart, pc := 5, pos := s, outermost := first }
def at1 (text : Array Nat) (lim last : Nat) (must : Bool) (s : Nat) (first : Bool) (pc pos handed : Nat) (seen : RSeen) (st0 : Nat) : RM :=
  { code := code1, text, lim, start := st0, lastStart := last, wholeText := false, mustAdvance := must, pc, pos, handed, outermost := first, marks := #[], lastmark := -1, lastindex := -1, loops := #[], inner := none, frames := [fr1 s first], weight := 1, answer := none, seen, outcome := none }

section
variable {text : Array Nat} {lim last : Nat} {must first : Bool} {s handed : Nat} {seen : RSeen}

theorem s1_at : (at1 text lim last must s first 5 s s seen s).step = if (s == 0 || text.getD (s - 1) 0 == 10) = true then at1 text lim last must s first 7 s s ((seen.add 6).add 44) s
    else { at1 text lim last must s first 5 s s ((seen.add 6).add 44) s with answer := some false } := rfl
theorem s1_lit (h : s < lim) : (at1 text lim last must s first 7 s s seen s).step = if (text.getD s 0 == 46) = true then at1 text lim last must s first 9 (s + 1) s (seen.add 16) s
    else { at1 text lim last must s first 7 s s (seen.add 16) s with answer := some false } := by
  have e : (at1 text lim last must s first 7 s s seen s).step = if s ≥ lim then Sre.M.say { at1 text lim last must s first 7 s s seen s with seen := seen.add 16 } false else
    match (Except.ok (text.getD s 0 == 46, seen.add 16) : Except String (Bool × RSeen)) with
    | .error why => Sre.M.stick { at1 text lim last must s first 7 s s seen s with seen := seen.add 16 } why
    | .ok (false, seen') => Sre.M.say { at1 text lim last must s first 7 s s seen s with seen := seen' } false
    | .ok (true, seen') => { at1 text lim last must s first 7 s s seen s with seen := seen', pc := 9, pos := s + 1 } := rfl
  rw [e, if_neg (by omega)]
  cases text.getD s 0 == 46 <;> rfl
theorem s1_end (h : s ≥ lim) : (at1 text lim last must s first 7 s s seen s).step = { at1 text lim last must s first 7 s s (seen.add 16) s with answer := some false } := by
  have e : (at1 text lim last must s first 7 s s seen s).step = if s ≥ lim then Sre.M.say { at1 text lim last must s first 7 s s seen s with seen := seen.add 16 } false else
    match (Except.ok (text.getD s 0 == 46, seen.add 16) : Except String (Bool × RSeen)) with
    | .error why => Sre.M.stick { at1 text lim last must s first 7 s s seen s with seen := seen.add 16 } why
    | .ok (false, seen') => Sre.M.say { at1 text lim last must s first 7 s s seen s with seen := seen' } false
    | .ok (true, seen') => { at1 text lim last must s first 7 s s seen s with seen := seen', pc := 9, pos := s + 1 } := rfl
  rw [e, if_pos h]; rfl
theorem s1_ok : (at1 text lim last must s first 9 (s + 1) s seen s).step = { at1 text lim last must s first 9 (s + 1) (s + 1) (seen.add 1) s with answer := some true } := by
  have e : (at1 text lim last must s first 9 (s + 1) s seen s).step = if (first && ((false && s + 1 != lim) || (must && s + 1 == s))) = true then Sre.M.say { at1 text lim last must s first 9 (s + 1) s seen s with seen := seen.add 1 } false
      else { at1 text lim last must s first 9 (s + 1) s seen s with seen := seen.add 1, handed := s + 1, answer := some true } := rfl
  rw [e, if_neg (by simp)]; rfl
theorem s1_no {pc pos handed : Nat} : ({ at1 text lim last must s first pc pos handed seen s with answer := some false } : RM).step =
    if s < last then at1 text lim last false (s + 1) false 5 (s + 1) (s + 1) seen (s + 1)
    else { at1 text lim last must s first 5 s handed seen s with answer := some false, frames := [], weight := 0 } := rfl
theorem s1_yes {pc pos handed : Nat} : ({ at1 text lim last must s first pc pos handed seen s with answer := some true } : RM).step =
    { at1 text lim last must s first 5 s handed seen s with answer := some true, frames := [], weight := 0 } := rfl
theorem s1_out {pc pos handed : Nat} {b : Bool} : ({ at1 text lim last must s first pc pos handed seen s with answer := some b, frames := [], weight := 0 } : RM).step =
    { at1 text lim last must s first pc pos handed seen s with answer := some b, frames := [], weight := 0, outcome := some (if b then .matched else .failed) } := rfl
end

/-- a dot at the head of a line -/
def dotAt (text : Array Nat) (i : Nat) : Bool := (i == 0 || text.getD (i - 1) 0 == 10) && decide (i < text.size) && text.getD i 0 == 46

theorem no1 {text : Array Nat} {must first : Bool} {s : Nat} {seen : RSeen} {n : Nat} {o : Sre.Outcome} {P : RM → Prop} (h : dotAt text s = false) (hs : s < text.size)
    (k : ∀ seen, Ends (at1 text text.size text.size false (s + 1) false 5 (s + 1) (s + 1) seen (s + 1)) n o P) : Ends (at1 text text.size text.size must s first 5 s s seen s) (n + 3) o P := by
  by_cases h1 : (s == 0 || text.getD (s - 1) 0 == 10) = true
  · refine Ends.step (s1_at.trans (if_pos h1)) (Ends.step ((s1_lit hs).trans (if_neg ?_)) (Ends.step (s1_no.trans (if_pos hs)) (k _)))
    unfold dotAt at h
    rw [h1, decide_eq_true hs] at h
    simpa using h
  · exact (Ends.step (s1_at.trans (if_neg h1)) (Ends.step (s1_no.trans (if_pos hs)) (k _))).mono (by omega)
theorem last1 {text : Array Nat} {must first : Bool} {seen : RSeen} : Ends (at1 text text.size text.size must text.size first 5 text.size text.size seen text.size) 4 .failed (fun _ => True) := by
  by_cases h1 : (text.size == 0 || text.getD (text.size - 1) 0 == 10) = true
  · exact Ends.step (s1_at.trans (if_pos h1)) (Ends.step (s1_end (Nat.le_refl _)) (Ends.step (s1_no.trans (if_neg (Nat.lt_irrefl _))) (Ends.step s1_out ⟨_, rfl, rfl, trivial⟩)))
  · exact (Ends.step (s1_at.trans (if_neg h1)) (Ends.step (s1_no.trans (if_neg (Nat.lt_irrefl _))) (Ends.step s1_out ⟨_, rfl, rfl, trivial⟩))).mono (n := 3) (k := 4) (by omega)
theorem yes1 {text : Array Nat} {must first : Bool} {s : Nat} {seen : RSeen} (h : dotAt text s = true) : Ends (at1 text text.size text.size must s first 5 s s seen s) 5 .matched (fun m => m.start = s ∧ m.handed = s + 1) := by
  unfold dotAt at h
  simp only [Bool.and_eq_true, decide_eq_true_eq] at h
  obtain ⟨⟨h1, hs⟩, h2⟩ := h
  exact Ends.step (s1_at.trans (if_pos h1)) (Ends.step ((s1_lit hs).trans (if_pos h2)) (Ends.step s1_ok (Ends.step s1_yes (Ends.step s1_out ⟨_, rfl, rfl, rfl, rfl⟩))))

/-- from a start to the first dot -/
theorem run1_yes {text : Array Nat} : ∀ (d s : Nat) {must first : Bool} {seen : RSeen}, (∀ i, s ≤ i → i < s + d → dotAt text i = false) → dotAt text (s + d) = true →
    Ends (at1 text text.size text.size must s first 5 s s seen s) (3 * d + 5) .matched (fun m => m.start = s + d ∧ m.handed = s + d + 1)
  | 0, s, must, first, seen, _, h => (yes1 h).mono (by omega)
  | d + 1, s, must, first, seen, hn, h => by
    have hlt : s + (d + 1) < text.size := by
      unfold dotAt at h; simp only [Bool.and_eq_true, decide_eq_true_eq] at h; exact h.1.2
    have e : s + (d + 1) = s + 1 + d := by omega
    rw [e] at h ⊢
    refine (no1 (hn s (Nat.le_refl _) (by omega)) (by omega) fun seen => run1_yes d (s + 1) (fun i h1 h2 => hn i (by omega) (by omega)) h).mono (by omega)
theorem run1_no {text : Array Nat} : ∀ (d s : Nat) {must first : Bool} {seen : RSeen}, s + d = text.size → (∀ i, s ≤ i → i < text.size → dotAt text i = false) →
    Ends (at1 text text.size text.size must s first 5 s s seen s) (3 * d + 4) .failed (fun _ => True)
  | 0, s, must, first, seen, he, _ => by
    have : s = text.size := by omega
    subst this; exact last1.mono (by omega)
  | d + 1, s, must, first, seen, he, hn => (no1 (hn s (Nat.le_refl _) (by omega)) (by omega) fun seen => run1_no d (s + 1) (by omega) fun i h1 h2 => hn i (by omega) h2).mono (by omega)

theorem search1 (text : Array Nat) (s : Nat) (must : Bool) (hs : s < text.size) : ∃ seen, Sre.forSearch code1 text 0 s text.size must = at1 text text.size text.size must s true 5 s s seen s := by
  refine ⟨({} : RSeen).add 14, ?_⟩
  have e : Sre.forSearch code1 text 0 s text.size must = if (decide (s > text.size) || decide (text.size - s < 1)) = true then
      Sre.M.say { code := code1, text, lim := text.size, start := s, pc := 5, pos := s, handed := s, marks := #[], mustAdvance := must, seen := ({} : RSeen).add 14 } false
      else at1 text text.size text.size must s true 5 s s (({} : RSeen).add 14) s := by
    unfold Sre.forSearch
    rfl
  rw [e, if_neg (by simp; omega)]
theorem search1_end (text : Array Nat) (s : Nat) (must : Bool) (hs : text.size ≤ s) : Ends (Sre.forSearch code1 text 0 s text.size must) 1 .failed (fun _ => True) := by
  have e : Sre.forSearch code1 text 0 s text.size must = if (decide (s > text.size) || decide (text.size - s < 1)) = true then
      Sre.M.say { code := code1, text, lim := text.size, start := s, pc := 5, pos := s, handed := s, marks := #[], mustAdvance := must, seen := ({} : RSeen).add 14 } false
      else at1 text text.size text.size must s true 5 s s (({} : RSeen).add 14) s := by
    unfold Sre.forSearch
    rfl
  rw [e, if_pos (by simp; omega)]
  exact ⟨_, rfl, rfl, trivial⟩
end Mine
end

section
open PySem PySem.W PyProof.Rows PySem.Calls
set_option linter.all false
set_option maxRecDepth 100000
namespace Mine

def m2 (text : Array Nat) (last : Nat) (s : Nat) (out : Bool) (pc pos handed : Nat) (frames : List Sre.Frame) (weight : Nat) (ans : Option Bool) (seen : RSeen) : RM :=
  { code := code2, text, lim := text.size, start := s, lastStart := last, wholeText := false, mustAdvance := false, pc, pos, handed, outermost := out, marks := #[], lastmark := -1, lastindex := -1, loops := #[], inner := none, frames, weight, answer := ans, seen, outcome := none }
def f0 (s : Nat) (first : Bool) : Sre.Frame := { wait := .nextStart, pc := 10, pos := s, outermost := first }
def fb (pc s : Nat) (first : Bool) : Sre.Frame := { wait := .nextBranch, pc, pos := s, outermost := first, kept := { lastmark := -1, lastindex := -1, whole := false, marks := #[] } }
def fl (s : Nat) (first : Bool) : Sre.Frame := { wait := .lookNot, pc := 26, pos := s, outermost := first, kept := { lastmark := -1, lastindex := -1, whole := false, marks := #[] } }

section
variable {text : Array Nat} {last s handed : Nat} {first out : Bool} {seen : RSeen} {fs : List Sre.Frame} {w : Nat}

theorem t_branch (seen : RSeen) : (m2 text last s first 10 s s [f0 s first] 1 none seen).step = m2 text last s first 12 s s [fb 11 s first, f0 s first] 2 none (seen.add 7) := rfl
theorem t_lit (pc c : Nat) (hc : code2[pc]? = some 16) (hc' : code2[pc + 1]? = some c) {pos : Nat} : (m2 text last s out pc pos handed fs w none seen).step =
    if pos ≥ text.size then m2 text last s out pc pos handed fs w (some false) (seen.add 16)
    else if (text.getD pos 0 == c) = true then m2 text last s out (pc + 2) (pos + 1) handed fs w none (seen.add 16) else m2 text last s out pc pos handed fs w (some false) (seen.add 16) := by
  have hlt : pc < 36 := by
    have := (Array.getElem?_eq_some_iff.mp hc).1
    exact this
  have g : code2.getD pc 0 = 16 := by rw [Array.getD_eq_getD_getElem?, hc]; rfl
  have g' : code2.getD (pc + 1) 0 = c := by rw [Array.getD_eq_getD_getElem?, hc']; rfl
  unfold Sre.M.step
  show (if (none : Option Sre.Outcome).isSome = true then _ else if pc < 36 then Sre.M.exec (m2 text last s out pc pos handed fs w none seen) else _) = _
  rw [if_neg (by simp), if_pos hlt]
  unfold Sre.M.exec
  have g0 : (m2 text last s out pc pos handed fs w none seen).word 0 = 16 := g
  rw [g0]
  show (if pos ≥ text.size then _ else match Sre.accepts code2 pc (text.getD pos 0) (seen.add 16) with | .error why => _ | .ok (false, seen') => _ | .ok (true, seen') => _) = _
  have ha : Sre.accepts code2 pc (text.getD pos 0) (seen.add 16) = .ok (text.getD pos 0 == c, seen.add 16) := by
    unfold Sre.accepts
    rw [g, g']
    rfl
  rw [ha]
  split
  · rfl
  · cases text.getD pos 0 == c with
    | false => rfl
    | true =>
      simp only [if_true]
      have hw : Sre.itemWidth code2 pc = 2 := by unfold Sre.itemWidth; rw [g]; rfl
      show ({ m2 text last s out pc pos handed fs w none (seen.add 16) with seen := seen.add 16, pc := pc + Sre.itemWidth code2 pc, pos := pos + 1 } : RM) = _
      rw [hw]; rfl
theorem t_jump (pc d : Nat) (hc : code2[pc]? = some 15) (hc' : code2[pc + 1]? = some d) {pos : Nat} : (m2 text last s out pc pos handed fs w none seen).step = m2 text last s out (pc + 1 + d) pos handed fs w none (seen.add 15) := by
  have hlt : pc < 36 := (Array.getElem?_eq_some_iff.mp hc).1
  have g : code2.getD pc 0 = 15 := by rw [Array.getD_eq_getD_getElem?, hc]; rfl
  have g' : code2.getD (pc + 1) 0 = d := by rw [Array.getD_eq_getD_getElem?, hc']; rfl
  unfold Sre.M.step
  show (if (none : Option Sre.Outcome).isSome = true then _ else if pc < 36 then Sre.M.exec (m2 text last s out pc pos handed fs w none seen) else _) = _
  rw [if_neg (by simp), if_pos hlt]
  unfold Sre.M.exec
  have g0 : (m2 text last s out pc pos handed fs w none seen).word 0 = 15 := g
  rw [g0]
  show ({ m2 text last s out pc pos handed fs w none (seen.add 15) with pc := pc + 1 + code2.getD (pc + 1) 0 } : RM) = _
  rw [g']; rfl
theorem t_succ (pc : Nat) (hc : pc = 35 ∨ pc = 31) {pos : Nat} : (m2 text last s out pc pos handed fs w none seen).step = m2 text last s out pc pos pos fs w (some true) (seen.add 1) := by
  have e : ∀ pc, pc = 35 ∨ pc = 31 → (m2 text last s out pc pos handed fs w none seen).step = if (out && ((false && pos != text.size) || (false && pos == s))) = true then Sre.M.say (m2 text last s out pc pos handed fs w none (seen.add 1)) false else m2 text last s out pc pos pos fs w (some true) (seen.add 1) := by
    rintro pc (rfl | rfl) <;> rfl
  rw [e pc hc, if_neg (by simp)]
theorem t_alt1 {pc pos out' : _} {w : Nat} : (m2 text last s out' pc pos handed [fb 11 s first, f0 s first] 2 (some false) seen).step = m2 text last s first 19 s s [fb 18 s first, f0 s first] 2 none seen := rfl
theorem t_alt2 {pc pos out' : _} {w : Nat} : (m2 text last s out' pc pos handed [fb 18 s first, f0 s first] 2 (some false) seen).step = m2 text last s first 24 s s [fb 23 s first, f0 s first] 2 none seen := rfl
theorem t_yes {pc pos bpc out' : _} : (m2 text last s out' pc pos handed [fb bpc s first, f0 s first] 2 (some true) seen).step = m2 text last s first bpc s handed [f0 s first] 1 (some true) seen := rfl
theorem t_yes0 {pc pos out' : _} : (m2 text last s out' pc pos handed [f0 s first] 1 (some true) seen).step = m2 text last s first 10 s handed [] 0 (some true) seen := rfl
theorem t_out {pc pos out' : _} : (m2 text last s out' pc pos handed [] 0 (some true) seen).step = { m2 text last s out' pc pos handed [] 0 (some true) seen with outcome := some .matched } := rfl
theorem t_look {pos : Nat} : (m2 text last s out 26 pos handed [fb 23 s first, f0 s first] 2 none seen).step = m2 text last s false 29 pos pos [fl pos out, fb 23 s first, f0 s first] 3 none (seen.add 5) := rfl
theorem t_looked {pc pos p out' : _} : (m2 text last s out' pc pos handed [fl p out, fb 23 s first, f0 s first] 3 (some false) seen).step = m2 text last s out 32 p handed [fb 23 s first, f0 s first] 2 none seen := rfl
end

/-- the end of a match, by the length of it -/
theorem tail2 {text : Array Nat} {last s handed : Nat} {first : Bool} {seen : RSeen} {pos bpc : Nat} : Ends (m2 text last s first 35 pos handed [fb bpc s first, f0 s first] 2 none seen) 4 .matched (fun m => m.start = s ∧ m.handed = pos) :=
  Ends.step (t_succ 35 (.inl rfl)) (Ends.step t_yes (Ends.step t_yes0 (Ends.step t_out ⟨_, rfl, rfl, rfl, rfl⟩)))

def endOf (text : Array Nat) (i : Nat) : Nat := if text.getD i 0 == 13 && decide (i + 1 < text.size) && text.getD (i + 1) 0 == 10 then i + 2 else i + 1
theorem run2 {text : Array Nat} {last s : Nat} {first : Bool} {seen : RSeen} (hs : s < text.size) (hc : text.getD s 0 = 10 ∨ text.getD s 0 = 13) :
    Ends (m2 text last s first 10 s s [f0 s first] 1 none seen) 20 .matched (fun m => m.start = s ∧ m.handed = endOf text s) := by
  have nlt : ¬ s ≥ text.size := by omega
  have third : ∀ {handed seen pc pos out}, text.getD s 0 = 13 → ¬ (decide (s + 1 < text.size) && text.getD (s + 1) 0 == 10) = true → Ends (m2 text last s out pc pos handed [fb 18 s first, f0 s first] 2 (some false) seen) 12 .matched (fun m => m.start = s ∧ m.handed = endOf text s) := by
    intro handed seen pc pos out h13 hn
    have he : endOf text s = s + 1 := by
      unfold endOf
      rw [if_neg (by rw [Bool.and_assoc, Bool.and_eq_true]; exact fun h => hn h.2)]
    rw [he]
    refine (Ends.step (t_alt2 (w := 0)) (Ends.step ((t_lit 24 13 rfl rfl).trans ((if_neg nlt).trans (if_pos (by rw [h13]; rfl)))) (Ends.step t_look ?_))).mono (n := 3 + 9) (by omega)
    have tl : ∀ {handed seen}, Ends (m2 text last s first 32 (s + 1) handed [fb 23 s first, f0 s first] 2 none seen) 5 .matched (fun m => m.start = s ∧ m.handed = s + 1) := fun {handed seen} => Ends.step (t_jump 32 2 rfl rfl) tail2
    by_cases hlt : s + 1 < text.size
    · have hne : ¬ (text.getD (s + 1) 0 == 10) = true := fun h => hn (by rw [h, decide_eq_true hlt]; rfl)
      exact (Ends.step ((t_lit 29 10 rfl rfl).trans ((if_neg (by omega)).trans (if_neg hne))) (Ends.step t_looked tl)).mono (by omega)
    · exact (Ends.step ((t_lit 29 10 rfl rfl).trans (if_pos (by omega))) (Ends.step t_looked tl)).mono (by omega)
  rcases hc with h10 | h13
  · have he : endOf text s = s + 1 := by
      unfold endOf
      rw [if_neg (by rw [h10]; simp)]
    rw [he]
    exact (Ends.step (t_branch _) (Ends.step ((t_lit 12 13 rfl rfl).trans ((if_neg nlt).trans (if_neg (by rw [h10]; simp)))) (Ends.step (t_alt1 (w := 0)) (Ends.step ((t_lit 19 10 rfl rfl).trans ((if_neg nlt).trans (if_pos (by rw [h10]; rfl))))
      (Ends.step (t_jump 21 13 rfl rfl) tail2))))).mono (by omega)
  · by_cases hn : (decide (s + 1 < text.size) && text.getD (s + 1) 0 == 10) = true
    · have he : endOf text s = s + 2 := by
        unfold endOf
        rw [if_pos (by rw [Bool.and_assoc, hn, h13]; rfl)]
      rw [he]
      simp only [Bool.and_eq_true, decide_eq_true_eq] at hn
      exact (Ends.step (t_branch _) (Ends.step ((t_lit 12 13 rfl rfl).trans ((if_neg nlt).trans (if_pos (by rw [h13]; rfl)))) (Ends.step ((t_lit 14 10 rfl rfl).trans ((if_neg (by omega)).trans (if_pos hn.2)))
        (Ends.step (t_jump 16 18 rfl rfl) tail2)))).mono (by omega)
    · refine (Ends.step (t_branch _) (Ends.step ((t_lit 12 13 rfl rfl).trans ((if_neg nlt).trans (if_pos (by rw [h13]; rfl)))) (n := 18) ?_)).mono (by omega)
      have st14 : ∀ {handed seen}, (m2 text last s first 14 (s + 1) handed [fb 11 s first, f0 s first] 2 none seen).step = m2 text last s first 14 (s + 1) handed [fb 11 s first, f0 s first] 2 (some false) (seen.add 16) := fun {handed seen} => by
        by_cases hlt : s + 1 < text.size
        · have hne : ¬ (text.getD (s + 1) 0 == 10) = true := fun h => hn (by rw [h, decide_eq_true hlt]; rfl)
          exact (t_lit 14 10 rfl rfl).trans ((if_neg (by omega)).trans (if_neg hne))
        · exact (t_lit 14 10 rfl rfl).trans (if_pos (by omega))
      exact (Ends.step st14 (Ends.step (t_alt1 (w := 0)) (Ends.step ((t_lit 19 10 rfl rfl).trans ((if_neg nlt).trans (if_neg (by rw [h13]; simp)))) (third h13 hn)))).mono (by omega)

def brk (text : Array Nat) (i : Nat) : Bool := decide (i < text.size) && (text.getD i 0 == 10 || text.getD i 0 == 13)

theorem inSet2 (c : Nat) (seen : RSeen) : ∃ seen', Sre.inSet code2 c 36 5 true seen = .ok (c == 10 || c == 13, seen') := by
  have e : Sre.inSet code2 c 36 5 true seen = if (c == 10) = true then .ok (true, seen.add 16) else if (c == 13) = true then .ok (true, (seen.add 16).add 16) else .ok (false, ((seen.add 16).add 16).add 0) := rfl
  rw [e]
  cases c == 10 <;> cases c == 13 <;> exact ⟨_, rfl⟩

theorem admitted2 (m : RM) (hm : m.code = code2) (text : Array Nat) (ht : m.text = text) (hl : m.lim = text.size) : ∀ (fuel s : Nat) (seen : RSeen),
    ((∃ d seen', s + d < text.size ∧ (∀ i, s ≤ i → i < s + d → brk text i = false) ∧ brk text (s + d) = true ∧ d < fuel ∧ Sre.M.admitted m fuel s seen = .ok (some (s + d), seen')) ∨
      (∃ seen', (∀ i, s ≤ i → i < s + fuel → brk text i = false) ∧ Sre.M.admitted m fuel s seen = .ok (none, seen')))
  | 0, s, seen => .inr ⟨seen, fun i h1 h2 => absurd h2 (by omega), rfl⟩
  | fuel + 1, s, seen => by
    have e : Sre.M.admitted m (fuel + 1) s seen = if s ≥ text.size then .ok (none, seen) else
        match Sre.inSet code2 (text.getD s 0) 36 5 true seen with
        | .ok (true, seen) => .ok (some s, seen)
        | .ok (false, seen) => Sre.M.admitted m fuel (s + 1) seen
        | .error why => .error why := by
      conv => lhs; unfold Sre.M.admitted
      rw [hl, hm, ht]; rfl
    rw [e]
    by_cases hs : s ≥ text.size
    · rw [if_pos hs]
      exact .inr ⟨seen, fun i h1 _ => by unfold brk; rw [decide_eq_false (by omega)]; rfl, rfl⟩
    · rw [if_neg hs]
      obtain ⟨seen', h⟩ := inSet2 (text.getD s 0) seen
      rw [h]
      cases hb : (text.getD s 0 == 10 || text.getD s 0 == 13) with
      | true =>
        exact .inl ⟨0, seen', by omega, fun i h1 h2 => absurd h2 (by omega), by unfold brk; rw [Nat.add_zero, hb, decide_eq_true (by omega)]; rfl, by omega, rfl⟩
      | false =>
        have hs' : brk text s = false := by unfold brk; rw [hb]; simp
        rcases admitted2 m hm text ht hl fuel (s + 1) seen' with ⟨d, seen'', h1, h2, h3, h4, h5⟩ | ⟨seen'', h1, h2⟩
        · refine .inl ⟨d + 1, seen'', by omega, fun i g1 g2 => ?_, by rw [show s + (d + 1) = s + 1 + d by omega]; exact h3, by omega, ?_⟩
          · by_cases q : i = s
            · subst q; exact hs'
            · exact h2 i (by omega) (by omega)
          · show Sre.M.admitted m fuel (s + 1) seen' = _
            rw [h5, show s + (d + 1) = s + 1 + d by omega]
        · refine .inr ⟨seen'', fun i g1 g2 => ?_, h2⟩
          by_cases q : i = s
          · subst q; exact hs'
          · exact h1 i (by omega) (by omega)

def base2 (text : Array Nat) (s : Nat) (must : Bool) : RM :=
  { code := code2, text, lim := text.size, start := s, lastStart := text.size, pc := 10, pos := s, handed := s, marks := #[], mustAdvance := must, seen := ({} : RSeen).add 14 }
theorem from2 (text : Array Nat) (s : Nat) (must : Bool) : (base2 text s must).attemptFrom s true = match Sre.M.admitted (base2 text s must) (text.size + 1 - s) s (({} : RSeen).add 14) with
    | .ok (some i, seen) => m2 text text.size i true 10 i i [f0 i true] 1 none seen
    | .ok (none, seen) => { base2 text s must with seen, answer := some false }
    | .error why => (base2 text s must).stick why := by
  unfold Sre.M.attemptFrom
  show (match Sre.M.admitted (base2 text s must) (text.size + 1 - s) s (({} : RSeen).add 14) with
    | .ok (some s, seen) => _
    | .ok (none, seen) => _
    | .error why => _) = _
  split <;> rfl
theorem search2 (text : Array Nat) (s : Nat) (must : Bool) : Sre.forSearch code2 text 0 s text.size must = if (decide (s > text.size) || decide (text.size - s < 1)) = true then
      Sre.M.say { code := code2, text, lim := text.size, start := s, pc := 10, pos := s, handed := s, marks := #[], mustAdvance := must, seen := ({} : RSeen).add 14 } false
      else (base2 text s must).attemptFrom s true := by
  unfold Sre.forSearch
  rfl
theorem run2_yes {text : Array Nat} {d s : Nat} {must : Bool} (hn : ∀ i, s ≤ i → i < s + d → brk text i = false) (hy : brk text (s + d) = true) :
    Ends (Sre.forSearch code2 text 0 s text.size must) 20 .matched (fun m => m.start = s + d ∧ m.handed = endOf text (s + d)) := by
  have hy' := hy
  unfold brk at hy'
  simp only [Bool.and_eq_true, decide_eq_true_eq, Bool.or_eq_true, beq_iff_eq] at hy'
  rw [search2, if_neg (by simp; omega), from2]
  rcases admitted2 (base2 text s must) rfl text rfl rfl (text.size + 1 - s) s (({} : RSeen).add 14) with ⟨d', seen', h1, h2, h3, h4, h5⟩ | ⟨seen', h1, h2⟩
  · rw [h5]
    have hd : d' = d := by
      rcases Nat.lt_trichotomy d' d with q | q | q
      · rw [hn _ (by omega) (by omega)] at h3; cases h3
      · exact q
      · rw [h2 _ (by omega) (by omega)] at hy; cases hy
    subst hd
    exact run2 hy'.1 hy'.2
  · rw [h1 _ (by omega) (by omega)] at hy; cases hy
theorem run2_no {text : Array Nat} {s : Nat} {must : Bool} (hn : ∀ i, s ≤ i → i < text.size → brk text i = false) : Ends (Sre.forSearch code2 text 0 s text.size must) 1 .failed (fun _ => True) := by
  rw [search2]
  split
  · exact ⟨_, rfl, rfl, trivial⟩
  · rw [from2]
    rcases admitted2 (base2 text s must) rfl text rfl rfl (text.size + 1 - s) s (({} : RSeen).add 14) with ⟨d', seen', h1, h2, h3, h4, h5⟩ | ⟨seen', h1, h2⟩
    · rw [hn _ (by omega) h1] at h3; cases h3
    · rw [h2]; exact ⟨_, rfl, rfl, trivial⟩
end Mine
end

section
open PySem PySem.W PyProof.Rows PySem.Calls
set_option linter.all false
set_option maxRecDepth 100000
namespace Mine

theorem plain_re_loop : plainId "re.Pattern.sub.loop" = true := by decide +kernel
theorem str_nocall : typeLookup (.type "str") "__call__" = pure none := by rw [typeLookup_type, builtinLookup_eq_fast]; kernel_rfl
theorem reNamed_2 (r x : Value) : Builtin.Re.reNamed "re.Pattern.sub" "sub" ["repl", "string", "count"] 2 [r, x] [] = pure [some r, some x, none] := by kernel_rfl

/-- a compiled pattern -/
structure PatAt (h : Heap) (pa : Addr) (code : Array Nat) : Prop where
  ex : ∃ o fs ta to vs n, h.get? pa = some o ∧ o.cls = .type "re.Pattern" ∧ o.data = .fields fs ∧ fs.getD 5 .none = .ref ta ∧ fs.getD 6 .none = rawInt 0 ∧ fs.getD 2 .none = rawInt 0 ∧ h.get? ta = some to ∧ to.data = .seq vs n ∧
    (vs.map Builtin.Re.reRawOf).map (·.toNat) = code
  dict : ∀ o, h.get? pa = some o → o.dict = none
theorem PatAt.keeps {h h' : Heap} {pa : Addr} {code : Array Nat} (x : PatAt h pa code) (k : ∀ b o, h.get? b = some o → h'.get? b = some o) : PatAt h' pa code := by
  obtain ⟨⟨o, fs, ta, to, vs, n, h1, h2, h3, h4, h5, h6, h7, h8⟩, hd⟩ := x
  refine ⟨⟨o, fs, ta, to, vs, n, k _ _ h1, h2, h3, h4, h5, h6, k _ _ h7, h8⟩, fun o' ho' => ?_⟩
  rw [k _ _ h1] at ho'; cases ho'; exact hd o h1

section
variable {prog : Program} {w : World} {A : Around} {E : Value → Shared → Prop} {s : Shared}

theorem wpAny_target {pa : Addr} {code : Array Nat} {x : Str} {t : Tok} {Q : Builtin.Re.ReTarget → Shared → Prop} (P : PatAt s.heap pa code)
    (h : Q { pattern := .ref pa, string := .str x t, code, text := x.cps, kind := 0, groups := 0, pos := 0, lim := x.cps.size } s) : wpAny (model prog w) A (Builtin.Re.reWholeTarget (.ref pa) (.str x t)) Q E s := by
  obtain ⟨⟨o, fs, ta, to, vs, n, h1, h2, h3, h4, h5, h6, h7, h8, h9⟩, _⟩ := P
  unfold Builtin.Re.reWholeTarget
  refine wpAny_bind (wpAny_fieldsOf h1 h3 ?_)
  refine wpAny_bind (m := Builtin.Re.reTextOf (.str x t)) (wpAny_pure ?_)
  dsimp only
  rw [h4, h5, h6]
  have e1 : Builtin.Re.reNoCollectionInside (.str x t) 0 = pure () := rfl
  have e2 : ((Builtin.Re.reRawNat (rawInt 0) == 0) && ((0 : Nat) == 1)) = false := rfl
  have e3 : ((Builtin.Re.reRawNat (rawInt 0) == 1) && ((0 : Nat) == 0)) = false := rfl
  rw [e2, e3]
  simp only [Bool.false_eq_true, if_false]
  refine wpAny_bind (wpAny_of_eq e1 (wpAny_bind ?_))
  unfold Builtin.Re.reRawItems
  refine wpAny_bind (wpAny_seqItems h7 h8 (wpAny_pure ?_))
  have e4 : (Array.map (fun x => x.toNat) (Array.map Builtin.Re.reRawOf ((some vs).getD #[]))) = code := h9
  show wpAny _ _ (pure ({ pattern := .ref pa, string := .str x t, code := Array.map (fun x => x.toNat) (Array.map Builtin.Re.reRawOf ((some vs).getD #[])), text := x.cps, kind := 0, groups := Builtin.Re.reRawNat (rawInt 0), pos := 0, lim := x.cps.size } : Builtin.Re.ReTarget)) _ _ _
  rw [e4]
  exact wpAny_pure h

theorem wpAny_reSlice {text : Array Nat} {b e : Nat} {Q : Value → Shared → Prop} (hb : text.size ≤ sizeLine) (h : Q (.str ⟨text.extract b e⟩ s.toks) { s with toks := s.toks + 1 }) : wpAny (model prog w) A (Builtin.Re.reSlice text 0 b e) Q E s := by
  show wpAny _ _ (mkStr ⟨text.extract b e⟩) Q E s
  refine wpAny_mkStr h ?_
  show (text.extract b e).size ≤ sizeLine
  rw [Array.size_extract]; omega
end

/-- the strings of a list -/
def Strs (vs : List Value) (xs : List Str) : Prop := ∃ l : List (Str × Tok), vs = strValues l ∧ l.map (·.1) = xs
theorem Strs.snoc {vs : List Value} {xs : List Str} {x : Str} {t : Tok} : Strs vs xs → Strs (vs ++ [.str x t]) (xs ++ [x])
  | ⟨l, h1, h2⟩ => ⟨l ++ [(x, t)], by subst h1; simp [strValues], by subst h2; simp⟩
theorem Strs.length {vs : List Value} {xs : List Str} : Strs vs xs → vs.length = xs.length
  | ⟨l, h1, h2⟩ => by subst h1 h2; simp [strValues]

/-- the pieces that a substitution lays -/
inductive Pcs (nxt : Nat → Option (Nat × Nat)) (text : Array Nat) (r : Str) : Nat → List Str → Prop
  | none {s} : nxt s = none → Pcs nxt text r s (if s < text.size then [⟨text.extract s text.size⟩] else [])
  | some {s a b ps} : nxt s = some (a, b) → Pcs nxt text r b ps → Pcs nxt text r s ((if s < a then [⟨text.extract s a⟩] else []) ++ r :: ps)

def Finds (code text : Array Nat) (nxt : Nat → Option (Nat × Nat)) : Prop := ∀ s, s ≤ text.size → match nxt s with
  | some (a, b) => s ≤ a ∧ a < b ∧ b ≤ text.size ∧ ∃ n, n < 2 ^ 64 ∧ Ends (Sre.forSearch code text 0 s text.size false) n .matched (fun m => m.start = a ∧ m.handed = b)
  | none => ∃ n, n < 2 ^ 64 ∧ Ends (Sre.forSearch code text 0 s text.size false) n .failed (fun _ => True)

def loopArgs (pa : Addr) (x : Str) (tx : Tok) (r : Str) (tr : Tok) (n : Int) (done : Nat) (D : Addr) : Args :=
  ⟨[.ref pa, .str x tx, .str r tr, rawInt 0, rawInt 0, rawInt n, rawInt done, rawInt done, .bool false, .ref D, .bool false], []⟩

section
variable {prog : Program} {w : World}

theorem push_list {s : Shared} {D : Addr} {ys : Array Value} {v : Value} {A : Around} {E : Value → Shared → Prop} {Q : Unit → Shared → Prop} (h : s.heap.PlainList D ys) (hsz : ys.size ≤ sizeLine)
    (hq : ∀ h', h'.PlainList D (ys.push v) → Heap.SameBut D s.heap h' → Q () { s with heap := h' }) : wpAny (model prog w) A (updateSeq D (·.push v)) Q E s := by
  obtain ⟨n, e⟩ := h
  refine wpAny_updateSeq e rfl (hq _ ?_ (Heap.SameBut.update ..)) hsz (by rw [Array.size_push]; omega)
  exact ⟨_, Heap.get?_update_self _ e rfl⟩

theorem loop_ok {code : Array Nat} {x r : Str} {tx tr : Tok} {pa D : Addr} {nxt : Nat → Option (Nat × Nat)} (hx : x.cps.size ≤ sizeLine) (hf : Finds code x.cps nxt) {A : Around} {R : Result → Shared → Prop} :
    ∀ (ps : List Str) (done : Nat), Pcs nxt x.cps r done ps → done ≤ x.cps.size → ∀ (n : Int) (s : Shared) (ys : Array Value) (acc : List Str), PatAt s.heap pa code → s.heap.PlainList D ys → Strs ys.toList acc → pa ≠ D →
      (∀ ta o fs, s.heap.get? pa = some o → o.data = .fields fs → fs.getD 5 .none = .ref ta → ta ≠ D) → acc.length + ps.length ≤ sizeLine → JoinOk ⟨#[]⟩ (acc ++ ps) = true →
      (∀ h tk t', (∀ b o, b ≠ D → s.heap.get? b = some o → h.get? b = some o) → R (.ok (.ret (.str (Txt.join ⟨#[]⟩ (acc ++ ps)) t'))) { s with heap := h, toks := tk }) →
      codeAny (model prog w) A (.builtin "re.Pattern.sub.loop" (loopArgs pa x tx r tr n done D)) R s := by
  intro ps done H
  induction H with
  | @none done hn =>
    intro hd n s ys acc hP hD hS hne htne hlen hJ hR
    have fin : ∀ (s' : Shared) (ys' : Array Value), s'.heap.PlainList D ys' → Strs ys'.toList (acc ++ (if done < x.cps.size then [⟨x.cps.extract done x.cps.size⟩] else [])) → (∃ tk h, s' = { s with heap := h, toks := tk } ∧ ∀ b o, b ≠ D → s.heap.get? b = some o → h.get? b = some o) →
        wpAny (model prog w) A.in1 (do
          let joiner ← Builtin.Re.reSlice x.cps 0 0 0
          let text ← if ((← seqItems? (.ref D)).getD #[]).isEmpty then pure joiner else call (.builtin "str.join") [joiner, .ref D]
          ret text) (fun fin s' => match fin with | .done f => R (.ok f) s' | .again c' => c'.quiet = true ∧ codeAny (model prog w) A c' R s') (fun e s' => R (.error e) s') s' := by
      rintro s' ys' ⟨m, hD'⟩ ⟨l, hl1, hl2⟩ ⟨tk, h, rfl, hk⟩
      refine wpAny_bind (wpAny_reSlice hx ?_)
      refine wpAny_bind (wpAny_seqItems hD' rfl ?_)
      have hem : (⟨x.cps.extract 0 0⟩ : Str) = ⟨#[]⟩ := by congr 1; apply Array.ext <;> simp
      rw [hem]
      cases hys : (((some ys').getD #[]).isEmpty) with
      | true =>
        have h0 : ys' = #[] := by simpa using hys
        subst h0
        have hl0 : l = [] := by
          have := congrArg List.length hl1
          simp [strValues] at this
          exact List.length_eq_zero_iff.mp this.symm
        subst hl0
        refine wpAny_pure ?_
        rw [← hl2] at hR
        exact hR h _ _ hk
      | false =>
        simp only [Bool.false_eq_true, if_false]
        refine wpAny_bind (SC.join (s := { s with heap := h, toks := tk + 1 }) (l := l) (texts := l.map (·.1)) ⟨_, hD', rfl, m, by show Data.seq ys' m = _; rw [← hl1]⟩ rfl (by rw [hl2]; exact hJ) fun t' k => wpAny_pure ?_)
        rw [hl2]
        exact hR h _ _ hk
    refine codeAny_builtin entry_re_loop ?_
    rw [Around.under_plainId plain_re_loop]
    show wpAny _ _ (Builtin.«re.Pattern.sub.loop» _) _ _ _
    unfold Builtin.«re.Pattern.sub.loop» loopArgs
    simp only [rawInt]
    refine wpAny_bind (wpAny_target hP ?_)
    dsimp only
    refine wpAny_bind (m := Builtin.Re.reLiteralCannotBeTurned (.str r tr)) (wpAny_pure ?_)
    have hgo := hf done hd
    rw [hn] at hgo
    obtain ⟨k, hk, hE⟩ := hgo
    refine wpAny_bind (runToEnd (o := .failed) hE hk ?_)
    dsimp only
    have e : (done : Int).toNat = done := Int.toNat_natCast done
    rw [e]
    by_cases hlt : done < x.cps.size
    · rw [if_pos hlt] at hR hJ
      simp only [if_pos hlt] at fin ⊢
      refine wpAny_bind (wpAny_reSlice hx ?_)
      refine wpAny_bind (push_list (s := { s with toks := s.toks + 1 }) hD (by have := hS.length; simp only [Array.length_toList] at this; omega) fun h' hD' hs' => ?_)
      refine fin _ _ hD' (by rw [Array.toList_push]; exact hS.snoc) ⟨_, h', rfl, fun b o hb e => hs'.extBut b o hb e⟩
    · rw [if_neg hlt] at hR hJ
      simp only [if_neg hlt] at fin ⊢
      exact fin s ys hD (by simpa using hS) ⟨s.toks, s.heap, rfl, fun _ _ _ e => e⟩
  | @some done a b ps hn H ih =>
    intro hd n s ys acc hP hD hS hne htne hlen hJ hR
    have hgo := hf done hd
    rw [hn] at hgo
    obtain ⟨h1, h2, h3, k, hk, hE⟩ := hgo
    refine codeAny_builtin entry_re_loop ?_
    rw [Around.under_plainId plain_re_loop]
    show wpAny _ _ (Builtin.«re.Pattern.sub.loop» _) _ _ _
    unfold Builtin.«re.Pattern.sub.loop» loopArgs
    simp only [rawInt]
    refine wpAny_bind (wpAny_target hP ?_)
    dsimp only
    refine wpAny_bind (m := Builtin.Re.reLiteralCannotBeTurned (.str r tr)) (wpAny_pure ?_)
    refine wpAny_bind (runToEnd (o := .matched) hE hk fun m hm => ?_)
    obtain ⟨rfl, rfl⟩ := hm
    dsimp only
    have e : (done : Int).toNat = done := Int.toNat_natCast done
    rw [e]
    have hsz : ys.size + (if done < m.start then 1 else 0) ≤ sizeLine := by
      have e1 := hS.length
      simp only [Array.length_toList] at e1
      simp only [List.length_append, List.length_cons] at hlen
      by_cases q : done < m.start
      · rw [if_pos q] at hlen ⊢; simp only [List.length_cons, List.length_nil] at hlen; omega
      · rw [if_neg q] at hlen ⊢; simp only [List.length_nil] at hlen; omega
    have mustF : (m.handed == m.start) = false := by rw [beq_eq_false_iff_ne]; omega
    have go : ∀ (s' : Shared) (ys' : Array Value), s'.heap.PlainList D ys' → Strs ys'.toList (acc ++ (if done < m.start then [⟨x.cps.extract done m.start⟩] else [])) → ys'.size ≤ sizeLine → (∃ tk h, s' = { s with heap := h, toks := tk } ∧ ∀ b o, b ≠ D → s.heap.get? b = some o → h.get? b = some o) →
        wpAny (model prog w) A.in1 (do
          let item ← (pure (.str r tr) : Sem Value)
          if (item != .none) = true then updateSeq D (·.push item)
          again (.builtin "re.Pattern.sub.loop" ⟨[.ref pa, .str x tx, .str r tr, .int 0 0, .int 0 0, .int (n + 1) 0, .int m.handed 0, .int m.handed 0, .bool (m.handed == m.start), .ref D, .bool false], []⟩))
          (fun fin s' => match fin with | .done f => R (.ok f) s' | .again c' => c'.quiet = true ∧ codeAny (model prog w) A c' R s') (fun e s' => R (.error e) s') s' := by
      rintro s' ys' hD' hS' hsz' ⟨tk, h, rfl, hkeep⟩
      refine wpAny_bind (wpAny_pure ?_)
      have hne' : ((Value.str r tr) != Value.none) = true := rfl
      rw [if_pos hne']
      refine wpAny_bind (push_list (s := { s with heap := h, toks := tk }) hD' hsz' fun h' hD'' hs' => wpAny_pure ⟨plainId_quiet plain_re_loop _, ?_⟩)
      rw [mustF]
      have hk' : ∀ b o, b ≠ D → s.heap.get? b = some o → h'.get? b = some o := fun b o hb e => hs'.extBut b o hb (hkeep b o hb e)
      obtain ⟨⟨o, fs, ta, to, vs, nn, g1, g2, g3, g4, g5, g6, g7, g8⟩, gd⟩ := hP
      have hta : ta ≠ D := htne ta o fs g1 g3 g4
      refine ih (by omega) (n + 1) { s with heap := h', toks := tk } (ys'.push (.str r tr)) (acc ++ (if done < m.start then [⟨x.cps.extract done m.start⟩] else []) ++ [r]) ⟨⟨o, fs, ta, to, vs, nn, hk' _ _ hne g1, g2, g3, g4, g5, g6, hk' _ _ hta g7, g8⟩, fun o' ho' => ?_⟩ hD'' (by rw [Array.toList_push]; exact hS'.snoc) hne
        (fun ta' o' fs' q1 q2 q3 => ?_) ?_ ?_ fun h'' tk'' t' hk'' => ?_
      · have q1 : h'.get? pa = some o' := ho'
        rw [hk' _ _ hne g1] at q1; cases q1; exact gd o g1
      · have q1 : h'.get? pa = some o' := q1
        rw [hk' _ _ hne g1] at q1; cases q1; exact htne ta' o fs' g1 q2 q3
      · simp only [List.length_append, List.length_cons, List.length_nil] at hlen ⊢; omega
      · simpa using hJ
      · have := hR h'' tk'' t' fun b o hb e => hk'' b o hb (hk' b o hb e)
        simpa using this
    by_cases hlt : done < m.start
    · simp only [if_pos hlt] at go hsz ⊢
      refine wpAny_bind (wpAny_reSlice hx ?_)
      refine wpAny_bind (push_list (s := { s with toks := s.toks + 1 }) hD (by omega) fun h' hD' hs' => ?_)
      exact go _ _ hD' (by rw [Array.toList_push]; exact hS.snoc) (by rw [Array.size_push]; omega) ⟨_, h', rfl, fun b o hb e => hs'.extBut b o hb e⟩
    · simp only [if_neg hlt] at go hsz ⊢
      exact go s ys hD (by simpa using hS) (by omega) ⟨s.toks, s.heap, rfl, fun _ _ _ e => e⟩
end
end Mine
end

section
open PySem PySem.W PyProof.Rows PySem.Calls
set_option linter.all false
set_option maxRecDepth 100000
namespace Mine

theorem args_re_sub (a b c : Value) : argsOk "re.Pattern.sub" ⟨[a, b, c], []⟩ := by unfold argsOk; kernel_rfl

theorem sub_meets {code : Array Nat} {x r : Str} {tx tr : Tok} {pa : Addr} {nxt : Nat → Option (Nat × Nat)} {ps : List Str} (hx : x.cps.size ≤ sizeLine) (hf : Finds code x.cps nxt) (hr : r.cps.contains 92 = false) (H : Pcs nxt x.cps r 0 ps) (hlen : ps.length ≤ sizeLine) (hJ : JoinOk ⟨#[]⟩ ps = true) :
    Meets (Builtin.«re.Pattern.sub» ⟨[.ref pa, .str r tr, .str x tx], []⟩) (fun _ R s => PatAt s.heap pa code ∧ ∀ h tk t', (∀ b o, s.heap.get? b = some o → h.get? b = some o) → R (.ok (.ret (.str (Txt.join ⟨#[]⟩ ps) t'))) { s with heap := h, toks := tk }) := by
  rintro prog w A R s ⟨hP, hR⟩
  show wpAny (model prog w) A.in1 (Builtin.Re.reSubstitute "re.Pattern.sub" "sub" false _) _ _ _
  unfold Builtin.Re.reSubstitute
  refine wpAny_bind (wpAny_of_eq (reNamed_2 _ _) ?_)
  refine wpAny_bind (wpAny_pure ?_)
  refine wpAny_bind (wpAny_specialOf (typeIs_str _ _ _) str_nocall ?_)
  simp only [Option.isSome_none, Bool.false_eq_true, if_false]
  refine wpAny_bind (m := asStr? (.str r tr)) (wpAny_pure ?_)
  dsimp only
  rw [hr]
  refine wpAny_bind (wpAny_pure ?_)
  simp only [Bool.false_eq_true, if_false, Bool.not_false, if_true]
  refine wpAny_bind (wpAny_pure ?_)
  dsimp only
  refine wpAny_bind (wpAny_holding (wpAny_target hP ?_))
  refine wpAny_bind (wpAny_newObj_type ?_)
  refine wpAny_pure ⟨plainId_quiet plain_re_loop _, ?_⟩
  have dead : s.heap.get? s.heap.objs.size = none := size_free
  have hk : ∀ b o, s.heap.get? b = some o → (s.heap.push { cls := .type "list", data := .seq ([] : List Value).toArray }).get? b = some o := fun b o e => Heap.get?_push_of_some _ e
  obtain ⟨⟨o, fs, ta, to, vs, nn, g1, g2, g3, g4, g5, g6, g7, g8⟩, gd⟩ := id hP
  have ne : ∀ {b : Addr} {o : Obj}, s.heap.get? b = some o → b ≠ s.heap.objs.size := fun e => Nat.ne_of_lt (alive_lt e)
  refine loop_ok (A := A) hx hf ps 0 H (Nat.zero_le _) 0 { s with heap := s.heap.push { cls := .type "list", data := .seq ([] : List Value).toArray } } #[] [] (hP.keeps hk) ⟨_, Heap.get?_push_size _ rfl⟩ ⟨[], rfl, rfl⟩ (ne g1) (fun ta' o' fs' q1 q2 q3 => ?_) (by simpa using hlen) (by simpa using hJ) fun h tk t' hk' => ?_
  · have q1 : (s.heap.push { cls := .type "list", data := .seq ([] : List Value).toArray }).get? pa = some o' := q1
    rw [hk _ _ g1] at q1; cases q1
    rw [g3] at q2; cases q2
    rw [g4] at q3; cases q3
    exact ne g7
  · exact hR h tk t' fun b o e => hk' b o (ne e) (hk b o e)

section
variable {C : Cx} {k : Nat} {env : Env} {F : Fm}

/-- the call of a method, by its late lookup -/
theorem Ev.meth {o : Expr} {name : Str} {apos pos : Pos} {args : List Expr} {a p : PV} (ho : Ev C k env F o a)
    (h : ∀ (A : Around) (st : St) (s : Shared) (v : Value) (Q : Value → Shared → Prop), Room k A → Inv C st env F s → Rep st v a → (∀ v st' s', Rep st' v p → Then st s st' s' → Q v s') →
      MethodOnS C.prog C.w A (fun _ _ => False) name v pos (args.map fun e => (false, eval e env)) Q s)
    (hbase : attributeBase o name env (eval o env) = eval o env := by rfl) (hfew : ((backTo pos (starEach args env)).all (fun x => !x.1) && (backToKw pos (keywordEach [] env)).all (fun x => x.1.isSome)
      && decide (args.length + ([] : List Keyword).length + (if ([] : List Keyword).isEmpty then 0 else 1) < 30)) = true := by rfl) (hline : (apos.endLine == pos.line) = true := by rfl) (hfl : Flat args env pos := by exact flat_of (by rfl)) :
    Ev C k env F (.Call (.Attribute o name apos) args [] pos) p := fun st s I A Q R hQ => by
  refine wpAny_Call_method_lateS hbase hfew hline (ho st s I A _ R fun v st' s' hv t => ?_)
  rw [hfl]
  exact h A st' s' v Q R (I.step t) hv fun v'' st'' s'' hv'' t'' => hQ v'' st'' s'' hv'' (t.trans t'')

/-- a pattern of the top -/
def Cx.Pat (C : Cx) (x : Str) (code : Array Nat) : Prop := ∃ a, C.mg x = some (.ref a) ∧ ∀ h, C.On h → PatAt h a code

theorem Ev.glob (N : FnEnv env) {x : Str} {pos : Pos} {a : Addr} (hg : C.mg x = some (.ref a)) (hx : env.kindOf x = some .globalImplicit := by rfl) (hd : (x == ("__debug__" : Str)) = false := by decide) : Ev C k env F (.Name x pos) (.ref a) := fun st s I A Q R hQ =>
  Name_function_global N.kind hx (loadGlobal_global (N.glob ▸ I.on.top.g) hg (hQ _ _ _ (.ref _) (Then.refl I.sub))) hd

theorem Ev.sub (N : FnEnv env) {x : Str} {np apos pos : Pos} {code : Array Nat} {e₁ e₂ : Expr} {r y : Str} {nxt : Nat → Option (Nat × Nat)} {ps : List Str} (hp : C.Pat x code) (h₁ : Ev C k env F e₁ (.str r)) (h₂ : Ev C k env F e₂ (.str y))
    (hf : Finds code y.cps nxt) (hr : r.cps.contains 92 = false) (H : Pcs nxt y.cps r 0 ps) (hlen : ps.length ≤ sizeLine) (hJ : JoinOk ⟨#[]⟩ ps = true) (hy : y.cps.size ≤ sizeLine)
    (hx : env.kindOf x = some .globalImplicit := by rfl) (hd : (x == ("__debug__" : Str)) = false := by decide)
    (hbase : attributeBase (.Name x np) "sub" env (eval (.Name x np) env) = eval (.Name x np) env := by rfl) (hfew : ((backTo pos (starEach [e₁, e₂] env)).all (fun x => !x.1) && (backToKw pos (keywordEach [] env)).all (fun x => x.1.isSome)
      && decide ([e₁, e₂].length + ([] : List Keyword).length + (if ([] : List Keyword).isEmpty then 0 else 1) < 30)) = true := by rfl) (hline : (apos.endLine == pos.line) = true := by rfl) (hfl : Flat [e₁, e₂] env pos := by exact flat_of (by rfl)) :
    Ev C k env F (.Call (.Attribute (.Name x np) "sub" apos) [e₁, e₂] [] pos) (.str (Txt.join ⟨#[]⟩ ps)) := by
  obtain ⟨a, hg, hpat⟩ := hp
  refine Ev.meth (Ev.glob N hg hx hd) (fun A st s v Q R I hv hQ => ?_) hbase hfew hline hfl
  cases hv
  have P := hpat _ I.on
  refine ⟨"re.Pattern", _, plain_re, slot_re_sub, type_re_sub, ?_, fun b e => ?_, ?_⟩
  · obtain ⟨⟨o, fs, ta, to, vs, nn, g1, g2, _⟩, _⟩ := P
    exact ⟨o, g1, g2⟩
  · cases e
    obtain ⟨⟨o, fs, ta, to, vs, nn, g1, g2, _⟩, gd⟩ := P
    exact ⟨o, g1, gd o g1⟩
  refine callWith_builtin rfl (evalArgs_plain (Evs.wp (.cons h₁ (.cons h₂ .nil)) I R rfl fun vs st' s' hvs t => ?_))
  cases hvs with | cons r1 r2 =>
    cases r2 with | cons r2 r3 =>
      cases r3; cases r1; cases r2
      have P' := hpat _ (I.step t).on
      refine call_meets slot_re_sub ?_ entry_re_sub (args_re_sub _ _ _) (sub_meets hy hf hr H hlen hJ) ⟨P', fun h tk t' hk => hQ _ _ _ (.str _ _) (t.more ⟨_, _, rfl⟩ hk)⟩
      obtain ⟨⟨o, fs, ta, to, vs, nn, g1, g2, _⟩, gd⟩ := P'
      exact ⟨o, g1, g2⟩
end
end Mine
end

section
open PySem PySem.W PyProof.Rows PySem.Calls
set_option linter.all false
set_option maxRecDepth 100000
namespace Mine

abbrev L := List Nat
/-- a text by its signs -/
def S (l : L) : Str := ⟨l.toArray⟩
theorem S_len (l : L) : (S l).length = l.length := by simp [S, Str.length]
theorem S_size (l : L) : (S l).cps.size = l.length := by simp [S]
theorem S_list (l : L) : (S l).cps.toList = l := by simp [S]
theorem S_append (l m : L) : S l ++ S m = S (l ++ m) := by
  show Str.append (S l) (S m) = _
  simp [S, Str.append]
theorem S_of (x : Str) : S x.cps.toList = x := by cases x; simp [S]
theorem S_inj {l m : L} (h : S l = S m) : l = m := by
  have := congrArg (fun x : Str => x.cps.toList) h
  simpa [S] using this

/-- every line end is return and feed; the flag: a return is just behind -/
def crlf : Bool → L → L
  | _, [] => []
  | b, c :: r => if c = 13 then 13 :: 10 :: crlf true r else if c = 10 then (if b then crlf false r else 13 :: 10 :: crlf false r) else c :: crlf false r
/-- a dot more at the head of a line -/
def stuff : Bool → L → L
  | _, [] => []
  | b, c :: r => if b = true ∧ c = 46 then 46 :: 46 :: stuff false r else c :: stuff (c == 10) r
def quoted (l : L) : L := stuff true (crlf false l)

theorem crlf_plain : ∀ (p r : L) (b : Bool), (∀ c ∈ p, c ≠ 10 ∧ c ≠ 13) → (p = [] → b = false) → crlf b (p ++ r) = p ++ crlf false r
  | [], r, b, _, hb => by rw [hb rfl]; rfl
  | c :: p, r, b, h, _ => by
    obtain ⟨h1, h2⟩ := h c (.head _)
    rw [List.cons_append, crlf, if_neg h2, if_neg h1, crlf_plain p r false (fun d hd => h d (.tail _ hd)) fun _ => rfl]; rfl
theorem crlf_true {r : L} (h : r.head? ≠ some 10) : crlf true r = crlf false r := by
  cases r with
  | nil => rfl
  | cons c r =>
    have hc : c ≠ 10 := fun e => h (by rw [e]; rfl)
    rw [crlf, crlf, if_neg hc, if_neg hc]
theorem crlf_10 (r : L) : crlf false (10 :: r) = 13 :: 10 :: crlf false r := by simp [crlf]
theorem crlf_1310 (r : L) : crlf false (13 :: 10 :: r) = 13 :: 10 :: crlf false r := by simp [crlf]
theorem crlf_13 (r : L) (h : r.head? ≠ some 10) : crlf false (13 :: r) = 13 :: 10 :: crlf false r := by rw [crlf, if_pos rfl, crlf_true h]
theorem crlf_len : ∀ (l : L) (b : Bool), (crlf b l).length ≤ 2 * l.length
  | [], _ => by simp [crlf]
  | c :: r, b => by
    have h1 := crlf_len r true
    have h2 := crlf_len r false
    rw [crlf]
    split
    · simp only [List.length_cons]; omega
    · split
      · split <;> simp only [List.length_cons] <;> omega
      · simp only [List.length_cons]; omega
theorem stuff_len : ∀ (b : Bool) (l : L), (stuff b l).length ≤ 2 * l.length
  | _, [] => by simp [stuff]
  | b, c :: r => by
    rw [stuff]
    have h1 := stuff_len false r
    have h2 := stuff_len (c == 10) r
    split <;> simp only [List.length_cons] <;> omega
theorem quoted_len (l : L) : (quoted l).length ≤ 4 * l.length := by
  have h1 := stuff_len true (crlf false l)
  have h2 := crlf_len l false
  unfold quoted; omega

/-- the first place from s on -/
def firstAt (p : Nat → Bool) (e : Nat → Nat) (n s : Nat) : Option (Nat × Nat) := ((List.range (n - s)).find? fun d => p (s + d)).map fun d => (s + d, e (s + d))
theorem firstAt_some {p : Nat → Bool} {e : Nat → Nat} {n s a b : Nat} (h : firstAt p e n s = some (a, b)) : ∃ d, a = s + d ∧ b = e a ∧ a < n ∧ p a = true ∧ ∀ i, s ≤ i → i < a → p i = false := by
  obtain ⟨d, hd, he⟩ := Option.map_eq_some_iff.mp h
  obtain ⟨h1, h2⟩ := List.find?_range_eq_some.mp hd
  simp only [Prod.mk.injEq] at he
  obtain ⟨rfl, rfl⟩ := he
  simp only [List.mem_range] at h2
  refine ⟨d, rfl, rfl, by omega, h1, fun i g1 g2 => ?_⟩
  have := h2.2 (i - s) (by omega)
  rw [show s + (i - s) = i by omega] at this
  simpa using this
theorem firstAt_none {p : Nat → Bool} {e : Nat → Nat} {n s : Nat} (h : firstAt p e n s = none) : ∀ i, s ≤ i → i < n → p i = false := by
  intro i g1 g2
  have h := Option.map_eq_none_iff.mp h
  have := List.find?_eq_none.mp h (i - s) (List.mem_range.mpr (by omega))
  rw [show s + (i - s) = i by omega] at this
  simpa using this

def nxt1 (text : Array Nat) (s : Nat) := firstAt (dotAt text) (· + 1) text.size s
def nxt2 (text : Array Nat) (s : Nat) := firstAt (brk text) (endOf text) text.size s

theorem endOf_in {text : Array Nat} {i : Nat} (h : i < text.size) : endOf text i ≤ text.size ∧ i < endOf text i := by
  unfold endOf
  cases q : (text.getD i 0 == 13 && decide (i + 1 < text.size) && text.getD (i + 1) 0 == 10) with
  | true =>
    rw [Bool.and_eq_true, Bool.and_eq_true, decide_eq_true_eq] at q
    have := q.1.2
    simp only [if_true]; omega
  | false => simp only [Bool.false_eq_true, if_false]; omega
theorem finds1 {text : Array Nat} (hs : text.size ≤ sizeLine) : Finds code1 text (nxt1 text) := fun s hle => by
  rw [size24] at hs
  cases h : nxt1 text s with
  | none =>
    have hn := firstAt_none h
    by_cases q : s < text.size
    · obtain ⟨seen, hse⟩ := search1 text s false q
      obtain ⟨d, hd⟩ := Nat.le.dest hle
      rw [hse]
      exact ⟨3 * d + 4, by omega, run1_no d s hd hn⟩
    · exact ⟨1, by omega, search1_end text s false (by omega)⟩
  | some ab =>
    obtain ⟨a, b⟩ := ab
    obtain ⟨d, rfl, rfl, h1, h2, h3⟩ := firstAt_some h
    obtain ⟨seen, hse⟩ := search1 text s false (by omega)
    refine ⟨by omega, by omega, by omega, 3 * d + 5, by omega, ?_⟩
    rw [hse]
    exact run1_yes d s (fun i g1 g2 => h3 i g1 g2) h2
theorem finds2 {text : Array Nat} (hs : text.size ≤ sizeLine) : Finds code2 text (nxt2 text) := fun s hle => by
  rw [size24] at hs
  cases h : nxt2 text s with
  | none => exact ⟨1, by omega, run2_no (firstAt_none h)⟩
  | some ab =>
    obtain ⟨a, b⟩ := ab
    obtain ⟨d, rfl, rfl, h1, h2, h3⟩ := firstAt_some h
    have he := endOf_in h1
    exact ⟨by omega, he.2, he.1, 20, by omega, run2_yes (fun i g1 g2 => h3 i g1 g2) h2⟩

/-- the signs of some texts, one behind the other -/
def flat (ps : List Str) : L := ps.flatMap fun x => x.cps.toList
theorem foldl_flat : ∀ (ps : List Str) (a : Array Nat), (ps.foldl (fun acc p => acc ++ (⟨#[]⟩ : Str).cps ++ p.cps) a).toList = a.toList ++ flat ps
  | [], a => by simp [flat]
  | p :: ps, a => by
    rw [List.foldl_cons, foldl_flat ps]
    simp [flat]
theorem join_flat (ps : List Str) : Txt.join ⟨#[]⟩ ps = S (flat ps) := by
  show Builtin.Str.glued _ _ = _
  unfold Builtin.Str.glued S
  congr 1
  apply Array.ext'
  rw [foldl_flat]
  cases ps with
  | nil => rfl
  | cons p ps => simp [flat]
theorem joinOk_flat {ps : List Str} (h : (flat ps).length ≤ sizeLine) : JoinOk ⟨#[]⟩ ps = true := by
  unfold JoinOk
  have key : ∀ (l : List Str) (n : Nat), l.foldl (fun x1 x2 => x1 + x2.length + (⟨#[]⟩ : Str).length) n = n + (flat l).length := by
    intro l
    induction l with
    | nil => intro n; simp [flat]
    | cons p l ih =>
      intro n
      rw [List.foldl_cons, ih]
      simp [flat, Str.length]
      omega
  rw [List.foldl_toArray, key, Nat.zero_add, Bool.not_eq_true']
  unfold Builtin.Str.tooLong
  exact decide_eq_false (by omega)

theorem ext_list {l : L} {s e : Nat} : (⟨l.toArray.extract s e⟩ : Str).cps.toList = (l.drop s).take (e - s) := by
  simp [List.extract_eq_take_drop]
theorem getD_list (l : L) (i : Nat) : l.toArray.getD i 0 = l.getD i 0 := by
  rw [Array.getD_eq_getD_getElem?, List.getD_eq_getElem?_getD]; simp
theorem drop_at {l : L} {a : Nat} (h : a < l.length) : l.drop a = l.getD a 0 :: l.drop (a + 1) := by
  rw [List.drop_eq_getElem_cons h, List.getD_eq_getElem?_getD, List.getElem?_eq_getElem h]; rfl
theorem drop_split {l : L} {s a : Nat} (h : s ≤ a) : l.drop s = (l.drop s).take (a - s) ++ l.drop a := by
  conv => lhs; rw [← List.take_append_drop (a - s) (l.drop s)]
  rw [List.drop_drop, show s + (a - s) = a by omega]
theorem mem_mid {l : L} {s a : Nat} {c : Nat} (h : c ∈ (l.drop s).take (a - s)) : ∃ i, s ≤ i ∧ i < a ∧ i < l.length ∧ l.getD i 0 = c := by
  obtain ⟨i, hi, e⟩ := List.getElem_of_mem h
  rw [List.length_take, List.length_drop] at hi
  refine ⟨s + i, by omega, by omega, by omega, ?_⟩
  rw [List.getElem_take, List.getElem_drop] at e
  rw [List.getD_eq_getElem?_getD, List.getElem?_eq_getElem (by omega)]
  exact e
theorem piece_flat {l : L} {s a : Nat} (h : s ≤ a) : flat (if s < a then [(⟨l.toArray.extract s a⟩ : Str)] else []) = (l.drop s).take (a - s) := by
  split
  · simp only [flat, List.flatMap_cons, List.flatMap_nil, List.append_nil]; exact ext_list
  · rw [show a - s = 0 by omega]; rfl
theorem flat_append (a b : List Str) : flat (a ++ b) = flat a ++ flat b := by simp [flat]
theorem flat_cons (a : Str) (b : List Str) : flat (a :: b) = a.cps.toList ++ flat b := by simp [flat]

theorem head_drop {l : L} {a : Nat} : (l.drop a).head? = l[a]? := by rw [List.head?_drop]
theorem pcs2 (l : L) : ∀ (k s : Nat), l.length - s = k → s ≤ l.length → ∃ ps, Pcs (nxt2 l.toArray) l.toArray (S [13, 10]) s ps ∧ flat ps = crlf false (l.drop s) ∧ ps.length ≤ 2 * (l.length - s) + 1 := by
  intro k
  induction k using Nat.strongRecOn with
  | _ k ih =>
    intro s hk hs
    have plain : ∀ i, s ≤ i → i < l.length → brk l.toArray i = false → l.getD i 0 ≠ 10 ∧ l.getD i 0 ≠ 13 := fun i h1 h2 h3 => by
      unfold brk at h3
      rw [getD_list] at h3
      have : decide (i < l.toArray.size) = true := decide_eq_true (by simpa using h2)
      rw [this, Bool.true_and, Bool.or_eq_false_iff, beq_eq_false_iff_ne, beq_eq_false_iff_ne] at h3
      exact h3
    cases h : nxt2 l.toArray s with
    | none =>
      have hn := firstAt_none h
      refine ⟨_, Pcs.none h, ?_, by split <;> simp⟩
      have hz : l.toArray.size = l.length := by simp
      rw [hz] at hn ⊢
      rw [piece_flat hs]
      have e : l.drop s = (l.drop s).take (l.length - s) := (List.take_of_length_le (by rw [List.length_drop]; exact Nat.le_refl _)).symm
      rw [← e]
      have := crlf_plain (l.drop s) [] false (fun c hc => by
        rw [e] at hc
        obtain ⟨i, h1, h2, h3, rfl⟩ := mem_mid hc
        exact plain i h1 h3 (hn i h1 h2)) fun _ => rfl
      rw [List.append_nil] at this
      rw [this]; simp [crlf]
    | some ab =>
      obtain ⟨a, b⟩ := ab
      obtain ⟨d, rfl, rfl, h1, h2, h3⟩ := firstAt_some h
      have hz : l.toArray.size = l.length := by simp
      have hin := endOf_in h1
      rw [hz] at h1 hin
      obtain ⟨ps, p1, p2, p3⟩ := ih (l.length - endOf l.toArray (s + d)) (by omega) (endOf l.toArray (s + d)) rfl hin.1
      refine ⟨_, Pcs.some h p1, ?_, by split <;> simp only [List.length_append, List.length_cons, List.length_nil] <;> omega⟩
      rw [flat_append, piece_flat (by omega), flat_cons, p2, S_list]
      rw [drop_split (l := l) (s := s) (a := s + d) (by omega)]
      rw [crlf_plain _ _ false (fun c hc => by
        obtain ⟨i, g1, g2, g3, rfl⟩ := mem_mid hc
        exact plain i g1 g3 (h3 i g1 g2)) fun _ => rfl]
      congr 1
      · rw [List.take_append_of_le_length (by rw [List.length_take, List.length_drop]; omega), List.take_take, Nat.min_self]
      · rw [drop_at h1]
        unfold brk at h2
        rw [getD_list] at h2
        simp only [Bool.and_eq_true, Bool.or_eq_true, beq_iff_eq] at h2
        unfold endOf
        rw [getD_list, getD_list]
        rcases h2.2 with e | e
        · rw [e, if_neg (by simp)]
          rw [crlf_10]; rfl
        · rw [e]
          by_cases q : s + d + 1 < l.length ∧ l.getD (s + d + 1) 0 = 10
          · rw [if_pos (by rw [q.2, hz, decide_eq_true q.1]; rfl)]
            rw [drop_at q.1, q.2, crlf_1310]; rfl
          · rw [if_neg (by
              rw [hz]
              intro hh
              simp only [Bool.and_eq_true, decide_eq_true_eq, beq_iff_eq] at hh
              exact q ⟨hh.1.2, hh.2⟩)]
            rw [crlf_13 _ (by
              rw [head_drop]
              intro hh
              obtain ⟨g1, g2⟩ := List.getElem?_eq_some_iff.mp hh
              exact q ⟨g1, by rw [List.getD_eq_getElem?_getD, hh]; rfl⟩)]
            rfl

/-- the flag at a place: a line begins here -/
def bol (l : L) (s : Nat) : Bool := s == 0 || l.getD (s - 1) 0 == 10
theorem stuff_plain (l : L) : ∀ (d s : Nat), s + d ≤ l.length → (∀ i, s ≤ i → i < s + d → ¬ (bol l i = true ∧ l.getD i 0 = 46)) → stuff (bol l s) (l.drop s) = (l.drop s).take d ++ stuff (bol l (s + d)) (l.drop (s + d))
  | 0, s, _, _ => by simp
  | d + 1, s, h, hn => by
    have hs : s < l.length := by omega
    rw [drop_at hs, stuff, if_neg (hn s (Nat.le_refl _) (by omega))]
    have e : (l.getD s 0 == 10) = bol l (s + 1) := by unfold bol; simp
    rw [e, stuff_plain l d (s + 1) (by omega) fun i g1 g2 => hn i (by omega) (by omega), List.take_succ_cons, show s + 1 + d = s + (d + 1) by omega]
    rfl
theorem pcs1 (l : L) : ∀ (k s : Nat), l.length - s = k → s ≤ l.length → ∃ ps, Pcs (nxt1 l.toArray) l.toArray (S [46, 46]) s ps ∧ flat ps = stuff (bol l s) (l.drop s) ∧ ps.length ≤ 2 * (l.length - s) + 1 := by
  intro k
  induction k using Nat.strongRecOn with
  | _ k ih =>
    intro s hk hs
    have hz : l.toArray.size = l.length := by simp
    have plain : ∀ i, i < l.length → dotAt l.toArray i = false → ¬ (bol l i = true ∧ l.getD i 0 = 46) := fun i h2 h3 ⟨g1, g2⟩ => by
      unfold dotAt at h3
      unfold bol at g1
      rw [getD_list, getD_list, g1, g2, hz, decide_eq_true h2] at h3
      cases h3
    cases h : nxt1 l.toArray s with
    | none =>
      have hn := firstAt_none h
      refine ⟨_, Pcs.none h, ?_, by split <;> simp⟩
      rw [hz] at hn ⊢
      rw [piece_flat hs, stuff_plain l (l.length - s) s (by omega) fun i g1 g2 => plain i (by omega) (hn i g1 (by omega))]
      rw [show s + (l.length - s) = l.length by omega, List.drop_length]; simp [stuff]
    | some ab =>
      obtain ⟨a, b⟩ := ab
      obtain ⟨d, rfl, rfl, h1, h2, h3⟩ := firstAt_some h
      rw [hz] at h1
      obtain ⟨ps, p1, p2, p3⟩ := ih (l.length - (s + d + 1)) (by omega) (s + d + 1) rfl (by omega)
      refine ⟨_, Pcs.some h p1, ?_, by split <;> simp only [List.length_append, List.length_cons, List.length_nil] <;> omega⟩
      rw [flat_append, piece_flat (by omega), flat_cons, p2, S_list]
      rw [stuff_plain l d s (by omega) fun i g1 g2 => plain i (by omega) (h3 i g1 g2), show s + d - s = d by omega]
      congr 1
      unfold dotAt at h2
      rw [getD_list, getD_list] at h2
      simp only [Bool.and_eq_true, beq_iff_eq] at h2
      have hb : bol l (s + d) = true := by unfold bol; exact h2.1.1
      have hb' : bol l (s + d + 1) = false := by
        unfold bol
        rw [Nat.add_sub_cancel, h2.2]; simp
      rw [drop_at h1, stuff, if_pos ⟨hb, h2.2⟩, hb']; rfl

section
variable {C : Cx} {k : Nat} {env : Env} {F : Fm}
/-- the two substitutions, one in the other -/
theorem Ev.quote (N : FnEnv env) {x₁ x₂ : Str} {np₁ ap₁ p₁ np₂ ap₂ p₂ : Pos} {e₁ e₂ e : Expr} {l : L} (q₁ : C.Pat x₁ code1) (q₂ : C.Pat x₂ code2) (h₁ : Ev C k env F e₁ (.str (S [46, 46]))) (h₂ : Ev C k env F e₂ (.str (S [13, 10])))
    (h : Ev C k env F e (.str (S l))) (hl : l.length ≤ 1000000)
    (k₁ : env.kindOf x₁ = some .globalImplicit := by rfl) (k₂ : env.kindOf x₂ = some .globalImplicit := by rfl) (d₁ : (x₁ == ("__debug__" : Str)) = false := by decide) (d₂ : (x₂ == ("__debug__" : Str)) = false := by decide)
    (b₁ : attributeBase (.Name x₁ np₁) "sub" env (eval (.Name x₁ np₁) env) = eval (.Name x₁ np₁) env := by rfl) (b₂ : attributeBase (.Name x₂ np₂) "sub" env (eval (.Name x₂ np₂) env) = eval (.Name x₂ np₂) env := by rfl)
    (f₂ : ((backTo p₂ (starEach [e₂, e] env)).all (fun x => !x.1) && (backToKw p₂ (keywordEach [] env)).all (fun x => x.1.isSome)
      && decide ([e₂, e].length + ([] : List Keyword).length + (if ([] : List Keyword).isEmpty then 0 else 1) < 30)) = true := by rfl)
    (f₁ : ((backTo p₁ (starEach [e₁, .Call (.Attribute (.Name x₂ np₂) "sub" ap₂) [e₂, e] [] p₂] env)).all (fun x => !x.1) && (backToKw p₁ (keywordEach [] env)).all (fun x => x.1.isSome)
      && decide ([e₁, .Call (.Attribute (.Name x₂ np₂) "sub" ap₂) [e₂, e] [] p₂].length + ([] : List Keyword).length + (if ([] : List Keyword).isEmpty then 0 else 1) < 30)) = true := by rfl)
    (l₁ : (ap₁.endLine == p₁.line) = true := by rfl) (l₂ : (ap₂.endLine == p₂.line) = true := by rfl) (g₁ : Flat [e₁, .Call (.Attribute (.Name x₂ np₂) "sub" ap₂) [e₂, e] [] p₂] env p₁ := by exact flat_of (by rfl)) (g₂ : Flat [e₂, e] env p₂ := by exact flat_of (by rfl)) :
    Ev C k env F (.Call (.Attribute (.Name x₁ np₁) "sub" ap₁) [e₁, .Call (.Attribute (.Name x₂ np₂) "sub" ap₂) [e₂, e] [] p₂] [] p₁) (.str (S (quoted l))) := by
  have s24 := size24
  obtain ⟨ps, a1, a2, a3⟩ := pcs2 l l.length 0 rfl (Nat.zero_le _)
  rw [List.drop_zero] at a2
  have c1 := crlf_len l false
  have E2 : Ev C k env F (.Call (.Attribute (.Name x₂ np₂) "sub" ap₂) [e₂, e] [] p₂) (.str (S (crlf false l))) := by
    rw [← a2, ← join_flat]
    exact Ev.sub N q₂ h₂ h (finds2 (by rw [S_size, s24]; omega)) (by decide +kernel) a1 (by rw [s24]; omega) (joinOk_flat (by rw [a2, s24]; omega)) (by rw [S_size, s24]; omega) k₂ d₂ b₂ f₂ l₂ g₂
  obtain ⟨qs, r1, r2, r3⟩ := pcs1 (crlf false l) (crlf false l).length 0 rfl (Nat.zero_le _)
  rw [List.drop_zero, show bol (crlf false l) 0 = true from rfl] at r2
  have c2 := quoted_len l
  have e : quoted l = flat qs := r2.symm
  rw [e, ← join_flat]
  exact Ev.sub N q₁ h₁ E2 (finds1 (by rw [S_size, s24]; omega)) (by decide +kernel) r1 (by rw [s24]; omega) (joinOk_flat (by rw [← e, s24]; omega)) (by rw [S_size, s24]; omega) k₁ d₁ b₁ f₁ l₁ g₁
end
end Mine
end

section
open PySem PySem.W PyProof.Rows PySem.Calls
set_option linter.all false
set_option maxRecDepth 100000
namespace Mine

theorem gives_find4 (x y : Str) (i j : Int) (t u v z : Tok) : Gives (Builtin.«str.find» ⟨[.str x t, .str y u, .int i v, .int j z], []⟩)
    (.int (match Builtin.Str.occurrences x y (fromIndex x.length i) (min (fromIndex x.length j) x.length) 1 with | k :: _ => (k : Int) | [] => -1)) := by
  show Gives (match Builtin.Str.occurrences x y (fromIndex x.length i) (min (fromIndex x.length j) x.length) 1 with | k :: _ => PySem.retInt k | [] => (do rule "str.find.not-found"; PySem.retInt (-1))) _
  cases Builtin.Str.occurrences x y (fromIndex x.length i) (min (fromIndex x.length j) x.length) 1 with
  | nil => exact .rule (.of_eq rfl)
  | cons k _ => exact .of_eq rfl

def find4 (x y : Str) (i j : Int) : Int := match Builtin.Str.occurrences x y (fromIndex x.length i) (min (fromIndex x.length j) x.length) 1 with | k :: _ => (k : Int) | [] => -1

section
variable {C : Cx} {k : Nat} {env : Env} {F : Fm} {P : Out → Prop}

theorem Ts.str {e : Expr} {x : Str} (h : Ev C k env F e (.str x)) (hl : x.length ≤ 2 ^ 60) (he : isTrue e env (eval e env) = (do let v ← eval e env; standAt e.pos; holding [v] (truthy v)) := by rfl) : Ts C k env F e ((x.length : Int) != 0) := fun A st s _ R I hQ =>
  isTrue_plain (h st s I A _ R fun v st' s' hv t => by cases hv; exact P.truthy_str (by omega) (hQ st' _ (t.more ⟨_, _, rfl⟩ fun _ _ e => e))) he

/-- a method of a text with the texts and ints of its arguments -/
theorem Ev.methS {o : Expr} {name : Str} {apos pos : Pos} {args : List Expr} {x : Str} {ps : List PV} {p : PV} {id : String} {B : Builtin} (slot : Slot "str" name id) (hty : typeOf (.builtin id) = pure (.type "method_descriptor")) (he : entryFor table id = some B)
    (ho : Ev C k env F o (.str x)) (ha : Evs C k env F args ps) (hn : args ≠ [])
    (h : ∀ (A : Around) (st : St) (s : Shared) (t : Tok) (vs : List Value) (Q : Value → Shared → Prop), Room k A → Ok C st s → Reps st vs ps → (∀ v st' s', Rep st' v p → Then st s st' s' → Q v s') → wpAny C.M A (call (.builtin id) (.str x t :: vs)) Q (fun _ _ => False) s)
    (hbase : attributeBase o name env (eval o env) = eval o env := by rfl) (hfew : ((backTo pos (starEach args env)).all (fun x => !x.1) && (backToKw pos (keywordEach [] env)).all (fun x => x.1.isSome)
      && decide (args.length + ([] : List Keyword).length + (if ([] : List Keyword).isEmpty then 0 else 1) < 30)) = true := by rfl) (hline : (apos.endLine == pos.line) = true := by rfl) (hfl : Flat args env pos := by exact flat_of (by rfl)) :
    Ev C k env F (.Call (.Attribute o name apos) args [] pos) p := by
  refine Ev.meth ho (fun A st s v Q R I hv hQ => ?_) hbase hfew hline hfl
  cases hv
  refine ⟨"str", id, PySem.F.plainAttrs_str, slot, hty, typeIs_str _ _ _, fun b e => (nomatch e), ?_⟩
  match args, hn, ha with
  | e :: es, _, ha =>
    exact callWith_builtin (by rw [List.any_map]; simp) (evalArgs_plain (ha.wp I R rfl fun vs st' s' hvs t => h A st' s' _ vs Q R (I.ok.step t) hvs fun v st'' s'' hv t' => hQ v st'' s'' hv (t.trans t')))

theorem Ev.startswith {o a : Expr} {apos pos : Pos} {x y : Str} (ho : Ev C k env F o (.str x)) (ha : Ev C k env F a (.str y))
    (hbase : attributeBase o "startswith" env (eval o env) = eval o env := by rfl) (hfew : ((backTo pos (starEach [a] env)).all (fun x => !x.1) && (backToKw pos (keywordEach [] env)).all (fun x => x.1.isSome)
      && decide ([a].length + ([] : List Keyword).length + (if ([] : List Keyword).isEmpty then 0 else 1) < 30)) = true := by rfl) (hline : (apos.endLine == pos.line) = true := by rfl) (hfl : Flat [a] env pos := by exact flat_of (by rfl)) :
    Ev C k env F (.Call (.Attribute o "startswith" apos) [a] [] pos) (.bool (Txt.startswith x y)) :=
  Ev.methS PySem.F.slot_str_startswith PySem.F.type_str_startswith PySem.F.entry_str_startswith ho (.cons ha .nil) (by simp) (fun A st s t vs Q R O hvs hQ => by
    cases hvs with | cons h1 h2 => cases h2; cases h1; exact SC.startswith (hQ _ _ _ (.bool _) (Then.refl O.sub))) hbase hfew hline hfl
theorem Ev.endswith {o a : Expr} {apos pos : Pos} {x y : Str} (ho : Ev C k env F o (.str x)) (ha : Ev C k env F a (.str y))
    (hbase : attributeBase o "endswith" env (eval o env) = eval o env := by rfl) (hfew : ((backTo pos (starEach [a] env)).all (fun x => !x.1) && (backToKw pos (keywordEach [] env)).all (fun x => x.1.isSome)
      && decide ([a].length + ([] : List Keyword).length + (if ([] : List Keyword).isEmpty then 0 else 1) < 30)) = true := by rfl) (hline : (apos.endLine == pos.line) = true := by rfl) (hfl : Flat [a] env pos := by exact flat_of (by rfl)) :
    Ev C k env F (.Call (.Attribute o "endswith" apos) [a] [] pos) (.bool (Txt.endswith x y)) :=
  Ev.methS PySem.F.slot_str_endswith PySem.F.type_str_endswith PySem.F.entry_str_endswith ho (.cons ha .nil) (by simp) (fun A st s t vs Q R O hvs hQ => by
    cases hvs with | cons h1 h2 => cases h2; cases h1; exact SC.endswith (hQ _ _ _ (.bool _) (Then.refl O.sub))) hbase hfew hline hfl
theorem Ev.find {o a b c : Expr} {apos pos : Pos} {x y : Str} {i j : Int} (ho : Ev C k env F o (.str x)) (ha : Ev C k env F a (.str y)) (hb : Ev C k env F b (.int i)) (hc : Ev C k env F c (.int j))
    (hbase : attributeBase o "find" env (eval o env) = eval o env := by rfl) (hfew : ((backTo pos (starEach [a, b, c] env)).all (fun x => !x.1) && (backToKw pos (keywordEach [] env)).all (fun x => x.1.isSome)
      && decide ([a, b, c].length + ([] : List Keyword).length + (if ([] : List Keyword).isEmpty then 0 else 1) < 30)) = true := by rfl) (hline : (apos.endLine == pos.line) = true := by rfl) (hfl : Flat [a, b, c] env pos := by exact flat_of (by rfl)) :
    Ev C k env F (.Call (.Attribute o "find" apos) [a, b, c] [] pos) (.int (find4 x y i j)) :=
  Ev.methS PySem.F.slot_str_find PySem.F.type_str_find PySem.F.entry_str_find ho (.cons ha (.cons hb (.cons hc .nil))) (by simp) (fun A st s t vs Q R O hvs hQ => by
    cases hvs with | cons h1 h2 => cases h2 with | cons h2 h3 => cases h3 with | cons h3 h4 =>
      cases h4; cases h1; cases h2; cases h3
      exact call_gives PySem.F.slot_str_find (typeIs_str _ _ _) PySem.F.entry_str_find (PySem.F.args_str_find_4 _ _ _ _) (gives_find4 x y i j _ _ _ _) (hQ _ _ _ (.int _ _) (Then.toks O.sub))) hbase hfew hline hfl

theorem strs_of {st : St} : ∀ {vs : List Value} {xs : List Str}, Reps st vs (xs.map .str) → ∃ l : List (Str × Tok), vs = strValues l ∧ l.map (·.1) = xs
  | _, [], h => by cases h; exact ⟨[], rfl, rfl⟩
  | _, n :: ns, h => by
    cases h with | cons h1 h2 =>
      cases h1
      obtain ⟨xs, rfl, rfl⟩ := strs_of h2
      exact ⟨(n, _) :: xs, rfl, rfl⟩
theorem reps_strs {st : St} : ∀ (l : List (Str × Tok)), Reps st (strValues l) ((l.map (·.1)).map .str)
  | [] => .nil
  | (x, t) :: l => .cons (.str _ _) (reps_strs l)
theorem Ev.join {o a : Expr} {apos pos : Pos} {x : Str} {xs : List Str} (ho : Ev C k env F o (.str x)) (ha : Ev C k env F a (.lst (xs.map .str))) (hJ : JoinOk x xs = true)
    (hbase : attributeBase o "join" env (eval o env) = eval o env := by rfl) (hfew : ((backTo pos (starEach [a] env)).all (fun x => !x.1) && (backToKw pos (keywordEach [] env)).all (fun x => x.1.isSome)
      && decide ([a].length + ([] : List Keyword).length + (if ([] : List Keyword).isEmpty then 0 else 1) < 30)) = true := by rfl) (hline : (apos.endLine == pos.line) = true := by rfl) (hfl : Flat [a] env pos := by exact flat_of (by rfl)) :
    Ev C k env F (.Call (.Attribute o "join" apos) [a] [] pos) (.str (Txt.join x xs)) :=
  Ev.methS PySem.F.slot_str_join PySem.F.type_str_join PySem.F.entry_str_join ho (.cons ha .nil) (by simp) (fun A st s t vs Q R O hvs hQ => by
    cases hvs with | cons h1 h2 =>
      cases h2
      cases h1 with | lst e r =>
        obtain ⟨l, hl, rfl⟩ := strs_of r
        rename_i arr nn
        exact SC.join (l := l) ⟨_, O.sub _ _ e, rfl, nn, by rw [← hl]⟩ rfl hJ fun t' k => hQ _ st _ (.str _ _) (Then.toks O.sub)) hbase hfew hline hfl
theorem Ev.lower {o : Expr} {apos pos : Pos} {x : Str} (ho : Ev C k env F o (.str x)) (hlen : Builtin.Str.tooLong (Txt.lower x).length = false)
    (hbase : attributeBase o "lower" env (eval o env) = eval o env := by rfl) (hfew : ((backTo pos (starEach [] env)).all (fun x => !x.1) && (backToKw pos (keywordEach [] env)).all (fun x => x.1.isSome)
      && decide (([] : List Expr).length + ([] : List Keyword).length + (if ([] : List Keyword).isEmpty then 0 else 1) < 30)) = true := by rfl) (hline : (apos.endLine == pos.line) = true := by rfl) :
    Ev C k env F (.Call (.Attribute o "lower" apos) [] [] pos) (.str (Txt.lower x)) :=
  Ev.meth ho (fun A st s v Q R I hv hQ => by cases hv; exact SB.lower hlen (hQ _ _ _ (.str _ _) (Then.toks I.sub))) hbase hfew hline rfl

-- a set of the top, a dict of the top
theorem op_inset {S : Int → Bool} {n : Nat} {a : Addr} {c : Int} (h : ∀ hp, C.On hp → hp.SetOf (intKind C.prog C.w) a S n) : Op2 C k (compareOp .In) (.int c) (.ref a) (.bool (S c)) := fun st s v u O h1 h2 A Q R hQ => by
  cases h1; cases h2
  exact wpAny_inSet_of (k := c) (by simp [intKind, Value.isInt]) rfl (h _ O.on) (hQ _ _ _ (.bool _) (Then.toks O.sub))

theorem Ev.dictget {o e : Expr} {apos pos : Pos} {a : Addr} {c : Int} {p : PV} (ho : Ev C k env F o (.ref a)) (he : Ev C k env F e (.int c)) (hne : (a == sysModules) = false)
    (h : ∀ hp, C.On hp → ∃ f : Int → Option Value, hp.MapOf (intKind C.prog C.w) a f ∧ ∀ st, Rep st ((f c).getD .none) p)
    (hbase : attributeBase o "get" env (eval o env) = eval o env := by rfl) (hfew : ((backTo pos (starEach [e] env)).all (fun x => !x.1) && (backToKw pos (keywordEach [] env)).all (fun x => x.1.isSome)
      && decide ([e].length + ([] : List Keyword).length + (if ([] : List Keyword).isEmpty then 0 else 1) < 30)) = true := by rfl) (hline : (apos.endLine == pos.line) = true := by rfl) (hfl : Flat [e] env pos := by exact flat_of (by rfl)) :
    Ev C k env F (.Call (.Attribute o "get" apos) [e] [] pos) p := by
  refine Ev.meth ho (fun A st s v Q R I hv hQ => ?_) hbase hfew hline hfl
  cases hv
  obtain ⟨f, hm, _⟩ := h _ I.on
  refine ⟨"dict", _, PySem.F.plainAttrs_dict, PySem.F.slot_dict_get, PySem.F.type_dict_get, hm.typeIs, fun b e => ?_, wpAny_dict_get1 (knd := intKind C.prog C.w) hne (he st s I A _ R fun v st' s' hv t => ?_)⟩
  · cases e; obtain ⟨o, es, ep, g1, g2, _⟩ := hm; exact ⟨o, g1, g2.2.1⟩
  · cases hv
    obtain ⟨f', hm', hr⟩ := h _ (I.step t).on
    exact ⟨c, f', by simp [intKind, Value.isInt], hm', hQ _ _ _ (hr st') (t.more ⟨_, _, rfl⟩ fun _ _ e => e)⟩

theorem bi_isbool {b : Bool} : Ev C k env F (.Constant (.bool b) 0 default) (.bool b) := Ev.bool
theorem Ev.isbool (N : FnEnv env) {np np2 pos : Pos} {e : Expr} {b : Bool} (hB : C.B "isinstance" (.builtin "isinstance")) (hT : C.B "bool" (.type "bool")) (h : Ev C k env F e (.bool b))
    (hx : env.kindOf "isinstance" = some .globalImplicit := by rfl) (hy : env.kindOf "bool" = some .globalImplicit := by rfl) (hfl : Flat [e, .Name "bool" np2] env pos := by exact flat_of (by rfl)) :
    Ev C k env F (.Call (.Name "isinstance" np) [e, .Name "bool" np2] [] pos) (.bool true) := fun st s I A Q R hQ => by
  show wpAny C.M A (do callWith pos (← eval (.Name "isinstance" np) env) [] (backTo pos (starEach [e, .Name "bool" np2] env)) (backToKw pos (keywordEach [] env))) Q _ s
  refine wpAny_bind (name_builtin N hB hx (by decide) I ?_)
  rw [hfl]
  refine callWith_builtin rfl (evalArgs_plain (spliced_cons (h st s I A _ R fun v st' s' hv t => spliced_cons (name_builtin N hT hy (by decide) (I.step t) (spliced_nil ?_)))))
  cases hv
  exact IsiPair.bool_bool (hQ _ _ _ (.bool _) t)

-- made lists
theorem reps_at {st : St} : ∀ {vs : List Value} {ps : List PV}, vs.length = ps.length → (∀ (i : Nat) v p, vs[i]? = some v → ps[i]? = some p → Rep st v p) → Reps st vs ps
  | [], [], _, _ => .nil
  | v :: vs, p :: ps, h, hp => .cons (hp 0 v p rfl rfl) (reps_at (by simpa using h) fun i u q h1 h2 => hp (i + 1) u q (by simpa using h1) (by simpa using h2))
theorem itemsOf_reps {st : St} {P : Nat → Value → Prop} {acc : Array Value} {ps : List PV} (h : ItemsOf P acc ps.length) (hp : ∀ i v p, P i v → ps[i]? = some p → Rep st v p) : Reps st acc.toList ps :=
  reps_at (by simpa using h.1) fun i v p h1 h2 => hp i v p (h.2 i v (by simpa using h1)) h2
end
end Mine
end

section
open PySem PySem.W PyProof.Rows PySem.Calls
set_option linter.all false
set_option maxRecDepth 100000
namespace Mine

def Fm.own (F : Fm) (a : Addr) (ps : List PV) : Fm := { F with ow := fun b => if b = a then some ps else F.ow b }
def Fm.freeze (F : Fm) (x : Str) (a : Addr) (ps : List PV) : Fm := { m := fun y => if y = x then some (.lst ps) else F.m y, ow := fun b => if b = a then none else F.ow b }

/-- an expression makes a new list -/
def EvO (C : Cx) (k : Nat) (env : Env) (F : Fm) (e : Expr) (ps : List PV) : Prop :=
  ∀ st s (A : Around) (Q : Value → Shared → Prop), Inv C st env F s → Room k A →
    (∀ a vs n st' s', Then st s st' s' → s.heap.get? a = none → st' a = none → s'.heap.get? a = some { cls := .type "list", data := .seq vs n } → Reps st' vs.toList ps → Q (.ref a) s') → wpAny C.M A (eval e env) Q (fun _ _ => False) s

section
variable {C : Cx} {k : Nat} {env : Env} {F : Fm} {P : Out → Prop}

theorem Inv.addOwn {st : St} {s : Shared} {a : Addr} {ps : List PV} {vs : Array Value} {n : Nat} (I : Inv C st env F s) (h : OwnAt st env s a ps) : Inv C st env (F.own a ps) s :=
  { I with
    own := fun b qs hb => by
      have hb : (if b = a then some ps else F.ow b) = some qs := hb
      by_cases e : b = a
      · subst e; rw [if_pos rfl] at hb; cases hb; exact h
      · rw [if_neg e] at hb; exact I.own b qs hb }

theorem Ex.assignO {x : Str} {xp pos : Pos} {e : Expr} {ps : List PV} (h : EvO C k env F e ps) (hp : ∀ a, F.ow a = none → P (.next ((F.set x (.ref a)).own a ps))) (hx : Nm env x) (hs : swapsWith e (some (.Name x xp)) pos.line env = pure false := by rfl) :
    Ex C k env F (.Assign [.Name x xp] e pos) P := fun A st s Q R I fin =>
  wpAny_Assign_Name (h st s A _ I R fun a vs n st' s' t hd off hn hr => by
    have no := I.new_off hd
    refine hx.store (I.step t) (.ref a) fun s'' I' m => ?_
    have ha : s''.heap.get? a = some { cls := .type "list", data := .seq vs n } := m.keep a _ no.1 (fun y hy => no.2.1 y a hy rfl) no.2.2 hn
    refine fin.next _ st' _ (hp a no.2.2) (I'.addOwn (vs := vs) (n := n) ⟨off, no.1, fun y c hc => no.2.1 y c hc, vs, n, ha, hr⟩) ?_
    have mm := (Then.mod (env := env) (ow := F.ow) t).trans m
    refine ⟨mm.le, mm.fresh, mm.keep, fun b hb => ?_, mm.alive, mm.same⟩
    have hb : (if b = a then some ps else F.ow b) ≠ none := hb
    by_cases e : b = a
    · right; rw [e]; exact hd
    · rw [if_neg e] at hb; exact .inl hb) hs

theorem Ev.item_own {e i : Expr} {pos : Pos} {a : Addr} {ps : List PV} {n : Int} {j : Nat} {p : PV} (he : Ev C k env F e (.ref a)) (ho : F.ow a = some ps) (hi : Ev C k env F i (.int n)) (hj : At n ps.length j) (hp : ps[j]? = some p)
    (hb : ps.length < 2 ^ 60) (hs : Plain i := by intro _ _; rfl) : Ev C k env F (.Subscript e i pos) p := fun st s I A Q R hQ => by
  refine Subscript_ (he st s I A _ R fun v st₁ s₁ h1 t1 => hi st₁ s₁ (I.step t1) A _ R fun u st₂ s₂ h2 t2 => ?_)
  cases h1; cases h2
  obtain ⟨_, _, _, vs, nn, hL, r⟩ := ((I.step t1).step t2).own a ps ho
  have ht : s₂.heap.IsList a vs := ⟨_, hL, rfl, nn, rfl⟩
  have hl := r.length
  simp only [Array.length_toList] at hl
  obtain ⟨v, hv, rv⟩ := r.get hp
  have q := hQ _ _ _ rv (t1.trans t2)
  refine tail_any ht.typeIs slot_list_getitem.lookup ?_ (hs _ _)
  obtain ⟨h0, h | h⟩ := hj
  · refine wpAny_getItem_list ht (by omega) (by omega) ?_ q
    subst h; simpa using hv
  · refine wpAny_getItem_list_neg ht (by omega) (by omega) (by omega) ?_ q
    subst h
    rw [hl, show ((j : Int) - ps.length + ps.length).toNat = j by omega]
    simpa using hv

theorem Ev.len_own (N : FnEnv env) {np pos : Pos} {e : Expr} {a : Addr} {ps : List PV} (hB : C.B "len" (.builtin "len")) (he : Ev C k env F e (.ref a)) (ho : F.ow a = some ps) (hb : ps.length < 2 ^ 60)
    (hx : env.kindOf "len" = some .globalImplicit := by rfl) (hfl : Flat [e] env pos := by exact flat_of (by rfl)) : Ev C k env F (.Call (.Name "len" np) [e] [] pos) (.int ps.length) := fun st s I A Q R hQ => by
  show wpAny C.M A (do callWith pos (← eval (.Name "len" np) env) [] (backTo pos (starEach [e] env)) (backToKw pos (keywordEach [] env))) Q _ s
  refine wpAny_bind (name_builtin N hB hx (by decide) I ?_)
  refine callWith_b (.inl ⟨_, rfl⟩) (.cons he .nil) hfl I R fun vs st' s' hvs t => ?_
  cases hvs with | cons h1 h2 =>
    cases h2; cases h1
    obtain ⟨_, _, _, vs, nn, hL, r⟩ := (I.step t).own a ps ho
    have hl := r.length
    simp only [Array.length_toList] at hl
    rw [← hl] at hQ
    exact len_list ⟨_, hL, rfl, nn, rfl⟩ (by omega) (hQ _ _ _ (.int _ _) (t.more ⟨_, _, rfl⟩ fun _ _ e => e))

theorem Inv.setOwn {st : St} {s : Shared} {a : Addr} {ps qs : List PV} {vs : Array Value} {n : Nat} {h' : Heap} (I : Inv C st env F s) (ho : F.ow a = some ps) (hs : Heap.SameBut a s.heap h') (hL : h'.get? a = some { cls := .type "list", data := .seq vs n }) (hr : Reps st vs.toList qs) :
    Inv C st env (F.own a qs) { s with heap := h' } := by
  obtain ⟨h1, h2, h3, _⟩ := I.own a ps ho
  refine ⟨fun b o e => hs.extBut b o (by rintro rfl; rw [h1] at e; cases e) (I.sub b o e), I.good, I.offL, I.offC, I.inj, ?_, ?_, ?_, ?_, I.gens⟩
  · obtain ⟨vm, a1, a2⟩ := I.ns
    exact ⟨vm, a1.sameBut hs (Ne.symm h2), a2⟩
  · intro x p hk hx
    obtain ⟨c, v, a1, a2, a3⟩ := I.cel x p hk hx
    exact ⟨c, v, a1, a2.sameBut hs (Ne.symm (h3 x c a1)), a3⟩
  · intro x c hc
    obtain ⟨v, a1⟩ := I.aliveC x c hc
    exact ⟨v, a1.sameBut hs (Ne.symm (h3 x c hc))⟩
  · intro b rs hb
    have hb : (if b = a then some qs else F.ow b) = some rs := hb
    by_cases e : b = a
    · subst e; rw [if_pos rfl] at hb; cases hb; exact ⟨h1, h2, h3, vs, n, hL, hr⟩
    · rw [if_neg e] at hb
      obtain ⟨b1, b2, b3, ws, m, b4, b5⟩ := I.own b rs hb
      exact ⟨b1, b2, b3, ws, m, hs.extBut b _ e b4, b5⟩
theorem Mod.setOwn {st : St} {s : Shared} {a : Addr} {ps qs : List PV} {o' : Obj} {h' : Heap} (ho : F.ow a = some ps) (hs : Heap.SameBut a s.heap h') (hL : h'.get? a = some o') : Mod env st F.ow s st (F.own a qs).ow { s with heap := h' } where
  le := fun _ _ e => e
  fresh := fun _ _ e => .inl e
  keep := fun b o _ _ hb e => hs.extBut b o (by rintro rfl; rw [ho] at hb; cases hb) e
  own := fun b hb => by
    have hb : (if b = a then some qs else F.ow b) ≠ none := hb
    left
    by_cases e : b = a
    · rw [e, ho]; simp
    · rw [if_neg e] at hb; exact hb
  alive := fun b o e => by
    by_cases q : b = a
    · exact ⟨o', q ▸ hL⟩
    · exact ⟨o, hs.extBut b o q e⟩
  same := ⟨_, _, rfl⟩

theorem eraseIdx_reps {st : St} : ∀ {vs : List Value} {ps : List PV} (j : Nat), Reps st vs ps → Reps st (vs.eraseIdx j) (ps.eraseIdx j)
  | _, _, _, .nil => .nil
  | _, _, 0, .cons _ r => r
  | _, _, j + 1, .cons e r => .cons e (eraseIdx_reps j r)

theorem Ex.del {e i : Expr} {ip pos : Pos} {a : Addr} {ps : List PV} {n : Int} {j : Nat} (he : Ev C k env F e (.ref a)) (ho : F.ow a = some ps) (hi : Ev C k env F i (.int n)) (hj : At n ps.length j) (hb : ps.length ≤ sizeLine) (hp : P (.next (F.own a (ps.eraseIdx j)))) :
    Ex C k env F (.Delete [.Subscript e i ip] pos) P := fun A st s Q R I fin => by
  refine wpAny_Delete (wpAny_deleteEach_cons (wpAny_delete_Subscript (he st s I A _ R fun v st₁ s₁ h1 t1 => hi st₁ s₁ (I.step t1) A _ R fun u st₂ s₂ h2 t2 => ?_)))
  cases h1; cases h2
  have I₂ := (I.step t1).step t2
  obtain ⟨_, _, _, vs, nn, hL, r⟩ := I₂.own a ps ho
  have hl := r.length
  simp only [Array.length_toList] at hl
  rw [size24] at hb
  refine wpAny_delItem_plain (k := j) ⟨_, hL⟩ (by unfold Builtin.List.listFitsIndex; obtain ⟨_, h | h⟩ := hj <;> simp <;> omega) (by rw [hl]; exact hj.seq) (fun h' hP hs => wpAny_deleteEach_nil ?_) (by rw [hl, size24]; exact hb)
  obtain ⟨m, hm⟩ := hP
  have hlt : j < vs.size := by rw [hl]; exact hj.1
  have e : (vs.eraseIdxIfInBounds j).toList = vs.toList.eraseIdx j := by
    rw [Array.eraseIdxIfInBounds, dif_pos hlt]; simp
  exact fin.next _ st₂ _ hp (I₂.setOwn ho hs hm (by rw [e]; exact eraseIdx_reps j r)) ((t1.trans t2).mod.trans (Mod.setOwn ho hs hm))

/-- an own list becomes plain data -/
theorem Tr.freeze {t : Sem Flow} {x : Str} {a : Addr} {ps : List PV} (hx : F.m x = some (.ref a)) (ho : F.ow a = some ps) (h : Tr C k env (F.freeze x a ps) t P) : Tr C k env F t P := fun A st s Q R I fin => by
  obtain ⟨h1, h2, h3, vs, n, hL, r⟩ := I.own a ps ho
  have rep : Rep (st.add a { cls := .type "list", data := .seq vs n }) (.ref a) (.lst ps) := .lst (St.add_self h1) (r.le St.add_le)
  have ne : ∀ {b}, b ≠ a → st b = none → st.add a { cls := .type "list", data := .seq vs n } b = none := fun {b} hb hn => by unfold St.add; rw [hn]; simp [hb]
  have vref : ∀ {v : Value}, Rep st v (.ref a) → v = .ref a := fun hv => by cases hv; rfl
  have I' : Inv C (st.add a { cls := .type "list", data := .seq vs n }) env (F.freeze x a ps) s := by
    refine ⟨fun b o e => ?_, I.good.le St.add_le, ne (Ne.symm h2) I.offL, fun y c hc => ⟨ne (Ne.symm (h3 y c hc)) (I.offC y c hc).1, (I.offC y c hc).2⟩, I.inj, ?_, ?_, I.aliveC, ?_, I.gens⟩
    · rcases St.add_cases e with e | ⟨rfl, rfl⟩
      · exact I.sub _ _ e
      · exact hL
    · obtain ⟨vm, g1, g2⟩ := I.ns
      refine ⟨vm, g1, fun y q hy hq => ?_⟩
      have hq : (if y = x then some (.lst ps) else F.m y) = some q := hq
      by_cases e : y = x
      · subst e; rw [if_pos rfl] at hq; cases hq
        obtain ⟨v, a1, a2⟩ := g2 y _ hy hx
        rw [vref a2] at a1
        exact ⟨_, a1, rep⟩
      · rw [if_neg e] at hq
        obtain ⟨v, a1, a2⟩ := g2 y q hy hq
        exact ⟨v, a1, a2.le St.add_le⟩
    · intro y q hy hq
      have hq : (if y = x then some (.lst ps) else F.m y) = some q := hq
      by_cases e : y = x
      · subst e; rw [if_pos rfl] at hq; cases hq
        obtain ⟨c, v, a1, a2, a3⟩ := I.cel y _ hy hx
        rw [vref a3] at a2
        exact ⟨c, _, a1, a2, rep⟩
      · rw [if_neg e] at hq
        obtain ⟨c, v, a1, a2, a3⟩ := I.cel y q hy hq
        exact ⟨c, v, a1, a2, a3.le St.add_le⟩
    · intro b qs hb
      have hb : (if b = a then none else F.ow b) = some qs := hb
      by_cases e : b = a
      · rw [if_pos e] at hb; cases hb
      · rw [if_neg e] at hb
        obtain ⟨b1, b2, b3, ws, m, b4, b5⟩ := I.own b qs hb
        exact ⟨ne e b1, b2, b3, ws, m, b4, b5.le St.add_le⟩
  refine h A _ s Q R I' (fin.after ⟨St.add_le, fun b o e => ?_, fun b o _ _ _ e => e, fun b hb => ?_, fun b o e => ⟨o, e⟩, .refl s⟩)
  · rcases St.add_cases e with e | ⟨rfl, rfl⟩
    · exact .inl e
    · right; right; rw [ho]; simp
  · have hb : (if b = a then none else F.ow b) ≠ none := hb
    by_cases e : b = a
    · rw [if_pos e] at hb; exact absurd rfl hb
    · rw [if_neg e] at hb; exact .inl hb

theorem repsFrom {st : St} : ∀ (tk : Nat) (xs : List Str), Reps st (strsFrom tk xs) (xs.map .str)
  | _, [] => .nil
  | tk, x :: xs => .cons (.str _ _) (repsFrom (tk + 1) xs)
theorem EvO.split {o a : Expr} {apos pos : Pos} {x y : Str} (ho : Ev C k env F o (.str x)) (ha : Ev C k env F a (.str y)) (hy : (y.length == 0) = false) (hx : x.length ≤ sizeLine)
    (hn : (Builtin.Str.partsBetween x (Builtin.Str.occurrences x y 0 x.length (x.length + 1)) y.length).length ≤ sizeLine)
    (hbase : attributeBase o "split" env (eval o env) = eval o env := by rfl) (hfew : ((backTo pos (starEach [a] env)).all (fun x => !x.1) && (backToKw pos (keywordEach [] env)).all (fun x => x.1.isSome)
      && decide ([a].length + ([] : List Keyword).length + (if ([] : List Keyword).isEmpty then 0 else 1) < 30)) = true := by rfl) (hline : (apos.endLine == pos.line) = true := by rfl) (hfl : Flat [a] env pos := by exact flat_of (by rfl)) : EvO C k env F (.Call (.Attribute o "split" apos) [a] [] pos) ((Txt.split x y).map .str) := by
  intro st s A Q I R hQ
  refine wpAny_Call_method_lateS hbase hfew hline (ho st s I A _ R fun v st₁ s₁ hv t1 => ?_)
  rw [hfl]
  cases hv
  refine ⟨"str", _, PySem.F.plainAttrs_str, PySem.F.slot_str_split, PySem.F.type_str_split, typeIs_str _ _ _, (fun _ e => nomatch e), callWith_builtin rfl (evalArgs_plain (Evs.wp (.cons ha .nil) (I.step t1) R rfl fun vs st' s' hvs t => ?_))⟩
  cases hvs with | cons h1 h2 =>
    cases h2; cases h1
    have I' := (I.step t1).step t
    have T := t1.trans t
    have fin : ∀ (s'' : Shared) (D : Addr) (vs : Array Value) (n : Nat), s''.heap.get? D = some { cls := .type "list", data := .seq vs n } → D = s'.heap.objs.size → (∀ b o, s'.heap.get? b = some o → s''.heap.get? b = some o) → Same s' s'' → Reps st' vs.toList ((Txt.split x y).map .str) → Q (.ref D) s'' := fun s'' D vs n hD hDe hk hs hr =>
      hQ D vs n st' s'' (T.more hs hk) (T.size_new (by rw [hDe]; exact Nat.le_refl _)) (by rw [hDe]; exact off_size I'.sub) hD hr
    have tys : ∀ _ : Nat, Txt.split x y = (if (decide (x.length < y.length) || decide (Builtin.Str.strKind x < Builtin.Str.strKind y)) = true then [x] else if (Builtin.Str.occurrences x y 0 x.length (x.length + 1)).isEmpty = true then [x] else Builtin.Str.partsBetween x (Builtin.Str.occurrences x y 0 x.length (x.length + 1)) y.length) := fun _ => rfl
    cases h1 : (decide (x.length < y.length) || decide (Builtin.Str.strKind x < Builtin.Str.strKind y)) with
    | false =>
      cases hf : (Builtin.Str.occurrences x y 0 x.length (x.length + 1)).isEmpty with
      | false =>
        refine call_meets PySem.F.slot_str_split (typeIs_str _ _ _) PySem.F.entry_str_split (PySem.F.args_str_split_2 _ _) (meets_str_split_sep x y _ _ h1 hy hf hx hn) ?_
        refine fin _ _ _ _ (Heap.get?_push_size _ rfl) rfl (fun b o e => Heap.get?_push_of_some _ e) ⟨_, _, rfl⟩ ?_
        rw [tys 0, h1, hf]
        exact repsFrom _ _
      | true =>
        refine call_meets PySem.F.slot_str_split (typeIs_str _ _ _) PySem.F.entry_str_split (PySem.F.args_str_split_2 _ _) (meets_str_split_not_found x y _ _ h1 hy hf) ?_
        refine fin _ _ _ _ (Heap.get?_push_size _ rfl) rfl (fun b o e => Heap.get?_push_of_some _ e) ⟨_, _, rfl⟩ ?_
        rw [tys 0, h1, hf]
        exact .cons (.str _ _) .nil
    | true =>
      refine call_meets PySem.F.slot_str_split (typeIs_str _ _ _) PySem.F.entry_str_split (PySem.F.args_str_split_2 _ _) (meets_str_split_cannot_occur x y _ _ h1) ?_
      refine fin _ _ _ _ (Heap.get?_push_size _ rfl) rfl (fun b o e => Heap.get?_push_of_some _ e) ⟨_, _, rfl⟩ ?_
      rw [tys 0, h1]
      exact .cons (.str _ _) .nil
end
end Mine
end

section
open PySem PySem.W PyProof.Rows PySem.Calls
set_option linter.all false
set_option maxRecDepth 100000
namespace Mine
section
variable {C : Cx} {k : Nat} {env : Env} {F : Fm} {P : Out → Prop}
theorem Ex.assign2 {x y : Str} {xp yp tp pos : Pos} {kd : Nat} {e : Expr} {p q : PV} (h : Ev C k env F e (.tup [p, q])) (hx : Nm env x) (hy : Nm env y) (hp : P (.next ((F.set y q).set x p)))
    (hs : swapsWithSole [.Tuple [.Name x xp, .Name y yp] kd tp] e pos.line env = pure false := by rfl) (hsw : swappedStores [.Tuple [.Name x xp, .Name y yp] kd tp] e env = pure (some [x, y]) := by rfl) :
    Ex C k env F (.Assign [.Tuple [.Name x xp, .Name y yp] kd tp] e pos) P := fun A st s Q R I fin => by
  refine Assign_Tuple_swapped (h st s I A _ R fun v st₁ s₁ hv t => ?_) hs hsw
  cases hv with | tup e r =>
    have ht := isT t.sub e
    have hl := r.length
    simp only [Array.length_toList, List.length_cons, List.length_nil] at hl
    have hsz : [x, y].length = _ := hl.symm
    have I₁ := I.step t
    rw [hsz]
    refine unpackItems_tuple R.handled ht fun h' he => ?_
    have t2 : Then st s st₁ { s₁ with heap := h' } := t.more ⟨_, s₁.toks, rfl⟩ fun b o eb => he b o (Nat.ne_of_lt (alive_lt eb)) eb
    generalize hz : Array.toList _ = items at r
    cases r with | cons r1 r2 => cases r2 with | cons r2 r3 =>
      cases r3
      refine wpAny_bind (wpAny_holding (bindName_ (hy.store (I.step t2) r2 fun s₃ I₃ m₃ => ?_)))
      refine wpAny_bind (wpAny_holding (bindName_ (hx.store I₃ r1 fun s₄ I₄ m₄ => ?_)))
      exact wpAny_pure (fin.next _ _ _ hp I₄ ((t2.mod.trans m₃).trans m₄))
end
end Mine
end

section
open PySem PySem.W PyProof.Rows PySem.Calls
set_option linter.all false
namespace Mine

def sps (xs : List L) : List PV := xs.map fun x => .str (S x)
def ips (xs : List Int) : List PV := xs.map .int
theorem sps_flat : ∀ xs : List L, PV.flats (sps xs) = true
  | [] => rfl
  | x :: xs => by show PV.flats (.str (S x) :: sps xs) = true; simp [PV.flats, PV.flat, sps_flat xs]
theorem ips_flat : ∀ xs : List Int, PV.flats (ips xs) = true
  | [] => rfl
  | x :: xs => by show PV.flats (.int x :: ips xs) = true; simp [PV.flats, PV.flat, ips_flat xs]
def Lay (x : L) : Prop := ∀ c ∈ x, c < 0x110000
theorem lay_str {x : L} (h : Lay x) : PyData.canLay0 (.str (S x)) = true := by
  rw [PyData.canLay0]
  unfold PyData.strOk S
  rw [List.all_toArray, List.all_eq_true]
  exact fun c hc => decide_eq_true (h c hc)
theorem sps_lay : ∀ {xs : List L}, (∀ x ∈ xs, Lay x) → PyData.canLayAll0 (PV.datas (sps xs)) = true
  | [], _ => by show PyData.canLayAll0 (PV.datas []) = true; rw [PV.datas, PyData.canLayAll0]
  | x :: xs, h => by
    show PyData.canLayAll0 (PV.datas (.str (S x) :: sps xs)) = true
    rw [PV.datas, PyData.canLayAll0, PV.data, lay_str (h x (.head _)), sps_lay fun y hy => h y (.tail _ hy)]; rfl
theorem ips_lay : ∀ {xs : List Int}, PyData.canLayAll0 (PV.datas (ips xs)) = true
  | [] => by show PyData.canLayAll0 (PV.datas []) = true; rw [PV.datas, PyData.canLayAll0]
  | x :: xs => by
    show PyData.canLayAll0 (PV.datas (.int x :: ips xs)) = true
    rw [PV.datas, PyData.canLayAll0, PV.data, PyData.canLay0, ips_lay]; rfl
theorem sps_depth : ∀ (xs : List L), PyData.depthAll (PV.datas (sps xs)) = 0
  | [] => by show PyData.depthAll (PV.datas []) = 0; rw [PV.datas, PyData.depthAll]
  | x :: xs => by
    show PyData.depthAll (PV.datas (.str (S x) :: sps xs)) = 0
    rw [PV.datas, PyData.depthAll, PV.data, PyData.depth, sps_depth xs]; rfl
theorem ips_depth : ∀ (xs : List Int), PyData.depthAll (PV.datas (ips xs)) = 0
  | [] => by show PyData.depthAll (PV.datas []) = 0; rw [PV.datas, PyData.depthAll]
  | x :: xs => by
    show PyData.depthAll (PV.datas (.int x :: ips xs)) = 0
    rw [PV.datas, PyData.depthAll, PV.data, PyData.depth, ips_depth xs]; rfl
theorem sps_eqv : ∀ (xs ys : List L), PyData.eqvAll (PV.datas (sps xs)) (PV.datas (sps ys)) = decide (xs = ys)
  | [], [] => by show PyData.eqvAll (PV.datas []) (PV.datas []) = _; rw [PV.datas, PyData.eqvAll]; simp
  | x :: xs, [] => by show PyData.eqvAll (PV.datas (.str (S x) :: sps xs)) (PV.datas []) = _; rw [PV.datas, PV.datas, PyData.eqvAll]; simp
  | [], y :: ys => by show PyData.eqvAll (PV.datas []) (PV.datas (.str (S y) :: sps ys)) = _; rw [PV.datas, PV.datas, PyData.eqvAll]; simp
  | x :: xs, y :: ys => by
    show PyData.eqvAll (PV.datas (.str (S x) :: sps xs)) (PV.datas (.str (S y) :: sps ys)) = _
    rw [PV.datas, PV.datas, PyData.eqvAll, sps_eqv xs ys, PV.data, PV.data, PyData.eqv]
    by_cases h : x = y
    · subst h; simp
    · have : (S x == S y) = false := beq_eq_false_iff_ne.mpr fun e => h (S_inj e)
      rw [this]; simp [h]
theorem ips_nil : ∀ (xs : List Int), PyData.eqvAll (PV.datas (ips xs)) (PV.datas []) = xs.isEmpty
  | [] => by show PyData.eqvAll (PV.datas []) (PV.datas []) = _; rw [PV.datas, PyData.eqvAll]; rfl
  | x :: xs => by show PyData.eqvAll (PV.datas (.int x :: ips xs)) (PV.datas []) = _; rw [PV.datas, PV.datas, PyData.eqvAll]; rfl

section
variable {C : Cx} {k : Nat}
theorem op_sps_ne {xs : List L} {q : PV} (hq : q = .lst (sps xs)) (h : ∀ x ∈ xs, Lay x) : Op2 C k (compareOp .NotEq) q (.lst []) (.bool (!xs.isEmpty)) := by
  subst hq
  have key := op_dne (C := C) (k := k) (a := .lst (sps xs)) (b := .lst []) (by rw [PV.flat]; exact sps_flat xs) rfl (by rw [PV.data, PyData.canLay0]; exact sps_lay h) (by rw [PV.data, PV.datas, PyData.canLay0, PyData.canLayAll0])
    (by rw [PV.data, PV.data, PV.datas, PyData.depth, PyData.depth, sps_depth, PyData.depthAll]; decide)
  have e : PyData.eqv (PV.lst (sps xs)).data (PV.lst []).data = xs.isEmpty := by
    rw [PV.data, PV.data, PyData.eqv]
    have := sps_eqv xs []
    rw [show sps [] = [] from rfl] at this
    rw [this]
    cases xs <;> simp
  rw [e] at key
  exact key
theorem any_sps (x : L) : ∀ (xs : List L), ((PV.datas (sps xs)).any fun y => PyData.eqv y (PV.str (S x)).data) = xs.contains x
  | [] => by show (PV.datas []).any _ = _; rw [PV.datas]; rfl
  | y :: xs => by
    show (PV.datas (.str (S y) :: sps xs)).any _ = _
    rw [PV.datas, List.any_cons, any_sps x xs, PV.data, PV.data, PyData.eqv, List.contains_cons]
    congr 1
    by_cases h : y = x
    · subst h; simp
    · have : (S y == S x) = false := beq_eq_false_iff_ne.mpr fun e => h (S_inj e)
      rw [this]
      exact (beq_eq_false_iff_ne.mpr fun e => h e.symm).symm
theorem any_ips (x : Int) : ∀ (xs : List Int), ((PV.datas (ips xs)).any fun y => PyData.eqv y (PV.int x).data) = xs.contains x
  | [] => by show (PV.datas []).any _ = _; rw [PV.datas]; rfl
  | y :: xs => by
    show (PV.datas (.int y :: ips xs)).any _ = _
    rw [PV.datas, List.any_cons, any_ips x xs, PV.data, PV.data, PyData.eqv, List.contains_cons]
    congr 1
    exact Bool.beq_comm
end

theorem cut_map {α β : Type} (f : α → β) (l : List α) (lo hi : Option Int) : cut (l.map f) lo hi = (cut l lo hi).map f := by
  unfold cut; rw [List.length_map, List.map_take, List.map_drop]
end Mine
end

section
open PySem PySem.W PyProof.Rows PySem.Calls
set_option linter.all false
set_option maxRecDepth 100000
namespace Mine

def dots3 : Str := S [46, 46, 46]
def emLoop (g : Str) (e : Int) : List Str → Int → Bool
  | [], _ => true
  | w :: r, s => if find4 g w s e < 0 then false else emLoop g e r (find4 g w s e + w.length)
def em3 (t : Str) (ws : List Str) (s e : Int) : Bool := if s > e then false else emLoop t e ws s
def em2 (t : Str) (ws : List Str) (s : Int) : Bool :=
  let w := ws.getLastD ⟨#[]⟩
  if w.length ≠ 0 then (if Txt.endswith t w then em3 t (ws.eraseIdx (ws.length - 1)) s (t.length - w.length) else false) else em3 t ws s t.length
def em (p t : Str) : Bool :=
  if Txt.contains p dots3 = false then p == t else
    let ws := Txt.split p dots3
    let w := ws.headD ⟨#[]⟩
    if w.length ≠ 0 then (if Txt.startswith t w then em2 t (ws.eraseIdx 0) w.length else false) else em2 t ws 0

theorem getLast_at {α : Type} {l : List α} {d : α} (h : l ≠ []) : l[l.length - 1]? = some (l.getLastD d) := by
  rw [← List.getLast?_eq_getElem?, List.getLast?_eq_some_getLast h, List.getLastD_eq_getLast?, List.getLast?_eq_some_getLast h]; rfl
theorem head_at {α : Type} {l : List α} {d : α} (h : l ≠ []) : l[0]? = some (l.headD d) := by
  cases l with
  | nil => exact absurd rfl h
  | cons a l => rfl
theorem find4_le {g w : Str} {s e : Int} : find4 g w s e ≤ g.length := by
  unfold find4
  split
  · rename_i k r h
    have := PySem.StrLaws.occ_eq g w
    have hm := PySem.StrLaws.occ_spec g w (fromIndex g.length s) (min (fromIndex g.length e) g.length) 1 k (by rw [h]; exact .head _)
    have h1 := hm.1
    have h2 : min (fromIndex g.length e) g.length ≤ g.length := Nat.min_le_right _ _
    omega
  · omega
end Mine
end

section
open PySem PySem.W PyProof.Rows PySem.Calls
set_option linter.all false
set_option maxRecDepth 100000
namespace Mine

noncomputable def stAt (i : Nat) : Stmt := (pw.main.body[i]?).getD (.Pass default)
def fnBody : Stmt → List Stmt
  | .FunctionDef _ _ b _ _ _ _ _ _ _ => b
  | _ => []
def fnScope : Stmt → Scope
  | .FunctionDef _ _ _ _ _ _ sc _ _ _ => sc
  | _ => default
def fnPar : Stmt → Arguments
  | .FunctionDef _ a _ _ _ _ _ _ _ _ => a
  | _ => default
def fnName : Stmt → Str
  | .FunctionDef n _ _ _ _ _ _ _ _ _ => n
  | _ => default
def fnPos : Stmt → Pos
  | .FunctionDef _ _ _ _ _ _ _ _ _ p => p
  | _ => default
noncomputable def dr (i : Nat) : DefRec := ⟨fnName (stAt i), fnPar (stAt i), fnBody (stAt i), fnScope (stAt i), fnPos (stAt i)⟩

/-- what stands in the tables -/
def b1 (c : Int) : Bool := [65024, 65025, 65026, 65027, 65028, 65029, 6150, 65030, 65031, 65032, 65033, 6155, 6156, 6157, 8203, 8204, 8205, 65034, 65035, 65036, 65037, 65038, 65039, 173, 847, 8288, 65279].contains c
def b3tab : List (Int × PV) := [(46, .none), (107, .none), (75, .none), (99, .none), (111, .none), (67, .none), (79, .none), (10, .none), (13, .none), (13255, .str (S [99, 111, 46]))]
structure Is (C : Cx) : Prop where
  q : C.q = qv
  loose : C.loose = looseW qv ["_twin_re_1", "_twin_re_2", "b1_set", "b3_exceptions"]
  re1 : C.Pat "_twin_re_1" code1
  re2 : C.Pat "_twin_re_2" code2
  b1 : ∃ a, C.mg "b1_set" = some (.ref a) ∧ ∀ h, C.On h → h.SetOf (intKind C.prog C.w) a b1 27
  b3 : ∃ a, C.mg "b3_exceptions" = some (.ref a) ∧ (a == sysModules) = false ∧ ∀ x ∈ b3tab, ∀ h, C.On h → ∃ f : Int → Option Value, h.MapOf (intKind C.prog C.w) a f ∧ ∀ st, Rep st ((f x.1).getD .none) x.2

theorem find15 : (recsOf qv).find? (fun d => d.name == ("_law_row" : Str)) = some (dr 15) := by kernel_rfl

def rowPV (n : Int) : PV :=
  let w := if n % 4 = 0 ∧ n / 4 % 3 = 0 then 1 else n / 4 % 3
  .tup [.int (n % 4), .bool (n / 12 % 2 == 1), .int w]

theorem fn_law_row {C : Cx} (H : Is C) {k : Nat} (n : Int) : Fn C (k + 1) "_law_row" [.int n] (rowPV n) := by
  refine Fn.of (d := dr 15) (by rw [H.q]; exact find15) rfl (fun pm cd doc vs hl => ?_) (by decide +kernel) ?_ rfl rfl rfl fun L a cd N => ?_
  · match vs, hl with
    | [v], _ => rfl
  · intro n hn L
    left
    revert n
    show ∀ n ∈ _, _
    decide +kernel
  · refine Exs.cons (Ex.assign (Ev.bin (Ev.loc rfl) Ev.int (op_mod (by decide))) ?_ ⟨rfl, .inl rfl⟩)
    refine Exs.cons (Ex.assign (Ev.bin (Ev.bin (Ev.loc rfl) Ev.int (op_div (by decide))) Ev.int (op_mod (by decide))) ?_ ⟨rfl, .inl rfl⟩)
    have last : ∀ F' : Fm, F'.m "dots" = some (.int (n % 4)) → F'.m "number" = some (.int n) → F'.m "word" = some (.int (if n % 4 = 0 ∧ n / 4 % 3 = 0 then 1 else n / 4 % 3)) → Exs C k (envOfC (dr 15).name (dr 15).scope L a cd) F' ((fnBody (stAt 15)).drop 3) fun o => o = .ret (rowPV n) := fun F' h1 h2 h3 => by
      refine Exs.cons (Ex.ret (Ev.tuple (.cons (Ev.loc h1) (.cons (Ev.cmp (Ev.bin (Ev.bin (Ev.loc h2) Ev.int (op_div (by decide))) Ev.int (op_mod (by decide))) Ev.int op_eq) (.cons (Ev.loc h3) .nil)))) rfl)
    refine Exs.cons (Ex.if (Ts.and2 (Ts.cmp (Ev.loc rfl) Ev.int op_eq) (fun _ => Ts.cmp (Ev.loc rfl) Ev.int op_eq)) (fun h => ?_) fun h => ?_)
    · refine Exs.cons (Ex.assign Ev.int (Exs.nil (last _ rfl rfl ?_)) ⟨rfl, .inl rfl⟩)
      rw [if_pos (by simpa using h)]; rfl
    · refine Exs.nil (last _ rfl rfl ?_)
      rw [if_neg (by simpa using h)]; rfl
end Mine
end

section
open PySem PySem.W PyProof.Rows PySem.Calls
set_option linter.all false
set_option maxRecDepth 100000
namespace Mine

theorem find3 : (recsOf qv).find? (fun d => d.name == ("_ellipsis_match" : Str)) = some (dr 3) := by kernel_rfl
theorem ell : valOf qv "ELLIPSIS_MARKER" = some (.str dots3) := by kernel_rfl
theorem bLen {C : Cx} (H : Is C) : C.B "len" (.builtin "len") := Cx.builtin (by decide +kernel) (by rw [H.loose]; decide +kernel) (by rw [H.q]; decide +kernel) (by rw [H.q]; decide +kernel) (by rw [H.q, H.loose]; decide +kernel) (by decide +kernel) (by kernel_rfl)

noncomputable abbrev En (i : Nat) (L a : Addr) (cd : Value) : Env := envOfC (dr i).name (dr i).scope L a cd

section
variable {C : Cx} {k : Nat} {L a : Addr} {cd : Value}

theorem eraseIdx_map' (l : List Str) (j : Nat) : (l.map PV.str).eraseIdx j = (l.eraseIdx j).map PV.str := by
  induction l generalizing j with
  | nil => rfl
  | cons a l ih => cases j with
    | zero => rfl
    | succ j => simp [ih]
theorem emLoop_cons {g w : Str} {e s : Int} {r : List Str} : emLoop g e (w :: r) s = if find4 g w s e < 0 then false else emLoop g e r (find4 g w s e + w.length) := rfl
/-- the loop and the end -/
theorem em_tail (H : Is C) (N : FnEnv (En 3 L a cd)) {F : Fm} {t : Str} {ws : List Str} {s e : Int} (ht : t.length ≤ 1000000) (hw : ∀ w ∈ ws, w.length ≤ 1000000) (hn : ws.length ≤ 1000000) (h1 : F.m "got" = some (.str t)) (h2 : F.m "startpos" = some (.int s)) (h3 : F.m "endpos" = some (.int e)) (h4 : F.m "ws" = some (.lst (ws.map .str))) :
    Exs C k (En 3 L a cd) F ((fnBody (stAt 3)).drop 8) fun o => o = .ret (.bool (em3 t ws s e)) := by
  have s24 := size24
  refine Exs.cons (Ex.if (Ts.cmp (Ev.loc h2) (Ev.loc h3) op_gt) (fun h => ?_) fun h => ?_)
  · refine Exs.cons (Ex.ret Ev.bool ?_)
    have h : s > e := by simpa using h
    unfold em3; rw [if_pos h]; rfl
  · have h : ¬ s > e := by simpa using h
    have e3 : em3 t ws s e = emLoop t e ws s := by unfold em3; rw [if_neg h]
    rw [e3]
    refine Exs.nil (Exs.cons (Ex.for (ps := ws.map .str) (Itr.lst (Ev.loc h4) (by rw [List.length_map]; omega)) ⟨rfl, .inl rfl⟩
      (fun i F' => ∃ s', F'.m "got" = some (.str t) ∧ F'.m "startpos" = some (.int s') ∧ F'.m "endpos" = some (.int e) ∧ emLoop t e (ws.drop i) s' = emLoop t e ws s) ⟨s, h1, h2, h3, rfl⟩ ?_ ?_))
    · rintro i p F' hp ⟨s', g1, g2, g3, g4⟩
      rw [List.getElem?_map] at hp
      obtain ⟨w, hw', rfl⟩ := Option.map_eq_some_iff.mp hp
      have hd : ws.drop i = w :: ws.drop (i + 1) := by
        obtain ⟨hlt, rfl⟩ := List.getElem?_eq_some_iff.mp hw'
        exact List.drop_eq_getElem_cons hlt
      rw [hd] at g4
      rw [emLoop_cons] at g4
      have hwl := hw w (List.mem_of_getElem? hw')
      refine Exs.cons (Ex.assign (Ev.find (Ev.loc g1) (Ev.loc rfl) (Ev.loc g2) (Ev.loc g3)) ?_ ⟨rfl, .inl rfl⟩)
      refine Exs.cons (Ex.if (Ts.cmp (Ev.loc rfl) Ev.int op_lt) (fun h => ?_) fun h => ?_)
      · refine Exs.cons (Ex.ret Ev.bool ?_)
        have h : find4 t w s' e < 0 := by simpa using h
        rw [if_pos h] at g4
        show Out.ret _ = Out.ret _
        rw [← g4]
      · have h : ¬ find4 t w s' e < 0 := by simpa using h
        rw [if_neg h] at g4
        refine Exs.nil (Exs.cons (Ex.aug (a := .int (find4 t w s' e)) rfl rfl (Ev.callB N (bLen H) (.inl ⟨_, rfl⟩) (.cons (Ev.loc rfl) .nil) (bi_len_str (by omega))) op_iadd (Exs.nil ?_) ⟨rfl, .inl rfl⟩))
        exact ⟨_, g1, rfl, g3, g4⟩
    · rintro F' ⟨s', g1, g2, g3, g4⟩
      rw [List.length_map, List.drop_length] at g4
      refine Exs.cons (Ex.ret Ev.bool ?_)
      show Out.ret _ = Out.ret _
      rw [← g4]; rfl

/-- from the look at the end on -/
theorem em_mid (H : Is C) (N : FnEnv (En 3 L a cd)) {F : Fm} {t : Str} {ws : List Str} {s : Int} {d : Addr} (ht : t.length ≤ 1000000) (hw : ∀ w ∈ ws, w.length ≤ 1000000) (hn : ws.length ≤ 1000000) (hne : ws ≠ []) (h1 : F.m "got" = some (.str t)) (h2 : F.m "startpos" = some (.int s))
    (h3 : F.m "endpos" = some (.int t.length)) (h4 : F.m "ws" = some (.ref d)) (h5 : F.ow d = some (ws.map .str)) :
    Exs C k (En 3 L a cd) F ((fnBody (stAt 3)).drop 6) fun o => o = .ret (.bool (em2 t ws s)) := by
  have s24 := size24
  have hl : ws.length ≠ 0 := fun e => hne (List.length_eq_zero_iff.mp e)
  have hlast := getLast_at (d := (⟨#[]⟩ : Str)) hne
  have hAt : At (-1) (ws.map PV.str).length (ws.length - 1) := by rw [List.length_map]; exact ⟨by omega, .inr (by omega)⟩
  refine Exs.cons (Ex.assign (Ev.item_own (Ev.loc h4) h5 (Ev.neg Ev.int) hAt (by rw [List.getElem?_map, hlast]; rfl) (by rw [List.length_map]; omega)) ?_ ⟨rfl, .inl rfl⟩)
  have hwl : (ws.getLastD ⟨#[]⟩).length ≤ 1000000 := hw _ (List.mem_of_getElem? hlast)
  refine Exs.cons (Ex.if (Ts.str (Ev.loc rfl) (by omega)) (fun h => ?_) fun h => ?_)
  · have hz : (ws.getLastD ⟨#[]⟩).length ≠ 0 := by simpa using h
    have e0 : em2 t ws s = if Txt.endswith t (ws.getLastD ⟨#[]⟩) then em3 t (ws.eraseIdx (ws.length - 1)) s (t.length - (ws.getLastD ⟨#[]⟩).length) else false := by
      unfold em2; simp only; rw [if_pos hz]
    refine Exs.cons (Ex.if (Ts.bool (Ev.endswith (Ev.loc h1) (Ev.loc rfl))) (fun h' => ?_) fun h' => ?_)
    · rw [e0, h', if_pos rfl]
      refine Exs.cons (Ex.aug (a := .int t.length) h3 rfl (Ev.callB N (bLen H) (.inl ⟨_, rfl⟩) (.cons (Ev.loc rfl) .nil) (bi_len_str (by omega))) op_isub ?_ ⟨rfl, .inl rfl⟩)
      refine Exs.cons (Ex.del (Ev.loc h4) h5 (Ev.neg Ev.int) hAt (by rw [List.length_map]; omega) (Exs.nil (Exs.nil ?_)))
      refine Tr.freeze (x := "ws") (a := d) (ps := (ws.map PV.str).eraseIdx (ws.length - 1)) h4 (by simp [Fm.own]) ?_
      have em : (ws.map PV.str).eraseIdx (ws.length - 1) = (ws.eraseIdx (ws.length - 1)).map PV.str := eraseIdx_map' _ _
      refine em_tail H N ht (fun w hw' => hw w (List.mem_of_mem_eraseIdx hw')) (by have := List.length_eraseIdx_le ws (ws.length - 1); omega) h1 h2 rfl ?_
      show some (PV.lst ((ws.map PV.str).eraseIdx (ws.length - 1))) = _
      rw [em]
    · rw [e0, h', if_neg (by simp)]
      exact Exs.cons (Ex.ret Ev.bool rfl)
  · have hz : ¬ (ws.getLastD ⟨#[]⟩).length ≠ 0 := by simpa using h
    have e0 : em2 t ws s = em3 t ws s t.length := by unfold em2; simp only; rw [if_neg hz]
    rw [e0]
    refine Exs.nil (Tr.freeze (x := "ws") (a := d) (ps := ws.map PV.str) h4 h5 ?_)
    exact em_tail H N ht hw hn h1 h2 h3 rfl
end

theorem fn_ellipsis {C : Cx} (H : Is C) {k : Nat} (p t : Str) (hp : p.length ≤ 1000000) (ht : t.length ≤ 1000000) (hsp : Txt.contains p dots3 = true → 2 ≤ (Txt.split p dots3).length ∧ (Txt.split p dots3).length ≤ 1000000 ∧ ∀ w ∈ Txt.split p dots3, w.length ≤ 1000000)
    (hpb : (Builtin.Str.partsBetween p (Builtin.Str.occurrences p dots3 0 p.length (p.length + 1)) dots3.length).length ≤ sizeLine) : Fn C (k + 1) "_ellipsis_match" [.str p, .str t] (.bool (em p t)) := by
  have s24 := size24
  refine Fn.of (d := dr 3) (by rw [H.q]; exact find3) rfl (fun pm cd doc vs hl => ?_) (by decide +kernel) ?_ rfl rfl rfl fun L a cd N => ?_
  · match vs, hl with
    | [v, u], _ => rfl
  · intro n hn L
    left
    revert n
    show ∀ n ∈ _, _
    decide +kernel
  · refine Exs.cons (Ex.if (Ts.cmp (Ev.top (by rw [H.q]; exact ell)) (Ev.loc rfl) op_snotin) (fun h => ?_) fun h => ?_)
    · refine Exs.cons (Ex.ret (Ev.cmp (Ev.loc rfl) (Ev.loc rfl) op_seq) ?_)
      have h : Txt.contains p dots3 = false := by simpa using h
      unfold em; rw [if_pos h]; rfl
    · have h : Txt.contains p dots3 = true := by simpa using h
      obtain ⟨g1, g2, g3⟩ := hsp h
      have hne : Txt.split p dots3 ≠ [] := fun e => by rw [e] at g1; simp at g1
      refine Exs.nil (Exs.cons (Ex.assignO (EvO.split (Ev.loc rfl) (Ev.top (by rw [H.q]; exact ell)) (by decide +kernel) (by rw [s24]; omega) hpb) (fun d hd => ?_) ⟨rfl, .inl rfl⟩))
      refine Exs.cons (Ex.assert (Ts.cmp (Ev.len_own (a := d) (ps := (Txt.split p dots3).map PV.str) N (bLen H) (Ev.loc rfl) (by simp [Fm.own]) (by rw [List.length_map]; omega)) Ev.int ?_) ?_)
      · have : decide (((((Txt.split p dots3).map PV.str).length : Nat) : Int) ≥ 2) = true := by rw [List.length_map]; simp; omega
        rw [← this]; exact op_ge
      refine Exs.cons (Ex.assign2 (Ev.tuple (.cons Ev.int (.cons (Ev.callB N (bLen H) (.inl ⟨_, rfl⟩) (.cons (Ev.loc rfl) .nil) (bi_len_str (by omega))) .nil))) ⟨rfl, .inl rfl⟩ ⟨rfl, .inl rfl⟩ ?_)
      have hhead := head_at (d := (⟨#[]⟩ : Str)) hne
      have hAt : At 0 ((Txt.split p dots3).map PV.str).length 0 := by rw [List.length_map]; exact ⟨by omega, .inl rfl⟩
      refine Exs.cons (Ex.assign (Ev.item_own (a := d) (ps := (Txt.split p dots3).map PV.str) (Ev.loc rfl) (by simp [Fm.own, Fm.set]) Ev.int hAt (by rw [List.getElem?_map, hhead]; rfl) (by rw [List.length_map]; omega)) ?_ ⟨rfl, .inl rfl⟩)
      have hwl : ((Txt.split p dots3).headD ⟨#[]⟩).length ≤ 1000000 := g3 _ (List.mem_of_getElem? hhead)
      have e0 : em p t = (let ws := Txt.split p dots3; let w := ws.headD ⟨#[]⟩; if w.length ≠ 0 then (if Txt.startswith t w then em2 t (ws.eraseIdx 0) w.length else false) else em2 t ws 0) := by
        unfold em; rw [if_neg (by rw [h]; simp)]
      rw [e0]
      refine Exs.cons (Ex.if (Ts.str (Ev.loc rfl) (by omega)) (fun h => ?_) fun h => ?_)
      · have hz : ((Txt.split p dots3).headD ⟨#[]⟩).length ≠ 0 := by simpa using h
        simp only
        rw [if_pos hz]
        refine Exs.cons (Ex.if (Ts.bool (Ev.startswith (Ev.loc rfl) (Ev.loc rfl))) (fun h' => ?_) fun h' => ?_)
        · rw [h', if_pos rfl]
          refine Exs.cons (Ex.assign (Ev.callB N (bLen H) (.inl ⟨_, rfl⟩) (.cons (Ev.loc rfl) .nil) (bi_len_str (by omega))) ?_ ⟨rfl, .inl rfl⟩)
          refine Exs.cons (Ex.del (a := d) (ps := (Txt.split p dots3).map PV.str) (Ev.loc rfl) (by simp [Fm.own, Fm.set]) Ev.int hAt (by rw [List.length_map]; omega) (Exs.nil (Exs.nil ?_)))
          refine em_mid H N (d := d) ht (fun w hw => g3 w (List.mem_of_mem_eraseIdx hw)) (by have := List.length_eraseIdx_le (Txt.split p dots3) 0; omega) (fun e => ?_) rfl rfl rfl rfl ?_
          · have := congrArg List.length e
            rw [List.length_eraseIdx_of_lt (by omega)] at this
            simp at this; omega
          · simp [Fm.own, Fm.set, eraseIdx_map']
        · rw [h', if_neg (by simp)]
          exact Exs.cons (Ex.ret Ev.bool rfl)
      · have hz : ¬ ((Txt.split p dots3).headD ⟨#[]⟩).length ≠ 0 := by simpa using h
        simp only
        rw [if_neg hz]
        exact Exs.nil (em_mid H N (d := d) ht g3 g2 hne rfl rfl rfl rfl (by simp [Fm.own, Fm.set]))
end Mine
end

section
open PySem PySem.W PyProof.Rows PySem.Calls
set_option linter.all false
set_option maxRecDepth 100000
namespace Mine

theorem find8 : (recsOf qv).find? (fun d => d.name == ("quotedata" : Str)) = some (dr 8) := by kernel_rfl
theorem find11 : (recsOf qv).find? (fun d => d.name == ("in_table_b1" : Str)) = some (dr 11) := by kernel_rfl
theorem find13 : (recsOf qv).find? (fun d => d.name == ("map_table_b3" : Str)) = some (dr 13) := by kernel_rfl
theorem crlfC : valOf qv "CRLF" = some (.str (S [13, 10])) := by kernel_rfl
theorem dd : (".." : Str) = S [46, 46] := by decide +kernel
theorem bOrd {C : Cx} (H : Is C) : C.B "ord" (.builtin "ord") := Cx.builtin (by decide +kernel) (by rw [H.loose]; decide +kernel) (by rw [H.q]; decide +kernel) (by rw [H.q]; decide +kernel) (by rw [H.q, H.loose]; decide +kernel) (by decide +kernel) (by kernel_rfl)

/-- the one sign's fold -/
def fold (c : Nat) : L := if c = 13255 then [99, 111, 46] else if c = 75 then [107] else if c = 67 then [99] else if c = 79 then [111] else [c]
theorem fold_len (c : Nat) : (fold c).length ≤ 3 := by unfold fold; (repeat' split) <;> simp
def alpha : L := [46, 107, 75, 99, 111, 67, 79, 10, 13, 13255]

section
variable {C : Cx} {k : Nat}

theorem fn_quotedata (H : Is C) (l : L) (hl : l.length ≤ 1000000) : Fn C (k + 1) "quotedata" [.str (S l)] (.str (S (quoted l))) := by
  refine Fn.of (d := dr 8) (by rw [H.q]; exact find8) rfl (fun pm cd doc vs hl => ?_) (by decide +kernel) ?_ rfl rfl rfl fun L a cd N => ?_
  · match vs, hl with
    | [v], _ => rfl
  · intro n hn L
    left
    revert n
    show ∀ n ∈ _, _
    decide +kernel
  · exact Exs.cons (Ex.ret (Ev.quote N H.re1 H.re2 (dd ▸ Ev.str) (Ev.top (by rw [H.q]; exact crlfC)) (Ev.loc rfl) hl) rfl)

theorem fn_in_table (H : Is C) (c : Nat) : Fn C (k + 1) "in_table_b1" [.str (S [c])] (.bool (b1 c)) := by
  refine Fn.of (d := dr 11) (by rw [H.q]; exact find11) rfl (fun pm cd doc vs hl => ?_) (by decide +kernel) ?_ rfl rfl rfl fun L a cd N => ?_
  · match vs, hl with
    | [v], _ => rfl
  · intro n hn L
    left
    revert n
    show ∀ n ∈ _, _
    decide +kernel
  · obtain ⟨b, hb, hs⟩ := H.b1
    exact Exs.cons (Ex.ret (Ev.cmp (Ev.callB N (bOrd H) (.inl ⟨_, rfl⟩) (.cons (Ev.loc rfl) .nil) bi_ord) (Ev.glob N hb) (op_inset hs)) rfl)

theorem lower_one : ∀ c ∈ alpha, c ≠ 13255 → Txt.lower (S [c]) = S (fold c) := by decide +kernel
theorem tab_one : ∀ c ∈ alpha, ((c : Int), if c = 13255 then PV.str (S [99, 111, 46]) else PV.none) ∈ b3tab := by
  intro c hc
  simp only [alpha, List.mem_cons, List.not_mem_nil, or_false] at hc
  rcases hc with rfl | rfl | rfl | rfl | rfl | rfl | rfl | rfl | rfl | rfl <;> simp [b3tab]

theorem fn_map_table (H : Is C) (c : Nat) (hc : c ∈ alpha) : Fn C (k + 1) "map_table_b3" [.str (S [c])] (.str (S (fold c))) := by
  refine Fn.of (d := dr 13) (by rw [H.q]; exact find13) rfl (fun pm cd doc vs hl => ?_) (by decide +kernel) ?_ rfl rfl rfl fun L a cd N => ?_
  · match vs, hl with
    | [v], _ => rfl
  · intro n hn L
    left
    revert n
    show ∀ n ∈ _, _
    decide +kernel
  · obtain ⟨b, hb, hne, hs⟩ := H.b3
    refine Exs.cons (Ex.assign (Ev.dictget (Ev.glob N hb) (Ev.callB N (bOrd H) (.inl ⟨_, rfl⟩) (.cons (Ev.loc rfl) .nil) bi_ord) hne (hs _ (tab_one c hc))) ?_ ⟨rfl, .inl rfl⟩)
    by_cases h : c = 13255
    · subst h
      refine Exs.cons (Ex.if (Ts.cmp (Ev.loc rfl) Ev.noneC op_isnot) (fun _ => ?_) fun h => ?_)
      · exact Exs.cons (Ex.ret (Ev.loc rfl) rfl)
      · cases h
    · rw [if_neg h]
      refine Exs.cons (Ex.if (Ts.cmp (Ev.loc rfl) Ev.noneC op_isnot) (fun h => ?_) fun _ => ?_)
      · cases h
      · refine Exs.nil (Exs.cons (Ex.ret (Ev.lower (Ev.loc rfl) ?_) ?_))
        · rw [lower_one c hc h, S_len]
          have := fold_len c
          unfold Builtin.Str.tooLong
          rw [size24]
          exact decide_eq_false (by omega)
        · show Out.ret _ = Out.ret _
          rw [lower_one c hc h]
end
end Mine
end

section
open PySem PySem.W PyProof.Rows PySem.Calls
set_option linter.all false
set_option maxRecDepth 100000
namespace Mine

theorem find16 : (recsOf qv).find? (fun d => d.name == ("_law_raw" : Str)) = some (dr 16) := by kernel_rfl
theorem find17 : (recsOf qv).find? (fun d => d.name == ("_law_dots" : Str)) = some (dr 17) := by kernel_rfl
theorem find18 : (recsOf qv).find? (fun d => d.name == ("_law_found" : Str)) = some (dr 18) := by kernel_rfl
theorem find19 : (recsOf qv).find? (fun d => d.name == ("_law_prepared" : Str)) = some (dr 19) := by kernel_rfl
theorem find20 : (recsOf qv).find? (fun d => d.name == ("law" : Str)) = some (dr 20) := by kernel_rfl

theorem blt {C : Cx} (H : Is C) {x : Str} {v : Value} (h : x ∉ startupNames ∧ x ∉ looseW qv ["_twin_re_1", "_twin_re_2", "b1_set", "b3_exceptions"] ∧ x ∉ (recsOf qv).map (·.name) ∧ x ∉ (litsOf qv).map (·.1) ∧ x ∉ (clssOf qv (looseW qv ["_twin_re_1", "_twin_re_2", "b1_set", "b3_exceptions"])).map (·.name) ∧ x ≠ "__name__") (h7 : bootBuiltins x = some v) : C.B x v := by
  obtain ⟨h1, h2, h3, h4, h5, h6⟩ := h
  exact Cx.builtin h1 (by rw [H.loose]; exact h2) (by rw [H.q]; exact h3) (by rw [H.q]; exact h4) (by rw [H.q, H.loose]; exact h5) h6 h7
theorem bSum {C : Cx} (H : Is C) : C.B "sum" (.builtin "sum") := blt H (by decide +kernel) (by kernel_rfl)
theorem bRange {C : Cx} (H : Is C) : C.B "range" (.type "range") := blt H (by decide +kernel) (by kernel_rfl)
theorem bIsi {C : Cx} (H : Is C) : C.B "isinstance" (.builtin "isinstance") := blt H (by decide +kernel) (by kernel_rfl)
theorem bBool {C : Cx} (H : Is C) : C.B "bool" (.type "bool") := blt H (by decide +kernel) (by kernel_rfl)

/-- a row: its dots, whether a sign hides them, its word -/
structure Row where
  d : Nat
  h : Bool
  w : Nat
def Row.pv (r : Row) : PV := .tup [.int r.d, .bool r.h, .int r.w]
structure Row.Ok (r : Row) : Prop where
  d : r.d ≤ 3
  w : r.w ≤ 2
def rowOf (n : Int) : Row := ⟨(n % 4).toNat, n / 12 % 2 == 1, if n % 4 = 0 ∧ n / 4 % 3 = 0 then 1 else (n / 4 % 3).toNat⟩
theorem rowOf_ok (n : Int) : (rowOf n).Ok := ⟨by simp only [rowOf]; omega, by simp only [rowOf]; split <;> omega⟩
theorem rowOf_pv (n : Int) : rowPV n = (rowOf n).pv := by
  unfold rowPV Row.pv rowOf
  simp only
  congr 2
  · simp; omega
  · congr 3
    split
    · rfl
    · simp; omega

theorem mulOk_dot {n : Nat} (h : n ≤ 1000) : MulOk (S [46]) n := by
  refine ⟨by simp; omega, fun h1 h2 => ?_, fun h1 h2 => ?_⟩
  · rw [S_len]
    have hn : (0 : Int) < n := by omega
    have : (1 : Int) ≤ (2 ^ 63 - 1) / (n : Int) := by
      rw [Int.le_ediv_iff_mul_le hn]; omega
    simp only [List.length_cons, List.length_nil]; omega
  · rw [S_len]; unfold Builtin.Str.tooLong; rw [size24]; exact decide_eq_false (by simp; omega)
theorem mul_dot (n : Nat) : Txt.mul (S [46]) n = S (List.replicate n 46) := by
  unfold Txt.mul
  by_cases h : (n : Int) < 1
  · rw [if_pos h]
    have : n = 0 := by omega
    subst this; rfl
  · rw [if_neg h]
    by_cases h1 : ((n : Int) == 1 || (S [46]).length == 0) = true
    · rw [if_pos h1]
      rw [S_len] at h1
      simp at h1
      have : n = 1 := by omega
      subst this; rfl
    · rw [if_neg h1]
      unfold S
      congr 1
      rw [Int.toNat_natCast]
      have key : ∀ (m : Nat) (a : Array Nat), (List.replicate m #[46]).foldl (· ++ ·) a = a ++ (List.replicate m 46).toArray := by
        intro m
        induction m with
        | zero => intro a; simp
        | succ m ih => intro a; rw [List.replicate_succ, List.foldl_cons, ih, List.replicate_succ]; apply Array.ext'; simp
      rw [key]; simp

def words3 (a b c : L) (w : Nat) : L := if w = 0 then a else if w = 1 then b else c
def raw (r : Row) (ws : Nat → L) : L := (if r.h then [8203] else []) ++ List.replicate r.d 46 ++ ws r.w
def dotsOf (r : Row) (ahead behind : Nat) : Nat := if r.d = 0 then 0 else r.d + behind + (if r.h then 0 else ahead)

theorem c200b : ("\u200b" : Str) = S [8203] := by decide +kernel
theorem cEmpty : ("" : Str) = S [] := by decide +kernel
theorem cDot : ("." : Str) = S [46] := by decide +kernel

section
variable {C : Cx} {k : Nat} {env : Env} {F : Fm}
theorem Ev.eq {e : Expr} {p q : PV} (h : Ev C k env F e p) (e' : p = q) : Ev C k env F e q := e' ▸ h
theorem Ev.strS {x : Str} {l : L} (h : x = S l) {kd : Nat} {pos : Pos} : Ev C k env F (.Constant (.str x) kd pos) (.str (S l)) := h ▸ Ev.str
theorem Ev.t0 {e i : Expr} {pos : Pos} {a b c : PV} (he : Ev C k env F e (.tup [a, b, c])) (hi : Ev C k env F i (.int 0)) (hs : Plain i := by intro _ _; rfl) : Ev C k env F (.Subscript e i pos) a := Ev.item_tup (j := 0) he hi ⟨by simp, .inl rfl⟩ rfl hs (by simp)
theorem Ev.t1 {e i : Expr} {pos : Pos} {a b c : PV} (he : Ev C k env F e (.tup [a, b, c])) (hi : Ev C k env F i (.int 1)) (hs : Plain i := by intro _ _; rfl) : Ev C k env F (.Subscript e i pos) b := Ev.item_tup (j := 1) he hi ⟨by simp, .inl rfl⟩ rfl hs (by simp)
theorem Ev.t2 {e i : Expr} {pos : Pos} {a b c : PV} (he : Ev C k env F e (.tup [a, b, c])) (hi : Ev C k env F i (.int 2)) (hs : Plain i := by intro _ _; rfl) : Ev C k env F (.Subscript e i pos) c := Ev.item_tup (j := 2) he hi ⟨by simp, .inl rfl⟩ rfl hs (by simp)
theorem Ev.l3 {e i : Expr} {pos : Pos} {a b c : PV} {n : Nat} {p : PV} (he : Ev C k env F e (.lst [a, b, c])) (hi : Ev C k env F i (.int n)) (hp : [a, b, c][n]? = some p) (hs : Plain i := by intro _ _; rfl) : Ev C k env F (.Subscript e i pos) p :=
  Ev.item_lst (j := n) he hi (At.nat (List.getElem?_eq_some_iff.mp hp).1) hp hs (by simp)
end
section
variable {C : Cx} {k : Nat}

theorem fn_raw (H : Is C) (r : Row) (hr : r.Ok) (a b c : L) (ha : a.length ≤ 100) (hb : b.length ≤ 100) (hc : c.length ≤ 100) : Fn C (k + 1) "_law_raw" [r.pv, .lst [.str (S a), .str (S b), .str (S c)]] (.str (S (raw r (words3 a b c)))) := by
  have s24 := size24
  refine Fn.of (d := dr 16) (by rw [H.q]; exact find16) rfl (fun pm cd doc vs hl => ?_) (by decide +kernel) ?_ rfl rfl rfl fun L a' cd N => ?_
  · match vs, hl with
    | [v, u], _ => rfl
  · intro n hn L
    left
    revert n
    show ∀ n ∈ _, _
    decide +kernel
  · obtain ⟨h1, h2⟩ := hr
    have hm : MulOk (S [46]) (r.d : Int) := mulOk_dot (by omega)
    have hw : [PV.str (S a), PV.str (S b), PV.str (S c)][r.w]? = some (.str (S (words3 a b c r.w))) := by
      have : r.w = 0 ∨ r.w = 1 ∨ r.w = 2 := by omega
      rcases this with e | e | e <;> rw [e] <;> rfl
    have hl : (words3 a b c r.w).length ≤ 100 := by unfold words3; (repeat' split) <;> assumption
    have i1 : r.h = true → ∀ {env F kd pos}, Ev C k env F (.Constant (.str "\u200b") kd pos) (.str (S (if r.h then [8203] else []))) := fun h {env F kd pos} => by rw [h, if_pos rfl, ← c200b]; exact Ev.str
    have i2 : r.h = false → ∀ {env F kd pos}, Ev C k env F (.Constant (.str "") kd pos) (.str (S (if r.h then [8203] else []))) := fun h {env F kd pos} => by rw [h, if_neg (by simp), ← cEmpty]; exact Ev.str
    have hlen : List.length (if r.h then [8203] else ([] : Mine.L)) ≤ 1 := by split <;> simp
    refine Exs.cons (Ex.ret (Ev.bin (Ev.bin (Ev.ifexp (Ts.bool (c := r.h) (Ev.t1 (Ev.loc rfl) Ev.int)) (fun h => i1 h) (fun h => i2 h))
      (Ev.bin (a := .str (S [46])) (cDot ▸ Ev.str) (Ev.t0 (Ev.loc rfl) Ev.int) (op_smul hm)) (op_sadd ?_))
      (Ev.l3 (Ev.loc rfl) (Ev.t2 (Ev.loc rfl) Ev.int) hw) (op_sadd ?_)) ?_)
    · rw [mul_dot, S_len, S_len, List.length_replicate, s24]; omega
    · rw [mul_dot, S_append, S_len, S_len, List.length_append, List.length_replicate, s24]; omega
    · show Out.ret _ = Out.ret _
      rw [mul_dot, S_append, S_append]; rfl

theorem fn_dots (H : Is C) (r : Row) (hr : r.Ok) (ahead behind : Nat) : Fn C (k + 1) "_law_dots" [r.pv, .int ahead, .int behind] (.int (dotsOf r ahead behind)) := by
  refine Fn.of (d := dr 17) (by rw [H.q]; exact find17) rfl (fun pm cd doc vs hl => ?_) (by decide +kernel) ?_ rfl rfl rfl fun L a' cd N => ?_
  · match vs, hl with
    | [v, u, w], _ => rfl
  · intro n hn L
    left
    revert n
    show ∀ n ∈ _, _
    decide +kernel
  · refine Exs.cons (Ex.if (Ts.cmp (Ev.t0 (Ev.loc rfl) Ev.int) Ev.int op_eq) (fun h => ?_) fun h => ?_)
    · have h : r.d = 0 := by simpa using h
      refine Exs.cons (Ex.ret Ev.int ?_)
      unfold dotsOf; rw [if_pos h]; rfl
    · have h : r.d ≠ 0 := by simpa using h
      refine Exs.nil (Exs.cons (Ex.ret (Ev.bin (Ev.bin (Ev.t0 (Ev.loc rfl) Ev.int) (Ev.loc rfl) op_add)
        (Ev.ifexp (p := .int (if r.h then 0 else (ahead : Int))) (Ts.bool (c := r.h) (Ev.t1 (Ev.loc rfl) Ev.int)) (fun h => ?_) (fun h => ?_)) op_add) ?_))
      · rw [h, if_pos rfl]; exact Ev.int
      · rw [h, if_neg (by simp)]; exact Ev.loc rfl
      · show Out.ret _ = Out.ret _
        unfold dotsOf
        rw [if_neg h]
        congr 2
        push_cast
        split <;> rfl
end
end Mine
end

section
open PySem PySem.W PyProof.Rows PySem.Calls
set_option linter.all false
set_option maxRecDepth 100000
namespace Mine

def prep (l : L) : L := (l.filter fun (c : Nat) => !b1 c).flatMap fold
theorem prep_len (l : L) : (prep l).length ≤ 3 * l.length := by
  unfold prep
  induction l with
  | nil => simp
  | cons c l ih =>
    rw [List.filter_cons]
    have := fold_len c
    split
    · rw [List.flatMap_cons, List.length_append, List.length_cons]; omega
    · rw [List.length_cons]; omega
def pc : PV → Nat
  | .str x => x.cps.getD 0 0
  | _ => 0
def keepB (p : PV) : Bool := !b1 (pc p)
def foldP (p : PV) : PV := .str (S (fold (pc p)))
theorem signs_S (l : L) : signs (S l) = l.map fun c => PV.str (S [c]) := by simp [signs, S]
theorem pc_S (c : Nat) : pc (.str (S [c])) = c := by simp [pc, S]
theorem comp_prep (l : L) : ((signs (S l)).filter keepB).map foldP = ((l.filter fun (c : Nat) => !b1 c).map fun c => S (fold c)).map .str := by
  rw [signs_S, List.filter_map, List.map_map, List.map_map]
  have e1 : (keepB ∘ fun c => PV.str (S [c])) = fun c : Nat => !b1 c := by funext c; simp [keepB, pc_S]
  have e2 : (foldP ∘ fun c => PV.str (S [c])) = (PV.str ∘ fun c => S (fold c)) := by funext c; simp [foldP, pc_S]
  rw [e1, e2]
theorem flat_prep (l : L) : flat ((l.filter fun (c : Nat) => !b1 c).map fun c => S (fold c)) = prep l := by
  unfold flat prep
  rw [List.flatMap_map]
  simp [S_list]

def InAlpha (l : L) : Prop := ∀ c ∈ l, c ∈ alpha ∨ b1 c = true

section
variable {C : Cx} {k : Nat}
theorem FnEnv.comp {env : Env} (N : FnEnv env) {scope : Scope} {cl : List (Str × Addr)} {Ca : Addr} (h : scope.kind = .function) : FnEnv (compEnvC scope cl Ca env) := ⟨h, N.glob, N.blt⟩

theorem fn_prep (H : Is C) (l : L) (hl : l.length ≤ 1000000) (hA : InAlpha l) : Fn C (k + 2) "_law_prepared" [.str (S l)] (.str (S (prep l))) := by
  have s24 := size24
  refine Fn.of (d := dr 19) (by rw [H.q]; exact find19) rfl (fun pm cd doc vs hl => ?_) (by decide +kernel) ?_ rfl rfl rfl fun L a' cd N => ?_
  · match vs, hl with
    | [v], _ => rfl
  · intro n hn L
    left
    revert n
    show ∀ n ∈ _, _
    decide +kernel
  · have hp := prep_len l
    have hj : JoinOk (S []) ((l.filter fun (c : Nat) => !b1 c).map fun c => S (fold c)) = true := joinOk_flat (by rw [flat_prep, s24]; omega)
    have e : S (prep l) = Txt.join (S []) ((l.filter fun (c : Nat) => !b1 c).map fun c => S (fold c)) := by
      rw [← flat_prep]; exact (join_flat _).symm
    rw [e]
    refine Exs.cons (Ex.ret (Ev.join (x := S []) (cEmpty ▸ Ev.str) ?_ hj) rfl)
    rw [← comp_prep]
    refine Ev.comp (Itr.str (Ev.loc rfl) (by rw [S_len, s24]; omega)) keepB foldP ?_ (fun p hp cl Ca => ?_) fun p hp hk cl Ca => ?_
    · refine ⟨rfl, by decide +kernel, by decide +kernel, by decide +kernel, by decide +kernel, ?_, rfl⟩
      intro y hy hf
      exfalso
      revert y
      decide +kernel
    · rw [signs_S] at hp
      obtain ⟨c, hc, rfl⟩ := List.mem_map.mp hp
      show Ts _ _ _ _ _ _
      have : keepB (.str (S [c])) = !b1 c := by simp [keepB, pc_S]
      rw [this]
      exact Ts.not (Ts.bool (Ev.callF (N.comp rfl) (by rw [H.q]; exact find11) (fn_in_table H c) (.cons (Ev.loc rfl) .nil)))
    · rw [signs_S] at hp
      obtain ⟨c, hc, rfl⟩ := List.mem_map.mp hp
      have h1 : foldP (.str (S [c])) = .str (S (fold c)) := by simp [foldP, pc_S]
      have h2 : b1 c = false := by simpa [keepB, pc_S] using hk
      rw [h1]
      have h3 : c ∈ alpha := (hA c hc).resolve_right (by rw [h2]; simp)
      exact Ev.callF (N.comp rfl) (by rw [H.q]; exact find13) (fn_map_table H c h3) (.cons (Ev.loc rfl) .nil)
end
end Mine
end

section
open PySem PySem.W PyProof.Rows PySem.Calls
set_option linter.all false
set_option maxRecDepth 100000
namespace Mine

def w3 : Nat → L := words3 [] [107] [99, 111, 46]
def sentL (rows : List Row) (a b : Nat) : List L := rows.map fun r => List.replicate (dotsOf r a b) 46 ++ w3 r.w
def ends (x y : L) : Bool := Txt.endswith (S x) (S y)
def hit (sent : List L) (first word : L) (dots k : Nat) : Bool :=
  ends (sent.getD k []) first && ((decide (dots < 3) && sent.getD (k + 1) [] == List.replicate dots 46 ++ word) ||
    (decide (dots ≥ 3) && !((cut sent (some ((k : Int) + 1)) (some (-1))).filter fun r => ends r (List.replicate (dots % 3) 46 ++ word)).isEmpty))
def found (rows : List Row) (q0 q1 q2 : Row) (a b : Nat) : Bool :=
  let sent := sentL rows a b
  if ends (sent.getLastD []) (List.replicate (dotsOf q2 a b % 3) 46) = false then false else
    (List.range (sent.length - 2)).any (hit sent (List.replicate (dotsOf q0 a b % 3) 46) (w3 q1.w) (dotsOf q1 a b))

theorem cK : ("k" : Str) = S [107] := by decide +kernel
theorem cCo : ("co." : Str) = S [99, 111, 46] := by decide +kernel
theorem w3_len (w : Nat) : (w3 w).length ≤ 3 := by unfold w3 words3; (repeat' split) <;> simp
theorem dots_le {r : Row} (hr : r.Ok) {a b : Nat} (ha : a ≤ 2) (hb : b ≤ 2) : dotsOf r a b ≤ 7 := by
  have := hr.d
  unfold dotsOf; (repeat' split) <;> omega
theorem w3_at {w : Nat} (h : w ≤ 2) : [PV.str (S []), PV.str (S [107]), PV.str (S [99, 111, 46])][w]? = some (.str (S (w3 w))) := by
  have : w = 0 ∨ w = 1 ∨ w = 2 := by omega
  rcases this with e | e | e <;> rw [e] <;> rfl
theorem map_getD {α β : Type} (f : α → β) (l : List α) (i : Nat) (a : α) (b : β) (h : i < l.length) : (l.map f)[i]? = some (f (l.getD i a)) := by
  rw [List.getElem?_map, List.getElem?_eq_getElem h, List.getD_eq_getElem?_getD, List.getElem?_eq_getElem h]; rfl
def sp : PV → L
  | .str x => x.cps.toList
  | _ => []
theorem sp_S (l : L) : sp (.str (S l)) = l := by simp [sp, S]

section
variable {C : Cx} {k : Nat}

noncomputable abbrev E18 (La a : Addr) (cd : Value) : Env := envOfC (dr 18).name (dr 18).scope La a cd

theorem found_loop (H : Is C) {La a' : Addr} {cd : Value} (N : FnEnv (E18 La a' cd)) {F : Fm} {sent : List L} {first word : L} {dots : Nat} (hs : ∀ x ∈ sent, x.length ≤ 20 ∧ Lay x) (hn : sent.length ≤ 20) (hn2 : 2 ≤ sent.length) (hd : dots ≤ 7) (hw : word.length ≤ 3)
    (h1 : F.m "sent" = some (.lst (sps sent))) (h2 : F.m "first" = some (.str (S first))) (h3 : F.m "dots" = some (.int dots)) (h4 : F.m "word" = some (.str (S word))) :
    Exs C (k + 1) (E18 La a' cd) F ((fnBody (stAt 18)).drop 7) fun o => o = .ret (.bool ((List.range (sent.length - 2)).any (hit sent first word dots))) := by
  have s24 := size24
  have hlen : (sps sent).length = sent.length := List.length_map ..
  refine Exs.cons (Ex.for (ps := rng 0 (sent.length - 2)) (Itr.range1 N (bRange H) (b := (sent.length : Int) - 2) (Ev.bin (Ev.callB N (blt H (by decide +kernel) (by kernel_rfl)) (.inl ⟨_, rfl⟩) (.cons (Ev.loc h1) .nil) (bi_len_lst (by rw [hlen]; omega))) Ev.int (hlen ▸ op_sub)) (by omega) (by omega)) ⟨rfl, .inl rfl⟩
    (fun i F' => F'.m "sent" = some (.lst (sps sent)) ∧ F'.m "first" = some (.str (S first)) ∧ F'.m "dots" = some (.int dots) ∧ F'.m "word" = some (.str (S word)) ∧ ∀ j, j < i → hit sent first word dots j = false) ⟨h1, h2, h3, h4, fun j hj => absurd hj (by omega)⟩ ?_ ?_)
  · rintro i p F' hp ⟨g1, g2, g3, g4, g5⟩
    unfold rng at hp
    rw [List.getElem?_map] at hp
    obtain ⟨j, hj, rfl⟩ := Option.map_eq_some_iff.mp hp
    obtain ⟨hj1, hj2⟩ := List.getElem?_eq_some_iff.mp hj
    simp only [List.length_range] at hj1
    simp only [List.getElem_range] at hj2
    subst hj2
    have hk : (F'.set "k" (.int (0 + (i : Int)))).m "k" = some (.int (i : Int)) := by show some _ = some _; rw [Int.zero_add]
    have k1 : (F'.set "k" (.int (0 + (i : Int)))).m "sent" = some (.lst (sps sent)) := g1
    have k2 : (F'.set "k" (.int (0 + (i : Int)))).m "first" = some (.str (S first)) := g2
    have k3 : (F'.set "k" (.int (0 + (i : Int)))).m "dots" = some (.int dots) := g3
    have k4 : (F'.set "k" (.int (0 + (i : Int)))).m "word" = some (.str (S word)) := g4
    generalize F'.set "k" (.int (0 + (i : Int))) = F1 at hk k1 k2 k3 k4
    have dotsE : ∀ {p}, Ev C (k + 1) (E18 La a' cd) F1 (.Name "dots" p) (.int dots) := fun {p} => Ev.cell k3
    have wordE : ∀ {p}, Ev C (k + 1) (E18 La a' cd) F1 (.Name "word" p) (.str (S word)) := fun {p} => Ev.cell k4
    have plus : ∀ {p p' q kd}, Ev C (k + 1) (E18 La a' cd) F1 (.BinOp (.Name "k" p) .Add (.Constant (.int 1) kd p') q) (.int ((i : Int) + 1)) := Ev.bin (Ev.loc hk) Ev.int op_add
    have hany : hit sent first word dots i = true → ((List.range (sent.length - 2)).any (hit sent first word dots)) = true := fun h => List.any_eq_true.mpr ⟨i, List.mem_range.mpr hj1, h⟩
    have i1 : (sps sent)[i]? = some (.str (S (sent.getD i []))) := map_getD _ _ _ _ (.none) (by omega)
    have i2 : (sps sent)[i + 1]? = some (.str (S (sent.getD (i + 1) []))) := map_getD _ _ _ _ (.none) (by omega)
    have step : hit sent first word dots i = false → ∀ j, j < i + 1 → hit sent first word dots j = false := fun h j hj => by
      by_cases q : j = i
      · rw [q]; exact h
      · exact g5 j (by omega)
    refine Exs.cons (Ex.if (Ts.bool (Ev.endswith (Ev.item_lst (j := i) (Ev.loc k1) (Ev.loc hk) (At.nat (by rw [hlen]; omega)) i1 (by intro _ _; rfl) (by rw [hlen]; omega)) (Ev.loc k2))) (fun he => ?_) fun he => ?_)
    · have he : ends (sent.getD i []) first = true := he
      refine Exs.cons (Ex.if (Ts.and2 (Ts.cmp dotsE Ev.int op_lt) fun hd3 => Ts.cmp (Ev.item_lst (n := (i : Int) + 1) (j := i + 1) (Ev.loc k1) plus ⟨by rw [hlen]; omega, .inl (by omega)⟩ i2 (by intro _ _; rfl) (by rw [hlen]; omega))
        (Ev.bin (Ev.bin (cDot ▸ Ev.str) dotsE (op_smul (mulOk_dot (n := dots) (by omega)))) wordE (op_sadd (by rw [mul_dot, S_len, S_len, List.length_replicate, s24]; omega))) op_seq) (fun h => ?_) fun h => ?_)
      · refine Exs.cons (Ex.ret Ev.bool ?_)
        show Out.ret _ = Out.ret _
        rw [hany]
        rw [mul_dot, S_append] at h
        simp only [Bool.and_eq_true, decide_eq_true_eq, beq_iff_eq] at h
        unfold hit
        rw [he, S_inj h.2]
        have : decide (dots < 3) = true := decide_eq_true (by omega)
        rw [this]; simp
      · rw [mul_dot, S_append] at h
        have h : (decide (dots < 3) && sent.getD (i + 1) [] == List.replicate dots 46 ++ word) = false := by
          rw [← h]
          congr 1
          · by_cases q : dots < 3
            · rw [decide_eq_true q, decide_eq_true (by omega)]
            · rw [decide_eq_false q, decide_eq_false (by omega)]
          · by_cases q : sent.getD (i + 1) [] = List.replicate dots 46 ++ word
            · rw [q]; simp
            · rw [beq_eq_false_iff_ne.mpr q, beq_eq_false_iff_ne.mpr fun e => q (S_inj e)]
        have hsub : cut (sps sent) (some ((i : Int) + 1)) (some (-1)) = sps (cut sent (some ((i : Int) + 1)) (some (-1))) := cut_map _ _ _ _
        have hmem : ∀ x ∈ cut sent (some ((i : Int) + 1)) (some (-1)), x ∈ sent := fun x hx => List.mem_of_mem_drop (List.mem_of_mem_take hx)
        have hcl : (cut sent (some ((i : Int) + 1)) (some (-1))).length ≤ sent.length := by
          unfold cut; rw [List.length_take, List.length_drop]; omega
        have comp : ∀ {pos px pi scope ifs iter elt}, Stmt.If (.BoolOp .And [.Compare (.Name "dots" pi) [.GtE] [elt] pi, .Compare (.ListComp (.Name "row" pi) [⟨.Name "row" px, iter, ifs, 0⟩] scope pos) [.NotEq] [elt] pi] pi) [] [] pi = default → True := fun _ => trivial
        refine Exs.nil (Exs.cons (Ex.if (Ts.and2 (Ts.cmp dotsE Ev.int op_ge) fun hd3 => Ts.cmp (c := !((cut sent (some ((i : Int) + 1)) (some (-1))).filter fun r => ends r (List.replicate (dots % 3) 46 ++ word)).isEmpty)
          (Ev.comp (ps := cut (sps sent) (some ((i : Int) + 1)) (some (-1))) (Itr.lst (Ev.slice_lst (Ev.loc k1) (.some plus) (.some (Ev.neg Ev.int)) (by rw [hlen]; omega)) (by rw [hsub]; unfold sps; rw [List.length_map]; omega))
            (fun p => ends (sp p) (List.replicate (dots % 3) 46 ++ word)) id ?_ (fun p hp cl Ca => ?_) fun p hp hk' cl Ca => Ev.loc rfl) (Ev.list .nil) (op_sps_ne ?_ fun x hx => (hs x (hmem x ((List.mem_filter.mp hx).1))).2)) (fun h' => ?_) fun h' => ?_))
        · refine ⟨rfl, by decide +kernel, by decide +kernel, by decide +kernel, by decide +kernel, ?_, rfl⟩
          intro y hy hf
          have := (by decide +kernel : ∀ y ∈ _, y.2 = NameKind.free → y.1 = ("dots" : Str) ∨ y.1 = ("word" : Str)) y hy hf
          rcases this with e | e <;> rw [e] <;> exact ⟨rfl, .inl rfl⟩
        · rw [hsub] at hp
          obtain ⟨x, hx, rfl⟩ := List.mem_map.mp hp
          show Ts _ _ _ _ _ _
          rw [sp_S]
          have hx3 := (hs x (hmem x hx)).1
          have e3 : (dots : Int) % 3 = ((dots % 3 : Nat) : Int) := by omega
          exact Ts.bool (Ev.endswith (Ev.loc rfl) (by
            rw [← S_append, ← mul_dot, ← e3]
            exact Ev.bin (Ev.bin (cDot ▸ Ev.str) (Ev.bin (Ev.cell k3) Ev.int (op_mod (by decide))) (op_smul (by rw [e3]; exact mulOk_dot (by omega)))) (Ev.cell k4) (op_sadd (by rw [e3, mul_dot, S_len, S_len, List.length_replicate, s24]; omega))))
        · rw [hsub]
          unfold sps
          rw [List.filter_map, List.map_id]
          congr 3
        · refine Exs.cons (Ex.ret Ev.bool ?_)
          show Out.ret _ = Out.ret _
          rw [hany]
          unfold hit
          rw [he]
          have : (decide (dots ≥ 3) && !((cut sent (some ((i : Int) + 1)) (some (-1))).filter fun r => ends r (List.replicate (dots % 3) 46 ++ word)).isEmpty) = true := by
            simp only [Bool.and_eq_true, decide_eq_true_eq] at h' ⊢
            exact ⟨by omega, h'.2⟩
          rw [this]; simp
        · refine Exs.nil (Exs.nil (Exs.nil ⟨k1, k2, k3, k4, step ?_⟩))
          have : (decide (dots ≥ 3) && !((cut sent (some ((i : Int) + 1)) (some (-1))).filter fun r => ends r (List.replicate (dots % 3) 46 ++ word)).isEmpty) = false := by
            rw [← h']
            congr 1
            by_cases q : dots ≥ 3
            · rw [decide_eq_true q, decide_eq_true (by omega)]
            · rw [decide_eq_false q, decide_eq_false (by omega)]
          unfold hit
          rw [he, h, this]; rfl
    · have he : ends (sent.getD i []) first = false := he
      exact Exs.nil (Exs.nil ⟨k1, k2, k3, k4, step (by unfold hit; rw [he]; rfl)⟩)
  · rintro F' ⟨g1, g2, g3, g4, g5⟩
    have hr : (rng 0 (sent.length - 2)).length = sent.length - 2 := by simp [rng]
    rw [hr] at g5
    refine Exs.cons (Ex.ret Ev.bool ?_)
    show Out.ret _ = Out.ret _
    have : ((List.range (sent.length - 2)).any (hit sent first word dots)) = false := by
      rw [List.any_eq_false]
      intro j hj
      rw [g5 j (List.mem_range.mp hj)]; simp
    rw [this]
end
end Mine
end

section
open PySem PySem.W PyProof.Rows PySem.Calls
set_option linter.all false
set_option maxRecDepth 100000
namespace Mine

theorem sent_facts {rows : List Row} (hr : ∀ r ∈ rows, r.Ok) {a b : Nat} (ha : a ≤ 2) (hb : b ≤ 2) : ∀ x ∈ sentL rows a b, x.length ≤ 20 ∧ Lay x := by
  intro x hx
  obtain ⟨r, hr', rfl⟩ := List.mem_map.mp hx
  have h1 := dots_le (hr r hr') ha hb
  have h2 := w3_len r.w
  refine ⟨by rw [List.length_append, List.length_replicate]; omega, fun c hc => ?_⟩
  rcases List.mem_append.mp hc with h | h
  · rw [(List.mem_replicate.mp h).2]; decide
  · unfold w3 words3 at h
    (repeat' split at h) <;> simp at h
    · subst h; decide
    · rcases h with rfl | rfl | rfl <;> decide

section
variable {C : Cx} {k : Nat}

theorem fn_found (H : Is C) {rows : List Row} {q0 q1 q2 : Row} (hr : ∀ r ∈ rows, r.Ok) (hn : rows.length ≤ 20) (hn2 : 2 ≤ rows.length) (h0 : q0.Ok) (h1 : q1.Ok) (h2 : q2.Ok) {a b : Nat} (ha : a ≤ 2) (hb : b ≤ 2) :
    Fn C (k + 2) "_law_found" [.lst (rows.map Row.pv), .lst [q0.pv, q1.pv, q2.pv], .int a, .int b] (.bool (found rows q0 q1 q2 a b)) := by
  have s24 := size24
  refine Fn.of (d := dr 18) (by rw [H.q]; exact find18) rfl (fun pm cd doc vs hl => ?_) (by decide +kernel) ?_ rfl rfl rfl fun La a' cd N => ?_
  · match vs, hl with
    | [v, u, w, z], _ => rfl
  · intro n hn L
    have := (by decide +kernel : ∀ n ∈ _, n = ("rows" : Str) ∨ n = ("want" : Str) ∨ n = ("ahead" : Str) ∨ n = ("behind" : Str)) n hn
    rcases this with e | e | e | e <;> rw [e]
    · exact .inl rfl
    · exact .inl rfl
    · exact .inr ⟨rfl, rfl⟩
    · exact .inr ⟨rfl, rfl⟩
  · have dcall : ∀ {F : Fm} {e : Expr} {r : Row} {np pos p1 p2 : Pos}, r.Ok → Ev C (k + 1) (E18 La a' cd) F e r.pv → F.m "ahead" = some (.int a) → F.m "behind" = some (.int b) →
        Flat [e, .Name "ahead" p1, .Name "behind" p2] (E18 La a' cd) pos → Ev C (k + 1) (E18 La a' cd) F (.Call (.Name "_law_dots" np) [e, .Name "ahead" p1, .Name "behind" p2] [] pos) (.int (dotsOf r a b)) := fun hrk he g1 g2 hf =>
      Ev.callF N (by rw [H.q]; exact find17) (fn_dots H _ hrk a b) (.cons he (.cons (Ev.cell g1) (.cons (Ev.cell g2) .nil))) rfl hf
    have hmod : ∀ r : Row, ((dotsOf r a b : Nat) : Int) % 3 = ((dotsOf r a b % 3 : Nat) : Int) := fun r => by omega
    have d0 := dots_le h0 ha hb
    have d1 := dots_le h1 ha hb
    have d2 := dots_le h2 ha hb
    refine Exs.cons (Ex.assign (Ev.list (.cons (Ev.strS cEmpty) (.cons (Ev.strS cK) (.cons (Ev.strS cCo) .nil)))) ?_ ⟨rfl, .inr ⟨rfl, rfl⟩⟩)
    refine Exs.cons (Ex.comp (ps := rows.map Row.pv) (Itr.lst (Ev.loc rfl) (by rw [List.length_map]; omega)) (fun _ => true) (fun p => match p with | .tup [.int d, .bool h, .int w] => .str (S (List.replicate (dotsOf ⟨d.toNat, h, w.toNat⟩ a b) 46 ++ w3 w.toNat)) | _ => .none)
      ?_ ⟨rfl, .inl rfl⟩ rfl (fun p hp cl Ca => rfl) (fun p hp _ cl Ca => ?_) ?_)
    · refine ⟨rfl, by decide +kernel, by decide +kernel, by decide +kernel, by decide +kernel, ?_, rfl⟩
      intro y hy hf
      have := (by decide +kernel : ∀ y ∈ _, y.2 = NameKind.free → y.1 = ("ahead" : Str) ∨ y.1 = ("behind" : Str) ∨ y.1 = ("words" : Str)) y hy hf
      rcases this with e | e | e <;> rw [e] <;> exact ⟨rfl, .inl rfl⟩
    · obtain ⟨r, hr', rfl⟩ := List.mem_map.mp hp
      have hok := hr r hr'
      have hd := dots_le hok ha hb
      have hw := w3_len r.w
      show Ev _ _ _ _ _ (.str (S (List.replicate (dotsOf ⟨((r.d : Nat) : Int).toNat, r.h, ((r.w : Nat) : Int).toNat⟩ a b) 46 ++ w3 ((r.w : Nat) : Int).toNat)))
      rw [Int.toNat_natCast, Int.toNat_natCast, ← S_append, ← mul_dot]
      exact Ev.bin (Ev.bin (Ev.strS cDot) (Ev.callF (N.comp rfl) (by rw [H.q]; exact find17) (fn_dots H r hok a b) (.cons (Ev.loc rfl) (.cons (Ev.cell rfl) (.cons (Ev.cell rfl) .nil)))) (op_smul (mulOk_dot (by omega))))
        (Ev.l3 (Ev.cell rfl) (Ev.t2 (Ev.loc rfl) Ev.int) (w3_at hok.w)) (op_sadd (by rw [mul_dot, S_len, S_len, List.length_replicate, s24]; omega))
    have hsent : ((rows.map Row.pv).filter fun _ => true).map (fun p => match p with | .tup [.int d, .bool h, .int w] => PV.str (S (List.replicate (dotsOf ⟨d.toNat, h, w.toNat⟩ a b) 46 ++ w3 w.toNat)) | _ => .none) = sps (sentL rows a b) := by
      rw [List.filter_eq_self.mpr (by simp), List.map_map]
      unfold sps sentL
      rw [List.map_map]
      apply List.map_congr_left
      intro r _
      show PV.str (S (List.replicate (dotsOf ⟨((r.d : Nat) : Int).toNat, r.h, ((r.w : Nat) : Int).toNat⟩ a b) 46 ++ w3 ((r.w : Nat) : Int).toNat)) = _
      rw [Int.toNat_natCast, Int.toNat_natCast]; rfl
    rw [hsent]
    have hsl : (sentL rows a b).length = rows.length := List.length_map ..
    have hne : sentL rows a b ≠ [] := fun e => by rw [e] at hsl; simp at hsl; omega
    refine Exs.cons (Ex.assign (p := .str (S (List.replicate (dotsOf q0 a b % 3) 46))) ?_ ?_ ⟨rfl, .inl rfl⟩)
    · exact Ev.eq (Ev.bin (Ev.strS cDot) (Ev.bin (dcall h0 (Ev.l3 (n := 0) (Ev.loc rfl) Ev.int rfl) rfl rfl rfl) Ev.int (op_mod (by decide))) (op_smul (n := ((dotsOf q0 a b : Nat) : Int) % 3) (by rw [hmod]; exact mulOk_dot (by omega)))) (by rw [hmod, mul_dot])
    refine Exs.cons (Ex.assign (p := .str (S (List.replicate (dotsOf q2 a b % 3) 46))) ?_ ?_ ⟨rfl, .inl rfl⟩)
    · exact Ev.eq (Ev.bin (Ev.strS cDot) (Ev.bin (dcall h2 (Ev.l3 (n := 2) (Ev.loc rfl) Ev.int rfl) rfl rfl rfl) Ev.int (op_mod (by decide))) (op_smul (n := ((dotsOf q2 a b : Nat) : Int) % 3) (by rw [hmod]; exact mulOk_dot (by omega)))) (by rw [hmod, mul_dot])
    have hlast : (sps (sentL rows a b))[(sentL rows a b).length - 1]? = some (.str (S ((sentL rows a b).getLastD []))) := by
      unfold sps; rw [List.getElem?_map, getLast_at (d := []) hne]; rfl
    have hlen : (sps (sentL rows a b)).length = rows.length := by unfold sps; rw [List.length_map, hsl]
    refine Exs.cons (Ex.if (Ts.not (Ts.bool (c := ends ((sentL rows a b).getLastD []) (List.replicate (dotsOf q2 a b % 3) 46)) (Ev.endswith (Ev.item_lst (n := -1) (j := (sentL rows a b).length - 1) (Ev.loc rfl) (Ev.neg Ev.int) ⟨by rw [hlen, hsl]; omega, .inr (by rw [hlen, hsl]; omega)⟩ hlast (by intro _ _; rfl) (by rw [hlen]; omega)) (Ev.loc rfl)))) (fun h => ?_) fun h => ?_)
    · refine Exs.cons (Ex.ret Ev.bool ?_)
      have h : ends ((sentL rows a b).getLastD []) (List.replicate (dotsOf q2 a b % 3) 46) = false := by simpa using h
      show Out.ret _ = Out.ret _
      unfold found; simp only; rw [if_pos h]
    · have h : ends ((sentL rows a b).getLastD []) (List.replicate (dotsOf q2 a b % 3) 46) = true := by simpa using h
      refine Exs.nil (Exs.cons (Ex.assign (dcall h1 (Ev.l3 (n := 1) (Ev.loc rfl) Ev.int rfl) rfl rfl rfl) ?_ ⟨rfl, .inr ⟨rfl, rfl⟩⟩))
      refine Exs.cons (Ex.assign (Ev.l3 (Ev.cell rfl) (Ev.t2 (Ev.l3 (n := 1) (Ev.loc rfl) Ev.int rfl) Ev.int) (w3_at h1.w)) ?_ ⟨rfl, .inr ⟨rfl, rfl⟩⟩)
      have e : found rows q0 q1 q2 a b = (List.range ((sentL rows a b).length - 2)).any (hit (sentL rows a b) (List.replicate (dotsOf q0 a b % 3) 46) (w3 q1.w) (dotsOf q1 a b)) := by
        unfold found; simp only; rw [if_neg (by rw [h]; simp)]
      rw [e]
      exact found_loop H N (sent_facts hr ha hb) (by omega) (by omega) d1 (w3_len _) rfl rfl rfl rfl
end
end Mine
end

section
open PySem PySem.W PyProof.Rows PySem.Calls
set_option linter.all false
set_option maxRecDepth 100000
namespace Mine

def outerRow (i : Nat) : Row := if i = 0 then ⟨1, false, 0⟩ else if i = 1 then ⟨0, false, 1⟩ else ⟨0, false, 2⟩
def rowsOf (ns : List Int) : List Row := [outerRow (ns.sum / 96 % 3).toNat] ++ (ns.take 4).map rowOf ++ [outerRow (ns.sum / 288 % 3).toNat]
def wm : Nat → L := words3 [] [75] [13255]
def wp : Nat → L := words3 [] [107] [67, 79, 46]
def endOf3 (i : Nat) : L := if i = 0 then [10] else if i = 1 then [13] else [13, 10]
def endAt (ns : List Int) (k : Nat) : L := if k ≤ (ns.take 4).length then endOf3 ((ns.getD (k - 1) 0) / 24 % 3).toNat else [10]
def mailTo (ns : List Int) : Nat → L
  | 0 => raw ((rowsOf ns).getD 0 ⟨0, false, 0⟩) wm
  | i + 1 => mailTo ns i ++ endAt ns (i + 1) ++ raw ((rowsOf ns).getD (i + 1) ⟨0, false, 0⟩) wm
def mail (ns : List Int) : L := mailTo ns ((rowsOf ns).length - 1)
def q0 (ns : List Int) : Row := ⟨3, ns.sum / 24 % 2 == 1, 0⟩
def q1 (ns : List Int) : Row := rowOf ns.sum
def q2 (ns : List Int) : Row := ⟨3, ns.sum / 48 % 2 == 1, 0⟩
def page (ns : List Int) : L := raw (q0 ns) wp ++ [13] ++ raw (q1 ns) wp ++ [13] ++ raw (q2 ns) wp
def qn : Nat → L → L
  | 0, l => l
  | n + 1, l => quoted (qn n l)
def txt (ns : List Int) (a b : Nat) : L := qn b (prep (qn a (mail ns)))
def pat (ns : List Int) (a b : Nat) : L := qn b (prep (qn a (page ns)))

/-- what the walk leaves -/
def Law01 : Prop := ∀ (ns : List Int) (a b : Nat), a ≤ 2 → b ≤ 2 → 0 < a + b → em (S (pat ns a b)) (S (txt ns a b)) = found (rowsOf ns) (q0 ns) (q1 ns) (q2 ns) a b

theorem outer_ok (i : Nat) : (outerRow i).Ok := by unfold outerRow; (repeat' split) <;> exact ⟨by decide, by decide⟩
theorem rows_ok (ns : List Int) : ∀ r ∈ rowsOf ns, r.Ok := by
  intro r hr
  unfold rowsOf at hr
  simp only [List.mem_append, List.mem_singleton, List.mem_map] at hr
  rcases hr with (rfl | ⟨n, _, rfl⟩) | rfl
  · exact outer_ok _
  · exact rowOf_ok n
  · exact outer_ok _
theorem rows_len (ns : List Int) : (rowsOf ns).length = (ns.take 4).length + 2 := by unfold rowsOf; simp
theorem rows_le (ns : List Int) : (rowsOf ns).length ≤ 6 := by rw [rows_len, List.length_take]; omega
theorem getD_ok (ns : List Int) (i : Nat) : ((rowsOf ns).getD i ⟨0, false, 0⟩).Ok := by
  rw [List.getD_eq_getElem?_getD]
  cases h : (rowsOf ns)[i]? with
  | none => exact ⟨by decide, by decide⟩
  | some r => exact rows_ok ns r (List.mem_of_getElem? h)
theorem raw_len {r : Row} (hr : r.Ok) {ws : Nat → L} (hw : ∀ i, (ws i).length ≤ 3) : (raw r ws).length ≤ 7 := by
  have h1 := hr.d
  have h2 := hw r.w
  unfold raw
  rw [List.length_append, List.length_append, List.length_replicate]
  split <;> simp only [List.length_cons, List.length_nil] <;> omega
theorem words3_len {a b c : L} (ha : a.length ≤ 3) (hb : b.length ≤ 3) (hc : c.length ≤ 3) (i : Nat) : (words3 a b c i).length ≤ 3 := by unfold words3; (repeat' split) <;> assumption
theorem wm_len (i : Nat) : (wm i).length ≤ 3 := words3_len (by decide) (by decide) (by decide) i
theorem wp_len (i : Nat) : (wp i).length ≤ 3 := words3_len (by decide) (by decide) (by decide) i
theorem end3_len (i : Nat) : (endOf3 i).length ≤ 2 := by unfold endOf3; (repeat' split) <;> simp
theorem endAt_len (ns : List Int) (k : Nat) : (endAt ns k).length ≤ 2 := by
  unfold endAt
  split
  · exact end3_len _
  · simp
theorem mailTo_len (ns : List Int) : ∀ i, (mailTo ns i).length ≤ 9 * i + 7
  | 0 => raw_len (getD_ok ns 0) wm_len
  | i + 1 => by
    have h1 := mailTo_len ns i
    have h2 := endAt_len ns (i + 1)
    have h3 := raw_len (getD_ok ns (i + 1)) wm_len
    rw [mailTo, List.length_append, List.length_append]; omega
theorem mail_len (ns : List Int) : (mail ns).length ≤ 100 := by
  have h1 := mailTo_len ns ((rowsOf ns).length - 1)
  have h2 := rows_le ns
  unfold mail; omega
theorem q0_ok (ns : List Int) : (q0 ns).Ok := ⟨Nat.le_refl _, Nat.zero_le _⟩
theorem q2_ok (ns : List Int) : (q2 ns).Ok := ⟨Nat.le_refl _, Nat.zero_le _⟩
theorem page_len (ns : List Int) : (page ns).length ≤ 100 := by
  have h0 := raw_len (q0_ok ns) wp_len
  have h1 := raw_len (rowOf_ok ns.sum) wp_len
  have h2 := raw_len (q2_ok ns) wp_len
  unfold page
  simp only [List.length_append, List.length_singleton]
  unfold q1; omega
theorem qn_len : ∀ (n : Nat) (l : L), (qn n l).length ≤ 4 ^ n * l.length
  | 0, l => by simp [qn]
  | n + 1, l => by
    have h1 := quoted_len (qn n l)
    have h2 := qn_len n l
    rw [qn, Nat.pow_succ]
    calc _ ≤ 4 * (qn n l).length := h1
      _ ≤ 4 * (4 ^ n * l.length) := Nat.mul_le_mul_left _ h2
      _ = 4 ^ n * 4 * l.length := by rw [← Nat.mul_assoc, Nat.mul_comm 4]
theorem qn_small {n : Nat} (hn : n ≤ 2) {l : L} : (qn n l).length ≤ 16 * l.length := by
  have h := qn_len n l
  have : 4 ^ n ≤ 16 := by
    have : n = 0 ∨ n = 1 ∨ n = 2 := by omega
    rcases this with rfl | rfl | rfl <;> decide
  exact Nat.le_trans h (Nat.mul_le_mul_right _ this)
theorem txt_len (ns : List Int) {a b : Nat} (ha : a ≤ 2) (hb : b ≤ 2) : (txt ns a b).length ≤ 100000 ∧ (prep (qn a (mail ns))).length ≤ 10000 := by
  have h1 := mail_len ns
  have h2 := @qn_small a ha (mail ns)
  have h3 := prep_len (qn a (mail ns))
  have h4 := @qn_small b hb (prep (qn a (mail ns)))
  unfold txt; omega
theorem pat_len (ns : List Int) {a b : Nat} (ha : a ≤ 2) (hb : b ≤ 2) : (pat ns a b).length ≤ 100000 ∧ (prep (qn a (page ns))).length ≤ 10000 := by
  have h1 := page_len ns
  have h2 := @qn_small a ha (page ns)
  have h3 := prep_len (qn a (page ns))
  have h4 := @qn_small b hb (prep (qn a (page ns)))
  unfold pat; omega

-- the signs
theorem alpha_crlf : ∀ (l : L) (b : Bool), InAlpha l → InAlpha (crlf b l)
  | [], _, _ => fun c hc => by simp [crlf] at hc
  | x :: l, b, h => by
    have ht := alpha_crlf l true fun c hc => h c (.tail _ hc)
    have hf := alpha_crlf l false fun c hc => h c (.tail _ hc)
    have h13 : (13 : Nat) ∈ alpha ∨ b1 (13 : Nat) = true := .inl (by decide)
    have h10 : (10 : Nat) ∈ alpha ∨ b1 (10 : Nat) = true := .inl (by decide)
    intro c hc
    rw [crlf] at hc
    split at hc
    · rcases List.mem_cons.mp hc with rfl | hc
      · exact h13
      · rcases List.mem_cons.mp hc with rfl | hc
        · exact h10
        · exact ht c hc
    · split at hc
      · split at hc
        · exact hf c hc
        · rcases List.mem_cons.mp hc with rfl | hc
          · exact h13
          · rcases List.mem_cons.mp hc with rfl | hc
            · exact h10
            · exact hf c hc
      · rcases List.mem_cons.mp hc with rfl | hc
        · exact h _ (.head _)
        · exact hf c hc
theorem alpha_stuff : ∀ (l : L) (b : Bool), InAlpha l → InAlpha (stuff b l)
  | [], _, _ => fun c hc => by simp [stuff] at hc
  | x :: l, b, h => by
    have h1 := alpha_stuff l false fun c hc => h c (.tail _ hc)
    have h2 := alpha_stuff l (x == 10) fun c hc => h c (.tail _ hc)
    have h46 : (46 : Nat) ∈ alpha ∨ b1 (46 : Nat) = true := .inl (by decide)
    intro c hc
    rw [stuff] at hc
    split at hc
    · rcases List.mem_cons.mp hc with rfl | hc
      · exact h46
      · rcases List.mem_cons.mp hc with rfl | hc
        · exact h46
        · exact h1 c hc
    · rcases List.mem_cons.mp hc with rfl | hc
      · exact h _ (.head _)
      · exact h2 c hc
theorem alpha_quoted {l : L} (h : InAlpha l) : InAlpha (quoted l) := alpha_stuff _ _ (alpha_crlf _ _ h)
theorem alpha_qn : ∀ (n : Nat) {l : L}, InAlpha l → InAlpha (qn n l)
  | 0, _, h => h
  | n + 1, _, h => alpha_quoted (alpha_qn n h)
theorem alpha_append {a b : L} (ha : InAlpha a) (hb : InAlpha b) : InAlpha (a ++ b) := fun c hc => (List.mem_append.mp hc).elim (ha c) (hb c)
theorem alpha_raw {r : Row} {ws : Nat → L} (hw : ∀ i, InAlpha (ws i)) : InAlpha (raw r ws) := by
  unfold raw
  refine alpha_append (alpha_append ?_ fun c hc => ?_) (hw _)
  · split
    · intro c hc; rw [List.mem_singleton.mp hc]; exact .inr (by decide)
    · intro c hc; simp at hc
  · rw [(List.mem_replicate.mp hc).2]; exact .inl (by decide)
theorem alpha_of {l : L} (h : ∀ c ∈ l, c ∈ alpha) : InAlpha l := fun c hc => .inl (h c hc)
theorem alpha_wm (i : Nat) : InAlpha (wm i) := by unfold wm words3; (repeat' split) <;> exact alpha_of (by decide)
theorem alpha_wp (i : Nat) : InAlpha (wp i) := by unfold wp words3; (repeat' split) <;> exact alpha_of (by decide)
theorem alpha_end (ns : List Int) (k : Nat) : InAlpha (endAt ns k) := by unfold endAt endOf3; (repeat' split) <;> exact alpha_of (by decide)
theorem alpha_mailTo (ns : List Int) : ∀ i, InAlpha (mailTo ns i)
  | 0 => alpha_raw alpha_wm
  | i + 1 => alpha_append (alpha_append (alpha_mailTo ns i) (alpha_end ns _)) (alpha_raw alpha_wm)
theorem alpha_page (ns : List Int) : InAlpha (page ns) := alpha_append (alpha_append (alpha_append (alpha_append (alpha_raw alpha_wp) (alpha_of (by decide))) (alpha_raw alpha_wp)) (alpha_of (by decide))) (alpha_raw alpha_wp)

-- the split of a text
theorem parts_len (p : Str) : (Builtin.Str.partsBetween p (Builtin.Str.occurrences p dots3 0 p.length (p.length + 1)) dots3.length).length ≤ p.length + 2 := by
  have h := PySem.StrLaws.occ_length_le_len p dots3 0 p.length (p.length + 1)
  unfold Builtin.Str.partsBetween
  simp only [List.length_map, List.length_zip, List.length_cons, List.length_append, List.length_nil]
  omega
theorem kind_pos (x : Str) : ¬ Builtin.Str.strKind x < Builtin.Str.strKind dots3 := by
  have e : Builtin.Str.strKind dots3 = 1 := by decide +kernel
  rw [e]
  unfold Builtin.Str.strKind
  (repeat' split) <;> omega
theorem dots3_len : dots3.length = 3 := by decide +kernel
theorem split_is (p : Str) (h : Txt.contains p dots3 = true) : Txt.split p dots3 = Builtin.Str.partsBetween p (Builtin.Str.occurrences p dots3 0 p.length (p.length + 1)) 3 ∧ Builtin.Str.occurrences p dots3 0 p.length (p.length + 1) ≠ [] := by
  obtain ⟨i, hi, hs⟩ := (PySem.StrLaws.found_iff p dots3).mp h
  have hne : Builtin.Str.occurrences p dots3 0 p.length (p.length + 1) ≠ [] := by
    intro e
    obtain ⟨f, hG, hn⟩ := PySem.StrLaws.occ_tight p dots3 (by rw [dots3_len]; decide)
    rw [e] at hG
    have hf : f = 0 := hG
    exact hn i (by omega) ⟨hi, hs⟩
  refine ⟨?_, hne⟩
  unfold Txt.split
  rw [dots3_len] at hi
  rw [if_neg (by
    rw [Bool.or_eq_true, decide_eq_true_eq, decide_eq_true_eq, dots3_len]
    rintro (h | h)
    · omega
    · exact kind_pos p h), if_neg (by simpa using hne), dots3_len]
theorem sub_len (p : Str) (i j : Nat) : (Builtin.Str.strSub p i j).length ≤ p.length := by
  show (p.cps.extract i j).size ≤ p.cps.size
  rw [Array.size_extract]; omega
theorem split_ok (p : Str) (h : Txt.contains p dots3 = true) : 2 ≤ (Txt.split p dots3).length ∧ (Txt.split p dots3).length ≤ p.length + 2 ∧ ∀ w ∈ Txt.split p dots3, w.length ≤ p.length := by
  obtain ⟨e, hne⟩ := split_is p h
  have hl := parts_len p
  rw [dots3_len] at hl
  rw [e]
  refine ⟨?_, hl, fun w hw => ?_⟩
  · have : (Builtin.Str.occurrences p dots3 0 p.length (p.length + 1)).length ≠ 0 := fun q => hne (List.length_eq_zero_iff.mp q)
    unfold Builtin.Str.partsBetween
    simp only [List.length_map, List.length_zip, List.length_cons, List.length_append, List.length_nil]
    omega
  · unfold Builtin.Str.partsBetween at hw
    obtain ⟨⟨i, j⟩, _, rfl⟩ := List.mem_map.mp hw
    exact sub_len p i j
end Mine
end

section
open PySem PySem.W PyProof.Rows PySem.Calls
set_option linter.all false
set_option maxRecDepth 100000
namespace Mine

theorem cBigK : ("K" : Str) = S [75] := by decide +kernel
theorem cSq : ("㏇" : Str) = S [13255] := by decide +kernel
theorem cN : ("\n" : Str) = S [10] := by decide +kernel
theorem cR : ("\r" : Str) = S [13] := by decide +kernel
theorem cRN : ("\r\n" : Str) = S [13, 10] := by decide +kernel
theorem cCO : ("CO." : Str) = S [67, 79, 46] := by decide +kernel

noncomputable abbrev E20 (La a : Addr) (cd : Value) : Env := envOfC (dr 20).name (dr 20).scope La a cd

theorem outer_at {i : Nat} (h : i < 3) : [(outerRow 0).pv, (outerRow 1).pv, (outerRow 2).pv][i]? = some (outerRow i).pv := by
  have : i = 0 ∨ i = 1 ∨ i = 2 := by omega
  rcases this with rfl | rfl | rfl <;> rfl
theorem end3_at {i : Nat} (h : i < 3) : [PV.str (S [10]), .str (S [13]), .str (S [13, 10])][i]? = some (.str (S (endOf3 i))) := by
  have : i = 0 ∨ i = 1 ∨ i = 2 := by omega
  rcases this with rfl | rfl | rfl <;> rfl

section
variable {C : Cx} {k : Nat}

theorem call_em (H : Is C) {La a' : Addr} {cd : Value} (N : FnEnv (E20 La a' cd)) {F : Fm} {p t : L} (hp : p.length ≤ 100000) (ht : t.length ≤ 100000) {np pos : Pos} {x y : Expr} (hx : Ev C (k + 3) (E20 La a' cd) F x (.str (S p))) (hy : Ev C (k + 3) (E20 La a' cd) F y (.str (S t)))
    (hf : Flat [x, y] (E20 La a' cd) pos) : Ev C (k + 3) (E20 La a' cd) F (.Call (.Name "_ellipsis_match" np) [x, y] [] pos) (.bool (em (S p) (S t))) := by
  have s24 := size24
  refine Ev.callF N (by rw [H.q]; exact find3) (fn_ellipsis H (k := k + 2) (S p) (S t) (by rw [S_len]; omega) (by rw [S_len]; omega) (fun h => ?_) ?_) (.cons hx (.cons hy .nil)) rfl hf
  · obtain ⟨h1, h2, h3⟩ := split_ok (S p) h
    rw [S_len] at h2 h3
    exact ⟨h1, by omega, fun w hw => Nat.le_trans (h3 w hw) (by omega)⟩
  · have h1 := parts_len (S p)
    have h2 := S_len p
    omega

/-- the two loops at the end -/
theorem law_tail (H : Is C) (P : Law01) {La a' : Addr} {cd : Value} (N : FnEnv (E20 La a' cd)) {F : Fm} (ns : List Int) (h1 : F.m "rows" = some (.lst ((rowsOf ns).map Row.pv))) (h2 : F.m "want" = some (.lst [(q0 ns).pv, (q1 ns).pv, (q2 ns).pv]))
    (h3 : F.m "mail" = some (.str (S (mail ns)))) (h4 : F.m "page" = some (.str (S (page ns)))) : Exs C (k + 3) (E20 La a' cd) F ((fnBody (stAt 20)).drop 8) fun o => o = .ret (.bool true) := by
  have s24 := size24
  have rl := rows_le ns
  have rl2 := rows_len ns
  have am := alpha_mailTo ns ((rowsOf ns).length - 1)
  have ap := alpha_page ns
  have fRows : F.m "rows" = some (.lst ((rowsOf ns).map Row.pv)) ∧ F.m "want" = some (.lst [(q0 ns).pv, (q1 ns).pv, (q2 ns).pv]) := ⟨h1, h2⟩
  refine Exs.cons (Ex.for (ps := rng 0 3) (Itr.range1 N (bRange H) Ev.int rfl (by decide)) ⟨rfl, .inl rfl⟩
    (fun i F' => F'.m "rows" = some (.lst ((rowsOf ns).map Row.pv)) ∧ F'.m "want" = some (.lst [(q0 ns).pv, (q1 ns).pv, (q2 ns).pv]) ∧ F'.m "mail" = some (.str (S (qn (i - 1) (mail ns)))) ∧ F'.m "page" = some (.str (S (qn (i - 1) (page ns))))) ⟨h1, h2, h3, h4⟩ ?_ ?_)
  · rintro i p F' hp ⟨g1, g2, g3, g4⟩
    unfold rng at hp
    rw [List.getElem?_map] at hp
    obtain ⟨j, hj, rfl⟩ := Option.map_eq_some_iff.mp hp
    obtain ⟨hj1, hj2⟩ := List.getElem?_eq_some_iff.mp hj
    simp only [List.length_range] at hj1
    simp only [List.getElem_range] at hj2
    subst hj2
    have hk : (F'.set "ahead" (.int (0 + (i : Int)))).m "ahead" = some (.int (i : Int)) := by show some _ = some _; rw [Int.zero_add]
    have k1 : (F'.set "ahead" (.int (0 + (i : Int)))).m "rows" = some (.lst ((rowsOf ns).map Row.pv)) := g1
    have k2 : (F'.set "ahead" (.int (0 + (i : Int)))).m "want" = some (.lst [(q0 ns).pv, (q1 ns).pv, (q2 ns).pv]) := g2
    have k3 : (F'.set "ahead" (.int (0 + (i : Int)))).m "mail" = some (.str (S (qn (i - 1) (mail ns)))) := g3
    have k4 : (F'.set "ahead" (.int (0 + (i : Int)))).m "page" = some (.str (S (qn (i - 1) (page ns)))) := g4
    generalize F'.set "ahead" (.int (0 + (i : Int))) = F1 at hk k1 k2 k3 k4
    have ml := mail_len ns
    have pl := page_len ns
    -- behind the sending
    have rest : ∀ F2 : Fm, F2.m "rows" = some (.lst ((rowsOf ns).map Row.pv)) → F2.m "want" = some (.lst [(q0 ns).pv, (q1 ns).pv, (q2 ns).pv]) → F2.m "ahead" = some (.int (i : Int)) → F2.m "mail" = some (.str (S (qn i (mail ns)))) → F2.m "page" = some (.str (S (qn i (page ns)))) →
        Exs C (k + 3) (E20 La a' cd) F2 ((match ((fnBody (stAt 20)).drop 8) with | (.For _ _ b _ _) :: _ => b | _ => []).drop 1) (fun o => match o with
          | .next F'' => F''.m "rows" = some (.lst ((rowsOf ns).map Row.pv)) ∧ F''.m "want" = some (.lst [(q0 ns).pv, (q1 ns).pv, (q2 ns).pv]) ∧ F''.m "mail" = some (.str (S (qn (i + 1 - 1) (mail ns)))) ∧ F''.m "page" = some (.str (S (qn (i + 1 - 1) (page ns))))
          | .ret q => Out.ret q = .ret (.bool true)) := by
      intro F2 e1 e2 e3 e4 e5
      have lm := @qn_small i (by omega) (mail ns)
      have lp := @qn_small i (by omega) (page ns)
      refine Exs.cons (Ex.assign (Ev.callF N (by rw [H.q]; exact find19) (fn_prep H (k := k + 1) (qn i (mail ns)) (by omega) (alpha_qn i am)) (.cons (Ev.loc e4) .nil)) ?_ ⟨rfl, .inl rfl⟩)
      refine Exs.cons (Ex.assign (Ev.callF N (by rw [H.q]; exact find19) (fn_prep H (k := k + 1) (qn i (page ns)) (by omega) (alpha_qn i ap)) (.cons (Ev.loc e5) .nil)) ?_ ⟨rfl, .inl rfl⟩)
      have w1 : ((F2.set "text" (.str (S (prep (qn i (mail ns)))))).set "pattern" (.str (S (prep (qn i (page ns)))))).m "rows" = some (.lst ((rowsOf ns).map Row.pv)) := e1
      have w2 : ((F2.set "text" (.str (S (prep (qn i (mail ns)))))).set "pattern" (.str (S (prep (qn i (page ns)))))).m "want" = some (.lst [(q0 ns).pv, (q1 ns).pv, (q2 ns).pv]) := e2
      have w3 : ((F2.set "text" (.str (S (prep (qn i (mail ns)))))).set "pattern" (.str (S (prep (qn i (page ns)))))).m "ahead" = some (.int (i : Int)) := e3
      have w4 : ((F2.set "text" (.str (S (prep (qn i (mail ns)))))).set "pattern" (.str (S (prep (qn i (page ns)))))).m "mail" = some (.str (S (qn i (mail ns)))) := e4
      have w5 : ((F2.set "text" (.str (S (prep (qn i (mail ns)))))).set "pattern" (.str (S (prep (qn i (page ns)))))).m "page" = some (.str (S (qn i (page ns)))) := e5
      have w6 : ((F2.set "text" (.str (S (prep (qn i (mail ns)))))).set "pattern" (.str (S (prep (qn i (page ns)))))).m "text" = some (.str (S (txt ns i 0))) := rfl
      have w7 : ((F2.set "text" (.str (S (prep (qn i (mail ns)))))).set "pattern" (.str (S (prep (qn i (page ns)))))).m "pattern" = some (.str (S (pat ns i 0))) := rfl
      generalize (F2.set "text" (.str (S (prep (qn i (mail ns)))))).set "pattern" (.str (S (prep (qn i (page ns))))) = F3 at w1 w2 w3 w4 w5 w6 w7
      refine Exs.cons (Ex.for (ps := rng 0 3) (Itr.range1 N (bRange H) Ev.int rfl (by decide)) ⟨rfl, .inl rfl⟩
        (fun b F' => F'.m "rows" = some (.lst ((rowsOf ns).map Row.pv)) ∧ F'.m "want" = some (.lst [(q0 ns).pv, (q1 ns).pv, (q2 ns).pv]) ∧ F'.m "ahead" = some (.int (i : Int)) ∧ F'.m "mail" = some (.str (S (qn i (mail ns)))) ∧ F'.m "page" = some (.str (S (qn i (page ns)))) ∧ F'.m "text" = some (.str (S (txt ns i (b - 1)))) ∧ F'.m "pattern" = some (.str (S (pat ns i (b - 1)))))
        ⟨w1, w2, w3, w4, w5, w6, w7⟩ ?_ ?_)
      · rintro b p F' hp ⟨g1, g2, g3, g4, g5, g6, g7⟩
        unfold rng at hp
        rw [List.getElem?_map] at hp
        obtain ⟨j, hj, rfl⟩ := Option.map_eq_some_iff.mp hp
        obtain ⟨hb1, hb2⟩ := List.getElem?_eq_some_iff.mp hj
        simp only [List.length_range] at hb1
        simp only [List.getElem_range] at hb2
        subst hb2
        have hk : (F'.set "behind" (.int (0 + (b : Int)))).m "behind" = some (.int (b : Int)) := by show some _ = some _; rw [Int.zero_add]
        have k1 : (F'.set "behind" (.int (0 + (b : Int)))).m "rows" = some (.lst ((rowsOf ns).map Row.pv)) := g1
        have k2 : (F'.set "behind" (.int (0 + (b : Int)))).m "want" = some (.lst [(q0 ns).pv, (q1 ns).pv, (q2 ns).pv]) := g2
        have k3 : (F'.set "behind" (.int (0 + (b : Int)))).m "ahead" = some (.int (i : Int)) := g3
        have k4 : (F'.set "behind" (.int (0 + (b : Int)))).m "mail" = some (.str (S (qn i (mail ns)))) := g4
        have k5 : (F'.set "behind" (.int (0 + (b : Int)))).m "page" = some (.str (S (qn i (page ns)))) := g5
        have k6 : (F'.set "behind" (.int (0 + (b : Int)))).m "text" = some (.str (S (txt ns i (b - 1)))) := g6
        have k7 : (F'.set "behind" (.int (0 + (b : Int)))).m "pattern" = some (.str (S (pat ns i (b - 1)))) := g7
        generalize F'.set "behind" (.int (0 + (b : Int))) = F4 at hk k1 k2 k3 k4 k5 k6 k7
        have look : ∀ F5 : Fm, F5.m "rows" = some (.lst ((rowsOf ns).map Row.pv)) → F5.m "want" = some (.lst [(q0 ns).pv, (q1 ns).pv, (q2 ns).pv]) → F5.m "ahead" = some (.int (i : Int)) → F5.m "behind" = some (.int (b : Int)) → F5.m "mail" = some (.str (S (qn i (mail ns)))) → F5.m "page" = some (.str (S (qn i (page ns)))) →
            F5.m "text" = some (.str (S (txt ns i b))) → F5.m "pattern" = some (.str (S (pat ns i b))) →
            Exs C (k + 3) (E20 La a' cd) F5 ((match ((match ((fnBody (stAt 20)).drop 8) with | (.For _ _ b _ _) :: _ => b | _ => []).drop 3) with | (.For _ _ b _ _) :: _ => b | _ => []).drop 1) (fun o => match o with
              | .next F'' => F''.m "rows" = some (.lst ((rowsOf ns).map Row.pv)) ∧ F''.m "want" = some (.lst [(q0 ns).pv, (q1 ns).pv, (q2 ns).pv]) ∧ F''.m "ahead" = some (.int (i : Int)) ∧ F''.m "mail" = some (.str (S (qn i (mail ns)))) ∧ F''.m "page" = some (.str (S (qn i (page ns)))) ∧ F''.m "text" = some (.str (S (txt ns i (b + 1 - 1)))) ∧ F''.m "pattern" = some (.str (S (pat ns i (b + 1 - 1))))
              | .ret q => Out.ret q = .ret (.bool true)) := by
          intro F5 e1 e2 e3 e3' e4 e5 e6 e7
          have lt := txt_len ns (a := i) (b := b) (by omega) (by omega)
          have lp := pat_len ns (a := i) (b := b) (by omega) (by omega)
          refine Exs.cons (Ex.if (Ts.cmp (Ev.bin (Ev.loc e3) (Ev.loc e3') op_add) Ev.int op_gt) (fun h => ?_) fun h => ?_)
          · have h : 0 < i + b := by simp only [decide_eq_true_eq] at h; omega
            refine Exs.cons (Ex.assign (call_em H N lp.1 lt.1 (Ev.loc e7) (Ev.loc e6) rfl) ?_ ⟨rfl, .inl rfl⟩)
            have hfound := fn_found H (k := k + 1) (rows := rowsOf ns) (q0 := q0 ns) (q1 := q1 ns) (q2 := q2 ns) (a := i) (b := b) (rows_ok ns) (by omega) (by omega) (q0_ok ns) (rowOf_ok _) (q2_ok ns) (by omega) (by omega)
            refine Exs.cons (Ex.if (Ts.or2 (Ts.not (Ts.bool (Ev.isbool N (bIsi H) (bBool H) (Ev.loc rfl)))) fun _ => Ts.cmp (Ev.loc rfl) (Ev.callF N (by rw [H.q]; exact find18) hfound (.cons (Ev.loc e1) (.cons (Ev.loc e2) (.cons (Ev.loc e3) (.cons (Ev.loc e3') .nil))))) op_bne) (fun h' => ?_) fun h' => ?_)
            · rw [P ns i b (by omega) (by omega) h] at h'
              simp at h'
            · exact Exs.nil (Exs.nil (Exs.nil ⟨e1, e2, e3, e4, e5, e6, e7⟩))
          · exact Exs.nil (Exs.nil ⟨e1, e2, e3, e4, e5, e6, e7⟩)
        refine Exs.cons (Ex.if (Ts.cmp (Ev.loc hk) Ev.int op_gt) (fun h => ?_) fun h => ?_)
        · have h : 0 < b := by simp only [decide_eq_true_eq] at h; omega
          obtain ⟨b', rfl⟩ : ∃ b', b = b' + 1 := ⟨b - 1, by omega⟩
          rw [Nat.add_sub_cancel] at k6 k7
          have lt := txt_len ns (a := i) (b := b') (by omega) (by omega)
          have lp := pat_len ns (a := i) (b := b') (by omega) (by omega)
          refine Exs.cons (Ex.assign (Ev.callF N (by rw [H.q]; exact find8) (fn_quotedata H (k := k + 2) (txt ns i b') (by omega)) (.cons (Ev.loc k6) .nil)) ?_ ⟨rfl, .inl rfl⟩)
          refine Exs.cons (Ex.assign (Ev.callF N (by rw [H.q]; exact find8) (fn_quotedata H (k := k + 2) (pat ns i b') (by omega)) (.cons (Ev.loc k7) .nil)) ?_ ⟨rfl, .inl rfl⟩)
          exact Exs.nil (look _ k1 k2 k3 hk k4 k5 rfl rfl)
        · have h : b = 0 := by simp only [decide_eq_false_iff_not] at h; omega
          subst h
          exact Exs.nil (look _ k1 k2 k3 hk k4 k5 k6 k7)
      · rintro F' ⟨g1, g2, g3, g4, g5, g6, g7⟩
        exact Exs.nil ⟨g1, g2, g4, g5⟩
    refine Exs.cons (Ex.if (Ts.cmp (Ev.loc hk) Ev.int op_gt) (fun h => ?_) fun h => ?_)
    · have h : 0 < i := by simp only [decide_eq_true_eq] at h; omega
      obtain ⟨i', rfl⟩ : ∃ i', i = i' + 1 := ⟨i - 1, by omega⟩
      rw [Nat.add_sub_cancel] at k3 k4
      have lm := @qn_small i' (by omega) (mail ns)
      have lp := @qn_small i' (by omega) (page ns)
      refine Exs.cons (Ex.assign (Ev.callF N (by rw [H.q]; exact find8) (fn_quotedata H (k := k + 2) (qn i' (mail ns)) (by omega)) (.cons (Ev.loc k3) .nil)) ?_ ⟨rfl, .inl rfl⟩)
      refine Exs.cons (Ex.assign (Ev.callF N (by rw [H.q]; exact find8) (fn_quotedata H (k := k + 2) (qn i' (page ns)) (by omega)) (.cons (Ev.loc k4) .nil)) ?_ ⟨rfl, .inl rfl⟩)
      exact Exs.nil (rest _ k1 k2 hk rfl rfl)
    · have h : i = 0 := by simp only [decide_eq_false_iff_not] at h; omega
      subst h
      exact Exs.nil (rest _ k1 k2 hk k3 k4)
  · rintro F' _
    exact Exs.cons (Ex.ret Ev.bool rfl)
end
end Mine
end

section
open PySem PySem.W PyProof.Rows PySem.Calls
set_option linter.all false
set_option maxRecDepth 100000
namespace Mine

theorem cast_mod {n m : Int} (h : 0 < m) : ((n % m).toNat : Int) = n % m := Int.toNat_of_nonneg (Int.emod_nonneg _ (by omega))
def rowP : PV → PV
  | .int n => rowPV n
  | _ => .none
def rawP (ws : Nat → L) : PV → PV
  | .tup [.int d, .bool h, .int w] => .str (S (raw ⟨d.toNat, h, w.toNat⟩ ws))
  | _ => .none
theorem rawP_pv (ws : Nat → L) (r : Row) : rawP ws r.pv = .str (S (raw r ws)) := by
  show PV.str (S (raw ⟨((r.d : Nat) : Int).toNat, r.h, ((r.w : Nat) : Int).toNat⟩ ws)) = _
  rw [Int.toNat_natCast, Int.toNat_natCast]

section
variable {C : Cx} {k : Nat} {env : Env} {F : Fm} {P : Out → Prop}
theorem Behind1.next {xs : List Stmt} (h : Exs C k env F xs P) : Behind1 C k env xs P (.next F) := h
theorem Exs.assign {x : Str} {xp pos : Pos} {e : Expr} {p : PV} {xs : List Stmt} (h : Ev C k env F e p) (hx : Nm env x) (rest : Exs C k env (F.set x p) xs P) (hs : swapsWith e (some (.Name x xp)) pos.line env = pure false := by rfl) :
    Exs C k env F (.Assign [.Name x xp] e pos :: xs) P := Exs.cons (Ex.assign h rest hx hs)
end
section
variable {C : Cx} {k : Nat}

set_option maxHeartbeats 4000000 in
theorem fn_law (H : Is C) (P : Law01) (ns : List Int) (hn : ns.length ≤ 63) : Fn C (k + 4) "law" [.lst (ns.map .int)] (.bool true) := by
  have s24 := size24
  refine Fn.of (d := dr 20) (by rw [H.q]; exact find20) rfl (fun pm cd doc vs hl => ?_) (by decide +kernel) ?_ rfl rfl rfl fun La a' cd N => ?_
  · match vs, hl with
    | [v], _ => rfl
  · intro n hn L
    left
    revert n
    show ∀ n ∈ _, _
    decide +kernel
  · have rl := rows_le ns
    have rl2 := rows_len ns
    have bl : C.B "len" (.builtin "len") := bLen H
    have hcut : cut (ns.map PV.int) none (some 4) = (ns.take 4).map .int := by
      rw [cut_map]
      congr 1
      unfold cut
      show ((ns.drop 0).take (clipAt ns.length 4 - 0)) = _
      rw [List.drop_zero, Nat.sub_zero]
      have : clipAt ns.length 4 = min 4 ns.length := clipAt_nat ns.length 4
      rw [this]
      rw [← List.take_take, List.take_length]
    have hl4 : (ns.take 4).length ≤ 4 := by rw [List.length_take]; omega
    refine Exs.cons (Ex.assign (Ev.callB N (bSum H) (.inl ⟨_, rfl⟩) (.cons (Ev.loc rfl) .nil) bi_sum) ?_ ⟨rfl, .inl rfl⟩)
    with_reducible refine Behind1.next ?_
    with_reducible refine Exs.assign (p := .lst [(outerRow 0).pv, (outerRow 1).pv, (outerRow 2).pv]) ?_ ?_ ?_ ?_
    · refine Ev.eq (Ev.list (.cons (Ev.tuple (.cons Ev.int (.cons Ev.bool (.cons Ev.int .nil)))) (.cons (Ev.tuple (.cons Ev.int (.cons Ev.bool (.cons Ev.int .nil)))) (.cons (Ev.tuple (.cons Ev.int (.cons Ev.bool (.cons Ev.int .nil)))) .nil)))) ?_
      simp [outerRow, Row.pv]
    · exact ⟨rfl, .inl rfl⟩
    rotate_left
    · rfl
    generalize hou : ([(outerRow 0).pv, (outerRow 1).pv, (outerRow 2).pv] : List PV) = ou
    have outerE : ∀ {F : Fm} {m : Int} {i : Nat} {e : Expr} {np pos : Pos}, F.m "outer" = some (.lst ou) → Ev C (k + 3) (E20 La a' cd) F e (.int (m % 3)) → i = (m % 3).toNat → Plain e → Ev C (k + 3) (E20 La a' cd) F (.Subscript (.Name "outer" np) e pos) (outerRow i).pv := fun {F m i e np pos} g he hi hpl => by
      subst hi hou
      have hlt : (m % 3).toNat < 3 := by omega
      exact Ev.l3 (n := (m % 3).toNat) (Ev.loc g) (Ev.eq he (by rw [cast_mod (by decide)])) (outer_at hlt) hpl
    with_reducible refine Exs.assign (p := .lst ((rowsOf ns).map Row.pv)) ?_ ?_ ?_ ?_
    · refine Ev.eq (Ev.bin (Ev.bin (Ev.list (.cons (outerE rfl (Ev.bin (Ev.bin (Ev.loc rfl) Ev.int (op_div (by decide))) Ev.int (op_mod (by decide))) rfl (by intro _ _; rfl)) .nil))
        (Ev.comp (ps := cut (ns.map PV.int) none (some 4)) (Itr.lst (Ev.slice_lst (Ev.loc rfl) .none (.some Ev.int) (by rw [List.length_map]; omega)) (by rw [hcut, List.length_map]; omega)) (fun _ => true) rowP ?_ (fun p hp cl Ca => rfl) (fun p hp _ cl Ca => ?_)) (op_ladd ?_))
        (Ev.list (.cons (outerE rfl (Ev.bin (Ev.bin (Ev.loc rfl) Ev.int (op_div (by decide))) Ev.int (op_mod (by decide))) rfl (by intro _ _; rfl)) .nil)) (op_ladd ?_)) ?_
      · refine ⟨rfl, by decide +kernel, by decide +kernel, by decide +kernel, by decide +kernel, ?_, rfl⟩
        intro y hy hf
        exfalso
        revert y
        decide +kernel
      · rw [hcut] at hp
        obtain ⟨n, _, rfl⟩ := List.mem_map.mp hp
        exact Ev.callF (N.comp rfl) (by rw [H.q]; exact find15) (fn_law_row H n) (.cons (Ev.loc rfl) .nil)
      · rw [hcut, List.length_map, s24]
        have := List.length_filter_le (fun _ : PV => true) ((ns.take 4).map PV.int)
        rw [List.length_map] at this
        simp only [List.length_cons, List.length_nil]; omega
      · rw [hcut, List.length_append, List.length_map, s24]
        have := List.length_filter_le (fun _ : PV => true) ((ns.take 4).map PV.int)
        rw [List.length_map] at this
        simp only [List.length_cons, List.length_nil]; omega
      · rw [hcut, List.filter_eq_self.mpr (by simp), List.map_map]
        unfold rowsOf
        rw [List.map_append, List.map_append, List.map_map]
        congr 3
        apply List.map_congr_left
        intro n _
        exact rowOf_pv n
    · exact ⟨rfl, .inl rfl⟩
    rotate_left
    · rfl
    with_reducible refine Exs.assign (p := .lst [.str (S []), .str (S [75]), .str (S [13255])]) ?_ ?_ ?_ ?_
    · exact Ev.list (.cons (Ev.strS cEmpty) (.cons (Ev.strS cBigK) (.cons (Ev.strS cSq) .nil)))
    · exact ⟨rfl, .inl rfl⟩
    rotate_left
    · rfl
    have rowAt : ∀ i, i < (rowsOf ns).length → ((rowsOf ns).map Row.pv)[i]? = some ((rowsOf ns).getD i ⟨0, false, 0⟩).pv := fun i hi => map_getD _ _ _ _ PV.none hi
    have rawE : ∀ {F : Fm} {e₁ e₂ : Expr} {r : Row} {np pos : Pos}, r.Ok → Ev C (k + 3) (E20 La a' cd) F e₁ r.pv → Ev C (k + 3) (E20 La a' cd) F e₂ (.lst [.str (S []), .str (S [75]), .str (S [13255])]) → Flat [e₁, e₂] (E20 La a' cd) pos →
        Ev C (k + 3) (E20 La a' cd) F (.Call (.Name "_law_raw" np) [e₁, e₂] [] pos) (.str (S (raw r wm))) := fun {F e₁ e₂ r np pos} hr h1 h2 hf => Ev.callF N (by rw [H.q]; exact find16) (fn_raw H (k := k + 2) r hr [] [75] [13255] (by decide) (by decide) (by decide)) (.cons h1 (.cons h2 .nil)) rfl hf
    with_reducible refine Exs.assign (p := .str (S (mailTo ns 0))) ?_ ?_ ?_ ?_
    · exact rawE (getD_ok ns 0) (Ev.item_lst (j := 0) (Ev.loc rfl) Ev.int ⟨by rw [List.length_map]; omega, .inl rfl⟩ (rowAt 0 (by omega)) (by intro _ _; rfl) (by rw [List.length_map]; omega)) (Ev.loc rfl) rfl
    · exact ⟨rfl, .inl rfl⟩
    rotate_left
    · rfl
    with_reducible refine Exs.cons ?_
    with_reducible refine Ex.for (ps := rng 1 ((rowsOf ns).length - 1)) ?_ ?_ (fun i F' => F'.m "script" = some (.lst (ns.map .int)) ∧ F'.m "sought" = some (.int ns.sum) ∧ F'.m "words" = some (.lst [.str (S []), .str (S [75]), .str (S [13255])]) ∧ F'.m "rows" = some (.lst ((rowsOf ns).map Row.pv)) ∧ F'.m "mail" = some (.str (S (mailTo ns i)))) ?_ ?_ ?_ ?_
    · exact Itr.range2 N (bRange H) Ev.int (Ev.callB N bl (.inl ⟨_, rfl⟩) (.cons (Ev.loc rfl) .nil) (bi_len_lst (by rw [List.length_map]; omega))) (by rw [List.length_map]; omega) (by decide) (by decide) (by rw [List.length_map]; omega) (by rw [List.length_map]; omega)
    · exact ⟨rfl, .inl rfl⟩
    · exact ⟨rfl, rfl, rfl, rfl, rfl⟩
    · rintro i p F' hp ⟨g1, g2, g3, g4, g5⟩
      unfold rng at hp
      rw [List.getElem?_map] at hp
      obtain ⟨j, hj, rfl⟩ := Option.map_eq_some_iff.mp hp
      obtain ⟨hj1, hj2⟩ := List.getElem?_eq_some_iff.mp hj
      simp only [List.length_range] at hj1
      simp only [List.getElem_range] at hj2
      subst hj2
      have hk : (F'.set "k" (.int (1 + (i : Int)))).m "k" = some (.int ((i : Int) + 1)) := by show some _ = some _; rw [Int.add_comm]
      have k1 : (F'.set "k" (.int (1 + (i : Int)))).m "script" = some (.lst (ns.map .int)) := g1
      have k2 : (F'.set "k" (.int (1 + (i : Int)))).m "sought" = some (.int ns.sum) := g2
      have k3 : (F'.set "k" (.int (1 + (i : Int)))).m "words" = some (.lst [.str (S []), .str (S [75]), .str (S [13255])]) := g3
      have k4 : (F'.set "k" (.int (1 + (i : Int)))).m "rows" = some (.lst ((rowsOf ns).map Row.pv)) := g4
      have k5 : (F'.set "k" (.int (1 + (i : Int)))).m "mail" = some (.str (S (mailTo ns i))) := g5
      generalize F'.set "k" (.int (1 + (i : Int))) = F1 at hk k1 k2 k3 k4 k5
      have hkm : Ev C (k + 3) (E20 La a' cd) F1 (.Name "k" default) (.int ((i : Int) + 1)) := Ev.loc hk
      have hi : i + 1 < (rowsOf ns).length := by omega
      have hc4 : (cut (ns.map PV.int) none (some 4)).length = (ns.take 4).length := by rw [hcut, List.length_map]
      with_reducible refine Exs.assign (p := .str (S (endAt ns (i + 1)))) ?_ ?_ ?_ ?_
      · refine Ev.ifexp (c := decide (((i : Int) + 1) ≤ ((cut (ns.map PV.int) none (some 4)).length : Int))) (Ts.cmp (Ev.loc hk) (Ev.callB N bl (.inl ⟨_, rfl⟩) (.cons (Ev.slice_lst (Ev.loc k1) .none (.some Ev.int) (by rw [List.length_map]; omega)) .nil) (bi_len_lst (by rw [hc4]; omega))) op_le) (fun h => ?_) fun h => ?_
        · rw [hc4] at h
          have h : i + 1 ≤ (ns.take 4).length := by simp only [decide_eq_true_eq] at h; omega
          have hl : i < ns.length := by rw [List.length_take] at h; omega
          have hs : (ns.map PV.int)[i]? = some (.int (ns.getD i 0)) := map_getD _ _ _ _ PV.none hl
          have e : endAt ns (i + 1) = endOf3 (ns.getD i 0 / 24 % 3).toNat := by unfold endAt; rw [if_pos h]; rfl
          rw [e]
          have hlt : (ns.getD i 0 / 24 % 3).toNat < 3 := by omega
          exact Ev.l3 (n := (ns.getD i 0 / 24 % 3).toNat) (Ev.list (.cons (Ev.strS cN) (.cons (Ev.strS cR) (.cons (Ev.strS cRN) .nil))))
            (Ev.eq (Ev.bin (Ev.bin (Ev.item_lst (n := (i : Int) + 1 - 1) (j := i) (Ev.loc k1) (Ev.bin (Ev.loc hk) Ev.int op_sub) ⟨by rw [List.length_map]; exact hl, .inl (by omega)⟩ hs (by intro _ _; rfl) (by rw [List.length_map]; omega)) Ev.int (op_div (by decide))) Ev.int (op_mod (by decide))) (by rw [cast_mod (by decide)])) (end3_at hlt)
        · rw [hc4] at h
          have h : ¬ i + 1 ≤ (ns.take 4).length := by simp only [decide_eq_false_iff_not] at h; omega
          have e : endAt ns (i + 1) = [10] := by unfold endAt; rw [if_neg h]
          rw [e]
          exact Ev.strS cN
      · exact ⟨rfl, .inl rfl⟩
      rotate_left
      · rfl
      have h1 := mailTo_len ns i
      have h2 := endAt_len ns (i + 1)
      have h3 := raw_len (getD_ok ns (i + 1)) wm_len
      with_reducible refine Exs.assign (p := .str (S (mailTo ns (i + 1)))) ?_ ?_ ?_ ?_
      · refine Ev.eq (Ev.bin (Ev.bin (Ev.loc k5) (Ev.loc rfl) (op_sadd (by rw [S_len, S_len, s24]; omega))) (rawE (getD_ok ns (i + 1)) (Ev.item_lst (n := (i : Int) + 1) (j := i + 1) (Ev.loc k4) (Ev.loc hk) ⟨by rw [List.length_map]; exact hi, .inl (by omega)⟩ (rowAt _ hi) (by intro _ _; rfl) (by rw [List.length_map]; omega)) (Ev.loc k3) rfl)
          (op_sadd (by rw [S_append, S_len, S_len, List.length_append, s24]; omega))) ?_
        rw [S_append, S_append]; rfl
      · exact ⟨rfl, .inl rfl⟩
      rotate_left
      · rfl
      exact Exs.nil ⟨k1, k2, k3, k4, rfl⟩
    · rintro F' ⟨g1, g2, g3, g4, g5⟩
      have hr : (rng 1 ((rowsOf ns).length - 1)).length = (rowsOf ns).length - 1 := by simp [rng]
      rw [hr] at g5
      with_reducible refine Behind1.next ?_
      have rowE : Ev C (k + 3) (E20 La a' cd) F' (.Name "sought" default) (.int ns.sum) := Ev.loc g2
      with_reducible refine Exs.assign (p := .lst [(q0 ns).pv, (q1 ns).pv, (q2 ns).pv]) ?_ ?_ ?_ ?_
      · refine Ev.list (.cons ?_ (.cons ?_ (.cons ?_ .nil)))
        · exact Ev.tuple (.cons Ev.int (.cons (Ev.cmp (Ev.bin (Ev.bin (Ev.loc g2) Ev.int (op_div (by decide))) Ev.int (op_mod (by decide))) Ev.int op_eq) (.cons Ev.int .nil)))
        · exact Ev.eq (Ev.callF N (by rw [H.q]; exact find15) (fn_law_row H (k := k + 2) ns.sum) (.cons (Ev.loc g2) .nil)) (rowOf_pv _)
        · exact Ev.tuple (.cons Ev.int (.cons (Ev.cmp (Ev.bin (Ev.bin (Ev.loc g2) Ev.int (op_div (by decide))) Ev.int (op_mod (by decide))) Ev.int op_eq) (.cons Ev.int .nil)))
      · exact ⟨rfl, .inl rfl⟩
      rotate_left
      · rfl
      have p0 := raw_len (q0_ok ns) wp_len
      have p1 := raw_len (rowOf_ok ns.sum) wp_len
      have p2 := raw_len (q2_ok ns) wp_len
      with_reducible refine Exs.assign (p := .str (S (page ns))) ?_ ?_ ?_ ?_
      · have hj : JoinOk (S [13]) [S (raw (q0 ns) wp), S (raw (q1 ns) wp), S (raw (q2 ns) wp)] = true := by
          unfold JoinOk
          rw [Bool.not_eq_true']
          unfold Builtin.Str.tooLong
          rw [s24]
          refine decide_eq_false ?_
          simp only [List.foldl_toArray, List.foldl_cons, List.foldl_nil, S_len]
          unfold q1
          simp only [List.length_cons, List.length_nil]
          omega
        have ej : S (page ns) = Txt.join (S [13]) [S (raw (q0 ns) wp), S (raw (q1 ns) wp), S (raw (q2 ns) wp)] := by
          show _ = Builtin.Str.glued _ _
          unfold Builtin.Str.glued page
          simp [S]
        rw [ej]
        refine Ev.join (Ev.strS cR) (Ev.eq (Ev.comp (ps := [(q0 ns).pv, (q1 ns).pv, (q2 ns).pv]) (Itr.lst (Ev.loc rfl) (by rw [s24]; simp)) (fun _ => true) (rawP wp) ?_ (fun p hp cl Ca => rfl) (fun p hp _ cl Ca => ?_)) ?_) hj
        · refine ⟨rfl, by decide +kernel, by decide +kernel, by decide +kernel, by decide +kernel, ?_, rfl⟩
          intro y hy hf
          exfalso
          revert y
          decide +kernel
        · have : ∃ r : Row, r.Ok ∧ p = r.pv := by
            simp only [List.mem_cons, List.not_mem_nil, or_false] at hp
            rcases hp with rfl | rfl | rfl
            · exact ⟨_, q0_ok ns, rfl⟩
            · exact ⟨_, rowOf_ok ns.sum, rfl⟩
            · exact ⟨_, q2_ok ns, rfl⟩
          obtain ⟨r, hr, rfl⟩ := this
          rw [rawP_pv]
          exact Ev.callF (N.comp rfl) (by rw [H.q]; exact find16) (fn_raw H (k := k + 2) r hr [] [107] [67, 79, 46] (by decide) (by decide) (by decide)) (.cons (Ev.loc rfl) (.cons (Ev.list (.cons (Ev.strS cEmpty) (.cons (Ev.strS cK) (.cons (Ev.strS cCO) .nil)))) .nil))
        · simp [rawP_pv]
      · exact ⟨rfl, .inl rfl⟩
      rotate_left
      · rfl
      exact law_tail H P N ns g4 rfl g5 rfl
    · intro _; rfl
end
end Mine
end

section
open PySem PySem.W PyProof.Rows PySem.Calls
set_option linter.all false
set_option maxRecDepth 100000
namespace Mine

theorem pat1_at {h : Heap} (h1 : h.get? 43 = some pat1) (h2 : h.get? 42 = some tup1) : PatAt h 43 code1 :=
  ⟨⟨pat1, _, 42, tup1, _, _, h1, rfl, rfl, rfl, rfl, rfl, h2, rfl, by decide +kernel⟩, fun o ho => by rw [h1] at ho; cases ho; rfl⟩
theorem pat2_at {h : Heap} (h1 : h.get? 48 = some pat2) (h2 : h.get? 47 = some tup2) : PatAt h 48 code2 :=
  ⟨⟨pat2, _, 47, tup2, _, _, h1, rfl, rfl, rfl, rfl, rfl, h2, rfl, by decide +kernel⟩, fun o ho => by rw [h1] at ho; cases ho; rfl⟩

theorem elems_b1 {prog : Program} {w : World} : ElemsOf (intKind prog w) b1es.toList := by
  intro e he
  have hk : ∀ e ∈ b1es.toList, (∃ k t, e.2 = .int k t ∧ e.1 = hashInt k) ∧ e.2.scannable = true := by
    intro e he
    simp only [b1es, List.mem_cons, List.not_mem_nil, or_false] at he
    (rcases he with rfl | rfl | rfl | rfl | rfl | rfl | rfl | rfl | rfl | rfl | rfl | rfl | rfl | rfl | rfl | rfl | rfl | rfl | rfl | rfl | rfl | rfl | rfl | rfl | rfl | rfl | rfl) <;> exact ⟨⟨_, _, rfl, by decide +kernel⟩, rfl⟩
  obtain ⟨⟨k, t, h1, h2⟩, h3⟩ := hk e he
  exact ⟨⟨k, by rw [h1]; simp [intKind, Value.isInt], h2⟩, h3⟩
theorem set_b1 {prog : Program} {w : World} {h : Heap} {led : Bool} (h1 : h.get? 63 = some (b1obj led)) : h.SetOf (intKind prog w) 63 b1 27 := by
  refine ⟨b1obj led, b1es, 29, b1tab led, h1, ⟨rfl, rfl, rfl⟩, rfl, elems_b1, fun k => ?_, by decide, by cases led <;> decide +kernel, rfl⟩
  constructor
  · intro hk
    have hk : k ∈ ([65024, 65025, 65026, 65027, 65028, 65029, 6150, 65030, 65031, 65032, 65033, 6155, 6156, 6157, 8203, 8204, 8205, 65034, 65035, 65036, 65037, 65038, 65039, 173, 847, 8288, 65279] : List Int) := by
      unfold b1 at hk; exact List.contains_iff_mem.mp hk
    have : ∀ k ∈ ([65024, 65025, 65026, 65027, 65028, 65029, 6150, 65030, 65031, 65032, 65033, 6155, 6156, 6157, 8203, 8204, 8205, 65034, 65035, 65036, 65037, 65038, 65039, 173, 847, 8288, 65279] : List Int), ∃ e ∈ b1es.toList, Value.isInt k e.2 = true := by decide +kernel
    exact this k hk
  · rintro ⟨e, he, hk⟩
    have : ∀ e ∈ b1es.toList, ∃ k t, e.2 = .int k t ∧ b1 k = true := by
      intro e he
      simp only [b1es, List.mem_cons, List.not_mem_nil, or_false] at he
      (rcases he with rfl | rfl | rfl | rfl | rfl | rfl | rfl | rfl | rfl | rfl | rfl | rfl | rfl | rfl | rfl | rfl | rfl | rfl | rfl | rfl | rfl | rfl | rfl | rfl | rfl | rfl | rfl) <;> exact ⟨_, _, rfl, by decide +kernel⟩
    obtain ⟨k', t, h1, h2⟩ := this e he
    have hk : Value.isInt k e.2 = true := hk
    rw [h1] at hk
    have : k' = k := by simpa [Value.isInt] using hk
    rw [← this]; exact h2

theorem kv_find {c : Int} : ∀ {ps : List (Int × Str)} {kvs : List (Int × Value)}, KV ps kvs → (valueAt kvs c = none ∧ ps.lookup c = none) ∨ ∃ x t, valueAt kvs c = some (.str x t) ∧ ps.lookup c = some x
  | [], [], _ => .inl ⟨rfl, rfl⟩
  | p :: ps, kv :: kvs, h => by
    obtain ⟨h1, ⟨t, h2⟩, h3⟩ := h
    obtain ⟨a, x⟩ := p
    obtain ⟨b, v⟩ := kv
    simp only at h1 h2
    subst h1 h2
    rw [List.lookup_cons]
    unfold valueAt
    rw [List.find?_cons]
    by_cases hc : c = b
    · subst hc
      exact .inr ⟨x, t, by simp, by simp⟩
    · have e1 : (c == b) = false := beq_eq_false_iff_ne.mpr hc
      have e2 : decide (b = c) = false := decide_eq_false fun e => hc e.symm
      rw [e1, e2]
      exact kv_find h3
  | [], _ :: _, h => h.elim
  | _ :: _, [], h => h.elim

theorem b3_look : ∀ x ∈ b3tab, (match x.2 with | .none => b3.lookup x.1 = none | .str y => b3.lookup x.1 = some y | _ => False) := by
  intro x hx
  simp only [b3tab, List.mem_cons, List.not_mem_nil, or_false] at hx
  rcases hx with rfl | rfl | rfl | rfl | rfl | rfl | rfl | rfl | rfl | rfl <;> first | (show List.lookup _ b3 = none; kernel_rfl!) | (show List.lookup _ b3 = some _; kernel_rfl!)

noncomputable def cx (w : World) (s : Shared) : Cx where
  prog := pw
  w := w
  q := qv
  loose := looseW qv loose
  mean := ExcName.means s.heap
  mg := s.heap.nsMap mainGlobals
  mb := s.heap.nsMap builtinsNs
  X := Facts pw w (s.heap.nsMap mainGlobals)
  hX := fun h h' F k => F.keeps k

theorem is_cx {w : World} {s : Shared} (hB : Behind w s) : Is (cx w s) := by
  obtain ⟨G, _, F⟩ := hB
  refine ⟨rfl, rfl, ⟨43, F.re1, fun h O => pat1_at O.x.o43 O.x.o42⟩, ⟨48, F.re2, fun h O => pat2_at O.x.o48 O.x.o47⟩, ⟨63, F.set, fun h O => ?_⟩, ⟨74, F.dict, by decide, fun x hx h O => ?_⟩⟩
  · obtain ⟨led, e⟩ := O.x.o63
    exact set_b1 e
  · obtain ⟨kvs, hd, hkv⟩ := O.x.d74
    refine ⟨valueAt kvs, hd.mapOf, fun st => ?_⟩
    have hl := b3_look x hx
    rcases kv_find (c := x.1) hkv with ⟨h1, h2⟩ | ⟨y, t, h1, h2⟩
    · rw [h1]
      rw [h2] at hl
      obtain ⟨c, p⟩ := x
      cases p with
      | none => exact .none
      | str y => cases hl
      | _ => exact hl.elim
    · rw [h1]
      rw [h2] at hl
      obtain ⟨c, p⟩ := x
      cases p with
      | none => cases hl
      | str z => cases hl; exact .str _ _
      | _ => exact hl.elim

theorem reps_ints {st : St} : ∀ {vs : List Value} {ns : List Int}, Ints vs ns → Reps st vs (ns.map .int)
  | [], [], _ => .nil
  | v :: vs, n :: ns, h => by
    obtain ⟨⟨t, rfl⟩, h2⟩ := h
    exact .cons (.int _ _) (reps_ints h2)
  | [], _ :: _, h => h.elim
  | _ :: _, [], h => h.elim

theorem goes01 (P : Law01) : ∀ (w : World) (s s₁ : Shared) (a : Addr) (vs : List Value) (ns : List Int), Behind w s → (∀ b o, s.heap.get? b = some o → s₁.heap.get? b = some o) → s₁.gens = #[] →
      s₁.heap.get? a = some { cls := .type "list", data := .seq vs.toArray } → Ints vs ns → ns.length ≤ 63 → WData.layableAll [.list (ns.map .int)] = true →
      ∃ mg f, s₁.heap.Ns mainGlobals mg ∧ mg (Str.ofString "law") = some f ∧ Goes pw w f [.ref a] s₁ := by
  intro w s s₁ a vs ns hB hk hg hL hI hn _
  have H := is_cx hB
  obtain ⟨G, _, F⟩ := id hB
  have O : (cx w s).On s.heap := ⟨G.T, F⟩
  have O₁ := O.keeps hk
  have hdn : (dr 20).name = ("law" : Str) := beq_iff_eq.mp (List.find?_some (p := fun d : DefRec => d.name == ("law" : Str)) find20)
  obtain ⟨f, o, pm, code, doc, hf, _⟩ := O₁.top.fn (dr 20) (List.mem_of_find?_eq_some find20)
  rw [hdn] at hf
  refine ⟨_, .ref f, O₁.top.g, hf, ?_⟩
  have ok : Ok (cx w s) s₁.heap.get? s₁ := ⟨fun _ _ e => e, ⟨s₁.heap, O₁, fun _ _ e => e⟩, hg⟩
  have hr : Reps s₁.heap.get? [.ref a] [.lst (ns.map .int)] := .cons (.lst hL (reps_ints hI)) .nil
  refine fn_law H (k := 4) P ns hn f hf s₁.heap.get? s₁ [.ref a] ok hr callerA _ ⟨by decide, by decide, rfl⟩ fun v st' s' hv t => ?_
  cases hv
  exact ⟨rfl, t.keep, t.same.os, t.same.gens.trans hg⟩
end Mine
end

section
open PySem PySem.W PyProof.Rows PySem.Calls
set_option linter.all false
set_option maxRecDepth 100000
namespace Mine

/-- the parts between three dots, counted off from the left -/
def splitL : L → L → List L
  | acc, [] => [acc]
  | acc, 46 :: 46 :: 46 :: r => acc :: splitL [] r
  | acc, c :: r => splitL (acc ++ [c]) r
def MatL : List L → L → Prop
  | [], _ => False
  | [w], t => t = w
  | w :: r, t => ∃ u v, t = w ++ u ∧ v <:+ u ∧ MatL r v
def starts3 (l : L) : Prop := ∃ r, l = 46 :: 46 :: 46 :: r
inductive G : L → L → Prop
  | nil : G [] []
  | gap {p t u} : G p u → u <:+ t → G (46 :: 46 :: 46 :: p) t
  | lit {c p t} : ¬ starts3 (c :: p) → G p t → G (c :: p) (c :: t)

theorem splitL_gap (acc r : L) : splitL acc (46 :: 46 :: 46 :: r) = acc :: splitL [] r := by rw [splitL]
theorem splitL_lit {acc : L} {c : Nat} {r : L} (h : ¬ starts3 (c :: r)) : splitL acc (c :: r) = splitL (acc ++ [c]) r := by
  rw [splitL.eq_3]
  intro r' e1 e2
  exact h ⟨r', by rw [e1, e2]⟩
theorem splitL_ne (acc p : L) : splitL acc p ≠ [] := by
  induction acc, p using splitL.induct with
  | case1 acc => simp [splitL]
  | case2 acc r ih => rw [splitL_gap]; simp
  | case3 acc c r h ih =>
    rw [splitL.eq_3 acc c r h]; exact ih

theorem matL_cons {w : L} {r : List L} {t : L} (h : r ≠ []) : MatL (w :: r) t ↔ ∃ u v, t = w ++ u ∧ v <:+ u ∧ MatL r v := by
  cases r with
  | nil => exact absurd rfl h
  | cons a r => rfl

theorem G_gap {p t : L} : G (46 :: 46 :: 46 :: p) t ↔ ∃ u, u <:+ t ∧ G p u := by
  constructor
  · intro h
    cases h with
    | gap h1 h2 => exact ⟨_, h2, h1⟩
    | lit h1 h2 => exact absurd ⟨_, rfl⟩ h1
  · rintro ⟨u, h1, h2⟩; exact .gap h2 h1
theorem G_lit {c : Nat} {p t : L} (h : ¬ starts3 (c :: p)) : G (c :: p) t ↔ ∃ t', t = c :: t' ∧ G p t' := by
  constructor
  · intro h'
    cases h' with
    | gap h1 h2 => exact absurd ⟨_, rfl⟩ h
    | lit h1 h2 => exact ⟨_, rfl, h2⟩
  · rintro ⟨t', rfl, h2⟩; exact .lit h h2
theorem G_nil {t : L} : G [] t ↔ t = [] := by
  constructor
  · intro h; cases h; rfl
  · rintro rfl; exact .nil

theorem matL_splitL : ∀ (acc p t : L), MatL (splitL acc p) t ↔ ∃ u, t = acc ++ u ∧ G p u := by
  intro acc p
  induction acc, p using splitL.induct with
  | case1 acc =>
    intro t
    rw [splitL]
    show t = acc ↔ _
    constructor
    · rintro rfl; exact ⟨[], by simp, .nil⟩
    · rintro ⟨u, rfl, h⟩; rw [G_nil.mp h]; simp
  | case2 acc r ih =>
    intro t
    rw [splitL_gap, matL_cons (splitL_ne _ _)]
    constructor
    · rintro ⟨u, v, rfl, h1, h2⟩
      obtain ⟨v', e, h3⟩ := (ih v).mp h2
      rw [List.nil_append] at e
      subst e
      exact ⟨u, rfl, G_gap.mpr ⟨v, h1, h3⟩⟩
    · rintro ⟨u, rfl, h⟩
      obtain ⟨v, h1, h2⟩ := G_gap.mp h
      exact ⟨u, v, rfl, h1, (ih v).mpr ⟨v, by simp, h2⟩⟩
  | case3 acc c r h ih =>
    intro t
    have hs : ¬ starts3 (c :: r) := by
      rintro ⟨r', e⟩
      simp only [List.cons.injEq] at e
      exact h r' e.1 e.2
    rw [splitL_lit hs, ih]
    constructor
    · rintro ⟨u, rfl, h'⟩; exact ⟨c :: u, by simp, (G_lit hs).mpr ⟨u, rfl, h'⟩⟩
    · rintro ⟨u, rfl, h'⟩
      obtain ⟨u', rfl, h2⟩ := (G_lit hs).mp h'
      exact ⟨u', by simp, h2⟩
theorem G_parts (p t : L) : G p t ↔ MatL (splitL [] p) t := by
  rw [matL_splitL]
  constructor
  · intro h; exact ⟨t, by simp, h⟩
  · rintro ⟨u, rfl, h⟩; simpa using h

/-- the parts amid, somewhere one behind the other -/
def Mid : List L → L → Prop
  | [], _ => True
  | w :: r, m => ∃ x v, m = x ++ w ++ v ∧ Mid r v
theorem Mid.pre {ws : List L} {m : L} (y : L) (h : Mid ws m) : Mid ws (y ++ m) := by
  cases ws with
  | nil => trivial
  | cons w r => obtain ⟨x, v, rfl, h'⟩ := h; exact ⟨y ++ x, v, by simp, h'⟩
theorem Mid.post {ws : List L} : ∀ {m : L} (y : L), Mid ws m → Mid ws (m ++ y) := by
  induction ws with
  | nil => intro m y _; trivial
  | cons w r ih => rintro m y ⟨x, v, rfl, h'⟩; exact ⟨x, v ++ y, by simp, ih y h'⟩
/-- all parts but the first, behind a gap each, the last at the end -/
theorem matL_tail : ∀ (ws : List L) (wl v : L), (∃ u, u <:+ v ∧ MatL (ws ++ [wl]) u) ↔ ∃ m, v = m ++ wl ∧ Mid ws m
  | [], wl, v => by
    constructor
    · rintro ⟨u, ⟨m, rfl⟩, h⟩
      have h : u = wl := h
      subst h; exact ⟨m, rfl, trivial⟩
    · rintro ⟨m, rfl, _⟩; exact ⟨wl, ⟨m, rfl⟩, rfl⟩
  | w :: ws, wl, v => by
    have ih := matL_tail ws wl
    constructor
    · rintro ⟨u, ⟨x, rfl⟩, h⟩
      rw [List.cons_append, matL_cons (by simp)] at h
      obtain ⟨u', v', rfl, h1, h2⟩ := h
      obtain ⟨m, rfl, hm⟩ := (ih u').mp ⟨v', h1, h2⟩
      exact ⟨x ++ w ++ m, by simp, x, m, rfl, hm⟩
    · rintro ⟨_, rfl, x, m, rfl, hm⟩
      obtain ⟨v', h1, h2⟩ := (ih (m ++ wl)).mpr ⟨m, rfl, hm⟩
      refine ⟨w ++ (m ++ wl), ⟨x, by simp⟩, ?_⟩
      rw [List.cons_append, matL_cons (by simp)]
      exact ⟨m ++ wl, v', rfl, h1, h2⟩
theorem matL_ends (w0 : L) (ws : List L) (wl t : L) : MatL (w0 :: (ws ++ [wl])) t ↔ ∃ m, t = w0 ++ m ++ wl ∧ Mid ws m := by
  rw [matL_cons (by simp)]
  constructor
  · rintro ⟨u, v, rfl, h1, h2⟩
    obtain ⟨m, rfl, hm⟩ := (matL_tail ws wl u).mp ⟨v, h1, h2⟩
    exact ⟨m, by simp, hm⟩
  · rintro ⟨m, rfl, hm⟩
    obtain ⟨v, h1, h2⟩ := (matL_tail ws wl (m ++ wl)).mpr ⟨m, rfl, hm⟩
    exact ⟨m ++ wl, v, by simp, h1, h2⟩
end Mine
end

section
open PySem PySem.W PyProof.Rows PySem.Calls
set_option linter.all false
set_option maxRecDepth 100000
namespace Mine

/-- w stands at i, within e -/
def Here (t w : L) (e i : Nat) : Prop := i + w.length ≤ e ∧ (t.drop i).take w.length = w
theorem at_here {t w : L} {e i : Nat} : PySem.StrLaws.At (S t) (S w) e i ↔ Here t w e i := by
  unfold PySem.StrLaws.At Here
  rw [PySem.StrLaws.subAt_eq, S_len, S_list, S_list]
  simp
theorem find4_spec (t w : L) (s e : Nat) (he : e ≤ t.length) :
    (∃ i : Nat, find4 (S t) (S w) s e = i ∧ s ≤ i ∧ Here t w e i ∧ ∀ j, s ≤ j → j < i → ¬ Here t w e j) ∨ (find4 (S t) (S w) s e = -1 ∧ ∀ j, s ≤ j → ¬ Here t w e j) := by
  have e1 : fromIndex (S t).length (s : Int) = s := by unfold fromIndex; rw [if_neg (by omega)]; omega
  have e2 : min (fromIndex (S t).length (e : Int)) (S t).length = e := by unfold fromIndex; rw [if_neg (by omega), S_len]; omega
  unfold find4
  rw [e1, e2, PySem.StrLaws.occ_eq]
  have hf := PySem.StrLaws.occ_first (S t) (S w) e 1 (Nat.le_refl 1) (List.range' s (e + 1 - s)) s (fun i hi => (List.mem_range'_1.mp hi).1)
  rcases hf with ⟨h1, h2⟩ | ⟨pre, a, post, h1, h2, h3, h4⟩
  · right
    rw [h1]
    refine ⟨rfl, fun j hj hh => ?_⟩
    exact h2 j (List.mem_range'_1.mpr ⟨hj, by have := hh.1; omega⟩) (at_here.mpr hh)
  · left
    generalize (forIn (List.range' s (e + 1 - s)) ((#[] : Array Nat), s) (PySem.StrLaws.occBody (S t) (S w) e 1)).run.fst = arr at h2
    have ha : ∃ r, arr.toList = a :: r := by
      rw [← Array.getElem?_toList] at h2
      cases hl : arr.toList with
      | nil => rw [hl] at h2; cases h2
      | cons b r => rw [hl] at h2; cases h2; exact ⟨r, rfl⟩
    obtain ⟨r, hr⟩ := ha
    rw [hr]
    have hm : a ∈ List.range' s (e + 1 - s) := by rw [h1]; simp
    refine ⟨a, rfl, (List.mem_range'_1.mp hm).1, at_here.mp h3, fun j hj1 hj2 hh => ?_⟩
    have hjm : j ∈ List.range' s (e + 1 - s) := List.mem_range'_1.mpr ⟨hj1, by have := hh.1; omega⟩
    rw [h1] at hjm
    rcases List.mem_append.mp hjm with h | h
    · exact h4 j h (at_here.mpr hh)
    · -- j is not behind a, as the range rises
      have hp : (List.range' s (e + 1 - s)).Pairwise (· < ·) := List.pairwise_lt_range' ..
      rw [h1] at hp
      have hp2 := (List.pairwise_append.mp hp).2.1
      rcases List.mem_cons.mp h with h | h
      · omega
      · have := (List.pairwise_cons.mp hp2).1 j h; omega

theorem here_split {t w : L} {s e i : Nat} (hs : s ≤ i) (h : Here t w e i) (he : e ≤ t.length) : (t.take e).drop s = (t.take i).drop s ++ w ++ (t.take e).drop (i + w.length) := by
  obtain ⟨h1, h2⟩ := h
  have a1 : (t.take e).drop s = (t.take i).drop s ++ (t.take e).drop i := by
    have : t.take e = t.take i ++ (t.take e).drop i := by
      conv => lhs; rw [← List.take_append_drop i (t.take e)]
      rw [List.take_take, Nat.min_eq_left (by omega)]
    conv => lhs; rw [this]
    rw [List.drop_append_of_le_length (by rw [List.length_take]; omega)]
  have a2 : (t.take e).drop i = w ++ (t.take e).drop (i + w.length) := by
    conv => lhs; rw [← List.take_append_drop w.length ((t.take e).drop i)]
    rw [List.drop_drop]
    congr 1
    rw [List.drop_take, List.take_take, Nat.min_eq_left (by omega)]
    exact h2
  rw [a1, a2, List.append_assoc]
theorem split_here {t w x v : L} {s e : Nat} (hs : s ≤ e) (he : e ≤ t.length) (h : (t.take e).drop s = x ++ w ++ v) : Here t w e (s + x.length) ∧ v = (t.take e).drop (s + x.length + w.length) := by
  have hl := congrArg List.length h
  simp only [List.length_drop, List.length_take, List.length_append] at hl
  rw [Nat.min_eq_left he] at hl
  have d1 : (t.take e).drop (s + x.length) = w ++ v := by
    rw [← List.drop_drop, h, List.append_assoc, List.drop_left]
  refine ⟨⟨by omega, ?_⟩, ?_⟩
  · have : (t.drop (s + x.length)).take w.length = ((t.take e).drop (s + x.length)).take w.length := by
      rw [List.drop_take, List.take_take, Nat.min_eq_left (by omega)]
    rw [this, d1, List.take_left]
  · rw [← List.drop_drop, d1, List.drop_left]

theorem emLoop_spec (t : L) (e : Nat) (he : e ≤ t.length) : ∀ (ws : List L) (s : Nat), s ≤ e → (emLoop (S t) e (ws.map S) s = true ↔ Mid ws ((t.take e).drop s))
  | [], s, _ => ⟨fun _ => trivial, fun _ => rfl⟩
  | w :: ws, s, hs => by
    rw [List.map_cons, show emLoop (S t) e (S w :: ws.map S) s = if find4 (S t) (S w) s e < 0 then false else emLoop (S t) e (ws.map S) (find4 (S t) (S w) s e + (S w).length) from rfl]
    rcases find4_spec t w s e he with ⟨i, h1, h2, h3, h4⟩ | ⟨h1, h2⟩
    · rw [h1, if_neg (by omega), S_len]
      have ih := emLoop_spec t e he ws (i + w.length) h3.1
      rw [show ((i : Int) + (w.length : Int)) = ((i + w.length : Nat) : Int) by omega, ih]
      constructor
      · intro hm
        exact ⟨_, _, here_split h2 h3 he, hm⟩
      · rintro ⟨x, v, hx, hm⟩
        obtain ⟨g1, g2⟩ := split_here hs he hx
        have hi : i ≤ s + x.length := by
          apply Nat.le_of_not_lt
          intro hlt
          exact h4 _ (by omega) hlt g1
        rw [g2] at hm
        have hsuf : (t.take e).drop (i + w.length) = ((t.take e).drop (i + w.length)).take (s + x.length - i) ++ (t.take e).drop (s + x.length + w.length) := by
          conv => lhs; rw [← List.take_append_drop (s + x.length - i) ((t.take e).drop (i + w.length))]
          rw [List.drop_drop]
          congr 2; omega
        rw [hsuf]
        exact hm.pre _
    · rw [h1, if_pos (by omega)]
      constructor
      · intro h; cases h
      · rintro ⟨x, v, hx, hm⟩
        obtain ⟨g1, g2⟩ := split_here hs he hx
        exact absurd g1 (h2 _ (by omega))

theorem starts_spec (t w : L) : Txt.startswith (S t) (S w) = true ↔ w <+: t := by
  unfold Txt.startswith
  rw [Bool.and_eq_true, decide_eq_true_eq, PySem.StrLaws.subAt_eq, S_len, S_len, S_list, S_list, List.drop_zero, beq_iff_eq]
  constructor
  · rintro ⟨_, h⟩; rw [← h]; exact List.take_prefix ..
  · rintro ⟨r, rfl⟩; exact ⟨by rw [List.length_append]; omega, List.take_left⟩
theorem ends_spec (t w : L) : Txt.endswith (S t) (S w) = true ↔ w <:+ t := by
  unfold Txt.endswith
  rw [Bool.and_eq_true, decide_eq_true_eq, PySem.StrLaws.subAt_eq, S_len, S_len, S_list, S_list, beq_iff_eq]
  constructor
  · rintro ⟨h1, h⟩
    rw [List.take_of_length_le (by rw [List.length_drop]; omega)] at h
    rw [← h]; exact List.drop_suffix ..
  · rintro ⟨r, rfl⟩
    refine ⟨by rw [List.length_append]; omega, ?_⟩
    rw [List.length_append, Nat.add_sub_cancel, List.drop_left, List.take_length]

theorem Mid.nilHead {ws : List L} {m : L} : Mid ([] :: ws) m ↔ Mid ws m := by
  constructor
  · rintro ⟨x, v, rfl, h⟩; simpa using h.pre x
  · intro h; exact ⟨[], m, rfl, h⟩
theorem Mid.nilLast : ∀ {ws : List L} {m : L}, Mid (ws ++ [[]]) m ↔ Mid ws m
  | [], m => ⟨fun _ => trivial, fun _ => ⟨m, [], by simp, trivial⟩⟩
  | w :: ws, m => by
    constructor
    · rintro ⟨x, v, h1, h2⟩; exact ⟨x, v, h1, Mid.nilLast.mp h2⟩
    · rintro ⟨x, v, h1, h2⟩; exact ⟨x, v, h1, Mid.nilLast.mpr h2⟩

theorem em3_spec (t w0 wl : L) (ws : List L) (h0 : w0 <+: t) (hl : wl <:+ t) : em3 (S t) (ws.map S) (w0.length : Int) ((t.length : Int) - (wl.length : Int)) = true ↔ ∃ m, t = w0 ++ m ++ wl ∧ Mid ws m := by
  obtain ⟨a, ha⟩ := h0
  obtain ⟨b, hb⟩ := hl
  have la : t.length = w0.length + a.length := by rw [← ha, List.length_append]
  have lb : t.length = b.length + wl.length := by rw [← hb, List.length_append]
  unfold em3
  by_cases hc : w0.length + wl.length ≤ t.length
  · rw [if_neg (by omega), show ((t.length : Int) - (wl.length : Int)) = ((t.length - wl.length : Nat) : Int) by omega, emLoop_spec t _ (by omega) ws _ (by omega)]
    have hm : t = w0 ++ (t.take (t.length - wl.length)).drop w0.length ++ wl := by
      have e1 : t.take (t.length - wl.length) = b := by
        conv => lhs; rw [← hb]
        rw [List.take_left' (by rw [List.length_append]; omega)]
      have hpre : w0 <+: b := List.prefix_of_prefix_length_le ⟨a, ha⟩ ⟨wl, hb⟩ (by omega)
      obtain ⟨m, hm⟩ := hpre
      rw [e1, ← hm, List.drop_left, hm, hb]
    constructor
    · intro h; exact ⟨_, hm, h⟩
    · rintro ⟨m, h1, h2⟩
      have : (t.take (t.length - wl.length)).drop w0.length = m := by
        have := hm.symm.trans h1
        rw [List.append_assoc, List.append_assoc] at this
        exact List.append_cancel_right (List.append_cancel_left this)
      rw [this]; exact h2
  · rw [if_pos (by omega)]
    constructor
    · intro h; cases h
    · rintro ⟨m, h1, h2⟩
      have := congrArg List.length h1
      simp only [List.length_append] at this
      omega
end Mine
end

section
open PySem PySem.W PyProof.Rows PySem.Calls
set_option linter.all false
set_option maxRecDepth 100000
namespace Mine

theorem at3 (p : L) (k : Nat) : PySem.StrLaws.At (S p) dots3 (S p).length k ↔ starts3 (p.drop k) := by
  rw [S_len]
  unfold dots3
  rw [at_here]
  unfold Here starts3
  constructor
  · rintro ⟨h1, h2⟩
    refine ⟨(p.drop k).drop 3, ?_⟩
    conv => lhs; rw [← List.take_append_drop 3 (p.drop k)]
    rw [show (p.drop k).take 3 = [46, 46, 46] from h2]; rfl
  · rintro ⟨r, h⟩
    have := congrArg List.length h
    simp only [List.length_drop, List.length_cons] at this
    refine ⟨by simp only [List.length_cons, List.length_nil]; omega, by rw [h]; rfl⟩
theorem splitL_skip (p : L) : ∀ (n a : Nat) (acc : L), a + n ≤ p.length → (∀ k, a ≤ k → k < a + n → ¬ starts3 (p.drop k)) → splitL acc (p.drop a) = splitL (acc ++ (p.drop a).take n) (p.drop (a + n))
  | 0, a, acc, _, _ => by simp
  | n + 1, a, acc, h, hn => by
    have ha := hn a (Nat.le_refl _) (by omega)
    rw [drop_at (show a < p.length by omega)] at ha ⊢
    rw [splitL_lit ha, splitL_skip p n (a + 1) _ (by omega) fun k h1 h2 => hn k (by omega) (by omega), List.take_succ_cons, show a + 1 + n = a + (n + 1) by omega]
    simp
theorem strSub_l (p : L) (a b : Nat) : Builtin.Str.strSub (S p) a b = S ((p.drop a).take (b - a)) := by
  rw [← S_of (Builtin.Str.strSub (S p) a b), PySem.StrLaws.strSub_toList, S_list]
theorem splitL_cuts (p : L) : ∀ (cuts : List Nat) (a f : Nat), a ≤ p.length → PySem.StrLaws.ChainG (S p) dots3 (S p).length a cuts f → (∀ k, f ≤ k → ¬ starts3 (p.drop k)) → PySem.StrLaws.partsFrom (S p) 3 a cuts = (splitL [] (p.drop a)).map S
  | [], a, f, ha, h, hn => by
    have e : f = a := h
    subst e
    rw [splitL_skip p (p.length - f) f [] (by omega) (fun k h1 _ => hn k h1), show f + (p.length - f) = p.length by omega, List.drop_length, splitL]
    show [Builtin.Str.strSub _ _ _] = [S _]
    rw [strSub_l, S_len]; simp
  | c :: r, a, f, ha, h, hn => by
    obtain ⟨h1, h2, h3, h4⟩ := h
    obtain ⟨q, hq⟩ := (at3 p c).mp h2
    have hc : c + 3 ≤ p.length := by
      have := congrArg List.length hq
      simp only [List.length_drop, List.length_cons] at this; omega
    rw [splitL_skip p (c - a) a [] (by omega) (fun k g1 g2 hs => h3 k g1 (by omega) ((at3 p k).mpr hs)), show a + (c - a) = c by omega, hq, splitL_gap]
    have hd : p.drop (c + 3) = q := by rw [← List.drop_drop, hq]; rfl
    rw [dots3_len] at h4
    rw [List.map_cons, ← hd, ← splitL_cuts p r (c + 3) f hc h4 hn]
    show Builtin.Str.strSub _ _ _ :: _ = _
    rw [strSub_l]; simp

theorem em2_spec (t w0 wl : L) (ws : List L) (h0 : w0 <+: t) : em2 (S t) ((ws ++ [wl]).map S) (w0.length : Int) = true ↔ ∃ m, t = w0 ++ m ++ wl ∧ Mid ws m := by
  have e1 : ((ws ++ [wl]).map S).getLastD ⟨#[]⟩ = S wl := by
    rw [List.getLastD_eq_getLast?]; simp
  have e2 : ((ws ++ [wl]).map S).eraseIdx (((ws ++ [wl]).map S).length - 1) = ws.map S := by
    rw [List.map_append, List.length_append, List.length_map, List.eraseIdx_append_of_length_le (by simp)]; simp
  unfold em2
  simp only []
  rw [e1, e2, S_len]
  by_cases h : wl.length = 0
  · rw [if_neg (by simpa using h)]
    have : wl = [] := List.length_eq_zero_iff.mp h
    subst this
    have := em3_spec t w0 [] (ws ++ [[]]) h0 (List.nil_suffix)
    rw [List.length_nil, show ((t.length : Int) - ((0 : Nat) : Int)) = t.length by omega] at this
    rw [S_len, this]
    constructor
    · rintro ⟨m, g1, g2⟩; exact ⟨m, g1, Mid.nilLast.mp g2⟩
    · rintro ⟨m, g1, g2⟩; exact ⟨m, g1, Mid.nilLast.mpr g2⟩
  · rw [if_pos (by simpa using h)]
    by_cases he : Txt.endswith (S t) (S wl) = true
    · rw [if_pos he, S_len]
      exact em3_spec t w0 wl ws h0 ((ends_spec t wl).mp he)
    · rw [if_neg he]
      constructor
      · intro h; cases h
      · rintro ⟨m, g1, g2⟩
        exact absurd ((ends_spec t wl).mpr ⟨w0 ++ m, g1.symm⟩) he
theorem em_spec (p t : L) : em (S p) (S t) = true ↔ G p t := by
  obtain ⟨f, hG, hn⟩ := PySem.StrLaws.occ_tight (S p) dots3 (by rw [dots3_len]; decide)
  rw [G_parts]
  have key := splitL_cuts p _ 0 f (Nat.zero_le _) hG (fun k h hs => hn k h ((at3 p k).mpr hs))
  rw [List.drop_zero] at key
  unfold em
  by_cases hc : Txt.contains (S p) dots3 = true
  · rw [if_neg (by rw [hc]; simp)]
    obtain ⟨e, hne⟩ := split_is (S p) hc
    rw [e, PySem.StrLaws.partsBetween_eq, key]
    have hs : ∃ w0 mids wl, splitL [] p = w0 :: (mids ++ [wl]) := by
      cases ho : Builtin.Str.occurrences (S p) dots3 0 (S p).length ((S p).length + 1) with
      | nil => exact absurd ho hne
      | cons c r =>
        rw [ho] at key
        obtain ⟨q, r', hq⟩ := PySem.StrLaws.partsFrom_ne (S p) 3 (c + 3) r
        have : PySem.StrLaws.partsFrom (S p) 3 0 (c :: r) = Builtin.Str.strSub (S p) 0 c :: q :: r' := by rw [← hq]; rfl
        rw [this] at key
        cases hl : splitL [] p with
        | nil => exact absurd hl (splitL_ne _ _)
        | cons w0 rest =>
          rw [hl] at key
          have hr : rest ≠ [] := by
            rintro rfl
            have := congrArg List.length key
            simp at this
          obtain ⟨mids, wl, hh⟩ := List.eq_nil_or_concat rest |>.resolve_left hr
          exact ⟨w0, mids, wl, by rw [hh, List.concat_eq_append]⟩
    obtain ⟨w0, mids, wl, hs⟩ := hs
    rw [hs, matL_ends]
    have e1 : ((w0 :: (mids ++ [wl])).map S).headD ⟨#[]⟩ = S w0 := rfl
    have e2 : ((w0 :: (mids ++ [wl])).map S).eraseIdx 0 = (mids ++ [wl]).map S := rfl
    simp only []
    rw [e1, e2, S_len]
    by_cases h : w0.length = 0
    · rw [if_neg (by simpa using h)]
      have : w0 = [] := List.length_eq_zero_iff.mp h
      subst this
      have := em2_spec t [] wl ([] :: mids) (List.nil_prefix)
      rw [List.cons_append] at this
      rw [show (0 : Int) = ((([] : L).length : Nat) : Int) from rfl, this]
      constructor
      · rintro ⟨m, g1, g2⟩; exact ⟨m, g1, Mid.nilHead.mp g2⟩
      · rintro ⟨m, g1, g2⟩; exact ⟨m, g1, Mid.nilHead.mpr g2⟩
    · rw [if_pos (by simpa using h)]
      by_cases he : Txt.startswith (S t) (S w0) = true
      · rw [if_pos he]
        exact em2_spec t w0 wl mids ((starts_spec t w0).mp he)
      · rw [if_neg he]
        constructor
        · intro h; cases h
        · rintro ⟨m, g1, g2⟩
          exact absurd ((starts_spec t w0).mpr ⟨m ++ wl, by rw [← List.append_assoc, g1]⟩) he
  · have hc' : Txt.contains (S p) dots3 = false := by simpa using hc
    rw [if_pos hc']
    have ho : Builtin.Str.occurrences (S p) dots3 0 (S p).length ((S p).length + 1) = [] := by
      cases ho : Builtin.Str.occurrences (S p) dots3 0 (S p).length ((S p).length + 1) with
      | nil => rfl
      | cons c r =>
        rw [ho] at hG
        have hA := hG.2.1
        exact absurd ((PySem.StrLaws.found_iff (S p) dots3).mpr ⟨c, hA.1, hA.2⟩) hc
    have hs : splitL [] p = [p] := by
      rw [ho] at hG
      have : f = 0 := hG
      subst this
      have := splitL_skip p p.length 0 [] (by omega) (fun k h1 _ hs => hn k h1 ((at3 p k).mpr hs))
      rw [List.drop_zero, Nat.zero_add, List.drop_length, List.take_length, splitL] at this
      simpa using this
    rw [hs, beq_iff_eq]
    constructor
    · intro h; exact (S_inj h).symm
    · intro h
      have h : t = p := h
      rw [h]
end Mine
end

section
open PySem PySem.W PyProof.Rows PySem.Calls
set_option linter.all false
set_option maxRecDepth 100000
namespace Mine

/-- rows, each behind its line end -/
def J (r0 : L) (xs : List (L × L)) : L := r0 ++ xs.flatMap fun x => x.1 ++ x.2
def IsEnd (e : L) : Prop := e = [10] ∨ e = [13] ∨ e = [13, 10]
structure Good (r : L) : Prop where
  ne : r ≠ []
  clean : ∀ c ∈ r, c ≠ 10 ∧ c ≠ 13
def stn (n : Nat) (r : L) : L := if r.head? = some 46 then List.replicate n 46 ++ r else r
theorem stn_zero (r : L) : stn 0 r = r := by unfold stn; split <;> simp
theorem stn_good {n : Nat} {r : L} (h : Good r) : Good (stn n r) := by
  unfold stn
  split
  · refine ⟨by simp [h.ne], fun c hc => ?_⟩
    rcases List.mem_append.mp hc with hc | hc
    · rw [(List.mem_replicate.mp hc).2]; decide
    · exact h.clean c hc
  · exact h
theorem stn_succ (n : Nat) (r : L) : stn 1 (stn n r) = stn (n + 1) r := by
  unfold stn
  by_cases h : r.head? = some 46
  · rw [if_pos h, if_pos h]
    have : (List.replicate n 46 ++ r).head? = some 46 := by
      cases n with
      | zero => simpa using h
      | succ n => rfl
    rw [if_pos this]; rfl
  · rw [if_neg h, if_neg h, if_neg h]
theorem J_cons (r0 e r : L) (xs : List (L × L)) : J r0 ((e, r) :: xs) = r0 ++ (e ++ J r xs) := by simp [J]
theorem J_snoc (r0 e r : L) (xs : List (L × L)) : J r0 (xs ++ [(e, r)]) = J r0 xs ++ e ++ r := by simp [J]

theorem crlf_J : ∀ (xs : List (L × L)) (r0 : L), (∀ c ∈ r0, c ≠ 10 ∧ c ≠ 13) → (∀ x ∈ xs, IsEnd x.1 ∧ Good x.2) → crlf false (J r0 xs) = J r0 (xs.map fun x => ([13, 10], x.2))
  | [], r0, h0, _ => by
    have := crlf_plain r0 [] false h0 fun _ => rfl
    rw [List.append_nil] at this
    simp [J, this, crlf]
  | (e, r) :: xs, r0, h0, h => by
    obtain ⟨he, hr⟩ := h (e, r) (.head _)
    have ih := crlf_J xs r hr.clean fun x hx => h x (.tail _ hx)
    have hh : (J r xs).head? ≠ some 10 := by
      unfold J
      cases r with
      | nil => exact absurd rfl hr.ne
      | cons c r => intro e; exact (hr.clean c (.head _)).1 (by simpa using e)
    rw [J_cons, crlf_plain r0 _ false h0 fun _ => rfl, List.map_cons, J_cons, ← ih]
    rcases he with rfl | rfl | rfl
    · rw [List.singleton_append, crlf_10]; rfl
    · rw [List.singleton_append, crlf_13 _ hh]; rfl
    · rw [List.cons_append, List.singleton_append, crlf_1310]; rfl
theorem stuff_flat : ∀ (r t : L), (∀ c ∈ r, c ≠ 10) → stuff false (r ++ t) = r ++ stuff false t
  | [], t, _ => rfl
  | c :: r, t, h => by
    have hc : (c == 10) = false := beq_eq_false_iff_ne.mpr (h c (.head _))
    rw [List.cons_append, stuff, if_neg (by simp), hc, stuff_flat r t fun d hd => h d (.tail _ hd)]; rfl
theorem stuff_row {r t : L} (h : Good r) : stuff true (r ++ t) = stn 1 r ++ stuff false t := by
  cases r with
  | nil => exact absurd rfl h.ne
  | cons c r =>
    have hr : ∀ d ∈ r, d ≠ 10 := fun d hd => (h.clean d (.tail _ hd)).1
    have hc : (c == 10) = false := beq_eq_false_iff_ne.mpr (h.clean c (.head _)).1
    rw [List.cons_append, stuff]
    unfold stn
    by_cases h46 : c = 46
    · subst h46
      rw [if_pos ⟨rfl, rfl⟩, stuff_flat r t hr, if_pos (show (46 :: r).head? = some 46 from rfl)]; rfl
    · rw [if_neg (fun e => h46 e.2), if_neg (fun e => h46 (by simpa using e)), hc, stuff_flat r t hr]; rfl
theorem stuff_J : ∀ (xs : List (L × L)) (r0 : L), Good r0 → (∀ x ∈ xs, Good x.2) → stuff true (J r0 (xs.map fun x => ([13, 10], x.2))) = J (stn 1 r0) (xs.map fun x => ([13, 10], stn 1 x.2))
  | [], r0, h0, _ => by
    have := @stuff_row r0 [] h0
    rw [List.append_nil] at this
    simp [J, this, stuff]
  | (e, r) :: xs, r0, h0, h => by
    have ih := stuff_J xs r (h (e, r) (.head _)) fun x hx => h x (.tail _ hx)
    rw [List.map_cons, J_cons, stuff_row h0, List.map_cons, J_cons, ← ih]
    simp [stuff]
theorem quoted_J {xs : List (L × L)} {r0 : L} (h0 : Good r0) (h : ∀ x ∈ xs, IsEnd x.1 ∧ Good x.2) : quoted (J r0 xs) = J (stn 1 r0) (xs.map fun x => ([13, 10], stn 1 x.2)) := by
  unfold quoted
  rw [crlf_J xs r0 h0.clean h, stuff_J xs r0 h0 fun x hx => (h x hx).2]
theorem qn_J {xs : List (L × L)} {r0 : L} (h0 : Good r0) (h : ∀ x ∈ xs, IsEnd x.1 ∧ Good x.2) : ∀ n, qn n (J r0 xs) = J (stn n r0) (xs.map fun x => (if n = 0 then x.1 else [13, 10], stn n x.2))
  | 0 => by simp [qn, stn_zero]
  | n + 1 => by
    rw [qn, qn_J h0 h n, quoted_J (stn_good h0) ?_, List.map_map, stn_succ]
    · congr 1
      refine List.map_congr_left fun x _ => ?_
      simp [stn_succ]
    · intro x hx
      obtain ⟨y, hy, rfl⟩ := List.mem_map.mp hx
      refine ⟨?_, stn_good (h y hy).2⟩
      show IsEnd (if n = 0 then y.1 else [13, 10])
      split
      · exact (h y hy).1
      · exact .inr (.inr rfl)

theorem prep_app (a b : L) : prep (a ++ b) = prep a ++ prep b := by simp [prep]
theorem prep_end {e : L} (h : IsEnd e) : prep e = e := by
  rcases h with rfl | rfl | rfl <;> decide
theorem prep_J : ∀ (xs : List (L × L)) (r0 : L), (∀ x ∈ xs, IsEnd x.1) → prep (J r0 xs) = J (prep r0) (xs.map fun x => (x.1, prep x.2))
  | [], r0, _ => by simp [J]
  | (e, r) :: xs, r0, h => by
    rw [J_cons, prep_app, prep_app, prep_end (h (e, r) (.head _)), prep_J xs r fun x hx => h x (.tail _ hx), List.map_cons, J_cons]

/-- what becomes of a row -/
def fin (a b : Nat) (r : L) : L := stn b (prep (stn a r))
theorem all_J {xs : List (L × L)} {r0 : L} (h0 : Good r0) (h : ∀ x ∈ xs, IsEnd x.1 ∧ Good x.2) {a b : Nat} (hab : 0 < a + b) (g0 : Good (prep (stn a r0))) (g : ∀ x ∈ xs, Good (prep (stn a x.2))) :
    qn b (prep (qn a (J r0 xs))) = J (fin a b r0) (xs.map fun x => ([13, 10], fin a b x.2)) := by
  have he : ∀ x ∈ xs, IsEnd (if a = 0 then x.1 else [13, 10]) := fun x hx => by
    split
    · exact (h x hx).1
    · exact .inr (.inr rfl)
  rw [qn_J h0 h, prep_J, List.map_map, qn_J g0, List.map_map]
  · unfold fin
    congr 1
    refine List.map_congr_left fun x _ => ?_
    simp only [Function.comp]
    congr 1
    split
    · rw [if_neg (by omega)]
    · rfl
  · intro x hx
    obtain ⟨y, hy, rfl⟩ := List.mem_map.mp hx
    exact ⟨he y hy, g y hy⟩
  · intro x hx
    obtain ⟨y, hy, rfl⟩ := List.mem_map.mp hx
    exact he y hy

-- the rows of mail and page
structure WordOk (ws : Nat → L) : Prop where
  pr : ∀ i, prep (ws i) = w3 i
  hd : ∀ i, (ws i).head? ≠ some 46
  cl : ∀ i, ∀ c ∈ ws i, c ≠ 10 ∧ c ≠ 13
  e0 : ws 0 = []
  ne : ∀ i, i ≠ 0 → ws i ≠ []
theorem wm_ok : WordOk wm := by
  refine ⟨fun i => ?_, fun i => ?_, fun i => ?_, rfl, fun i hi => ?_⟩
  · unfold wm w3 words3; (repeat' split) <;> decide
  · unfold wm words3; (repeat' split) <;> decide
  · unfold wm words3; (repeat' split) <;> decide
  · unfold wm words3; rw [if_neg hi]; split <;> decide
theorem wp_ok : WordOk wp := by
  refine ⟨fun i => ?_, fun i => ?_, fun i => ?_, rfl, fun i hi => ?_⟩
  · unfold wp w3 words3; (repeat' split) <;> decide
  · unfold wp words3; (repeat' split) <;> decide
  · unfold wp words3; (repeat' split) <;> decide
  · unfold wp words3; rw [if_neg hi]; split <;> decide
theorem w3_head (i : Nat) : (w3 i).head? ≠ some 46 := by unfold w3 words3; (repeat' split) <;> decide
theorem w3_clean (i : Nat) : ∀ c ∈ w3 i, c ≠ 10 ∧ c ≠ 13 := by unfold w3 words3; (repeat' split) <;> decide
theorem w3_ne {i : Nat} (h : i ≠ 0) : w3 i ≠ [] := by unfold w3 words3; rw [if_neg h]; split <;> decide
/-- a row with something in it -/
def Row.Full (r : Row) : Prop := r.d ≠ 0 ∨ r.w ≠ 0
theorem raw_good {ws : Nat → L} (W : WordOk ws) {r : Row} (h : r.Full) : Good (raw r ws) := by
  unfold raw
  refine ⟨fun e => ?_, fun c hc => ?_⟩
  · simp only [List.append_eq_nil_iff, List.replicate_eq_nil_iff] at e
    rcases h with h | h
    · exact h e.1.2
    · exact W.ne _ h e.2
  · simp only [List.mem_append, List.mem_replicate] at hc
    rcases hc with (hc | ⟨_, rfl⟩) | hc
    · split at hc
      · rw [List.mem_singleton.mp hc]; decide
      · cases hc
    · decide
    · exact W.cl _ c hc
theorem prep_dots (n : Nat) : prep (List.replicate n 46) = List.replicate n 46 := by
  induction n with
  | zero => rfl
  | succ n ih =>
    rw [List.replicate_succ, show (46 :: List.replicate n 46 : L) = [46] ++ List.replicate n 46 from rfl, prep_app, ih]
    rw [show prep [46] = [46] by decide]
theorem head_dots {n : Nat} {w : L} (hw : w.head? ≠ some 46) : (List.replicate n 46 ++ w).head? = some 46 ↔ n ≠ 0 := by
  cases n with
  | zero => simpa using hw
  | succ n => simp [List.replicate_succ]
theorem stn_dots {n m : Nat} {w : L} (hw : w.head? ≠ some 46) : stn m (List.replicate n 46 ++ w) = List.replicate (if n = 0 then 0 else n + m) 46 ++ w := by
  unfold stn
  by_cases h : n = 0
  · subst h; rw [if_neg (by simpa using hw), if_pos rfl]
  · rw [if_pos ((head_dots hw).mpr h), if_neg h, ← List.append_assoc, List.replicate_append_replicate, Nat.add_comm m]
theorem prep_raw {ws : Nat → L} (W : WordOk ws) (r : Row) (a : Nat) : prep (stn a (raw r ws)) = List.replicate (dotsOf r a 0) 46 ++ w3 r.w := by
  unfold raw dotsOf
  cases hh : r.h with
  | true =>
    rw [if_pos rfl]
    have : stn a ([8203] ++ List.replicate r.d 46 ++ ws r.w) = [8203] ++ List.replicate r.d 46 ++ ws r.w := by unfold stn; rw [if_neg (by simp)]
    rw [this, prep_app, prep_app, prep_dots, W.pr, show prep [8203] = [] by decide, List.nil_append]
    split
    · rename_i h; rw [h]
    · simp
  | false =>
    rw [if_neg (by simp), List.nil_append, stn_dots (W.hd _), prep_app, prep_dots, W.pr]
    split <;> simp
theorem dots_good {n w : Nat} (h : n ≠ 0 ∨ w ≠ 0) : Good (List.replicate n 46 ++ w3 w) := by
  refine ⟨fun e => ?_, fun c hc => ?_⟩
  · simp only [List.append_eq_nil_iff, List.replicate_eq_nil_iff] at e
    rcases h with h | h
    · exact h e.1
    · exact w3_ne h e.2
  · simp only [List.mem_append, List.mem_replicate] at hc
    rcases hc with ⟨_, rfl⟩ | hc
    · decide
    · exact w3_clean _ c hc
theorem dots_zero {r : Row} {a b : Nat} (h : r.d ≠ 0) : dotsOf r a b ≠ 0 := by unfold dotsOf; rw [if_neg h]; omega
theorem prep_good {ws : Nat → L} (W : WordOk ws) {r : Row} (h : r.Full) (a : Nat) : Good (prep (stn a (raw r ws))) := by
  rw [prep_raw W]
  exact dots_good (h.imp dots_zero id)
theorem fin_raw {ws : Nat → L} (W : WordOk ws) (r : Row) (a b : Nat) : fin a b (raw r ws) = List.replicate (dotsOf r a b) 46 ++ w3 r.w := by
  unfold fin
  rw [prep_raw W, stn_dots (w3_head _)]
  congr 2
  unfold dotsOf
  (repeat' split) <;> omega
end Mine
end

section
open PySem PySem.W PyProof.Rows PySem.Calls
set_option linter.all false
set_option maxRecDepth 100000
namespace Mine

def Jn : List L → L
  | [] => []
  | [x] => x
  | x :: y :: r => x ++ 13 :: 10 :: Jn (y :: r)
theorem Jn_cons (x : L) {r : List L} (h : r ≠ []) : Jn (x :: r) = x ++ 13 :: 10 :: Jn r := by
  cases r with
  | nil => exact absurd rfl h
  | cons y r => rfl
theorem J_Jn : ∀ (rs : List L) (r0 : L), J r0 (rs.map fun r => ([13, 10], r)) = Jn (r0 :: rs)
  | [], r0 => by simp [J, Jn]
  | r :: rs, r0 => by rw [List.map_cons, J_cons, J_Jn rs r, Jn_cons r0 (List.cons_ne_nil r rs)]; simp
def Rows (X : List L) : Prop := ∀ r ∈ X, ∀ c ∈ r, c ≠ 10 ∧ c ≠ 13

theorem Jn_split : ∀ (X : List L), Rows X → ∀ P Q : L, Jn X = P ++ 13 :: 10 :: Q → ∃ k, k + 1 < X.length ∧ P = Jn (X.take (k + 1)) ∧ Q = Jn (X.drop (k + 1))
  | [], _, P, Q, h => by
    have := congrArg List.length h
    simp [Jn] at this
  | [x], hX, P, Q, h => by
    have h : x = P ++ 13 :: 10 :: Q := h
    exact absurd rfl (hX x (.head _) 13 (by rw [h]; simp)).2
  | x :: y :: r, hX, P, Q, h => by
    rw [Jn_cons _ (by simp)] at h
    rcases List.append_eq_append_iff.mp h with ⟨as, h1, h2⟩ | ⟨bs, h1, h2⟩
    · match as, h2 with
      | [], h2 =>
        simp only [List.nil_append, List.cons.injEq, true_and] at h2
        exact ⟨0, by simp, by simp [h1, Jn], by simp [h2]⟩
      | [a], h2 => simp at h2
      | a :: b :: as, h2 =>
        simp only [List.cons_append, List.cons.injEq] at h2
        obtain ⟨rfl, rfl, h2⟩ := h2
        obtain ⟨k, g1, g2, g3⟩ := Jn_split (y :: r) (fun z hz => hX z (.tail _ hz)) as Q h2
        refine ⟨k + 1, by simpa using g1, ?_, by simpa using g3⟩
        rw [List.take_succ_cons, Jn_cons _ (by simp), ← g2, h1]
    · match bs, h2 with
      | [], h2 =>
        simp only [List.nil_append, List.cons.injEq, true_and] at h2
        exact ⟨0, by simp, by simp [h1, Jn], by simp [h2]⟩
      | b :: bs, h2 =>
        simp only [List.cons_append, List.cons.injEq] at h2
        exact absurd h2.1.symm (hX x (.head _) b (by rw [h1]; simp)).2
theorem Jn_at : ∀ (X : List L) (k : Nat), k + 1 < X.length → Jn X = Jn (X.take (k + 1)) ++ 13 :: 10 :: Jn (X.drop (k + 1))
  | [], k, h => by simp at h
  | [x], k, h => by simp at h
  | x :: y :: r, 0, _ => by simp [Jn]
  | x :: y :: r, k + 1, h => by
    have ih := Jn_at (y :: r) k (by simpa using h)
    have e : (x :: y :: r).take (k + 1 + 1) = x :: (y :: r).take (k + 1) := rfl
    rw [Jn_cons x (List.cons_ne_nil y r), ih, e, Jn_cons x (r := (y :: r).take (k + 1)) (by simp), List.append_assoc]; rfl
theorem suffix_feed {F M N : L} (hF : ∀ c ∈ F, c ≠ 10) : F <:+ M ++ 10 :: N ↔ F <:+ N := by
  have hN : (10 :: N) <:+ M ++ 10 :: N := List.suffix_append ..
  constructor
  · intro h
    by_cases hl : F.length ≤ N.length
    · exact List.suffix_of_suffix_length_le h ((List.suffix_cons 10 N).trans hN) hl
    · have := List.suffix_of_suffix_length_le hN h (by simp only [List.length_cons]; omega)
      exact absurd rfl (hF 10 (this.subset (.head _)))
  · intro h; exact h.trans ((List.suffix_cons 10 N).trans hN)
theorem Jn_suffix {F : L} (hF : ∀ c ∈ F, c ≠ 10) : ∀ (X : List L), F <:+ Jn X ↔ F <:+ X.getLastD []
  | [] => Iff.rfl
  | [x] => Iff.rfl
  | x :: y :: r => by
    have ih := Jn_suffix hF (y :: r)
    rw [Jn_cons _ (by simp), show x ++ 13 :: 10 :: Jn (y :: r) = (x ++ [13]) ++ 10 :: Jn (y :: r) by simp, suffix_feed hF, ih]
    rfl
theorem last_take {X : List L} {k : Nat} (h : k < X.length) : (X.take (k + 1)).getLastD [] = X.getD k [] := by
  rw [List.getLastD_eq_getLast?, List.getLast?_eq_getElem?, List.length_take, Nat.min_eq_left (by omega), List.getElem?_take_of_lt (by omega), List.getD_eq_getElem?_getD]; rfl
theorem last_drop {X : List L} {k : Nat} (h : k < X.length) : (X.drop k).getLastD [] = X.getLastD [] := by
  rw [List.getLastD_eq_getLast?, List.getLastD_eq_getLast?, List.getLast?_drop, if_neg (by omega)]

-- dots in a pattern
theorem suffix_dots3 {p : L} (hp : p.head? ≠ some 46) {n : Nat} (h : n < 3) : ¬ starts3 (List.replicate n 46 ++ p) := by
  rintro ⟨r, e⟩
  have : n = 0 ∨ n = 1 ∨ n = 2 := by omega
  rcases this with rfl | rfl | rfl
  · rw [List.replicate_zero, List.nil_append] at e; rw [e] at hp; exact hp rfl
  · simp only [List.replicate, List.cons_append, List.nil_append, List.cons.injEq, true_and] at e; rw [e] at hp; exact hp rfl
  · simp only [List.replicate, List.cons_append, List.nil_append, List.cons.injEq, true_and] at e; rw [e] at hp; exact hp rfl
theorem G_few {p t : L} (hp : p.head? ≠ some 46) : ∀ (n : Nat), n < 3 → ∀ t, (G (List.replicate n 46 ++ p) t ↔ ∃ t', t = List.replicate n 46 ++ t' ∧ G p t')
  | 0, _, t => by simp
  | n + 1, h, t => by
    have hs := suffix_dots3 hp h
    rw [List.replicate_succ, List.cons_append] at hs ⊢
    rw [G_lit hs]
    constructor
    · rintro ⟨t1, rfl, g⟩
      obtain ⟨t', rfl, g'⟩ := (G_few (t := t) hp n (by omega) t1).mp g
      exact ⟨t', by simp, g'⟩
    · rintro ⟨t', rfl, g⟩
      exact ⟨_, by simp, (G_few (t := t) hp n (by omega) _).mpr ⟨t', rfl, g⟩⟩
theorem G_many {p : L} (hp : p.head? ≠ some 46) : ∀ (m n : Nat), n < 3 → ∀ t, (G (List.replicate (3 * (m + 1) + n) 46 ++ p) t ↔ ∃ u t', u <:+ t ∧ u = List.replicate n 46 ++ t' ∧ G p t')
  | 0, n, h, t => by
    have e : List.replicate (3 * (0 + 1) + n) 46 ++ p = 46 :: 46 :: 46 :: (List.replicate n 46 ++ p) := by
      rw [show 3 * (0 + 1) + n = n + 1 + 1 + 1 by omega]; rfl
    rw [e, G_gap]
    constructor
    · rintro ⟨u, h1, g⟩
      obtain ⟨t', e, g'⟩ := (G_few (t := t) hp n h u).mp g
      exact ⟨u, t', h1, e, g'⟩
    · rintro ⟨u, t', h1, e, g⟩
      exact ⟨u, h1, (G_few (t := t) hp n h u).mpr ⟨t', e, g⟩⟩
  | m + 1, n, h, t => by
    have e : List.replicate (3 * (m + 1 + 1) + n) 46 ++ p = 46 :: 46 :: 46 :: (List.replicate (3 * (m + 1) + n) 46 ++ p) := by
      rw [show 3 * (m + 1 + 1) + n = (3 * (m + 1) + n) + 1 + 1 + 1 by omega]; rfl
    rw [e, G_gap]
    constructor
    · rintro ⟨u, h1, g⟩
      obtain ⟨u', t', h2, e, g'⟩ := (G_many hp m n h u).mp g
      exact ⟨u', t', h2.trans h1, e, g'⟩
    · rintro ⟨u, t', h1, e, g⟩
      exact ⟨u, h1, (G_many hp m n h u).mpr ⟨u, t', List.suffix_refl _, e, g⟩⟩
theorem G_dots {p : L} (hp : p.head? ≠ some 46) (n : Nat) (t : L) : G (List.replicate n 46 ++ p) t ↔ ∃ u t', (u = t ∨ (3 ≤ n ∧ u <:+ t)) ∧ u = List.replicate (n % 3) 46 ++ t' ∧ G p t' := by
  by_cases h : n < 3
  · rw [G_few (t := t) hp n h, Nat.mod_eq_of_lt h]
    constructor
    · rintro ⟨t', e, g⟩; exact ⟨t, t', .inl rfl, e, g⟩
    · rintro ⟨u, t', h1, e, g⟩
      have : u = t := h1.elim id fun q => absurd q.1 (by omega)
      exact ⟨t', this ▸ e, g⟩
  · have e : n = 3 * (n / 3 - 1 + 1) + n % 3 := by omega
    have := G_many hp (n / 3 - 1) (n % 3) (by omega) t
    rw [← e] at this
    rw [this]
    constructor
    · rintro ⟨u, t', h1, e, g⟩; exact ⟨u, t', .inr ⟨by omega, h1⟩, e, g⟩
    · rintro ⟨u, t', h1, e, g⟩
      exact ⟨u, t', h1.elim (fun q => q ▸ List.suffix_refl _) (·.2), e, g⟩
theorem G_one {c : Nat} (hc : c ≠ 46) {p t : L} : G (c :: p) t ↔ ∃ t', t = c :: t' ∧ G p t' := G_lit (by rintro ⟨r, e⟩; exact hc (by simpa using congrArg List.head? e))
theorem G_end {p t : L} : G (13 :: 10 :: p) t ↔ ∃ t', t = 13 :: 10 :: t' ∧ G p t' := by
  rw [G_one (by decide)]
  constructor
  · rintro ⟨t1, rfl, g⟩
    obtain ⟨t', rfl, g'⟩ := (G_one (by decide)).mp g
    exact ⟨t', rfl, g'⟩
  · rintro ⟨t', rfl, g⟩; exact ⟨_, rfl, (G_one (by decide)).mpr ⟨t', rfl, g⟩⟩
theorem G_word (i : Nat) {p t : L} : G (w3 i ++ 13 :: 10 :: p) t ↔ ∃ t', t = w3 i ++ 13 :: 10 :: t' ∧ G p t' := by
  unfold w3 words3
  split
  · rw [List.nil_append, G_end]; rfl
  · split
    · rw [List.singleton_append, G_one (by decide)]
      constructor
      · rintro ⟨t1, rfl, g⟩
        obtain ⟨t', rfl, g'⟩ := G_end.mp g
        exact ⟨t', rfl, g'⟩
      · rintro ⟨t', rfl, g⟩; exact ⟨_, rfl, G_end.mpr ⟨t', rfl, g⟩⟩
    · show G (99 :: 111 :: 46 :: 13 :: 10 :: p) t ↔ ∃ t', t = 99 :: 111 :: 46 :: 13 :: 10 :: t' ∧ G p t'
      have h46 : ¬ starts3 (46 :: 13 :: 10 :: p) := by rintro ⟨r, e⟩; simp at e
      rw [G_one (by decide)]
      constructor
      · rintro ⟨t1, rfl, g⟩
        obtain ⟨t2, rfl, g2⟩ := (G_one (by decide)).mp g
        obtain ⟨t3, rfl, g3⟩ := (G_lit h46).mp g2
        obtain ⟨t', rfl, g4⟩ := G_end.mp g3
        exact ⟨t', rfl, g4⟩
      · rintro ⟨t', rfl, g⟩
        exact ⟨_, rfl, (G_one (by decide)).mpr ⟨_, rfl, (G_lit h46).mpr ⟨_, rfl, G_end.mpr ⟨t', rfl, g⟩⟩⟩⟩
end Mine
end

section
open PySem PySem.W PyProof.Rows PySem.Calls
set_option linter.all false
set_option maxRecDepth 100000
namespace Mine

theorem Jn_one : ∀ {Z : List L}, (∀ c ∈ Jn Z, c ≠ 13) → Z.length ≤ 1
  | [], _ => by simp
  | [x], _ => by simp
  | x :: y :: r, h => absurd rfl (h 13 (by rw [Jn_cons x (List.cons_ne_nil y r)]; simp))
theorem drop_getD (X : List L) (k j : Nat) : (X.drop k).getD j [] = X.getD (k + j) [] := by
  rw [List.getD_eq_getElem?_getD, List.getD_eq_getElem?_getD, List.getElem?_drop]
theorem take_one {Y : List L} (h : 0 < Y.length) : Jn (Y.take 1) = Y.getD 0 [] := by
  cases Y with
  | nil => simp at h
  | cons y r => rfl
theorem w3_13 (w : Nat) (p : L) : (w3 w ++ 13 :: 10 :: p).head? ≠ some 46 := by
  unfold w3 words3
  (repeat' split) <;> simp
theorem dots_clean (n : Nat) : ∀ c ∈ (List.replicate n 46 : L), c ≠ 10 := fun c hc => by rw [(List.mem_replicate.mp hc).2]; decide
theorem word_clean (n w : Nat) : ∀ c ∈ (List.replicate n 46 ++ w3 w : L), c ≠ 10 ∧ c ≠ 13 := fun c hc => by
  rcases List.mem_append.mp hc with hc | hc
  · rw [(List.mem_replicate.mp hc).2]; decide
  · exact w3_clean _ c hc
theorem Rows.drop {X : List L} (h : Rows X) (k : Nat) : Rows (X.drop k) := fun r hr => h r (List.mem_of_mem_drop hr)

theorem match_iff {X : List L} (hX : Rows X) {n0 n1 n2 w : Nat} (h0 : 3 ≤ n0) (h2 : 3 ≤ n2) :
    G (List.replicate n0 46 ++ 13 :: 10 :: (List.replicate n1 46 ++ (w3 w ++ 13 :: 10 :: (List.replicate n2 46 ++ [])))) (Jn X) ↔
      List.replicate (n2 % 3) 46 <:+ X.getLastD [] ∧ ∃ k, k + 2 < X.length ∧ List.replicate (n0 % 3) 46 <:+ X.getD k [] ∧
        ((n1 < 3 ∧ X.getD (k + 1) [] = List.replicate n1 46 ++ w3 w) ∨ (3 ≤ n1 ∧ ∃ j, k + 1 ≤ j ∧ j + 1 < X.length ∧ List.replicate (n1 % 3) 46 ++ w3 w <:+ X.getD j [])) := by
  rw [G_dots (p := 13 :: 10 :: _) (by simp)]
  constructor
  · rintro ⟨u, t', hu, rfl, g⟩
    obtain ⟨t0, rfl, ga⟩ := G_end.mp g
    have hu : (List.replicate (n0 % 3) 46 ++ 13 :: 10 :: t0) <:+ Jn X := hu.elim (fun q => q ▸ List.suffix_refl _) (·.2)
    obtain ⟨A, hA⟩ := hu
    rw [← List.append_assoc] at hA
    obtain ⟨k, k1, k2, k3⟩ := Jn_split X hX _ _ hA.symm
    have f1 : List.replicate (n0 % 3) 46 <:+ X.getD k [] := by
      rw [← last_take (by omega), ← Jn_suffix (dots_clean _)]
      exact ⟨A, k2⟩
    obtain ⟨u1, t1, hu1, rfl, gb⟩ := (G_dots (w3_13 _ _) _ _).mp ga
    obtain ⟨t2, rfl, gc⟩ := (G_word _).mp gb
    obtain ⟨u2, t3, hu2, rfl, gd⟩ := (G_dots (p := []) (by simp) _ _).mp gc
    have ht3 := G_nil.mp gd
    subst ht3
    rw [List.append_nil] at hu2
    have f2 : List.replicate (n2 % 3) 46 <:+ t2 := hu2.elim (fun q => q ▸ List.suffix_refl _) (·.2)
    have hs : (List.replicate (n1 % 3) 46 ++ (w3 w ++ 13 :: 10 :: t2)) <:+ t0 := hu1.elim (fun q => q ▸ List.suffix_refl _) (·.2)
    obtain ⟨B, hB⟩ := hs
    have hB' : Jn (X.drop (k + 1)) = (B ++ (List.replicate (n1 % 3) 46 ++ w3 w)) ++ 13 :: 10 :: t2 := by
      rw [← k3, ← hB]; simp
    obtain ⟨j, j1, j2, j3⟩ := Jn_split _ (hX.drop _) _ _ hB'
    rw [List.length_drop] at j1
    have f3 : List.replicate (n2 % 3) 46 <:+ X.getLastD [] := by
      rw [← last_drop (k := k + 1) (by omega), ← last_drop (X := X.drop (k + 1)) (k := j + 1) (by rw [List.length_drop]; omega), ← Jn_suffix (dots_clean _), ← j3]
      exact f2
    refine ⟨f3, k, by omega, f1, ?_⟩
    by_cases hn : n1 < 3
    · left
      refine ⟨hn, ?_⟩
      have e : List.replicate (n1 % 3) 46 ++ (w3 w ++ 13 :: 10 :: t2) = t0 := hu1.elim id fun q => absurd q.1 (by omega)
      have hb : B = [] := by
        have := congrArg List.length hB
        rw [← e] at this
        rw [List.length_append] at this
        exact List.length_eq_zero_iff.mp (by omega)
      rw [hb, List.nil_append] at j2
      have hz := @Jn_one ((X.drop (k + 1)).take (j + 1)) (by rw [← j2]; exact fun c hc => (word_clean _ _ c hc).2)
      rw [List.length_take, List.length_drop] at hz
      have : j = 0 := by omega
      subst this
      rw [take_one (by rw [List.length_drop]; omega), drop_getD, Nat.mod_eq_of_lt hn] at j2
      exact j2.symm
    · right
      refine ⟨by omega, k + 1 + j, by omega, by omega, ?_⟩
      rw [← drop_getD, ← last_take (by rw [List.length_drop]; omega), ← Jn_suffix fun c hc => (word_clean _ _ c hc).1]
      exact ⟨B, j2⟩
  · rintro ⟨f3, k, k1, f1, hk⟩
    rw [← last_take (by omega), ← Jn_suffix (dots_clean _)] at f1
    obtain ⟨A, hA⟩ := f1
    have hJ := Jn_at X k (by omega)
    refine ⟨List.replicate (n0 % 3) 46 ++ 13 :: 10 :: Jn (X.drop (k + 1)), _, .inr ⟨h0, A, by rw [← List.append_assoc, hA, ← hJ]⟩, rfl, G_end.mpr ⟨_, rfl, ?_⟩⟩
    have hi : ∃ i B, i + 1 < (X.drop (k + 1)).length ∧ B ++ (List.replicate (n1 % 3) 46 ++ w3 w) = Jn ((X.drop (k + 1)).take (i + 1)) ∧ (B = [] ∨ 3 ≤ n1) := by
      rcases hk with ⟨hn, e⟩ | ⟨hn, j, j1, j2, hs⟩
      · refine ⟨0, [], by rw [List.length_drop]; omega, ?_, .inl rfl⟩
        rw [take_one (by rw [List.length_drop]; omega), drop_getD, Nat.mod_eq_of_lt hn]
        exact e.symm
      · have ej : j = k + 1 + (j - (k + 1)) := by omega
        rw [ej, ← drop_getD, ← last_take (by rw [List.length_drop]; omega), ← Jn_suffix fun c hc => (word_clean _ _ c hc).1] at hs
        obtain ⟨B, hB⟩ := hs
        exact ⟨j - (k + 1), B, by rw [List.length_drop]; omega, hB, .inr hn⟩
    obtain ⟨i, B, i1, hB, hc⟩ := hi
    have hJ2 := Jn_at (X.drop (k + 1)) i i1
    have i1' := i1
    rw [List.length_drop] at i1'
    rw [← last_drop (k := k + 1) (by omega), ← last_drop (X := X.drop (k + 1)) (k := i + 1) (by omega), ← Jn_suffix (dots_clean _)] at f3
    have hu : B ++ (List.replicate (n1 % 3) 46 ++ (w3 w ++ 13 :: 10 :: Jn ((X.drop (k + 1)).drop (i + 1)))) = Jn (X.drop (k + 1)) := by
      rw [hJ2, ← hB]; simp
    refine (G_dots (w3_13 _ _) _ _).mpr ⟨List.replicate (n1 % 3) 46 ++ (w3 w ++ 13 :: 10 :: Jn ((X.drop (k + 1)).drop (i + 1))), _, ?_, rfl, (G_word _).mpr ⟨_, rfl, (G_dots (p := []) (by simp) _ _).mpr ⟨_, [], .inr ⟨h2, f3⟩, by simp, .nil⟩⟩⟩
    rcases hc with rfl | hn
    · exact .inl (by rw [← hu]; rfl)
    · exact .inr ⟨hn, B, hu⟩

theorem mem_cut {X : List L} {k : Nat} {x : L} (hk : k + 2 < X.length) : x ∈ cut X (some ((k : Int) + 1)) (some (-1)) ↔ ∃ j, k + 1 ≤ j ∧ j + 1 < X.length ∧ X.getD j [] = x := by
  have e1 : (some ((k : Int) + 1)).elim 0 (clipAt X.length) = k + 1 := by
    show clipAt X.length ((k : Int) + 1) = k + 1
    unfold clipAt; (repeat' split) <;> omega
  have e2 : (some (-1 : Int)).elim X.length (clipAt X.length) = X.length - 1 := by
    show clipAt X.length (-1) = X.length - 1
    unfold clipAt; (repeat' split) <;> omega
  unfold cut
  rw [e1, e2]
  constructor
  · intro h
    obtain ⟨i, hi, e⟩ := List.getElem_of_mem h
    rw [List.length_take, List.length_drop] at hi
    rw [List.getElem_take, List.getElem_drop] at e
    refine ⟨k + 1 + i, by omega, by omega, ?_⟩
    rw [List.getD_eq_getElem?_getD, List.getElem?_eq_getElem (by omega)]
    exact e
  · rintro ⟨j, j1, j2, rfl⟩
    refine List.mem_of_getElem? (i := j - (k + 1)) ?_
    rw [List.getElem?_take_of_lt (by omega), List.getElem?_drop, show k + 1 + (j - (k + 1)) = j by omega, List.getD_eq_getElem?_getD, List.getElem?_eq_getElem (by omega)]; rfl
theorem ends_iff {x y : L} : ends x y = true ↔ y <:+ x := ends_spec x y
theorem found_iff {rows : List Row} {a0 a1 a2 : Row} {a b : Nat} : found rows a0 a1 a2 a b = true ↔
    List.replicate (dotsOf a2 a b % 3) 46 <:+ (sentL rows a b).getLastD [] ∧ ∃ k, k + 2 < (sentL rows a b).length ∧ List.replicate (dotsOf a0 a b % 3) 46 <:+ (sentL rows a b).getD k [] ∧
        ((dotsOf a1 a b < 3 ∧ (sentL rows a b).getD (k + 1) [] = List.replicate (dotsOf a1 a b) 46 ++ w3 a1.w) ∨ (3 ≤ dotsOf a1 a b ∧ ∃ j, k + 1 ≤ j ∧ j + 1 < (sentL rows a b).length ∧ List.replicate (dotsOf a1 a b % 3) 46 ++ w3 a1.w <:+ (sentL rows a b).getD j [])) := by
  unfold found
  generalize sentL rows a b = X
  generalize dotsOf a0 a b = n0
  generalize dotsOf a1 a b = n1
  generalize dotsOf a2 a b = n2
  simp only []
  rw [← ends_iff]
  cases he : ends (X.getLastD []) (List.replicate (n2 % 3) 46) with
  | false => simp
  | true =>
    rw [if_neg (by simp), List.any_eq_true]
    simp only [true_and]
    refine exists_congr fun k => ?_
    rw [List.mem_range]
    refine and_congr_right_iff.mpr (fun hk => ?_) |>.trans (and_congr (by omega) Iff.rfl)
    unfold hit
    rw [Bool.and_eq_true, Bool.or_eq_true, Bool.and_eq_true, Bool.and_eq_true, decide_eq_true_eq, decide_eq_true_eq, beq_iff_eq, ends_iff]
    refine and_congr Iff.rfl (or_congr Iff.rfl (and_congr Iff.rfl ?_))
    rw [Bool.not_eq_true', List.isEmpty_eq_false_iff_exists_mem]
    constructor
    · rintro ⟨x, hx⟩
      obtain ⟨g1, g2⟩ := List.mem_filter.mp hx
      obtain ⟨j, j1, j2, rfl⟩ := (mem_cut (by omega)).mp g1
      exact ⟨j, j1, j2, ends_iff.mp g2⟩
    · rintro ⟨j, j1, j2, h⟩
      exact ⟨X.getD j [], List.mem_filter.mpr ⟨(mem_cut (by omega)).mpr ⟨j, j1, j2, rfl⟩, ends_iff.mpr h⟩⟩
end Mine
end

section
open PySem PySem.W PyProof.Rows PySem.Calls
set_option linter.all false
set_option maxRecDepth 100000
namespace Mine

theorem rowOf_full (n : Int) : (rowOf n).Full := by
  unfold Row.Full rowOf
  simp only
  split
  · right; decide
  · rename_i h
    by_cases h4 : n % 4 = 0
    · right; omega
    · left; omega
theorem outer_full (i : Nat) : (outerRow i).Full := by
  unfold outerRow
  (repeat' split)
  · left; decide
  · right; decide
  · right; decide
theorem rows_full (ns : List Int) : ∀ r ∈ rowsOf ns, r.Full := by
  intro r hr
  unfold rowsOf at hr
  simp only [List.mem_append, List.mem_singleton, List.mem_map] at hr
  rcases hr with (rfl | ⟨n, _, rfl⟩) | rfl
  · exact outer_full _
  · exact rowOf_full n
  · exact outer_full _
theorem getD_full {ns : List Int} {i : Nat} (h : i < (rowsOf ns).length) : ((rowsOf ns).getD i ⟨0, false, 0⟩).Full := by
  rw [List.getD_eq_getElem?_getD, List.getElem?_eq_getElem h]
  exact rows_full ns _ (List.getElem_mem h)
theorem isEnd_at (ns : List Int) (k : Nat) : IsEnd (endAt ns k) := by
  unfold endAt endOf3
  (repeat' split)
  · exact .inl rfl
  · exact .inr (.inl rfl)
  · exact .inr (.inr rfl)
  · exact .inl rfl
theorem mailTo_J (ns : List Int) : ∀ i, mailTo ns i = J (raw ((rowsOf ns).getD 0 ⟨0, false, 0⟩) wm) ((List.range i).map fun j => (endAt ns (j + 1), raw ((rowsOf ns).getD (j + 1) ⟨0, false, 0⟩) wm))
  | 0 => by simp [mailTo, J]
  | i + 1 => by rw [mailTo, mailTo_J ns i, List.range_succ, List.map_append, List.map_singleton, J_snoc]
theorem range_getD {α β : Type} (g : α → β) (d : α) (l : List α) : (List.range l.length).map (fun j => g (l.getD j d)) = l.map g := by
  refine List.ext_getElem (by simp) fun i h1 h2 => ?_
  rw [List.getElem_map, List.getElem_map, List.getElem_range]
  rw [List.length_map] at h2
  rw [List.getD_eq_getElem?_getD, List.getElem?_eq_getElem h2]; rfl
theorem txt_eq (ns : List Int) {a b : Nat} (hab : 0 < a + b) : txt ns a b = Jn (sentL (rowsOf ns) a b) := by
  unfold txt mail
  have hl := rows_len ns
  rw [mailTo_J, all_J (raw_good wm_ok (getD_full (by omega))) ?_ hab (prep_good wm_ok (getD_full (by omega)) a) ?_, List.map_map]
  · have e : ((fun x : L × L => (([13, 10] : L), fin a b x.2)) ∘ fun j => (endAt ns (j + 1), raw ((rowsOf ns).getD (j + 1) ⟨0, false, 0⟩) wm)) = (fun r : L => (([13, 10] : L), r)) ∘ fun j => List.replicate (dotsOf ((rowsOf ns).getD (j + 1) ⟨0, false, 0⟩) a b) 46 ++ w3 ((rowsOf ns).getD (j + 1) ⟨0, false, 0⟩).w := by
      funext j
      simp only [Function.comp]
      rw [fin_raw wm_ok]
    rw [e, ← List.map_map, J_Jn, fin_raw wm_ok]
    congr 1
    unfold sentL
    cases hr : rowsOf ns with
    | nil => rw [hr] at hl; simp at hl
    | cons r rs =>
      rw [List.map_cons]
      congr 1
      exact range_getD (fun r : Row => List.replicate (dotsOf r a b) 46 ++ w3 r.w) ⟨0, false, 0⟩ rs
  · intro x hx
    obtain ⟨j, hj, rfl⟩ := List.mem_map.mp hx
    have hj := List.mem_range.mp hj
    exact ⟨isEnd_at ns _, raw_good wm_ok (getD_full (by omega))⟩
  · intro x hx
    obtain ⟨j, hj, rfl⟩ := List.mem_map.mp hx
    have hj := List.mem_range.mp hj
    exact prep_good wm_ok (getD_full (by omega)) a
theorem q0_full (ns : List Int) : (q0 ns).Full := .inl (by show (3 : Nat) ≠ 0; decide)
theorem q2_full (ns : List Int) : (q2 ns).Full := .inl (by show (3 : Nat) ≠ 0; decide)
theorem pat_eq (ns : List Int) {a b : Nat} (hab : 0 < a + b) : pat ns a b = List.replicate (dotsOf (q0 ns) a b) 46 ++ 13 :: 10 :: (List.replicate (dotsOf (q1 ns) a b) 46 ++ (w3 (q1 ns).w ++ 13 :: 10 :: (List.replicate (dotsOf (q2 ns) a b) 46 ++ []))) := by
  have hp : page ns = J (raw (q0 ns) wp) [([13], raw (q1 ns) wp), ([13], raw (q2 ns) wp)] := by simp [page, J]
  unfold pat
  rw [hp, all_J (raw_good wp_ok (q0_full ns)) ?_ hab (prep_good wp_ok (q0_full ns) a) ?_]
  · simp only [List.map_cons, List.map_nil]
    rw [fin_raw wp_ok, fin_raw wp_ok, fin_raw wp_ok]
    have e0 : w3 (q0 ns).w = [] := rfl
    have e2 : w3 (q2 ns).w = [] := rfl
    rw [e0, e2]
    simp [J]
  · intro x hx
    simp only [List.mem_cons, List.not_mem_nil, or_false] at hx
    rcases hx with rfl | rfl
    · exact ⟨.inr (.inl rfl), raw_good wp_ok (rowOf_full _)⟩
    · exact ⟨.inr (.inl rfl), raw_good wp_ok (q2_full ns)⟩
  · intro x hx
    simp only [List.mem_cons, List.not_mem_nil, or_false] at hx
    rcases hx with rfl | rfl
    · exact prep_good wp_ok (rowOf_full _) a
    · exact prep_good wp_ok (q2_full ns) a
theorem three_le (r : Row) (h : r.d = 3) (a b : Nat) : 3 ≤ dotsOf r a b := by
  unfold dotsOf
  rw [if_neg (by omega)]; omega
theorem law01 : Law01 := by
  intro ns a b ha hb hab
  rw [Bool.eq_iff_iff, em_spec, pat_eq ns hab, txt_eq ns hab, match_iff ?_ (three_le _ rfl a b) (three_le _ rfl a b), found_iff]
  intro r hr c hc
  obtain ⟨x, _, rfl⟩ := List.mem_map.mp hr
  exact word_clean _ _ c hc
end Mine
end

open PySem PySem.W PyProof.Rows
set_option maxRecDepth 100000 in
set_option maxHeartbeats 8000000 in
theorem PySem.Challenge.cw_re0123_01_holds : PySem.Challenge.rw_re0123_01.Holds := by
  refine holds_law (by decide +kernel) fun said => ?_
  refine Mine.law_row (P := Mine.Behind) (by assumption) ?_ ⟨rfl, rfl, rfl, rfl, rfl, by decide +kernel⟩ (by decide +kernel) rfl rfl rfl Mine.behind01 (Mine.goes01 Mine.law01)
  w_witness2
