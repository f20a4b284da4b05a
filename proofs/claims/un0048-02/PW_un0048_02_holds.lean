import PyProof.Rows.All
import Wide.All
import OpenK.AllK
import Wide.FinOn
import Lean
import PySem.Challenge.RW_un0048_02
section
open PySem PySem.W PyProof.Rows PySem.Calls
set_option Elab.async false
set_option maxRecDepth 100000
namespace Mine
-- the row's own looks, piece by piece (the kernel frees its store behind each), once for the two places that ask them
theorem lk1 : sreFenced Challenge.pw_un0048_02.main = true := by kernel_rfl
theorem lk2 : ((moduleNames Challenge.pw_un0048_02.main.body).isEmpty || lookedIntoSs (moduleNames Challenge.pw_un0048_02.main.body) Challenge.pw_un0048_02.main.body) = true := by kernel_rfl
theorem lk3 : namesResolve Challenge.pw_un0048_02 = true := by kernel_rfl
theorem lk4 : (Challenge.pw_un0048_02.boundNames.all fun n => !worldNames.contains n) = true := by kernel_rfl
theorem lk5 : noRoadLSs { strict := !(importedModules Challenge.pw_un0048_02.main.body).all cThrough.contains, foot := none, bare := (["vars", "dir", "locals"] : List Str).filter (readsOut Challenge.pw_un0048_02 Challenge.pw_un0048_02.main.body) } Challenge.pw_un0048_02.main.body = true := by kernel_rfl
theorem lk6 : (namesMeet Challenge.pw_un0048_02 Challenge.pw_un0048_02.main.body fun _ n => attrL n) = true := by kernel_rfl
theorem looks : looksOpen Challenge.pw_un0048_02 = true := by
  unfold looksOpen
  rw [lk1, lk2, lk3, lk4, lk5, lk6]
  rfl
theorem said_row : Challenge.rw_un0048_02.row.wellSaid = true := by
  unfold OpenRow.wellSaid OpenRow.partSaid
  rw [show looksOpen Challenge.rw_un0048_02.row.prog = true from looks]
  kernel_rfl
theorem said : Challenge.rw_un0048_02.wellSaid = true := by
  unfold OpenLaw.wellSaid
  rw [said_row]
  kernel_rfl
end Mine
end

section
open PySem PySem.W PyProof.Rows PySem.Sem
namespace Mine
noncomputable abbrev CallEv := Ctx → Pos → Shared → Option (Result × Shared)

noncomputable def evS (M : Model) (ce : CallEv) (Γ : Ctx) {α : Type} : Sem α → Pos → Shared → Option (Except Value α × Pos × Shared)
  | .pure a, p, s => some (.ok a, p, s)
  | .raise e, p, s => some (.error e, p, s)
  | .unsupported _, _, _ => none
  | .finish _, _, _ => none
  | .rule _ k, p, s => evS M ce Γ (k ()) p s
  | .at p' k, _, s => evS M ce Γ (k ()) p' s
  | .load a _ k, p, s => (s.heap.get? a).bind fun o => evS M ce Γ (k o) p s
  | .update a _ f k, p, s => match s.heap.get? a with
    | some _ => evS M ce Γ (k ()) p { s with heap := s.heap.update a f }
    | none => none
  | .loadIfAlive a k, p, s => evS M ce Γ (k (s.heap.get? a)) p s
  | .point _ k, p, s => evS M ce Γ (k ()) p s
  | .register _ _, _, _ => none
  | .alloc o k, p, s => evS M ce Γ (k s.heap.objs.size) p { s with heap := s.heap.push o }
  | .fresh k, p, s => evS M ce Γ (k s.toks) p { s with toks := s.toks + 1 }
  | .ask k, p, s => evS M ce Γ (k ⟨M.prog, M.w.params⟩) p s
  | .choose _ _ _, _, _ => none
  | .os _ _ _, _, _ => none
  | .call c h _ _ k, p, s => (ce (Γ.enter c h p) p s).bind fun x => evS M ce Γ (k x.1) p x.2
  | .handled own k, p, s => evS M ce Γ (k (if own then Γ.own else Γ.handled)) p s
  | .genState _ _, _, _ => none
  | .newGen _ _, _, _ => none
  | .resume _ _ _ _, _, _ => none
  | .yield _ _ _ _, _, _ => none
  | .stack k, p, s => evS M ce Γ (k ((Γ.code, p) :: Γ.below)) p s
  | .fork _ _, _, _ => none
  | .thread k, p, s => evS M ce Γ (k 0) p s
  | .await _ _ _ _ _, _, _ => none

theorem evS_sound {M : Model} {ce : CallEv} (hce : ∀ Γ p s r s', ce Γ p s = some (r, s') → Returns M Γ p s r s') (Γ : Ctx) {α : Type} (t : Sem α) :
    ∀ (p : Pos) (s : Shared) (r : Except Value α) (p' : Pos) (s' : Shared) (Q : α → Pos → Shared → Prop) (E : Value → Pos → Shared → Prop), evS M ce Γ t p s = some (r, p', s') →
      (match r with | .ok a => Q a p' s' | .error e => E e p' s') → wp M Γ t Q E p s := by
  induction t with
  | pure a =>
    intro p s r p' s' Q E h k
    have h : some (Except.ok a, p, s) = some (r, p', s') := h
    cases h; exact k
  | raise e =>
    intro p s r p' s' Q E h k
    have h : some (Except.error e, p, s) = some (r, p', s') := h
    cases h; exact k
  | unsupported _ => exact fun p s r p' s' Q E h _ => nomatch (show (none : Option (Except Value α × Pos × Shared)) = _ from h)
  | finish _ => exact fun p s r p' s' Q E h _ => nomatch (show (none : Option (Except Value α × Pos × Shared)) = _ from h)
  | register _ _ => exact fun p s r p' s' Q E h _ => nomatch (show (none : Option (Except Value α × Pos × Shared)) = _ from h)
  | choose _ _ _ => exact fun p s r p' s' Q E h _ => nomatch (show (none : Option (Except Value α × Pos × Shared)) = _ from h)
  | os _ _ _ => exact fun p s r p' s' Q E h _ => nomatch (show (none : Option (Except Value α × Pos × Shared)) = _ from h)
  | genState _ _ => exact fun p s r p' s' Q E h _ => nomatch (show (none : Option (Except Value α × Pos × Shared)) = _ from h)
  | newGen _ _ => exact fun p s r p' s' Q E h _ => nomatch (show (none : Option (Except Value α × Pos × Shared)) = _ from h)
  | resume _ _ _ _ => exact fun p s r p' s' Q E h _ => nomatch (show (none : Option (Except Value α × Pos × Shared)) = _ from h)
  | yield _ _ _ _ => exact fun p s r p' s' Q E h _ => nomatch (show (none : Option (Except Value α × Pos × Shared)) = _ from h)
  | fork _ _ => exact fun p s r p' s' Q E h _ => nomatch (show (none : Option (Except Value α × Pos × Shared)) = _ from h)
  | await _ _ _ _ _ => exact fun p s r p' s' Q E h _ => nomatch (show (none : Option (Except Value α × Pos × Shared)) = _ from h)
  | rule _ k ih => exact fun p s r p' s' Q E h q => ih () p s r p' s' Q E h q
  | «at» p₀ k ih => exact fun p s r p' s' Q E h q => ih () p₀ s r p' s' Q E h q
  | point _ k ih => exact fun p s r p' s' Q E h q => ih () p s r p' s' Q E h q
  | fresh k ih => exact fun p s r p' s' Q E h q => ih s.toks p _ r p' s' Q E h q
  | ask k ih => exact fun p s r p' s' Q E h q => ih _ p s r p' s' Q E h q
  | handled _ k ih => exact fun p s r p' s' Q E h q => ih _ p s r p' s' Q E h q
  | stack k ih => exact fun p s r p' s' Q E h q => ih _ p s r p' s' Q E h q
  | thread k ih => exact fun p s r p' s' Q E h q => ih _ p s r p' s' Q E h q
  | alloc _ k ih => exact fun p s r p' s' Q E h q => ih _ p _ r p' s' Q E h q
  | loadIfAlive _ k ih => exact fun p s r p' s' Q E h q => ih _ p s r p' s' Q E h q
  | load a part k ih =>
    intro p s r p' s' Q E h q
    have h : ((s.heap.get? a).bind fun o => evS M ce Γ (k o) p s) = some (r, p', s') := h
    cases ho : s.heap.get? a with
    | none => rw [ho] at h; cases h
    | some o => rw [ho] at h; exact ⟨o, ho, ih o p s r p' s' Q E h q⟩
  | update a part f k ih =>
    intro p s r p' s' Q E h q
    have h : (match s.heap.get? a with | some _ => evS M ce Γ (k ()) p { s with heap := s.heap.update a f } | none => none) = some (r, p', s') := h
    cases ho : s.heap.get? a with
    | none => rw [ho] at h; cases h
    | some o => rw [ho] at h; exact ⟨by rw [ho]; rfl, ih () p _ r p' s' Q E h q⟩
  | call c hd g l k ih =>
    intro p s r p' s' Q E h q
    have h : ((ce (Γ.enter c hd p) p s).bind fun x => evS M ce Γ (k x.1) p x.2) = some (r, p', s') := h
    cases hc : ce (Γ.enter c hd p) p s with
    | none => rw [hc] at h; cases h
    | some x => rw [hc] at h; exact ⟨x.1, x.2, hce _ _ _ _ _ hc, ih _ p _ r p' s' Q E h q⟩

noncomputable def evC (M : Model) : Nat → CallEv
  | 0 => fun _ _ _ => none
  | n + 1 => fun Γ p s => match evS M (evC M n) Γ (M.den Γ.code) p s with
    | some (.ok (.done f), _, s') => some (.ok f, s')
    | some (.ok (.again c), p', s') => if c.quiet then evC M n (Γ.goto c) p' s' else none
    | some (.error e, _, s') => some (.error e, s')
    | none => none

theorem evC_sound (M : Model) : ∀ (n : Nat) (Γ : Ctx) (p : Pos) (s : Shared) (r : Result) (s' : Shared), evC M n Γ p s = some (r, s') → Returns M Γ p s r s'
  | 0, Γ, p, s, r, s', h => by simp [evC] at h
  | n + 1, Γ, p, s, r, s', h => by
    unfold evC at h
    have key : wp M Γ (M.den Γ.code) (finPost M Γ fun r₁ s₁ => r₁ = r ∧ s₁ = s') (fun e _ s₁ => Except.error e = r ∧ s₁ = s') p s := by
      cases h₁ : evS M (evC M n) Γ (M.den Γ.code) p s with
      | none => rw [h₁] at h; cases h
      | some x =>
        obtain ⟨r₁, p₁, s₁⟩ := x
        rw [h₁] at h
        refine evS_sound (evC_sound M n) Γ _ p s r₁ p₁ s₁ _ _ h₁ ?_
        cases r₁ with
        | error e => simp only [Option.some.injEq, Prod.mk.injEq] at h; exact h
        | ok fin =>
          cases fin with
          | done f => simp only [Option.some.injEq, Prod.mk.injEq] at h; exact h
          | again c =>
            simp only at h
            split at h
            · rename_i hq
              exact ⟨hq, r, s', evC_sound M n _ _ _ _ _ h, rfl, rfl⟩
            · cases h
    obtain ⟨r₁, s₁, hr, rfl, rfl⟩ := (wp_iff_runs M Γ (M.den Γ.code) (fun r₁ s₁ => r₁ = r ∧ s₁ = s') p s).mp key
    exact hr
end Mine
end

section
open PySem PySem.W PyProof.Rows PySem.Calls PySem.F
set_option maxRecDepth 100000
namespace Mine
section
variable {prog : Program} {w : World} {A : Around} {E : Value → Shared → Prop}

inductive F2 {α β : Type} (R : α → β → Prop) : List α → List β → Prop
  | nil : F2 R [] []
  | cons {a : α} {b : β} {l : List α} {m : List β} : R a b → F2 R l m → F2 R (a :: l) (b :: m)

/-- the heap has grown by n objects, what stood stands -/
noncomputable def Grown (h h' : Heap) (n : Nat) : Prop := h'.objs.size = h.objs.size + n ∧ ∀ b, b < h.objs.size → h'.get? b = h.get? b
theorem Grown.refl (h : Heap) : Grown h h 0 := ⟨rfl, fun _ _ => rfl⟩
theorem Grown.trans {h₁ h₂ h₃ : Heap} {m n : Nat} (x : Grown h₁ h₂ m) (y : Grown h₂ h₃ n) : Grown h₁ h₃ (m + n) :=
  ⟨by rw [y.1, x.1]; omega, fun b hb => (y.2 b (by rw [x.1]; omega)).trans (x.2 b hb)⟩
theorem Grown.push (h : Heap) (o : Obj) : Grown h (h.push o) 1 := by
  refine ⟨?_, fun b hb => Heap.get?_push_ne h b o (Nat.ne_of_lt hb)⟩
  cases h; simp [Heap.push]
theorem Grown.but {h h₁ h₂ : Heap} {n d : Nat} (x : Grown h h₁ n) (s : Heap.SameBut d h₁ h₂) (hd : h.objs.size ≤ d) : Grown h h₂ n :=
  ⟨s.1.trans x.1, fun b hb => (s.2 b (Nat.ne_of_lt (Nat.lt_of_lt_of_le hb hd))).trans (x.2 b hb)⟩

noncomputable def IsSV (kvs : List (Int × Value)) (its : List (Int × Str)) : Prop := F2 (fun kv it => kv.1 = it.1 ∧ ∃ t, kv.2 = Value.str it.2 t) kvs its
theorem IsSV.keys {kvs : List (Int × Value)} {its : List (Int × Str)} (h : IsSV kvs its) : kvs.map (·.1) = its.map (·.1) := by
  induction h with
  | nil => rfl
  | cons h _ ih => rw [List.map_cons, List.map_cons, h.1, ih]
theorem IsSV.append {a b : List (Int × Value)} {x y : List (Int × Str)} (h : IsSV a x) (k : IsSV b y) : IsSV (a ++ b) (x ++ y) := by
  induction h with
  | nil => exact k
  | cons h _ ih => exact .cons h ih
theorem IsSV.length {kvs : List (Int × Value)} {its : List (Int × Str)} (h : IsSV kvs its) : kvs.length = its.length := by
  induction h with
  | nil => rfl
  | cons _ _ ih => simp [ih]

noncomputable def LitP (prog : Program) (w : World) (p : Sem Value × Sem Value) (it : Int × Str) : Prop :=
  (∀ (A : Around) (E : Value → Shared → Prop) (s : Shared) (Q : Value → Shared → Prop), Q (.int it.1 s.toks) { s with toks := s.toks + 1 } → wpAny (model prog w) A p.1 Q E s) ∧
  (∀ (A : Around) (E : Value → Shared → Prop) (s : Shared) (Q : Value → Shared → Prop), Q (.str it.2 s.toks) { s with toks := s.toks + 1 } → wpAny (model prog w) A p.2 Q E s)

theorem stored_fresh {kvs : List (Int × Value)} {k : Int} {v : Value} (h : k ∉ kvs.map (·.1)) : stored kvs k v = kvs ++ [(k, v)] := by
  unfold stored
  rw [if_neg]
  rw [List.any_eq_true]
  rintro ⟨kv, hm, he⟩
  exact h (List.mem_map.mpr ⟨kv, hm, of_decide_eq_true he⟩)

theorem isInt_self (k : Int) (t : Tok) : (intKind prog w).is k (.int k t) = true := by
  show Value.isInt k (.int k t) = true
  simp [Value.isInt]

/-- evaluate and store pair by pair (a display of more than fifteen) -/
theorem wp_longLoop {d : Addr} : ∀ (pairs : List (Sem Value × Sem Value)) (its done : List (Int × Str)) (kvs : List (Int × Value)) (s : Shared) (Q : PUnit → Shared → Prop),
    F2 (LitP prog w) pairs its → ((done ++ its).map (·.1)).Nodup → IsSV kvs done → s.heap.DictOf (intKind prog w) d kvs → done.length + its.length ≤ sizeLine →
    (∀ h' kvs', IsSV kvs' (done ++ its) → h'.DictOf (intKind prog w) d kvs' → Heap.SameBut d s.heap h' → Q PUnit.unit { s with heap := h', toks := s.toks + 3 * its.length }) →
    wpAny (model prog w) A (forIn pairs PUnit.unit fun (x : Sem Value × Sem Value) (_ : PUnit) => (do
      let kv ← x.1
      let vv ← holding [kv] x.2
      holding [kv, vv] (dictSet d kv vv)
      pure (ForInStep.yield PUnit.unit) : Sem (ForInStep PUnit))) Q E s
  | [], [], done, kvs, s, Q, _, _, hsv, hd, _, hQ => by
    rw [List.forIn_nil]
    exact wpAny_pure (by simpa using hQ s.heap kvs (by simpa using hsv) hd (Heap.SameBut.refl _ _))
  | p :: pairs, it :: its, done, kvs, s, Q, hp, hn, hsv, hd, hsz, hQ => by
    cases hp with
    | cons h1 h2 =>
      rw [List.length_cons] at hsz
      rw [List.forIn_cons]
      refine wpAny_bind (wpAny_bind (h1.1 A E s _ ?_))
      refine wpAny_bind (wpAny_holding (h1.2 A E _ _ ?_))
      have hfresh : it.1 ∉ kvs.map (·.1) := by
        rw [hsv.keys]
        intro hm
        rw [List.map_append, List.map_cons, List.nodup_append] at hn
        exact hn.2.2 _ hm _ List.mem_cons_self rfl
      refine wpAny_bind (wpAny_holding (wpAny_dictSet_pairs (knd := intKind prog w) (k := it.1) (kvs := kvs) (isInt_self _ _) hd (fun h₁ hd₁ hs₁ => wpAny_pure ?_) (by rw [hsv.length]; omega)))
      rw [stored_fresh hfresh] at hd₁
      have hsv₁ : IsSV (kvs ++ [(it.1, Value.str it.2 (s.toks + 1))]) (done ++ [it]) := hsv.append (.cons ⟨rfl, _, rfl⟩ .nil)
      refine wp_longLoop pairs its (done ++ [it]) _ _ Q h2 (by simpa using hn) hsv₁ hd₁ (by simp; omega) fun h' kvs' a b c => ?_
      have := hQ h' kvs' (by simpa using a) b (hs₁.trans c)
      have e : s.toks + 3 * (it :: its).length = s.toks + 1 + 1 + 1 + 3 * its.length := by simp; omega
      rw [e] at this
      exact this
  | [], _ :: _, _, _, _, _, hp, _, _, _, _, _ => nomatch hp
  | _ :: _, [], _, _, _, _, hp, _, _, _, _, _ => nomatch hp

/-- the pairs of a short display, evaluated -/
theorem wp_evalLits : ∀ (pairs : List (Sem Value × Sem Value)) (its : List (Int × Str)) (s : Shared) (Q : List (Value × Value) → Shared → Prop),
    F2 (LitP prog w) pairs its →
    (∀ vs, F2 (fun (kv : Value × Value) it => (∃ t, kv.1 = .int it.1 t) ∧ ∃ t, kv.2 = Value.str it.2 t) vs its → Q vs { s with toks := s.toks + 2 * its.length }) →
    wpAny (model prog w) A (evalPairs pairs) Q E s
  | [], [], s, Q, _, hQ => wpAny_pure (by simpa using hQ [] .nil)
  | (k, v) :: pairs, it :: its, s, Q, hp, hQ => by
    cases hp with
    | cons h1 h2 =>
      refine evalPairs_cons (h1.1 A E s _ (h1.2 A E _ _ (wp_evalLits pairs its _ _ h2 fun vs hv => ?_)))
      have := hQ ((Value.int it.1 s.toks, Value.str it.2 (s.toks + 1)) :: vs) (.cons ⟨⟨_, rfl⟩, _, rfl⟩ hv)
      have e : s.toks + 2 * (it :: its).length = s.toks + 1 + 1 + 2 * its.length := by simp; omega
      rw [e] at this
      exact this
  | [], _ :: _, _, _, hp, _ => nomatch hp
  | _ :: _, [], _, _, hp, _ => nomatch hp

theorem carries_of {vs : List (Value × Value)} {its : List (Int × Str)} (h : F2 (fun (kv : Value × Value) it => (∃ t, kv.1 = .int it.1 t) ∧ ∃ t, kv.2 = Value.str it.2 t) vs its) :
    ∃ kvs, Carries (intKind prog w) vs kvs ∧ IsSV kvs its := by
  induction h with
  | nil => exact ⟨[], trivial, .nil⟩
  | @cons kv it vs its h _ ih =>
    obtain ⟨kvs, c, sv⟩ := ih
    obtain ⟨k, v⟩ := kv
    obtain ⟨⟨t, rfl⟩, u, rfl⟩ := h
    exact ⟨(it.1, .str it.2 u) :: kvs, ⟨isInt_self _ _, rfl, c⟩, .cons ⟨rfl, u, rfl⟩ sv⟩

theorem dictOf_push (h : Heap) : (h.push { cls := .type "dict", data := .dict #[] }).DictOf (intKind prog w) h.objs.size [] := Heap.DictOf.new h

theorem wp_subDict {pairs : List (Sem Value × Sem Value)} {its : List (Int × Str)} {s : Shared} {Q : Addr → Shared → Prop} (hp : F2 (LitP prog w) pairs its) (hn : (its.map (·.1)).Nodup) (hl : its.length ≤ 17)
    (hQ : ∀ h' kvs, IsSV kvs its → h'.DictOf (intKind prog w) s.heap.objs.size kvs → Grown s.heap h' 1 → Q s.heap.objs.size { s with heap := h', toks := s.toks + 3 * its.length }) :
    wpAny (model prog w) A (subDict pairs) Q E s := by
  have hlen : pairs.length = its.length := by
    clear hQ hn hl
    induction hp with
    | nil => rfl
    | cons _ _ ih => simp [ih]
  have hsl : 17 ≤ sizeLine := by rw [sizeLine_eq]; decide
  by_cases h15 : pairs.length ≤ 15
  · refine wpAny_subDict (knd := intKind prog w) h15 (wp_evalLits pairs its _ _ hp fun vs hv => ?_)
    obtain ⟨kvs, c, sv⟩ := carries_of (prog := prog) (w := w) hv
    refine ⟨kvs, c, dictOf_push _, fun h' hd hs => ?_⟩
    have hvl : vs.length = its.length := by rw [← sv.length, c.length]
    rw [merged_nil_of_nodup _ (by rw [sv.keys]; exact hn)] at hd
    have := hQ h' kvs sv hd ((Grown.push s.heap _).but hs (Nat.le_refl _))
    have e : s.toks + 3 * its.length = s.toks + 2 * its.length + vs.length := by rw [hvl]; omega
    rw [e] at this
    exact this
  · unfold subDict
    refine wpAny_bind (wpAny_alloc ?_)
    refine wpAny_bind (wpAny_holding ?_)
    rw [if_neg h15]
    refine wpAny_bind (wpAny_rule ?_)
    refine wpAny_bind (wp_longLoop pairs its [] [] _ _ hp (by simpa using hn) .nil (dictOf_push _) (by simp; omega) fun h' kvs sv hd hs => ?_)
    refine wpAny_pure (wpAny_pure ?_)
    exact hQ h' kvs sv hd ((Grown.push s.heap _).but hs (Nat.le_refl _))
end
end Mine
end

section
open PySem PySem.W PyProof.Rows PySem.Calls PySem.F
set_option maxRecDepth 100000
namespace Mine
section
variable {prog : Program} {w : World} {A : Around} {E : Value → Shared → Prop}
theorem wp_dictPut {d : Addr} {kvs : List (Int × Value)} {k : Int} {t : Tok} {v : Value} {s : Shared} {Q : Unit → Shared → Prop} (hm : s.heap.DictOf (intKind prog w) d kvs) (hf : k ∉ kvs.map (·.1)) (hsz : kvs.length ≤ sizeLine)
    (hQ : ∀ h', h'.DictOf (intKind prog w) d (kvs ++ [(k, v)]) → Heap.SameBut d s.heap h' → Q () { s with heap := h' }) :
    wpAny (model prog w) A (dictPut d (hashInt k) (.int k t) v) Q E s := by
  obtain ⟨o, es, ep, ho, hc, hd, hk, hp, hn⟩ := hm
  have hes : es.size ≤ sizeLine := by have e1 := hp.length; have e2 : es.toList.length = es.size := by simp
                                      omega
  have hkey : (intKind prog w).is k (.int k t) = true := isInt_self k t
  unfold dictPut
  refine wpAny_bind (wpAny_dictFind_of (knd := intKind prog w) (k := k) hkey ho hd hk ?_)
  have hidx : (es.findIdx? fun e => (intKind prog w).is k e.key) = kvs.findIdx? fun kv => decide (kv.1 = k) := by
    rw [← hp.findIdx k]; obtain ⟨l⟩ := es; simp
  have hnone : (es.findIdx? fun e => (intKind prog w).is k e.key) = none := by
    rw [hidx, List.findIdx?_eq_none_iff]
    intro kv hkv
    exact decide_eq_false fun e => hf (List.mem_map.mpr ⟨kv, hkv, e⟩)
  rw [hnone]
  refine wpAny_updateDictKeys (hz := hes) ho hd (hQ _ ⟨_, _, ep + 1, Heap.get?_update_self _ ho (Obj.isFreed_of_dict (Obj.data_mapDictKeys hd _)), hc.mapDictKeys _, Obj.data_mapDictKeys hd _, hk.push hkey _, ?_, ?_⟩ (Heap.SameBut.update ..))
  · have := hp.append hkey (hashInt k) v
    obtain ⟨l⟩ := es
    simpa using this
  · rw [List.map_append, List.nodup_append]
    refine ⟨hn, by simp, ?_⟩
    intro a ha b hb
    simp only [List.map_cons, List.map_nil, List.mem_singleton] at hb
    subst hb
    exact fun e => hf (e ▸ ha)

theorem forIn_range_wp {n : Nat} {β : Type} (f : Nat → β → Sem (ForInStep β)) (I : Nat → β → Shared → Prop) (Q : β → Shared → Prop)
    (turn : ∀ i b s, i < n → I i b s → wpAny (model prog w) A (f i b) (fun r s' => match r with | .yield b' => I (i + 1) b' s' | .done b' => Q b' s') E s)
    (fin : ∀ b s, I n b s → Q b s) (b : β) (s : Shared) (h : I 0 b s) : wpAny (model prog w) A (forIn (List.range n) b f) Q E s := by
  refine wpAny_forIn_list f (fun rest b s => ∃ i, i ≤ n ∧ rest = List.range' i (n - i) ∧ I i b s) Q ?_ ?_ _ _ ⟨0, Nat.zero_le _, by rw [List.range_eq_range', Nat.sub_zero], h⟩
  · rintro x rest b s ⟨i, hi, hr, hI⟩
    obtain ⟨k, hk⟩ : ∃ k, n - i = k + 1 := by
      cases hni : n - i with
      | zero => rw [hni] at hr; cases hr
      | succ k => exact ⟨k, rfl⟩
    rw [hk, List.range'_succ] at hr
    injection hr with h1 h2
    subst h1 h2
    have hlt : x < n := by omega
    refine wpAny_mono (turn x b s hlt hI) (fun r s' hr => ?_) fun _ _ e => e
    cases r with
    | done b' => exact hr
    | yield b' => exact ⟨x + 1, hlt, by rw [show n - (x + 1) = k by omega], hr⟩
  · rintro b s ⟨i, hi, hr, hI⟩
    have : i = n := by
      have := congrArg List.length hr
      simp at this; omega
    subst this
    exact fin b s hI

theorem keysOf_get {es : Array DictEntry} {kvs : List (Int × Value)} (hk : KeysOf (intKind prog w) es) (hp : Pairs (intKind prog w) es.toList kvs) {i : Nat} (hi : i < kvs.length) :
    ∃ e t, es[i]? = some e ∧ e.hash = hashInt (kvs[i]).1 ∧ e.key = .int (kvs[i]).1 t ∧ e.val = (kvs[i]).2 := by
  have key : ∀ (l : List DictEntry) (kvs : List (Int × Value)), Pairs (intKind prog w) l kvs → ∀ i (hi : i < kvs.length), ∃ e, l[i]? = some e ∧ (intKind prog w).is (kvs[i]).1 e.key = true ∧ e.val = (kvs[i]).2 := by
    intro l kvs h
    induction h with
    | nil => intro i hi; exact absurd hi (Nat.not_lt_zero _)
    | @cons e kv l kvs h1 h2 _ ih =>
      intro i hi
      cases i with
      | zero => exact ⟨e, rfl, h1, h2⟩
      | succ i =>
        obtain ⟨e', q⟩ := ih i (by simpa using hi)
        exact ⟨e', by simpa using q⟩
  obtain ⟨e, he, h1, h2⟩ := key _ _ hp i hi
  have he' : es[i]? = some e := by rw [← Array.getElem?_toList]; exact he
  obtain ⟨k', hk1, hk2⟩ := hk e (Array.mem_of_getElem? he')
  have hkk : (kvs[i]).1 = k' := (intKind prog w).inj _ _ _ h1 hk1
  obtain ⟨t, ht⟩ := Value.isInt_shape (show Value.isInt (kvs[i]).1 e.key = true from h1)
  exact ⟨e, t, he', by rw [hk2, ← hkk]; rfl, ht, h2⟩

theorem wp_merge {d a : Addr} {kvs more : List (Int × Value)} {s : Shared} {Q : Unit → Shared → Prop} (hda : d ≠ a) (hS : (a == sysModules) = false) (hne : kvs ≠ [])
    (hd : s.heap.DictOf (intKind prog w) d kvs) (ha : s.heap.DictOf (intKind prog w) a more) (hn : ((kvs ++ more).map (·.1)).Nodup) (hsz : kvs.length + more.length ≤ sizeLine)
    (hQ : ∀ h', h'.DictOf (intKind prog w) d (kvs ++ more) → Heap.SameBut d s.heap h' → Q () { s with heap := h' }) :
    wpAny (model prog w) A (mergeMapping d (.ref a) false) Q E s := by
  obtain ⟨oa, esa, epa, hoa, hca, hda', hka, hpa, hna⟩ := id ha
  obtain ⟨od, esd, epd, hod, hcd, hdd, hkd, hpd, hnd⟩ := id hd
  have hlen : esa.size = more.length := by have := hpa.length; simpa using this
  unfold mergeMapping
  refine wpAny_bind (wpAny_isInstance ha.typeIs isSubtype_dict_dict ?_)
  rw [if_pos rfl]
  refine wpAny_bind (wpAny_specialOf ha.typeIs slot_dict_iter.lookup ?_)
  refine wpAny_bind (wpAny_pure ?_)
  rw [show ((some (Value.builtin "dict.__iter__") : Option Value) == some (Value.builtin "dict.__iter__")) = true from by decide +kernel]
  dsimp only
  rw [hS]
  rw [if_neg Bool.false_ne_true]
  refine wpAny_bind (wpAny_dictEntries hod hdd ?_)
  have hde : esd.isEmpty = false := by
    have := hpd.length
    cases hx : esd.isEmpty with
    | false => rfl
    | true =>
      have h0 : esd.size = 0 := by simpa [Array.isEmpty] using hx
      have : kvs.length = 0 := by rw [← this]; simpa using h0
      exact absurd (List.length_eq_zero_iff.mp this) hne
  rw [hde, if_neg Bool.false_ne_true]
  refine wpAny_bind (wpAny_dictEntries hoa hda' ?_)
  refine wpAny_bind (wpAny_dictEpoch hoa hda' ?_)
  refine wpAny_bind (forIn_range_wp _ (fun i _ s' => ∃ h', s' = { s with heap := h' } ∧ h'.DictOf (intKind prog w) d (kvs ++ more.take i) ∧ Heap.SameBut d s.heap h') _ ?_ ?_ _ _
    ⟨s.heap, rfl, by simpa using hd, Heap.SameBut.refl _ _⟩)
  · rintro i b s' hi ⟨h', rfl, hd', hs'⟩
    have hoa' : h'.get? a = some oa := (hs'.2 a (Ne.symm hda)).trans hoa
    rw [hlen] at hi
    obtain ⟨e, t, he, hh, hkey, hval⟩ := keysOf_get hka hpa hi
    refine wpAny_bind (wpAny_dictEntries (s := { s with heap := h' }) hoa' hda' ?_)
    rw [he]
    dsimp only
    refine wpAny_bind (wpAny_holding ?_)
    rw [if_neg Bool.false_ne_true, hh, hkey, hval]
    have hnot : (more[i]).1 ∉ (kvs ++ more.take i).map (·.1) := by
      intro hm
      have e1 : kvs ++ more = (kvs ++ more.take i) ++ more[i] :: more.drop (i + 1) := by
        rw [List.append_assoc, ← List.drop_eq_getElem_cons hi, List.take_append_drop]
      rw [e1, List.map_append, List.map_cons, List.nodup_append] at hn
      exact hn.2.2 _ hm _ List.mem_cons_self rfl
    refine wp_dictPut (s := { s with heap := h' }) hd' hnot (by simp only [List.length_append, List.length_take]; omega) fun h₂ hd₂ hs₂ => ?_
    have hoa₂ : h₂.get? a = some oa := (hs₂.2 a (Ne.symm hda)).trans hoa'
    refine wpAny_bind (wpAny_dictEpoch (s := { s with heap := h₂ }) hoa₂ hda' ?_)
    rw [if_neg (by simp)]
    refine wpAny_pure ⟨h₂, rfl, ?_, hs'.trans hs₂⟩
    rw [List.take_succ_eq_append_getElem hi, ← List.append_assoc]
    exact hd₂
  · rintro b s' ⟨h', rfl, hd', hs'⟩
    refine wpAny_pure (hQ h' ?_ hs')
    rw [hlen, List.take_length] at hd'
    exact hd'
end
end Mine
end

section
open PySem PySem.W PyProof.Rows PySem.Calls PySem.F
set_option maxRecDepth 100000
namespace Mine
section
variable {prog : Program} {w : World} {A : Around} {E : Value → Shared → Prop}

noncomputable def DSt (prog : Program) (w : World) (s : Shared) (done : List (Int × Str)) (m : Nat) (main : Option Addr) (s' : Shared) : Prop :=
  ∃ h', s' = { s with heap := h', toks := s.toks + 3 * done.length } ∧ Grown s.heap h' m ∧
    match main with
    | none => done = [] ∧ m = 0
    | some d => d = s.heap.objs.size ∧ done ≠ [] ∧ ∃ kvs, IsSV kvs done ∧ h'.DictOf (intKind prog w) d kvs

noncomputable def flushD (run : List (Sem Value × Sem Value)) (main : Option Addr) : Sem (Option Addr) := do
      if run.isEmpty then return main
      match main with
      | none => return some (← subDict run)
      | some d =>
        let sub ← holding [.ref d] (subDict run)
        (holding [.ref d, .ref sub] (mergeMapping d (.ref sub) false)).onRaise fun x => do let _ ← holding [.ref d, x] (runValue (.builtin "proto.let_go" {}))
        return some d

theorem wp_flush {s : Shared} (hS : sysModules < s.heap.objs.size) {done : List (Int × Str)} {m : Nat} {main : Option Addr} {run : List (Sem Value × Sem Value)} {its : List (Int × Str)} {s' : Shared} {Q : Option Addr → Shared → Prop}
    (hst : DSt prog w s done m main s') (hp : F2 (LitP prog w) run its) (hne : its ≠ []) (hl : its.length ≤ 17) (hn : ((done ++ its).map (·.1)).Nodup) (hsz : (done ++ its).length ≤ sizeLine)
    (hQ : ∀ d s'', DSt prog w s (done ++ its) (m + 1) (some d) s'' → Q (some d) s'') :
    wpAny (model prog w) A (flushD run main) Q E s' := by
  obtain ⟨h', rfl, hg, hm⟩ := hst
  have hre : run.isEmpty = false := by
    cases hp with
    | nil => exact absurd rfl hne
    | cons _ _ => rfl
  have hni : (its.map (·.1)).Nodup := by
    rw [List.map_append, List.nodup_append] at hn
    exact hn.2.1
  unfold flushD
  rw [hre, if_neg Bool.false_ne_true]
  cases main with
  | none =>
    obtain ⟨rfl, rfl⟩ := hm
    refine wpAny_bind (wp_subDict hp hni hl fun h₂ kvs sv hd g => wpAny_pure (hQ _ _ ⟨h₂, ?_, hg.trans g, ?_, by simpa using hne, kvs, by simpa using sv, hd⟩))
    · simp
    · exact hg.1
  | some d =>
    obtain ⟨rfl, hdn, kvs, sv, hd⟩ := hm
    refine wpAny_bind (wpAny_holding (wp_subDict hp hni hl fun h₂ kvs₂ sv₂ hd₂ g => ?_))
    have hdlt : s.heap.objs.size < h'.objs.size := by obtain ⟨o, _, _, ho, _⟩ := hd; exact Heap.lt_size ho
    have hd' : h₂.DictOf (intKind prog w) s.heap.objs.size kvs := hd.at fun o e => (g.2 _ hdlt).trans e
    refine wpAny_bind (wpAny_onRaise (wpAny_holding (wp_merge (s := { s with heap := h₂, toks := s.toks + 3 * done.length + 3 * its.length }) (Nat.ne_of_lt hdlt) ?_ ?_ hd' hd₂ ?_ ?_ fun h₃ hd₃ hs₃ => wpAny_pure (hQ _ _ ⟨h₃, ?_, (hg.trans g).but hs₃ (Nat.le_refl _), rfl, ?_, _, sv.append sv₂, hd₃⟩))))
    · exact beq_eq_false_iff_ne.mpr (Nat.ne_of_gt (Nat.lt_of_lt_of_le hS (by show _ ≤ h'.objs.size; rw [hg.1]; exact Nat.le_add_right _ _)))
    · intro e; subst e
      cases sv with
      | nil => exact hdn rfl
    · rw [List.map_append, sv.keys, sv₂.keys, ← List.map_append]; exact hn
    · rw [sv.length, sv₂.length, ← List.length_append]; exact hsz
    · simp [Nat.mul_add, Nat.add_assoc]
    · simp [hdn]

theorem wp_display {pairs : List (Sem Value × Sem Value)} {its : List (Int × Str)} {s : Shared} {Q : Value → Shared → Prop} (hS : sysModules < s.heap.objs.size) (hp : F2 (LitP prog w) pairs its) (hne : its ≠ [])
    (hn : (its.map (·.1)).Nodup) (hsz : its.length ≤ sizeLine)
    (hQ : ∀ h' kvs, IsSV kvs its → h'.DictOf (intKind prog w) s.heap.objs.size kvs → Grown s.heap h' ((its.length + 16) / 17) → Q (.ref s.heap.objs.size) { s with heap := h', toks := s.toks + 3 * its.length }) :
    wpAny (model prog w) A (dictDisplay (pairs.map fun p => (some p.1, p.2))) Q E s := by
  unfold dictDisplay
  dsimp only
  refine wpAny_bind (wpAny_forIn_list _ (fun rest st s' => ∃ (prest : List (Sem Value × Sem Value)) (done runI restI : List (Int × Str)) (m : Nat), rest = prest.map (fun p => (some p.1, p.2)) ∧ F2 (LitP prog w) prest restI ∧
      its = done ++ runI ++ restI ∧ F2 (LitP prog w) st.snd runI ∧ runI.length < 17 ∧ done.length = 17 * m ∧ DSt prog w s done m st.fst s') _ ?_ ?_ _ _ ?_)
  · rintro x rest st s' ⟨prest, done, runI, restI, m, hr, hpr, hits, hrun, hlr, hdm, hst⟩
    cases hpr with
    | nil => cases hr
    | @cons p it prest restI h1 h2 =>
      rw [List.map_cons] at hr
      injection hr with e1 e2
      subst e1 e2
      obtain ⟨main, run⟩ := st
      dsimp only at hrun hst ⊢
      have hlen : (run ++ [p]).length = runI.length + 1 := by
        have : ∀ {l : List (Sem Value × Sem Value)} {m : List (Int × Str)}, F2 (LitP prog w) l m → l.length = m.length := fun h => by
          induction h with
          | nil => rfl
          | cons _ _ ih => simp [ih]
        simp [this hrun]
      have hrun' : F2 (LitP prog w) (run ++ [p]) (runI ++ [it]) := by
        clear hlen hits hlr
        induction hrun with
        | nil => exact .cons h1 .nil
        | cons h _ ih => exact .cons h ih
      have hits' : its = done ++ (runI ++ [it]) ++ restI := by rw [hits]; simp
      by_cases h17 : runI.length + 1 = 17
      · have e17 : ((run ++ [(p.fst, p.snd)]).length == 17) = true := by
          show ((run ++ [p]).length == 17) = true
          rw [hlen, h17]; rfl
        rw [if_pos e17]
        refine wpAny_bind (show wpAny (model prog w) A (flushD (run ++ [p]) main) _ E s' from wp_flush hS hst hrun' (by simp) (by simp; omega) ?_ ?_ fun d s'' hst' => wpAny_pure ⟨prest, done ++ (runI ++ [it]), [], restI, m + 1, rfl, h2, by simpa using hits', .nil, by decide, by simp; omega, hst'⟩)
        · rw [hits', List.map_append, List.nodup_append] at hn; exact hn.1
        · rw [hits', List.length_append] at hsz; exact Nat.le_trans (Nat.le_add_right _ _) hsz
      · have e17 : ¬ (((run ++ [(p.fst, p.snd)]).length == 17) = true) := by
          show ¬ (((run ++ [p]).length == 17) = true)
          rw [hlen]; simpa using h17
        rw [if_neg e17]
        exact wpAny_pure ⟨prest, done, runI ++ [it], restI, m, rfl, h2, hits', hrun', by simp; omega, hdm, hst⟩
  · rintro ⟨main, run⟩ s' ⟨prest, done, runI, restI, m, hr, hpr, hits, hrun, hlr, hdm, hst⟩
    dsimp only at hrun hst ⊢
    cases prest with
    | cons _ _ => cases hr
    | nil =>
      cases hpr
      rw [List.append_nil] at hits
      by_cases hrn : runI = []
      · subst hrn
        cases hrun
        rw [List.append_nil] at hits
        subst hits
        rw [if_pos (show ([] : List (Sem Value × Sem Value)).isEmpty = true from rfl)]
        refine wpAny_bind (wpAny_pure ?_)
        obtain ⟨h', rfl, hg, hm⟩ := hst
        cases main with
        | none => exact absurd hm.1 hne
        | some d =>
          obtain ⟨rfl, _, kvs, sv, hd⟩ := hm
          refine wpAny_pure (hQ h' kvs sv hd ?_)
          rw [hdm, show (17 * m + 16) / 17 = m by omega]; exact hg
      · refine wpAny_bind (show wpAny (model prog w) A (flushD run main) _ E s' from wp_flush hS hst hrun hrn (by omega) (by rw [← hits]; exact hn) (by rw [← hits]; exact hsz) fun d s'' hst' => ?_)
        obtain ⟨h', rfl, hg, rfl, _, kvs, sv, hd⟩ := hst'
        rw [← hits] at sv ⊢
        refine wpAny_pure (hQ h' kvs sv hd ?_)
        have hl : its.length = done.length + runI.length := by rw [hits, List.length_append]
        have : 0 < runI.length := List.length_pos_iff.mpr hrn
        rw [show (its.length + 16) / 17 = m + 1 by omega]; exact hg
  · exact ⟨pairs, [], [], its, 0, rfl, hp, rfl, .nil, by decide, rfl, s.heap, by simp, Grown.refl _, rfl, rfl⟩
end
end Mine
end

section
open PySem PySem.W PyProof.Rows PySem.Calls PySem.F
set_option maxRecDepth 100000
namespace Mine
/-- the int keys and text values of a written dict; none where one is no literal -/
noncomputable def litInt : Option Expr → Option Int
  | some (.Constant (.int k) _ _) => some k
  | _ => none
noncomputable def litStr : Expr → Option Str
  | .Constant (.str v) _ _ => some v
  | _ => none
noncomputable def litItems : List (Option Expr) → List Expr → Option (List (Int × Str))
  | [], [] => some []
  | k :: ks, v :: vs => match litInt k with
    | some a => match litStr v with
      | some b => (litItems ks vs).map ((a, b) :: ·)
      | none => none
    | none => none
  | _, _ => none
theorem litInt_spec {k : Option Expr} {a : Int} (h : litInt k = some a) : ∃ n p, k = some (.Constant (.int a) n p) := by
  unfold litInt at h
  split at h
  · cases h; exact ⟨_, _, rfl⟩
  · cases h
theorem litStr_spec {v : Expr} {b : Str} (h : litStr v = some b) : ∃ n p, v = .Constant (.str b) n p := by
  unfold litStr at h
  split at h
  · cases h; exact ⟨_, _, rfl⟩
  · cases h
theorem litItems_spec {prog : Program} {w : World} (env : Env) (pos : Pos) : ∀ (ks : List (Option Expr)) (vs : List Expr) (its : List (Int × Str)), litItems ks vs = some its →
    F2 (LitP prog w) (pairTrees ks vs env pos) its ∧ ks.all (·.isSome) = true ∧ ks.length = vs.length
  | [], [], its, h => by cases h; exact ⟨.nil, rfl, rfl⟩
  | [], _ :: _, its, h => nomatch h
  | _ :: _, [], its, h => nomatch h
  | k :: ks, v :: vs, its, h => by
    have h1 : (match litInt k with | some a => (match litStr v with | some b => (litItems ks vs).map ((a, b) :: ·) | none => none) | none => none) = some its := h
    cases hk : litInt k with
    | none => rw [hk] at h1; cases h1
    | some a =>
      rw [hk] at h1
      dsimp only at h1
      cases hv : litStr v with
      | none => rw [hv] at h1; cases h1
      | some b =>
        rw [hv] at h1
        dsimp only at h1
        obtain ⟨its', h', rfl⟩ := Option.map_eq_some_iff.mp h1
        obtain ⟨x, y, z⟩ := litItems_spec env pos ks vs its' h'
        obtain ⟨n₁, p₁, rfl⟩ := litInt_spec hk
        obtain ⟨n₂, p₂, rfl⟩ := litStr_spec hv
        refine ⟨.cons ⟨fun A E s Q hQ => wpAny_Constant_int (env := env) (k := n₁) (pos := p₁) hQ, fun A E s Q hQ => wpAny_bind (wpAny_Constant_str (env := env) (k := n₂) (pos := p₂) (wpAny_bind (wpAny_standAt (wpAny_pure hQ))))⟩ x, by simpa using y, by simpa using z⟩

section
variable {prog : Program} {w : World} {A : Around} {E : Value → Shared → Prop}
theorem wp_DictLit {ks : List (Option Expr)} {vs : List Expr} {pos : Pos} {env : Env} {its : List (Int × Str)} {s : Shared} {Q : Value → Shared → Prop} (hS : sysModules < s.heap.objs.size) (hit : litItems ks vs = some its) (hne : its ≠ [])
    (hn : (its.map (·.1)).Nodup) (hsz : its.length ≤ sizeLine)
    (hQ : ∀ h' kvs, IsSV kvs its → h'.DictOf (intKind prog w) s.heap.objs.size kvs → Grown s.heap h' ((its.length + 16) / 17) → Q (.ref s.heap.objs.size) { s with heap := h', toks := s.toks + 3 * its.length }) :
    wpAny (model prog w) A (eval (.Dict ks vs pos) env) Q E s := by
  obtain ⟨hp, hall, hl⟩ := litItems_spec (prog := prog) (w := w) env pos ks vs its hit
  rw [arm_eval_Dict, zip_pairTrees ks vs env pos hall hl]
  exact wpAny_bind (wpAny_standAt (wp_display hS hp hne hn hsz hQ))
end

/-- rising keys are apart -/
noncomputable def risingI : List Int → Bool
  | a :: b :: r => decide (a < b) && risingI (b :: r)
  | _ => true
theorem risingI_lt : ∀ (l : List Int) (a : Int), risingI (a :: l) = true → ∀ b ∈ l, a < b
  | [], _, _, _, h => nomatch h
  | c :: r, a, h, b, hb => by
    simp only [risingI, Bool.and_eq_true, decide_eq_true_eq] at h
    cases hb with
    | head => exact h.1
    | tail _ hb => exact Int.lt_trans h.1 (risingI_lt r c h.2 b hb)
theorem risingI_nodup : ∀ (l : List Int), risingI l = true → l.Nodup
  | [], _ => List.nodup_nil
  | [a], _ => by simp
  | a :: b :: r, h => by
    have h' := h
    simp only [risingI, Bool.and_eq_true] at h'
    refine List.nodup_cons.mpr ⟨fun hm => ?_, risingI_nodup (b :: r) h'.2⟩
    exact Int.lt_irrefl a (risingI_lt _ _ h a hm)

/-- a grown heap, as a list of objects -/
theorem grown_objs {h h' : Heap} {n : Nat} (g : Grown h h' n) (live : ∀ b, b < h.objs.size → (h.get? b).isSome = true) :
    ∃ (os : List Obj), os.length = n ∧ h' = ⟨(h.objs.toList ++ os).toArray, h'.life⟩ := by
  obtain ⟨⟨l⟩, lf⟩ := h
  obtain ⟨⟨l'⟩, lf'⟩ := h'
  have hs : l'.length = l.length + n := g.1
  refine ⟨l'.drop l.length, by rw [List.length_drop]; omega, ?_⟩
  have e : l' = l ++ l'.drop l.length := by
    conv => lhs; rw [← List.take_append_drop l.length l']
    congr 1
    refine List.ext_getElem (by rw [List.length_take]; omega) fun i h1 h2 => ?_
    rw [List.getElem_take]
    have q := g.2 i h2
    have r := live i h2
    have raw : ∀ {m : List Obj} {lf : Life} {o : Obj} (b : Nat), Heap.get? ⟨⟨m⟩, lf⟩ b = some o → m[b]? = some o := by
      intro m lf o b e
      unfold Heap.get? at e
      split at e
      · cases e
      · simpa using e
    obtain ⟨o, ho⟩ := Option.isSome_iff_exists.mp r
    have ho' := q.trans ho
    have a := raw _ ho
    have b := raw _ ho'
    rw [List.getElem?_eq_getElem h2] at a
    rw [List.getElem?_eq_getElem (by omega)] at b
    exact Option.some.inj (b.trans a.symm)
  show (⟨⟨l'⟩, lf'⟩ : Heap) = ⟨⟨l ++ l'.drop l.length⟩, lf'⟩
  rw [← e]
end Mine
end

section
open PySem PySem.W PyProof.Rows PySem.Calls
set_option maxRecDepth 100000
set_option Elab.async false
set_option linter.unusedVariables false
noncomputable section
namespace Mine
noncomputable abbrev prg : Program := Challenge.pw_un0048_02
noncomputable def noArgs : Arguments := ⟨[], [], none, [], [], none, []⟩
noncomputable def stAt : List Nat → Option Stmt
  | [i] => prg.main.body[i]?
  | [i, j] => match prg.main.body[i]? with
    | some (.ClassDef _ _ _ b _ _ _ _ _ _ _) => b[j]?
    | _ => none
  | _ => none
noncomputable def fnParams (p : List Nat) : Arguments := match stAt p with
  | some (.FunctionDef _ a _ _ _ _ _ _ _ _) => a
  | _ => noArgs
noncomputable def fnBody (p : List Nat) : List Stmt := match stAt p with
  | some (.FunctionDef _ _ b _ _ _ _ _ _ _) => b
  | _ => []
noncomputable def fnScope (p : List Nat) : Scope := match stAt p with
  | some (.FunctionDef _ _ _ _ _ _ sc _ _ _) => sc
  | _ => prg.main.scope
noncomputable def z0 (P : Params) : Obj := ⟨(.type "dict"), none, (.dict #[⟨(PyData.keyHash P (PySem.Str.ofString "__name__")), (.str (PySem.Str.ofString "__name__") 1), (.str (PySem.Str.ofString "builtins") 160)⟩, ⟨(PyData.keyHash P (PySem.Str.ofString "__doc__")), (.str (PySem.Str.ofString "__doc__") 2), (.builtin "builtins.__doc__:str#opaque")⟩, ⟨(PyData.keyHash P (PySem.Str.ofString "__package__")), (.str (PySem.Str.ofString "__package__") 3), (.builtin "builtins.__package__:str#opaque")⟩, ⟨(PyData.keyHash P (PySem.Str.ofString "__loader__")), (.str (PySem.Str.ofString "__loader__") 4), (.builtin "builtins.__loader__:shared#opaque")⟩, ⟨(PyData.keyHash P (PySem.Str.ofString "__spec__")), (.str (PySem.Str.ofString "__spec__") 5), (.builtin "builtins.__spec__#opaque")⟩, ⟨(PyData.keyHash P (PySem.Str.ofString "__build_class__")), (.str (PySem.Str.ofString "__build_class__") 6), (.builtin "__build_class__")⟩, ⟨(PyData.keyHash P (PySem.Str.ofString "__import__")), (.str (PySem.Str.ofString "__import__") 7), (.builtin "__import__")⟩, ⟨(PyData.keyHash P (PySem.Str.ofString "abs")), (.str (PySem.Str.ofString "abs") 8), (.builtin "abs")⟩, ⟨(PyData.keyHash P (PySem.Str.ofString "all")), (.str (PySem.Str.ofString "all") 9), (.builtin "all")⟩, ⟨(PyData.keyHash P (PySem.Str.ofString "any")), (.str (PySem.Str.ofString "any") 10), (.builtin "any")⟩, ⟨(PyData.keyHash P (PySem.Str.ofString "ascii")), (.str (PySem.Str.ofString "ascii") 11), (.builtin "ascii")⟩, ⟨(PyData.keyHash P (PySem.Str.ofString "bin")), (.str (PySem.Str.ofString "bin") 12), (.builtin "bin")⟩, ⟨(PyData.keyHash P (PySem.Str.ofString "breakpoint")), (.str (PySem.Str.ofString "breakpoint") 13), (.builtin "breakpoint")⟩, ⟨(PyData.keyHash P (PySem.Str.ofString "callable")), (.str (PySem.Str.ofString "callable") 14), (.builtin "callable")⟩, ⟨(PyData.keyHash P (PySem.Str.ofString "chr")), (.str (PySem.Str.ofString "chr") 15), (.builtin "chr")⟩, ⟨(PyData.keyHash P (PySem.Str.ofString "compile")), (.str (PySem.Str.ofString "compile") 16), (.builtin "compile")⟩, ⟨(PyData.keyHash P (PySem.Str.ofString "delattr")), (.str (PySem.Str.ofString "delattr") 17), (.builtin "delattr")⟩, ⟨(PyData.keyHash P (PySem.Str.ofString "dir")), (.str (PySem.Str.ofString "dir") 18), (.builtin "dir")⟩, ⟨(PyData.keyHash P (PySem.Str.ofString "divmod")), (.str (PySem.Str.ofString "divmod") 19), (.builtin "divmod")⟩, ⟨(PyData.keyHash P (PySem.Str.ofString "eval")), (.str (PySem.Str.ofString "eval") 20), (.builtin "eval")⟩, ⟨(PyData.keyHash P (PySem.Str.ofString "exec")), (.str (PySem.Str.ofString "exec") 21), (.builtin "exec")⟩, ⟨(PyData.keyHash P (PySem.Str.ofString "format")), (.str (PySem.Str.ofString "format") 22), (.builtin "format")⟩, ⟨(PyData.keyHash P (PySem.Str.ofString "getattr")), (.str (PySem.Str.ofString "getattr") 23), (.builtin "getattr")⟩, ⟨(PyData.keyHash P (PySem.Str.ofString "globals")), (.str (PySem.Str.ofString "globals") 24), (.builtin "globals")⟩, ⟨(PyData.keyHash P (PySem.Str.ofString "hasattr")), (.str (PySem.Str.ofString "hasattr") 25), (.builtin "hasattr")⟩, ⟨(PyData.keyHash P (PySem.Str.ofString "hash")), (.str (PySem.Str.ofString "hash") 26), (.builtin "hash")⟩, ⟨(PyData.keyHash P (PySem.Str.ofString "hex")), (.str (PySem.Str.ofString "hex") 27), (.builtin "hex")⟩, ⟨(PyData.keyHash P (PySem.Str.ofString "id")), (.str (PySem.Str.ofString "id") 28), (.builtin "id")⟩, ⟨(PyData.keyHash P (PySem.Str.ofString "input")), (.str (PySem.Str.ofString "input") 29), (.builtin "input")⟩, ⟨(PyData.keyHash P (PySem.Str.ofString "isinstance")), (.str (PySem.Str.ofString "isinstance") 30), (.builtin "isinstance")⟩, ⟨(PyData.keyHash P (PySem.Str.ofString "issubclass")), (.str (PySem.Str.ofString "issubclass") 31), (.builtin "issubclass")⟩, ⟨(PyData.keyHash P (PySem.Str.ofString "iter")), (.str (PySem.Str.ofString "iter") 32), (.builtin "iter")⟩, ⟨(PyData.keyHash P (PySem.Str.ofString "aiter")), (.str (PySem.Str.ofString "aiter") 33), (.builtin "aiter")⟩, ⟨(PyData.keyHash P (PySem.Str.ofString "len")), (.str (PySem.Str.ofString "len") 34), (.builtin "len")⟩, ⟨(PyData.keyHash P (PySem.Str.ofString "locals")), (.str (PySem.Str.ofString "locals") 35), (.builtin "locals")⟩, ⟨(PyData.keyHash P (PySem.Str.ofString "max")), (.str (PySem.Str.ofString "max") 36), (.builtin "max")⟩, ⟨(PyData.keyHash P (PySem.Str.ofString "min")), (.str (PySem.Str.ofString "min") 37), (.builtin "min")⟩, ⟨(PyData.keyHash P (PySem.Str.ofString "next")), (.str (PySem.Str.ofString "next") 38), (.builtin "next")⟩, ⟨(PyData.keyHash P (PySem.Str.ofString "anext")), (.str (PySem.Str.ofString "anext") 39), (.builtin "anext")⟩, ⟨(PyData.keyHash P (PySem.Str.ofString "oct")), (.str (PySem.Str.ofString "oct") 40), (.builtin "oct")⟩, ⟨(PyData.keyHash P (PySem.Str.ofString "ord")), (.str (PySem.Str.ofString "ord") 41), (.builtin "ord")⟩, ⟨(PyData.keyHash P (PySem.Str.ofString "pow")), (.str (PySem.Str.ofString "pow") 42), (.builtin "pow")⟩, ⟨(PyData.keyHash P (PySem.Str.ofString "print")), (.str (PySem.Str.ofString "print") 43), (.builtin "print")⟩, ⟨(PyData.keyHash P (PySem.Str.ofString "repr")), (.str (PySem.Str.ofString "repr") 44), (.builtin "repr")⟩, ⟨(PyData.keyHash P (PySem.Str.ofString "round")), (.str (PySem.Str.ofString "round") 45), (.builtin "round")⟩, ⟨(PyData.keyHash P (PySem.Str.ofString "setattr")), (.str (PySem.Str.ofString "setattr") 46), (.builtin "setattr")⟩, ⟨(PyData.keyHash P (PySem.Str.ofString "sorted")), (.str (PySem.Str.ofString "sorted") 47), (.builtin "sorted")⟩, ⟨(PyData.keyHash P (PySem.Str.ofString "sum")), (.str (PySem.Str.ofString "sum") 48), (.builtin "sum")⟩, ⟨(PyData.keyHash P (PySem.Str.ofString "vars")), (.str (PySem.Str.ofString "vars") 49), (.builtin "vars")⟩, ⟨(PyData.keyHash P (PySem.Str.ofString "None")), (.str (PySem.Str.ofString "None") 50), .none⟩, ⟨(PyData.keyHash P (PySem.Str.ofString "Ellipsis")), (.str (PySem.Str.ofString "Ellipsis") 51), .ellipsis⟩, ⟨(PyData.keyHash P (PySem.Str.ofString "NotImplemented")), (.str (PySem.Str.ofString "NotImplemented") 52), .notImplemented⟩, ⟨(PyData.keyHash P (PySem.Str.ofString "False")), (.str (PySem.Str.ofString "False") 53), (.bool false)⟩, ⟨(PyData.keyHash P (PySem.Str.ofString "True")), (.str (PySem.Str.ofString "True") 54), (.bool true)⟩, ⟨(PyData.keyHash P (PySem.Str.ofString "bool")), (.str (PySem.Str.ofString "bool") 55), (.type "bool")⟩, ⟨(PyData.keyHash P (PySem.Str.ofString "memoryview")), (.str (PySem.Str.ofString "memoryview") 56), (.type "memoryview")⟩, ⟨(PyData.keyHash P (PySem.Str.ofString "bytearray")), (.str (PySem.Str.ofString "bytearray") 57), (.type "bytearray")⟩, ⟨(PyData.keyHash P (PySem.Str.ofString "bytes")), (.str (PySem.Str.ofString "bytes") 58), (.type "bytes")⟩, ⟨(PyData.keyHash P (PySem.Str.ofString "classmethod")), (.str (PySem.Str.ofString "classmethod") 59), (.type "classmethod")⟩, ⟨(PyData.keyHash P (PySem.Str.ofString "complex")), (.str (PySem.Str.ofString "complex") 60), (.type "complex")⟩, ⟨(PyData.keyHash P (PySem.Str.ofString "dict")), (.str (PySem.Str.ofString "dict") 61), (.type "dict")⟩, ⟨(PyData.keyHash P (PySem.Str.ofString "enumerate")), (.str (PySem.Str.ofString "enumerate") 62), (.type "enumerate")⟩, ⟨(PyData.keyHash P (PySem.Str.ofString "filter")), (.str (PySem.Str.ofString "filter") 63), (.type "filter")⟩, ⟨(PyData.keyHash P (PySem.Str.ofString "float")), (.str (PySem.Str.ofString "float") 64), (.type "float")⟩, ⟨(PyData.keyHash P (PySem.Str.ofString "frozenset")), (.str (PySem.Str.ofString "frozenset") 65), (.type "frozenset")⟩, ⟨(PyData.keyHash P (PySem.Str.ofString "property")), (.str (PySem.Str.ofString "property") 66), (.type "property")⟩, ⟨(PyData.keyHash P (PySem.Str.ofString "int")), (.str (PySem.Str.ofString "int") 67), (.type "int")⟩, ⟨(PyData.keyHash P (PySem.Str.ofString "list")), (.str (PySem.Str.ofString "list") 68), (.type "list")⟩, ⟨(PyData.keyHash P (PySem.Str.ofString "map")), (.str (PySem.Str.ofString "map") 69), (.type "map")⟩, ⟨(PyData.keyHash P (PySem.Str.ofString "object")), (.str (PySem.Str.ofString "object") 70), (.type "object")⟩, ⟨(PyData.keyHash P (PySem.Str.ofString "range")), (.str (PySem.Str.ofString "range") 71), (.type "range")⟩, ⟨(PyData.keyHash P (PySem.Str.ofString "reversed")), (.str (PySem.Str.ofString "reversed") 72), (.type "reversed")⟩, ⟨(PyData.keyHash P (PySem.Str.ofString "set")), (.str (PySem.Str.ofString "set") 73), (.type "set")⟩, ⟨(PyData.keyHash P (PySem.Str.ofString "slice")), (.str (PySem.Str.ofString "slice") 74), (.type "slice")⟩, ⟨(PyData.keyHash P (PySem.Str.ofString "staticmethod")), (.str (PySem.Str.ofString "staticmethod") 75), (.type "staticmethod")⟩, ⟨(PyData.keyHash P (PySem.Str.ofString "str")), (.str (PySem.Str.ofString "str") 76), (.type "str")⟩, ⟨(PyData.keyHash P (PySem.Str.ofString "super")), (.str (PySem.Str.ofString "super") 77), (.type "super")⟩, ⟨(PyData.keyHash P (PySem.Str.ofString "tuple")), (.str (PySem.Str.ofString "tuple") 78), (.type "tuple")⟩, ⟨(PyData.keyHash P (PySem.Str.ofString "type")), (.str (PySem.Str.ofString "type") 79), (.type "type")⟩, ⟨(PyData.keyHash P (PySem.Str.ofString "zip")), (.str (PySem.Str.ofString "zip") 80), (.type "zip")⟩, ⟨(PyData.keyHash P (PySem.Str.ofString "__debug__")), (.str (PySem.Str.ofString "__debug__") 81), (.bool true)⟩, ⟨(PyData.keyHash P (PySem.Str.ofString "BaseException")), (.str (PySem.Str.ofString "BaseException") 82), (.type "BaseException")⟩, ⟨(PyData.keyHash P (PySem.Str.ofString "BaseExceptionGroup")), (.str (PySem.Str.ofString "BaseExceptionGroup") 83), (.type "BaseExceptionGroup")⟩, ⟨(PyData.keyHash P (PySem.Str.ofString "Exception")), (.str (PySem.Str.ofString "Exception") 84), (.type "Exception")⟩, ⟨(PyData.keyHash P (PySem.Str.ofString "GeneratorExit")), (.str (PySem.Str.ofString "GeneratorExit") 85), (.type "GeneratorExit")⟩, ⟨(PyData.keyHash P (PySem.Str.ofString "KeyboardInterrupt")), (.str (PySem.Str.ofString "KeyboardInterrupt") 86), (.type "KeyboardInterrupt")⟩, ⟨(PyData.keyHash P (PySem.Str.ofString "SystemExit")), (.str (PySem.Str.ofString "SystemExit") 87), (.type "SystemExit")⟩, ⟨(PyData.keyHash P (PySem.Str.ofString "ArithmeticError")), (.str (PySem.Str.ofString "ArithmeticError") 88), (.type "ArithmeticError")⟩, ⟨(PyData.keyHash P (PySem.Str.ofString "AssertionError")), (.str (PySem.Str.ofString "AssertionError") 89), (.type "AssertionError")⟩, ⟨(PyData.keyHash P (PySem.Str.ofString "AttributeError")), (.str (PySem.Str.ofString "AttributeError") 90), (.type "AttributeError")⟩, ⟨(PyData.keyHash P (PySem.Str.ofString "BufferError")), (.str (PySem.Str.ofString "BufferError") 91), (.type "BufferError")⟩, ⟨(PyData.keyHash P (PySem.Str.ofString "EOFError")), (.str (PySem.Str.ofString "EOFError") 92), (.type "EOFError")⟩, ⟨(PyData.keyHash P (PySem.Str.ofString "ImportError")), (.str (PySem.Str.ofString "ImportError") 93), (.type "ImportError")⟩, ⟨(PyData.keyHash P (PySem.Str.ofString "LookupError")), (.str (PySem.Str.ofString "LookupError") 94), (.type "LookupError")⟩, ⟨(PyData.keyHash P (PySem.Str.ofString "MemoryError")), (.str (PySem.Str.ofString "MemoryError") 95), (.type "MemoryError")⟩, ⟨(PyData.keyHash P (PySem.Str.ofString "NameError")), (.str (PySem.Str.ofString "NameError") 96), (.type "NameError")⟩, ⟨(PyData.keyHash P (PySem.Str.ofString "OSError")), (.str (PySem.Str.ofString "OSError") 97), (.type "OSError")⟩, ⟨(PyData.keyHash P (PySem.Str.ofString "ReferenceError")), (.str (PySem.Str.ofString "ReferenceError") 98), (.type "ReferenceError")⟩, ⟨(PyData.keyHash P (PySem.Str.ofString "RuntimeError")), (.str (PySem.Str.ofString "RuntimeError") 99), (.type "RuntimeError")⟩, ⟨(PyData.keyHash P (PySem.Str.ofString "StopAsyncIteration")), (.str (PySem.Str.ofString "StopAsyncIteration") 100), (.type "StopAsyncIteration")⟩, ⟨(PyData.keyHash P (PySem.Str.ofString "StopIteration")), (.str (PySem.Str.ofString "StopIteration") 101), (.type "StopIteration")⟩, ⟨(PyData.keyHash P (PySem.Str.ofString "SyntaxError")), (.str (PySem.Str.ofString "SyntaxError") 102), (.type "SyntaxError")⟩, ⟨(PyData.keyHash P (PySem.Str.ofString "SystemError")), (.str (PySem.Str.ofString "SystemError") 103), (.type "SystemError")⟩, ⟨(PyData.keyHash P (PySem.Str.ofString "TypeError")), (.str (PySem.Str.ofString "TypeError") 104), (.type "TypeError")⟩, ⟨(PyData.keyHash P (PySem.Str.ofString "ValueError")), (.str (PySem.Str.ofString "ValueError") 105), (.type "ValueError")⟩, ⟨(PyData.keyHash P (PySem.Str.ofString "Warning")), (.str (PySem.Str.ofString "Warning") 106), (.type "Warning")⟩, ⟨(PyData.keyHash P (PySem.Str.ofString "FloatingPointError")), (.str (PySem.Str.ofString "FloatingPointError") 107), (.type "FloatingPointError")⟩, ⟨(PyData.keyHash P (PySem.Str.ofString "OverflowError")), (.str (PySem.Str.ofString "OverflowError") 108), (.type "OverflowError")⟩, ⟨(PyData.keyHash P (PySem.Str.ofString "ZeroDivisionError")), (.str (PySem.Str.ofString "ZeroDivisionError") 109), (.type "ZeroDivisionError")⟩, ⟨(PyData.keyHash P (PySem.Str.ofString "BytesWarning")), (.str (PySem.Str.ofString "BytesWarning") 110), (.type "BytesWarning")⟩, ⟨(PyData.keyHash P (PySem.Str.ofString "DeprecationWarning")), (.str (PySem.Str.ofString "DeprecationWarning") 111), (.type "DeprecationWarning")⟩, ⟨(PyData.keyHash P (PySem.Str.ofString "EncodingWarning")), (.str (PySem.Str.ofString "EncodingWarning") 112), (.type "EncodingWarning")⟩, ⟨(PyData.keyHash P (PySem.Str.ofString "FutureWarning")), (.str (PySem.Str.ofString "FutureWarning") 113), (.type "FutureWarning")⟩, ⟨(PyData.keyHash P (PySem.Str.ofString "ImportWarning")), (.str (PySem.Str.ofString "ImportWarning") 114), (.type "ImportWarning")⟩, ⟨(PyData.keyHash P (PySem.Str.ofString "PendingDeprecationWarning")), (.str (PySem.Str.ofString "PendingDeprecationWarning") 115), (.type "PendingDeprecationWarning")⟩, ⟨(PyData.keyHash P (PySem.Str.ofString "ResourceWarning")), (.str (PySem.Str.ofString "ResourceWarning") 116), (.type "ResourceWarning")⟩, ⟨(PyData.keyHash P (PySem.Str.ofString "RuntimeWarning")), (.str (PySem.Str.ofString "RuntimeWarning") 117), (.type "RuntimeWarning")⟩, ⟨(PyData.keyHash P (PySem.Str.ofString "SyntaxWarning")), (.str (PySem.Str.ofString "SyntaxWarning") 118), (.type "SyntaxWarning")⟩, ⟨(PyData.keyHash P (PySem.Str.ofString "UnicodeWarning")), (.str (PySem.Str.ofString "UnicodeWarning") 119), (.type "UnicodeWarning")⟩, ⟨(PyData.keyHash P (PySem.Str.ofString "UserWarning")), (.str (PySem.Str.ofString "UserWarning") 120), (.type "UserWarning")⟩, ⟨(PyData.keyHash P (PySem.Str.ofString "BlockingIOError")), (.str (PySem.Str.ofString "BlockingIOError") 121), (.type "BlockingIOError")⟩, ⟨(PyData.keyHash P (PySem.Str.ofString "ChildProcessError")), (.str (PySem.Str.ofString "ChildProcessError") 122), (.type "ChildProcessError")⟩, ⟨(PyData.keyHash P (PySem.Str.ofString "ConnectionError")), (.str (PySem.Str.ofString "ConnectionError") 123), (.type "ConnectionError")⟩, ⟨(PyData.keyHash P (PySem.Str.ofString "FileExistsError")), (.str (PySem.Str.ofString "FileExistsError") 124), (.type "FileExistsError")⟩, ⟨(PyData.keyHash P (PySem.Str.ofString "FileNotFoundError")), (.str (PySem.Str.ofString "FileNotFoundError") 125), (.type "FileNotFoundError")⟩, ⟨(PyData.keyHash P (PySem.Str.ofString "InterruptedError")), (.str (PySem.Str.ofString "InterruptedError") 126), (.type "InterruptedError")⟩, ⟨(PyData.keyHash P (PySem.Str.ofString "IsADirectoryError")), (.str (PySem.Str.ofString "IsADirectoryError") 127), (.type "IsADirectoryError")⟩, ⟨(PyData.keyHash P (PySem.Str.ofString "NotADirectoryError")), (.str (PySem.Str.ofString "NotADirectoryError") 128), (.type "NotADirectoryError")⟩, ⟨(PyData.keyHash P (PySem.Str.ofString "PermissionError")), (.str (PySem.Str.ofString "PermissionError") 129), (.type "PermissionError")⟩, ⟨(PyData.keyHash P (PySem.Str.ofString "ProcessLookupError")), (.str (PySem.Str.ofString "ProcessLookupError") 130), (.type "ProcessLookupError")⟩, ⟨(PyData.keyHash P (PySem.Str.ofString "TimeoutError")), (.str (PySem.Str.ofString "TimeoutError") 131), (.type "TimeoutError")⟩, ⟨(PyData.keyHash P (PySem.Str.ofString "IndentationError")), (.str (PySem.Str.ofString "IndentationError") 132), (.type "IndentationError")⟩, ⟨(PyData.keyHash P (PySem.Str.ofString "_IncompleteInputError")), (.str (PySem.Str.ofString "_IncompleteInputError") 133), (.type "_IncompleteInputError")⟩, ⟨(PyData.keyHash P (PySem.Str.ofString "IndexError")), (.str (PySem.Str.ofString "IndexError") 134), (.type "IndexError")⟩, ⟨(PyData.keyHash P (PySem.Str.ofString "KeyError")), (.str (PySem.Str.ofString "KeyError") 135), (.type "KeyError")⟩, ⟨(PyData.keyHash P (PySem.Str.ofString "ModuleNotFoundError")), (.str (PySem.Str.ofString "ModuleNotFoundError") 136), (.type "ModuleNotFoundError")⟩, ⟨(PyData.keyHash P (PySem.Str.ofString "NotImplementedError")), (.str (PySem.Str.ofString "NotImplementedError") 137), (.type "NotImplementedError")⟩, ⟨(PyData.keyHash P (PySem.Str.ofString "PythonFinalizationError")), (.str (PySem.Str.ofString "PythonFinalizationError") 138), (.type "PythonFinalizationError")⟩, ⟨(PyData.keyHash P (PySem.Str.ofString "RecursionError")), (.str (PySem.Str.ofString "RecursionError") 139), (.type "RecursionError")⟩, ⟨(PyData.keyHash P (PySem.Str.ofString "UnboundLocalError")), (.str (PySem.Str.ofString "UnboundLocalError") 140), (.type "UnboundLocalError")⟩, ⟨(PyData.keyHash P (PySem.Str.ofString "UnicodeError")), (.str (PySem.Str.ofString "UnicodeError") 141), (.type "UnicodeError")⟩, ⟨(PyData.keyHash P (PySem.Str.ofString "BrokenPipeError")), (.str (PySem.Str.ofString "BrokenPipeError") 142), (.type "BrokenPipeError")⟩, ⟨(PyData.keyHash P (PySem.Str.ofString "ConnectionAbortedError")), (.str (PySem.Str.ofString "ConnectionAbortedError") 143), (.type "ConnectionAbortedError")⟩, ⟨(PyData.keyHash P (PySem.Str.ofString "ConnectionRefusedError")), (.str (PySem.Str.ofString "ConnectionRefusedError") 144), (.type "ConnectionRefusedError")⟩, ⟨(PyData.keyHash P (PySem.Str.ofString "ConnectionResetError")), (.str (PySem.Str.ofString "ConnectionResetError") 145), (.type "ConnectionResetError")⟩, ⟨(PyData.keyHash P (PySem.Str.ofString "TabError")), (.str (PySem.Str.ofString "TabError") 146), (.type "TabError")⟩, ⟨(PyData.keyHash P (PySem.Str.ofString "UnicodeDecodeError")), (.str (PySem.Str.ofString "UnicodeDecodeError") 147), (.type "UnicodeDecodeError")⟩, ⟨(PyData.keyHash P (PySem.Str.ofString "UnicodeEncodeError")), (.str (PySem.Str.ofString "UnicodeEncodeError") 148), (.type "UnicodeEncodeError")⟩, ⟨(PyData.keyHash P (PySem.Str.ofString "UnicodeTranslateError")), (.str (PySem.Str.ofString "UnicodeTranslateError") 149), (.type "UnicodeTranslateError")⟩, ⟨(PyData.keyHash P (PySem.Str.ofString "ExceptionGroup")), (.str (PySem.Str.ofString "ExceptionGroup") 150), (.type "ExceptionGroup")⟩, ⟨(PyData.keyHash P (PySem.Str.ofString "EnvironmentError")), (.str (PySem.Str.ofString "EnvironmentError") 151), (.type "OSError")⟩, ⟨(PyData.keyHash P (PySem.Str.ofString "IOError")), (.str (PySem.Str.ofString "IOError") 152), (.type "OSError")⟩, ⟨(PyData.keyHash P (PySem.Str.ofString "open")), (.str (PySem.Str.ofString "open") 153), (.builtin "open")⟩, ⟨(PyData.keyHash P (PySem.Str.ofString "quit")), (.str (PySem.Str.ofString "quit") 154), (.builtin "builtins.quit#opaque")⟩, ⟨(PyData.keyHash P (PySem.Str.ofString "exit")), (.str (PySem.Str.ofString "exit") 155), (.builtin "builtins.exit#opaque")⟩, ⟨(PyData.keyHash P (PySem.Str.ofString "copyright")), (.str (PySem.Str.ofString "copyright") 156), (.builtin "builtins.copyright#opaque")⟩, ⟨(PyData.keyHash P (PySem.Str.ofString "credits")), (.str (PySem.Str.ofString "credits") 157), (.builtin "builtins.credits#opaque")⟩, ⟨(PyData.keyHash P (PySem.Str.ofString "license")), (.str (PySem.Str.ofString "license") 158), (.builtin "builtins.license#opaque")⟩, ⟨(PyData.keyHash P (PySem.Str.ofString "help")), (.str (PySem.Str.ofString "help") 159), (.builtin "builtins.help#opaque")⟩] 159), #[]⟩
noncomputable def z1 (P : Params) : Obj := ⟨(.type "dict"), none, (.dict #[⟨(PyData.keyHash P (PySem.Str.ofString "builtins")), (.str (PySem.Str.ofString "builtins") 162), (.ref 4)⟩, ⟨(PyData.keyHash P (PySem.Str.ofString "__main__")), (.str (PySem.Str.ofString "__main__") 163), (.ref 5)⟩, ⟨(PyData.keyHash P (PySem.Str.ofString "_sre")), (.str (PySem.Str.ofString "_sre") 244), (.ref 12)⟩] 3), #[]⟩
noncomputable def z2 (P : Params) : Obj := ⟨.none, none, (.dict #[⟨(PyData.keyHash P (PySem.Str.ofString "\x69mport.loaded._sre")), (.str (PySem.Str.ofString "\x69mport.loaded._sre") 183), (.bool true)⟩, ⟨(PyData.keyHash P (PySem.Str.ofString "class._frozen_importlib.BuiltinImporter")), (.str (PySem.Str.ofString "class._frozen_importlib.BuiltinImporter") 185), (.ref 14)⟩, ⟨(PyData.keyHash P (PySem.Str.ofString "watched.\x69mport")), (.str (PySem.Str.ofString "watched.\x69mport") 206), (.ref 18)⟩, ⟨(PyData.keyHash P (PySem.Str.ofString "class._frozen_importlib.ModuleSpec")), (.str (PySem.Str.ofString "class._frozen_importlib.ModuleSpec") 216), (.ref 22)⟩, ⟨(PyData.keyHash P (PySem.Str.ofString "sys.modules.booked-epoch")), (.str (PySem.Str.ofString "sys.modules.booked-epoch") 245), (.int 3 0)⟩, ⟨(PyData.keyHash P (PySem.Str.ofString "\x69mport.later-laid._sre")), (.str (PySem.Str.ofString "\x69mport.later-laid._sre") 270), (.bool true)⟩, ⟨(PyData.keyHash P (PySem.Str.ofString "watched.library")), (.str (PySem.Str.ofString "watched.library") 272), (.ref 27)⟩, ⟨(PyData.keyHash P (PySem.Str.ofString "watched.library-objects")), (.str (PySem.Str.ofString "watched.library-objects") 0), (.str (PySem.Str.ofString "\x0c") 0)⟩, ⟨(PyData.keyHash P (PySem.Str.ofString "watched.library-deep._sre")), (.str (PySem.Str.ofString "watched.library-deep._sre") 273), (.str (PySem.Str.ofString "\x04\x00\x00\x0b\x04\x00\x00\x0b\x04\x00\x00\x03\x04\x00\x00\x0b\x08\x04dict\x02") 0)⟩] 9), #[]⟩
noncomputable def z3 (P : Params) : Obj := ⟨(.type "dict"), none, (.dict #[⟨(PyData.keyHash P (PySem.Str.ofString "__name__")), (.str (PySem.Str.ofString "__name__") 165), (.str (PySem.Str.ofString "__main__") 164)⟩, ⟨(PyData.keyHash P (PySem.Str.ofString "__doc__")), (.str (PySem.Str.ofString "__doc__") 166), .none⟩, ⟨(PyData.keyHash P (PySem.Str.ofString "__package__")), (.str (PySem.Str.ofString "__package__") 167), .none⟩, ⟨(PyData.keyHash P (PySem.Str.ofString "__loader__")), (.str (PySem.Str.ofString "__loader__") 168), (.builtin "__main__.__loader__#opaque")⟩, ⟨(PyData.keyHash P (PySem.Str.ofString "__spec__")), (.str (PySem.Str.ofString "__spec__") 169), .none⟩, ⟨(PyData.keyHash P (PySem.Str.ofString "__annotations__")), (.str (PySem.Str.ofString "__annotations__") 170), (.ref 6)⟩, ⟨(PyData.keyHash P (PySem.Str.ofString "__builtins__")), (.str (PySem.Str.ofString "__builtins__") 171), (.ref 4)⟩, ⟨(PyData.keyHash P (PySem.Str.ofString "__file__")), (.str (PySem.Str.ofString "__file__") 173), (.str (PySem.Str.ofString "/claim/cut.py") 172)⟩, ⟨(PyData.keyHash P (PySem.Str.ofString "__cached__")), (.str (PySem.Str.ofString "__cached__") 174), .none⟩, ⟨(PyData.keyHash P (PySem.Str.ofString "_sre")), (.str (PySem.Str.ofString "_sre") 275), (.ref 12)⟩] 10), #[]⟩
noncomputable def z4 (P : Params) : Obj := ⟨(.type "module"), (some 0), .plain, #[]⟩
noncomputable def z5 (P : Params) : Obj := ⟨(.type "module"), (some 3), .plain, #[]⟩
noncomputable def z6 (P : Params) : Obj := ⟨(.type "dict"), none, (.dict #[] 0), #[]⟩
noncomputable def z7 (P : Params) : Obj := ⟨(.type "tuple"), none, (.seq #[] 0), #[]⟩
noncomputable def z8 (P : Params) : Obj := ⟨.none, none, (.fields #[]), #[]⟩
noncomputable def z9 (P : Params) : Obj := ⟨(.type "code"), none, (.fields #[(.str (PySem.Str.ofString "<module>") 176), (.str (PySem.Str.ofString "<module>") 177), (.str (PySem.Str.ofString "/claim/cut.py") 178), (.int 1 0), (.int 0 0), (.int 0 0), (.int 0 0), (.int 0 0), (.ref 7), (.bool false), (.int 175 0), (.ref 8), .none, .none, .none, .none, (.int 179 0), (.int 1 0), (.str (PySem.Str.ofString "/claim/cut.py") 180)]), #[]⟩
noncomputable def z10 (P : Params) : Obj := ⟨(.type "frame"), none, .plain, #[(some (.ref 9)), (some (.ref 3)), (some (.ref 3)), none, (some (.str (PySem.Str.ofString "__main__") 164)), none, (some (.ref 0))]⟩
noncomputable def z11 (P : Params) : Obj := ⟨(.type "dict"), none, (.dict #[⟨(PyData.keyHash P (PySem.Str.ofString "__name__")), (.str (PySem.Str.ofString "__name__") 247), (.str (PySem.Str.ofString "_sre") 246)⟩, ⟨(PyData.keyHash P (PySem.Str.ofString "__doc__")), (.str (PySem.Str.ofString "__doc__") 248), .none⟩, ⟨(PyData.keyHash P (PySem.Str.ofString "__package__")), (.str (PySem.Str.ofString "__package__") 250), (.str (PySem.Str.ofString "") 249)⟩, ⟨(PyData.keyHash P (PySem.Str.ofString "__loader__")), (.str (PySem.Str.ofString "__loader__") 251), (.builtin "off-the-table:_sre.__loader__:shared#opaque")⟩, ⟨(PyData.keyHash P (PySem.Str.ofString "__spec__")), (.str (PySem.Str.ofString "__spec__") 252), (.builtin "off-the-table:_sre.__spec__:shared#opaque")⟩, ⟨(PyData.keyHash P (PySem.Str.ofString "compile")), (.str (PySem.Str.ofString "compile") 253), (.builtin "_sre.compile")⟩, ⟨(PyData.keyHash P (PySem.Str.ofString "template")), (.str (PySem.Str.ofString "template") 254), (.builtin "off-the-table:_sre.template:shared#opaque")⟩, ⟨(PyData.keyHash P (PySem.Str.ofString "getcodesize")), (.str (PySem.Str.ofString "getcodesize") 255), (.builtin "off-the-table:_sre.getcodesize:shared#opaque")⟩, ⟨(PyData.keyHash P (PySem.Str.ofString "ascii_iscased")), (.str (PySem.Str.ofString "ascii_iscased") 256), (.builtin "off-the-table:_sre.ascii_iscased:shared#opaque")⟩, ⟨(PyData.keyHash P (PySem.Str.ofString "unicode_iscased")), (.str (PySem.Str.ofString "unicode_iscased") 257), (.builtin "off-the-table:_sre.unicode_iscased:shared#opaque")⟩, ⟨(PyData.keyHash P (PySem.Str.ofString "ascii_tolower")), (.str (PySem.Str.ofString "ascii_tolower") 258), (.builtin "off-the-table:_sre.ascii_tolower:shared#opaque")⟩, ⟨(PyData.keyHash P (PySem.Str.ofString "unicode_tolower")), (.str (PySem.Str.ofString "unicode_tolower") 259), (.builtin "off-the-table:_sre.unicode_tolower:shared#opaque")⟩, ⟨(PyData.keyHash P (PySem.Str.ofString "MAGIC")), (.str (PySem.Str.ofString "MAGIC") 261), (.int 20230612 260)⟩, ⟨(PyData.keyHash P (PySem.Str.ofString "CODESIZE")), (.str (PySem.Str.ofString "CODESIZE") 263), (.int 4 262)⟩, ⟨(PyData.keyHash P (PySem.Str.ofString "MAXREPEAT")), (.str (PySem.Str.ofString "MAXREPEAT") 265), (.int 4294967295 264)⟩, ⟨(PyData.keyHash P (PySem.Str.ofString "MAXGROUPS")), (.str (PySem.Str.ofString "MAXGROUPS") 267), (.int 1073741823 266)⟩, ⟨(PyData.keyHash P (PySem.Str.ofString "copyright")), (.str (PySem.Str.ofString "copyright") 269), (.str (PySem.Str.ofString " SRE 2.2.2 Copyright (c) 1997-2002 by Secret Labs AB ") 268)⟩] 17), #[]⟩
noncomputable def z12 (P : Params) : Obj := ⟨(.type "module"), (some 11), .plain, #[]⟩
noncomputable def z13 (P : Params) : Obj := ⟨(.type "dict"), none, (.dict #[⟨(PyData.keyHash P (PySem.Str.ofString "__module__")), (.str (PySem.Str.ofString "__module__") 189), (.str (PySem.Str.ofString "_frozen_importlib") 186)⟩, ⟨(PyData.keyHash P (PySem.Str.ofString "__firstlineno__")), (.str (PySem.Str.ofString "__firstlineno__") 190), (.int 971 187)⟩, ⟨(PyData.keyHash P (PySem.Str.ofString "__doc__")), (.str (PySem.Str.ofString "__doc__") 191), (.builtin "_frozen_importlib.BuiltinImporter.__doc__:str#opaque")⟩, ⟨(PyData.keyHash P (PySem.Str.ofString "_ORIGIN")), (.str (PySem.Str.ofString "_ORIGIN") 192), (.str (PySem.Str.ofString "built-in") 188)⟩, ⟨(PyData.keyHash P (PySem.Str.ofString "find_spec")), (.str (PySem.Str.ofString "find_spec") 193), (.builtin "_frozen_importlib.BuiltinImporter.find_spec#opaque")⟩, ⟨(PyData.keyHash P (PySem.Str.ofString "create_module")), (.str (PySem.Str.ofString "create_module") 194), (.builtin "_frozen_importlib.BuiltinImporter.create_module#opaque")⟩, ⟨(PyData.keyHash P (PySem.Str.ofString "exec_module")), (.str (PySem.Str.ofString "exec_module") 195), (.builtin "_frozen_importlib.BuiltinImporter.exec_module#opaque")⟩, ⟨(PyData.keyHash P (PySem.Str.ofString "get_code")), (.str (PySem.Str.ofString "get_code") 196), (.builtin "_frozen_importlib.BuiltinImporter.get_code#opaque")⟩, ⟨(PyData.keyHash P (PySem.Str.ofString "get_source")), (.str (PySem.Str.ofString "get_source") 197), (.builtin "_frozen_importlib.BuiltinImporter.get_source#opaque")⟩, ⟨(PyData.keyHash P (PySem.Str.ofString "is_package")), (.str (PySem.Str.ofString "is_package") 198), (.builtin "_frozen_importlib.BuiltinImporter.is_package#opaque")⟩, ⟨(PyData.keyHash P (PySem.Str.ofString "load_module")), (.str (PySem.Str.ofString "load_module") 199), (.builtin "_frozen_importlib.BuiltinImporter.load_module#opaque")⟩, ⟨(PyData.keyHash P (PySem.Str.ofString "__static_attributes__")), (.str (PySem.Str.ofString "__static_attributes__") 200), (.ref 15)⟩, ⟨(PyData.keyHash P (PySem.Str.ofString "__dict__")), (.str (PySem.Str.ofString "__dict__") 202), (.ref 16)⟩, ⟨(PyData.keyHash P (PySem.Str.ofString "__weakref__")), (.str (PySem.Str.ofString "__weakref__") 204), (.ref 17)⟩] 14), #[]⟩
noncomputable def z14 (P : Params) : Obj := ⟨(.type "type"), none, (.cls { name := (PySem.Str.ofString "BuiltinImporter"), bases := [(.type "object")], mro := [(.ref 14), (.type "object")], ns := 13, qualname := (PySem.Str.ofString "BuiltinImporter"), hasDict := true, slotNames := [], subclasses := [], abstract := false, collection := none, hasDel := false }), #[]⟩
noncomputable def z15 (P : Params) : Obj := ⟨(.type "tuple"), none, (.seq #[] 0), #[]⟩
noncomputable def z16 (P : Params) : Obj := ⟨(.type "getset_descriptor"), none, (.fields #[(.str (PySem.Str.ofString "__dict__") 201), (.ref 14), (.builtin "function.__dict__"), (.builtin "function.__dict__#set")]), #[]⟩
noncomputable def z17 (P : Params) : Obj := ⟨(.type "getset_descriptor"), none, (.fields #[(.str (PySem.Str.ofString "__weakref__") 203), (.ref 14), (.builtin "ExceptionGroup.__weakref__"), .none]), #[]⟩
noncomputable def z18 (P : Params) : Obj := ⟨.none, none, (.seq #[(.int 13 0), (.str (PySem.Str.ofString "\x06½\n__module__\x06º\x11_frozen_importlib\x06¾\x0f__firstlineno__\x04»\x00ϋ\x06¿\x07__doc__\t4_frozen_importlib.BuiltinImporter.__doc__:str#opaque\x06À\x07_ORIGIN\x06¼\x08built-in\x06Á\tfind_spec\t2_frozen_importlib.BuiltinImporter.find_spec#opaque\x06Â\rcreate_module\t6_frozen_importlib.BuiltinImporter.create_module#opaque\x06Ã\x0bexec_module\t4_frozen_importlib.BuiltinImporter.exec_module#opaque\x06Ä\x08get_code\t1_frozen_importlib.BuiltinImporter.get_code#opaque\x06Å\nget_source\t3_frozen_importlib.BuiltinImporter.get_source#opaque\x06Æ\nis_package\t3_frozen_importlib.BuiltinImporter.is_package#opaque\x06Ç\x0bload_module\t4_frozen_importlib.BuiltinImporter.load_module#opaque\x06È\x15__static_attributes__\x04\x00\x00\x0f\x06Ê\x08__dict__\x04\x00\x00\x10\x06Ì\x0b__weakref__\x04\x00\x00\x11") 0), (.bool true), (.bool true), (.str (PySem.Str.ofString "") 205), (.int 21 0), (.str (PySem.Str.ofString "\x06ã\n__module__\x06Ù\x11_frozen_importlib\x06ä\x0f__firstlineno__\x04Ú\x00Ȳ\x06å\x07__doc__\t/_frozen_importlib.ModuleSpec.__doc__:str#opaque\x06æ\x08__init__\t,_frozen_importlib.ModuleSpec.__init__#opaque\x06ç\x08__repr__\t,_frozen_importlib.ModuleSpec.__repr__#opaque\x06è\x06__eq__\t*_frozen_importlib.ModuleSpec.__eq__#opaque\x06é\x06cached\t*_frozen_importlib.ModuleSpec.cached#opaque\x06ê\x06parent\t*_frozen_importlib.ModuleSpec.parent#opaque\x06ë\x0chas_location\t0_frozen_importlib.ModuleSpec.has_location#opaque\x06ì\x15__static_attributes__\x04\x00\x00\x17\x06î\x08__dict__\x04\x00\x00\x18\x06ð\x0b__weakref__\x04\x00\x00\x19\x06ñ\x08__hash__\x00") 0), (.bool true), (.bool true), (.str (PySem.Str.ofString "") 242)] 1), #[]⟩
noncomputable def z19 (P : Params) : Obj := ⟨(.type "list"), none, (.seq #[] 0), #[]⟩
noncomputable def z20 (P : Params) : Obj := ⟨(.type "dict"), none, (.dict #[⟨(PyData.keyHash P (PySem.Str.ofString "name")), (.str (PySem.Str.ofString "name") 208), (.str (PySem.Str.ofString "_sre") 207)⟩, ⟨(PyData.keyHash P (PySem.Str.ofString "loader")), (.str (PySem.Str.ofString "loader") 209), (.ref 14)⟩, ⟨(PyData.keyHash P (PySem.Str.ofString "origin")), (.str (PySem.Str.ofString "origin") 210), (.str (PySem.Str.ofString "built-in") 184)⟩, ⟨(PyData.keyHash P (PySem.Str.ofString "loader_state")), (.str (PySem.Str.ofString "loader_state") 211), .none⟩, ⟨(PyData.keyHash P (PySem.Str.ofString "submodule_search_locations")), (.str (PySem.Str.ofString "submodule_search_locations") 212), .none⟩, ⟨(PyData.keyHash P (PySem.Str.ofString "_uninitialized_submodules")), (.str (PySem.Str.ofString "_uninitialized_submodules") 213), (.ref 19)⟩, ⟨(PyData.keyHash P (PySem.Str.ofString "_set_fileattr")), (.str (PySem.Str.ofString "_set_fileattr") 214), (.bool false)⟩, ⟨(PyData.keyHash P (PySem.Str.ofString "_cached")), (.str (PySem.Str.ofString "_cached") 215), .none⟩, ⟨(PyData.keyHash P (PySem.Str.ofString "_initializing")), (.str (PySem.Str.ofString "_initializing") 243), (.bool false)⟩] 9), #[]⟩
noncomputable def z21 (P : Params) : Obj := ⟨(.type "dict"), none, (.dict #[⟨(PyData.keyHash P (PySem.Str.ofString "__module__")), (.str (PySem.Str.ofString "__module__") 227), (.str (PySem.Str.ofString "_frozen_importlib") 217)⟩, ⟨(PyData.keyHash P (PySem.Str.ofString "__firstlineno__")), (.str (PySem.Str.ofString "__firstlineno__") 228), (.int 562 218)⟩, ⟨(PyData.keyHash P (PySem.Str.ofString "__doc__")), (.str (PySem.Str.ofString "__doc__") 229), (.builtin "_frozen_importlib.ModuleSpec.__doc__:str#opaque")⟩, ⟨(PyData.keyHash P (PySem.Str.ofString "__init__")), (.str (PySem.Str.ofString "__init__") 230), (.builtin "_frozen_importlib.ModuleSpec.__init__#opaque")⟩, ⟨(PyData.keyHash P (PySem.Str.ofString "__repr__")), (.str (PySem.Str.ofString "__repr__") 231), (.builtin "_frozen_importlib.ModuleSpec.__repr__#opaque")⟩, ⟨(PyData.keyHash P (PySem.Str.ofString "__eq__")), (.str (PySem.Str.ofString "__eq__") 232), (.builtin "_frozen_importlib.ModuleSpec.__eq__#opaque")⟩, ⟨(PyData.keyHash P (PySem.Str.ofString "cached")), (.str (PySem.Str.ofString "cached") 233), (.builtin "_frozen_importlib.ModuleSpec.cached#opaque")⟩, ⟨(PyData.keyHash P (PySem.Str.ofString "parent")), (.str (PySem.Str.ofString "parent") 234), (.builtin "_frozen_importlib.ModuleSpec.parent#opaque")⟩, ⟨(PyData.keyHash P (PySem.Str.ofString "has_location")), (.str (PySem.Str.ofString "has_location") 235), (.builtin "_frozen_importlib.ModuleSpec.has_location#opaque")⟩, ⟨(PyData.keyHash P (PySem.Str.ofString "__static_attributes__")), (.str (PySem.Str.ofString "__static_attributes__") 236), (.ref 23)⟩, ⟨(PyData.keyHash P (PySem.Str.ofString "__dict__")), (.str (PySem.Str.ofString "__dict__") 238), (.ref 24)⟩, ⟨(PyData.keyHash P (PySem.Str.ofString "__weakref__")), (.str (PySem.Str.ofString "__weakref__") 240), (.ref 25)⟩, ⟨(PyData.keyHash P (PySem.Str.ofString "__hash__")), (.str (PySem.Str.ofString "__hash__") 241), .none⟩] 13), #[]⟩
noncomputable def z22 (P : Params) : Obj := ⟨(.type "type"), none, (.cls { name := (PySem.Str.ofString "ModuleSpec"), bases := [(.type "object")], mro := [(.ref 22), (.type "object")], ns := 21, qualname := (PySem.Str.ofString "ModuleSpec"), hasDict := true, slotNames := [], subclasses := [], abstract := false, collection := none, hasDel := false }), #[]⟩
noncomputable def z23 (P : Params) : Obj := ⟨(.type "tuple"), none, (.seq #[(.str (PySem.Str.ofString "_cached") 219), (.str (PySem.Str.ofString "_set_fileattr") 220), (.str (PySem.Str.ofString "_uninitialized_submodules") 221), (.str (PySem.Str.ofString "loader") 222), (.str (PySem.Str.ofString "loader_state") 223), (.str (PySem.Str.ofString "name") 224), (.str (PySem.Str.ofString "origin") 225), (.str (PySem.Str.ofString "submodule_search_locations") 226)] 0), #[]⟩
noncomputable def z24 (P : Params) : Obj := ⟨(.type "getset_descriptor"), none, (.fields #[(.str (PySem.Str.ofString "__dict__") 237), (.ref 22), (.builtin "function.__dict__"), (.builtin "function.__dict__#set")]), #[]⟩
noncomputable def z25 (P : Params) : Obj := ⟨(.type "getset_descriptor"), none, (.fields #[(.str (PySem.Str.ofString "__weakref__") 239), (.ref 22), (.builtin "ExceptionGroup.__weakref__"), .none]), #[]⟩
noncomputable def z26 (P : Params) : Obj := ⟨(.ref 22), (some 20), .plain, #[]⟩
noncomputable def z27 (P : Params) : Obj := ⟨.none, none, (.seq #[(.int 11 0), (.str (PySem.Str.mk #[6, 247, 8, 95, 95, 110, 97, 109, 101, 95, 95, 6, 246, 4, 95, 115, 114, 101, 6, 248, 7, 95, 95, 100, 111, 99, 95, 95, 0, 6, 250, 11, 95, 95, 112, 97, 99, 107, 97, 103, 101, 95, 95, 6, 249, 0, 6, 251, 10, 95, 95, 108, 111, 97, 100, 101, 114, 95, 95, 4, 0, 0, 14, 6, 252, 8, 95, 95, 115, 112, 101, 99, 95, 95, 4, 0, 0, 26, 6, 253, 7, 99, 111, 109, 112, 105, 108, 101, 9, 12, 95, 115, 114, 101, 46, 99, 111, 109, 112, 105, 108, 101, 6, 254, 8, 116, 101, 109, 112, 108, 97, 116, 101, 9, 13, 95, 115, 114, 101, 46, 116, 101, 109, 112, 108, 97, 116, 101, 6, 255, 11, 103, 101, 116, 99, 111, 100, 101, 115, 105, 122, 101, 9, 16, 95, 115, 114, 101, 46, 103, 101, 116, 99, 111, 100, 101, 115, 105, 122, 101, 6, 256, 13, 97, 115, 99, 105, 105, 95, 105, 115, 99, 97, 115, 101, 100, 9, 18, 95, 115, 114, 101, 46, 97, 115, 99, 105, 105, 95, 105, 115, 99, 97, 115, 101, 100, 6, 257, 15, 117, 110, 105, 99, 111, 100, 101, 95, 105, 115, 99, 97, 115, 101, 100, 9, 20, 95, 115, 114, 101, 46, 117, 110, 105, 99, 111, 100, 101, 95, 105, 115, 99, 97, 115, 101, 100, 6, 258, 13, 97, 115, 99, 105, 105, 95, 116, 111, 108, 111, 119, 101, 114, 9, 18, 95, 115, 114, 101, 46, 97, 115, 99, 105, 105, 95, 116, 111, 108, 111, 119, 101, 114, 6, 259, 15, 117, 110, 105, 99, 111, 100, 101, 95, 116, 111, 108, 111, 119, 101, 114, 9, 20, 95, 115, 114, 101, 46, 117, 110, 105, 99, 111, 100, 101, 95, 116, 111, 108, 111, 119, 101, 114, 6, 261, 5, 77, 65, 71, 73, 67, 4, 260, 0, 20230612, 6, 263, 8, 67, 79, 68, 69, 83, 73, 90, 69, 4, 262, 0, 4, 6, 265, 9, 77, 65, 88, 82, 69, 80, 69, 65, 84, 4, 264, 0, 4294967295, 6, 267, 9, 77, 65, 88, 71, 82, 79, 85, 80, 83, 4, 266, 0, 1073741823, 6, 269, 9, 99, 111, 112, 121, 114, 105, 103, 104, 116, 6, 268, 53, 32, 83, 82, 69, 32, 50, 46, 50, 46, 50, 32, 67, 111, 112, 121, 114, 105, 103, 104, 116, 32, 40, 99, 41, 32, 49, 57, 57, 55, 45, 50, 48, 48, 50, 32, 98, 121, 32, 83, 101, 99, 114, 101, 116, 32, 76, 97, 98, 115, 32, 65, 66, 32]) 0), (.bool true), (.bool false), (.str (PySem.Str.ofString "_sre") 271)] 0), #[]⟩
noncomputable def a3 (P : Params) : Obj := ⟨(.type "dict"), none, (.dict #[⟨(PyData.keyHash P (PySem.Str.ofString "__name__")), (.str (PySem.Str.ofString "__name__") 165), (.str (PySem.Str.ofString "cpy313.stringprep") 289)⟩, ⟨(PyData.keyHash P (PySem.Str.ofString "__doc__")), (.str (PySem.Str.ofString "__doc__") 166), .none⟩, ⟨(PyData.keyHash P (PySem.Str.ofString "__package__")), (.str (PySem.Str.ofString "__package__") 167), .none⟩, ⟨(PyData.keyHash P (PySem.Str.ofString "__loader__")), (.str (PySem.Str.ofString "__loader__") 168), (.builtin "__main__.__loader__#opaque")⟩, ⟨(PyData.keyHash P (PySem.Str.ofString "__spec__")), (.str (PySem.Str.ofString "__spec__") 169), .none⟩, ⟨(PyData.keyHash P (PySem.Str.ofString "__annotations__")), (.str (PySem.Str.ofString "__annotations__") 170), (.ref 6)⟩, ⟨(PyData.keyHash P (PySem.Str.ofString "__builtins__")), (.str (PySem.Str.ofString "__builtins__") 171), (.ref 4)⟩, ⟨(PyData.keyHash P (PySem.Str.ofString "__file__")), (.str (PySem.Str.ofString "__file__") 173), (.str (PySem.Str.ofString "/claim/cut.py") 172)⟩, ⟨(PyData.keyHash P (PySem.Str.ofString "__cached__")), (.str (PySem.Str.ofString "__cached__") 174), .none⟩, ⟨(PyData.keyHash P (PySem.Str.ofString "_sre")), (.str (PySem.Str.ofString "_sre") 275), (.ref 12)⟩, ⟨(PyData.keyHash P (PySem.Str.ofString "_wall")), (.str (PySem.Str.ofString "_wall") 288), (.ref 38)⟩, ⟨(PyData.keyHash P (PySem.Str.ofString "b1_set")), (.str (PySem.Str.ofString "b1_set") 350), (.ref 46)⟩, ⟨(PyData.keyHash P (PySem.Str.ofString "in_table_b1")), (.str (PySem.Str.ofString "in_table_b1") 357), (.ref 56)⟩] 13), #[]⟩
noncomputable def a28 (P : Params) : Obj := ⟨(.type "tuple"), none, (.seq #[] 0), #[]⟩
noncomputable def a29 (P : Params) : Obj := ⟨.none, none, (.fields #[(.int 2 0), (.int 0 0), (.ref 37), (.int 7 0), (.int 0 0), (.ref 55)]), #[]⟩
noncomputable def a30 (P : Params) : Obj := ⟨(.type "code"), none, (.fields #[(.str (PySem.Str.ofString "<module>") 277), (.str (PySem.Str.ofString "<module>") 278), (.str (PySem.Str.ofString "/claim/cut.py") 279), (.int 1 0), (.int 0 0), (.int 0 0), (.int 0 0), (.int 0 0), (.ref 28), (.bool false), (.int 276 0), (.ref 29), .none, .none, .none, .none, (.int 280 0), (.int 1 0), (.str (PySem.Str.ofString "/claim/cut.py") 281)]), #[]⟩
noncomputable def a31 (P : Params) : Obj := ⟨(.type "frame"), none, .plain, #[(some (.ref 30)), (some (.ref 3)), (some (.ref 3)), none, (some (.str (PySem.Str.ofString "__main__") 164)), none, (some (.ref 0))]⟩
noncomputable def a32 (P : Params) : Obj := ⟨(.type "tuple"), none, (.seq #[] 0), #[]⟩
noncomputable def a33 (P : Params) : Obj := ⟨.none, none, (.fields #[]), #[]⟩
noncomputable def a34 (P : Params) : Obj := ⟨(.type "tuple"), none, (.seq #[(.str (PySem.Str.ofString "k") 285)] 0), #[]⟩
noncomputable def a35 (P : Params) : Obj := ⟨(.type "tuple"), none, (.seq #[] 0), #[]⟩
noncomputable def a36 (P : Params) : Obj := ⟨.none, none, (.func { name := (PySem.Str.ofString "_wall"), qualname := (PySem.Str.ofString "_wall"), params := fnParams [1], body := .stmts (fnBody [1]), scope := fnScope [1], globals := 0, closure := [], defaults := .none, kwdefaults := .none, doc := .none, pyModule := .none, annotations := none, code := .none, closureTuple := .none, builtins := 0 }), #[]⟩
noncomputable def a37 (P : Params) : Obj := ⟨(.type "code"), none, (.fields #[(.str (PySem.Str.ofString "_wall") 282), (.str (PySem.Str.ofString "_wall") 283), (.str (PySem.Str.ofString "/claim/cut.py") 284), (.int 2 0), (.int 1 0), (.int 0 0), (.int 0 0), (.int 3 0), (.ref 32), (.bool true), (.int 276 0), (.ref 33), .none, (.ref 34), (.ref 35), (.ref 36), (.int 286 0), (.int 2 0), (.str (PySem.Str.ofString "/claim/cut.py") 287)]), #[]⟩
noncomputable def a38 (P : Params) : Obj := ⟨(.type "function"), none, (.func { name := (PySem.Str.ofString "_wall"), qualname := (PySem.Str.ofString "_wall"), params := fnParams [1], body := .stmts (fnBody [1]), scope := fnScope [1], globals := 3, closure := [], defaults := .none, kwdefaults := .none, doc := .none, pyModule := (.str (PySem.Str.ofString "__main__") 164), annotations := none, code := (.ref 37), closureTuple := .none, builtins := 0 }), #[]⟩
noncomputable def a39 (P : Params) : Obj := ⟨(.type "list"), none, (.seq #[(.int 173 291), (.int 847 292), (.int 6150 293), (.int 6155 294), (.int 6156 295), (.int 6157 296), (.int 8203 297), (.int 8204 298), (.int 8205 299), (.int 8288 300), (.int 65279 301)] 0), #[]⟩
noncomputable def a40 (P : Params) : Obj := ⟨(.type "range"), none, (.fields #[(.int 65024 302), (.int 65040 303), (.int 1 304)]), #[]⟩
noncomputable def a41 (P : Params) : Obj := ⟨(.type "list"), none, (.seq #[(.int 65024 307), (.int 65025 308), (.int 65026 309), (.int 65027 310), (.int 65028 311), (.int 65029 312), (.int 65030 313), (.int 65031 314), (.int 65032 315), (.int 65033 316), (.int 65034 317), (.int 65035 318), (.int 65036 319), (.int 65037 320), (.int 65038 321), (.int 65039 322)] 18), #[]⟩
noncomputable def a42 (P : Params) : Obj := ⟨(.type "range_iterator"), none, (.fields #[(.int 65040 0), (.int 0 0), (.int 1 0)]), #[]⟩
noncomputable def a43 (P : Params) : Obj := ⟨(.type "tuple"), none, (.seq #[] 0), #[]⟩
noncomputable def a44 (P : Params) : Obj := ⟨(.type "StopIteration"), none, (.fields #[(.ref 43), .none, .none, .none, (.bool false), .none]), #[]⟩
noncomputable def a45 (P : Params) : Obj := ⟨(.type "list"), none, (.seq #[(.int 173 291), (.int 847 292), (.int 6150 293), (.int 6155 294), (.int 6156 295), (.int 6157 296), (.int 8203 297), (.int 8204 298), (.int 8205 299), (.int 8288 300), (.int 65279 301), (.int 65024 307), (.int 65025 308), (.int 65026 309), (.int 65027 310), (.int 65028 311), (.int 65029 312), (.int 65030 313), (.int 65031 314), (.int 65032 315), (.int 65033 316), (.int 65034 317), (.int 65035 318), (.int 65036 319), (.int 65037 320), (.int 65038 321), (.int 65039 322)] 0), #[]⟩
noncomputable def a46 (P : Params) : Obj := ⟨(.type "set"), none, (.set #[(65024, (.int 65024 307)), (65025, (.int 65025 308)), (65026, (.int 65026 309)), (65027, (.int 65027 310)), (65028, (.int 65028 311)), (65029, (.int 65029 312)), (6150, (.int 6150 293)), (65030, (.int 65030 313)), (65031, (.int 65031 314)), (65032, (.int 65032 315)), (65033, (.int 65033 316)), (6155, (.int 6155 294)), (6156, (.int 6156 295)), (6157, (.int 6157 296)), (8203, (.int 8203 297)), (8204, (.int 8204 298)), (8205, (.int 8205 299)), (65034, (.int 65034 317)), (65035, (.int 65035 318)), (65036, (.int 65036 319)), (65037, (.int 65037 320)), (65038, (.int 65038 321)), (65039, (.int 65039 322)), (173, (.int 173 291)), (847, (.int 847 292)), (8288, (.int 8288 300)), (65279, (.int 65279 301))] 29 { mask := 127, place := #[0, 1, 2, 3, 4, 5, 6, 7, 8, 9, 10, 11, 12, 13, 14, 15, 16, 17, 18, 19, 20, 21, 22, 45, 79, 96, 127], dummies := #[], finger := 0, led := !P.followText "set-order", moves := 2, plain := true }), #[]⟩
noncomputable def a47 (P : Params) : Obj := ⟨(.type "list_iterator"), none, (.fields #[.none, (.int 27 0)]), #[]⟩
noncomputable def a48 (P : Params) : Obj := ⟨(.type "tuple"), none, (.seq #[] 0), #[]⟩
noncomputable def a49 (P : Params) : Obj := ⟨(.type "StopIteration"), none, (.fields #[(.ref 48), .none, .none, .none, (.bool false), .none]), #[]⟩
noncomputable def a50 (P : Params) : Obj := ⟨(.type "tuple"), none, (.seq #[] 0), #[]⟩
noncomputable def a51 (P : Params) : Obj := ⟨.none, none, (.fields #[]), #[]⟩
noncomputable def a52 (P : Params) : Obj := ⟨(.type "tuple"), none, (.seq #[(.str (PySem.Str.ofString "code") 354)] 0), #[]⟩
noncomputable def a53 (P : Params) : Obj := ⟨(.type "tuple"), none, (.seq #[] 0), #[]⟩
noncomputable def a54 (P : Params) : Obj := ⟨.none, none, (.func { name := (PySem.Str.ofString "in_table_b1"), qualname := (PySem.Str.ofString "in_table_b1"), params := fnParams [4], body := .stmts (fnBody [4]), scope := fnScope [4], globals := 0, closure := [], defaults := .none, kwdefaults := .none, doc := .none, pyModule := .none, annotations := none, code := .none, closureTuple := .none, builtins := 0 }), #[]⟩
noncomputable def a55 (P : Params) : Obj := ⟨(.type "code"), none, (.fields #[(.str (PySem.Str.ofString "in_table_b1") 351), (.str (PySem.Str.ofString "in_table_b1") 352), (.str (PySem.Str.ofString "/claim/cut.py") 353), (.int 7 0), (.int 1 0), (.int 0 0), (.int 0 0), (.int 3 0), (.ref 50), (.bool true), (.int 276 0), (.ref 51), .none, (.ref 52), (.ref 53), (.ref 54), (.int 355 0), (.int 7 0), (.str (PySem.Str.ofString "/claim/cut.py") 356)]), #[]⟩
noncomputable def a56 (P : Params) : Obj := ⟨(.type "function"), none, (.func { name := (PySem.Str.ofString "in_table_b1"), qualname := (PySem.Str.ofString "in_table_b1"), params := fnParams [4], body := .stmts (fnBody [4]), scope := fnScope [4], globals := 3, closure := [], defaults := .none, kwdefaults := .none, doc := .none, pyModule := (.str (PySem.Str.ofString "cpy313.stringprep") 289), annotations := none, code := (.ref 55), closureTuple := .none, builtins := 0 }), #[]⟩
@[irreducible] noncomputable def zObjs (P : Params) : List Obj := [z0 P, z1 P, z2 P, z3 P, z4 P, z5 P, z6 P, z7 P, z8 P, z9 P, z10 P, z11 P, z12 P, z13 P, z14 P, z15 P, z16 P, z17 P, z18 P, z19 P, z20 P, z21 P, z22 P, z23 P, z24 P, z25 P, z26 P, z27 P]
@[irreducible] noncomputable def aObjs (P : Params) : List Obj := [z0 P, z1 P, z2 P, a3 P, z4 P, z5 P, z6 P, z7 P, z8 P, z9 P, z10 P, z11 P, z12 P, z13 P, z14 P, z15 P, z16 P, z17 P, z18 P, z19 P, z20 P, z21 P, z22 P, z23 P, z24 P, z25 P, z26 P, z27 P, a28 P, a29 P, a30 P, a31 P, a32 P, a33 P, a34 P, a35 P, a36 P, a37 P, a38 P, a39 P, a40 P, a41 P, a42 P, a43 P, a44 P, a45 P, a46 P, a47 P, a48 P, a49 P, a50 P, a51 P, a52 P, a53 P, a54 P, a55 P, a56 P]
noncomputable def k3 (P : Params) : Obj := ⟨(.type "dict"), none, (.dict #[⟨(PyData.keyHash P (PySem.Str.ofString "__name__")), (.str (PySem.Str.ofString "__name__") 165), (.str (PySem.Str.ofString "law_un0048_02") 2552)⟩, ⟨(PyData.keyHash P (PySem.Str.ofString "__doc__")), (.str (PySem.Str.ofString "__doc__") 166), .none⟩, ⟨(PyData.keyHash P (PySem.Str.ofString "__package__")), (.str (PySem.Str.ofString "__package__") 167), .none⟩, ⟨(PyData.keyHash P (PySem.Str.ofString "__loader__")), (.str (PySem.Str.ofString "__loader__") 168), (.builtin "__main__.__loader__#opaque")⟩, ⟨(PyData.keyHash P (PySem.Str.ofString "__spec__")), (.str (PySem.Str.ofString "__spec__") 169), .none⟩, ⟨(PyData.keyHash P (PySem.Str.ofString "__annotations__")), (.str (PySem.Str.ofString "__annotations__") 170), (.ref 6)⟩, ⟨(PyData.keyHash P (PySem.Str.ofString "__builtins__")), (.str (PySem.Str.ofString "__builtins__") 171), (.ref 4)⟩, ⟨(PyData.keyHash P (PySem.Str.ofString "__file__")), (.str (PySem.Str.ofString "__file__") 173), (.str (PySem.Str.ofString "/claim/cut.py") 172)⟩, ⟨(PyData.keyHash P (PySem.Str.ofString "__cached__")), (.str (PySem.Str.ofString "__cached__") 174), .none⟩, ⟨(PyData.keyHash P (PySem.Str.ofString "_sre")), (.str (PySem.Str.ofString "_sre") 275), (.ref 12)⟩, ⟨(PyData.keyHash P (PySem.Str.ofString "_wall")), (.str (PySem.Str.ofString "_wall") 288), (.ref 38)⟩, ⟨(PyData.keyHash P (PySem.Str.ofString "b1_set")), (.str (PySem.Str.ofString "b1_set") 350), (.ref 46)⟩, ⟨(PyData.keyHash P (PySem.Str.ofString "in_table_b1")), (.str (PySem.Str.ofString "in_table_b1") 357), (.ref 56)⟩, ⟨(PyData.keyHash P (PySem.Str.ofString "b3_exceptions")), (.str (PySem.Str.ofString "b3_exceptions") 2308), (.ref 57)⟩, ⟨(PyData.keyHash P (PySem.Str.ofString "map_table_b3")), (.str (PySem.Str.ofString "map_table_b3") 2316), (.ref 102)⟩, ⟨(PyData.keyHash P (PySem.Str.ofString "_name_disallowed_re")), (.str (PySem.Str.ofString "_name_disallowed_re") 2344), (.ref 107)⟩, ⟨(PyData.keyHash P (PySem.Str.ofString "_value_disallowed_re")), (.str (PySem.Str.ofString "_value_disallowed_re") 2378), (.ref 112)⟩, ⟨(PyData.keyHash P (PySem.Str.ofString "Headers")), (.str (PySem.Str.ofString "Headers") 2535), (.ref 235)⟩, ⟨(PyData.keyHash P (PySem.Str.ofString "_raise_serialization_error")), (.str (PySem.Str.ofString "_raise_serialization_error") 2544), (.ref 246)⟩, ⟨(PyData.keyHash P (PySem.Str.ofString "_escape_attrib_c14n")), (.str (PySem.Str.ofString "_escape_attrib_c14n") 2551), (.ref 253)⟩, ⟨(PyData.keyHash P (PySem.Str.ofString "_law_cells")), (.str (PySem.Str.ofString "_law_cells") 2563), (.ref 260)⟩, ⟨(PyData.keyHash P (PySem.Str.ofString "_law_text")), (.str (PySem.Str.ofString "_law_text") 2569), (.ref 265)⟩, ⟨(PyData.keyHash P (PySem.Str.ofString "_law_table")), (.str (PySem.Str.ofString "_law_table") 2580), (.ref 272)⟩, ⟨(PyData.keyHash P (PySem.Str.ofString "_law_step")), (.str (PySem.Str.ofString "_law_step") 2593), (.ref 279)⟩, ⟨(PyData.keyHash P (PySem.Str.ofString "_law_end")), (.str (PySem.Str.ofString "_law_end") 2607), (.ref 286)⟩, ⟨(PyData.keyHash P (PySem.Str.ofString "_law_one_pass")), (.str (PySem.Str.ofString "_law_one_pass") 2619), (.ref 293)⟩, ⟨(PyData.keyHash P (PySem.Str.ofString "law")), (.str (PySem.Str.ofString "law") 2625), (.ref 298)⟩] 27), #[]⟩
noncomputable def k96 (P : Params) : Obj := ⟨(.type "tuple"), none, (.seq #[] 0), #[]⟩
noncomputable def k98 (P : Params) : Obj := ⟨(.type "tuple"), none, (.seq #[(.str (PySem.Str.ofString "code") 2312), (.str (PySem.Str.ofString "r") 2313)] 0), #[]⟩
noncomputable def k99 (P : Params) : Obj := ⟨(.type "tuple"), none, (.seq #[] 0), #[]⟩
noncomputable def k101 (P : Params) : Obj := ⟨(.type "code"), none, (.fields #[(.str (PySem.Str.ofString "map_table_b3") 2309), (.str (PySem.Str.ofString "map_table_b3") 2310), (.str (PySem.Str.ofString "/claim/cut.py") 2311), (.int 10 0), (.int 1 0), (.int 0 0), (.int 0 0), (.int 3 0), (.ref 96), (.bool true), (.int 276 0), (.ref 97), .none, (.ref 98), (.ref 99), (.ref 100), (.int 2314 0), (.int 10 0), (.str (PySem.Str.ofString "/claim/cut.py") 2315)]), #[]⟩
noncomputable def k102 (P : Params) : Obj := ⟨(.type "function"), none, (.func { name := (PySem.Str.ofString "map_table_b3"), qualname := (PySem.Str.ofString "map_table_b3"), params := fnParams [6], body := .stmts (fnBody [6]), scope := fnScope [6], globals := 3, closure := [], defaults := .none, kwdefaults := .none, doc := .none, pyModule := (.str (PySem.Str.ofString "cpy313.stringprep") 289), annotations := none, code := (.ref 101), closureTuple := .none, builtins := 0 }), #[]⟩
noncomputable def k106 (P : Params) : Obj := ⟨(.type "tuple"), none, (.seq #[(.int 14 0), (.int 10 0), (.int 4 0), (.int 1 0), (.int 1 0), (.int 22 0), (.int 0 0), (.int 31 0), (.int 16 0), (.int 127 0), (.int 0 0), (.int 13 0), (.int 7 0), (.int 22 0), (.int 0 0), (.int 31 0), (.int 16 0), (.int 127 0), (.int 0 0), (.int 1 0)] 0), #[]⟩
noncomputable def k107 (P : Params) : Obj := ⟨(.type "re.Pattern"), none, (.fields #[(.str (PySem.Str.ofString "[\\x00-\\x1F\\x7F]") 2320), (.int 32 2343), (.int 0 0), .none, .none, (.ref 106), (.int 0 0)]), #[]⟩
noncomputable def k111 (P : Params) : Obj := ⟨(.type "tuple"), none, (.seq #[(.int 14 0), (.int 14 0), (.int 4 0), (.int 1 0), (.int 1 0), (.int 9 0), (.int 4294966783 0), (.int 0 0), (.int 0 0), (.int 2147483648 0), (.int 0 0), (.int 0 0), (.int 0 0), (.int 0 0), (.int 0 0), (.int 13 0), (.int 11 0), (.int 9 0), (.int 4294966783 0), (.int 0 0), (.int 0 0), (.int 2147483648 0), (.int 0 0), (.int 0 0), (.int 0 0), (.int 0 0), (.int 0 0), (.int 1 0)] 0), #[]⟩
noncomputable def k112 (P : Params) : Obj := ⟨(.type "re.Pattern"), none, (.fields #[(.str (PySem.Str.ofString "[\\x00-\\x08\\x0A-\\x1F\\x7F]") 2346), (.int 32 2377), (.int 0 0), .none, .none, (.ref 111), (.int 0 0)]), #[]⟩
noncomputable def k120 (P : Params) : Obj := ⟨(.type "tuple"), none, (.seq #[.none] 0), #[]⟩
noncomputable def k121 (P : Params) : Obj := ⟨(.type "tuple"), none, (.seq #[] 0), #[]⟩
noncomputable def k123 (P : Params) : Obj := ⟨(.type "tuple"), none, (.seq #[(.str (PySem.Str.ofString "self") 2394), (.str (PySem.Str.ofString "headers") 2395), (.str (PySem.Str.ofString "k") 2396), (.str (PySem.Str.ofString "v") 2397)] 0), #[]⟩
noncomputable def k124 (P : Params) : Obj := ⟨(.type "tuple"), none, (.seq #[] 0), #[]⟩
noncomputable def k126 (P : Params) : Obj := ⟨(.type "code"), none, (.fields #[(.str (PySem.Str.ofString "__init__") 2391), (.str (PySem.Str.ofString "Headers.__init__") 2392), (.str (PySem.Str.ofString "/claim/cut.py") 2393), (.int 20 0), (.int 2 0), (.int 0 0), (.int 0 0), (.int 3 0), (.ref 121), (.bool true), (.int 276 0), (.ref 122), .none, (.ref 123), (.ref 124), (.ref 125), (.int 2398 0), (.int 20 0), (.str (PySem.Str.ofString "/claim/cut.py") 2399)]), #[]⟩
noncomputable def k127 (P : Params) : Obj := ⟨(.type "function"), none, (.func { name := (PySem.Str.ofString "__init__"), qualname := (PySem.Str.ofString "Headers.__init__"), params := fnParams [10, 0], body := .stmts (fnBody [10, 0]), scope := fnScope [10, 0], globals := 3, closure := [], defaults := (.ref 120), kwdefaults := .none, doc := .none, pyModule := (.str (PySem.Str.ofString "cpy313.wsgiref.headers") 2317), annotations := none, code := (.ref 126), closureTuple := .none, builtins := 0 }), #[]⟩
noncomputable def k128 (P : Params) : Obj := ⟨(.type "tuple"), none, (.seq #[] 0), #[]⟩
noncomputable def k130 (P : Params) : Obj := ⟨(.type "tuple"), none, (.seq #[(.str (PySem.Str.ofString "self") 2404), (.str (PySem.Str.ofString "value") 2405), (.str (PySem.Str.ofString "name") 2406), (.str (PySem.Str.ofString "regex") 2407)] 0), #[]⟩
noncomputable def k131 (P : Params) : Obj := ⟨(.type "tuple"), none, (.seq #[] 0), #[]⟩
noncomputable def k133 (P : Params) : Obj := ⟨(.type "code"), none, (.fields #[(.str (PySem.Str.ofString "_convert_string_type") 2401), (.str (PySem.Str.ofString "Headers._convert_string_type") 2402), (.str (PySem.Str.ofString "/claim/cut.py") 2403), (.int 30 0), (.int 2 0), (.int 0 0), (.int 1 0), (.int 3 0), (.ref 128), (.bool true), (.int 276 0), (.ref 129), .none, (.ref 130), (.ref 131), (.ref 132), (.int 2408 0), (.int 30 0), (.str (PySem.Str.ofString "/claim/cut.py") 2409)]), #[]⟩
noncomputable def k134 (P : Params) : Obj := ⟨(.type "function"), none, (.func { name := (PySem.Str.ofString "_convert_string_type"), qualname := (PySem.Str.ofString "Headers._convert_string_type"), params := fnParams [10, 1], body := .stmts (fnBody [10, 1]), scope := fnScope [10, 1], globals := 3, closure := [], defaults := .none, kwdefaults := .none, doc := .none, pyModule := (.str (PySem.Str.ofString "cpy313.wsgiref.headers") 2317), annotations := none, code := (.ref 133), closureTuple := .none, builtins := 0 }), #[]⟩
noncomputable def k135 (P : Params) : Obj := ⟨(.type "tuple"), none, (.seq #[] 0), #[]⟩
noncomputable def k137 (P : Params) : Obj := ⟨(.type "tuple"), none, (.seq #[(.str (PySem.Str.ofString "self") 2414)] 0), #[]⟩
noncomputable def k138 (P : Params) : Obj := ⟨(.type "tuple"), none, (.seq #[] 0), #[]⟩
noncomputable def k140 (P : Params) : Obj := ⟨(.type "code"), none, (.fields #[(.str (PySem.Str.ofString "__len__") 2411), (.str (PySem.Str.ofString "Headers.__len__") 2412), (.str (PySem.Str.ofString "/claim/cut.py") 2413), (.int 38 0), (.int 1 0), (.int 0 0), (.int 0 0), (.int 3 0), (.ref 135), (.bool true), (.int 276 0), (.ref 136), .none, (.ref 137), (.ref 138), (.ref 139), (.int 2415 0), (.int 38 0), (.str (PySem.Str.ofString "/claim/cut.py") 2416)]), #[]⟩
noncomputable def k141 (P : Params) : Obj := ⟨(.type "function"), none, (.func { name := (PySem.Str.ofString "__len__"), qualname := (PySem.Str.ofString "Headers.__len__"), params := fnParams [10, 2], body := .stmts (fnBody [10, 2]), scope := fnScope [10, 2], globals := 3, closure := [], defaults := .none, kwdefaults := .none, doc := .none, pyModule := (.str (PySem.Str.ofString "cpy313.wsgiref.headers") 2317), annotations := none, code := (.ref 140), closureTuple := .none, builtins := 0 }), #[]⟩
noncomputable def k142 (P : Params) : Obj := ⟨(.type "tuple"), none, (.seq #[] 0), #[]⟩
noncomputable def k144 (P : Params) : Obj := ⟨(.type "tuple"), none, (.seq #[(.str (PySem.Str.ofString "self") 2421), (.str (PySem.Str.ofString "name") 2422), (.str (PySem.Str.ofString "val") 2423)] 0), #[]⟩
noncomputable def k145 (P : Params) : Obj := ⟨(.type "tuple"), none, (.seq #[] 0), #[]⟩
noncomputable def k147 (P : Params) : Obj := ⟨(.type "code"), none, (.fields #[(.str (PySem.Str.ofString "__setitem__") 2418), (.str (PySem.Str.ofString "Headers.__setitem__") 2419), (.str (PySem.Str.ofString "/claim/cut.py") 2420), (.int 41 0), (.int 3 0), (.int 0 0), (.int 0 0), (.int 3 0), (.ref 142), (.bool true), (.int 276 0), (.ref 143), .none, (.ref 144), (.ref 145), (.ref 146), (.int 2424 0), (.int 41 0), (.str (PySem.Str.ofString "/claim/cut.py") 2425)]), #[]⟩
noncomputable def k148 (P : Params) : Obj := ⟨(.type "function"), none, (.func { name := (PySem.Str.ofString "__setitem__"), qualname := (PySem.Str.ofString "Headers.__setitem__"), params := fnParams [10, 3], body := .stmts (fnBody [10, 3]), scope := fnScope [10, 3], globals := 3, closure := [], defaults := .none, kwdefaults := .none, doc := .none, pyModule := (.str (PySem.Str.ofString "cpy313.wsgiref.headers") 2317), annotations := none, code := (.ref 147), closureTuple := .none, builtins := 0 }), #[]⟩
noncomputable def k149 (P : Params) : Obj := ⟨(.type "tuple"), none, (.seq #[] 0), #[]⟩
noncomputable def k152 (P : Params) : Obj := ⟨(.type "code"), none, (.fields #[(.str (PySem.Str.ofString "__delitem__") 2427), (.str (PySem.Str.ofString "Headers.__delitem__") 2428), (.str (PySem.Str.ofString "/claim/cut.py") 2429), (.int 45 0), (.int 2 0), (.int 0 0), (.int 0 0), (.int 3 0), (.ref 149), (.bool true), (.int 276 0), (.ref 150), .none, .none, .none, (.ref 151), (.int 2430 0), (.int 45 0), (.str (PySem.Str.ofString "/claim/cut.py") 2431)]), #[]⟩
noncomputable def k153 (P : Params) : Obj := ⟨(.type "function"), none, (.func { name := (PySem.Str.ofString "__delitem__"), qualname := (PySem.Str.ofString "Headers.__delitem__"), params := fnParams [10, 4], body := .stmts (fnBody [10, 4]), scope := fnScope [10, 4], globals := 3, closure := [], defaults := .none, kwdefaults := .none, doc := .none, pyModule := (.str (PySem.Str.ofString "cpy313.wsgiref.headers") 2317), annotations := none, code := (.ref 152), closureTuple := .none, builtins := 0 }), #[]⟩
noncomputable def k154 (P : Params) : Obj := ⟨(.type "tuple"), none, (.seq #[] 0), #[]⟩
noncomputable def k156 (P : Params) : Obj := ⟨(.type "tuple"), none, (.seq #[(.str (PySem.Str.ofString "self") 2436), (.str (PySem.Str.ofString "name") 2437)] 0), #[]⟩
noncomputable def k157 (P : Params) : Obj := ⟨(.type "tuple"), none, (.seq #[] 0), #[]⟩
noncomputable def k159 (P : Params) : Obj := ⟨(.type "code"), none, (.fields #[(.str (PySem.Str.ofString "__getitem__") 2433), (.str (PySem.Str.ofString "Headers.__getitem__") 2434), (.str (PySem.Str.ofString "/claim/cut.py") 2435), (.int 49 0), (.int 2 0), (.int 0 0), (.int 0 0), (.int 3 0), (.ref 154), (.bool true), (.int 276 0), (.ref 155), .none, (.ref 156), (.ref 157), (.ref 158), (.int 2438 0), (.int 49 0), (.str (PySem.Str.ofString "/claim/cut.py") 2439)]), #[]⟩
noncomputable def k160 (P : Params) : Obj := ⟨(.type "function"), none, (.func { name := (PySem.Str.ofString "__getitem__"), qualname := (PySem.Str.ofString "Headers.__getitem__"), params := fnParams [10, 5], body := .stmts (fnBody [10, 5]), scope := fnScope [10, 5], globals := 3, closure := [], defaults := .none, kwdefaults := .none, doc := .none, pyModule := (.str (PySem.Str.ofString "cpy313.wsgiref.headers") 2317), annotations := none, code := (.ref 159), closureTuple := .none, builtins := 0 }), #[]⟩
noncomputable def k161 (P : Params) : Obj := ⟨(.type "tuple"), none, (.seq #[] 0), #[]⟩
noncomputable def k163 (P : Params) : Obj := ⟨(.type "tuple"), none, (.seq #[(.str (PySem.Str.ofString "self") 2444), (.str (PySem.Str.ofString "name") 2445)] 0), #[]⟩
noncomputable def k164 (P : Params) : Obj := ⟨(.type "tuple"), none, (.seq #[] 0), #[]⟩
noncomputable def k166 (P : Params) : Obj := ⟨(.type "code"), none, (.fields #[(.str (PySem.Str.ofString "__contains__") 2441), (.str (PySem.Str.ofString "Headers.__contains__") 2442), (.str (PySem.Str.ofString "/claim/cut.py") 2443), (.int 52 0), (.int 2 0), (.int 0 0), (.int 0 0), (.int 3 0), (.ref 161), (.bool true), (.int 276 0), (.ref 162), .none, (.ref 163), (.ref 164), (.ref 165), (.int 2446 0), (.int 52 0), (.str (PySem.Str.ofString "/claim/cut.py") 2447)]), #[]⟩
noncomputable def k167 (P : Params) : Obj := ⟨(.type "function"), none, (.func { name := (PySem.Str.ofString "__contains__"), qualname := (PySem.Str.ofString "Headers.__contains__"), params := fnParams [10, 6], body := .stmts (fnBody [10, 6]), scope := fnScope [10, 6], globals := 3, closure := [], defaults := .none, kwdefaults := .none, doc := .none, pyModule := (.str (PySem.Str.ofString "cpy313.wsgiref.headers") 2317), annotations := none, code := (.ref 166), closureTuple := .none, builtins := 0 }), #[]⟩
noncomputable def k168 (P : Params) : Obj := ⟨(.type "tuple"), none, (.seq #[] 0), #[]⟩
noncomputable def k170 (P : Params) : Obj := ⟨(.type "tuple"), none, (.seq #[(.str (PySem.Str.ofString "self") 2452), (.str (PySem.Str.ofString "name") 2453)] 0), #[]⟩
noncomputable def k171 (P : Params) : Obj := ⟨(.type "tuple"), none, (.seq #[] 0), #[]⟩
noncomputable def k173 (P : Params) : Obj := ⟨(.type "code"), none, (.fields #[(.str (PySem.Str.ofString "get_all") 2449), (.str (PySem.Str.ofString "Headers.get_all") 2450), (.str (PySem.Str.ofString "/claim/cut.py") 2451), (.int 55 0), (.int 2 0), (.int 0 0), (.int 0 0), (.int 3 0), (.ref 168), (.bool true), (.int 276 0), (.ref 169), .none, (.ref 170), (.ref 171), (.ref 172), (.int 2454 0), (.int 55 0), (.str (PySem.Str.ofString "/claim/cut.py") 2455)]), #[]⟩
noncomputable def k174 (P : Params) : Obj := ⟨(.type "function"), none, (.func { name := (PySem.Str.ofString "get_all"), qualname := (PySem.Str.ofString "Headers.get_all"), params := fnParams [10, 7], body := .stmts (fnBody [10, 7]), scope := fnScope [10, 7], globals := 3, closure := [], defaults := .none, kwdefaults := .none, doc := .none, pyModule := (.str (PySem.Str.ofString "cpy313.wsgiref.headers") 2317), annotations := none, code := (.ref 173), closureTuple := .none, builtins := 0 }), #[]⟩
noncomputable def k175 (P : Params) : Obj := ⟨(.type "tuple"), none, (.seq #[.none] 0), #[]⟩
noncomputable def k176 (P : Params) : Obj := ⟨(.type "tuple"), none, (.seq #[] 0), #[]⟩
noncomputable def k178 (P : Params) : Obj := ⟨(.type "tuple"), none, (.seq #[(.str (PySem.Str.ofString "self") 2460), (.str (PySem.Str.ofString "name") 2461), (.str (PySem.Str.ofString "default") 2462), (.str (PySem.Str.ofString "k") 2463), (.str (PySem.Str.ofString "v") 2464)] 0), #[]⟩
noncomputable def k179 (P : Params) : Obj := ⟨(.type "tuple"), none, (.seq #[] 0), #[]⟩
noncomputable def k181 (P : Params) : Obj := ⟨(.type "code"), none, (.fields #[(.str (PySem.Str.ofString "get") 2457), (.str (PySem.Str.ofString "Headers.get") 2458), (.str (PySem.Str.ofString "/claim/cut.py") 2459), (.int 58 0), (.int 3 0), (.int 0 0), (.int 0 0), (.int 3 0), (.ref 176), (.bool true), (.int 276 0), (.ref 177), .none, (.ref 178), (.ref 179), (.ref 180), (.int 2465 0), (.int 58 0), (.str (PySem.Str.ofString "/claim/cut.py") 2466)]), #[]⟩
noncomputable def k182 (P : Params) : Obj := ⟨(.type "function"), none, (.func { name := (PySem.Str.ofString "get"), qualname := (PySem.Str.ofString "Headers.get"), params := fnParams [10, 8], body := .stmts (fnBody [10, 8]), scope := fnScope [10, 8], globals := 3, closure := [], defaults := (.ref 175), kwdefaults := .none, doc := .none, pyModule := (.str (PySem.Str.ofString "cpy313.wsgiref.headers") 2317), annotations := none, code := (.ref 181), closureTuple := .none, builtins := 0 }), #[]⟩
noncomputable def k183 (P : Params) : Obj := ⟨(.type "tuple"), none, (.seq #[] 0), #[]⟩
noncomputable def k186 (P : Params) : Obj := ⟨(.type "code"), none, (.fields #[(.str (PySem.Str.ofString "keys") 2468), (.str (PySem.Str.ofString "Headers.keys") 2469), (.str (PySem.Str.ofString "/claim/cut.py") 2470), (.int 65 0), (.int 1 0), (.int 0 0), (.int 0 0), (.int 3 0), (.ref 183), (.bool true), (.int 276 0), (.ref 184), .none, .none, .none, (.ref 185), (.int 2471 0), (.int 65 0), (.str (PySem.Str.ofString "/claim/cut.py") 2472)]), #[]⟩
noncomputable def k187 (P : Params) : Obj := ⟨(.type "function"), none, (.func { name := (PySem.Str.ofString "keys"), qualname := (PySem.Str.ofString "Headers.keys"), params := fnParams [10, 9], body := .stmts (fnBody [10, 9]), scope := fnScope [10, 9], globals := 3, closure := [], defaults := .none, kwdefaults := .none, doc := .none, pyModule := (.str (PySem.Str.ofString "cpy313.wsgiref.headers") 2317), annotations := none, code := (.ref 186), closureTuple := .none, builtins := 0 }), #[]⟩
noncomputable def k188 (P : Params) : Obj := ⟨(.type "tuple"), none, (.seq #[] 0), #[]⟩
noncomputable def k191 (P : Params) : Obj := ⟨(.type "code"), none, (.fields #[(.str (PySem.Str.ofString "values") 2474), (.str (PySem.Str.ofString "Headers.values") 2475), (.str (PySem.Str.ofString "/claim/cut.py") 2476), (.int 68 0), (.int 1 0), (.int 0 0), (.int 0 0), (.int 3 0), (.ref 188), (.bool true), (.int 276 0), (.ref 189), .none, .none, .none, (.ref 190), (.int 2477 0), (.int 68 0), (.str (PySem.Str.ofString "/claim/cut.py") 2478)]), #[]⟩
noncomputable def k192 (P : Params) : Obj := ⟨(.type "function"), none, (.func { name := (PySem.Str.ofString "values"), qualname := (PySem.Str.ofString "Headers.values"), params := fnParams [10, 10], body := .stmts (fnBody [10, 10]), scope := fnScope [10, 10], globals := 3, closure := [], defaults := .none, kwdefaults := .none, doc := .none, pyModule := (.str (PySem.Str.ofString "cpy313.wsgiref.headers") 2317), annotations := none, code := (.ref 191), closureTuple := .none, builtins := 0 }), #[]⟩
noncomputable def k193 (P : Params) : Obj := ⟨(.type "tuple"), none, (.seq #[] 0), #[]⟩
noncomputable def k195 (P : Params) : Obj := ⟨(.type "tuple"), none, (.seq #[(.str (PySem.Str.ofString "self") 2483)] 0), #[]⟩
noncomputable def k196 (P : Params) : Obj := ⟨(.type "tuple"), none, (.seq #[] 0), #[]⟩
noncomputable def k198 (P : Params) : Obj := ⟨(.type "code"), none, (.fields #[(.str (PySem.Str.ofString "items") 2480), (.str (PySem.Str.ofString "Headers.items") 2481), (.str (PySem.Str.ofString "/claim/cut.py") 2482), (.int 71 0), (.int 1 0), (.int 0 0), (.int 0 0), (.int 3 0), (.ref 193), (.bool true), (.int 276 0), (.ref 194), .none, (.ref 195), (.ref 196), (.ref 197), (.int 2484 0), (.int 71 0), (.str (PySem.Str.ofString "/claim/cut.py") 2485)]), #[]⟩
noncomputable def k199 (P : Params) : Obj := ⟨(.type "function"), none, (.func { name := (PySem.Str.ofString "items"), qualname := (PySem.Str.ofString "Headers.items"), params := fnParams [10, 11], body := .stmts (fnBody [10, 11]), scope := fnScope [10, 11], globals := 3, closure := [], defaults := .none, kwdefaults := .none, doc := .none, pyModule := (.str (PySem.Str.ofString "cpy313.wsgiref.headers") 2317), annotations := none, code := (.ref 198), closureTuple := .none, builtins := 0 }), #[]⟩
noncomputable def k200 (P : Params) : Obj := ⟨(.type "tuple"), none, (.seq #[] 0), #[]⟩
noncomputable def k202 (P : Params) : Obj := ⟨(.type "tuple"), none, (.seq #[(.str (PySem.Str.ofString "self") 2490)] 0), #[]⟩
noncomputable def k203 (P : Params) : Obj := ⟨(.type "tuple"), none, (.seq #[] 0), #[]⟩
noncomputable def k205 (P : Params) : Obj := ⟨(.type "code"), none, (.fields #[(.str (PySem.Str.ofString "__repr__") 2487), (.str (PySem.Str.ofString "Headers.__repr__") 2488), (.str (PySem.Str.ofString "/claim/cut.py") 2489), (.int 74 0), (.int 1 0), (.int 0 0), (.int 0 0), (.int 3 0), (.ref 200), (.bool true), (.int 276 0), (.ref 201), .none, (.ref 202), (.ref 203), (.ref 204), (.int 2491 0), (.int 74 0), (.str (PySem.Str.ofString "/claim/cut.py") 2492)]), #[]⟩
noncomputable def k206 (P : Params) : Obj := ⟨(.type "function"), none, (.func { name := (PySem.Str.ofString "__repr__"), qualname := (PySem.Str.ofString "Headers.__repr__"), params := fnParams [10, 12], body := .stmts (fnBody [10, 12]), scope := fnScope [10, 12], globals := 3, closure := [], defaults := .none, kwdefaults := .none, doc := .none, pyModule := (.str (PySem.Str.ofString "cpy313.wsgiref.headers") 2317), annotations := none, code := (.ref 205), closureTuple := .none, builtins := 0 }), #[]⟩
noncomputable def k207 (P : Params) : Obj := ⟨(.type "tuple"), none, (.seq #[] 0), #[]⟩
noncomputable def k210 (P : Params) : Obj := ⟨(.type "code"), none, (.fields #[(.str (PySem.Str.ofString "__str__") 2494), (.str (PySem.Str.ofString "Headers.__str__") 2495), (.str (PySem.Str.ofString "/claim/cut.py") 2496), (.int 77 0), (.int 1 0), (.int 0 0), (.int 0 0), (.int 3 0), (.ref 207), (.bool true), (.int 276 0), (.ref 208), .none, .none, .none, (.ref 209), (.int 2497 0), (.int 77 0), (.str (PySem.Str.ofString "/claim/cut.py") 2498)]), #[]⟩
noncomputable def k211 (P : Params) : Obj := ⟨(.type "function"), none, (.func { name := (PySem.Str.ofString "__str__"), qualname := (PySem.Str.ofString "Headers.__str__"), params := fnParams [10, 13], body := .stmts (fnBody [10, 13]), scope := fnScope [10, 13], globals := 3, closure := [], defaults := .none, kwdefaults := .none, doc := .none, pyModule := (.str (PySem.Str.ofString "cpy313.wsgiref.headers") 2317), annotations := none, code := (.ref 210), closureTuple := .none, builtins := 0 }), #[]⟩
noncomputable def k212 (P : Params) : Obj := ⟨(.type "tuple"), none, (.seq #[] 0), #[]⟩
noncomputable def k214 (P : Params) : Obj := ⟨(.type "tuple"), none, (.seq #[(.str (PySem.Str.ofString "self") 2503)] 0), #[]⟩
noncomputable def k215 (P : Params) : Obj := ⟨(.type "tuple"), none, (.seq #[] 0), #[]⟩
noncomputable def k217 (P : Params) : Obj := ⟨(.type "code"), none, (.fields #[(.str (PySem.Str.ofString "__bytes__") 2500), (.str (PySem.Str.ofString "Headers.__bytes__") 2501), (.str (PySem.Str.ofString "/claim/cut.py") 2502), (.int 80 0), (.int 1 0), (.int 0 0), (.int 0 0), (.int 3 0), (.ref 212), (.bool true), (.int 276 0), (.ref 213), .none, (.ref 214), (.ref 215), (.ref 216), (.int 2504 0), (.int 80 0), (.str (PySem.Str.ofString "/claim/cut.py") 2505)]), #[]⟩
noncomputable def k218 (P : Params) : Obj := ⟨(.type "function"), none, (.func { name := (PySem.Str.ofString "__bytes__"), qualname := (PySem.Str.ofString "Headers.__bytes__"), params := fnParams [10, 14], body := .stmts (fnBody [10, 14]), scope := fnScope [10, 14], globals := 3, closure := [], defaults := .none, kwdefaults := .none, doc := .none, pyModule := (.str (PySem.Str.ofString "cpy313.wsgiref.headers") 2317), annotations := none, code := (.ref 217), closureTuple := .none, builtins := 0 }), #[]⟩
noncomputable def k219 (P : Params) : Obj := ⟨(.type "tuple"), none, (.seq #[] 0), #[]⟩
noncomputable def k221 (P : Params) : Obj := ⟨(.type "tuple"), none, (.seq #[(.str (PySem.Str.ofString "self") 2510), (.str (PySem.Str.ofString "name") 2511), (.str (PySem.Str.ofString "value") 2512), (.str (PySem.Str.ofString "result") 2513)] 0), #[]⟩
noncomputable def k222 (P : Params) : Obj := ⟨(.type "tuple"), none, (.seq #[] 0), #[]⟩
noncomputable def k224 (P : Params) : Obj := ⟨(.type "code"), none, (.fields #[(.str (PySem.Str.ofString "setdefault") 2507), (.str (PySem.Str.ofString "Headers.setdefault") 2508), (.str (PySem.Str.ofString "/claim/cut.py") 2509), (.int 83 0), (.int 3 0), (.int 0 0), (.int 0 0), (.int 3 0), (.ref 219), (.bool true), (.int 276 0), (.ref 220), .none, (.ref 221), (.ref 222), (.ref 223), (.int 2514 0), (.int 83 0), (.str (PySem.Str.ofString "/claim/cut.py") 2515)]), #[]⟩
noncomputable def k225 (P : Params) : Obj := ⟨(.type "function"), none, (.func { name := (PySem.Str.ofString "setdefault"), qualname := (PySem.Str.ofString "Headers.setdefault"), params := fnParams [10, 15], body := .stmts (fnBody [10, 15]), scope := fnScope [10, 15], globals := 3, closure := [], defaults := .none, kwdefaults := .none, doc := .none, pyModule := (.str (PySem.Str.ofString "cpy313.wsgiref.headers") 2317), annotations := none, code := (.ref 224), closureTuple := .none, builtins := 0 }), #[]⟩
noncomputable def k226 (P : Params) : Obj := ⟨(.type "tuple"), none, (.seq #[] 0), #[]⟩
noncomputable def k228 (P : Params) : Obj := ⟨(.type "tuple"), none, (.seq #[(.str (PySem.Str.ofString "self") 2520), (.str (PySem.Str.ofString "_name") 2521), (.str (PySem.Str.ofString "_value") 2522), (.str (PySem.Str.ofString "_params") 2523)] 0), #[]⟩
noncomputable def k229 (P : Params) : Obj := ⟨(.type "tuple"), none, (.seq #[] 0), #[]⟩
noncomputable def k231 (P : Params) : Obj := ⟨(.type "code"), none, (.fields #[(.str (PySem.Str.ofString "add_header") 2517), (.str (PySem.Str.ofString "Headers.add_header") 2518), (.str (PySem.Str.ofString "/claim/cut.py") 2519), (.int 91 0), (.int 3 0), (.int 0 0), (.int 0 0), (.int 11 0), (.ref 226), (.bool true), (.int 276 0), (.ref 227), .none, (.ref 228), (.ref 229), (.ref 230), (.int 2524 0), (.int 91 0), (.str (PySem.Str.ofString "/claim/cut.py") 2525)]), #[]⟩
noncomputable def k232 (P : Params) : Obj := ⟨(.type "function"), none, (.func { name := (PySem.Str.ofString "add_header"), qualname := (PySem.Str.ofString "Headers.add_header"), params := fnParams [10, 16], body := .stmts (fnBody [10, 16]), scope := fnScope [10, 16], globals := 3, closure := [], defaults := .none, kwdefaults := .none, doc := .none, pyModule := (.str (PySem.Str.ofString "cpy313.wsgiref.headers") 2317), annotations := none, code := (.ref 231), closureTuple := .none, builtins := 0 }), #[]⟩
noncomputable def k233 (P : Params) : Obj := ⟨(.type "tuple"), none, (.seq #[(.str (PySem.Str.ofString "_headers") 2527)] 0), #[]⟩
noncomputable def k234 (P : Params) : Obj := ⟨(.type "dict"), none, (.dict #[⟨(PyData.keyHash P (PySem.Str.ofString "__module__")), (.str (PySem.Str.ofString "__module__") 2386), (.str (PySem.Str.ofString "cpy313.wsgiref.headers") 2317)⟩, ⟨(PyData.keyHash P (PySem.Str.ofString "__firstlineno__")), (.str (PySem.Str.ofString "__firstlineno__") 2390), (.int 18 2389)⟩, ⟨(PyData.keyHash P (PySem.Str.ofString "__init__")), (.str (PySem.Str.ofString "__init__") 2400), (.ref 127)⟩, ⟨(PyData.keyHash P (PySem.Str.ofString "_convert_string_type")), (.str (PySem.Str.ofString "_convert_string_type") 2410), (.ref 134)⟩, ⟨(PyData.keyHash P (PySem.Str.ofString "__len__")), (.str (PySem.Str.ofString "__len__") 2417), (.ref 141)⟩, ⟨(PyData.keyHash P (PySem.Str.ofString "__setitem__")), (.str (PySem.Str.ofString "__setitem__") 2426), (.ref 148)⟩, ⟨(PyData.keyHash P (PySem.Str.ofString "__delitem__")), (.str (PySem.Str.ofString "__delitem__") 2432), (.ref 153)⟩, ⟨(PyData.keyHash P (PySem.Str.ofString "__getitem__")), (.str (PySem.Str.ofString "__getitem__") 2440), (.ref 160)⟩, ⟨(PyData.keyHash P (PySem.Str.ofString "__contains__")), (.str (PySem.Str.ofString "__contains__") 2448), (.ref 167)⟩, ⟨(PyData.keyHash P (PySem.Str.ofString "get_all")), (.str (PySem.Str.ofString "get_all") 2456), (.ref 174)⟩, ⟨(PyData.keyHash P (PySem.Str.ofString "get")), (.str (PySem.Str.ofString "get") 2467), (.ref 182)⟩, ⟨(PyData.keyHash P (PySem.Str.ofString "keys")), (.str (PySem.Str.ofString "keys") 2473), (.ref 187)⟩, ⟨(PyData.keyHash P (PySem.Str.ofString "values")), (.str (PySem.Str.ofString "values") 2479), (.ref 192)⟩, ⟨(PyData.keyHash P (PySem.Str.ofString "items")), (.str (PySem.Str.ofString "items") 2486), (.ref 199)⟩, ⟨(PyData.keyHash P (PySem.Str.ofString "__repr__")), (.str (PySem.Str.ofString "__repr__") 2493), (.ref 206)⟩, ⟨(PyData.keyHash P (PySem.Str.ofString "__str__")), (.str (PySem.Str.ofString "__str__") 2499), (.ref 211)⟩, ⟨(PyData.keyHash P (PySem.Str.ofString "__bytes__")), (.str (PySem.Str.ofString "__bytes__") 2506), (.ref 218)⟩, ⟨(PyData.keyHash P (PySem.Str.ofString "setdefault")), (.str (PySem.Str.ofString "setdefault") 2516), (.ref 225)⟩, ⟨(PyData.keyHash P (PySem.Str.ofString "add_header")), (.str (PySem.Str.ofString "add_header") 2526), (.ref 232)⟩, ⟨(PyData.keyHash P (PySem.Str.ofString "__static_attributes__")), (.str (PySem.Str.ofString "__static_attributes__") 2528), (.ref 233)⟩, ⟨(PyData.keyHash P (PySem.Str.ofString "__dict__")), (.str (PySem.Str.ofString "__dict__") 2530), (.ref 236)⟩, ⟨(PyData.keyHash P (PySem.Str.ofString "__weakref__")), (.str (PySem.Str.ofString "__weakref__") 2532), (.ref 237)⟩, ⟨(PyData.keyHash P (PySem.Str.ofString "__doc__")), (.str (PySem.Str.ofString "__doc__") 2533), .none⟩] 4), #[]⟩
noncomputable def k235 (P : Params) : Obj := ⟨(.type "type"), none, (.cls { name := (PySem.Str.ofString "Headers"), bases := [(.type "object")], mro := [(.ref 235), (.type "object")], ns := 234, qualname := (PySem.Str.ofString "Headers"), hasDict := true, slotNames := [], subclasses := [], abstract := false, collection := none, hasDel := false }), #[none, none, (some (.str (PySem.Str.ofString "Headers") 2379)), (some (.str (PySem.Str.ofString "Headers") 2387)), (some (.builtin "object.__new__")), (some (.bool true))]⟩
noncomputable def k236 (P : Params) : Obj := ⟨(.type "getset_descriptor"), none, (.fields #[(.str (PySem.Str.ofString "__dict__") 2529), (.ref 235), (.builtin "function.__dict__"), (.builtin "function.__dict__#set")]), #[]⟩
noncomputable def k237 (P : Params) : Obj := ⟨(.type "getset_descriptor"), none, (.fields #[(.str (PySem.Str.ofString "__weakref__") 2531), (.ref 235), (.builtin "ExceptionGroup.__weakref__"), .none]), #[]⟩
noncomputable def k240 (P : Params) : Obj := ⟨(.type "tuple"), none, (.seq #[] 0), #[]⟩
noncomputable def k242 (P : Params) : Obj := ⟨(.type "tuple"), none, (.seq #[(.str (PySem.Str.ofString "text") 2541)] 0), #[]⟩
noncomputable def k243 (P : Params) : Obj := ⟨(.type "tuple"), none, (.seq #[] 0), #[]⟩
noncomputable def k245 (P : Params) : Obj := ⟨(.type "code"), none, (.fields #[(.str (PySem.Str.ofString "_raise_serialization_error") 2538), (.str (PySem.Str.ofString "_raise_serialization_error") 2539), (.str (PySem.Str.ofString "/claim/cut.py") 2540), (.int 94 0), (.int 1 0), (.int 0 0), (.int 0 0), (.int 3 0), (.ref 240), (.bool true), (.int 276 0), (.ref 241), .none, (.ref 242), (.ref 243), (.ref 244), (.int 2542 0), (.int 94 0), (.str (PySem.Str.ofString "/claim/cut.py") 2543)]), #[]⟩
noncomputable def k246 (P : Params) : Obj := ⟨(.type "function"), none, (.func { name := (PySem.Str.ofString "_raise_serialization_error"), qualname := (PySem.Str.ofString "_raise_serialization_error"), params := fnParams [12], body := .stmts (fnBody [12]), scope := fnScope [12], globals := 3, closure := [], defaults := .none, kwdefaults := .none, doc := .none, pyModule := (.str (PySem.Str.ofString "cpy313.xml.etree.ElementTree") 2536), annotations := none, code := (.ref 245), closureTuple := .none, builtins := 0 }), #[]⟩
noncomputable def k247 (P : Params) : Obj := ⟨(.type "tuple"), none, (.seq #[] 0), #[]⟩
noncomputable def k249 (P : Params) : Obj := ⟨(.type "tuple"), none, (.seq #[(.str (PySem.Str.ofString "text") 2548)] 0), #[]⟩
noncomputable def k250 (P : Params) : Obj := ⟨(.type "tuple"), none, (.seq #[] 0), #[]⟩
noncomputable def k252 (P : Params) : Obj := ⟨(.type "code"), none, (.fields #[(.str (PySem.Str.ofString "_escape_attrib_c14n") 2545), (.str (PySem.Str.ofString "_escape_attrib_c14n") 2546), (.str (PySem.Str.ofString "/claim/cut.py") 2547), (.int 96 0), (.int 1 0), (.int 0 0), (.int 0 0), (.int 3 0), (.ref 247), (.bool true), (.int 276 0), (.ref 248), .none, (.ref 249), (.ref 250), (.ref 251), (.int 2549 0), (.int 96 0), (.str (PySem.Str.ofString "/claim/cut.py") 2550)]), #[]⟩
noncomputable def k253 (P : Params) : Obj := ⟨(.type "function"), none, (.func { name := (PySem.Str.ofString "_escape_attrib_c14n"), qualname := (PySem.Str.ofString "_escape_attrib_c14n"), params := fnParams [13], body := .stmts (fnBody [13]), scope := fnScope [13], globals := 3, closure := [], defaults := .none, kwdefaults := .none, doc := .none, pyModule := (.str (PySem.Str.ofString "cpy313.xml.etree.ElementTree") 2536), annotations := none, code := (.ref 252), closureTuple := .none, builtins := 0 }), #[]⟩
noncomputable def k254 (P : Params) : Obj := ⟨(.type "tuple"), none, (.seq #[] 0), #[]⟩
noncomputable def k256 (P : Params) : Obj := ⟨(.type "tuple"), none, (.seq #[(.str (PySem.Str.ofString "script") 2557), (.str (PySem.Str.ofString "cells") 2558), (.str (PySem.Str.ofString "at") 2559), (.str (PySem.Str.ofString "number") 2560)] 0), #[]⟩
noncomputable def k257 (P : Params) : Obj := ⟨(.type "tuple"), none, (.seq #[] 0), #[]⟩
noncomputable def k259 (P : Params) : Obj := ⟨(.type "code"), none, (.fields #[(.str (PySem.Str.ofString "_law_cells") 2554), (.str (PySem.Str.ofString "_law_cells") 2555), (.str (PySem.Str.ofString "/claim/cut.py") 2556), (.int 114 0), (.int 1 0), (.int 0 0), (.int 0 0), (.int 3 0), (.ref 254), (.bool true), (.int 276 0), (.ref 255), .none, (.ref 256), (.ref 257), (.ref 258), (.int 2561 0), (.int 114 0), (.str (PySem.Str.ofString "/claim/cut.py") 2562)]), #[]⟩
noncomputable def k260 (P : Params) : Obj := ⟨(.type "function"), none, (.func { name := (PySem.Str.ofString "_law_cells"), qualname := (PySem.Str.ofString "_law_cells"), params := fnParams [15], body := .stmts (fnBody [15]), scope := fnScope [15], globals := 3, closure := [], defaults := .none, kwdefaults := .none, doc := .none, pyModule := (.str (PySem.Str.ofString "law_un0048_02") 2552), annotations := none, code := (.ref 259), closureTuple := .none, builtins := 0 }), #[]⟩
noncomputable def k261 (P : Params) : Obj := ⟨(.type "tuple"), none, (.seq #[] 0), #[]⟩
noncomputable def k264 (P : Params) : Obj := ⟨(.type "code"), none, (.fields #[(.str (PySem.Str.ofString "_law_text") 2564), (.str (PySem.Str.ofString "_law_text") 2565), (.str (PySem.Str.ofString "/claim/cut.py") 2566), (.int 119 0), (.int 1 0), (.int 0 0), (.int 0 0), (.int 3 0), (.ref 261), (.bool true), (.int 276 0), (.ref 262), .none, .none, .none, (.ref 263), (.int 2567 0), (.int 119 0), (.str (PySem.Str.ofString "/claim/cut.py") 2568)]), #[]⟩
noncomputable def k265 (P : Params) : Obj := ⟨(.type "function"), none, (.func { name := (PySem.Str.ofString "_law_text"), qualname := (PySem.Str.ofString "_law_text"), params := fnParams [16], body := .stmts (fnBody [16]), scope := fnScope [16], globals := 3, closure := [], defaults := .none, kwdefaults := .none, doc := .none, pyModule := (.str (PySem.Str.ofString "law_un0048_02") 2552), annotations := none, code := (.ref 264), closureTuple := .none, builtins := 0 }), #[]⟩
noncomputable def k266 (P : Params) : Obj := ⟨(.type "tuple"), none, (.seq #[] 0), #[]⟩
noncomputable def k268 (P : Params) : Obj := ⟨(.type "tuple"), none, (.seq #[(.str (PySem.Str.ofString "first") 2573), (.str (PySem.Str.ofString "table") 2574), (.str (PySem.Str.ofString "signs") 2575), (.str (PySem.Str.ofString "sign") 2576), (.str (PySem.Str.ofString "name") 2577)] 0), #[]⟩
noncomputable def k269 (P : Params) : Obj := ⟨(.type "tuple"), none, (.seq #[] 0), #[]⟩
noncomputable def k271 (P : Params) : Obj := ⟨(.type "code"), none, (.fields #[(.str (PySem.Str.ofString "_law_table") 2570), (.str (PySem.Str.ofString "_law_table") 2571), (.str (PySem.Str.ofString "/claim/cut.py") 2572), (.int 122 0), (.int 1 0), (.int 0 0), (.int 0 0), (.int 3 0), (.ref 266), (.bool true), (.int 276 0), (.ref 267), .none, (.ref 268), (.ref 269), (.ref 270), (.int 2578 0), (.int 122 0), (.str (PySem.Str.ofString "/claim/cut.py") 2579)]), #[]⟩
noncomputable def k272 (P : Params) : Obj := ⟨(.type "function"), none, (.func { name := (PySem.Str.ofString "_law_table"), qualname := (PySem.Str.ofString "_law_table"), params := fnParams [17], body := .stmts (fnBody [17]), scope := fnScope [17], globals := 3, closure := [], defaults := .none, kwdefaults := .none, doc := .none, pyModule := (.str (PySem.Str.ofString "law_un0048_02") 2552), annotations := none, code := (.ref 271), closureTuple := .none, builtins := 0 }), #[]⟩
noncomputable def k273 (P : Params) : Obj := ⟨(.type "tuple"), none, (.seq #[] 0), #[]⟩
noncomputable def k275 (P : Params) : Obj := ⟨(.type "tuple"), none, (.seq #[(.str (PySem.Str.ofString "table") 2584), (.str (PySem.Str.ofString "text") 2585), (.str (PySem.Str.ofString "at") 2586), (.str (PySem.Str.ofString "sign") 2587), (.str (PySem.Str.ofString "folded") 2588), (.str (PySem.Str.ofString "name") 2589), (.str (PySem.Str.ofString "found") 2590)] 0), #[]⟩
noncomputable def k276 (P : Params) : Obj := ⟨(.type "tuple"), none, (.seq #[] 0), #[]⟩
noncomputable def k278 (P : Params) : Obj := ⟨(.type "code"), none, (.fields #[(.str (PySem.Str.ofString "_law_step") 2581), (.str (PySem.Str.ofString "_law_step") 2582), (.str (PySem.Str.ofString "/claim/cut.py") 2583), (.int 132 0), (.int 3 0), (.int 0 0), (.int 0 0), (.int 3 0), (.ref 273), (.bool true), (.int 276 0), (.ref 274), .none, (.ref 275), (.ref 276), (.ref 277), (.int 2591 0), (.int 132 0), (.str (PySem.Str.ofString "/claim/cut.py") 2592)]), #[]⟩
noncomputable def k279 (P : Params) : Obj := ⟨(.type "function"), none, (.func { name := (PySem.Str.ofString "_law_step"), qualname := (PySem.Str.ofString "_law_step"), params := fnParams [18], body := .stmts (fnBody [18]), scope := fnScope [18], globals := 3, closure := [], defaults := .none, kwdefaults := .none, doc := .none, pyModule := (.str (PySem.Str.ofString "law_un0048_02") 2552), annotations := none, code := (.ref 278), closureTuple := .none, builtins := 0 }), #[]⟩
noncomputable def k280 (P : Params) : Obj := ⟨(.type "tuple"), none, (.seq #[] 0), #[]⟩
noncomputable def k282 (P : Params) : Obj := ⟨(.type "tuple"), none, (.seq #[(.str (PySem.Str.ofString "table") 2597), (.str (PySem.Str.ofString "text") 2598), (.str (PySem.Str.ofString "places") 2599), (.str (PySem.Str.ofString "turn") 2600), (.str (PySem.Str.ofString "tried") 2601), (.str (PySem.Str.ofString "at") 2602), (.str (PySem.Str.ofString "gone") 2603), (.str (PySem.Str.ofString "come") 2604)] 0), #[]⟩
noncomputable def k283 (P : Params) : Obj := ⟨(.type "tuple"), none, (.seq #[] 0), #[]⟩
noncomputable def k285 (P : Params) : Obj := ⟨(.type "code"), none, (.fields #[(.str (PySem.Str.ofString "_law_end") 2594), (.str (PySem.Str.ofString "_law_end") 2595), (.str (PySem.Str.ofString "/claim/cut.py") 2596), (.int 148 0), (.int 3 0), (.int 0 0), (.int 0 0), (.int 3 0), (.ref 280), (.bool true), (.int 276 0), (.ref 281), .none, (.ref 282), (.ref 283), (.ref 284), (.int 2605 0), (.int 148 0), (.str (PySem.Str.ofString "/claim/cut.py") 2606)]), #[]⟩
noncomputable def k286 (P : Params) : Obj := ⟨(.type "function"), none, (.func { name := (PySem.Str.ofString "_law_end"), qualname := (PySem.Str.ofString "_law_end"), params := fnParams [19], body := .stmts (fnBody [19]), scope := fnScope [19], globals := 3, closure := [], defaults := .none, kwdefaults := .none, doc := .none, pyModule := (.str (PySem.Str.ofString "law_un0048_02") 2552), annotations := none, code := (.ref 285), closureTuple := .none, builtins := 0 }), #[]⟩
noncomputable def k287 (P : Params) : Obj := ⟨(.type "tuple"), none, (.seq #[] 0), #[]⟩
noncomputable def k289 (P : Params) : Obj := ⟨(.type "tuple"), none, (.seq #[(.str (PySem.Str.ofString "text") 2611), (.str (PySem.Str.ofString "folds") 2612), (.str (PySem.Str.ofString "read") 2613), (.str (PySem.Str.ofString "pile") 2614), (.str (PySem.Str.ofString "sign") 2615), (.str (PySem.Str.ofString "parts") 2616)] 0), #[]⟩
noncomputable def k290 (P : Params) : Obj := ⟨(.type "tuple"), none, (.seq #[] 0), #[]⟩
noncomputable def k292 (P : Params) : Obj := ⟨(.type "code"), none, (.fields #[(.str (PySem.Str.ofString "_law_one_pass") 2608), (.str (PySem.Str.ofString "_law_one_pass") 2609), (.str (PySem.Str.ofString "/claim/cut.py") 2610), (.int 161 0), (.int 1 0), (.int 0 0), (.int 0 0), (.int 3 0), (.ref 287), (.bool true), (.int 276 0), (.ref 288), .none, (.ref 289), (.ref 290), (.ref 291), (.int 2617 0), (.int 161 0), (.str (PySem.Str.ofString "/claim/cut.py") 2618)]), #[]⟩
noncomputable def k293 (P : Params) : Obj := ⟨(.type "function"), none, (.func { name := (PySem.Str.ofString "_law_one_pass"), qualname := (PySem.Str.ofString "_law_one_pass"), params := fnParams [20], body := .stmts (fnBody [20]), scope := fnScope [20], globals := 3, closure := [], defaults := .none, kwdefaults := .none, doc := .none, pyModule := (.str (PySem.Str.ofString "law_un0048_02") 2552), annotations := none, code := (.ref 292), closureTuple := .none, builtins := 0 }), #[]⟩
noncomputable def k294 (P : Params) : Obj := ⟨(.type "tuple"), none, (.seq #[] 0), #[]⟩
noncomputable def k297 (P : Params) : Obj := ⟨(.type "code"), none, (.fields #[(.str (PySem.Str.ofString "law") 2620), (.str (PySem.Str.ofString "law") 2621), (.str (PySem.Str.ofString "/claim/cut.py") 2622), (.int 172 0), (.int 1 0), (.int 0 0), (.int 0 0), (.int 3 0), (.ref 294), (.bool true), (.int 276 0), (.ref 295), .none, .none, .none, (.ref 296), (.int 2623 0), (.int 172 0), (.str (PySem.Str.ofString "/claim/cut.py") 2624)]), #[]⟩
noncomputable def k298 (P : Params) : Obj := ⟨(.type "function"), none, (.func { name := (PySem.Str.ofString "law"), qualname := (PySem.Str.ofString "law"), params := fnParams [21], body := .stmts (fnBody [21]), scope := fnScope [21], globals := 3, closure := [], defaults := .none, kwdefaults := .none, doc := .none, pyModule := (.str (PySem.Str.ofString "law_un0048_02") 2552), annotations := none, code := (.ref 297), closureTuple := .none, builtins := 0 }), #[]⟩
@[irreducible] noncomputable def heapK (P : Params) : Frag := (nat_lit 2, z2 P) :: (nat_lit 3, k3 P) :: (nat_lit 32, a32 P) :: (nat_lit 34, a34 P) :: (nat_lit 35, a35 P) :: (nat_lit 37, a37 P) :: (nat_lit 38, a38 P) :: (nat_lit 46, a46 P) :: (nat_lit 50, a50 P) :: (nat_lit 52, a52 P) :: (nat_lit 53, a53 P) :: (nat_lit 55, a55 P) :: (nat_lit 56, a56 P) :: (nat_lit 96, k96 P) :: (nat_lit 98, k98 P) :: (nat_lit 99, k99 P) :: (nat_lit 101, k101 P) :: (nat_lit 102, k102 P) :: (nat_lit 106, k106 P) :: (nat_lit 107, k107 P) :: (nat_lit 111, k111 P) :: (nat_lit 112, k112 P) :: (nat_lit 120, k120 P) :: (nat_lit 121, k121 P) :: (nat_lit 123, k123 P) :: (nat_lit 124, k124 P) :: (nat_lit 126, k126 P) :: (nat_lit 127, k127 P) :: (nat_lit 128, k128 P) :: (nat_lit 130, k130 P) :: (nat_lit 131, k131 P) :: (nat_lit 133, k133 P) :: (nat_lit 134, k134 P) :: (nat_lit 135, k135 P) :: (nat_lit 137, k137 P) :: (nat_lit 138, k138 P) :: (nat_lit 140, k140 P) :: (nat_lit 141, k141 P) :: (nat_lit 142, k142 P) :: (nat_lit 144, k144 P) :: (nat_lit 145, k145 P) :: (nat_lit 147, k147 P) :: (nat_lit 148, k148 P) :: (nat_lit 149, k149 P) :: (nat_lit 152, k152 P) :: (nat_lit 153, k153 P) :: (nat_lit 154, k154 P) :: (nat_lit 156, k156 P) :: (nat_lit 157, k157 P) :: (nat_lit 159, k159 P) :: (nat_lit 160, k160 P) :: (nat_lit 161, k161 P) :: (nat_lit 163, k163 P) :: (nat_lit 164, k164 P) :: (nat_lit 166, k166 P) :: (nat_lit 167, k167 P) :: (nat_lit 168, k168 P) :: (nat_lit 170, k170 P) :: (nat_lit 171, k171 P) :: (nat_lit 173, k173 P) :: (nat_lit 174, k174 P) :: (nat_lit 175, k175 P) :: (nat_lit 176, k176 P) :: (nat_lit 178, k178 P) :: (nat_lit 179, k179 P) :: (nat_lit 181, k181 P) :: (nat_lit 182, k182 P) :: (nat_lit 183, k183 P) :: (nat_lit 186, k186 P) :: (nat_lit 187, k187 P) :: (nat_lit 188, k188 P) :: (nat_lit 191, k191 P) :: (nat_lit 192, k192 P) :: (nat_lit 193, k193 P) :: (nat_lit 195, k195 P) :: (nat_lit 196, k196 P) :: (nat_lit 198, k198 P) :: (nat_lit 199, k199 P) :: (nat_lit 200, k200 P) :: (nat_lit 202, k202 P) :: (nat_lit 203, k203 P) :: (nat_lit 205, k205 P) :: (nat_lit 206, k206 P) :: (nat_lit 207, k207 P) :: (nat_lit 210, k210 P) :: (nat_lit 211, k211 P) :: (nat_lit 212, k212 P) :: (nat_lit 214, k214 P) :: (nat_lit 215, k215 P) :: (nat_lit 217, k217 P) :: (nat_lit 218, k218 P) :: (nat_lit 219, k219 P) :: (nat_lit 221, k221 P) :: (nat_lit 222, k222 P) :: (nat_lit 224, k224 P) :: (nat_lit 225, k225 P) :: (nat_lit 226, k226 P) :: (nat_lit 228, k228 P) :: (nat_lit 229, k229 P) :: (nat_lit 231, k231 P) :: (nat_lit 232, k232 P) :: (nat_lit 233, k233 P) :: (nat_lit 234, k234 P) :: (nat_lit 235, k235 P) :: (nat_lit 236, k236 P) :: (nat_lit 237, k237 P) :: (nat_lit 240, k240 P) :: (nat_lit 242, k242 P) :: (nat_lit 243, k243 P) :: (nat_lit 245, k245 P) :: (nat_lit 246, k246 P) :: (nat_lit 247, k247 P) :: (nat_lit 249, k249 P) :: (nat_lit 250, k250 P) :: (nat_lit 252, k252 P) :: (nat_lit 253, k253 P) :: (nat_lit 254, k254 P) :: (nat_lit 256, k256 P) :: (nat_lit 257, k257 P) :: (nat_lit 259, k259 P) :: (nat_lit 260, k260 P) :: (nat_lit 261, k261 P) :: (nat_lit 264, k264 P) :: (nat_lit 265, k265 P) :: (nat_lit 266, k266 P) :: (nat_lit 268, k268 P) :: (nat_lit 269, k269 P) :: (nat_lit 271, k271 P) :: (nat_lit 272, k272 P) :: (nat_lit 273, k273 P) :: (nat_lit 275, k275 P) :: (nat_lit 276, k276 P) :: (nat_lit 278, k278 P) :: (nat_lit 279, k279 P) :: (nat_lit 280, k280 P) :: (nat_lit 282, k282 P) :: (nat_lit 283, k283 P) :: (nat_lit 285, k285 P) :: (nat_lit 286, k286 P) :: (nat_lit 287, k287 P) :: (nat_lit 289, k289 P) :: (nat_lit 290, k290 P) :: (nat_lit 292, k292 P) :: (nat_lit 293, k293 P) :: (nat_lit 294, k294 P) :: (nat_lit 297, k297 P) :: (nat_lit 298, k298 P) :: []
noncomputable def addrK : List Addr := [2, 3, 32, 34, 35, 37, 38, 46, 50, 52, 53, 55, 56, 96, 98, 99, 101, 102, 106, 107, 111, 112, 120, 121, 123, 124, 126, 127, 128, 130, 131, 133, 134, 135, 137, 138, 140, 141, 142, 144, 145, 147, 148, 149, 152, 153, 154, 156, 157, 159, 160, 161, 163, 164, 166, 167, 168, 170, 171, 173, 174, 175, 176, 178, 179, 181, 182, 183, 186, 187, 188, 191, 192, 193, 195, 196, 198, 199, 200, 202, 203, 205, 206, 207, 210, 211, 212, 214, 215, 217, 218, 219, 221, 222, 224, 225, 226, 228, 229, 231, 232, 233, 234, 235, 236, 237, 240, 242, 243, 245, 246, 247, 249, 250, 252, 253, 254, 256, 257, 259, 260, 261, 264, 265, 266, 268, 269, 271, 272, 273, 275, 276, 278, 279, 280, 282, 283, 285, 286, 287, 289, 290, 292, 293, 294, 297, 298]
end Mine
end

section
open PySem PySem.W PyProof.Rows PySem.Calls
set_option maxRecDepth 100000
set_option Elab.async false
set_option linter.unusedVariables false
noncomputable section
namespace Mine
noncomputable abbrev qTab := PySem.W.Fast.tw14364793385576792824
noncomputable abbrev qDen := PySem.W.Fast.tw11892475500146522536 qTab
noncomputable abbrev qExecs := PySem.W.Fast.tw12563942051412417395
noncomputable def modelQ (w : World) : Model := ⟨qDen, prg, w⟩
noncomputable def os0 : OsState := { stdin := prg.given.stdin.toArray }
@[irreducible] noncomputable def S0 (w : World) : Shared := { heap := { objs := (zObjs w.params).toArray }, toks := 276, os := os0 }
@[irreducible] noncomputable def opened (w : World) : Option Shared :=
  (PySem.W.Fast.tw10274390034422433532 qTab (opening prg) w 1000 (PySem.W.Fast.tw1435165496053646825 (opening prg)).1 (PySem.W.Fast.tw1435165496053646825 (opening prg)).2).bind (PySem.W.Fast.tw14289696077712309145 prg)
theorem opened_eq : ∀ w : World, opened w = some (S0 w) := by intro w; kernel_rfl
noncomputable def ctx0 : Ctx := Ctx.of (.builtin "claim.caller" {}) []
@[irreducible] noncomputable def topEnv : Env := { scope := prg.main.scope, locals := mainNs, globals := mainNs, cells := [], code := .ref 30, frame := some 31 }
@[irreducible] noncomputable def body : List Stmt := behindTheImports prg
@[irreducible] noncomputable def ctx1 : Ctx := ctx0.enter (.body body topEnv) none default
@[irreducible] noncomputable def SA (w : World) : Shared := { heap := { objs := (aObjs w.params).toArray }, toks := 358, os := os0 }
noncomputable def posA : Pos := ⟨7, 0, 8, 30⟩
@[irreducible] noncomputable def partA (w : World) : Option (Value × Addr × Pos × Pos × Shared) :=
  match evS (modelQ w) (evC (modelQ w) 50) ctx0 (PySem.W.Fast.tw17154629097778926822 prg.main prg.main.file none) default (S0 w) with
  | some (.ok code, p, s) => match evS (modelQ w) (evC (modelQ w) 50) ctx0 (PySem.W.Fast.tw12822647523644345616 code mainNs mainNs builtinsNs) p s with
    | some (.ok frame, p₂, s) => match evS (modelQ w) (evC (modelQ w) 50) ctx1 (PySem.W.Fast.tw1066825118222455980 body topEnv) p₂ s with
      | some (.ok _, p, s) => match evS (modelQ w) (evC (modelQ w) 50) ctx1 (qExecs (body.take 4) topEnv) p s with
        | some (.ok .next, p, s) => some (code, frame, p₂, p, s)
        | _ => none
      | _ => none
    | _ => none
  | _ => none
noncomputable abbrev wSide (b c : Bool) (w : World) : World := (w.withFollow "special-get-raises" c).withFollow "set-order" b
theorem partA_ff : ∀ w : World, partA (wSide false false w) = some (.ref 30, 31, default, posA, SA (wSide false false w)) := by intro w; kernel_rfl
theorem partA_ft : ∀ w : World, partA (wSide false true w) = some (.ref 30, 31, default, posA, SA (wSide false true w)) := by intro w; kernel_rfl
theorem partA_tf : ∀ w : World, partA (wSide true false w) = some (.ref 30, 31, default, posA, SA (wSide true false w)) := by intro w; kernel_rfl
theorem partA_tt : ∀ w : World, partA (wSide true true w) = some (.ref 30, 31, default, posA, SA (wSide true true w)) := by intro w; kernel_rfl
theorem partA_eq : ∀ w : World, partA w = some (.ref 30, 31, default, posA, SA w) :=
  byRow2 "set-order" (byRow2 "special-get-raises" partA_ff partA_ft) (byRow2 "special-get-raises" partA_tf partA_tt)
end Mine
end

section
open PySem PySem.W PyProof.Rows PySem.Calls
set_option maxRecDepth 100000
set_option Elab.async false
set_option linter.unusedVariables false
noncomputable section
namespace Mine
@[irreducible] noncomputable def dTargets : List Expr := match (body[4]? : Option Stmt) with | some (.Assign ts _ _) => ts | _ => []
@[irreducible] noncomputable def dPos : Pos := match (body[4]? : Option Stmt) with | some (.Assign _ _ p) => p | _ => default
@[irreducible] noncomputable def dKs : List (Option Expr) := match (body[4]? : Option Stmt) with | some (.Assign _ (.Dict ks _ _) _) => ks | _ => []
@[irreducible] noncomputable def dVs : List Expr := match (body[4]? : Option Stmt) with | some (.Assign _ (.Dict _ vs _) _) => vs | _ => []
@[irreducible] noncomputable def dDPos : Pos := match (body[4]? : Option Stmt) with | some (.Assign _ (.Dict _ _ p) _) => p | _ => default
theorem body_split : body = body.take 4 ++ (.Assign dTargets (.Dict dKs dVs dDPos) dPos) :: body.drop 5 := by kernel_rfl
noncomputable def asgRest (v : Value) : Sem Flow := do assignStores topEnv v (← swappedStores dTargets (.Dict dKs dVs dDPos) topEnv) ((assignEach dTargets topEnv).map (·.2))
@[irreducible] noncomputable def SB (o : Nat → Obj) (lf : Life) (w : World) : Shared := { heap := { objs := (aObjs w.params ++ (List.range 39).map o).toArray, life := lf }, toks := 2308, os := os0 }
@[irreducible] noncomputable def partC (w : World) (o : Nat → Obj) (lf : Life) (p : Pos) : Option (Pos × Shared) :=
  match evS (modelQ w) (evC (modelQ w) 50) ctx1 (asgRest (.ref 57)) p (SB o lf w) with
  | some (.ok .next, p, s) => match evS (modelQ w) (evC (modelQ w) 50) ctx1 (qExecs (body.drop 5) topEnv) p s with
    | some (.ok .next, p, s) => some (p, s)
    | _ => none
  | _ => none
noncomputable def keepV : List Nat := [0, 1, 4, 6, 8, 9, 10, 12, 13, 15, 16, 17, 18, 19, 20, 21]
noncomputable def vw : Program := view prg keepV
@[irreducible] noncomputable def looseV : List Str := [Str.ofString "b1_set", Str.ofString "b3_exceptions", Str.ofString "_name_disallowed_re", Str.ofString "_value_disallowed_re"]
noncomputable def recs : WRecords := []
@[irreducible] noncomputable def XtV (s : Shared) : Bool := xlAt vw [] s && recOk recs s
end Mine
end

section
open PySem PySem.W PyProof.Rows PySem.Calls
set_option maxRecDepth 100000
set_option Elab.async false
set_option linter.unusedVariables false
noncomputable section
namespace Mine
@[irreducible] noncomputable def looks1 (w : World) (s : Shared) : Bool := staticsOk (importedModules prg.main.body) (S0 w).heap s.heap && namesBound prg s.heap && gensDone s && laidKept (S0 w).heap s.heap
@[irreducible] noncomputable def keptAt (h : Heap) : List (Option Obj) := ((List.range 28).filter fun b => b != 2 && b != 3).map fun b => h.objs[b]?
theorem partC_all : ∀ (w : World) (o : Nat → Obj) (lf : Life) (p : Pos), (partC w o lf p).map (fun x => (looks1 w x.2, PySem.W.Fast.tw4187177175401517315 vw looseV (importedModules prg.main.body) XtV true x.2,
    addrK.map x.2.heap.get?, x.2.heap.get? 46, x.2.heap.objs[57]?, keptAt x.2.heap, x.2.heap.life, x.2.gens, x.2.os)) =
    some (true, openGood vw looseV, (heapK w.params).map (fun p => some p.2), some (a46 w.params), some (o 0), keptAt (S0 w).heap, lf, #[], os0) := by intro w o lf p; kernel_rfl
end Mine
end

section
open PySem PySem.W PyProof.Rows PySem.Calls
set_option maxRecDepth 100000
set_option Elab.async false
set_option linter.unusedVariables false
noncomputable section
namespace Mine
theorem hM (w : World) : modelQ w = model prg w := by
  show (⟨qDen, prg, w⟩ : Model) = ⟨denote table, prg, w⟩
  rw [table_eq_tree, PySem.W.Fast.te11892475500146522536, PySem.W.Fast.te14364793385576792824]
noncomputable def evPost {α : Type} (Q : α → Pos → Shared → Prop) (E : Value → Pos → Shared → Prop) : Except Value α → Pos → Shared → Prop
  | .ok a => Q a
  | .error e => E e
theorem ev_wp {w : World} {Γ : Ctx} {α : Type} {t : Sem α} {p : Pos} {s : Shared} {r : Except Value α} {p' : Pos} {s' : Shared} {Q : α → Pos → Shared → Prop} {E : Value → Pos → Shared → Prop}
    (h : evS (modelQ w) (evC (modelQ w) 50) Γ t p s = some (r, p', s')) (k : evPost Q E r p' s') : Sem.wp (model prg w) Γ t Q E p s := by
  rw [← hM]
  refine evS_sound (evC_sound _ _) Γ t p s r p' s' Q E h ?_
  cases r <;> exact k

theorem wp_execs_append {M : Model} {Γ : Ctx} {env : Env} (l₁ l₂ : List Stmt) : ∀ (Q : Flow → Pos → Shared → Prop) (E : Value → Pos → Shared → Prop) (p : Pos) (s : Shared),
    Sem.wp M Γ (execs l₁ env) (fun f p' s' => match f with | .next => Sem.wp M Γ (execs l₂ env) Q E p' s' | f => Q f p' s') E p s → Sem.wp M Γ (execs (l₁ ++ l₂) env) Q E p s := by
  induction l₁ with
  | nil => intro Q E p s h; exact h
  | cons st l ih =>
    intro Q E p s h
    show Sem.wp M Γ (execs (st :: (l ++ l₂)) env) Q E p s
    rw [execs] at h ⊢
    rw [Sem.wp_bind'] at h ⊢
    refine Sem.wp_mono M Γ _ (fun f p' s' k => ?_) (fun _ _ _ e => e) p s h
    cases f with
    | next => exact ih Q E p' s' k
    | _ => exact k

noncomputable def aroundOf (Γ : Ctx) : Around := { handled := Γ.handled, depth := frameCount Γ.below + Γ.code.weight, units := Γ.units }
theorem in_aroundOf (Γ : Ctx) : Γ.In (aroundOf Γ) :=
  ⟨rfl, Nat.le_refl _, fun l (h : (none : Option (List Env)) = some l) => (nomatch h), fun l (h : (none : Option (List Code)) = some l) => (nomatch h), Nat.le_refl _⟩

@[irreducible] noncomputable def b3Items : List (Int × Str) := (litItems dKs dVs).getD []
theorem getD_of_isSome {α : Type} {x : Option α} {d : α} (h : x.isSome = true) : x = some (x.getD d) := by
  cases x with
  | none => cases h
  | some _ => rfl
theorem b3_lit : litItems dKs dVs = some b3Items := by
  have h : (litItems dKs dVs).isSome = true := by kernel_rfl
  unfold b3Items
  exact getD_of_isSome h
theorem b3_len : b3Items.length = 650 := by kernel_rfl
theorem b3_rising : risingI (b3Items.map (·.1)) = true := by kernel_rfl

theorem A_len (P : Params) : (aObjs P).length = 57 := by kernel_rfl
noncomputable def mkS (L : List Obj) (lf : Life) (tk : Nat) : Shared := { heap := { objs := L.toArray, life := lf }, toks := tk, os := os0 }
theorem SA_eq (w : World) : SA w = mkS (aObjs w.params) {} 358 := by kernel_rfl
theorem SB_eq (o : Nat → Obj) (lf : Life) (w : World) : SB o lf w = mkS (aObjs w.params ++ (List.range 39).map o) lf 2308 := by kernel_rfl
theorem live_A (P : Params) : ((List.range 57).all fun b => (Heap.get? ⟨(aObjs P).toArray, {}⟩ b).isSome) = true := by kernel_rfl

/-- the table of exceptions at its place -/
noncomputable def B3At (w : World) (h : Heap) (a : Addr) : Prop := ∃ kvs, IsSV kvs b3Items ∧ h.DictOf (intKind prg w) a kvs

theorem map_getD {os : List Obj} {n : Nat} (hl : os.length = n) : (List.range n).map (fun i => os.getD i default) = os := by
  refine List.ext_getElem (by simpa using hl.symm) fun i h1 h2 => ?_
  rw [List.getElem_map, List.getElem_range, List.getD_eq_getElem?_getD, List.getElem?_eq_getElem h2]
  rfl

theorem dict_wpL (w : World) {ks : List (Option Expr)} {vs : List Expr} {dp : Pos} {its : List (Int × Str)} (hit : litItems ks vs = some its) (hlen : its.length = 650) (hris : risingI (its.map (·.1)) = true) {Γ : Ctx} {env : Env}
    (L : List Obj) (hL : L.length = 57) (live : ((List.range 57).all fun b => (Heap.get? ⟨L.toArray, {}⟩ b).isSome) = true) (p : Pos) {Q : Value → Pos → Shared → Prop} {E : Value → Pos → Shared → Prop}
    (h : ∀ (o : Nat → Obj) (lf : Life) (p' : Pos), (∃ kvs, IsSV kvs its ∧ (mkS (L ++ (List.range 39).map o) lf 2308).heap.DictOf (intKind prg w) 57 kvs) → Q (.ref 57) p' (mkS (L ++ (List.range 39).map o) lf 2308)) :
    Sem.wp (model prg w) Γ (eval (.Dict ks vs dp) env) Q E p (mkS L {} 358) := by
  have hne : its ≠ [] := by intro e; rw [e] at hlen; cases hlen
  have hsz : (mkS L {} 358).heap.objs.size = 57 := by show L.toArray.size = 57; rw [List.size_toArray]; exact hL
  have hS : sysModules < (mkS L {} 358).heap.objs.size := by rw [hsz]; decide
  have hline : its.length ≤ sizeLine := by rw [hlen, sizeLine_eq]; decide
  have hnd := risingI_nodup _ hris
  have hlive : ∀ b, b < (mkS L {} 358).heap.objs.size → ((mkS L {} 358).heap.get? b).isSome = true := by
    rw [hsz]; intro b hb; exact List.all_eq_true.mp live b (List.mem_range.mpr hb)
  have key : wpAny (model prg w) (aroundOf Γ) (eval (.Dict ks vs dp) env) (fun v s' => ∀ p', Q v p' s') (fun e s' => ∀ p', E e p' s') (mkS L {} 358) := by
    refine wp_DictLit hS hit hne hnd hline ?_
    intro h' kvs sv hd g p'
    rw [hlen] at g ⊢
    obtain ⟨os, hl, he⟩ := grown_objs g hlive
    have he' : h' = ⟨(L ++ os).toArray, h'.life⟩ := he
    generalize h'.life = lf at he'
    subst he'
    rw [hsz] at hd ⊢
    have hm := map_getD (n := 39) hl
    have := h (fun i => os.getD i default) lf p'
    rw [hm] at this
    exact this ⟨kvs, sv, hd⟩
  exact Sem.wp_mono _ _ _ (fun v p' s' k => k p') (fun e p' s' k => k p') p _ (key Γ p (in_aroundOf Γ))
end Mine
end

section
open PySem PySem.W PyProof.Rows PySem.Calls
set_option maxRecDepth 100000
set_option Elab.async false
set_option linter.unusedVariables false
noncomputable section
namespace Mine
theorem swaps_eq (w : World) : evS (modelQ w) (evC (modelQ w) 50) ctx1 (swapsWithSole dTargets (.Dict dKs dVs dDPos) dPos.line topEnv) dPos (mkS (aObjs w.params) {} 358) = some (.ok false, dPos, mkS (aObjs w.params) {} 358) := by kernel_rfl

theorem assign_wpG {M : Model} {Γ : Ctx} {ts : List Expr} {v : Expr} {pos p : Pos} {env : Env} {s : Shared} {Q : Flow → Pos → Shared → Prop} {E : Value → Pos → Shared → Prop}
    (hs : ∀ Q' : Bool → Pos → Shared → Prop, Q' false pos s → Sem.wp M Γ (swapsWithSole ts v pos.line env) Q' E pos s)
    (hv : Sem.wp M Γ (eval v env) (fun a p' s' => Sem.wp M Γ (do assignStores env a (← swappedStores ts v env) ((assignEach ts env).map (·.2)) : Sem Flow) Q E p' s') E pos s) : Sem.wp M Γ (exec (.Assign ts v pos) env) Q E p s := by
  rw [arm_exec_Assign, Sem.wp_bind']
  show Sem.wp M Γ (swapsWithSole ts v pos.line env >>= _) Q E pos s
  rw [Sem.wp_bind']
  refine hs _ ?_
  rw [if_neg Bool.false_ne_true, Sem.wp_bind']
  exact hv
theorem assign_wp (w : World) (p : Pos) {Q : Flow → Pos → Shared → Prop} {E : Value → Pos → Shared → Prop}
    (h : ∀ (o : Nat → Obj) (lf : Life) (p' : Pos), (∃ kvs, IsSV kvs b3Items ∧ (SB o lf w).heap.DictOf (intKind prg w) 57 kvs) → Sem.wp (model prg w) ctx1 (asgRest (.ref 57)) Q E p' (SB o lf w)) :
    Sem.wp (model prg w) ctx1 (exec (.Assign dTargets (.Dict dKs dVs dDPos) dPos) topEnv) Q E p (SA w) := by
  rw [SA_eq]
  refine assign_wpG (fun Q' hq => ev_wp (r := .ok false) (swaps_eq w) hq) ?_
  refine dict_wpL w b3_lit b3_len b3_rising (aObjs w.params) (A_len _) (live_A _) dPos (fun o lf p' hk => ?_)
  have := h o lf p'
  rw [SB_eq] at this
  exact this hk

/-- what the top leaves -/
structure Left (w : World) (s : Shared) : Prop where
  looks : looks1 w s = true
  seen : openSeen vw looseV (importedModules prg.main.body) XtV true s = openGood vw looseV
  K : (heapK w.params).In s.heap
  b1 : s.heap.get? 46 = some (a46 w.params)
  b3 : ∃ kvs, IsSV kvs b3Items ∧ s.heap.DictOf (intKind prg w) 57 kvs
  kept : keptAt s.heap = keptAt (S0 w).heap
  gens : s.gens = #[]
  os : s.os = os0

theorem addrK_ok (P : Params) : addrK = (heapK P).map (·.1) := by kernel_rfl

theorem dictOf_raw {w : World} {h h' : Heap} {a : Addr} {kvs : List (Int × Value)} (x : h.DictOf (intKind prg w) a kvs) (e : h'.objs[a]? = h.objs[a]?) : h'.DictOf (intKind prg w) a kvs :=
  x.at fun o ho => by unfold Heap.get? at ho ⊢; rw [e]; exact ho

theorem left_of (w : World) (o : Nat → Obj) (lf : Life) (p p' : Pos) (s' : Shared) (hC : partC w o lf p = some (p', s')) (h3 : ∃ kvs, IsSV kvs b3Items ∧ (SB o lf w).heap.DictOf (intKind prg w) 57 kvs) : Left w s' := by
  have h := partC_all w o lf p
  rw [hC] at h
  simp only [Option.map_some, Option.some.injEq, Prod.mk.injEq] at h
  obtain ⟨h1, h2, hK, hb1, hb3, hk, hl, hg, hos⟩ := h
  refine ⟨h1, ?_, ?_, hb1, ?_, hk, hg, hos⟩
  · rw [← h2, PySem.W.Fast.te4187177175401517315]
  · exact Frag.in_of (addrK_ok _) hK
  · obtain ⟨kvs, sv, hd⟩ := h3
    refine ⟨kvs, sv, dictOf_raw hd (hb3.trans ?_)⟩
    have hL := A_len w.params
    rw [SB_eq]
    show some (o 0) = ((aObjs w.params ++ (List.range 39).map o).toArray)[57]?
    generalize aObjs w.params = L at hL ⊢
    rw [List.getElem?_toArray, List.getElem?_append_right (by omega), hL]
    rfl

theorem partC_some (w : World) (o : Nat → Obj) (lf : Life) (p : Pos) : ∃ p' s', partC w o lf p = some (p', s') := by
  have h := partC_all w o lf p
  cases e : partC w o lf p with
  | none => rw [e] at h; cases h
  | some x => exact ⟨x.1, x.2, rfl⟩

theorem body_wp (w : World) (p : Pos) {E : Value → Pos → Shared → Prop} {Q : Flow → Pos → Shared → Prop} (hQ : ∀ p' s', Left w s' → Q .next p' s') :
    Sem.wp (model prg w) ctx1 (execs (Stmt.Assign dTargets (.Dict dKs dVs dDPos) dPos :: body.drop 5) topEnv) Q E p (SA w) := by
  rw [execs, Sem.wp_bind']
  refine assign_wp w p fun o lf p' h3 => ?_
  obtain ⟨p₂, s₂, hC⟩ := partC_some w o lf p'
  have hL := left_of w o lf p' p₂ s₂ hC h3
  unfold partC at hC
  split at hC
  · rename_i p₁ s₁ h1
    split at hC
    · rename_i p₃ s₃ h2
      simp only [Option.some.injEq, Prod.mk.injEq] at hC
      obtain ⟨rfl, rfl⟩ := hC
      refine ev_wp (r := .ok .next) h1 ?_
      show Sem.wp (model prg w) ctx1 (execs (body.drop 5) topEnv) Q E p₁ s₁
      rw [show execs = qExecs from PySem.W.Fast.te12563942051412417395]
      refine ev_wp (r := .ok .next) h2 ?_
      exact hQ _ _ hL
    · cases hC
  · cases hC
end Mine
end

section
open PySem PySem.W PyProof.Rows PySem.Calls
set_option maxRecDepth 100000
set_option Elab.async false
set_option linter.unusedVariables false
noncomputable section
namespace Mine
theorem body_wpCode {p : Program} {w : World} {Γ : Ctx} {b : List Stmt} {env : Env} {pos : Pos} {s : Shared} {R : Shared → Prop} (hΓ : Γ.code = .body b env)
    (h : Sem.wp (model p w) Γ (blockStart b env) (fun _ p' s' => Sem.wp (model p w) Γ (execs b env) (fun f _ s' => f = .next ∧ R s') (fun _ _ _ => False) p' s') (fun _ _ _ => False) pos s) :
    wpCode (model p w) Γ (fun r s' => r = .ok .next ∧ R s') pos s := by
  have key : Sem.wp (model p w) Γ ((model p w).den Γ.code) (Sem.finPost (model p w) Γ fun r s' => r = .ok .next ∧ R s') (fun e _ s' => (Except.error e : Result) = .ok .next ∧ R s') pos s := by
    rw [hΓ]
    show Sem.wp (model p w) Γ ((blockStart b env).bind (fun _ => ((execs b env).onRaise (leaving env)).bind fun f => (Sem.pure (Fin.done f) : Sem Fin))) _ _ pos s
    rw [Sem.wp_bind]
    refine Sem.wp_mono _ _ _ (fun _ p' s' k => ?_) (fun _ _ _ e => e.elim) pos s h
    rw [Sem.wp_bind, Sem.wp_onRaise]
    refine Sem.wp_mono _ _ _ (fun f p' s' k => ?_) (fun _ _ _ e => e.elim) p' s' k
    obtain ⟨rfl, k⟩ := k
    exact ⟨rfl, k⟩
  exact (Sem.wp_iff_runs (model p w) Γ ((model p w).den Γ.code) (fun r s' => r = .ok .next ∧ R s') pos s).mp key

theorem stub_wpG {p : Program} {w : World} {Γ : Ctx} {s s₁ s₂ : Shared} {p₁ p₂ : Pos} {code : Value} {frame : Addr} {R : Shared → Prop} {E : Value → Pos → Shared → Prop}
    (hcode : ∀ Q : Value → Pos → Shared → Prop, Q code p₁ s₁ → Sem.wp (model p w) Γ (moduleCode p.main) Q E default s)
    (hframe : ∀ Q : Addr → Pos → Shared → Prop, Q frame p₂ s₂ → Sem.wp (model p w) Γ (newBodyFrame code mainNs mainNs) Q E p₁ s₁)
    (hbody : wpCode (model p w) (Γ.enter (.body (behindTheImports p) { scope := p.main.scope, locals := mainNs, globals := mainNs, cells := [], code, frame := some frame }) none p₂) (fun r s' => r = .ok .next ∧ R s') p₂ s₂) :
    Sem.wp (model p w) Γ (topStub p).cur (fun fin _ s' => fin = .done (.ret .none) ∧ R s') E default s := by
  unfold topStub
  dsimp only
  rw [Sem.wp_bind']
  refine hcode _ ?_
  rw [Sem.wp_bind']
  refine hframe _ ?_
  rw [Sem.wp_bind']
  unfold run
  refine wpCode_mono (fun r s' k => ?_) hbody
  obtain ⟨rfl, k⟩ := k
  exact ⟨rfl, k⟩

theorem S0_gens (w : World) : (S0 w).gens = #[] := by kernel_rfl
theorem ctx1_eq : ctx0.enter (.body body topEnv) none default = ctx1 := by kernel_rfl
theorem ctx1_code : ctx1.code = .body body topEnv := by kernel_rfl
theorem body_eq : behindTheImports prg = body := by kernel_rfl
theorem topEnv_eq : ({ scope := prg.main.scope, locals := mainNs, globals := mainNs, cells := [], code := .ref 30, frame := some 31 } : Env) = topEnv := by kernel_rfl

theorem top_wp (w : World) : Sem.wp (model prg w) ctx0 (topStub prg).cur (fun fin _ s' => fin = .done (.ret .none) ∧ Left w s') (fun _ _ _ => False) default (S0 w) := by
  have hA := partA_eq w
  unfold partA at hA
  split at hA
  · rename_i code p s h1
    split at hA
    · rename_i frame p₂ s₂ h2
      split at hA
      · rename_i u p₃ s₃ h3
        split at hA
        · rename_i p₄ s₄ h4
          simp only [Option.some.injEq, Prod.mk.injEq] at hA
          obtain ⟨rfl, rfl, rfl, rfl, rfl⟩ := hA
          refine stub_wpG (s₁ := s) (s₂ := s₂) (p₁ := p) (p₂ := default) (code := .ref 30) (frame := 31) (fun Q hq => ?_) (fun Q hq => ?_) ?_
          · rw [show @moduleCode = @PySem.W.Fast.tw17154629097778926822 from PySem.W.Fast.te17154629097778926822]
            refine ev_wp (r := .ok (.ref 30)) h1 ?_
            exact hq
          · rw [show @newBodyFrame = @PySem.W.Fast.tw12822647523644345616 from PySem.W.Fast.te12822647523644345616]
            refine ev_wp (r := .ok 31) h2 ?_
            exact hq
          · rw [body_eq, topEnv_eq, ctx1_eq]
            refine body_wpCode ctx1_code ?_
            rw [show blockStart = PySem.W.Fast.tw1066825118222455980 from PySem.W.Fast.te1066825118222455980]
            refine ev_wp (r := .ok u) h3 ?_
            show Sem.wp (model prg w) ctx1 (execs body topEnv) _ _ p₃ s₃
            rw [body_split]
            refine wp_execs_append _ _ _ _ _ _ ?_
            have h4' := h4
            rw [show qExecs = execs from PySem.W.Fast.te12563942051412417395.symm] at h4'
            refine ev_wp (r := .ok .next) h4' ?_
            exact body_wp w posA (fun p' s' hl => ⟨rfl, hl⟩)
        · cases hA
      · cases hA
    · cases hA
  · cases hA

theorem wp_comes_through {p : Program} {w : World} {c : Code} {t : Sem Fin} {s : Shared} {R : Shared → Prop} (hz : s.asleep) (hR : ∀ s', R s' → s'.gens = #[])
    (h : Sem.wp (model p w) (Ctx.of c []) t (fun fin _ s' => (∃ f, fin = .done f) ∧ R s') (fun _ _ _ => False) default s) :
    ∃ s₁, (∃ n t', schedN (denote table) p w n (.single s ⟨t, c, default, []⟩) = .running (.single s₁ t') ∧ through t' = true) ∧ s₁.heap.life = s.heap.life ∧ R s₁ := by
  obtain ⟨n, s', σ, p', leaf, hr, hf, hl⟩ := wp_reaches h
  have hl' : ∃ f, leaf = .pure (.done f) ∧ R s' := by
    rcases hl with ⟨a, rfl, ⟨f, rfl⟩, k⟩ | ⟨e, rfl, k⟩
    · exact ⟨f, rfl, k⟩
    · exact k.elim
  obtain ⟨f, rfl, hRs⟩ := hl'
  have hσ : σ = s' := Shared.eq_of_forget_eq hf (hR _ hRs)
  subst hσ
  have hw2 : Sem.wp (model p w) ⟨c, none, none, [], none⟩ t (Sem.finPost (model p w) ⟨c, none, none, [], none⟩ fun r s' => True ∧ leftWithCleanup s'.gens = false) (fun e _ s' => True ∧ leftWithCleanup s'.gens = false) default s := by
    refine Sem.wp_mono _ _ _ (fun fin p' s' k => ?_) (fun _ _ _ e => e.elim) default s h
    obtain ⟨⟨g, rfl⟩, k⟩ := k
    refine ⟨trivial, ?_⟩
    rw [hR _ k]; simp [leftWithCleanup]
  obtain ⟨m, r, s₂, hm, _⟩ := (wp_iff_halts (M := model p w) (c := c) t (fun _ _ => True) default s).mp hw2
  obtain ⟨s₃, hn3, _, hc⟩ := runNI_real (denote table) p w hm (outcomeOf_ends r)
  have hne : ∀ k s₄, runN (denote table) p w k s ⟨t, c, default, []⟩ ≠ .halted (.unsupported "lifetime:generator-with-cleanup-left-suspended") s₄ := by
    intro k s₄ hk
    have a := runN_mono (denote table) p w m k s _ _ s₃ hn3
    have b := runN_mono (denote table) p w k m s _ _ s₄ hk
    rw [Nat.add_comm, b] at a
    injection a with a1 _
    have := outcomeOf_ends r
    rw [← a1] at this
    exact absurd this (by simp [Outcome.ends])
  refine ⟨σ, ⟨n, _, (schedN_eq_runN (denote table) p w s _ hz ⟨hc, hne⟩ n).trans (congrArg Run.lift hr), rfl⟩, runN_life_running hr, hRs⟩

theorem S0_life (w : World) : (S0 w).heap.life = {} := by kernel_rfl
theorem S0_asleep (w : World) : (S0 w).asleep := by unfold Shared.asleep; rw [S0_life]; exact ⟨rfl, rfl⟩
theorem top_ran (w : World) : ∃ s₁, (∃ n t, schedN (denote table) prg w n (.single (S0 w) (topStub prg)) = .running (.single s₁ t) ∧ through t = true) ∧ s₁.heap.life = (S0 w).heap.life ∧ Left w s₁ :=
  wp_comes_through (S0_asleep w) (fun s' h => h.gens) (Sem.wp_mono _ _ _ (fun fin p' s' k => ⟨⟨_, k.1⟩, k.2⟩) (fun _ _ _ e => e.elim) _ _ (top_wp w))
end Mine
end

section
open PySem PySem.W PyProof.Rows PySem.Calls
set_option maxRecDepth 100000
set_option Elab.async false
set_option linter.unusedVariables false
noncomputable section
namespace Mine
theorem opened_plain (w : World) : ∃ s, importEnds table (opening prg) w 1000 (start (opening prg)).1 (start (opening prg)).2 = some s ∧ fenceModules? prg s = some (S0 w) := by
  have h := opened_eq w
  unfold opened at h
  rw [← PySem.W.Fast.te10274390034422433532, show qTab = treeTable from PySem.W.Fast.te14364793385576792824.symm, ← PySem.W.Fast.te1435165496053646825, ← PySem.W.Fast.te14289696077712309145, ← table_eq_tree] at h
  exact Option.bind_eq_some_iff.mp h

noncomputable def XPV (mg : Str → Option Value) (h : Heap) : Prop := XL vw [] mg h ∧ RecFacts recs h
theorem chains_vw : chainsOk vw = true := by kernel_rfl
theorem S0_main (w : World) : (S0 w).heap.isNs mainGlobals = true := by kernel_rfl
theorem S0_len (w : World) : (S0 w).heap.objs.size = 28 := by kernel_rfl
theorem S0_os (w : World) : (S0 w).os = os0 := by kernel_rfl
theorem mem_kept {b : Nat} (h : b < 28) (h2 : b ≠ 2) (h3 : b ≠ 3) : b ∈ (List.range 28).filter fun b => b != 2 && b != 3 := by
  rw [List.mem_filter]
  exact ⟨List.mem_range.mpr h, by simp [h2, h3]⟩
theorem kept_get {h h' : Heap} (e : keptAt h' = keptAt h) (hs : h.objs.size = 28) {b : Addr} {o : Obj} (hb : h.get? b = some o) (h2 : b ≠ cStatics) (h3 : b ≠ mainNs) : h'.get? b = some o := by
  have hlt : b < 28 := by rw [← hs]; exact Heap.lt_size hb
  unfold keptAt at e
  have := List.map_inj_left.mp e b (mem_kept hlt h2 h3)
  unfold Heap.get? at hb ⊢
  rw [this]; exact hb

theorem behind02 (w : World) : (∃ s, AfterRun (opening prg) w s) ∧ ∀ s, AfterRun (opening prg) w s → ∃ s₀, fenceModules? prg s = some s₀ ∧ s₀.gens = #[] ∧ ∃ s₁, TopRan prg w s₀ s₁ ∧ s₁.asleep ∧ s₁.heap.isNs mainGlobals = true ∧
    Ground vw looseV [] XPV w s₁ (s₁.heap.nsMap mainGlobals) (s₁.heap.nsMap builtinsNs) s₁.heap ∧ Left w s₁ := by
  obtain ⟨s, h4, h5⟩ := opened_plain w
  have A := AfterImport.of_importEnds h4
  refine ⟨⟨s, A⟩, fun s' hs' => ?_⟩
  obtain rfl : s' = s := AfterImport.unique hs' A
  refine ⟨S0 w, h5, S0_gens w, ?_⟩
  obtain ⟨s₁, a, l, L⟩ := top_ran w
  obtain ⟨G, g0, g1, g2, g3, g4, g5⟩ := ground_of_open (w := w) (XP := XPV) (Xt := XtV) (fun s e => by
    unfold XtV at e
    exact ⟨xl_of s (Bool.and_eq_true_iff.mp e).1, recFacts_of (Bool.and_eq_true_iff.mp e).2⟩) chains_vw L.seen
  have hk := L.looks
  unfold looks1 at hk
  obtain ⟨hs, hlk⟩ := Bool.and_eq_true_iff.mp hk
  obtain ⟨hs, hgd⟩ := Bool.and_eq_true_iff.mp hs
  obtain ⟨hs, hnb⟩ := Bool.and_eq_true_iff.mp hs
  refine ⟨s₁, ⟨a, l, Shared.rest_eq (L.os.trans (S0_os w).symm), fun b o hb hn => kept_get L.kept (S0_len w) hb (fun q => hn (.inr (.inl q))) (fun q => hn (.inl q)),
    g2, statics_of_ok hs, g3, g4, g5, gens_of_done hgd, names_of_bound hnb, laid_of_kept hlk⟩, Shared.asleep_of_life l (S0_asleep w), g1, G, L⟩
end Mine
end

section
open PySem PySem.W PyProof.Rows PySem.Calls
set_option maxRecDepth 100000
set_option Elab.async false
set_option linter.unusedVariables false
noncomputable section
namespace Mine
/-- what the call finds of the top -/
structure Here (w : World) (h : Heap) : Prop where
  K : (heapK w.params).In h
  b1 : h.get? 46 = some (a46 w.params)
  b3 : ∃ kvs, IsSV kvs b3Items ∧ h.DictOf (intKind prg w) 57 kvs
theorem Here.keeps {w : World} {h h' : Heap} (x : Here w h) (k : ∀ b o, h.get? b = some o → h'.get? b = some o) : Here w h' :=
  ⟨x.K.keeps k, k _ _ x.b1, let ⟨kvs, sv, hd⟩ := x.b3; ⟨kvs, sv, hd.at fun o e => k _ _ e⟩⟩
theorem Left.here {w : World} {s : Shared} (L : Left w s) : Here w s.heap := ⟨L.K, L.b1, L.b3⟩

abbrev lawRow : OpenRow := Challenge.rw_un0048_02.row
theorem recs_nil : lawRow.records = recs := rfl

theorem holds02 {d : DefRec} {kwd : List (Str × Expr)} (hdef : defOf vw lawRow.name = some (d, kwd)) (hp : lawRow.prog.theDef lawRow.name = some (d.params, d.body, d.scope)) (hk : kwWritten? d.params.kwonlyargs d.params.kw_defaults = some kwd)
    (k1 : lawRow.wellSaid = true) (ok : (opensWell lawRow.prog && (frees lawRow.toRowW && lawRow.within.isEmpty)) = true) (hb : lawRow.prog.bare) (hw : lawRow.toRowW.promised)
    (call : WalkO vw looseV (XL vw []) Here lawRow.toRowW d kwd fun f vs => PySem.call f vs) : lawRow.Holds := by
  refine ⟨k1, hw, ?_⟩
  obtain ⟨o1, k5⟩ := Bool.and_eq_true_iff.mp ok
  obtain ⟨k5, k6⟩ := Bool.and_eq_true_iff.mp k5
  obtain ⟨hsame, hu, ha, hap, hm⟩ := frees_parts k5
  refine ⟨⟨hb, o1, rfl⟩, hw.witness, fun w => ⟨(behind02 w).1, fun s' hs' => ?_⟩⟩
  obtain ⟨s₀, hf, hg0, s, hT, hz, hg, G00, L₀⟩ := (behind02 w).2 s' hs'
  have G0 : Ground vw looseV [] (XL vw []) w s (s.heap.nsMap mainGlobals) (s.heap.nsMap builtinsNs) s.heap := ⟨G00.T, G00.B, G00.D, G00.TE, G00.TD, G00.W, G00.X.1, G00.cls, G00.has, G00.apart, G00.once, G00.K⟩
  have RF : RecFacts lawRow.records s.heap := G00.X.2
  refine ⟨s₀, hf, hg0, s, hT, fun n hn => ?_, RF.1, RF.2.1, ?_⟩
  · obtain rfl : n = lawRow.name := by
      have hn' : n ∈ [lawRow.name] := hn
      exact List.mem_singleton.mp hn'
    exact pinned_of_view hg G0 hdef hp hk
  have hgens : s.gens = #[] := L₀.gens
  have G : Ground vw looseV lawRow.records (XL vw []) w s _ _ s.heap := RF.ground G0
  refine ClaimW.callFrom_of_specG (c := lawRow.toRowW.claim) (tree := fun vs => do match ← nsGet mainNs lawRow.name with
      | some f => do ret (← PySem.call f vs)
      | none => unsupported "claim.caller:no-such-global") hz hgens fun args hpre hlay ord hord => ?_
  obtain ⟨⟨vs, s₁⟩, hlaid⟩ := Option.isSome_iff_exists.mp (layAllW_isSome (P := w.params) (ord := ord) G.has args lawRow.args s (pre_splitW hpre).1)
  have keeps := layAllW_keeps _ _ _ hlaid
  have hal := layAllW_rest _ _ _ hlaid
  obtain ⟨as, hrd, hin, hold⟩ := reads_layAllW hord _ _ _ hlaid hlay s₁.heap (fun _ _ e => e)
  have L : Laid lawRow.records w s s₁ args vs as := ⟨⟨ord, hord, hlaid⟩, hrd, hin, hold, keeps, hal.1.trans hgens, hal.2.2.1⟩
  have G₁ := G.keeps XL.keeps keeps
  obtain ⟨a, o, pm, cd, doc, dV, kV, h1, h2, h3, h4, h5⟩ := G₁.fn hdef
  have hcall := call w s s₁ _ _ G₁ (L₀.here.keeps keeps) a o pm cd doc dV kV h2 h3 h4 h5 (defOf_name hdef ▸ h1) L.gens args vs as hpre hlay L.reads L.well (L.low G.low)
  have hi := ident_freeW hu ha hap
  have hwi : lawRow.toRowW.claim.within = [] := List.isEmpty_iff.mp k6
  refine ⟨vs, s₁, hlaid, ?_⟩
  refine wpAny_bind (wpAny_nsGet G₁.T.g ?_)
  rw [h1]
  dsimp only
  refine wpAny_bind (wpAny_mono hcall (fun v s' g => wpAny_pure ?_) fun e s' g => ?_)
  · have z := g.laid (c := lawRow.toRowW.claim) hsame hwi hi L
    exact ⟨_, rfl, z.1, z.2.1, z.2.2, fun q => nomatch (q : (false : Bool) = true)⟩
  · have z := g.laid (c := lawRow.toRowW.claim) hsame hwi hi L
    exact ⟨z.1, z.2.1, z.2.2, fun q => nomatch (q : (false : Bool) = true)⟩
end Mine
end

section
open PySem PySem.W PyProof.Rows PySem.Calls
set_option maxRecDepth 100000
set_option Elab.async false
set_option linter.unusedVariables false
set_option maxHeartbeats 4000000
namespace Mine
local macro_rules | `(tactic| walk_at "no such key") => `(tactic| skip)
noncomputable def vwT : Program := view prg [0, 1, 4, 6, 8, 9, 10, 12, 13, 15, 16, 17, 18, 19, 20, 21]
noncomputable def looseT : List Str := [Str.ofString "b1_set", Str.ofString "b3_exceptions", Str.ofString "_name_disallowed_re", Str.ofString "_value_disallowed_re"]
noncomputable def b1Toks : List (Int × Nat) := [(65024, 307), (65025, 308), (65026, 309), (65027, 310), (65028, 311), (65029, 312), (6150, 293), (65030, 313), (65031, 314), (65032, 315), (65033, 316), (6155, 294), (6156, 295), (6157, 296), (8203, 297), (8204, 298), (8205, 299), (65034, 317), (65035, 318), (65036, 319), (65037, 320), (65038, 321), (65039, 322), (173, 291), (847, 292), (8288, 300), (65279, 301)]
noncomputable def b1List : List Int := b1Toks.map (·.1)
theorem setOf_list {prog : Program} {w : World} {h : Heap} {a : Addr} {tks : List (Int × Nat)} {ep : Nat} {t : SetTable} (hg : h.get? a = some ⟨.type "set", none, .set (tks.map fun x => (x.1, Value.int x.1 x.2)).toArray ep t, #[]⟩)
    (hh : (tks.all fun x => hashInt x.1 == x.1) = true) (hs : tks.length < scanBound) (hf : t.fits tks.length = true) : h.SetOf (intKind prog w) a (fun k => (tks.map (·.1)).contains k) tks.length := by
  refine ⟨_, _, _, _, hg, ⟨rfl, rfl, rfl⟩, rfl, ?_, ?_, by simpa using hs, by simpa using hf, by simp⟩
  · intro e he
    obtain ⟨x, hx, rfl⟩ := List.mem_map.mp (show e ∈ tks.map fun x => (x.1, Value.int x.1 x.2) from he)
    refine ⟨⟨x.1, by simp [intKind, Value.isInt], ?_⟩, rfl⟩
    exact (beq_iff_eq.mp (List.all_eq_true.mp hh x hx)).symm
  · intro k
    simp only [List.contains_iff_mem, List.mem_map, List.toList_toArray]
    constructor
    · rintro ⟨x, hx, rfl⟩
      exact ⟨_, ⟨x, hx, rfl⟩, by simp [intKind, Value.isInt]⟩
    · rintro ⟨e, ⟨x, hx, rfl⟩, hi⟩
      refine ⟨x, hx, ?_⟩
      simp only [intKind, Value.isInt] at hi
      simpa using hi
theorem b1_setOf {w : World} {h : Heap} (X : (heapK w.params).In h) : h.SetOf (intKind Challenge.rw_un0048_02.row.prog w) 46 (fun k => b1List.contains k) 27 := by
  have hl : (heapK w.params).lookup 46 = some ⟨.type "set", none, .set (b1Toks.map fun x => (x.1, Value.int x.1 x.2)).toArray 29 { mask := 127, place := #[0, 1, 2, 3, 4, 5, 6, 7, 8, 9, 10, 11, 12, 13, 14, 15, 16, 17, 18, 19, 20, 21, 22, 45, 79, 96, 127], dummies := #[], finger := 0, led := !w.params.followText "set-order", moves := 2, plain := true }, #[]⟩ := by kernel_rfl
  exact setOf_list (X 46 _ hl) (by decide +kernel) (by decide) (by kernel_rfl)
theorem in_b1 {w : World} {mean : ExcName → Option Value} {mg mb : Str → Option Value}
    {dp un : Nat} {gd : Option (List Code)} {cn : Str} {cs : Scope} {a : Addr} {ccd : Value} {cl : List (Str × Addr)} {outer : List Env} {A₀ : Around} {base h₀ : Heap} {L : Addr} {m : Str → Option Value} {news : List (Addr × Obj)} {s : Shared} {Q E : Value → Shared → Prop}
    {c : Nat} {t : Tok}
    (B : Below A₀ base outer h₀) (F : Fr h₀ L s.heap m) (X : (heapK w.params).In h₀) (N : News h₀ L s.heap news) (T : Top vwT (looseW vwT looseT) mean mg mb h₀) (hk : cs.kind = .function)
    (hd : dp + 3 < recursionLimit) (hu : un + 12 < cLine)
    (hret : ∀ h' tk', Fr h₀ L h' m → News h₀ L h' news → Q (.bool (b1List.contains (c : Int))) { s with heap := h', toks := tk' }) :
    wpAny (model Challenge.rw_un0048_02.row.prog w) (ktrTop dp un gd cn cs L a ccd cl outer) (call (.ref 56) [.str ⟨#[c]⟩ t]) Q E s := by
  revert X; k_fill; intro X
  refine wpAny_call ?_
  k_dflt ktr_enter
  conv => arg 3; arg 1; whnf
  k_steps
  rename_i g' L' h' FG' F' N' B' X' T'
  refine wpAny_inSet_of (knd := intKind _ w) (k := (c : Int)) (by simp [intKind, Value.isInt]) rfl (b1_setOf (X'.keeps (by first | assumption | exact F'.keep))) ?_
  k_steps
  exact hret _ _ (by assumption) (by assumption)
end Mine
end

section
open PySem PySem.W PyProof.Rows PySem.Calls
set_option maxRecDepth 100000
set_option Elab.async false
set_option linter.unusedVariables false
set_option maxHeartbeats 4000000
namespace Mine
section
variable {prog : Program} {w : World} {A : Around} {E : Value → Shared → Prop} {s : Shared}
theorem getMethod_dict_get {d : Addr} {f : Int → Option Value} {pl : Sem Bool} {Q : Value × List Value → Shared → Prop} (hm : s.heap.MapOf (intKind prog w) d f) (h : Q (.builtin "dict.get", [.ref d]) s) :
    wpAny (model prog w) A (getMethod (.ref d) (Str.ofString "get") pl) Q E s :=
  getMethod_builtin hm.typeIs F.plainAttrs_dict F.slot_dict_get F.type_dict_get hm.noDict h
theorem call_get_int {d : Addr} {f : Int → Option Value} {k : Int} {t : Tok} {Q : Value → Shared → Prop} (lo : (d == sysModules) = false) (hm : s.heap.MapOf (intKind prog w) d f) (h : Q ((f k).getD .none) { s with toks := s.toks + 1 }) :
    wpAny (model prog w) A (call (.builtin "dict.get") [.ref d, .int k t]) Q E s :=
  call_meetsIn F.slot_dict_get hm.typeIs F.entry_dict_get (F.args_dict_get_2 _ _) (meets_dict_get (intKind prog w) d (by simp [intKind, Value.isInt]) lo) ⟨f, hm, h⟩
end
/-- what the table of exceptions says of a sign -/
noncomputable def b3v (c : Nat) : Option Str := (b3Items.find? fun it => it.1 == (c : Int)).map (·.2)
theorem valueAt_b3 {kvs : List (Int × Value)} (sv : IsSV kvs b3Items) (c : Nat) : (∃ x t, valueAt kvs (c : Int) = some (.str x t) ∧ b3v c = some x) ∨ (valueAt kvs (c : Int) = none ∧ b3v c = none) := by
  unfold b3v valueAt
  generalize b3Items = its at sv
  induction sv with
  | nil => exact .inr ⟨rfl, rfl⟩
  | @cons kv it l m h _ ih =>
    obtain ⟨h1, t, h2⟩ := h
    simp only [List.find?_cons, h1]
    by_cases hc : it.1 = (c : Int)
    · simp only [hc, decide_true, beq_self_eq_true, Option.map_some]
      exact .inl ⟨it.2, t, by rw [h2], rfl⟩
    · have e2 : (it.1 == (c : Int)) = false := beq_eq_false_iff_ne.mpr hc
      simp only [decide_eq_false hc, e2]
      exact ih
/-- the sign folded, as the program does it -/
noncomputable def b3Str (c : Nat) : Str := (b3v c).getD (Txt.lower ⟨#[c]⟩)

theorem map_b3 {w : World} {mean : ExcName → Option Value} {mg mb : Str → Option Value}
    {dp un : Nat} {gd : Option (List Code)} {cn : Str} {cs : Scope} {a : Addr} {ccd : Value} {cl : List (Str × Addr)} {outer : List Env} {A₀ : Around} {base h₀ : Heap} {L : Addr} {m : Str → Option Value} {news : List (Addr × Obj)} {s : Shared} {Q E : Value → Shared → Prop}
    {c : Nat} {t : Tok} {kvs : List (Int × Value)}
    (B : Below A₀ base outer h₀) (F : Fr h₀ L s.heap m) (X : (heapK w.params).In h₀) (N : News h₀ L s.heap news) (T : Top vwT (looseW vwT looseT) mean mg mb h₀) (hk : cs.kind = .function)
    (hd : dp + 3 < recursionLimit) (hu : un + 12 < cLine) (sv : IsSV kvs b3Items) (hB : h₀.DictOf (intKind Challenge.rw_un0048_02.row.prog w) 57 kvs)
    (hret : ∀ t h' tk', Fr h₀ L h' m → News h₀ L h' news → Q (.str (b3Str c) t) { s with heap := h', toks := tk' }) :
    wpAny (model Challenge.rw_un0048_02.row.prog w) (ktrTop dp un gd cn cs L a ccd cl outer) (call (.ref 102) [.str ⟨#[c]⟩ t]) Q E s := by
  revert X; k_fill; intro X
  refine wpAny_call ?_
  k_dflt ktr_enter
  conv => arg 3; arg 1; whnf
  k_steps
  rename_i g' L' h' FG' F' N' B' X' T'
  have hm : h'.MapOf (intKind Challenge.rw_un0048_02.row.prog w) 57 (valueAt kvs) := (hB.at fun o e => F'.keep _ _ (FG'.keep _ _ e)).mapOf
  refine getMethod_dict_get hm ?_
  k_steps
  refine call_get_int (by decide) hm ?_
  unfold b3Str at hret
  rcases valueAt_b3 sv c with ⟨x, tx, hv, hb⟩ | ⟨hv, hb⟩
  · rw [hv]; rw [hb] at hret
    dsimp only [Option.getD_some] at hret ⊢
    k_steps
    exact hret _ _ _ (by assumption) (by assumption)
  · rw [hv]; rw [hb] at hret
    dsimp only [Option.getD_none] at hret ⊢
    have hl1 : Str.length ⟨#[c]⟩ = 1 := rfl
    k_steps
    exact hret _ _ _ (by assumption) (by assumption)
end Mine
end

section
open PySem PySem.W PyProof.Rows PySem.Calls
set_option maxRecDepth 100000
set_option Elab.async false
set_option linter.unusedVariables false
namespace Mine
theorem slot_search : Slot "re.Pattern" "search" "re.Pattern.search" :=
  .of (owner := "re.Pattern") (n := "search") (by rw [typeLookup_type, builtinLookup_eq_fast]; kernel_rfl) (by decide +kernel) (by decide +kernel) (by decide +kernel)
    (by first | exact .inl (by decide +kernel) | exact .inr (by decide +kernel)) (by rw [isSubtype_type]; kernel_rfl)
theorem type_search : typeOf (.builtin "re.Pattern.search") = pure (.type "method_descriptor") := by show builtinType _ = _; rw [builtinType_eq_fast]; kernel_rfl
theorem entry_search : entryFor table "re.Pattern.search" = some Builtin.«re.Pattern.search» := entryFor_of_tree (by kernel_rfl)
theorem args_search (a b : Value) : argsOk "re.Pattern.search" ⟨[a, b], []⟩ := by unfold argsOk; kernel_rfl
theorem plainAttrs_pattern : PlainAttrs "re.Pattern" :=
  ⟨⟨"object.__getattribute__", by rw [typeLookup_type, builtinLookup_eq_fast]; kernel_rfl, by decide +kernel⟩, by rw [typeLookup_type, builtinLookup_eq_fast]; kernel_rfl⟩
theorem match_bool : typeLookup (.type "re.Match") "__bool__" = pure none := by rw [typeLookup_type, builtinLookup_eq_fast]; kernel_rfl
theorem match_len : typeLookup (.type "re.Match") "__len__" = pure none := by rw [typeLookup_type, builtinLookup_eq_fast]; kernel_rfl

/-- the codes of the two patterns -/
noncomputable def codeN : Array Nat := #[14, 10, 4, 1, 1, 22, 0, 31, 16, 127, 0, 13, 7, 22, 0, 31, 16, 127, 0, 1]
noncomputable def codeV : Array Nat := #[14, 14, 4, 1, 1, 9, 4294966783, 0, 0, 2147483648, 0, 0, 0, 0, 0, 13, 11, 9, 4294966783, 0, 0, 2147483648, 0, 0, 0, 0, 0, 1]
noncomputable def badN (c : Nat) : Bool := c ≤ 31 || c == 127
noncomputable def badV (c : Nat) : Bool := (c ≤ 31 && c != 9) || c == 127

theorem inN_of {c : Nat} {X : Except String (Bool × Sre.Seen)} {a b d : Sre.Seen} (e : X = if (decide (0 ≤ c) && decide (c ≤ 31)) = true then .ok (true, a) else if (c == 127) = true then .ok (true, b) else .ok (false, d)) : ∃ seen', X = .ok (badN c, seen') := by
  rw [e]
  unfold badN
  by_cases hc : c ≤ 31
  · exact ⟨a, by simp [hc]⟩
  · by_cases hd : c = 127
    · exact ⟨b, by simp [hd]⟩
    · exact ⟨d, by simp [hc, hd]⟩
theorem bits_V : ∀ c, c < 256 → (codeV.getD (6 + c / 32) 0).testBit (c % 32) = badV c := by decide +kernel
theorem inV_of {c : Nat} {X : Except String (Bool × Sre.Seen)} {a b : Sre.Seen} {y : Nat} (hy : c < 256 → y = codeV.getD (6 + c / 32) 0) (e : X = if (decide (c < 256) && y.testBit (c % 32)) = true then .ok (true, a) else .ok (false, b)) : ∃ seen', X = .ok (badV c, seen') := by
  rw [e]
  by_cases hc : c < 256
  · rw [hy hc, bits_V c hc]
    cases hb : badV c
    · exact ⟨b, by simp [hc]⟩
    · exact ⟨a, by simp [hc]⟩
  · have : badV c = false := by
      unfold badV
      rw [Bool.or_eq_false_iff]
      exact ⟨by simp; omega, beq_eq_false_iff_ne.mpr (by omega)⟩
    rw [this]
    exact ⟨b, by simp [hc]⟩
theorem inSetN5 (c : Nat) (seen : Sre.Seen) : ∃ seen', Sre.inSet codeN c 20 5 true seen = .ok (badN c, seen') := inN_of (a := seen.add 22) (b := (seen.add 22).add 16) (d := ((seen.add 22).add 16).add 0) rfl
theorem inSetN13 (c : Nat) (seen : Sre.Seen) : ∃ seen', Sre.inSet codeN c 20 13 true seen = .ok (badN c, seen') := inN_of (a := seen.add 22) (b := (seen.add 22).add 16) (d := ((seen.add 22).add 16).add 0) rfl
theorem inSetV5 (c : Nat) (seen : Sre.Seen) : ∃ seen', Sre.inSet codeV c 28 5 true seen = .ok (badV c, seen') := inV_of (a := seen.add 9) (b := (seen.add 9).add 0) (y := codeV.getD (5 + (1 + c / 32)) 0) (fun _ => by rw [show 5 + (1 + c / 32) = 6 + c / 32 by omega]) rfl
theorem bits_V17 : ∀ c, c < 256 → codeV.getD (17 + (1 + c / 32)) 0 = codeV.getD (6 + c / 32) 0 := by decide +kernel
theorem inSetV17 (c : Nat) (seen : Sre.Seen) : ∃ seen', Sre.inSet codeV c 28 17 true seen = .ok (badV c, seen') := inV_of (a := seen.add 9) (b := (seen.add 9).add 0) (y := codeV.getD (17 + (1 + c / 32)) 0) (bits_V17 c) rfl
theorem admitted_spec {m : Sre.M} {bad : Nat → Bool} (hset : ∀ c seen, ∃ seen', Sre.inSet m.code c m.code.size 5 true seen = .ok (bad c, seen')) : ∀ (fuel s : Nat) (seen : Sre.Seen), m.lim < fuel + s →
    (∃ i seen', Sre.M.admitted m fuel s seen = .ok (some i, seen') ∧ s ≤ i ∧ i < m.lim ∧ bad (m.text.getD i 0) = true) ∨
    ((∃ seen', Sre.M.admitted m fuel s seen = .ok (none, seen')) ∧ ∀ i, s ≤ i → i < m.lim → bad (m.text.getD i 0) = false)
  | 0, s, seen, h => .inr ⟨⟨seen, rfl⟩, fun i h1 h2 => by omega⟩
  | fuel + 1, s, seen, h => by
    rw [Sre.M.admitted]
    by_cases hs : s ≥ m.lim
    · rw [if_pos hs]
      exact .inr ⟨⟨seen, rfl⟩, fun i h1 h2 => by omega⟩
    · rw [if_neg hs]
      obtain ⟨seen', e⟩ := hset (m.text.getD s 0) seen
      rw [e]
      cases hb : bad (m.text.getD s 0) with
      | true => exact .inl ⟨s, seen', rfl, Nat.le_refl _, by omega, hb⟩
      | false =>
        rcases admitted_spec hset fuel (s + 1) seen' (by omega) with ⟨i, sn, h1, h2, h3, h4⟩ | ⟨⟨sn, h1⟩, h2⟩
        · exact .inl ⟨i, sn, h1, by omega, h3, h4⟩
        · refine .inr ⟨⟨sn, h1⟩, fun i h3 h4 => ?_⟩
          rcases Nat.lt_or_ge s i with h5 | h5
          · exact h2 i h5 h4
          · have : i = s := by omega
            subst this; exact hb
noncomputable def anyBad (bad : Nat → Bool) (text : Array Nat) : Bool := text.toList.any bad
theorem anyBad_of {bad : Nat → Bool} {text : Array Nat} {i : Nat} (hi : i < text.size) (h : bad (text.getD i 0) = true) : anyBad bad text = true := by
  unfold anyBad
  rw [List.any_eq_true]
  refine ⟨text[i], by simp, ?_⟩
  simpa [Array.getD, hi] using h
theorem anyBad_not {bad : Nat → Bool} {text : Array Nat} (h : ∀ i, i < text.size → bad (text.getD i 0) = false) : anyBad bad text = false := by
  unfold anyBad
  rw [List.any_eq_false]
  intro c hc
  obtain ⟨i, hi, rfl⟩ := List.mem_iff_getElem.mp hc
  have hi' : i < text.size := by simpa using hi
  have := h i hi'
  simp only [Array.getD, hi', dif_pos] at this
  simpa using this

theorem run_said (m : Sre.M) (hf : m.frames = []) (ho : m.outcome = none) : ((m.say false).runFor 4).outcome = some .failed := by
  obtain ⟨⟩ := m
  dsimp only at hf ho
  subst hf ho
  rfl
theorem run_found {code text : Array Nat} {lim start ls pos : Nat} {marks : Array (Option Nat)} {seen seen' : Sre.Seen} {weight : Nat} {pc w1 : Nat} {fr : Sre.Frame}
    (hpc : pc < code.size) (hop : Sre.ops[code.getD pc 0]? = some .IN) (h13 : code.getD pc 0 = 13) (hw : code.getD (pc + 1) 0 = w1) (hpc2 : pc + (1 + w1) < code.size) (hop2 : Sre.ops[code.getD (pc + (1 + w1)) 0]? = some .SUCCESS)
    (hfr : fr.wait = .nextStart) (hpos : pos < lim)
    (hset : Sre.inSet code (text.getD pos 0) code.size (pc + 2) true (seen.add 13) = .ok (true, seen')) :
    ((({ code, text, lim, start, lastStart := ls, pc, pos, handed := pos, marks, seen, frames := [fr], weight } : Sre.M).runFor 4).outcome = some .matched) := by
  have acc : Sre.accepts code pc (text.getD pos 0) (seen.add 13) = .ok (true, seen') := by
    unfold Sre.accepts
    simp only [hop]
    exact hset
  have s1 : (({ code, text, lim, start, lastStart := ls, pc, pos, handed := pos, marks, seen, frames := [fr], weight } : Sre.M).step) =
      { code, text, lim, start, lastStart := ls, pc := pc + (1 + w1), pos := pos + 1, handed := pos, marks, seen := seen', frames := [fr], weight } := by
    simp only [Sre.M.step, Option.isSome_none, Bool.false_eq_true, if_false, hpc, if_true, Sre.M.exec, Sre.M.word, Nat.add_zero, h13, show Sre.ops[13]? = some .IN from rfl]
    rw [if_neg (by omega), acc]
    simp only [Sre.itemWidth, hop, hw]
  have s2 : (({ code, text, lim, start, lastStart := ls, pc := pc + (1 + w1), pos := pos + 1, handed := pos, marks, seen := seen', frames := [fr], weight } : Sre.M).step) =
      { code, text, lim, start, lastStart := ls, pc := pc + (1 + w1), pos := pos + 1, handed := pos + 1, marks, seen := seen'.add (code.getD (pc + (1 + w1)) 0), frames := [fr], weight, answer := some true } := by
    simp only [Sre.M.step, Option.isSome_none, Bool.false_eq_true, if_false, hpc2, if_true, Sre.M.exec, Sre.M.word, Nat.add_zero, hop2, Sre.M.say]
    rfl
  simp only [Sre.M.runFor, Option.isSome_none, Bool.false_eq_true, if_false, s1, s2]
  obtain ⟨wait, fpc, fpos, fom, cnt, kept, lp, bg⟩ := fr
  dsimp only at hfr
  subst hfr
  rfl

/-- what a search says -/
structure Finds (code : Array Nat) (bad : Nat → Bool) (body w1 : Nat) : Prop where
  header : Sre.header code = (1, body)
  first : Sre.ops[code.getD 0 0]? = some .INFO ∧ code.getD 2 0 = 4
  pc : body < code.size
  op : Sre.ops[code.getD body 0]? = some .IN
  op13 : code.getD body 0 = 13
  w : code.getD (body + 1) 0 = w1
  pc2 : body + (1 + w1) < code.size
  op2 : Sre.ops[code.getD (body + (1 + w1)) 0]? = some .SUCCESS
  set5 : ∀ c seen, ∃ seen', Sre.inSet code c code.size 5 true seen = .ok (bad c, seen')
  setB : ∀ c seen, ∃ seen', Sre.inSet code c code.size (body + 2) true seen = .ok (bad c, seen')

noncomputable def startM (code text : Array Nat) (n body ls : Nat) (sn : Sre.Seen) : Sre.M := { code, text, lim := n, start := 0, lastStart := ls, pc := body, pos := 0, handed := 0, marks := Array.replicate (2 * 0) none, seen := sn }
theorem forSearch_eq (code text : Array Nat) (n : Nat) : ∃ ls sn, Sre.forSearch code text 0 0 n false =
    if (decide (0 > n) || decide (n - 0 < (Sre.header code).1)) = true then (startM code text n (Sre.header code).2 0 sn).say false else (startM code text n (Sre.header code).2 ls sn).attemptFrom 0 true :=
  ⟨_, _, rfl⟩

theorem search_runs {code : Array Nat} {bad : Nat → Bool} {body w1 : Nat} (H : Finds code bad body w1) (text : Array Nat) :
    ((Sre.forSearch code text 0 0 text.size false).runFor 4).outcome = some (if anyBad bad text then .matched else .failed) := by
  obtain ⟨ls, sn, e⟩ := forSearch_eq code text text.size
  rw [e, H.header]
  by_cases h0 : text.size = 0
  · rw [if_pos (by simp [h0])]
    have : anyBad bad text = false := anyBad_not fun i hi => absurd hi (by omega)
    rw [this]
    exact run_said _ rfl rfl
  · have hc : (decide (0 > text.size) || decide (text.size - 0 < (1, body).1)) = false := Bool.or_eq_false_iff.mpr ⟨decide_eq_false (by omega), decide_eq_false (by show ¬ (text.size - 0 < 1); omega)⟩
    rw [hc, if_neg Bool.false_ne_true]
    have hfs : (startM code text text.size body ls sn).hasFirstSet = true := by
      unfold Sre.M.hasFirstSet startM
      simp only [H.first.1, H.first.2]
      rfl
    unfold Sre.M.attemptFrom
    rw [hfs]
    rw [if_neg (by decide)]
    rcases admitted_spec (m := startM code text text.size body ls sn) H.set5 (text.size + 1 - 0) 0 sn (by show text.size < _; omega) with ⟨i, sn', h1, h2, h3, h4⟩ | ⟨⟨sn', h1⟩, h2⟩
    · rw [show (startM code text text.size body ls sn).lim = text.size from rfl, show (startM code text text.size body ls sn).seen = sn from rfl, h1]
      have hi : i < text.size := h3
      have hb : bad (text.getD i 0) = true := h4
      rw [anyBad_of hi hb]
      obtain ⟨sn₂, hB⟩ := H.setB (text.getD i 0) (sn'.add 13)
      rw [hb] at hB
      show (Sre.M.runFor 4 (Sre.M.attemptAt { startM code text text.size body ls sn with mustAdvance := false, seen := sn' } i true)).outcome = some .matched
      exact run_found (fr := { wait := .nextStart, pc := body, pos := i, outermost := true }) H.pc H.op H.op13 H.w H.pc2 H.op2 rfl hi hB
    · rw [show (startM code text text.size body ls sn).lim = text.size from rfl, show (startM code text text.size body ls sn).seen = sn from rfl, h1]
      have hnb : anyBad bad text = false := anyBad_not (text := text) (fun i hi => h2 i (Nat.zero_le _) hi)
      rw [hnb]
      exact run_said _ rfl rfl
theorem finds_N : Finds codeN badN 11 7 := ⟨by rfl, ⟨by rfl, by rfl⟩, by decide, by rfl, by decide, by decide, by decide, by rfl, inSetN5, inSetN13⟩
theorem finds_V : Finds codeV badV 15 11 := ⟨by rfl, ⟨by rfl, by rfl⟩, by decide, by rfl, by decide, by decide, by decide, by rfl, inSetV5, inSetV17⟩

section
variable {prog : Program} {w : World} {A : Around} {E : Value → Shared → Prop} {s : Shared}
open Builtin.Re in
theorem wp_drive {m : Sre.M} {o : Sre.Outcome} {Q : Sre.M → Shared → Prop} (h : (m.runFor 4).outcome = some o) (hQ : Q (m.runFor 4) s) : wpAny (model prog w) A (reDrive (2 ^ 64) m) Q E s := by
  rw [show (2 : Nat) ^ 64 = (2 ^ 64 - 1) + 1 from rfl, reDrive]
  show wpAny _ _ (if (m.runFor 4).outcome.isSome = true then pure (m.runFor 4) else _) _ _ _
  rw [h]
  exact wpAny_pure hQ
theorem wp_rules {l : List Nat} {c : Nat → Bool} {t : Nat → String} {Q : PUnit → Shared → Prop} (hQ : Q PUnit.unit s) :
    wpAny (model prog w) A (forIn l PUnit.unit fun i (_ : PUnit) => (if c i = true then do rule (t i); pure (ForInStep.yield PUnit.unit) else pure (ForInStep.yield PUnit.unit) : Sem (ForInStep PUnit))) Q E s := by
  refine wpAny_forIn_list _ (fun _ _ s' => s' = s) Q ?_ ?_ l _ rfl
  · rintro x rest b s' rfl
    by_cases hc : c x = true
    · rw [if_pos hc]; exact wpAny_bind (wpAny_rule (wpAny_pure rfl))
    · rw [if_neg hc]; exact wpAny_pure rfl
  · rintro b s' rfl; exact hQ

open Builtin.Re in
theorem wp_toEnd {m : Sre.M} {o : Sre.Outcome} {Q : Option Sre.M → Shared → Prop} (h : (m.runFor 4).outcome = some o)
    (hQ : match o with | .matched => Q (some (m.runFor 4)) s | .failed => Q none s | .stuck _ => False) : wpAny (model prog w) A (reRunToEnd m) Q E s := by
  unfold reRunToEnd
  refine wpAny_bind (wp_drive h ?_)
  refine wpAny_bind ?_
  refine wp_rules ?_
  rw [h]
  cases o with
  | matched => exact wpAny_pure hQ
  | failed => exact wpAny_pure hQ
  | stuck _ => exact hQ.elim
end
end Mine
end

section
open PySem PySem.W PyProof.Rows PySem.Calls
set_option maxRecDepth 100000
set_option Elab.async false
set_option linter.unusedVariables false
namespace Mine
open Builtin.Re
theorem named_search (v : Value) : reNamed "re.Pattern.search" "search" ["string", "pos", "endpos"] 1 [v] [] = pure [some v, none, none] := by rfl
structure PatAt (h : Heap) (p : Addr) (code : Array Nat) : Prop where
  ex : ∃ pv fl tup k, h.get? p = some ⟨.type "re.Pattern", none, .fields #[pv, fl, .int 0 0, .none, .none, .ref tup, .int 0 0], #[]⟩ ∧
    h.get? tup = some ⟨.type "tuple", none, .seq (code.map fun (n : Nat) => Value.int (n : Int) 0) k, #[]⟩
noncomputable def matchObj (p tup : Addr) (x : Str) (t : Tok) (m : Sre.M) : Obj := { cls := .type "re.Match", data := .fields #[.str x t, .ref p, rawInt 0, rawInt x.cps.size, rawInt m.lastindex, .ref tup] }
section
variable {prog : Program} {w : World} {A : Around} {E : Value → Shared → Prop} {s : Shared}
theorem wp_fieldsOf {a : Addr} {o : Obj} {vs : Array Value} {Q : Array Value → Shared → Prop} (ho : s.heap.get? a = some o) (hd : o.data = .fields vs) (h : Q vs s) : wpAny (model prog w) A (fieldsOf (.ref a)) Q E s := by
  unfold fieldsOf
  refine wpAny_bind (wpAny_load ho ?_)
  rw [hd]
  exact wpAny_pure h
theorem wp_rawItems {a : Addr} {o : Obj} {vs : Array Value} {k : Nat} {Q : Array Int → Shared → Prop} (ho : s.heap.get? a = some o) (hd : o.data = .seq vs k) (h : Q (vs.map reRawOf) s) : wpAny (model prog w) A (reRawItems (.ref a)) Q E s := by
  unfold reRawItems
  refine wpAny_bind (wpAny_seqItems ho hd ?_)
  exact wpAny_pure h
theorem wp_target {p : Addr} {x : Str} {t : Tok} {code : Array Nat} {Q : ReTarget → Shared → Prop} (hp : PatAt s.heap p code) (hx : x.cps.size ≤ sizeLine)
    (h : Q { pattern := .ref p, string := .str x t, code, text := x.cps, kind := 0, groups := 0, pos := 0, lim := x.cps.size } s) : wpAny (model prog w) A (reTarget "re.Pattern.search" "search" ⟨[.ref p, .str x t], []⟩) Q E s := by
  obtain ⟨pv, fl, tup, k, h1, h2⟩ := hp.ex
  unfold reTarget
  dsimp only
  rw [named_search]
  show wpAny _ _ (fieldsOf (.ref p) >>= _) _ _ _
  refine wpAny_bind (wp_fieldsOf h1 rfl ?_)
  show wpAny _ _ (reTextOf (.str x t) >>= _) _ _ _
  show wpAny _ _ (reRawItems (.ref tup) >>= _) _ _ _
  refine wpAny_bind (wp_rawItems h2 rfl ?_)
  refine wpAny_pure ?_
  have e1 : ((code.map fun (n : Nat) => Value.int (n : Int) 0).map reRawOf).map (·.toNat) = code := by
    rw [Array.map_map, Array.map_map]
    conv => rhs; rw [← Array.map_id code]
    congr 1
  have e2 : min (2 ^ 63 - 1 : Int).toNat x.cps.size = x.cps.size := by
    rw [sizeLine_eq] at hx
    omega
  have e3 : min (0 : Int).toNat x.cps.size = 0 := by simp
  show Q { pattern := .ref p, string := .str x t, code := ((code.map fun (n : Nat) => Value.int (n : Int) 0).map reRawOf).map (·.toNat), text := x.cps, kind := 0, groups := 0, pos := min (0 : Int).toNat x.cps.size, lim := min (2 ^ 63 - 1 : Int).toNat x.cps.size } s
  rw [e1, e2, e3]
  exact h
theorem wp_newFields {T : String} {vs : List Value} {Q : Value → Shared → Prop} (h : Q (.ref s.heap.objs.size) { s with heap := s.heap.push { cls := .type T, data := .fields vs.toArray } })
    (hsz : vs.length ≤ sizeLine + 2) : wpAny (model prog w) A (newFields T vs) Q E s :=
  wpAny_newObj_type h (by show vs.toArray.size ≤ sizeLine + 2; rw [List.size_toArray]; exact hsz)
theorem meets_search {p : Addr} {x : Str} {t : Tok} {code : Array Nat} {bad : Nat → Bool} {body w1 : Nat} (H : Finds code bad body w1) (hx : x.cps.size ≤ sizeLine) :
    MeetsIn prog w (Builtin.«re.Pattern.search» ⟨[.ref p, .str x t], []⟩) (fun _ R s => PatAt s.heap p code ∧
      (anyBad bad x.cps = true → ∀ o₁ o₂ : Obj, o₂.cls = .type "re.Match" → o₂.isFreed = false → R (.ok (.ret (.ref (s.heap.objs.size + 1)))) { s with heap := (s.heap.push o₁).push o₂ }) ∧
      (anyBad bad x.cps = false → R (.ok (.ret .none)) s)) :=
  .of_wp fun A R s ⟨hp, h1, h2⟩ => by
    unfold Builtin.«re.Pattern.search»
    refine wpAny_bind (wp_target hp hx ?_)
    unfold reAnswer
    dsimp only
    have hr := search_runs H x.cps
    cases hb : anyBad bad x.cps with
    | false => 
      rw [hb] at hr
      refine wpAny_bind (wp_toEnd (o := .failed) hr ?_)
      exact wpAny_pure ⟨_, rfl, h2 hb⟩
    | true =>
      rw [hb] at hr
      refine wpAny_bind (wp_toEnd (o := .matched) hr ?_)
      refine wpAny_bind ?_
      unfold reNewMatch
      show wpAny _ _ (newTuple _ >>= _) _ _ _
      refine wpAny_bind (wpAny_newTuple ?_ (by rw [sizeLine_eq]; simp))
      refine wp_newFields ?_ (by rw [sizeLine_eq]; simp)
      refine wpAny_pure ⟨_, rfl, ?_⟩
      have e : ∀ o, (s.heap.push o).objs.size = s.heap.objs.size + 1 := fun o => by simp [Heap.push]
      simp only [e]
      exact h1 hb _ _ rfl rfl
/-- search, as it is called -/
theorem call_search {p : Addr} {x : Str} {t : Tok} {code : Array Nat} {bad : Nat → Bool} {body w1 : Nat} {Q : Value → Shared → Prop} (H : Finds code bad body w1) (hx : x.cps.size ≤ sizeLine) (hp : PatAt s.heap p code)
    (h1 : anyBad bad x.cps = true → ∀ o₁ o₂ : Obj, o₂.cls = .type "re.Match" → o₂.isFreed = false → Q (.ref (s.heap.objs.size + 1)) { s with heap := (s.heap.push o₁).push o₂ })
    (h2 : anyBad bad x.cps = false → Q .none s) : wpAny (model prog w) A (call (.builtin "re.Pattern.search") [.ref p, .str x t]) Q E s := by
  obtain ⟨pv, fl, tup, k, g1, g2⟩ := hp.ex
  exact call_meetsIn slot_search (show s.TypeIs (.ref p) "re.Pattern" from ⟨_, g1, rfl⟩) entry_search (args_search _ _) (meets_search H hx) ⟨hp, h1, h2⟩
theorem getMethod_search {p : Addr} {code : Array Nat} {pl : Sem Bool} {Q : Value × List Value → Shared → Prop} (hp : PatAt s.heap p code) (h : Q (.builtin "re.Pattern.search", [.ref p]) s) :
    wpAny (model prog w) A (getMethod (.ref p) (Str.ofString "search") pl) Q E s := by
  obtain ⟨pv, fl, tup, k, g1, g2⟩ := hp.ex
  exact getMethod_builtin (show s.TypeIs (.ref p) "re.Pattern" from ⟨_, g1, rfl⟩) plainAttrs_pattern slot_search type_search (fun a e => by injection e with e; subst e; exact ⟨_, g1, rfl⟩) h
theorem truthy_match {a : Addr} {o : Obj} {Q : Bool → Shared → Prop} (ho : s.heap.get? a = some o) (hc : o.cls = .type "re.Match") (h : Q true s) : wpAny (model prog w) A (truthy (.ref a)) Q E s := by
  have hT : s.TypeIs (.ref a) "re.Match" := ⟨_, ho, hc⟩
  unfold truthy
  refine wpAny_bind (wpAny_callSpecial?_none (name := Str.ofString "__bool__") hT match_bool ?_)
  refine wpAny_bind (wpAny_specialOf (name := Str.ofString "__len__") hT match_len ?_)
  exact wpAny_pure h
theorem News.past {h₀ h : Heap} {L : Addr} {news : List (Addr × Obj)} (N : News h₀ L h news) (o : Obj) : News h₀ L (h.push o) news :=
  fun p hp => ⟨Heap.get?_push_of_some _ (N p hp).1, (N p hp).2.1, (N p hp).2.2⟩
end
end Mine
end

section
open PySem PySem.W PyProof.Rows PySem.Calls
set_option maxRecDepth 100000
set_option Elab.async false
set_option linter.unusedVariables false
namespace Mine
/-- a tree that enters no code -/
noncomputable def NoCall {α : Type} : Sem α → Prop
  | .rule _ k | .at _ k | .update _ _ _ k | .point _ k => NoCall (k ())
  | .load _ _ k => ∀ x, NoCall (k x)
  | .loadIfAlive _ k => ∀ x, NoCall (k x)
  | .alloc _ k | .fresh k | .thread k => ∀ x, NoCall (k x)
  | .ask k => ∀ x, NoCall (k x)
  | .stack k => ∀ x, NoCall (k x)
  | .pure _ | .raise _ | .unsupported _ => True
  | _ => False
theorem nc_bind {α β : Type} {f : α → Sem β} (hf : ∀ a, NoCall (f a)) (t : Sem α) : NoCall t → NoCall (t >>= f) := by
  induction t with
  | pure a => exact fun _ => hf a
  | raise _ | unsupported _ => exact fun _ => trivial
  | rule _ k ih | «at» _ k ih | update _ _ _ k ih | point _ k ih => exact fun h => ih () h
  | load _ _ k ih => exact fun h x => ih x (h x)
  | loadIfAlive _ k ih => exact fun h x => ih x (h x)
  | alloc _ k ih | fresh k ih | thread k ih => exact fun h x => ih x (h x)
  | ask k ih => exact fun h x => ih x (h x)
  | stack k ih => exact fun h x => ih x (h x)
  | _ => exact fun h => h.elim
theorem nc_field (v : Value) (i : Nat) : NoCall (field v i) := by
  unfold field
  refine nc_bind (fun a => ?_) _ ?_
  · split <;> trivial
  · unfold fieldsOf
    split
    · refine nc_bind (fun o => ?_) _ (fun x => trivial)
      split <;> trivial
    · trivial
theorem nc_setField (v : Value) (i : Nat) (x : Value) : NoCall (setField v i x) := by
  unfold setField
  split
  · unfold updateField
    refine nc_bind (fun o => ?_) _ (fun x => trivial)
    split
    · split <;> trivial
    · trivial
  · trivial
theorem nc_newFields (ty : String) (vs : List Value) : NoCall (newFields ty vs) := by
  unfold newFields newObj
  dsimp only
  have h : NoCall (newObjAsIs (.type ty) (.fields vs.toArray)) := by
    unfold newObjAsIs
    repeat' first | trivial | (refine nc_bind (fun _ => ?_) _ ?_) | (intro _) | split
  split
  · trivial
  · exact h
theorem nc_kept (env : Env) (b : Bool) (l : List Env) : NoCall (keptBack env b l) := by
  cases l <;> unfold keptBack <;> (try unfold underTheClaimsCaller)
  all_goals repeat' first | trivial | (refine nc_bind (fun _ => ?_) _ ?_) | (intro _) | split
theorem nc_behind (env : Env) (l : List Env) : NoCall (behindIsImport env l) := by
  unfold behindIsImport
  repeat' first | trivial | exact nc_field _ _ | (refine nc_bind (fun _ => ?_) _ ?_) | (intro _) | split
theorem nc_ready : ∀ l : List Env, NoCall (readyFrames l)
  | [] => trivial
  | env :: outer => by
    have ih := nc_ready outer
    unfold readyFrames
    repeat' first | trivial | exact ih | exact nc_kept _ _ _ | exact nc_behind _ _ | (refine nc_bind (fun _ => ?_) _ ?_) | (intro _) | split
theorem nc_frameObject : ∀ l : List Env, NoCall (frameObject l)
  | [] => trivial
  | env :: outer => by
    unfold frameObject
    refine nc_bind (fun a => ?_) _ (nc_ready _)
    trivial
theorem nc_note (e : Value) (env : Env) : NoCall (noteFrame e env) := by
  unfold noteFrame
  repeat' first | trivial | exact nc_field _ _ | exact nc_setField _ _ _ | exact nc_newFields _ _ | exact nc_frameObject _ | (refine nc_bind (fun _ => ?_) _ ?_) | (intro _) | split
theorem nc_flight (e : Value) (o : Option Addr) : NoCall (setFlight e o) := by
  unfold setFlight
  refine nc_bind (fun a => ?_) _ (nc_field _ _)
  split
  · exact nc_setField _ _ _
  · trivial
theorem nc_leaving (e : Value) (env : Env) : NoCall (leaving env e) := nc_bind (fun _ => nc_flight _ _) _ (nc_note _ _)
theorem wp_both {α : Type} {M : Model} {Γ : Ctx} {Q Q' : α → Pos → Shared → Prop} {E E' : Value → Pos → Shared → Prop} (t : Sem α) : NoCall t → ∀ (p : Pos) (s : Shared), Sem.wp M Γ t Q E p s → Sem.wp M Γ t Q' E' p s →
    Sem.wp M Γ t (fun a p s => Q a p s ∧ Q' a p s) (fun a p s => E a p s ∧ E' a p s) p s := by
  induction t with
  | pure a | raise e => exact fun _ p s h h2 => ⟨h, h2⟩
  | unsupported _ => exact fun _ p s h _ => h.elim
  | rule _ k ih | «at» _ k ih | point _ k ih => exact fun n p s h h2 => ih () n _ _ h h2
  | update _ _ _ k ih => exact fun n p s h h2 => ⟨h.1, ih () n _ _ h.2 h2.2⟩
  | load _ _ k ih => intro n p s h h2; obtain ⟨o, e, h⟩ := h; obtain ⟨o', e', h2⟩ := h2; rw [e] at e'; cases e'; exact ⟨o, e, ih _ (n _) _ _ h h2⟩
  | loadIfAlive _ k ih => exact fun n p s h h2 => ih _ (n _) _ _ h h2
  | alloc _ k ih | fresh k ih | thread k ih => exact fun n p s h h2 => ih _ (n _) _ _ h h2
  | ask k ih => exact fun n p s h h2 => ih _ (n _) _ _ h h2
  | stack k ih => exact fun n p s h h2 => ih _ (n _) _ _ h h2
  | _ => exact fun h => h.elim
theorem wpAny_both {α : Type} {M : Model} {A : Around} {t : Sem α} {Q Q' : α → Shared → Prop} {E E' : Value → Shared → Prop} {s : Shared} (n : NoCall t) (h : wpAny M A t Q E s) (h2 : wpAny M A t Q' E' s) :
    wpAny M A t (fun a s => Q a s ∧ Q' a s) (fun e s => E e s ∧ E' e s) s := fun Γ p hΓ => wp_both t n p s (h Γ p hΓ) (h2 Γ p hΓ)
end Mine
end

section
open PySem PySem.W PyProof.Rows PySem.Calls
set_option maxRecDepth 100000
set_option Elab.async false
set_option linter.unusedVariables false
namespace Mine
/-- a map with two names that the loop stores -/
noncomputable abbrev two (k v : Str) (f M : Str → Option Value) : Str → Option Value := fun y => if y = v then f v else if y = k then f k else M y
theorem two_self (k v : Str) (M : Str → Option Value) : M = two k v M M := by
  funext y; unfold two; split
  · rename_i h; rw [h]
  · split
    · rename_i h; rw [h]
    · rfl
theorem two_set (k v : Str) (f M : Str → Option Value) (a b : Option Value) (h : k ≠ v) : (fun y => if y = v then b else if y = k then a else two k v f M y) = two k v (fun y => if y = v then b else a) M := by
  funext y; unfold two; dsimp only
  by_cases h1 : y = v
  · rw [if_pos h1, if_pos h1, if_pos rfl]
  · by_cases h2 : y = k
    · rw [if_neg h1, if_pos h2, if_neg h1, if_pos h2, if_neg h]
    · rw [if_neg h1, if_neg h2, if_neg h1, if_neg h2, if_neg h1, if_neg h2]
theorem find_first {α : Type} {p : α → Bool} : ∀ {l : List α} {i : Nat} {x : α}, l[i]? = some x → p x = true → (∀ j y, j < i → l[j]? = some y → p y = false) → l.find? p = some x
  | a :: l, 0, x, h, hp, _ => by
    simp only [List.getElem?_cons_zero, Option.some.injEq] at h
    subst h
    rw [List.find?_cons, hp]
  | a :: l, i + 1, x, h, hp, hb => by
    have h0 := hb 0 a (Nat.succ_pos _) rfl
    rw [List.find?_cons, h0]
    exact find_first (l := l) (i := i) (by simpa using h) hp fun j y hj e => hb (j + 1) y (Nat.succ_lt_succ hj) (by simpa using e)
theorem find_none {α : Type} {p : α → Bool} {l : List α} (hb : ∀ j y, j < l.length → l[j]? = some y → p y = false) : l.find? p = none := by
  rw [List.find?_eq_none]
  intro x hx
  obtain ⟨i, hi, e⟩ := List.mem_iff_getElem.mp hx
  have := hb i x hi (by rw [List.getElem?_eq_getElem hi, e])
  simp [this]
theorem turn_lt {n i : Nat} (h : i < n) : n + 1 - (i + 1) < n + 1 - i := by rw [Nat.add_sub_add_right]; exact Nat.sub_lt_sub_right (Nat.le_of_lt h) (Nat.lt_succ_self n)
theorem turn_end {n i : Nat} (h : i ≤ n) (h2 : ¬ i < n) : i = n := Nat.le_antisymm h (Nat.not_lt.mp h2)
section
variable {prog : Program} {w : World} {A : Around} {E : Value → Shared → Prop} {s : Shared} {env : Env} {h₀ : Heap} {Q : Flow → Shared → Prop} {target iter : Expr} {body : List Stmt} {pos : Pos}
/-- what a turn leaves -/
noncomputable def TurnM (h₀ : Heap) (L : Addr) (wr : List Addr) (own : List (Addr × Obj)) (J : (Str → Option Value) → List (Addr × Obj) → Prop) (s₂ : Shared) (Q : Flow → Shared → Prop) (f : Flow) (s' : Shared) : Prop :=
  match f with
  | .ret v => Q (.ret v) s'
  | .brk => Q .next s'
  | _ => ∃ h' tk m' news', s' = { s₂ with heap := h', toks := tk } ∧ Fr h₀ L h' m' ∧ News h₀ L h' (own ++ news') ∧ (∀ p ∈ news', p.1 ∉ wr) ∧ J m' news'
/-- a loop with an invariant of the names and the ledger; a turn may return -/
noncomputable def LoopM (prog : Program) (w : World) (A : Around) (h₀ : Heap) (env : Env) (target : Expr) (body : List Stmt) (Q : Flow → Shared → Prop) (E : Value → Shared → Prop) (it : Value) (s₂ : Shared) : Prop :=
  ∃ (I : Addr) (fp wr : List Addr) (n : Nat) (P : Nat → Value → Prop) (St : Nat → Heap → Prop) (m : Str → Option Value) (news : List (Addr × Obj)) (J : Nat → (Str → Option Value) → List (Addr × Obj) → Prop),
    it = .ref I ∧ Walks prog w A I fp wr n P St ∧ env.locals ∉ fp ∧ (∀ b ∈ wr, h₀.get? b = none) ∧ (∀ p ∈ news, p.1 ∉ wr) ∧ St 0 s₂.heap ∧ Fr h₀ env.locals s₂.heap m ∧ News h₀ env.locals s₂.heap news ∧
    (∀ i (s' : Shared) v (Q' : Unit → Shared → Prop), St i s'.heap → Q' () s' → wpAny (model prog w) A (letOwnedTupleGo target (.ref I) v) Q' E s') ∧ J 0 m news ∧
    (∀ i v m₁ news₁ h tk own, i < n → P i v → St (i + 1) h → (∀ b ∈ fp, h₀.get? b = none → ∀ o, h.get? b = some o → (b, o) ∈ own) → J i m₁ news₁ → (∀ p ∈ news₁, p.1 ∉ wr) → (∀ p ∈ own, p.1 ∈ fp) →
      Fr h₀ env.locals h m₁ → News h₀ env.locals h (own ++ news₁) →
      wpAny (model prog w) A (assign target env v) (fun _ s₃ => wpAny (model prog w) A (execs body env) (TurnM h₀ env.locals wr own (J (i + 1)) s₂ Q) E s₃) E { s₂ with heap := h, toks := tk }) ∧
    ∀ h' tk m' news', Fr h₀ env.locals h' m' → News h₀ env.locals h' news' → (∀ p ∈ news', p.1 ∉ wr) → J n m' news' → Q .next { s₂ with heap := h', toks := tk }

theorem for_any (h : wpAny (model prog w) A (eval iter env) (fun xv s₁ => wpAny (model prog w) A (pyIter xv) (fun it s₂ => LoopM prog w A h₀ env target body Q E it s₂) E s₁) E s)
    (hs : ∀ x, foldedSetIterable iter env x = pure x)
    (hE : PassesOwn (model prog w) A env E := by passes_own) :
    wpAny (model prog w) A (exec (.For target iter body [] pos) env) Q E s := by
  refine wpAny_For (wpAny_mono h (fun xv s₁ h₁ => wpAny_mono h₁ (fun it s₂ h₂ => ?_) fun _ _ e => e) fun _ _ e => e) hs
  obtain ⟨I, fp, wr, n, P, St, m, news, J, rfl, W, hLf, hwr, hnw, hst, F, N, hgo, h0, step, hR⟩ := h₂
  have hLw : env.locals ∉ wr := fun h => hLf (W.sub _ h)
  have old : ∀ b o, h₀.get? b = some o → b ∉ wr := fun b o e hb => by rw [hwr b hb] at e; cases e
  refine codeAny_forLoop_any
    (fun k s' => ∃ h' tk m' news' i, s' = { s₂ with heap := h', toks := tk } ∧ St i h' ∧ Fr h₀ env.locals h' m' ∧ News h₀ env.locals h' news' ∧ (∀ p ∈ news', p.1 ∉ wr) ∧ J i m' news' ∧ i ≤ n ∧ k = n + 1 - i) ?_ (n + 1)
    ⟨s₂.heap, s₂.toks, m, news, 0, rfl, hst, F, N, hnw, h0, Nat.zero_le _, rfl⟩
  rintro k s' ⟨h', tk, m', news', i, rfl, hst', F', N', hnw', hJ, hi, rfl⟩
  have kept : ∀ h₁ : Heap, (∀ b o, b ∉ wr → h'.get? b = some o → h₁.get? b = some o) → Fr h₀ env.locals h₁ m' ∧ News h₀ env.locals h₁ news' := fun h₁ hk₁ =>
    ⟨⟨F'.ns.at' fun o e => hk₁ _ o hLw e, fun b o e => hk₁ b o (old b o e) (F'.keep b o e), F'.above⟩, fun p hp => ⟨hk₁ _ _ (hnw' p hp) (N' p hp).1, (N' p hp).2⟩⟩
  by_cases hlt : i < n
  · refine W.item i _ _ _ hlt hst' fun v h₁ tk₁ hP hst₁ hk₁ => ?_
    obtain ⟨F₁, N₁⟩ := kept h₁ hk₁
    have Nown : News h₀ env.locals h₁ (ownOf h₀ fp h₁) := news_ownOf hLf
    have Nall : News h₀ env.locals h₁ (ownOf h₀ fp h₁ ++ news') := fun p hp => (List.mem_append.mp hp).elim (Nown p) (N₁ p)
    refine wpAny_passesOwn hE (hgo (i + 1) _ v _ hst₁ ?_)
    refine wpAny_passesOwn hE (wpAny_mono (step i v m' news' h₁ tk₁ (ownOf h₀ fp h₁) hlt hP hst₁ (fun b hb hn o e => mem_ownOf hb hn e) hJ hnw' ownOf_sub F₁ Nall) (fun _ s₃ h₃ => wpAny_passesOwn hE (wpAny_mono h₃ (fun f s₄ h₄ => ?_) fun _ _ e => e)) fun _ _ e => e)
    have go : (∃ h' tk m₃ news₃, s₄ = { s₂ with heap := h', toks := tk } ∧ Fr h₀ env.locals h' m₃ ∧ News h₀ env.locals h' (ownOf h₀ fp h₁ ++ news₃) ∧ (∀ p ∈ news₃, p.1 ∉ wr) ∧ J (i + 1) m₃ news₃) →
        ∃ m, m < n + 1 - i ∧ (∃ h' tk m' news' i, s₄ = { s₂ with heap := h', toks := tk } ∧ St i h' ∧ Fr h₀ env.locals h' m' ∧ News h₀ env.locals h' news' ∧ (∀ p ∈ news', p.1 ∉ wr) ∧ J i m' news' ∧ i ≤ n ∧ m = n + 1 - i) := by
      rintro ⟨h₃', tk₃, m₂, news₂, rfl, F₃, N₃, ha₃, hJ₃⟩
      refine ⟨n + 1 - (i + 1), turn_lt hlt, h₃', tk₃, m₂, news₂, i + 1, rfl, ?_, F₃, fun p hp => N₃ p (List.mem_append_right _ hp), ha₃, hJ₃, hlt, rfl⟩
      refine W.frame _ _ _ hst₁ fun b hb o e => ?_
      cases hn : h₀.get? b with
      | some o₀ =>
        have e2 := Option.some.inj ((F₁.keep b o₀ hn).symm.trans e)
        rw [← e2]
        exact F₃.keep b o₀ hn
      | none => exact (N₃ _ (List.mem_append_left _ (mem_ownOf hb hn e))).1
    cases f with
    | next => exact go h₄
    | cont => exact go h₄
    | brk => exact h₄
    | ret v => exact h₄
  · have hin : i = n := turn_end hi hlt
    subst hin
    refine W.done _ _ _ hst' fun h₁ tk₁ hk₁ => wpAny_execs_nil ?_
    obtain ⟨F₁, N₁⟩ := kept h₁ hk₁
    exact hR h₁ tk₁ m' news' F₁ N₁ hnw' hJ
theorem goM_listiter {I l : Addr} {i : Nat} {v : Value} {Q' : Unit → Shared → Prop} (hit : s.heap.IsListIter I l i) (hQ : Q' () s) : wpAny (model prog w) A (letOwnedTupleGo target (.ref I) v) Q' E s := by
  unfold letOwnedTupleGo
  obtain ⟨o, ho, hc, hd⟩ := hit
  have key : wpAny (model prog w) A (do
      let (.ref r, .ref a) := ((Value.ref I, v) : Value × Value) | return
      let o ← load r
      match o.cls, o.data with
      | .type n, .fields vs =>
        if ["enumerate", "zip", "dict_itemiterator", "dict_reverseitemiterator", "odict_iterator", "itertools.zip_longest", "itertools.pairwise"].contains n && vs[0]? == some (rawInt a) then
          rule "for.unpacks-the-owned-tuple"
          updateField r 0 .none
      | _, _ => pure ()) Q' E s := by
    cases v with
    | ref a =>
      refine wpAny_bind (wpAny_load ho ?_)
      rw [hc, hd]
      exact wpAny_pure hQ
    | _ => exact wpAny_pure hQ
  cases target with
  | Tuple a b c => exact key
  | List a b => exact key
  | _ => exact wpAny_pure hQ

theorem iterM_list {l : Addr} {vs : Array Value} {m₀ : Str → Option Value} {news : List (Addr × Obj)} (J : Nat → (Str → Option Value) → List (Addr × Obj) → Prop)
    (hh : A.handled = none) (hl : s.heap.IsList l vs) (hlL : l ≠ env.locals) (F : Fr h₀ env.locals s.heap m₀) (N : News h₀ env.locals s.heap news) (hj : J 0 m₀ news)
    (turn : ∀ i v m₁ news₁ h tk own, vs[i]? = some v → J i m₁ news₁ → (∀ p ∈ news₁, p.1 ≠ s.heap.objs.size) → (∀ p ∈ own, p.1 = s.heap.objs.size ∨ p.1 = l) → Fr h₀ env.locals h m₁ → News h₀ env.locals h (own ++ news₁) →
      wpAny (model prog w) A (assign target env v) (fun _ s₃ => wpAny (model prog w) A (execs body env) (TurnM h₀ env.locals [s.heap.objs.size] own (J (i + 1)) s Q) E s₃) E { s with heap := h, toks := tk })
    (done : ∀ h' tk m' news', Fr h₀ env.locals h' m' → News h₀ env.locals h' news' → (∀ p ∈ news', p.1 ≠ s.heap.objs.size) → J vs.size m' news' → Q .next { s with heap := h', toks := tk }) :
    wpAny (model prog w) A (pyIter (.ref l)) (fun it s₂ => LoopM prog w A h₀ env target body Q E it s₂) E s := by
  obtain ⟨ol, hol, hol'⟩ := id hl
  have hlt : l < s.heap.objs.size := Heap.lt_size hol
  have hne : l ≠ s.heap.objs.size := Nat.ne_of_lt hlt
  refine wpAny_pyIter_list hl ?_
  have W := Walks.list (prog := prog) (w := w) hh s.heap.objs.size l hne vs
  refine ⟨_, _, _, vs.size, _, _, m₀, news, J, rfl, W, ?_, ?_, ?_, ⟨⟨_, Heap.get?_push_size _ rfl, rfl, rfl⟩, hl.at fun o e => Heap.get?_push_of_some _ e⟩, F.push _, (fun p hp => ⟨Heap.get?_push_of_some _ (N p hp).1, (N p hp).2⟩), ?_, hj, ?_, ?_⟩
  · intro hm
    rcases List.mem_cons.mp hm with e | hm
    · exact absurd F.ns.lt (e ▸ Nat.lt_irrefl _)
    · exact hlL (List.mem_singleton.mp hm).symm
  · intro b hb
    rw [List.mem_singleton.mp hb]
    cases hq : h₀.get? s.heap.objs.size with
    | none => rfl
    | some o => exact absurd (Heap.lt_size hq) (Nat.not_lt_of_le (Nat.le_of_lt (Nat.lt_of_le_of_lt F.above F.ns.lt)))
  · intro p hp hI
    exact absurd (Heap.lt_size (N p hp).1) ((List.mem_singleton.mp hI) ▸ Nat.lt_irrefl _)
  · intro i s' v Q' hst hq
    exact goM_listiter hst.1 hq
  · intro i v m₁ news₁ h tk own hi hP _ _ hJ hoff hsub F₁ N₁
    exact turn i v m₁ news₁ h tk own hP hJ (fun p hp e => hoff p hp (by rw [e]; exact List.mem_singleton_self _)) (fun p hp => by simpa using hsub p hp) F₁ N₁
  · intro h' tk m' news' F₁ N₁ hoff hJ
    exact done h' tk m' news' F₁ N₁ (fun p hp e => hoff p hp (by rw [e]; exact List.mem_singleton_self _)) hJ
theorem for_anyF {m : Str → Option Value} (F : Fr h₀ env.locals s.heap m) (h : wpAny (model prog w) A (eval iter env) (fun xv s₁ => wpAny (model prog w) A (pyIter xv) (fun it s₂ => LoopM prog w A h₀ env target body Q E it s₂) E s₁) E s)
    (hs : ∀ x, foldedSetIterable iter env x = pure x)
    (hE : PassesOwn (model prog w) A env E := by passes_own) :
    wpAny (model prog w) A (exec (.For target iter body [] pos) env) Q E s := for_any h hs hE
theorem iterM_str {y : Str} {yp : Pos} {x : Str} {t : Tok} {m₀ : Str → Option Value} {news : List (Addr × Obj)} (J : Nat → (Str → Option Value) → List (Addr × Obj) → Prop)
    (hh : A.handled = none) (F : Fr h₀ env.locals s.heap m₀) (N : News h₀ env.locals s.heap news) (hj : J 0 m₀ news)
    (turn : ∀ i c u m₁ news₁ h tk own, x.cps[i]? = some c → J i m₁ news₁ → (∀ p ∈ news₁, p.1 ≠ s.heap.objs.size) → (∀ p ∈ own, p.1 = s.heap.objs.size) → (∃ o, (s.heap.objs.size, o) ∈ own) → Fr h₀ env.locals h m₁ → News h₀ env.locals h (own ++ news₁) →
      wpAny (model prog w) A (assign (.Name y yp) env (.str ⟨#[c]⟩ u)) (fun _ s₃ => wpAny (model prog w) A (execs body env) (TurnM h₀ env.locals [s.heap.objs.size] own (J (i + 1)) s Q) E s₃) E { s with heap := h, toks := tk })
    (done : ∀ h' tk m' news', Fr h₀ env.locals h' m' → News h₀ env.locals h' news' → (∀ p ∈ news', p.1 ≠ s.heap.objs.size) → J x.cps.size m' news' → Q .next { s with heap := h', toks := tk }) :
    wpAny (model prog w) A (pyIter (.str x t)) (fun it s₂ => LoopM prog w A h₀ env (.Name y yp) body Q E it s₂) E s := by
  have key : ∀ (o : Obj) (T : String), (s.heap.push o).IsStrIter s.heap.objs.size T x t 0 → Walks prog w A s.heap.objs.size [s.heap.objs.size] [s.heap.objs.size] x.cps.size (SignAt x) (fun i h => h.IsStrIter s.heap.objs.size T x t i) →
      LoopM prog w A h₀ env (.Name y yp) body Q E (.ref s.heap.objs.size) { s with heap := s.heap.push o } := by
    intro o T hst W
    have hfree : h₀.get? s.heap.objs.size = none := by
      cases hq : h₀.get? s.heap.objs.size with
      | none => rfl
      | some o => exact absurd (Heap.lt_size hq) (Nat.not_lt_of_le (Nat.le_of_lt (Nat.lt_of_le_of_lt F.above F.ns.lt)))
    refine ⟨_, _, _, x.cps.size, _, _, m₀, news, J, rfl, W, ?_, ?_, ?_, hst, F.push _, (fun p hp => ⟨Heap.get?_push_of_some _ (N p hp).1, (N p hp).2⟩), ?_, hj, ?_, ?_⟩
    · intro hm
      exact absurd F.ns.lt ((List.mem_singleton.mp hm) ▸ Nat.lt_irrefl _)
    · intro b hb
      rw [List.mem_singleton.mp hb]
      exact hfree
    · intro p hp hI
      exact absurd (Heap.lt_size (N p hp).1) ((List.mem_singleton.mp hI) ▸ Nat.lt_irrefl _)
    · intro i s' v Q' _ hq
      exact wpAny_pure hq
    · rintro i v m₁ news₁ h tk own hi ⟨c, u, hc, rfl⟩ hst₁ hall hJ hoff hsub F₁ N₁
      obtain ⟨ob, hob, _⟩ := id hst₁
      exact turn i c u m₁ news₁ h tk own hc hJ (fun p hp e => hoff p hp (by rw [e]; exact List.mem_singleton_self _)) (fun p hp => by simpa using hsub p hp) ⟨ob, hall _ (List.mem_singleton_self _) hfree _ hob⟩ F₁ N₁
    · intro h' tk m' news' F₁ N₁ hoff hJ
      exact done h' tk m' news' F₁ N₁ (fun p hp e => hoff p hp (by rw [e]; exact List.mem_singleton_self _)) hJ
  cases ha : x.cps.all (· < 128)
  · exact wpAny_pyIter_wide ha (key _ _ ⟨_, Heap.get?_push_size _ rfl, rfl, rfl⟩ (Walks.strWide hh _ x t))
  · exact wpAny_pyIter_ascii ha (key _ _ ⟨_, Heap.get?_push_size _ rfl, rfl, rfl⟩ (Walks.strAscii hh _ x t))
theorem iterM_enum {xi xc : Str} {l : Addr} {vs : Array Value} {m₀ : Str → Option Value} {news : List (Addr × Obj)} (J : Nat → (Str → Option Value) → List (Addr × Obj) → Prop)
    (hh : A.handled = none) (hl : s.heap.IsList l vs) (hlL : l ≠ env.locals) (F : Fr h₀ env.locals s.heap m₀) (N : News h₀ env.locals s.heap news) (hj : J 0 m₀ news)
    (turn : ∀ i t v m₁ news₁ h tk own, vs[i]? = some v → J i m₁ news₁ → news₁.map (·.1) = news.map (·.1) → (∀ p ∈ own, p.1 = l ∨ s.heap.objs.size ≤ p.1) →
      Fr h₀ env.locals h (fun y => if y = xc then some v else if y = xi then some (.int i t) else m₁ y) → News h₀ env.locals h (own ++ news₁) →
      wpAny (model prog w) A (execs body env) (LoopStep3 h₀ env.locals own news₁ (J (i + 1)) { s with heap := h, toks := tk } (fun v s' => Q (.ret v) s') fun s' => Q .next s') E { s with heap := h, toks := tk })
    (done : ∀ h' tk m' news', Fr h₀ env.locals h' m' → News h₀ env.locals h' news' → news'.map (·.1) = news.map (·.1) → J vs.size m' news' → Q .next { s with heap := h', toks := tk }) :
    wpAny (model prog w) A (call (.type "enumerate") [.ref l]) (fun xv s₁ => wpAny (model prog w) A (pyIter xv) (fun it s₂ => PairAt3 prog w A h₀ env xi xc body Q E it s₂) E s₁) E s := by
  obtain ⟨ol, hol, hol'⟩ := id hl
  have hlt : l < s.heap.objs.size := Heap.lt_size hol
  have hLs : env.locals < s.heap.objs.size := F.ns.lt
  have hab : h₀.objs.size ≤ env.locals := F.above
  refine call_enumerate_list hl fun h' he hit hsz hk => ?_
  have F' : Fr h₀ env.locals h' m₀ := ⟨F.ns.keeps hk, fun b o e => hk b o (F.keep b o e), F.above⟩
  have N' : News h₀ env.locals h' news := fun p hp => ⟨hk _ _ (N p hp).1, (N p hp).2⟩
  refine wpAny_pyIter_enum he ?_
  have W := WalksT.enumerate (prog := prog) (w := w) hh (s.heap.objs.size + 1) s.heap.objs.size l (Nat.succ_ne_self _) (Nat.ne_of_lt (Nat.lt_succ_of_lt hlt)) (Nat.ne_of_lt hlt) vs
  refine ⟨_, _, _, vs.size, _, _, _, fun i v0 v1 => vs[i]? = some v1 ∧ ∃ t, v0 = .int i t, m₀, news, J, rfl, W, ?_, ?_, ?_, ?_, ⟨⟨_, he⟩, hit, hl.at fun o e => hk l o e⟩, F', N', hj, ?_, ?_⟩
  · rintro i vals ⟨t, x, hx, rfl⟩
    exact ⟨_, _, rfl, hx, t, rfl⟩
  · intro hm
    rcases List.mem_cons.mp hm with e | hm
    · exact Nat.ne_of_lt (Nat.lt_succ_of_lt hLs) e
    · rcases List.mem_cons.mp hm with e | hm
      · exact Nat.ne_of_lt hLs e
      · exact hlL (List.mem_singleton.mp hm).symm
  · intro b hb
    rcases List.mem_cons.mp hb with rfl | hb
    · exact Heap.get?_none_of_le (Nat.le_trans hab (Nat.le_of_lt (Nat.lt_succ_of_lt hLs)))
    · rw [List.mem_singleton.mp hb]; exact Heap.get?_none_of_le (Nat.le_trans hab (Nat.le_of_lt hLs))
  · intro p hp hI
    have h1 := Heap.lt_size (N p hp).1
    rcases List.mem_cons.mp hI with e | hb
    · rw [e] at h1; exact absurd h1 (Nat.not_lt_of_le (Nat.le_succ _))
    · rw [List.mem_singleton.mp hb] at h1; exact absurd h1 (Nat.lt_irrefl _)
  · rintro i v0 v1 m₁ news₁ s₁ own ⟨h, tk, rfl⟩ hi ⟨hx, t, rfl⟩ hJ hmap hsub F₁ N₁
    refine turn i t v1 m₁ news₁ h tk own hx hJ hmap (fun p hp => ?_) F₁ N₁
    rcases List.mem_cons.mp (hsub p hp) with e | hb
    · exact .inr (by rw [e]; exact Nat.le_succ _)
    · rcases List.mem_cons.mp hb with e | hb
      · exact .inr (by rw [e]; exact Nat.le_refl _)
      · exact .inl (List.mem_singleton.mp hb)
  · exact done
end
end Mine
end

section
open PySem PySem.W PyProof.Rows PySem.Calls
set_option maxRecDepth 100000
set_option Elab.async false
set_option linter.unusedVariables false
namespace Mine
theorem entry_unchain : entryFor table "proto.unchain" = some Builtin.«proto.unchain» := entryFor_of_fast (by kernel_rfl)
section
variable {prog : Program} {w : World} {A : Around} {E : Value → Shared → Prop} {s : Shared} {env : Env} {h₀ : Heap}
/-- an exception without a context -/
noncomputable def CtxN (e : Addr) (h : Heap) : Prop := ∃ oe vs, h.get? e = some oe ∧ oe.data = .fields vs ∧ vs[2]? = some .none
theorem raiseNew_H {α : Type} {e ne : Addr} {on : Obj} {vs : Array Value} {Q : α → Shared → Prop} (hh : A.handled = some (.ref e)) (hne : ne ≠ e) (hc : CtxN e s.heap) (hn : s.heap.get? ne = some on) (hdn : on.data = .fields vs) (hsz : 2 < vs.size)
    (h : E (.ref ne) { s with heap := s.heap.update ne (Obj.mapFields (·.setIfInBounds 2 (.ref e))) }) : wpAny (model prog w) A (raiseNew (.ref ne) : Sem α) Q E s := by
  obtain ⟨oe, ws, he, hd, h2⟩ := hc
  simp only [raiseNew]
  refine wpAny_bind (wpAny_handled ?_)
  rw [hh]
  dsimp only
  have e1 : (Value.ref e != Value.ref ne) = true := by simp [bne_iff_ne]; exact fun q => hne q.symm
  rw [if_pos e1]
  refine wpAny_bind (wpAny_holding (wpAny_runValue (codeAny_builtin entry_unchain ?_)))
  unfold Builtin.«proto.unchain»
  show wpAny _ _ (field (.ref e) 2 >>= _) _ _ s
  refine wpAny_bind (wpAny_field he hd h2 ?_)
  show wpAny _ _ (if (Value.none == Value.none) = true then _ else _) _ _ s
  rw [if_pos (by decide)]
  refine wpAny_bind (wpAny_pure ?_)
  refine wpAny_pure ?_
  dsimp only
  refine wpAny_bind ?_
  show wpAny _ _ (setField (.ref ne) 2 (.ref e)) _ _ _
  exact wpAny_setField hn hdn hsz (wpAny_throw h)
theorem pyNext_endH {e it l : Addr} {i : Nat} {items} {Q : Option Value → Shared → Prop} (hh : A.handled = some (.ref e)) (hc : CtxN e s.heap) (hei : e ≠ it)
    (hit : s.heap.IsListIter it l i) (hl : s.heap.IsList l items) (hx : items[i]? = none)
    (hQ : ∀ h', Heap.ExtBut it s.heap h' → Q none { s with heap := h' }) : wpAny (model prog w) A (pyNext (.ref it)) Q E s := by
  obtain ⟨o, ho, hco, hd⟩ := id hit
  obtain ⟨ol, hol, _, nl, hdl⟩ := hl
  obtain ⟨oe, ws, he, hde, h2⟩ := hc
  unfold pyNext
  refine wpAny_bind (wpAny_attempt (wpAny_callSpecial?_slot (name := Str.ofString "__next__") hit.typeIs slot_listiter_next
    (wpAny_call_entry slot_listiter_next hit.typeIs entry_listiter_next ?_ (args_listiter_next _))))
  show wpAny _ _ (field (.ref it) 0 >>= _) _ _ s
  refine wpAny_bind (wpAny_field ho hd (x := .ref l) rfl ?_)
  show wpAny _ _ (if (Value.ref l == Value.none) = true then _ else _) _ _ s
  rw [if_neg (show ¬ ((Value.ref l == Value.none) = true) from Bool.false_ne_true)]
  show wpAny _ _ (field (.ref it) 1 >>= _) _ _ s
  refine wpAny_bind (wpAny_field ho hd (x := .int i 0) rfl ?_)
  show wpAny _ _ (seqItems? (.ref l) >>= _) _ _ s
  refine wpAny_bind (wpAny_seqItems hol hdl ?_)
  simp only [Int.toNat_natCast, hx]
  refine wpAny_bind (wpAny_rule (wpAny_bind (wpAny_setField ho hd (by simp) ?_)))
  show wpAny _ _ (newExc (.type "StopIteration") [] >>= _) _ _ _
  refine wpAny_bind ?_
  simp only [newExc, newTuple]
  refine wpAny_bind (wpAny_newObj_type ?_ (by size_fits))
  refine wpAny_bind (m := firstArgMember _ _) (wpAny_of_eq (a := Value.none) (by first | rfl | (simp only [firstArgMember]; rfl)) ?_)
  refine wpAny_newObj_type ?_ (by size_fits)
  have hup : Heap.ExtBut it s.heap (s.heap.update it (Obj.mapFields (·.setIfInBounds 0 Value.none))) := (Heap.SameBut.update ..).extBut
  have he2 := hup e oe hei he
  generalize hH : s.heap.update it (Obj.mapFields (·.setIfInBounds 0 Value.none)) = H1 at hup he2 ⊢
  have hlt : e < H1.objs.size := Heap.lt_size he2
  refine raiseNew_H (e := e) (A := A.in1) hh ?ne ⟨oe, ws, Heap.get?_push_of_some _ (Heap.get?_push_of_some _ he2), hde, h2⟩ (Heap.get?_push_size _ rfl) rfl (by simp; omega) ?k
  case ne =>
    intro q
    dsimp only at q
    rw [Heap.size_push] at q
    exact Nat.lt_irrefl _ (Nat.lt_trans hlt (by rw [← q]; exact Nat.lt_succ_self _))
  case k =>
    dsimp only
    refine wpAny_bind (wpAny_isInstance (T := "StopIteration") (b := true) ⟨_, Heap.get?_update_self _ (Heap.get?_push_size _ rfl) rfl, rfl⟩ isSubtype_stop ?_)
    refine wpAny_pure (hQ _ ?_)
    refine fun b o hb e => ?_
    have h1 := hup b o hb e
    rw [Heap.get?_update_other]
    · exact Heap.get?_push_of_some _ (Heap.get?_push_of_some _ h1)
    · intro q
      have := Heap.lt_size h1
      rw [← q, Heap.size_push] at this
      exact Nat.lt_irrefl _ (Nat.lt_trans this (Nat.lt_succ_self _))
theorem CtxN.at {e : Addr} {h h' : Heap} (x : CtxN e h) (k : ∀ o, h.get? e = some o → h'.get? e = some o) : CtxN e h' := let ⟨oe, ws, a, b, c⟩ := x; ⟨oe, ws, k _ a, b, c⟩
theorem walks_listH {e : Addr} (hh : A.handled = some (.ref e)) (I ax : Addr) (hne : ax ≠ I) (hei : e ≠ I) (items : Array Value) :
    Walks prog w A I [I, ax, e] [I] items.size (fun i v => items[i]? = some v) (fun i h => h.IsListIter I ax i ∧ h.IsList ax items ∧ CtxN e h) where
  sub := fun b hb => by simp at hb; simp [hb]
  frame := fun _ _ _ st hk => ⟨st.1.at fun o x => hk I (by simp) o x, st.2.1.at fun o x => hk ax (by simp) o x, st.2.2.at fun o x => hk e (by simp) o x⟩
  item := fun i s Q E hi st hQ => by
    refine wpAny_pyNext_list_item st.1 st.2.1 (x := items[i]) (by simp [hi]) fun h' hit' hs' => ?_
    exact hQ _ h' s.toks (by simp [hi]) ⟨hit', st.2.1.at fun o x => (hs'.2 ax hne).trans x, st.2.2.at fun o x => (hs'.2 e hei).trans x⟩ fun b o hb x => (hs'.2 b (fun q => hb (by simp [q]))).trans x
  done := fun s Q E st hQ => pyNext_endH hh st.2.2 hei st.1 st.2.1 (by simp) fun h' he' => hQ h' s.toks fun b o hb x => he' b o (fun q => hb (by simp [q])) x
  self := fun _ _ _ _ st hQ => wpAny_pyIter_listiter st.1 hQ
theorem iterM_listH {target : Expr} {body : List Stmt} {Q : Flow → Shared → Prop} {e l : Addr} {vs : Array Value} {m₀ : Str → Option Value} {news : List (Addr × Obj)} (J : Nat → (Str → Option Value) → List (Addr × Obj) → Prop)
    (hh : A.handled = some (.ref e)) (hc : CtxN e s.heap) (heL : e ≠ env.locals) (hl : s.heap.IsList l vs) (hlL : l ≠ env.locals) (F : Fr h₀ env.locals s.heap m₀) (N : News h₀ env.locals s.heap news) (hj : J 0 m₀ news)
    (turn : ∀ i v m₁ news₁ h tk own, vs[i]? = some v → J i m₁ news₁ → (∀ p ∈ news₁, p.1 ≠ s.heap.objs.size) → (∀ p ∈ own, p.1 = s.heap.objs.size ∨ p.1 = l ∨ p.1 = e) → Fr h₀ env.locals h m₁ → News h₀ env.locals h (own ++ news₁) →
      wpAny (model prog w) A (assign target env v) (fun _ s₃ => wpAny (model prog w) A (execs body env) (TurnM h₀ env.locals [s.heap.objs.size] own (J (i + 1)) s Q) E s₃) E { s with heap := h, toks := tk })
    (done : ∀ h' tk m' news', Fr h₀ env.locals h' m' → News h₀ env.locals h' news' → (∀ p ∈ news', p.1 ≠ s.heap.objs.size) → J vs.size m' news' → Q .next { s with heap := h', toks := tk }) :
    wpAny (model prog w) A (pyIter (.ref l)) (fun it s₂ => LoopM prog w A h₀ env target body Q E it s₂) E s := by
  obtain ⟨ol, hol, hol'⟩ := id hl
  obtain ⟨oe, ws, hoe, _⟩ := id hc
  have hlt : l < s.heap.objs.size := Heap.lt_size hol
  have hne : l ≠ s.heap.objs.size := Nat.ne_of_lt hlt
  have hee : e ≠ s.heap.objs.size := Nat.ne_of_lt (Heap.lt_size hoe)
  refine wpAny_pyIter_list hl ?_
  have W := walks_listH (prog := prog) (w := w) hh s.heap.objs.size l hne hee vs
  refine ⟨_, _, _, vs.size, _, _, m₀, news, J, rfl, W, ?_, ?_, ?_, ⟨⟨_, Heap.get?_push_size _ rfl, rfl, rfl⟩, hl.at fun o e => Heap.get?_push_of_some _ e, hc.at fun o e => Heap.get?_push_of_some _ e⟩, F.push _, (fun p hp => ⟨Heap.get?_push_of_some _ (N p hp).1, (N p hp).2⟩), ?_, hj, ?_, ?_⟩
  · intro hm
    rcases List.mem_cons.mp hm with q | hm
    · exact absurd F.ns.lt (q ▸ Nat.lt_irrefl _)
    · rcases List.mem_cons.mp hm with q | hm
      · exact hlL q.symm
      · exact heL (List.mem_singleton.mp hm).symm
  · intro b hb
    rw [List.mem_singleton.mp hb]
    cases hq : h₀.get? s.heap.objs.size with
    | none => rfl
    | some o => exact absurd (Heap.lt_size hq) (Nat.not_lt_of_le (Nat.le_of_lt (Nat.lt_of_le_of_lt F.above F.ns.lt)))
  · intro p hp hI
    exact absurd (Heap.lt_size (N p hp).1) ((List.mem_singleton.mp hI) ▸ Nat.lt_irrefl _)
  · intro i s' v Q' hst hq
    exact goM_listiter hst.1 hq
  · intro i v m₁ news₁ h tk own hi hP _ _ hJ hoff hsub F₁ N₁
    exact turn i v m₁ news₁ h tk own hP hJ (fun p hp q => hoff p hp (by rw [q]; exact List.mem_singleton_self _)) (fun p hp => by simpa using hsub p hp) F₁ N₁
  · intro h' tk m' news' F₁ N₁ hoff hJ
    exact done h' tk m' news' F₁ N₁ (fun p hp q => hoff p hp (by rw [q]; exact List.mem_singleton_self _)) hJ
end
end Mine
end

section
open PySem PySem.W PyProof.Rows PySem.Calls
set_option maxRecDepth 100000
set_option Elab.async false
set_option linter.unusedVariables false
namespace Mine
section
variable {prog : Program} {w : World} {A : Around} {E : Value → Shared → Prop} {s : Shared} {env : Env}
theorem tuple_endH {e it t : Addr} {i : Nat} {items} {Q : Option Value → Shared → Prop} (hh : A.handled = some (.ref e)) (hc : CtxN e s.heap) (hei : e ≠ it)
    (hit : IsTupIter s.heap it t i) (ht : IsTup s.heap t items) (hx : items[i]? = none)
    (hQ : ∀ h', Heap.ExtBut it s.heap h' → Q none { s with heap := h' }) : wpAny (model prog w) A (pyNext (.ref it)) Q E s := by
  obtain ⟨o, ho, hco, hd⟩ := id hit
  obtain ⟨ol, hol, _, nl, hdl⟩ := ht
  obtain ⟨oe, ws, he, hde, h2⟩ := hc
  unfold pyNext
  refine wpAny_bind (wpAny_attempt (wpAny_callSpecial?_slot (name := Str.ofString "__next__") hit.typeIs F.slot_tuple_iterator_next
    (wpAny_call_entry F.slot_tuple_iterator_next hit.typeIs F.entry_tuple_iterator_next ?_ (F.args_tuple_iterator_next_1 _))))
  show wpAny _ _ (field (.ref it) 0 >>= _) _ _ s
  refine wpAny_bind (wpAny_field ho hd (x := .ref t) rfl ?_)
  show wpAny _ _ (if (Value.ref t == Value.none) = true then _ else _) _ _ s
  rw [if_neg (show ¬ ((Value.ref t == Value.none) = true) from Bool.false_ne_true)]
  show wpAny _ _ (field (.ref it) 1 >>= _) _ _ s
  refine wpAny_bind (wpAny_field ho hd (x := .int i 0) rfl ?_)
  show wpAny _ _ (seqItems? (.ref t) >>= _) _ _ s
  refine wpAny_bind (wpAny_seqItems hol hdl ?_)
  simp only [Int.toNat_natCast, hx]
  refine wpAny_bind (wpAny_rule (wpAny_bind (wpAny_setField ho hd (by simp) ?_)))
  show wpAny _ _ (newExc (.type "StopIteration") [] >>= _) _ _ _
  refine wpAny_bind ?_
  simp only [newExc, newTuple]
  refine wpAny_bind (wpAny_newObj_type ?_ (by size_fits))
  refine wpAny_bind (m := firstArgMember _ _) (wpAny_of_eq (a := Value.none) (by first | rfl | (simp only [firstArgMember]; rfl)) ?_)
  refine wpAny_newObj_type ?_ (by size_fits)
  have hup : Heap.ExtBut it s.heap (s.heap.update it (Obj.mapFields (·.setIfInBounds 0 Value.none))) := (Heap.SameBut.update ..).extBut
  have he2 := hup e oe hei he
  generalize hH : s.heap.update it (Obj.mapFields (·.setIfInBounds 0 Value.none)) = H1 at hup he2 ⊢
  have hlt : e < H1.objs.size := Heap.lt_size he2
  refine raiseNew_H (e := e) (A := A.in1) hh ?ne ⟨oe, ws, Heap.get?_push_of_some _ (Heap.get?_push_of_some _ he2), hde, h2⟩ (Heap.get?_push_size _ rfl) rfl (by simp; omega) ?k
  case ne =>
    intro q
    dsimp only at q
    rw [Heap.size_push] at q
    exact Nat.lt_irrefl _ (Nat.lt_trans hlt (by rw [← q]; exact Nat.lt_succ_self _))
  case k =>
    dsimp only
    refine wpAny_bind (wpAny_isInstance (T := "StopIteration") (b := true) ⟨_, Heap.get?_update_self _ (Heap.get?_push_size _ rfl) rfl, rfl⟩ isSubtype_stop ?_)
    refine wpAny_pure (hQ _ ?_)
    refine fun b o hb e => ?_
    have h1 := hup b o hb e
    rw [Heap.get?_update_other]
    · exact Heap.get?_push_of_some _ (Heap.get?_push_of_some _ h1)
    · intro q
      have := Heap.lt_size h1
      rw [← q, Heap.size_push] at this
      exact Nat.lt_irrefl _ (Nat.lt_trans this (Nat.lt_succ_self _))
theorem depth_mark (A : Around) (h : Option Value) : (A.mark h).depth = A.depth := rfl
end
end Mine
end

section
open PySem PySem.W PyProof.Rows PySem.Calls
set_option maxRecDepth 100000
set_option Elab.async false
set_option linter.unusedVariables false
namespace Mine
/-- no exception is handled, or one of the ledger, without a context -/
noncomputable def HOk (hh : Option Value) (news : List (Addr × Obj)) : Prop := hh = none ∨ ∃ e oe ws, hh = some (.ref e) ∧ (e, oe) ∈ news ∧ oe.data = .fields ws ∧ ws[2]? = some .none
theorem HOk.up {hh : Option Value} {news own : List (Addr × Obj)} (h : HOk hh news) : HOk hh (own ++ news) :=
  h.imp id fun ⟨e, oe, ws, a, b, c⟩ => ⟨e, oe, ws, a, List.mem_append_right _ b, c⟩
section
variable {prog : Program} {w : World} {A : Around} {E : Value → Shared → Prop} {s : Shared} {env : Env}
theorem tuple_endG {h₀ : Heap} {L it t : Addr} {i : Nat} {items} {news : List (Addr × Obj)} {Q : Option Value → Shared → Prop} (ho : HOk A.handled news) (N : ∀ p ∈ news, s.heap.get? p.1 = some p.2 ∧ p.1 ≠ it)
    (hit : IsTupIter s.heap it t i) (ht : IsTup s.heap t items) (hx : items[i]? = none)
    (hQ : ∀ h', Heap.ExtBut it s.heap h' → Q none { s with heap := h' }) : wpAny (model prog w) A (pyNext (.ref it)) Q E s := by
  rcases ho with hh | ⟨e, oe, ws, hh, hm, hd, h2⟩
  · exact next_tuple_end hh hit ht hx hQ
  · exact tuple_endH hh ⟨oe, ws, (N _ hm).1, hd, h2⟩ (N _ hm).2 hit ht hx hQ
theorem unpackN_G {h₀ : Heap} {L : Addr} {m : Str → Option Value} {news : List (Addr × Obj)} {elts : List Expr} {k} {pos : Pos} {t : Addr} {items : Array Value} {Q : Unit → Shared → Prop} (F : Fr h₀ L s.heap m) (N : News h₀ L s.heap news)
    (ho : HOk A.handled news) (ht : IsTup s.heap t items) (hn : (assignEach elts env).length = items.size) (hstar : (assignEach elts env).findIdx? (·.1) = none)
    (h : ∀ h', Fr h₀ L h' m → News h₀ L h' news → wpAny (model prog w) A (assignInOrder ((assignEach elts env).map (·.2)) items.toList) Q E { s with heap := h' }) :
    wpAny (model prog w) A (assign (.Tuple elts k pos) env (.ref t)) Q E s := by
  rw [assign_Tuple]
  refine wpAny_bind (wpAny_standAt ?_)
  unfold unpack
  rw [hn, hstar]
  have hlt : t ≠ s.heap.objs.size := Nat.ne_of_lt ht.lt
  refine wpAny_bind (wpAny_holding ?_)
  unfold unpackItems notIterableAtAll
  refine wpAny_bind (wpAny_bind (wpAny_specialOf ht.typeIs slot_tuple_iter.lookup (wpAny_pure ?_)))
  simp only [Bool.false_eq_true, if_false]
  refine wpAny_bind (wpAny_holding (iter_tuple ht ?_))
  refine wpAny_bind (wpAny_holding (draw_tuple hlt items.size 0 _ _ ⟨_, Heap.get?_push_size _ rfl, rfl, rfl⟩ (ht.push _) (by omega) fun h₁ hit₁ hs₁ => ?_))
  have hall : List.take items.size (List.drop 0 items.toList) = items.toList := by
    rw [List.drop_zero]; exact List.take_of_length_le (by simp)
  rw [hall, if_neg (by simp)]
  have N₁ : ∀ p ∈ news, h₁.get? p.1 = some p.2 ∧ p.1 ≠ s.heap.objs.size := fun p hp =>
    have hlt : p.1 ≠ s.heap.objs.size := Nat.ne_of_lt (Heap.lt_size (N p hp).1)
    ⟨hs₁.extBut p.1 p.2 hlt (Heap.get?_push_of_some _ (N p hp).1), hlt⟩
  refine wpAny_bind (wpAny_holding (tuple_endG (h₀ := h₀) (L := L) ho N₁ hit₁ ((ht.push _).extBut hs₁.extBut hlt) (by simp) fun h₂ he₂ => ?_))
  simp only [Option.isSome_none, Bool.false_eq_true, if_false]
  have he : Heap.ExtBut s.heap.objs.size s.heap h₂ := fun b o hb e => he₂ b o hb (hs₁.extBut b o hb (Heap.get?_push_of_some _ e))
  exact wpAny_pure (h h₂ (F.extBut he (Nat.le_refl _)) (N.extBut he (Nat.le_refl _)))
theorem iterM_listG {h₀ : Heap} {target : Expr} {body : List Stmt} {Q : Flow → Shared → Prop} {l : Addr} {vs : Array Value} {m₀ : Str → Option Value} {news : List (Addr × Obj)} (J : Nat → (Str → Option Value) → List (Addr × Obj) → Prop)
    (ho : HOk A.handled news) (hl : s.heap.IsList l vs) (hlL : l ≠ env.locals) (F : Fr h₀ env.locals s.heap m₀) (N : News h₀ env.locals s.heap news) (hj : J 0 m₀ news)
    (turn : ∀ i v m₁ news₁ h tk own, vs[i]? = some v → J i m₁ news₁ → (∀ p ∈ news₁, p.1 ≠ s.heap.objs.size) → Fr h₀ env.locals h m₁ → News h₀ env.locals h (own ++ news₁) →
      wpAny (model prog w) A (assign target env v) (fun _ s₃ => wpAny (model prog w) A (execs body env) (TurnM h₀ env.locals [s.heap.objs.size] own (J (i + 1)) s Q) E s₃) E { s with heap := h, toks := tk })
    (done : ∀ h' tk m' news', Fr h₀ env.locals h' m' → News h₀ env.locals h' news' → (∀ p ∈ news', p.1 ≠ s.heap.objs.size) → J vs.size m' news' → Q .next { s with heap := h', toks := tk }) :
    wpAny (model prog w) A (pyIter (.ref l)) (fun it s₂ => LoopM prog w A h₀ env target body Q E it s₂) E s := by
  rcases ho with hh | ⟨e, oe, ws, hh, hm, hd, h2⟩
  · exact iterM_list J hh hl hlL F N hj (fun i v m₁ news₁ h tk own a b c _ f n => turn i v m₁ news₁ h tk own a b c f n) done
  · exact iterM_listH J hh ⟨oe, ws, (N _ hm).1, hd, h2⟩ (N _ hm).2.1 hl hlL F N hj (fun i v m₁ news₁ h tk own a b c _ f n => turn i v m₁ news₁ h tk own a b c f n) done
end
end Mine
end

section
open PySem PySem.W PyProof.Rows PySem.Calls
set_option maxRecDepth 100000
set_option Elab.async false
set_option linter.unusedVariables false
namespace Mine
section
variable {M : Model} {A : Around} {s : Shared} {env : Env} {outer : List Env} {base : Heap} {L e : Addr} {cls a0 : Value}
/-- as CtxN, and with an entry of the trace -/
noncomputable def CtxT (e : Addr) (h : Heap) : Prop := ∃ oe vs T oT ts, h.get? e = some oe ∧ oe.data = .fields vs ∧ vs[2]? = some .none ∧ vs[1]? = some (.ref T) ∧ T ≠ e ∧ h.get? T = some oT ∧ oT.data = .fields ts ∧ 3 < ts.size
theorem ctx_entry {oe : Obj} {vs : Array Value} {head : Value} {hadNext : Bool} (hfr : A.frames = some (env :: outer)) (hl : s.heap.FunFrames base (env :: outer)) (hf : env.frame = some L)
    (he : s.heap.get? e = some oe) (hd : oe.data = .fields vs) (hsz : 1 < vs.size) (h2 : vs[2]? = some .none) :
    wpAny M A (do let a ← frameOf env; let pl ← entryPlaceOf L hadNext; let b ← EntryCells.newEntry head a .none (rawInt L) .none pl; setField (.ref e) 1 b) (fun _ s' => CtxT e s'.heap) (fun _ _ => False) s := by
  have hene : e ∉ (env :: outer).filterMap (·.frame) := fun hm => by
    obtain ⟨_, o, ho, hnf⟩ := hl.mem hm
    rw [he] at ho; injection ho with ho; subst ho; exact hnf vs hd
  refine wpAny_bind (wpAny_frameOf_fun hfr hl hf fun h₁ hs₁ => ?_)
  refine wpAny_bind (wpAny_entryPlaceOf fun pl hpl => ?_)
  unfold EntryCells.newEntry newFields
  refine wpAny_bind (wpAny_newObj_type ?_ (hpl.sizeOk5 _ _ _ _ _))
  have he₁ : h₁.get? e = some oe := (hs₁.2.1 e hene).trans he
  have hTe : h₁.objs.size ≠ e := Nat.ne_of_gt (Heap.lt_size he₁)
  refine wpAny_setField (Heap.get?_push_of_some _ he₁) hd hsz ?_
  have hd₃ := Obj.data_mapFields hd (·.setIfInBounds 1 (Value.ref h₁.objs.size))
  refine ⟨_, _, h₁.objs.size, _, _, Heap.get?_update_self _ (Heap.get?_push_of_some _ he₁) (Obj.isFreed_of_fields hd₃), hd₃, ?_, ?_, hTe, (Heap.get?_update_other _ _ (Ne.symm hTe)).trans (Heap.get?_push_size h₁ rfl), rfl, ?_⟩
  · rw [Array.getElem?_setIfInBounds_ne (by decide)]; exact h2
  · simp [hsz]
  · simp
theorem ctx_note (hfr : A.frames = some (env :: outer)) (hf : env.frame = some L) (hfl : Heap.FlyingW base (env :: outer) e cls a0 s.heap) (hc : CtxN e s.heap) :
    wpAny M A (noteFrame (.ref e) env) (fun _ s' => CtxT e s'.heap) (fun _ _ => False) s := by
  obtain ⟨_, _, hl, oe, vs, T, oT, ts, he, _, hd, h1, hnT, hTe, hT, hdT, h3⟩ := hfl
  obtain ⟨oe', vs', he', hd', h2⟩ := hc
  rw [he] at he'
  cases he'
  rw [hd] at hd'
  cases hd'
  unfold noteFrame
  simp only [hf]
  refine wpAny_bind (wpAny_field he hd h1 ?_)
  rw [if_pos (show (Value.ref T != Value.none) = true from by simp)]
  refine wpAny_bind (wpAny_field hT hdT h3 ?_)
  rw [if_neg (show ¬ ((Value.none == rawInt L) = true) from by simp [rawInt])]
  refine wpAny_bind (wpAny_setField hT hdT (Array.getElem?_eq_some_iff.mp h3).1 ?_)
  have other : ∀ b, b ≠ T → (s.heap.update T (Obj.mapFields (·.setIfInBounds 3 Value.none))).get? b = s.heap.get? b := fun b hb => Heap.get?_update_other _ _ (Ne.symm hb)
  exact ctx_entry hfr (hl.of_keeps fun b o hb hnf => ⟨o, (other b (fun q => by rw [q, hT] at hb; injection hb with hb; subst hb; exact hnf ts hdT)).trans hb, rfl⟩) hf ((other e (Ne.symm hTe)).trans he) hd (Array.getElem?_eq_some_iff.mp h1).1 h2
theorem ctx_note_first {oe : Obj} {vs : Array Value} (hfr : A.frames = some (env :: outer)) (hl : s.heap.FunFrames base (env :: outer)) (hf : env.frame = some L) (he : s.heap.get? e = some oe) (hd : oe.data = .fields vs) (h1 : vs[1]? = some .none) (h2 : vs[2]? = some .none) :
    wpAny M A (noteFrame (.ref e) env) (fun _ s' => CtxT e s'.heap) (fun _ _ => False) s := by
  unfold noteFrame
  simp only [hf]
  refine wpAny_bind (wpAny_field he hd h1 ?_)
  rw [if_neg (by decide)]
  exact ctx_entry hfr hl hf he hd (Array.getElem?_eq_some_iff.mp h1).1 h2
theorem ctx_flight (hc : CtxT e s.heap) : wpAny M A (setFlight (.ref e) none) (fun _ s' => CtxN e s'.heap) (fun _ _ => False) s := by
  obtain ⟨oe, vs, T, oT, ts, he, hd, h2, h1, hTe, hT, hdT, h3⟩ := hc
  unfold setFlight
  refine wpAny_bind (wpAny_field he hd h1 ?_)
  rw [if_pos (show (Value.ref T != Value.none) = true from by simp)]
  exact wpAny_setField hT hdT h3 ⟨oe, vs, (Heap.get?_update_other _ _ hTe).trans he, hd, h2⟩
theorem ctx_of_held {fl : Value} {h : Heap} (ht : h.TracedAtW base e cls a0 fl) (hc : CtxN e h) : CtxT e h := by
  obtain ⟨oe, vs, T, oT, ts, he, _, hd, h1, hnT, hTe, hT, hdT, h3⟩ := ht
  obtain ⟨oe', vs', he', hd', h2⟩ := hc
  rw [he] at he'
  cases he'
  rw [hd] at hd'
  cases hd'
  exact ⟨oe, vs, T, oT, ts, he, hd, h2, h1, hTe, hT, hdT, (Array.getElem?_eq_some_iff.mp h3).1⟩
theorem ctx_leave_first {oe : Obj} {vs : Array Value} (hfr : A.frames = some (env :: outer)) (hl : s.heap.FunFrames base (env :: outer)) (hf : env.frame = some L) (he : s.heap.get? e = some oe) (hd : oe.data = .fields vs) (h1 : vs[1]? = some .none) (h2 : vs[2]? = some .none) :
    wpAny M A (leaving env (.ref e)) (fun _ s' => CtxN e s'.heap) (fun _ _ => False) s := by
  unfold leaving
  exact wpAny_bind (wpAny_mono (ctx_note_first hfr hl hf he hd h1 h2) (fun _ s₁ h₁ => ctx_flight h₁) fun _ _ h => h)
theorem ctx_leave (hfr : A.frames = some (env :: outer)) (hf : env.frame = some L) (hfl : Heap.FlyingW base (env :: outer) e cls a0 s.heap) (hc : CtxN e s.heap) :
    wpAny M A (leaving env (.ref e)) (fun _ s' => CtxN e s'.heap) (fun _ _ => False) s := by
  unfold leaving
  exact wpAny_bind (wpAny_mono (ctx_note hfr hf hfl hc) (fun _ s₁ h₁ => ctx_flight h₁) fun _ _ h => h)
end
/-- an exception on its way, as RaisedS, and without a context -/
noncomputable def RaisedC (base G : Heap) (l : List Env) (e : Addr) (cls : Value) (t : Addr) (vs : List Value) (news : List (Addr × Obj)) (h : Heap) : Prop := RaisedS base G l e cls t vs news h ∧ CtxN e h
section
variable {M : Model} {A : Around} {E : Value → Shared → Prop} {s' : Shared} {base g g₂ h : Heap} {outer : List Env} {L a e t : Addr} {m : Str → Option Value} {name : Str} {scope : Scope} {cd : Value} {Q : Unit → Shared → Prop} {news : List (Addr × Obj)}
theorem leave_raiseC {cls : Value} {vs : List Value} (K : Below A base outer g) (hx : Heap.MadeExcOf h s'.heap e cls vs) (F : Fr g L h m) (N : News g L h news)
    (hQ : ∀ h' t, RaisedC base g outer e cls t vs news h' → g.UpToSlots h' → Q () { s' with heap := h' }) (hk : scope.kind = .function := by rfl) :
    wpAny M (A.deeper (envOf name scope L a cd)) (leaving (envOf name scope L a cd) (.ref e)) Q E s' := by
  have K' := K.push (name := name) (a := a) (cd := cd) F hk
  obtain ⟨t0, he, _⟩ := hx.there
  have hl : s'.heap.FunFrames base (envOf name scope L a cd :: outer) := K'.frames.of_keeps fun b o hb _ => ⟨o, hx.keeps b o hb, rfl⟩
  refine wpAny_mono (wpAny_both (nc_leaving _ _) (leave_raiseS (E := fun _ _ => False) (Q := fun _ s'' => ∃ h' t, s'' = { s' with heap := h' } ∧ RaisedS base g outer e cls t vs news h' ∧ g.UpToSlots h') K hx F N (fun h' t R _ U => ⟨h', t, rfl, R, U⟩) hk) (ctx_leave_first (Around.frames_deeper K.stack) hl rfl he rfl rfl rfl)) ?_ fun _ _ h => h.1.elim
  rintro _ s'' ⟨⟨h', t, rfl, R, U⟩, c⟩
  exact hQ h' t ⟨R, c⟩ U
theorem leave_onC {cls : Value} {vs : List Value} (K : Below A base outer g) (F : Fr g L g₂ m) (R : RaisedC base g₂ (envOf name scope L a cd :: outer) e cls t vs news s'.heap) (hsm : g₂.UpToSlots s'.heap)
    (hQ : ∀ h', RaisedC base g outer e cls t vs news h' → g.UpToSlots h' → Q () { s' with heap := h' }) :
    wpAny M (A.deeper (envOf name scope L a cd)) (leaving (envOf name scope L a cd) (.ref e)) Q E s' := by
  obtain ⟨RS, c⟩ := R
  obtain ⟨⟨B, hB, hBG, hl, hfl, hnew⟩, htup⟩ := id RS
  refine wpAny_mono (wpAny_both (nc_leaving _ _) (leave_onS (E := fun _ _ => False) (Q := fun _ s'' => ∃ h', s'' = { s' with heap := h' } ∧ RaisedS base g outer e cls t vs news h' ∧ g.UpToSlots h') K F RS hsm (fun h' R _ U => ⟨h', rfl, R, U⟩)) (ctx_leave (Around.frames_deeper K.stack) rfl hfl c)) ?_ fun _ _ h => h.1.elim
  rintro _ s'' ⟨⟨h', rfl, R, U⟩, c⟩
  exact hQ h' ⟨R, c⟩ U
end
section
variable {prog : Program} {w : World} {A₀ : Around} {E : Value → Shared → Prop} {s' : Shared} {base g g₀ G : Heap} {outer : List Env} {L a e t : Addr} {m : Str → Option Value} {name : Str} {scope : Scope} {cd : Value}
  {vs : List Value} {b₀ : Stmt} {suite : List Stmt} {pos np : Pos} {rest : List ExceptHandler} {Q : Flow → Shared → Prop} {news : List (Addr × Obj)} {KF : Frag}
  {p : Program} {loose : List Str} {mean : ExcName → Option Value} {mg mb : Str → Option Value} {x : Str} {X T' : String}
theorem caught_C0 (R : RaisedC base G (envOf name scope L a cd :: outer) e (.type X) t vs news s'.heap) (F : Fr g L G m) (K : Below A₀ base outer g) (hsm : G.UpToSlots s'.heap) (XB : KF.In base) (TB : Top p loose mean mg mb base)
    (D : KtsDicts (outer.filterMap (·.frame)) g) (T0 : KtsTurn (outer.filterMap (·.frame)) g₀ g)
    (ex : nsIn KF mainGlobals x = some none) (hv : bootBuiltins x = some (.type T')) (hn' : x ≠ "__name__")
    (hexc : isSubtype (.type T') (.type "BaseException") = pure true) (hnt : isSubtype (.type ((Manifest.find? T').elim "type" fun y => y.metatype)) (.type "tuple") = pure false) (hsub : isSubtype (.type X) (.type T') = pure true)
    (k : ∀ h' g' oe ws, KtsTurn (outer.filterMap (·.frame)) g₀ g' → Fr g' L h' m → oe.data = .fields ws → ws[2]? = some .none → News g' L h' ((e, oe) :: news) → (∀ q ∈ news, q.1 ≠ e) → Below A₀ base outer g' → KF.In g' → Top p loose mean mg mb g' → KtsDicts (outer.filterMap (·.frame)) g' →
      wpAny (model prog w) ((A₀.deeper (envOf name scope L a cd)).mark (some (.ref e))) (execs (b₀ :: suite) (envOf name scope L a cd)) Q E { s' with heap := h' })
    (hk : scope.kind = .function := by rfl) (hx : (envOf name scope L a cd).kindOf x = some .globalImplicit := by rfl) (hd : (x == ("__debug__" : Str)) = false := by decide)
    (hE : PassesOwnAt (model prog w) ((A₀.deeper (envOf name scope L a cd)).mark (some (.ref e))) (A₀.deeper (envOf name scope L a cd)) (envOf name scope L a cd) E := by passes_own) :
    wpAny (model prog w) (A₀.deeper (envOf name scope L a cd)) (noteFrame (.ref e) (envOf name scope L a cd))
      (fun _ s₂ => wpAny (model prog w) (A₀.deeper (envOf name scope L a cd)) (setFlight (.ref e) none) (fun _ s₃ =>
        wpAny (model prog w) (A₀.deeper (envOf name scope L a cd)) (handleBy (.ref e) (envOf name scope L a cd) (.ExceptHandler (some (.Name x np)) none (b₀ :: suite) pos :: rest)) Q E s₃) E s₂) E s' := by
  obtain ⟨⟨⟨B, hB, hBG, hl, hfl, hnew⟩, htup⟩, hc⟩ := R
  have hL : B.get? L = none := by
    obtain ⟨_, ⟨L', _, hf, hn', _⟩, _⟩ := hfl.2.2.1
    obtain rfl : L = L' := Option.some.inj hf
    exact hn'
  have hfr := Around.frames_deeper (env := envOf name scope L a cd) K.stack
  refine wpAny_mono (wpAny_both (nc_note _ _) (wpAny_looks_onW (E := fun _ _ => False) (Q := fun _ s'' => ∃ h', s'' = { s' with heap := h' } ∧ Heap.HeldW B (envOf name scope L a cd :: outer) e (.type X) (.ref t) L h' ∧ s'.heap.UpToSlots h') hfr rfl hfl fun h' a b => ⟨h', rfl, a, b⟩) (ctx_note hfr rfl hfl hc)) ?_ fun _ _ h => h.1.elim
  rintro _ s₁ ⟨⟨h₄, rfl, hheld₄, hsm₄⟩, c₄⟩
  refine wpAny_mono (wpAny_both (nc_flight _ _) (wpAny_landsW (E := fun _ _ => False) (Q := fun _ s'' => ∃ h', s'' = { s' with heap := h' } ∧ Heap.FlyingW B (envOf name scope L a cd :: outer) e (.type X) (.ref t) h' ∧ h₄.UpToSlots h') hheld₄ fun h' a b => ⟨h', rfl, a, b⟩) (ctx_flight c₄)) ?_ fun _ _ h => h.1.elim
  rintro _ s₂ ⟨⟨h₅, rfl, hheld, hsm₅'⟩, c₅⟩
  have hsm₅ := hsm₄.trans hsm₅'
  obtain ⟨g₅, T₅, F₅, K₅⟩ := kts_ground K F hBG hheld.1 (hsm.trans hsm₅)
  obtain ⟨ob, hob, hobc⟩ := hheld.there
  refine wpAny_handleBy_builtin (X := X) (T := T') (b := true) hexc hnt hsub (name_B F₅ (XB.keeps K₅.stays) (topRead_of (TB.keeps K₅.stays)) ex hv hn' ⟨rfl, ⟨ob, hob, hobc⟩, ?_⟩ hk hx hd)
  rw [if_pos rfl]
  refine wpAny_mono (wpAny_both (nc_flight _ _) (lands_againW (E := fun _ _ => False) (Q := fun _ s'' => ∃ h', s'' = { s' with heap := h' } ∧ Heap.FlyingW B (envOf name scope L a cd :: outer) e (.type X) (.ref t) h' ∧ h₅.UpToSlots h') hheld fun h' a b => ⟨h', rfl, a, b⟩) (ctx_flight (ctx_of_held hheld.2.2.2.at c₅))) ?_ fun _ _ h => h.1.elim
  rintro _ s₃ ⟨⟨h₆, rfl, hfl₆, hsm₆⟩, c₆⟩
  have up := (hsm.trans hsm₅).trans hsm₆
  obtain ⟨g₆, T₆, F₆, K₆⟩ := kts_ground K F hBG hfl₆.1 up
  obtain ⟨oe, ws, hoe, hoed, h2⟩ := c₆
  have ne₆ : g₆.get? e = none := T₆.none_ _ (kts_fresh F hBG hfl₆.2.1 fun o ho mm => by
    obtain ⟨_, o', ho', hdd⟩ := K.frames.mem mm
    rw [ho] at ho'
    cases ho'
    obtain ⟨sl, hs⟩ := up _ _ (F.keep _ _ ho) hdd
    rw [hoe] at hs
    cases hs
    exact hdd _ hoed)
  have hfree : oe.isFreed = false := Obj.isFreed_of_fields hoed
  refine wpAny_passesOwnAt hE (k h₆ g₆ oe ws (T0.trans T₆) F₆ hoed h2 ?_ (fun q hq e1 => ?_) K₆ (XB.keeps K₆.stays) (TB.keeps K₆.stays) (D.turn T₆))
  · intro q hq
    rcases List.mem_cons.mp hq with rfl | hq
    · refine ⟨hoe, ?_, ne₆⟩
      intro z
      dsimp only at z
      obtain ⟨oL, es, n, hoL, hdL, _⟩ := F₆.ns
      rw [← z, hoe] at hoL
      cases hoL
      rw [hoed] at hdL
      cases hdL
    · have h1 := hl q hq
      refine ⟨hfl₆.1 _ _ h1.1, (fun z => by have := h1.1; rw [z, hL] at this; cases this), ?_⟩
      exact T₆.none_ _ (kts_none F.keep h1.2.1)
  · have h1 := (hl q hq).1
    rw [e1, hfl₆.2.1] at h1
    cases h1
end
end Mine
end

section
open PySem PySem.W PyProof.Rows PySem.Calls
set_option maxRecDepth 100000
set_option Elab.async false
set_option linter.unusedVariables false
set_option maxHeartbeats 4000000
namespace Mine
local macro_rules | `(tactic| walk_at "leaving ref") => `(tactic| (k_here; first
  | (refine' leave_raiseC ?k1 ?k0 ?k2 ?k3 ?_; (case k0 => first | assumption | exact Heap.MadeExc.of (by assumption)); (case k2 => assumption); (case k1 => assumption); (case k3 => k_asm); k_whole; intro h' t' R' U'; (try dsimp only at R' U' ⊢))
  | (refine' leave_onC ?k1 ?k2 ?k3 ?k4 ?_; (case k3 => assumption); (case k2 => assumption); (case k1 => assumption); (case k4 => assumption); k_whole; intro h' R' U'; (try dsimp only at R' U' ⊢))))
local macro_rules | `(tactic| ktr_room) => `(tactic| ((try simp only [depth_mark, depth_under_make, depth_under_kw, depth_in1, depth_deeper, depth_caller] at *); (try dsimp only [ktrTop] at *); omega))
theorem patN {w : World} {h : Heap} (X : (heapK w.params).In h) : PatAt h 107 codeN := 
  ⟨_, _, _, _, X 107 (k107 w.params) (by kernel_rfl), X 106 ⟨.type "tuple", none, .seq (codeN.map fun (n : Nat) => Value.int (n : Int) 0) 0, #[]⟩ (by kernel_rfl)⟩
theorem patV {w : World} {h : Heap} (X : (heapK w.params).In h) : PatAt h 112 codeV := 
  ⟨_, _, _, _, X 112 (k112 w.params) (by kernel_rfl), X 111 ⟨.type "tuple", none, .seq (codeV.map fun (n : Nat) => Value.int (n : Int) 0) 0, #[]⟩ (by kernel_rfl)⟩
theorem conv_N {w : World} {hh : Option Value} {mean : ExcName → Option Value} {mg mb : Str → Option Value}
    {dp un : Nat} {gd : Option (List Code)} {cn : Str} {cs : Scope} {a : Addr} {ccd : Value} {cl : List (Str × Addr)} {outer : List Env} {A₀ : Around} {base h₀ : Heap} {L : Addr} {m : Str → Option Value} {news : List (Addr × Obj)} {s : Shared} {Q E : Value → Shared → Prop}
    {x : Str} {t : Tok} {self : Addr}
    (B : Below A₀ base outer h₀) (F : Fr h₀ L s.heap m) (X : (heapK w.params).In h₀) (N : News h₀ L s.heap news) (T : Top vwT (looseW vwT looseT) mean mg mb h₀) (hk : cs.kind = .function)
    (hd : dp + 3 < recursionLimit) (hu : un + 12 < cLine) (hx : x.cps.size ≤ sizeLine) (hok : hh = none ∨ anyBad badN x.cps = false)
    (hret : anyBad badN x.cps = false → ∀ h' tk', Fr h₀ L h' m → News h₀ L h' news → Q (.str x t) { s with heap := h', toks := tk' })
    (hexc : anyBad badN x.cps = true → ∀ e t vs g₂ h' tk', Fr h₀ L g₂ m → RaisedC base g₂ (envX cn cs L a ccd cl :: outer) e (.type "ValueError") t vs news h' → g₂.UpToSlots h' → E (.ref e) { s with heap := h', toks := tk' }) :
    wpAny (model Challenge.rw_un0048_02.row.prog w) ((ktrTop dp un gd cn cs L a ccd cl outer).mark hh) (call (.ref 134) [.ref self, .str x t] [(Str.ofString "name", .bool true)]) Q E s := by
  revert X; k_fill; intro X
  refine wpAny_call ?_
  k_dflt (refine' code_def ?k1 ?k2 ?k3 ?k4 ?k5 ?kA ?kF ?kK ?k6 ?k7 ?k8 ?k9 ?kB ?_ ?c2 ?c3 ?c4 ?c5; (case kA => exact rfl); (case kF => exact rfl); (case kK => assumption); (case k1 => k_asm); (case k2 => k_asm); (case k3 => k_asm); (case k4 => k_asm); (case k5 => k_asm); (case k6 => k_is); (case k7 => k_is); (case k8 => ktr_room); (case k9 => first | exact BindsTo.of_eq rfl | exact binds_K (by k_in) rfl (by k_is) rfl rfl rfl); (case c5 => decide); (case kB => exact locs rfl); (case c2 => exact rfl); (case c3 => exact rfl); (case c4 => exact rfl); k_whole; intro g' L' h' FG' F' N' B' X' T'; (try dsimp only); (try k_fold))
  conv => arg 3; arg 1; whnf
  k_steps
  with_reducible rename Fr _ _ _ _ => F₂
  with_reducible rename News _ _ _ _ => N₂
  rename Heap => h₂
  have X₂ := X'.keeps F₂.keep
  refine getMethod_search (patN X₂) ?_
  k_steps
  refine call_search finds_N hx (patN X₂) ?_ ?_
  · intro hb o₁ o₂ ho hf
    rcases hok with rfl | hok
    · have F₃ := (F₂.push o₁).push o₂
      have N₃ := News.past (News.past N₂ o₁) o₂
      have e2 : (h₂.push o₁).objs.size = h₂.objs.size + 1 := by simp [Heap.push]
      have g2 := Heap.get?_push_size (h₂.push o₁) hf
      rw [e2] at g2
      clear F₂ N₂
      refine truthy_match g2 ho ?_
      k_steps
      exact hexc hb _ _ _ _ _ _ (by assumption) (by assumption) (by assumption)
    · rw [hok] at hb; cases hb
  · intro hb
    k_steps
    exact hret hb _ _ (by assumption) (by assumption)
theorem conv_V {w : World} {hh : Option Value} {mean : ExcName → Option Value} {mg mb : Str → Option Value}
    {dp un : Nat} {gd : Option (List Code)} {cn : Str} {cs : Scope} {a : Addr} {ccd : Value} {cl : List (Str × Addr)} {outer : List Env} {A₀ : Around} {base h₀ : Heap} {L : Addr} {m : Str → Option Value} {news : List (Addr × Obj)} {s : Shared} {Q E : Value → Shared → Prop}
    {x : Str} {t : Tok} {self : Addr}
    (B : Below A₀ base outer h₀) (F : Fr h₀ L s.heap m) (X : (heapK w.params).In h₀) (N : News h₀ L s.heap news) (T : Top vwT (looseW vwT looseT) mean mg mb h₀) (hk : cs.kind = .function)
    (hd : dp + 3 < recursionLimit) (hu : un + 12 < cLine) (hx : x.cps.size ≤ sizeLine) (hok : hh = none ∨ anyBad badV x.cps = false)
    (hret : anyBad badV x.cps = false → ∀ h' tk', Fr h₀ L h' m → News h₀ L h' news → Q (.str x t) { s with heap := h', toks := tk' })
    (hexc : anyBad badV x.cps = true → ∀ e t vs g₂ h' tk', Fr h₀ L g₂ m → RaisedC base g₂ (envX cn cs L a ccd cl :: outer) e (.type "ValueError") t vs news h' → g₂.UpToSlots h' → E (.ref e) { s with heap := h', toks := tk' }) :
    wpAny (model Challenge.rw_un0048_02.row.prog w) ((ktrTop dp un gd cn cs L a ccd cl outer).mark hh) (call (.ref 134) [.ref self, .str x t] [(Str.ofString "name", .bool false)]) Q E s := by
  revert X; k_fill; intro X
  refine wpAny_call ?_
  k_dflt (refine' code_def ?k1 ?k2 ?k3 ?k4 ?k5 ?kA ?kF ?kK ?k6 ?k7 ?k8 ?k9 ?kB ?_ ?c2 ?c3 ?c4 ?c5; (case kA => exact rfl); (case kF => exact rfl); (case kK => assumption); (case k1 => k_asm); (case k2 => k_asm); (case k3 => k_asm); (case k4 => k_asm); (case k5 => k_asm); (case k6 => k_is); (case k7 => k_is); (case k8 => ktr_room); (case k9 => first | exact BindsTo.of_eq rfl | exact binds_K (by k_in) rfl (by k_is) rfl rfl rfl); (case c5 => decide); (case kB => exact locs rfl); (case c2 => exact rfl); (case c3 => exact rfl); (case c4 => exact rfl); k_whole; intro g' L' h' FG' F' N' B' X' T'; (try dsimp only); (try k_fold))
  conv => arg 3; arg 1; whnf
  k_steps
  with_reducible rename Fr _ _ _ _ => F₂
  with_reducible rename News _ _ _ _ => N₂
  rename Heap => h₂
  have X₂ := X'.keeps F₂.keep
  refine getMethod_search (patV X₂) ?_
  k_steps
  refine call_search finds_V hx (patV X₂) ?_ ?_
  · intro hb o₁ o₂ ho hf
    rcases hok with rfl | hok
    · have F₃ := (F₂.push o₁).push o₂
      have N₃ := News.past (News.past N₂ o₁) o₂
      have e2 : (h₂.push o₁).objs.size = h₂.objs.size + 1 := by simp [Heap.push]
      have g2 := Heap.get?_push_size (h₂.push o₁) hf
      rw [e2] at g2
      clear F₂ N₂
      refine truthy_match g2 ho ?_
      k_steps
      exact hexc hb _ _ _ _ _ _ (by assumption) (by assumption) (by assumption)
    · rw [hok] at hb; cases hb
  · intro hb
    k_steps
    exact hret hb _ _ (by assumption) (by assumption)
/-- what get tells of a table -/
noncomputable def Told (its : List (Addr × Str × Str)) (x : Str) (dflt r : Value) : Prop :=
  match its.find? (fun it => Txt.lower it.2.1 == Txt.lower x) with | some it => ∃ tv, r = .str it.2.2 tv | none => r = dflt
/-- the def get, as an object tells it -/
noncomputable abbrev getF : FuncData := fnOf (Str.ofString "get") (Str.ofString "Headers.get") (fnParams [10, 8]) (fnBody [10, 8]) (fnScope [10, 8]) (.ref 175) .none .none (.str (Str.ofString "cpy313.wsgiref.headers") 2317) none (.ref 181) .none
theorem deeper_mark {dp un : Nat} {gd : Option (List Code)} {cn : Str} {cs : Scope} {L a : Addr} {ccd : Value} {cl : List (Str × Addr)} {outer : List Env} (env : Env) (z : Option Value) : (((ktrTop dp un gd cn cs L a ccd cl outer).mark z).deeper env).handled = z := by cases z <;> rfl
theorem HOk.of_eq {a b : Option Value} {news : List (Addr × Obj)} (h : a = b) (o : HOk b news) : HOk a news := h ▸ o
theorem get_g {w : World} {hh : Option Value} {mean : ExcName → Option Value} {mg mb : Str → Option Value}
    {dp un : Nat} {gd : Option (List Code)} {cn : Str} {cs : Scope} {a : Addr} {ccd : Value} {cl : List (Str × Addr)} {outer : List Env} {A₀ : Around} {base h₀ : Heap} {L : Addr} {m : Str → Option Value} {news : List (Addr × Obj)} {s : Shared} {Q E : Value → Shared → Prop}
    {x : Str} {t : Tok} {tb l dx : Addr} {k n : Nat} {u : Tok} {its : List (Addr × Str × Str)} {dflt : Value} {args : List Value}
    (B : Below A₀ base outer h₀) (F : Fr h₀ L s.heap m) (X : (heapK w.params).In h₀) (N : News h₀ L s.heap news) (T : Top vwT (looseW vwT looseT) mean mg mb h₀) (hk : cs.kind = .function) (ho : HOk hh news) (hb : ∀ s' : Shared, (heapK w.params).In s'.heap → BindsTo s' getF ⟨args, []⟩ [(Str.ofString "self", .ref tb), (Str.ofString "name", .str x t), (Str.ofString "default", dflt)])
    (hd : dp + 10 < recursionLimit) (hu : un + 50 < cLine) (hx : x.length ≤ 1000) (hok : hh = none ∨ anyBad badN (Txt.lower x).cps = false)
    (ht : (tb, instObj 235 dx) ∈ news) (hdx : (dx, dictOf [⟨PyData.keyHash w.params (Str.ofString "_headers"), .str (Str.ofString "_headers") u, .ref l⟩] k) ∈ news)
    (hl : (l, listOf (its.map fun it => Value.ref it.1).toArray n) ∈ news)
    (hlen : ∀ it ∈ its, it.2.1.length ≤ 1000)
    (hp : ∀ it ∈ its, ∃ tk tv, (it.1, ({ cls := .type "tuple", data := .seq #[.str it.2.1 tk, .str it.2.2 tv] } : Obj)) ∈ news)
    (hret : anyBad badN (Txt.lower x).cps = false → ∀ r h' tk', Told its x dflt r → Fr h₀ L h' m → News h₀ L h' news → Q r { s with heap := h', toks := tk' })
    (hexc : anyBad badN (Txt.lower x).cps = true → ∀ e t vs g₂ h' tk', Fr h₀ L g₂ m → RaisedC base g₂ (envX cn cs L a ccd cl :: outer) e (.type "ValueError") t vs news h' → g₂.UpToSlots h' → E (.ref e) { s with heap := h', toks := tk' }) :
    wpAny (model Challenge.rw_un0048_02.row.prog w) ((ktrTop dp un gd cn cs L a ccd cl outer).mark hh) (call (.ref 182) args) Q E s := by
  revert X; k_fill; intro X
  refine wpAny_call ?_
  k_dflt (refine' code_def ?k1 ?k2 ?k3 ?k4 ?k5 ?kA ?kF ?kK ?k6 ?k7 ?k8 ?k9 ?kB ?_ ?c2 ?c3 ?c4 ?c5; (case kA => exact rfl); (case kF => exact rfl); (case kK => assumption); (case k1 => k_asm); (case k2 => k_asm); (case k3 => k_asm); (case k4 => k_asm); (case k5 => k_asm); (case k6 => k_is); (case k7 => k_is); (case k8 => ktr_room); (case k9 => exact hb _ (by k_in)); (case c5 => decide); (case kB => exact locs rfl); (case c2 => exact rfl); (case c3 => exact rfl); (case c4 => exact rfl); k_whole; intro g' L' h' FG' F' N' B' X' T'; (try dsimp only); (try k_fold))
  conv => arg 3; arg 1; whnf
  k_steps
  have hlx := len_lower x
  refine conv_N B' F' X' N' T' rfl ?_ ?_ ?_ hok ?_ ?_
  · ktr_room
  · ktr_units
  · rw [sizeLine_eq]; show (Txt.lower x).length ≤ _; omega
  · intro hb h' tk' F' N'
    k_steps
    refine for_any (h₀ := g') ?_ (by intro _; rfl)
    k_steps
    rename_i h₃ F₃ N₃
    refine iterM_listG (vs := (its.map fun it => Value.ref it.1).toArray) (m₀ := _) (news := news)
      (fun i m₁ news₁ => (∃ f, m₁ = two (Str.ofString "k") (Str.ofString "v") f _) ∧ news₁ = news ∧ ∀ j it, j < i → its[j]? = some it → (Txt.lower it.2.1 == Txt.lower x) = false)
      (ho.of_eq (deeper_mark _ _)) ⟨listOf (its.map fun it => Value.ref it.1).toArray n, (N₃ _ hl).1, rfl, n, rfl⟩ (N₃ _ hl).2.1 F₃ N₃ ⟨⟨_, two_self _ _ _⟩, rfl, fun j it hj => absurd hj (Nat.not_lt_zero _)⟩ ?turn ?done
    case turn =>
      rintro i v m₁ news₁ h₄ tk₄ own hv ⟨⟨f, rfl⟩, rfl, hbefore⟩ hoff F₄ N₄
      have hv2 : ∃ it, its[i]? = some it ∧ v = .ref it.1 := by
        simp only [List.getElem?_toArray, List.getElem?_map, Option.map_eq_some_iff] at hv
        obtain ⟨it, h1, h2⟩ := hv
        exact ⟨it, h1, h2.symm⟩
      obtain ⟨it, hit, rfl⟩ := hv2
      obtain ⟨tk₅, tv₅, hq⟩ := hp it (List.mem_of_getElem? hit)
      have hl5 := hlen it (List.mem_of_getElem? hit)
      have hq₂ := List.mem_append_right own hq
      clear F₃ N₃
      refine unpackN_G F₄ N₄ (ho.up.of_eq (deeper_mark _ _)) (News.isTup N₄ hq₂) rfl rfl ?_
      intro h₄ F₄ N₄
      k_steps
      · rename_i heq tk₆
        dsimp only
        unfold TurnM
        dsimp only
        k_steps
        refine hret hb _ _ _ ?_ (by assumption) (News.right (by assumption))
        unfold Told
        rw [find_first hit (by assumption) hbefore]
        exact ⟨_, rfl⟩
      · rename_i hne tk₆
        refine ⟨_, _, _, _, rfl, by assumption, by assumption, (fun p hp => by simpa using hoff p hp), ⟨_, two_set _ _ _ _ _ _ (by decide)⟩, rfl, ?_⟩
        intro j it' hj hj2
        rcases Nat.lt_or_ge j i with h1 | h1
        · exact hbefore j it' h1 hj2
        · have : j = i := by omega
          subst this
          rw [hit] at hj2
          cases hj2
          assumption
    case done =>
      rintro h₄ tk₄ m₁ news₁ F₄ N₄ hoff ⟨⟨f, rfl⟩, rfl, hbefore⟩
      clear F₃ N₃
      k_steps
      refine hret hb _ _ _ ?_ (by assumption) (by assumption)
      unfold Told
      rw [find_none fun j y hj e => hbefore j y (by simpa using hj) e]
  · intro hb e t vs g₂ h' tk' F₂ R' U'
    rcases hok with rfl | hok
    · k_steps
      exact hexc hb _ _ _ _ _ _ (by assumption) (by assumption) (by assumption)
    · rw [hok] at hb; cases hb
theorem dflt_none {w : World} {s' : Shared} {tb : Addr} {x : Str} {t : Tok} (X' : (heapK w.params).In s'.heap) : BindsTo s' getF ⟨[.ref tb, .str x t], []⟩ [(Str.ofString "self", .ref tb), (Str.ofString "name", .str x t), (Str.ofString "default", .none)] :=
  binds_K (K := heapK w.params) X' rfl (show (heapK w.params).lookup 175 = some (k175 w.params) by kernel_rfl) rfl rfl rfl
theorem dflt_given {w : World} {s' : Shared} {tb : Addr} {x : Str} {t : Tok} {d : Value} (X' : (heapK w.params).In s'.heap) : BindsTo s' getF ⟨[.ref tb, .str x t, d], []⟩ [(Str.ofString "self", .ref tb), (Str.ofString "name", .str x t), (Str.ofString "default", d)] :=
  binds_K (K := heapK w.params) X' rfl (show (heapK w.params).lookup 175 = some (k175 w.params) by kernel_rfl) rfl rfl rfl
theorem get_tab {w : World} {mean : ExcName → Option Value} {mg mb : Str → Option Value}
    {dp un : Nat} {gd : Option (List Code)} {cn : Str} {cs : Scope} {a : Addr} {ccd : Value} {cl : List (Str × Addr)} {outer : List Env} {A₀ : Around} {base h₀ : Heap} {L : Addr} {m : Str → Option Value} {news : List (Addr × Obj)} {s : Shared} {Q E : Value → Shared → Prop}
    {x : Str} {t : Tok} {tb l dx : Addr} {k n : Nat} {u : Tok} {its : List (Addr × Str × Str)} {dflt : Value}
    (B : Below A₀ base outer h₀) (F : Fr h₀ L s.heap m) (X : (heapK w.params).In h₀) (N : News h₀ L s.heap news) (T : Top vwT (looseW vwT looseT) mean mg mb h₀) (hk : cs.kind = .function)
    (hd : dp + 10 < recursionLimit) (hu : un + 50 < cLine) (hx : x.length ≤ 1000)
    (ht : (tb, instObj 235 dx) ∈ news) (hdx : (dx, dictOf [⟨PyData.keyHash w.params (Str.ofString "_headers"), .str (Str.ofString "_headers") u, .ref l⟩] k) ∈ news)
    (hl : (l, listOf (its.map fun it => Value.ref it.1).toArray n) ∈ news)
    (hlen : ∀ it ∈ its, it.2.1.length ≤ 1000)
    (hp : ∀ it ∈ its, ∃ tk tv, (it.1, ({ cls := .type "tuple", data := .seq #[.str it.2.1 tk, .str it.2.2 tv] } : Obj)) ∈ news)
    (hret : anyBad badN (Txt.lower x).cps = false → ∀ r h' tk', Told its x dflt r → Fr h₀ L h' m → News h₀ L h' news → Q r { s with heap := h', toks := tk' })
    (hexc : anyBad badN (Txt.lower x).cps = true → ∀ e t vs g₂ h' tk', Fr h₀ L g₂ m → RaisedC base g₂ (envX cn cs L a ccd cl :: outer) e (.type "ValueError") t vs news h' → g₂.UpToSlots h' → E (.ref e) { s with heap := h', toks := tk' }) :
    wpAny (model Challenge.rw_un0048_02.row.prog w) (ktrTop dp un gd cn cs L a ccd cl outer) (call (.ref 182) [.ref tb, .str x t, dflt]) Q E s :=
  get_g (hh := none) (x := x) (t := t) (args := [.ref tb, .str x t, dflt]) B F X N T hk (.inl rfl) (fun s' X' => dflt_given X') hd hu hx (.inl rfl) ht hdx hl hlen hp hret hexc
theorem setdefault_g {w : World} {hh : Option Value} {mean : ExcName → Option Value} {mg mb : Str → Option Value}
    {dp un : Nat} {gd : Option (List Code)} {cn : Str} {cs : Scope} {a : Addr} {ccd : Value} {cl : List (Str × Addr)} {outer : List Env} {A₀ : Around} {base h₀ : Heap} {L : Addr} {m : Str → Option Value} {news : List (Addr × Obj)} {s : Shared} {Q E : Value → Shared → Prop}
    {x y : Str} {t ty : Tok} {tb l dx : Addr} {k n : Nat} {u : Tok} {its : List (Addr × Str × Str)} {news' : Value → List (Addr × Obj)}
    (B : Below A₀ base outer h₀) (F : Fr h₀ L s.heap m) (X : (heapK w.params).In h₀) (N : News h₀ L s.heap news) (T : Top vwT (looseW vwT looseT) mean mg mb h₀) (hk : cs.kind = .function) (ho : HOk hh news)
    (hd : dp + 20 < recursionLimit) (hu : un + 100 < cLine) (hx : x.length ≤ 1000) (hy : y.length ≤ 1000)
    (ht : (tb, instObj 235 dx) ∈ news) (hdx : (dx, dictOf [⟨PyData.keyHash w.params (Str.ofString "_headers"), .str (Str.ofString "_headers") u, .ref l⟩] k) ∈ news)
    (hl : (l, listOf (its.map fun it => Value.ref it.1).toArray n) ∈ news)
    (hlen : ∀ it ∈ its, it.2.1.length ≤ 1000)
    (hp : ∀ it ∈ its, ∃ tk tv, (it.1, ({ cls := .type "tuple", data := .seq #[.str it.2.1 tk, .str it.2.2 tv] } : Obj)) ∈ news)
    (hn : its.length ≤ 1000)
    (hU : ∀ v, Upd l (listOf (its.map fun it => Value.ref it.1).toArray n) (listOf ((its.map fun it => Value.ref it.1).toArray.push v) (n + 1)) news (news' v))
    (hgood : anyBad badN (Txt.lower x).cps = false) (hgood2 : anyBad badN x.cps = false) (hok : hh = none ∨ anyBad badV y.cps = false) (hnew : its.find? (fun it => Txt.lower it.2.1 == Txt.lower x) = none)
    (hret : anyBad badV y.cps = false → ∀ D t1 t2 r h' tk', Fr h₀ L h' m → (∀ p ∈ news, p.1 < D) → News h₀ L h' ((D, ({ cls := .type "tuple", data := .seq #[.str x t1, .str y t2] } : Obj)) :: news' (.ref D)) → Q r { s with heap := h', toks := tk' })
    (hexc : anyBad badV y.cps = true → ∀ e t vs g₂ h' tk', Fr h₀ L g₂ m → RaisedC base g₂ (envX cn cs L a ccd cl :: outer) e (.type "ValueError") t vs news h' → g₂.UpToSlots h' → E (.ref e) { s with heap := h', toks := tk' }) :
    wpAny (model Challenge.rw_un0048_02.row.prog w) ((ktrTop dp un gd cn cs L a ccd cl outer).mark hh) (call (.ref 225) [.ref tb, .str x t, .str y ty]) Q E s := by
  revert X; k_fill; intro X
  refine wpAny_call ?_
  k_dflt (refine' code_def ?k1 ?k2 ?k3 ?k4 ?k5 ?kA ?kF ?kK ?k6 ?k7 ?k8 ?k9 ?kB ?_ ?c2 ?c3 ?c4 ?c5; (case kA => exact rfl); (case kF => exact rfl); (case kK => assumption); (case k1 => k_asm); (case k2 => k_asm); (case k3 => k_asm); (case k4 => k_asm); (case k5 => k_asm); (case k6 => k_is); (case k7 => k_is); (case k8 => ktr_room); (case k9 => first | exact BindsTo.of_eq rfl | exact binds_K (by k_in) rfl (by k_is) rfl rfl rfl); (case c5 => decide); (case kB => exact locs rfl); (case c2 => exact rfl); (case c3 => exact rfl); (case c4 => exact rfl); k_whole; intro g' L' h' FG' F' N' B' X' T'; (try dsimp only); (try k_fold))
  conv => arg 3; arg 1; whnf
  k_steps
  refine get_g (x := x) (dflt := .none) B' F' X' N' T' rfl ho (fun s' X' => dflt_none X') ?_ ?_ hx (.inr hgood) ht hdx hl hlen hp ?_ ?_
  · ktr_room
  · ktr_units
  · intro _ r h' tk' hr F' N'
    unfold Told at hr
    rw [hnew] at hr
    subst hr
    k_steps
    rename_i F₂ N₂
    refine conv_N B' F₂ X' N₂ T' rfl ?_ ?_ ?_ (.inr hgood2) ?_ ?_
    · ktr_room
    · ktr_units
    · rw [sizeLine_eq]; show x.length ≤ _; omega
    · intro _ h₃ tk₃ F₃ N₃
      clear F₂ N₂
      k_steps
      refine conv_V B' (by assumption) X' (by assumption) T' rfl ?_ ?_ ?_ hok ?_ ?_
      · ktr_room
      · ktr_units
      · rw [sizeLine_eq]; show y.length ≤ _; omega
      · intro hv h₄ tk₄ F₄ N₄
        clear F₃ N₃
        k_steps
        rename_i D h₅ F₅ N₅ hD
        refine append_K F₅ N₅ (Upd.tail (fun e => Nat.lt_irrefl _ (by have := hD _ hl; dsimp only at this e; rw [e] at this; exact this)) (hU _)) ?_ ?_
        · intro h₆ F₆ N₆
          clear F₅ N₅
          k_steps
          exact hret hv _ _ _ _ _ _ (by assumption) hD (by assumption)
        · rw [sizeLine_eq]; simp; omega
      · intro hv e t vs g₂ h' tk' F₂ R' U'
        rcases hok with rfl | hok
        rotate_left
        · rw [hok] at hv; cases hv
        k_steps
        exact hexc hv _ _ _ _ _ _ (by assumption) (by assumption) (by assumption)
    · intro hb
      rw [hgood2] at hb
      cases hb
  · intro hb
    rw [hgood] at hb
    cases hb
theorem setdefault_tab {w : World} {mean : ExcName → Option Value} {mg mb : Str → Option Value}
    {dp un : Nat} {gd : Option (List Code)} {cn : Str} {cs : Scope} {a : Addr} {ccd : Value} {cl : List (Str × Addr)} {outer : List Env} {A₀ : Around} {base h₀ : Heap} {L : Addr} {m : Str → Option Value} {news : List (Addr × Obj)} {s : Shared} {Q E : Value → Shared → Prop}
    {x y : Str} {t ty : Tok} {tb l dx : Addr} {k n : Nat} {u : Tok} {its : List (Addr × Str × Str)} {news' : Value → List (Addr × Obj)}
    (B : Below A₀ base outer h₀) (F : Fr h₀ L s.heap m) (X : (heapK w.params).In h₀) (N : News h₀ L s.heap news) (T : Top vwT (looseW vwT looseT) mean mg mb h₀) (hk : cs.kind = .function)
    (hd : dp + 20 < recursionLimit) (hu : un + 100 < cLine) (hx : x.length ≤ 1000) (hy : y.length ≤ 1000)
    (ht : (tb, instObj 235 dx) ∈ news) (hdx : (dx, dictOf [⟨PyData.keyHash w.params (Str.ofString "_headers"), .str (Str.ofString "_headers") u, .ref l⟩] k) ∈ news)
    (hl : (l, listOf (its.map fun it => Value.ref it.1).toArray n) ∈ news)
    (hlen : ∀ it ∈ its, it.2.1.length ≤ 1000)
    (hp : ∀ it ∈ its, ∃ tk tv, (it.1, ({ cls := .type "tuple", data := .seq #[.str it.2.1 tk, .str it.2.2 tv] } : Obj)) ∈ news)
    (hn : its.length ≤ 1000)
    (hU : ∀ v, Upd l (listOf (its.map fun it => Value.ref it.1).toArray n) (listOf ((its.map fun it => Value.ref it.1).toArray.push v) (n + 1)) news (news' v))
    (hgood : anyBad badN (Txt.lower x).cps = false) (hgood2 : anyBad badN x.cps = false) (hnew : its.find? (fun it => Txt.lower it.2.1 == Txt.lower x) = none)
    (hret : anyBad badV y.cps = false → ∀ D t1 t2 r h' tk', Fr h₀ L h' m → (∀ p ∈ news, p.1 < D) → News h₀ L h' ((D, ({ cls := .type "tuple", data := .seq #[.str x t1, .str y t2] } : Obj)) :: news' (.ref D)) → Q r { s with heap := h', toks := tk' })
    (hexc : anyBad badV y.cps = true → ∀ e t vs g₂ h' tk', Fr h₀ L g₂ m → RaisedC base g₂ (envX cn cs L a ccd cl :: outer) e (.type "ValueError") t vs news h' → g₂.UpToSlots h' → E (.ref e) { s with heap := h', toks := tk' }) :
    wpAny (model Challenge.rw_un0048_02.row.prog w) (ktrTop dp un gd cn cs L a ccd cl outer) (call (.ref 225) [.ref tb, .str x t, .str y ty]) Q E s :=
  setdefault_g (hh := none) B F X N T hk (.inl rfl) hd hu hx hy ht hdx hl hlen hp hn hU hgood hgood2 (.inl rfl) hnew hret hexc
theorem setdefault_tabH {w : World} {e₀ : Addr} {oe₀ : Obj} {ws₀ : Array Value} {mean : ExcName → Option Value} {mg mb : Str → Option Value}
    {dp un : Nat} {gd : Option (List Code)} {cn : Str} {cs : Scope} {a : Addr} {ccd : Value} {cl : List (Str × Addr)} {outer : List Env} {A₀ : Around} {base h₀ : Heap} {L : Addr} {m : Str → Option Value} {news : List (Addr × Obj)} {s : Shared} {Q E : Value → Shared → Prop}
    {x y : Str} {t ty : Tok} {tb l dx : Addr} {k n : Nat} {u : Tok} {its : List (Addr × Str × Str)} {news' : Value → List (Addr × Obj)}
    (B : Below A₀ base outer h₀) (F : Fr h₀ L s.heap m) (X : (heapK w.params).In h₀) (N : News h₀ L s.heap news) (T : Top vwT (looseW vwT looseT) mean mg mb h₀) (hk : cs.kind = .function) (hce : (e₀, oe₀) ∈ news) (hoe : oe₀.data = .fields ws₀) (hw2 : ws₀[2]? = some .none)
    (hd : dp + 20 < recursionLimit) (hu : un + 100 < cLine) (hx : x.length ≤ 1000) (hy : y.length ≤ 1000)
    (ht : (tb, instObj 235 dx) ∈ news) (hdx : (dx, dictOf [⟨PyData.keyHash w.params (Str.ofString "_headers"), .str (Str.ofString "_headers") u, .ref l⟩] k) ∈ news)
    (hl : (l, listOf (its.map fun it => Value.ref it.1).toArray n) ∈ news)
    (hlen : ∀ it ∈ its, it.2.1.length ≤ 1000)
    (hp : ∀ it ∈ its, ∃ tk tv, (it.1, ({ cls := .type "tuple", data := .seq #[.str it.2.1 tk, .str it.2.2 tv] } : Obj)) ∈ news)
    (hn : its.length ≤ 1000)
    (hU : ∀ v, Upd l (listOf (its.map fun it => Value.ref it.1).toArray n) (listOf ((its.map fun it => Value.ref it.1).toArray.push v) (n + 1)) news (news' v))
    (hgood : anyBad badN (Txt.lower x).cps = false) (hgood2 : anyBad badN x.cps = false) (hgood3 : anyBad badV y.cps = false) (hnew : its.find? (fun it => Txt.lower it.2.1 == Txt.lower x) = none)
    (hret : ∀ D t1 t2 r h' tk', Fr h₀ L h' m → (∀ p ∈ news, p.1 < D) → News h₀ L h' ((D, ({ cls := .type "tuple", data := .seq #[.str x t1, .str y t2] } : Obj)) :: news' (.ref D)) → Q r { s with heap := h', toks := tk' }) :
    wpAny (model Challenge.rw_un0048_02.row.prog w) ((ktrTop dp un gd cn cs L a ccd cl outer).mark (some (.ref e₀))) (call (.ref 225) [.ref tb, .str x t, .str y ty]) Q E s :=
  setdefault_g (hh := some (.ref e₀)) B F X N T hk (.inr ⟨e₀, oe₀, ws₀, rfl, hce, hoe, hw2⟩) hd hu hx hy ht hdx hl hlen hp hn hU hgood hgood2 (.inr hgood3) hnew (fun _ => hret) (fun q => absurd (hgood3.symm.trans q) (by decide))
end Mine
end

section
open PySem PySem.W PyProof.Rows PySem.Calls
set_option maxRecDepth 100000
set_option Elab.async false
set_option linter.unusedVariables false
namespace Mine
open Builtin.Str
theorem occ_one_empty {x y : Str} (h : (occurrences x y 0 x.length 1).isEmpty = true) : (occurrences x y 0 x.length (x.length + 1)).isEmpty = true := by
  rcases StrLaws.occ_head x y 1 (Nat.le_refl _) with ⟨_, hn⟩ | ⟨i, r, e, _⟩
  · rcases StrLaws.occ_head x y (x.length + 1) (by omega) with ⟨e, _⟩ | ⟨i, r, _, ha, _⟩
    · rw [e]; rfl
    · exact absurd ha (hn i)
  · rw [e] at h; cases h
theorem replace_none {x y z : Str} (h : (occurrences x y 0 x.length 1).isEmpty = true) : Txt.replace x y z = x := by
  unfold Txt.replace
  rw [occ_one_empty h]
  rfl
section
variable {prog : Program} {w : World} {A : Around} {E : Value → Shared → Prop} {s : Shared} {name : Str} {scope : Scope} {L a : Addr} {cd : Value} {h₀ : Heap} {m : Str → Option Value} {news : List (Addr × Obj)} {x y z : Str} {t u v : Tok}
theorem replace_pos {Q : Value → Shared → Prop} (hp : 0 < s.toks) (hu : u ≠ 0) (hv : v ≠ 0) (huv : u ≠ v) (hyz : (y == z) = false) (hx : x.length ≤ 1048576) (hz : z.length ≤ 14)
    (hq : ∀ t' k, 0 < k → Q (.str (Txt.replace x y z) t') { s with toks := k }) : wpAny (model prog w) A (call (.builtin "str.replace") [.str x t, .str y u, .str z v]) Q E s := by
  have hb : x.length + (x.length + 1) * z.length ≤ 16777216 := by
    have h1 : (x.length + 1) * z.length ≤ (x.length + 1) * 14 := Nat.mul_le_mul_left _ hz
    omega
  have hl : tooLong (x.length + (occurrences x y 0 x.length (x.length + 1)).length * z.length) = false := by
    have h1 := StrLaws.occ_length_le x y 0 x.length (x.length + 1)
    have h2 : (occurrences x y 0 x.length (x.length + 1)).length * z.length ≤ (x.length + 1) * z.length := Nat.mul_le_mul_right _ h1
    unfold tooLong sizeLine
    exact decide_eq_false (by omega)
  refine call_gives F.slot_str_replace (typeIs_str _ _ _) F.entry_str_replace (F.args_str_replace_3 _ _ _)
    (gives_str_replace x y z t u v fun _ => ⟨by simp [hu, hv], by simp [huv], hyz, hl⟩) ?_
  unfold Txt.replace at hq
  cases hc : ((occurrences x y 0 x.length (x.length + 1)).isEmpty || (y.length == 0 && z.length == 0))
  · rw [hc] at hq
    simp only [Bool.false_eq_true, if_false] at hq ⊢
    exact ⟨fits_replaced y hb, hq _ _ (Nat.succ_pos _)⟩
  · rw [hc] at hq
    simp only [if_true] at hq ⊢
    exact hq t s.toks hp
theorem esc_if {c r : Str} {k1 k2 k3 : Nat} {p1 p2 p3 p4 p5 p6 p7 p8 p9 p10 p11 : Pos} {Q : Flow → Shared → Prop} (F : Fr h₀ L s.heap m) (N : News h₀ L s.heap news) (hm : m "text" = some (.str x t)) (hpos : 0 < s.toks) (hcr : (c == r) = false)
    (hx : x.length ≤ 1048576) (hr : r.length ≤ 14) (hk : scope.kind = .function) (hl : (envOf name scope L a cd).kindOf "text" = some .local)
    (hcall : ∃ pl, eval (.Call (.Attribute (.Name "text" p5) "replace" p6) [.Constant (.str c) k2 p7, .Constant (.str r) k3 p8] [] p9) (envOf name scope L a cd) = (do
      let ov ← eval (.Name "text" p5) (envOf name scope L a cd)
      standAt p6.atName
      let (f, first) ← holding [ov] (getMethod ov "replace" pl)
      callWith p9 f first (backTo p9 (starEach [.Constant (.str c) k2 p7, .Constant (.str r) k3 p8] (envOf name scope L a cd))) []))
    (hq : ∀ t' h' tk', 0 < tk' → Fr h₀ L h' (fun y => if y = "text" then some (.str (Txt.replace x c r) t') else m y) → News h₀ L h' news → Q .next { s with heap := h', toks := tk' }) :
    wpAny (model prog w) A (exec (.If (.Compare (.Constant (.str c) k1 p1) [.In] [.Name "text" p2] p3) [.Assign [.Name "text" p4] (.Call (.Attribute (.Name "text" p5) "replace" p6) [.Constant (.str c) k2 p7, .Constant (.str r) k3 p8] [] p9) p10] [] p11) (envOf name scope L a cd)) Q E s := by
  refine wpAny_If (wpAny_isTrue_Compare1 (Constant_str ?_))
  refine ld F hm ?_ hk hl
  refine in_str (wpAny_truthy_bool ?_)
  cases he : (occurrences x c 0 x.length 1).isEmpty with
  | true =>
    refine wpAny_execs_nil ?_
    have := hq t s.heap (s.toks + 1) (Nat.succ_pos _) (by
      rw [replace_none he]
      have e : (fun y => if y = ("text" : Str) then some (Value.str x t) else m y) = m := by
        funext y
        split
        · rename_i h; rw [h, hm]
        · rfl
      rw [e]; exact F) N
    exact this
  | false =>
    refine wpAny_execs_cons (wpAny_Assign_Name ?_)
    obtain ⟨pl, hcall⟩ := hcall
    refine MethodCall_ (pl := pl) ?_ hcall
    refine ld F hm ?_ hk hl
    refine GM.replace ?_
    refine callWith_method1 ?_
    refine spliced_cons (Constant_str (k := k2) (pos := p7) (spliced_cons (Constant_str (k := k3) (pos := p8) (spliced_nil ?_))))
    refine replace_pos (Nat.succ_pos _) (Nat.succ_ne_zero _) (Nat.succ_ne_zero _) (by show s.toks + 1 ≠ s.toks + 1 + 1; omega) hcr hx hr ?_
    intro t' k hk0
    refine stN F N (fun h' F' N' => ?_) hk hl
    refine wpAny_execs_nil ?_
    exact hq t' h' _ (Nat.succ_pos _) F' N'
end
end Mine
end

section
open PySem PySem.W PyProof.Rows PySem.Calls
set_option Elab.async false
set_option linter.unusedVariables false
namespace Mine
/-- one sign replaced -/
noncomputable def sub1 (c : Nat) (z l : List Nat) : List Nat := l.flatMap fun d => if d = c then z else [d]
theorem sub1_append (c : Nat) (z a b : List Nat) : sub1 c z (a ++ b) = sub1 c z a ++ sub1 c z b := List.flatMap_append ..
theorem sub1_free (c : Nat) (z : List Nat) : ∀ l : List Nat, c ∉ l → sub1 c z l = l
  | [], _ => rfl
  | k :: r, h => by
    have h1 : ¬ k = c := fun e => h (e ▸ List.mem_cons_self ..)
    have h2 : c ∉ r := fun m => h (List.mem_cons_of_mem _ m)
    show (if k = c then z else [k]) ++ sub1 c z r = k :: r
    rw [if_neg h1, sub1_free c z r h2]; rfl
theorem sub1_join (c : Nat) (z : Str) : ∀ parts : List Str, (∀ p ∈ parts, c ∉ p.cps.toList) → sub1 c z.cps.toList (Str.join ⟨#[c]⟩ parts).cps.toList = (Str.join z parts).cps.toList
  | [], _ => rfl
  | [p], h => sub1_free c _ _ (h p (List.mem_singleton.mpr rfl))
  | p :: q :: r, h => by
    have ih := sub1_join c z (q :: r) fun a ha => h a (List.mem_cons_of_mem _ ha)
    show sub1 c z.cps.toList (p ++ ⟨#[c]⟩ ++ Str.join ⟨#[c]⟩ (q :: r)).cps.toList = (p ++ z ++ Str.join z (q :: r)).cps.toList
    simp only [Str.cps_append, Array.toList_append]
    rw [sub1_append, sub1_append, ih, sub1_free c _ _ (h p (List.mem_cons_self ..))]
    show p.cps.toList ++ ((if c = c then z.cps.toList else [c]) ++ []) ++ _ = _
    rw [if_pos rfl, List.append_nil]
theorem replace_sub (x z : Str) (c : Nat) : (Txt.replace x ⟨#[c]⟩ z).cps.toList = sub1 c z.cps.toList x.cps.toList := by
  rw [StrLaws.replace_one, ← sub1_join c z _ (StrLaws.split_free x c), StrLaws.join_split]
/-- a text of a list of signs -/
noncomputable def txt (l : List Nat) : Str := ⟨l.toArray⟩
theorem txt_toList (x : Str) : txt x.cps.toList = x := rfl
theorem toList_txt (l : List Nat) : (txt l).cps.toList = l := rfl
theorem length_txt (l : List Nat) : (txt l).length = l.length := rfl
theorem replace_txt (l : List Nat) (z : Str) (c : Nat) : Txt.replace (txt l) ⟨#[c]⟩ z = txt (sub1 c z.cps.toList l) := by
  have := replace_sub (txt l) z c
  rw [toList_txt] at this
  rw [← this]; rfl

noncomputable def zAmp : List Nat := [38, 97, 109, 112, 59]
noncomputable def zLt : List Nat := [38, 108, 116, 59]
noncomputable def zQuot : List Nat := [38, 113, 117, 111, 116, 59]
noncomputable def zTab : List Nat := [38, 35, 120, 57, 59]
noncomputable def zLf : List Nat := [38, 35, 120, 65, 59]
noncomputable def zCr : List Nat := [38, 35, 120, 68, 59]
noncomputable def e1 (d : Nat) : List Nat := if d = 38 then zAmp else [d]
noncomputable def e2 (d : Nat) : List Nat := sub1 60 zLt (e1 d)
noncomputable def e3 (d : Nat) : List Nat := sub1 34 zQuot (e2 d)
noncomputable def e4 (d : Nat) : List Nat := sub1 9 zTab (e3 d)
noncomputable def e5 (d : Nat) : List Nat := sub1 10 zLf (e4 d)
noncomputable def e6 (d : Nat) : List Nat := sub1 13 zCr (e5 d)
/-- a sign escaped -/
noncomputable def escSign (d : Nat) : List Nat := if d = 38 then zAmp else if d = 60 then zLt else if d = 34 then zQuot else if d = 9 then zTab else if d = 10 then zLf else if d = 13 then zCr else [d]
theorem sub1_one {c d : Nat} {z : List Nat} (h : d ≠ c) : sub1 c z [d] = [d] := sub1_free c z [d] (by simpa using fun e => h e.symm)
theorem e6_eq (d : Nat) : e6 d = escSign d := by
  unfold e6 e5 e4 e3 e2 e1 escSign
  by_cases h1 : d = 38
  · subst h1; rfl
  by_cases h2 : d = 60
  · subst h2; rfl
  by_cases h3 : d = 34
  · subst h3; rfl
  by_cases h4 : d = 9
  · subst h4; rfl
  by_cases h5 : d = 10
  · subst h5; rfl
  by_cases h6 : d = 13
  · subst h6; rfl
  rw [if_neg h1, sub1_one h2, sub1_one h3, sub1_one h4, sub1_one h5, sub1_one h6, if_neg h1, if_neg h2, if_neg h3, if_neg h4, if_neg h5, if_neg h6]
theorem len_sub1 {c : Nat} {z : List Nat} {n : Nat} : True := trivial
theorem e_len (d : Nat) : (e1 d).length ≤ 6 ∧ (e2 d).length ≤ 6 ∧ (e3 d).length ≤ 6 ∧ (e4 d).length ≤ 6 ∧ (e5 d).length ≤ 6 ∧ (e6 d).length ≤ 6 := by
  unfold e6 e5 e4 e3 e2 e1
  by_cases h1 : d = 38
  · subst h1; decide
  by_cases h2 : d = 60
  · subst h2; decide
  by_cases h3 : d = 34
  · subst h3; decide
  by_cases h4 : d = 9
  · subst h4; decide
  by_cases h5 : d = 10
  · subst h5; decide
  by_cases h6 : d = 13
  · subst h6; decide
  rw [if_neg h1, sub1_one h2, sub1_one h3, sub1_one h4, sub1_one h5, sub1_one h6]
  exact ⟨by simp, by simp, by simp, by simp, by simp, by simp⟩
theorem sub1_flatMap (c : Nat) (z : List Nat) (f : Nat → List Nat) (l : List Nat) : sub1 c z (l.flatMap f) = l.flatMap fun d => sub1 c z (f d) := by
  unfold sub1
  rw [List.flatMap_assoc]
theorem flatMap_len {f : Nat → List Nat} (h : ∀ d, (f d).length ≤ 6) : ∀ l : List Nat, (l.flatMap f).length ≤ 6 * l.length
  | [] => Nat.le_refl _
  | d :: l => by
    have := flatMap_len h l
    have := h d
    simp only [List.flatMap_cons, List.length_append, List.length_cons]
    omega
theorem rep1 (l : List Nat) : Txt.replace (txt l) ⟨#[38]⟩ (txt zAmp) = txt (l.flatMap e1) := replace_txt l _ _
theorem rep2 (l : List Nat) : Txt.replace (txt (l.flatMap e1)) ⟨#[60]⟩ (txt zLt) = txt (l.flatMap e2) := by rw [replace_txt]; exact congrArg txt (sub1_flatMap ..)
theorem rep3 (l : List Nat) : Txt.replace (txt (l.flatMap e2)) ⟨#[34]⟩ (txt zQuot) = txt (l.flatMap e3) := by rw [replace_txt]; exact congrArg txt (sub1_flatMap ..)
theorem rep4 (l : List Nat) : Txt.replace (txt (l.flatMap e3)) ⟨#[9]⟩ (txt zTab) = txt (l.flatMap e4) := by rw [replace_txt]; exact congrArg txt (sub1_flatMap ..)
theorem rep5 (l : List Nat) : Txt.replace (txt (l.flatMap e4)) ⟨#[10]⟩ (txt zLf) = txt (l.flatMap e5) := by rw [replace_txt]; exact congrArg txt (sub1_flatMap ..)
theorem rep6 (l : List Nat) : Txt.replace (txt (l.flatMap e5)) ⟨#[13]⟩ (txt zCr) = txt (l.flatMap escSign) := by
  rw [replace_txt]
  refine congrArg txt ((sub1_flatMap ..).trans ?_)
  exact congrArg (l.flatMap ·) (funext e6_eq)
end Mine
end

section
open PySem PySem.W PyProof.Rows PySem.Calls
set_option maxRecDepth 100000
set_option Elab.async false
set_option linter.unusedVariables false
set_option maxHeartbeats 4000000
namespace Mine
local macro_rules | `(tactic| walk_at "no such key") => `(tactic| skip)
theorem rep1s (l : List Nat) : Txt.replace (txt l) (Str.ofString "&") (Str.ofString "&amp;") = txt (l.flatMap e1) := rep1 l
theorem rep2s (l : List Nat) : Txt.replace (txt (l.flatMap e1)) (Str.ofString "<") (Str.ofString "&lt;") = txt (l.flatMap e2) := rep2 l
theorem rep3s (l : List Nat) : Txt.replace (txt (l.flatMap e2)) (Str.ofString "\"") (Str.ofString "&quot;") = txt (l.flatMap e3) := rep3 l
theorem rep4s (l : List Nat) : Txt.replace (txt (l.flatMap e3)) (Str.ofString "\t") (Str.ofString "&#x9;") = txt (l.flatMap e4) := rep4 l
theorem rep5s (l : List Nat) : Txt.replace (txt (l.flatMap e4)) (Str.ofString "\n") (Str.ofString "&#xA;") = txt (l.flatMap e5) := rep5 l
theorem rep6s (l : List Nat) : Txt.replace (txt (l.flatMap e5)) (Str.ofString "\r") (Str.ofString "&#xD;") = txt (l.flatMap escSign) := rep6 l
theorem with_pos {M : Model} {A : Around} {α : Type} {t : Sem α} {Q : α → Shared → Prop} {E : Value → Shared → Prop} {s' : Shared} (hp : 0 < s'.toks) (h : ∀ k, 0 < k → wpAny M A t Q E { s' with toks := k }) : wpAny M A t Q E s' := h s'.toks hp
local macro_rules | `(tactic| walk_at "exec If") => `(tactic| (k_here; refine esc_if (t := _) (by assumption) (by assumption) rfl (by assumption) (by decide +kernel) ?hx (by decide +kernel) rfl rfl ⟨_, rfl⟩ ?_; (case hx => assumption); intro t' h' tk' hp' F' N'; (first | rw [rep1s] at F' | rw [rep2s] at F' | rw [rep3s] at F' | rw [rep4s] at F' | rw [rep5s] at F' | rw [rep6s] at F')))
theorem esc_txt {w : World} {mean : ExcName → Option Value} {mg mb : Str → Option Value}
    {dp un : Nat} {gd : Option (List Code)} {cn : Str} {cs : Scope} {a : Addr} {ccd : Value} {cl : List (Str × Addr)} {outer : List Env} {A₀ : Around} {base h₀ : Heap} {L : Addr} {m : Str → Option Value} {news : List (Addr × Obj)} {s : Shared} {Q E : Value → Shared → Prop}
    {l : List Nat} {t : Tok}
    (B : Below A₀ base outer h₀) (F : Fr h₀ L s.heap m) (X : (heapK w.params).In h₀) (N : News h₀ L s.heap news) (T : Top vwT (looseW vwT looseT) mean mg mb h₀) (hk : cs.kind = .function)
    (hd : dp + 20 < recursionLimit) (hu : un + 100 < cLine) (hl : l.length ≤ 100000)
    (hret : ∀ t h' tk', Fr h₀ L h' m → News h₀ L h' news → Q (.str (txt (l.flatMap escSign)) t) { s with heap := h', toks := tk' }) :
    wpAny (model Challenge.rw_un0048_02.row.prog w) (ktrTop dp un gd cn cs L a ccd cl outer) (call (.ref 253) [.str (txt l) t]) Q E s := by
  have l0 : (txt l).length ≤ 1048576 := by rw [length_txt]; omega
  have l1 : (txt (l.flatMap e1)).length ≤ 1048576 := by rw [length_txt]; have := flatMap_len (fun d => (e_len d).1) l; omega
  have l2 : (txt (l.flatMap e2)).length ≤ 1048576 := by rw [length_txt]; have := flatMap_len (fun d => (e_len d).2.1) l; omega
  have l3 : (txt (l.flatMap e3)).length ≤ 1048576 := by rw [length_txt]; have := flatMap_len (fun d => (e_len d).2.2.1) l; omega
  have l4 : (txt (l.flatMap e4)).length ≤ 1048576 := by rw [length_txt]; have := flatMap_len (fun d => (e_len d).2.2.2.1) l; omega
  have l5 : (txt (l.flatMap e5)).length ≤ 1048576 := by rw [length_txt]; have := flatMap_len (fun d => (e_len d).2.2.2.2.1) l; omega
  revert X; k_fill; intro X
  refine wpAny_call ?_
  k_dflt (refine' code_def ?k1 ?k2 ?k3 ?k4 ?k5 ?kA ?kF ?kK ?k6 ?k7 ?k8 ?k9 ?kB ?_ ?c2 ?c3 ?c4 ?c5; (case kA => exact rfl); (case kF => exact rfl); (case kK => assumption); (case k1 => k_asm); (case k2 => k_asm); (case k3 => k_asm); (case k4 => k_asm); (case k5 => k_asm); (case k6 => k_is); (case k7 => k_is); (case k8 => ktr_room); (case k9 => first | exact BindsTo.of_eq rfl | exact binds_K (by k_in) rfl (by k_is) rfl rfl rfl); (case c5 => decide); (case kB => exact locs rfl); (case c2 => exact rfl); (case c3 => exact rfl); (case c4 => exact rfl); k_whole; intro g' L' h' FG' F' N' B' X' T'; (try dsimp only); (try k_fold))
  conv => arg 3; arg 1; whnf
  refine with_pos (show 0 < s.toks + 1 from Nat.succ_pos _) ?_
  intro k0 hk0
  dsimp only
  k_steps
  exact hret _ _ _ (by assumption) (by assumption)
end Mine
end

section
open PySem PySem.W PyProof.Rows PySem.Calls
set_option maxRecDepth 100000
set_option Elab.async false
set_option linter.unusedVariables false
set_option maxHeartbeats 4000000
namespace Mine
noncomputable def Cells (i : Nat) (a b c d : Int) : Prop := (0 ≤ a ∧ a ≤ 100000 + i * 1000000000) ∧ (0 ≤ b ∧ b ≤ 100000 + i * 1000000000) ∧ (0 ≤ c ∧ c ≤ 100000 + i * 1000000000) ∧ 0 ≤ d ∧ d ≤ 100000 + i * 1000000000
theorem cell_mono {i : Nat} {a : Int} (h : 0 ≤ a ∧ a ≤ 100000 + (i : Int) * 1000000000) : 0 ≤ a ∧ a ≤ 100000 + ((i + 1 : Nat) : Int) * 1000000000 := by omega
theorem cell_add {i : Nat} {a z : Int} (h : 0 ≤ a ∧ a ≤ 100000 + (i : Int) * 1000000000) (hz : 0 ≤ z ∧ z ≤ 1000000000) : 0 ≤ a + z ∧ a + z ≤ 100000 + ((i + 1 : Nat) : Int) * 1000000000 := by omega
theorem fmod_9 (n : Int) : 0 ≤ n.fmod (10 ^ Int.toNat 9) ∧ n.fmod (10 ^ Int.toNat 9) ≤ 1000000000 := by
  rw [Int.fmod_eq_emod_of_nonneg _ (by decide)]
  have e : (10 : Int) ^ Int.toNat 9 = 1000000000 := by decide
  rw [e]
  omega
theorem cells_le {i : Nat} {a b c d : Int} (h : Cells i a b c d) (hi : i ≤ 24) : Cells 24 a b c d := by
  unfold Cells at *
  omega
theorem cells_turn {g' h : Heap} {L' D l' : Addr} {own news : List (Addr × Obj)} {ws : Array Value} {i : Nat} {M f : Str → Option Value} {x y : Option Value} {s₁ : Shared} {tk : Nat} {a b c d : Int} {t0 t1 t2 t3 : Tok} {o : Obj} {Qr : Value → Shared → Prop} {Qb : Shared → Prop}
    (F : Fr g' L' h (fun z => if z = Str.ofString "number" then y else if z = Str.ofString "at" then x else two (Str.ofString "at") (Str.ofString "number") f M z))
    (N : News g' L' h ((l', listOf #[.int a t0, .int b t1, .int c t2, .int d t3] 0) :: (own ++ (D, listOf ws 0) :: news))) (hc : Cells (i + 1) a b c d) :
    LoopStep3 g' L' own ((D, listOf ws 0) :: (l', o) :: news) (fun m₁ news₁ => (∃ f, m₁ = two (Str.ofString "at") (Str.ofString "number") f M) ∧ ∃ a b c d t0 t1 t2 t3, Cells (i + 1) a b c d ∧ news₁ = (D, listOf ws 0) :: (l', listOf #[.int a t0, .int b t1, .int c t2, .int d t3] 0) :: news) s₁ Qr Qb .next { s₁ with heap := h, toks := tk } := by
  show LoopStep2 _ _ _ _ _ _ _ _
  refine LoopStep2.intro (news₂ := (D, listOf ws 0) :: (l', listOf #[.int a t0, .int b t1, .int c t2, .int d t3] 0) :: news) F (fun p hp => N p ?_) rfl ⟨⟨_, two_set _ _ _ _ _ _ (by decide)⟩, a, b, c, d, t0, t1, t2, t3, hc, rfl⟩
  simp only [List.mem_cons, List.mem_append] at hp ⊢
  rcases hp with h | h | h | h
  · exact .inr (.inl h)
  · exact .inr (.inr (.inl h))
  · exact .inl h
  · exact .inr (.inr (.inr h))
theorem cells_any {w : World} {mean : ExcName → Option Value} {mg mb : Str → Option Value}
    {dp un : Nat} {gd : Option (List Code)} {cn : Str} {cs : Scope} {a : Addr} {ccd : Value} {cl : List (Str × Addr)} {outer : List Env} {A₀ : Around} {base h₀ : Heap} {L : Addr} {m : Str → Option Value} {news : List (Addr × Obj)} {s : Shared} {Q E : Value → Shared → Prop}
    {l : Addr} {vs : List Value} {ns : List Int}
    (B : Below A₀ base outer h₀) (F : Fr h₀ L s.heap m) (X : (heapK w.params).In h₀) (N : News h₀ L s.heap news) (T : Top vwT (looseW vwT looseT) mean mg mb h₀) (hk : cs.kind = .function)
    (hd : dp + 20 < recursionLimit) (hu : un + 100 < cLine) (hl : h₀.IsList l vs.toArray) (hi : IntsAre vs ns) (hn : ns.length ≤ 63)
    (hret : ∀ D a b c d t0 t1 t2 t3 h' tk', Cells 24 a b c d → Fr h₀ L h' m → (∀ p ∈ news, p.1 < D) → News h₀ L h' ((D, listOf #[.int a t0, .int b t1, .int c t2, .int d t3] 0) :: news) → Q (.ref D) { s with heap := h', toks := tk' }) :
    wpAny (model Challenge.rw_un0048_02.row.prog w) (ktrTop dp un gd cn cs L a ccd cl outer) (call (.ref 260) [.ref l]) Q E s := by
  revert X; k_fill; intro X
  refine wpAny_call ?_
  k_dflt (refine' code_def ?k1 ?k2 ?k3 ?k4 ?k5 ?kA ?kF ?kK ?k6 ?k7 ?k8 ?k9 ?kB ?_ ?c2 ?c3 ?c4 ?c5; (case kA => exact rfl); (case kF => exact rfl); (case kK => assumption); (case k1 => k_asm); (case k2 => k_asm); (case k3 => k_asm); (case k4 => k_asm); (case k5 => k_asm); (case k6 => k_is); (case k7 => k_is); (case k8 => ktr_room); (case k9 => first | exact BindsTo.of_eq rfl | exact binds_K (by k_in) rfl (by k_is) rfl rfl rfl); (case c5 => decide); (case kB => exact locs rfl); (case c2 => exact rfl); (case c3 => exact rfl); (case c4 => exact rfl); k_whole; intro g' L' h' FG' F' N' B' X' T'; (try dsimp only); (try k_fold))
  conv => arg 3; arg 1; whnf
  have hl' : g'.IsList l vs.toArray := hl.at fun o e => FG'.keep _ _ e
  refine with_pos (show 0 < s.toks + 1 from Nat.succ_pos _) ?_
  intro k0 hk0
  dsimp only
  k_steps
  rename_i l' h1 l0 h2 D ws h₃ F₃ N₃ hI hC hL l1
  refine iterM_enum (J := fun i m₁ news₁ => (∃ f, m₁ = two (Str.ofString "at") (Str.ofString "number") f _) ∧ ∃ a b c d t0 t1 t2 t3, Cells i a b c d ∧ news₁ = (D, listOf ws.toArray 0) :: (l', listOf #[.int a t0, .int b t1, .int c t2, .int d t3] 0) :: news)
    rfl ⟨_, (N₃ _ (.head _)).1, rfl, 0, rfl⟩ (N₃ _ (.head _)).2.1 F₃ N₃ ⟨⟨_, two_self _ _ _⟩, 27302, 56110, 13383, 87329, _, _, _, _, by unfold Cells; decide, rfl⟩ ?turn ?done
  case turn =>
    rintro i t v m₁ news₁ h₄ tk₄ own hv ⟨⟨f, rfl⟩, a, b, c, d, t0, t1, t2, t3, hc, rfl⟩ hmap hsub F₄ N₄
    have hv2 : ∃ n tn, v = .int n tn := by
      have h1 : ws[i]? = some v := by simpa using hv
      have h2 : i < ws.length := (List.getElem?_eq_some_iff.mp h1).1
      rw [hI.length] at h2
      obtain ⟨tn, h3⟩ := hI.get i _ (List.getElem?_eq_getElem h2)
      rw [h3] at h1
      exact ⟨_, _, (Option.some.inj h1).symm⟩
    obtain ⟨n, tn, rfl⟩ := hv2
    have hr : ((i : Nat) : Int).fmod 4 = 0 ∨ ((i : Nat) : Int).fmod 4 = 1 ∨ ((i : Nat) : Int).fmod 4 = 2 ∨ ((i : Nat) : Int).fmod 4 = 3 := by
      rw [Int.fmod_eq_emod_of_nonneg _ (by decide)]; omega
    have hne : ∀ p ∈ own ++ (D, listOf ws.toArray 0) :: news, p.1 ≠ l' := by
      intro p hp e
      rcases List.mem_append.mp hp with hp | hp
      · rcases hsub p hp with h | h
        · have h3 := l1.1
          rw [← h, e] at h3
          exact Nat.lt_irrefl _ h3
        · have h3 := Heap.lt_size (N₃ _ (.tail _ (.head _))).1
          rw [e] at h
          exact absurd h3 (Nat.not_lt_of_le h)
      · rcases List.mem_cons.mp hp with rfl | hp
        · have h3 := l1.1
          dsimp only at e
          rw [e] at h3
          exact Nat.lt_irrefl _ h3
        · have h3 := l0 p hp
          rw [e] at h3
          exact Nat.lt_irrefl _ h3
    have N₅ : News g' L' h₄ ((l', listOf #[.int a t0, .int b t1, .int c t2, .int d t3] 0) :: (own ++ (D, listOf ws.toArray 0) :: news)) := by
      intro p hp
      refine N₄ p ?_
      simp only [List.mem_cons, List.mem_append] at hp ⊢
      rcases hp with h | h | h | h
      · exact .inr (.inr (.inl h))
      · exact .inl h
      · exact .inr (.inl h)
      · exact .inr (.inr (.inr h))
    clear N₄ N₃ F₃
    k_steps
    rcases hr with hr | hr | hr | hr
    all_goals
      rw [hr]
      k_steps
      refine' ki_set ?F ?N ?a ?b ?e (Upd.head hne) ?_
      case F => assumption
      case N => exact N₅
      case a => decide
      case b => decide
      case e => rfl
      intro h₅ F₅ N₆
      clear F₄ N₅
      k_steps
      refine cells_turn (by assumption) N₆ ?_
      have hz := fmod_9 n
      generalize n.fmod (10 ^ Int.toNat 9) = z at hz ⊢
      unfold Cells at hc ⊢
      simp only [show Int.toNat 0 = 0 from rfl, show Int.toNat 1 = 1 from rfl, show Int.toNat 2 = 2 from rfl, show Int.toNat 3 = 3 from rfl, List.getD_cons_zero, List.getD_cons_succ]
      first
        | exact ⟨cell_add hc.1 hz, cell_mono hc.2.1, cell_mono hc.2.2.1, cell_mono hc.2.2.2⟩
        | exact ⟨cell_mono hc.1, cell_add hc.2.1 hz, cell_mono hc.2.2.1, cell_mono hc.2.2.2⟩
        | exact ⟨cell_mono hc.1, cell_mono hc.2.1, cell_add hc.2.2.1 hz, cell_mono hc.2.2.2⟩
        | exact ⟨cell_mono hc.1, cell_mono hc.2.1, cell_mono hc.2.2.1, cell_add hc.2.2.2 hz⟩
  case done =>
    rintro h₄ tk₄ m₁ news₁ F₄ N₄ hmap ⟨⟨f, rfl⟩, a, b, c, d, t0, t1, t2, t3, hc, rfl⟩
    k_steps
    refine hret _ _ _ _ _ _ _ _ _ _ _ (cells_le hc ?_) (by assumption) l0 (fun p hp => (by assumption : News _ _ _ ((D, listOf ws.toArray 0) :: _)) p (.tail _ hp))
    rw [List.size_toArray, hI.length, hC]
    omega
end Mine
end

section
open PySem PySem.W PyProof.Rows PySem.Calls
set_option maxRecDepth 100000
set_option Elab.async false
set_option linter.unusedVariables false
namespace Mine
/-- a list comprehension with two generators -/
noncomputable abbrev lc2 (elt : Expr) (x1 : Str) (p1 : Pos) (i1 : Expr) (x2 : Str) (p2 : Pos) (i2 : Expr) (scope : Scope) (pos : Pos) : Expr :=
  .ListComp elt [⟨.Name x1 p1, i1, [], 0⟩, ⟨.Name x2 p2, i2, [], 0⟩] scope pos
section
variable {prog : Program} {w : World} {A : Around} {E : Value → Shared → Prop} {R : Result → Shared → Prop} {s : Shared} {elt i1 i2 : Expr} {x1 x2 : Str} {p1 p2 pos : Pos} {scope : Scope} {it acc : Value} {env : Env}
theorem turn_in : compTurn (lc2 elt x1 p1 i1 x2 p2 i2 scope pos) 1 it acc env = (standAt i2.pos >>= fun _ => pyNext it >>= fun r => match r with
      | none => pure (.done .next)
      | some v => letOwnedTupleGo (.Name x2 p2) it v >>= fun _ => assign (.Name x2 p2) env v >>= fun _ =>
        (eval elt env >>= fun x => call (.builtin "list.append") [acc, x] >>= fun _ => pure ()) >>= fun _ =>
          again (.compLoop (lc2 elt x1 p1 i1 x2 p2 i2 scope pos) 1 it acc env)) := by rfl
theorem turn_out : compTurn (lc2 elt x1 p1 i1 x2 p2 i2 scope pos) 0 it acc env = (standAt i1.pos >>= fun _ => pyNext it >>= fun r => match r with
      | none => pure (.done .next)
      | some v => letOwnedTupleGo (.Name x1 p1) it v >>= fun _ => assign (.Name x1 p1) env v >>= fun _ =>
        (eval i2 env >>= fun x => standAt i2.pos >>= fun _ => foldedSetIterable i2 env x >>= fun x => holding [x] (pyIter x) >>= fun it2 =>
          runOwn (.compStart (lc2 elt x1 p1 i1 x2 p2 i2 scope pos) 1 it2 acc env) env >>= fun _ =>
          again (.compLoop (lc2 elt x1 p1 i1 x2 p2 i2 scope pos) 0 it acc env))) := by rfl
theorem loop_in (I : Nat → Shared → Prop)
    (turn : ∀ n s, I n s → wpAny (model prog w) A (pyNext it) (fun r s₁ => match r with
      | none => R (.ok .next) s₁
      | some v => wpAny (model prog w) A (assign (.Name x2 p2) env v) (fun _ s₂ => wpAny (model prog w) A (eval elt env) (fun x s₃ =>
          wpAny (model prog w) A (call (.builtin "list.append") [acc, x]) (fun _ s₄ => ∃ m, m < n ∧ I m s₄) (notedBy (model prog w) A env fun e s' => R (.error e) s') s₃)
          (notedBy (model prog w) A env fun e s' => R (.error e) s') s₂) (notedBy (model prog w) A env fun e s' => R (.error e) s') s₁) (notedBy (model prog w) A env fun e s' => R (.error e) s') s)
    (n : Nat) (h : I n s) : codeAny (model prog w) A (.compLoop (lc2 elt x1 p1 i1 x2 p2 i2 scope pos) 1 it acc env) R s := by
  refine codeAny_loop rfl I (fun n s hI => ?_) n h
  show wpAny _ _ ((compTurn (lc2 elt x1 p1 i1 x2 p2 i2 scope pos) 1 it acc env).onRaise (fun x => do noteFrame x env; theTreesLotGoes x)) _ _ s
  refine wpAny_noted ?_
  rw [turn_in]
  refine wpAny_bind (wpAny_standAt (wpAny_bind (wpAny_mono (turn n s hI) (fun r s₁ h₁ => ?_) fun _ _ h' => h')))
  cases r with
  | none => exact wpAny_pure h₁
  | some v =>
    refine wpAny_bind (wpAny_of_eq (rfl : letOwnedTupleGo (.Name x2 p2) it v = pure ()) ?_)
    exact wpAny_bind (wpAny_mono h₁ (fun _ s₂ h₂ => wpAny_bind (wpAny_bind (wpAny_mono h₂ (fun x s₃ h₃ => wpAny_bind (wpAny_mono h₃
      (fun _ s₄ h₄ => wpAny_pure (wpAny_pure ⟨rfl, h₄⟩)) fun _ _ h' => h')) fun _ _ h' => h'))) fun _ _ h' => h')
theorem start_in {it2 : Value}
    (h0 : codeAny (model prog w) A (.compLoop (lc2 elt x1 p1 i1 x2 p2 i2 scope pos) 1 it2 acc env) R s)
    (h : wpAny (model prog w) A (pyIter it2) (fun it' s' => codeAny (model prog w) A (.compLoop (lc2 elt x1 p1 i1 x2 p2 i2 scope pos) 1 it' acc env) R s') (notedBy (model prog w) A env fun x s' => R (.error x) s') s) :
    codeAny (model prog w) A (.compStart (lc2 elt x1 p1 i1 x2 p2 i2 scope pos) 1 it2 acc env) R s := by
  refine codeAny_of_tree ?_
  show wpAny _ _ ((compStart (lc2 elt x1 p1 i1 x2 p2 i2 scope pos) 1 it2 acc env).onRaise (fun x => do noteFrame x env; standAt theWindowsPlace)) _ _ s
  refine wpAny_notedAt ?_
  unfold compStart
  show wpAny _ _ (ask >>= _) _ _ s
  refine wpAny_bind (wpAny_askSetting (wpAny_ite ?_))
  split
  · first
      | exact wpAny_bind (wpAny_pure (wpAny_pure (And.intro rfl h0)))
      | exact wpAny_pure (And.intro rfl h0)
  · first
      | exact wpAny_bind (wpAny_rule (wpAny_bind (wpAny_standAt (wpAny_bind (wpAny_mono h (fun it' s' h' => wpAny_pure (And.intro rfl h')) fun _ _ x => x)))))
      | (refine wpAny_bind (wpAny_rule ?_); show wpAny _ _ (standAt i2.pos >>= _) _ _ s; exact wpAny_bind (wpAny_standAt (wpAny_bind (wpAny_mono h (fun it' s' h' => wpAny_pure (And.intro rfl h')) fun _ _ x => x))))
theorem loop_out (hs : ∀ x, foldedSetIterable i2 env x = pure x) (I : Nat → Shared → Prop)
    (turn : ∀ n s, I n s → wpAny (model prog w) A (pyNext it) (fun r s₁ => match r with
      | none => R (.ok .next) s₁
      | some v => wpAny (model prog w) A (assign (.Name x1 p1) env v) (fun _ s₂ => wpAny (model prog w) A (eval i2 env) (fun x s₃ =>
          wpAny (model prog w) A (pyIter x) (fun it2 s₄ => codeAny (model prog w) (A.mark none) (.compStart (lc2 elt x1 p1 i1 x2 p2 i2 scope pos) 1 it2 acc env)
            (fun r s' => match r with | .ok f => ∃ m, m < n ∧ I m s' | .error e => cameBackBy (model prog w) A env (notedBy (model prog w) A env fun e s' => R (.error e) s') e s') s₄)
            (notedBy (model prog w) A env fun e s' => R (.error e) s') s₃)
          (notedBy (model prog w) A env fun e s' => R (.error e) s') s₂) (notedBy (model prog w) A env fun e s' => R (.error e) s') s₁) (notedBy (model prog w) A env fun e s' => R (.error e) s') s)
    (n : Nat) (h : I n s) : codeAny (model prog w) A (.compLoop (lc2 elt x1 p1 i1 x2 p2 i2 scope pos) 0 it acc env) R s := by
  refine codeAny_loop rfl I (fun n s hI => ?_) n h
  show wpAny _ _ ((compTurn (lc2 elt x1 p1 i1 x2 p2 i2 scope pos) 0 it acc env).onRaise (fun x => do noteFrame x env; theTreesLotGoes x)) _ _ s
  refine wpAny_noted ?_
  rw [turn_out]
  refine wpAny_bind (wpAny_standAt (wpAny_bind (wpAny_mono (turn n s hI) (fun r s₁ h₁ => ?_) fun _ _ h' => h')))
  cases r with
  | none => exact wpAny_pure h₁
  | some v =>
    refine wpAny_bind (wpAny_of_eq (rfl : letOwnedTupleGo (.Name x1 p1) it v = pure ()) ?_)
    refine wpAny_bind (wpAny_mono h₁ (fun _ s₂ h₂ => ?_) fun _ _ h' => h')
    refine wpAny_bind (wpAny_mono h₂ (fun x s₃ h₃ => ?_) fun _ _ h' => h')
    refine wpAny_bind (wpAny_standAt (wpAny_bind (wpAny_of_eq (hs x) ?_)))
    refine wpAny_bind (wpAny_holding (wpAny_mono h₃ (fun it2 s₄ h₄ => ?_) fun _ _ h' => h'))
    refine wpAny_bind (wpAny_runOwn ?_)
    refine codeAny_mono h₄ fun r s' hr => ?_
    cases r with
    | ok f => exact wpAny_pure ⟨rfl, hr⟩
    | error e => exact hr
theorem inner {C D I2 l2 : Addr} {vs2 ys0 : Array Value} {m : Str → Option Value} {v1 : Value} {G : Nat → Value → Prop} (hh : A.handled = none) (hcC : env.locals = C) (hx2 : env.kindOf x2 = some .local)
    (hpn : (env.scope.kind == .class || (env.scope.kind == .module && env.locals != env.globals)) = false) (hDC : D ≠ C) (hIC : I2 ≠ C) (hID : I2 ≠ D) (hlC : l2 ≠ C) (hlD : l2 ≠ D) (hlI : l2 ≠ I2) (h12 : x1 ≠ x2) (hm : m x1 = some v1)
    (hit : s.heap.IsListIter I2 l2 0) (hl2 : s.heap.IsList l2 vs2) (hn : s.heap.Ns C m) (hD : s.heap.IsList D ys0) (hsz : ys0.size + vs2.size ≤ sizeLine)
    (helt : ∀ j v2 s' m' E', vs2[j]? = some v2 → s'.heap.Ns C m' → m' x1 = some v1 → m' x2 = some v2 → (∀ b o, b ≠ C → b ≠ D → b ≠ I2 → s.heap.get? b = some o → s'.heap.get? b = some o) →
      wpAny (model prog w) A (eval elt env) (fun y s'' => G j y ∧ ∃ tk, s'' = { s' with toks := tk }) E' s')
    (done : ∀ h' tk m' ys, h'.Ns C m' → m' x1 = some v1 → h'.IsList D (ys0 ++ ys) → ys.size = vs2.size → (∀ (j : Nat) y, ys[j]? = some y → G j y) → (∀ b o, b ≠ C → b ≠ D → b ≠ I2 → s.heap.get? b = some o → h'.get? b = some o) → R (.ok .next) { s with heap := h', toks := tk }) :
    codeAny (model prog w) A (.compLoop (lc2 elt x1 p1 i1 x2 p2 i2 scope pos) 1 (.ref I2) (.ref D) env) R s := by
  refine loop_in (fun k s' => ∃ h tk m' ys i, s' = { s with heap := h, toks := tk } ∧ h.IsListIter I2 l2 i ∧ h.IsList l2 vs2 ∧ h.Ns C m' ∧ m' x1 = some v1 ∧ h.IsList D (ys0 ++ ys) ∧ ys.size = i ∧ (∀ (j : Nat) y, ys[j]? = some y → G j y) ∧
    (∀ b o, b ≠ C → b ≠ D → b ≠ I2 → s.heap.get? b = some o → h.get? b = some o) ∧ i ≤ vs2.size ∧ k = vs2.size + 1 - i) ?_ (vs2.size + 1)
    ⟨s.heap, s.toks, m, #[], 0, rfl, hit, hl2, hn, hm, by simpa using hD, rfl, fun j y h => by simp at h, fun _ _ _ _ _ e => e, Nat.zero_le _, rfl⟩
  rintro k s' ⟨h, tk, m', ys, i, rfl, hit', hl', hn', hm', hD', hys, hG, hk, hi, rfl⟩
  by_cases hlt : i < vs2.size
  · refine wpAny_pyNext_list_item hit' hl' (x := vs2[i]) (by simp [hlt]) fun h₁ hit₁ hs₁ => ?_
    refine assign_Name ?_
    have hn₁ : h₁.Ns env.locals m' := by
      rw [hcC]
      exact hn'.at' fun o e => (hs₁.2 C (fun q => hIC q.symm)).trans e
    refine wpAny_storeName_local hx2 hn₁ (fun h₂ hn₂ hs₂ => ?_) hpn
    rw [hcC] at hn₂ hs₂
    have k₂ : ∀ b o, b ≠ C → b ≠ I2 → h.get? b = some o → h₂.get? b = some o := fun b o hb hbI e => (hs₂.2 b hb).trans ((hs₁.2 b hbI).trans e)
    refine wpAny_mono (helt i vs2[i] _ _ _ (by simp [hlt]) hn₂ (by rw [if_neg h12]; exact hm') (by rw [if_pos rfl]) fun b o hb hbD hbI e => k₂ b o hb hbI (hk b o hb hbD hbI e)) ?_ (fun _ _ e => e)
    rintro y s'' ⟨hy, tk₃, rfl⟩
    have hD₂ : h₂.IsList D (ys0 ++ ys) := hD'.at fun o e => k₂ D o hDC (fun q => hID q.symm) e
    refine wpAny_list_append hD₂ (fun h₃ hD₃ hs₃ => ?_) (by rw [Array.size_append]; omega)
    refine ⟨vs2.size + 1 - (i + 1), by omega, h₃, tk₃, (fun z => if z = x2 then some vs2[i] else m' z), ys.push y, i + 1, rfl, ?_, ?_, ?_, ?_, ?_, ?_, ?_, ?_, hlt, rfl⟩
    · exact hit₁.at fun o e => (hs₃.2 I2 hID).trans ((hs₂.2 I2 hIC).trans e)
    · exact hl'.at fun o e => (hs₃.2 l2 hlD).trans (k₂ l2 o hlC hlI e)
    · exact hn₂.at' fun o e => (hs₃.2 C (fun q => hDC q.symm)).trans e
    · dsimp only; rw [if_neg h12]; exact hm'
    · rw [Array.append_push]; exact hD₃
    · rw [Array.size_push, hys]
    · intro j z hz
      rw [Array.getElem?_push] at hz
      split at hz
      · cases hz; rename_i hj; rw [hj, hys]; exact hy
      · exact hG j z hz
    · exact fun b o hb hbD hbI e => (hs₃.2 b hbD).trans (k₂ b o hb hbI (hk b o hb hbD hbI e))
  · have hin : i = vs2.size := by omega
    refine wpAny_pyNext_list_end hh hit' hl' (by rw [hin]; simp) fun h₁ he₁ => ?_
    refine done h₁ tk m' ys (hn'.at' fun o e => he₁ C o (fun q => hIC q.symm) e) hm' (hD'.at fun o e => he₁ D o (fun q => hID q.symm) e) (hys.trans hin) hG fun b o hb hbD hbI e => he₁ b o hbI (hk b o hb hbD hbI e)
/-- the outer loop: the inner generator is a display that makes a new list each turn -/
theorem outer {C D I1 l1 : Addr} {vs1 : Array Value} {n2 : Nat} {P2 : Array Value → Prop} {m : Str → Option Value} {G : Nat → Nat → Value → Prop} (hh : A.handled = none) (hcC : env.locals = C) (hx1 : env.kindOf x1 = some .local) (hx2 : env.kindOf x2 = some .local)
    (hpn : (env.scope.kind == .class || (env.scope.kind == .module && env.locals != env.globals)) = false) (hs2 : ∀ x, foldedSetIterable i2 env x = pure x) (hDC : D ≠ C) (hIC : I1 ≠ C) (hID : I1 ≠ D) (hlC : l1 ≠ C) (hlD : l1 ≠ D) (hlI : l1 ≠ I1) (h12 : x1 ≠ x2)
    (hit : s.heap.IsListIter I1 l1 0) (hl1 : s.heap.IsList l1 vs1) (hn : s.heap.Ns C m) (hD : s.heap.IsList D #[]) (hsz : vs1.size * n2 ≤ sizeLine)
    (hi2 : ∀ s' E' (Q' : Value → Shared → Prop), (∀ l2 h' tk vs2, l2 = s'.heap.objs.size → vs2.size = n2 → P2 vs2 → h'.IsList l2 vs2 → (∀ b o, s'.heap.get? b = some o → h'.get? b = some o) → Q' (.ref l2) { s' with heap := h', toks := tk }) → wpAny (model prog w) A (eval i2 env) Q' E' s')
    (helt : ∀ i j v1 v2 vs2 s' m' E', P2 vs2 → vs1[i]? = some v1 → vs2[j]? = some v2 → s'.heap.Ns C m' → m' x1 = some v1 → m' x2 = some v2 → (∀ b o, b ≠ C → b ≠ D → b ≠ I1 → s.heap.get? b = some o → s'.heap.get? b = some o) →
      wpAny (model prog w) A (eval elt env) (fun y s'' => G i j y ∧ ∃ tk, s'' = { s' with toks := tk }) E' s')
    (done : ∀ h' tk m' (ys : Array Value), h'.Ns C m' → h'.IsList D ys → ys.size = vs1.size * n2 → (∀ (i j : Nat) y, j < n2 → ys[i * n2 + j]? = some y → G i j y) → (∀ b o, b ≠ C → b ≠ D → b ≠ I1 → s.heap.get? b = some o → h'.get? b = some o) → R (.ok .next) { s with heap := h', toks := tk }) :
    codeAny (model prog w) A (.compLoop (lc2 elt x1 p1 i1 x2 p2 i2 scope pos) 0 (.ref I1) (.ref D) env) R s := by
  have hAm : (A.mark none).handled = none := hh
  refine loop_out hs2 (fun k s' => ∃ h tk m' ys i, s' = { s with heap := h, toks := tk } ∧ h.IsListIter I1 l1 i ∧ h.IsList l1 vs1 ∧ h.Ns C m' ∧ h.IsList D ys ∧ ys.size = i * n2 ∧ (∀ (a b : Nat) y, b < n2 → ys[a * n2 + b]? = some y → G a b y) ∧
    (∀ b o, b ≠ C → b ≠ D → b ≠ I1 → s.heap.get? b = some o → h.get? b = some o) ∧ i ≤ vs1.size ∧ k = vs1.size + 1 - i) ?_ (vs1.size + 1)
    ⟨s.heap, s.toks, m, #[], 0, rfl, hit, hl1, hn, hD, by simp, fun a b y _ h => by simp at h, fun _ _ _ _ _ e => e, Nat.zero_le _, rfl⟩
  rintro k s' ⟨h, tk, m', ys, i, rfl, hit', hl', hn', hD', hys, hG, hk, hi, rfl⟩
  by_cases hlt : i < vs1.size
  · refine wpAny_pyNext_list_item hit' hl' (x := vs1[i]) (by simp [hlt]) fun h₁ hit₁ hs₁ => ?_
    refine assign_Name ?_
    have hn₁ : h₁.Ns env.locals m' := by
      rw [hcC]
      exact hn'.at' fun o e => (hs₁.2 C (fun q => hIC q.symm)).trans e
    refine wpAny_storeName_local hx1 hn₁ (fun h₂ hn₂ hs₂ => ?_) hpn
    rw [hcC] at hn₂ hs₂
    have k₂ : ∀ b o, b ≠ C → b ≠ I1 → h.get? b = some o → h₂.get? b = some o := fun b o hb hbI e => (hs₂.2 b hb).trans ((hs₁.2 b hbI).trans e)
    refine hi2 _ _ _ fun l2 h₃ tk₃ vs2 hl2e hz2 hP2 hl2 hk₃ => ?_
    subst hz2
    dsimp only at hl2e hk₃
    have hD₃ : h₃.IsList D ys := hD'.at fun o e => hk₃ D o (k₂ D o hDC (fun q => hID q.symm) e)
    have hn₃ : h₃.Ns C (fun z => if z = x1 then some vs1[i] else m' z) := hn₂.at' fun o e => hk₃ C o e
    have lt2 : ∀ b o, h₂.get? b = some o → b < l2 := fun b o e => by rw [hl2e]; exact Heap.lt_size e
    have lt3 : ∀ b o, h₃.get? b = some o → b < h₃.objs.size := fun b o e => Heap.lt_size e
    obtain ⟨oC, _, _, hoC, _⟩ := id hn₂
    obtain ⟨oD, hoD, _⟩ := id hD'
    have hoD₂ := k₂ D oD hDC (fun q => hID q.symm) hoD
    obtain ⟨oL, hoL, _⟩ := id hl2
    have c2 : l2 ≠ C := fun q => Nat.lt_irrefl _ (by have := lt2 C oC hoC; rw [← q] at this; exact this)
    have d2 : l2 ≠ D := fun q => Nat.lt_irrefl _ (by have := lt2 D oD hoD₂; rw [← q] at this; exact this)
    have c3 : h₃.objs.size ≠ C := fun q => Nat.lt_irrefl _ (by have := lt3 C oC (hk₃ _ _ hoC); rw [q] at this; exact this)
    have d3 : h₃.objs.size ≠ D := fun q => Nat.lt_irrefl _ (by have := lt3 D oD (hk₃ _ _ hoD₂); rw [q] at this; exact this)
    have e3 : l2 ≠ h₃.objs.size := fun q => Nat.lt_irrefl _ (by have := lt3 l2 oL hoL; rw [q] at this; exact this)
    refine wpAny_pyIter_list hl2 ?_
    have push : ∀ b o, h₃.get? b = some o → (h₃.push { cls := .type "list_iterator", data := .fields #[.ref l2, .int 0 0] }).get? b = some o := fun b o e => Heap.get?_push_of_some _ e
    have hit4 : (h₃.push { cls := .type "list_iterator", data := .fields #[.ref l2, .int 0 0] }).IsListIter h₃.objs.size l2 0 := ⟨_, Heap.get?_push_size _ rfl, rfl, rfl⟩
    have hsz2 : ys.size + vs2.size ≤ sizeLine := by
      rw [hys]
      have h1 : i * vs2.size + vs2.size = (i + 1) * vs2.size := by rw [Nat.add_mul, Nat.one_mul]
      have h2 : (i + 1) * vs2.size ≤ vs1.size * vs2.size := Nat.mul_le_mul_right _ hlt
      omega
    have go : ∀ s₅ : Shared, s₅ = { s with heap := h₃.push { cls := .type "list_iterator", data := .fields #[.ref l2, .int 0 0] }, toks := tk₃ } →
        codeAny (model prog w) (A.mark none) (.compLoop (lc2 elt x1 p1 i1 x2 p2 i2 scope pos) 1 (.ref h₃.objs.size) (.ref D) env)
          (fun r s' => match r with | .ok f => ∃ m_1, m_1 < vs1.size + 1 - i ∧ (∃ h tk m' ys i, s' = { s with heap := h, toks := tk } ∧ h.IsListIter I1 l1 i ∧ h.IsList l1 vs1 ∧ h.Ns C m' ∧ h.IsList D ys ∧ ys.size = i * vs2.size ∧ (∀ (a b : Nat) y, b < vs2.size → ys[a * vs2.size + b]? = some y → G a b y) ∧
    (∀ b o, b ≠ C → b ≠ D → b ≠ I1 → s.heap.get? b = some o → h.get? b = some o) ∧ i ≤ vs1.size ∧ m_1 = vs1.size + 1 - i) | .error e => cameBackBy (model prog w) A env (notedBy (model prog w) A env fun e s' => R (.error e) s') e s') s₅ := by
      rintro s₅ rfl
      refine inner (C := C) (D := D) (vs2 := vs2) (ys0 := ys) (v1 := vs1[i]) (G := G i) hAm hcC hx2 hpn hDC c3 d3 c2 d2 e3 h12 (m := fun z => if z = x1 then some vs1[i] else m' z) (by rw [if_pos rfl]) hit4 (hl2.at fun o e => push _ o e) (hn₃.at' fun o e => push _ o e) (hD₃.at fun o e => push _ o e) hsz2 ?_ ?_
      · intro j v2 s₆ m₆ E₆ hv2 hn₆ hm1 hm2 hk₆
        refine helt i j _ v2 vs2 s₆ m₆ E₆ hP2 (by simp [hlt]) hv2 hn₆ hm1 hm2 fun b o hb hbD hbI e => ?_
        have e1 := hk₃ b o (k₂ b o hb hbI (hk b o hb hbD hbI e))
        exact hk₆ b o hb hbD (fun q => Nat.lt_irrefl _ (by have := lt3 b o e1; rw [q] at this; exact this)) (push b o e1)
      · intro h₆ tk₆ m₆ ys₆ hn₆ hm₆ hD₆ hys₆ hG₆ hk₆
        have up : ∀ b o, b ≠ C → b ≠ D → b ≠ I1 → h.get? b = some o → h₆.get? b = some o := fun b o hb hbD hbI e => by
          have e1 := hk₃ b o (k₂ b o hb hbI e)
          exact hk₆ b o hb hbD (fun q => Nat.lt_irrefl _ (by have := lt3 b o e1; rw [q] at this; exact this)) (push b o e1)
        refine ⟨vs1.size + 1 - (i + 1), by omega, h₆, tk₆, m₆, ys ++ ys₆, i + 1, rfl, ?_, ?_, hn₆, hD₆, ?_, ?_, ?_, hlt, rfl⟩
        · refine hit₁.at fun o e => ?_
          have e1 := hk₃ I1 o ((hs₂.2 I1 hIC).trans e)
          exact hk₆ I1 o hIC hID (fun q => Nat.lt_irrefl _ (by have := lt3 I1 o e1; rw [q] at this; exact this)) (push I1 o e1)
        · exact hl'.at fun o e => up l1 o hlC hlD hlI e
        · rw [Array.size_append, hys, hys₆, Nat.add_mul, Nat.one_mul]
        · intro a b y hb hy
          rw [Array.getElem?_append] at hy
          split at hy
          · exact hG a b y hb hy
          · rename_i hge
            have hge' : i * vs2.size ≤ a * vs2.size + b := by rw [← hys]; exact Nat.le_of_not_lt hge
            have hlt6 : a * vs2.size + b - ys.size < ys₆.size := (Array.getElem?_eq_some_iff.mp hy).1
            rw [hys, hys₆] at hlt6
            have ha : a = i := by
              rcases Nat.lt_trichotomy a i with h1 | h1 | h1
              · have : (a + 1) * vs2.size ≤ i * vs2.size := Nat.mul_le_mul_right _ h1
                rw [Nat.add_mul, Nat.one_mul] at this
                omega
              · exact h1
              · have : (i + 1) * vs2.size ≤ a * vs2.size := Nat.mul_le_mul_right _ h1
                rw [Nat.add_mul, Nat.one_mul] at this
                omega
            subst ha
            rw [hys] at hy
            exact hG₆ b y (by rw [show a * vs2.size + b - a * vs2.size = b by omega] at hy; exact hy)
        · exact fun b o hb hbD hbI e => up b o hb hbD hbI (hk b o hb hbD hbI e)
    exact start_in (go _ rfl) (wpAny_pyIter_listiter hit4 (go _ rfl))
  · have hin : i = vs1.size := by omega
    refine wpAny_pyNext_list_end hh hit' hl' (by rw [hin]; simp) fun h₁ he₁ => ?_
    refine done h₁ tk m' ys (hn'.at' fun o e => he₁ C o (fun q => hIC q.symm) e) (hD'.at fun o e => he₁ D o (fun q => hID q.symm) e) (by rw [hys, hin]) hG fun b o hb hbD hbI e => he₁ b o hbI (hk b o hb hbD hbI e)
theorem start_out {it2 : Value} {acc : Value}
    (h0 : codeAny (model prog w) A (.compLoop (lc2 elt x1 p1 i1 x2 p2 i2 scope pos) 0 it2 acc env) R s)
    (h : wpAny (model prog w) A (pyIter it2) (fun it' s' => codeAny (model prog w) A (.compLoop (lc2 elt x1 p1 i1 x2 p2 i2 scope pos) 0 it' acc env) R s') (notedBy (model prog w) A env fun x s' => R (.error x) s') s) :
    codeAny (model prog w) A (.compStart (lc2 elt x1 p1 i1 x2 p2 i2 scope pos) 0 it2 acc env) R s := codeAny_compStart_list h0 h
/-- the whole comprehension over a list -/
theorem eval_lc2 {cl : List (Str × Addr)} {l1 : Addr} {vs1 : Array Value} {n2 : Nat} {P2 : Array Value → Prop} {G : Nat → Nat → Value → Prop} {Q : Value → Shared → Prop} (hh : A.handled = none)
    (hclos : closureFor scope env = pure cl) (hcell : ∀ y ∈ scope.names, y.2 ≠ .cell) (hkind : scope.kind = .function) (hnames : ∀ y ∈ scope.names, y.2 = .local → scope.names.lookup y.1 = some .local)
    (hx1 : scope.names.lookup x1 = some .local) (hx2 : scope.names.lookup x2 = some .local) (h12 : x1 ≠ x2) (hs1 : ∀ x, foldedSetIterable i1 env x = pure x) (hs2 : ∀ C x, foldedSetIterable i2 (compEnvC scope cl C env) x = pure x)
    (h1 : ∀ Q' : Value → Shared → Prop, Q' (.ref l1) s → wpAny (model prog w) A (eval i1 env) Q' E s) (hl1 : s.heap.IsList l1 vs1) (hsz : vs1.size * n2 ≤ sizeLine)
    (hi2 : ∀ C s' E' (Q' : Value → Shared → Prop), (∀ l2 h' tk vs2, l2 = s'.heap.objs.size → vs2.size = n2 → P2 vs2 → h'.IsList l2 vs2 → (∀ b o, s'.heap.get? b = some o → h'.get? b = some o) → Q' (.ref l2) { s' with heap := h', toks := tk }) → wpAny (model prog w) A (eval i2 (compEnvC scope cl C env)) Q' E' s')
    (helt : ∀ C i j v1 v2 vs2 s' m' E', P2 vs2 → vs1[i]? = some v1 → vs2[j]? = some v2 → s'.heap.Ns C m' → m' x1 = some v1 → m' x2 = some v2 → (∀ b o, s.heap.get? b = some o → s'.heap.get? b = some o) →
      wpAny (model prog w) A (eval elt (compEnvC scope cl C env)) (fun y s'' => G i j y ∧ ∃ tk, s'' = { s' with toks := tk }) E' s')
    (done : ∀ D h' tk (ys : Array Value), s.heap.objs.size ≤ D → h'.IsList D ys → ys.size = vs1.size * n2 → (∀ (i j : Nat) y, j < n2 → ys[i * n2 + j]? = some y → G i j y) → (∀ b o, s.heap.get? b = some o → h'.get? b = some o) → Q (.ref D) { s with heap := h', toks := tk }) :
    wpAny (model prog w) A (eval (lc2 elt x1 p1 i1 x2 p2 i2 scope pos) env) Q E s := by
  rw [eval_ListComp]
  refine wpAny_comprehension_free rfl hs1 hclos hkind hnames (h1 _ ?_)
  refine wpAny_pyIter_list hl1 ?_
  refine wpAny_newObj_type (wpAny_newFunctionEnv hcell (by intro y hy; simp at hy) (fun h₁ hns₁ hsb₁ => ?_) hkind)
  dsimp only at hns₁ hsb₁ ⊢
  generalize hH1 : s.heap.push { cls := .type "list_iterator", data := .fields #[.ref l1, .int 0 0] } = H1 at hns₁ hsb₁ ⊢
  generalize hH2 : H1.push { cls := .type "list", dict := none, data := .seq ([] : List Value).toArray } = H2 at hns₁ hsb₁ ⊢
  have z1 : H1.objs.size = s.heap.objs.size + 1 := by rw [← hH1, Heap.size_push]
  have z2 : H2.objs.size = H1.objs.size + 1 := by rw [← hH2, Heap.size_push]
  have k1 : ∀ b o, s.heap.get? b = some o → H1.get? b = some o := fun b o e => by rw [← hH1]; exact Heap.get?_push_of_some _ e
  have k2 : ∀ b o, H1.get? b = some o → H2.get? b = some o := fun b o e => by rw [← hH2]; exact Heap.get?_push_of_some _ e
  have k3 : ∀ b o, H2.get? b = some o → h₁.get? b = some o := fun b o e => hsb₁.extBut b o (Nat.ne_of_lt (Heap.lt_size e)) (Heap.get?_push_of_some _ e)
  have hit1 : H1.IsListIter s.heap.objs.size l1 0 := by rw [← hH1]; exact ⟨_, Heap.get?_push_size _ rfl, rfl, rfl⟩
  have hD2 : H2.IsList H1.objs.size #[] := by rw [← hH2]; exact ⟨_, Heap.get?_push_size _ rfl, rfl, _, rfl⟩
  obtain ⟨ol, hol, _⟩ := id hl1
  have ll : l1 < s.heap.objs.size := Heap.lt_size hol
  have t1 : s.heap.objs.size < H1.objs.size := by rw [z1]; exact Nat.lt_succ_self _
  have t2 : H1.objs.size < H2.objs.size := by rw [z2]; exact Nat.lt_succ_self _
  have t3 := Nat.lt_trans t1 t2
  have loop : ∀ s₃ : Shared, s₃ = { s with heap := h₁, toks := s.toks + ([] : List (Str × Value)).length } →
      codeAny (model prog w) A (.compLoop (lc2 elt x1 p1 i1 x2 p2 i2 scope pos) 0 (.ref s.heap.objs.size) (.ref H1.objs.size) (compEnvC scope cl H2.objs.size env))
        (compPost (model prog w) A E none Q (.ref H1.objs.size) H2.objs.size) s₃ := by
    rintro s₃ rfl
    refine outer (C := H2.objs.size) (D := H1.objs.size) (I1 := s.heap.objs.size) (l1 := l1) (vs1 := vs1) (n2 := n2) (P2 := P2) (G := G) (env := compEnvC scope cl H2.objs.size env) hh rfl (lookup_relabel_local hx1) (lookup_relabel_local hx2) (by simp [compEnvC, relabel, hkind]) (hs2 _)
      (Nat.ne_of_lt t2) (Nat.ne_of_lt t3) (Nat.ne_of_lt t1) (Nat.ne_of_lt (Nat.lt_trans ll t3)) (Nat.ne_of_lt (Nat.lt_trans ll t1)) (Nat.ne_of_lt ll) h12 (hit1.at fun o e => k3 _ _ (k2 _ _ e)) (hl1.at fun o e => k3 _ _ (k2 _ _ (k1 _ _ e))) hns₁ (hD2.at fun o e => k3 _ _ e) hsz (fun s' E' Q' hq => hi2 _ s' E' Q' hq) ?_ ?_
    · intro i j v1 v2 vs2 s' m' E' hP2 hv1 hv2 hn hm1 hm2 hk
      refine helt _ i j v1 v2 vs2 s' m' E' hP2 hv1 hv2 hn hm1 hm2 fun b o e => ?_
      have hb : b < s.heap.objs.size := Heap.lt_size e
      exact hk b o (Nat.ne_of_lt (Nat.lt_trans hb t3)) (Nat.ne_of_lt (Nat.lt_trans hb t1)) (Nat.ne_of_lt hb) (k3 _ _ (k2 _ _ (k1 _ _ e)))
    · intro h' tk m' ys hn hD hys hG hk
      refine ⟨m', hn, fun h'' hs'' => done H1.objs.size h'' _ ys (Nat.le_of_lt t1) (hD.at fun o e => (hs''.2 _ (Nat.ne_of_lt t2)).trans e) hys hG fun b o e => ?_⟩
      have hb : b < s.heap.objs.size := Heap.lt_size e
      exact (hs''.2 b (Nat.ne_of_lt (Nat.lt_trans hb t3))).trans (hk b o (Nat.ne_of_lt (Nat.lt_trans hb t3)) (Nat.ne_of_lt (Nat.lt_trans hb t1)) (Nat.ne_of_lt hb) (k3 _ _ (k2 _ _ (k1 _ _ e))))
  exact start_out (loop _ rfl) (wpAny_pyIter_listiter (hit1.at fun o e => k3 _ _ (k2 _ _ e)) (loop _ rfl))
end
end Mine
end

section
open PySem PySem.W PyProof.Rows PySem.Calls
set_option maxRecDepth 100000
set_option Elab.async false
set_option linter.unusedVariables false
namespace Mine
section
variable {prog : Program} {w : World} {A : Around} {E : Value → Shared → Prop} {s : Shared} {env : Env}
theorem elt_idx {P X Y : Str} {p1 p2 p3 p4 p5 p6 p7 : Pos} {k : Nat} {c l : Addr} {items : Array Value} {m : Str → Option Value} {a b : Int} {t u : Tok} (hk : env.scope.kind = .function) (hP : env.kindOf P = some .cell) (hc : env.cells.lookup P = some c)
    (hcell : s.heap.IsCell c (some (.ref l))) (hl : s.heap.IsList l items) (hn : s.heap.Ns env.locals m) (hX : env.kindOf X = some .local) (hY : env.kindOf Y = some .local) (ha : m X = some (.int a t)) (hb : m Y = some (.int b u)) (h0 : 0 ≤ a) (hb0 : 0 < b) (hb2 : b < 1000) (hsz : items.size = 17)
    (hPd : (P == ("__debug__" : Str)) = false) (hXd : (X == ("__debug__" : Str)) = false) (hYd : (Y == ("__debug__" : Str)) = false) :
    wpAny (model prog w) A (eval (.Subscript (.Name P p1) (.BinOp (.BinOp (.Name X p2) .FloorDiv (.Name Y p3) p4) .Mod (.Constant (.int 17) k p5) p6) p7) env)
      (fun y s'' => items[((a / b) % 17).toNat]? = some y ∧ ∃ tk, s'' = { s with toks := tk }) E s := by
  refine wpAny_Subscript_BinOp_late ?_
  refine wpAny_Name (wpAny_loadName_cell hk hP hc hcell ?_) hPd
  refine wpAny_BinOp (wpAny_BinOp ?_)
  refine wpAny_Name (wpAny_loadName_local hk hX hn ha ?_) hXd
  refine wpAny_Name (wpAny_loadName_local hk hY hn hb ?_) hYd
  refine floordiv_int (by omega) ?_
  refine wpAny_Constant_int ?_
  refine mod_int' (by decide) ?_
  refine ⟨"list", "list.__getitem__", slot_list_getitem.lookup, hl.typeIs, ?_⟩
  have e1 : (a.fdiv b).fmod 17 = (a / b) % 17 := by
    rw [Int.fmod_eq_emod_of_nonneg _ (by decide), Int.fdiv_eq_ediv_of_nonneg _ (by omega)]
  rw [e1]
  generalize a / b = q
  have hq : 0 ≤ q % 17 ∧ q % 17 < 17 := by omega
  have hlt : (q % 17).toNat < items.size := by omega
  refine wpAny_getItem_list (x := items[(q % 17).toNat]) hl hq.1 (by omega) (by simp [hlt]) ?_
  exact ⟨by simp [hlt], _, rfl⟩
end
end Mine
end

section
open PySem PySem.W PyProof.Rows PySem.Calls
set_option maxRecDepth 100000
set_option Elab.async false
set_option linter.unusedVariables false
set_option maxHeartbeats 4000000
namespace Mine
local macro_rules | `(tactic| walk_at "no such key") => `(tactic| skip)
/-- the pieces of the text -/
noncomputable def piecesL : List (List Nat) := [[38], [97, 109, 112, 59], [108, 116, 59], [81, 117, 111, 116, 59], [35, 120], [65, 59], [57, 59], [38, 97, 109, 112, 59], [119808], [77], [112, 59], [173], [8205], [64261], [9], [], [68, 59]]
/-- the signs that a text may hold -/
noncomputable def sgL : List Nat := [38, 97, 109, 112, 59, 108, 116, 81, 117, 111, 35, 120, 65, 57, 119808, 77, 173, 8205, 64261, 9, 68, 115, 100, 113, 60, 34, 32]
theorem pieces_sg : ∀ x ∈ piecesL, x.length ≤ 5 ∧ ∀ c ∈ x, c ∈ sgL := by decide +kernel
theorem join_txt : ∀ zs : List (List Nat), Txt.join (Str.ofString "") (zs.map txt) = txt zs.flatten
  | [] => rfl
  | [z] => by show txt z = txt [z].flatten; simp
  | z :: y :: r => by
    have ih := join_txt (y :: r)
    have e1 : Txt.join (Str.ofString "") (List.map txt (z :: y :: r)) = txt z ++ Str.ofString "" ++ Txt.join (Str.ofString "") (List.map txt (y :: r)) := by
      show Builtin.Str.glued _ _ = _ ++ Builtin.Str.glued _ _
      rw [StrLaws.glued_eq_join, StrLaws.glued_eq_join]; rfl
    rw [e1, ih]
    apply str_eq_of_lists
    rw [Str.cps_append, Str.cps_append]
    show (z.toArray ++ #[] ++ (y :: r).flatten.toArray).toList = (z :: y :: r).flatten.toArray.toList
    rw [List.flatten_cons (l := z), Array.append_empty]
    simp
theorem strs_of {L : List Value} (h : ∀ (i : Nat) (y : Value), L[i]? = some y → ∃ x ∈ piecesL, ∃ t, y = Value.str (txt x) t) : ∃ zs : List (List Nat), zs.length = L.length ∧ (∀ z ∈ zs, z ∈ piecesL) ∧ StrsAre L (zs.map txt) := by
  induction L with
  | nil => exact ⟨[], rfl, (fun _ h => nomatch h), .nil⟩
  | cons v L ih =>
    obtain ⟨zs, h1, h2, h3⟩ := ih fun i y e => h (i + 1) y (by simpa using e)
    obtain ⟨x, hx, t, rfl⟩ := h 0 v rfl
    refine ⟨x :: zs, by simp [h1], fun z hz => ?_, .cons _ _ h3⟩
    rcases List.mem_cons.mp hz with rfl | hz
    · exact hx
    · exact h2 z hz
theorem sum_le : ∀ zs : List (List Nat), (∀ z ∈ zs, z ∈ piecesL) → ((zs.map txt).map (·.length)).sum ≤ 5 * zs.length ∧ zs.flatten.length ≤ 5 * zs.length ∧ ∀ c ∈ zs.flatten, c ∈ sgL
  | [], _ => ⟨Nat.le_refl _, Nat.le_refl _, fun _ h => by simp at h⟩
  | z :: r, h => by
    obtain ⟨h1, h2, h3⟩ := sum_le r fun y hy => h y (.tail _ hy)
    obtain ⟨h4, h5⟩ := pieces_sg z (h z (.head _))
    refine ⟨?_, ?_, fun c hc => ?_⟩
    · simp only [List.map_cons, List.sum_cons, length_txt, List.length_cons]; omega
    · simp only [List.flatten_cons, List.length_append, List.length_cons]; omega
    · rw [List.flatten_cons] at hc
      rcases List.mem_append.mp hc with h | h
      · exact h5 c h
      · exact h3 c h
theorem ints3 {M : Model} {A : Around} {E : Value → Shared → Prop} {s : Shared} {env : Env} {Q : Value → Shared → Prop} {a b c : Int} {k1 k2 k3 : Nat} {p1 p2 p3 pos : Pos}
    (h : ∀ l2 h' tk (vs2 : Array Value), l2 = s.heap.objs.size → vs2.size = 3 → (∃ t u v, vs2 = #[.int a t, .int b u, .int c v]) → h'.IsList l2 vs2 → (∀ b o, s.heap.get? b = some o → h'.get? b = some o) → Q (.ref l2) { s with heap := h', toks := tk }) :
    wpAny M A (eval (.List [.Constant (.int a) k1 p1, .Constant (.int b) k2 p2, .Constant (.int c) k3 p3] pos) env) Q E s := by
  refine wpAny_List (spliced_more (wpAny_Constant_int (spliced_more (wpAny_Constant_int (spliced_more (wpAny_Constant_int (spliced_none ⟨by rw [sizeLine_eq]; simp only [List.length_cons, List.length_nil]; omega, ?_⟩)))))))
  exact h _ _ _ _ rfl rfl ⟨_, _, _, rfl⟩ ⟨_, Heap.get?_push_size _ rfl, rfl, _, rfl⟩ fun b o e => Heap.get?_push_of_some _ e
theorem text_any {w : World} {mean : ExcName → Option Value} {mg mb : Str → Option Value}
    {dp un : Nat} {gd : Option (List Code)} {cn : Str} {cs : Scope} {a : Addr} {ccd : Value} {cl : List (Str × Addr)} {outer : List Env} {A₀ : Around} {base h₀ : Heap} {L : Addr} {m : Str → Option Value} {news : List (Addr × Obj)} {s : Shared} {Q E : Value → Shared → Prop}
    {D : Addr} {c0 c1 c2 c3 : Int} {t0 t1 t2 t3 : Tok}
    (B : Below A₀ base outer h₀) (F : Fr h₀ L s.heap m) (X : (heapK w.params).In h₀) (N : News h₀ L s.heap news) (T : Top vwT (looseW vwT looseT) mean mg mb h₀) (hk : cs.kind = .function)
    (hd : dp + 20 < recursionLimit) (hu : un + 100 < cLine) (hD : (D, listOf #[.int c0 t0, .int c1 t1, .int c2 t2, .int c3 t3] 0) ∈ news) (hc : Cells 24 c0 c1 c2 c3)
    (hret : ∀ l t h' tk', (∀ c ∈ l, c ∈ sgL) → l.length ≤ 60 → Fr h₀ L h' m → News h₀ L h' news → Q (.str (txt l) t) { s with heap := h', toks := tk' }) :
    wpAny (model Challenge.rw_un0048_02.row.prog w) (ktrTop dp un gd cn cs L a ccd cl outer) (call (.ref 265) [.ref D]) Q E s := by
  revert X; k_fill; intro X
  refine wpAny_call ?_
  k_dflt (refine' code_defC ?k1 ?k2 ?k3 ?k4 ?k5 ?kA ?kF ?kK ?k6 ?k7 ?k8 ?k9 ?kB ?kD ?_ ?c2 ?c3 ?c4; (case kA => exact rfl); (case kF => exact rfl); (case kK => assumption); (case k1 => k_asm); (case k2 => k_asm); (case k3 => k_asm); (case k4 => k_asm); (case k5 => k_asm); (case k6 => k_is); (case k7 => k_is); (case k8 => ktr_room); (case k9 => first | exact BindsTo.of_eq rfl | exact binds_K (by k_in) rfl (by k_is) rfl rfl rfl); (case kB => exact rfl); (case kD => decide +kernel); (case c2 => exact rfl); (case c3 => exact rfl); (case c4 => exact rfl); k_whole; intro g' L' h' tk' cells' FG' F' N' Y' B' X' T' l1; (try k_lt l1); k_cells Y'; (try simp only [List.cons_append, List.nil_append] at N'); (try dsimp only); (try k_fold))
  conv => arg 3; arg 1; whnf
  k_steps
  rename_i o l₂ h₂ F₂ N₂ l2
  refine storeX_C (c := L' + 1) (x := Str.ofString "pieces") F₂ N₂ rfl (UpdF.tail ?u1 (UpdF.head ?u2)) (by assumption) ?_
  case u1 => exact fun e => absurd l2.1 (by dsimp only at e; rw [e]; exact Nat.lt_irrefl _)
  case u2 => exact fun p hp e => absurd (l1 p hp) (by rw [e]; exact Nat.not_lt_of_le (Nat.le_succ _))
  intro h₃ o₃ F₃ N₃ d₃
  clear F₂ N₂
  k_steps
  rename_i tk
  have hDm := hD
  have hL1 : h₃.IsList D #[.int c0 t0, .int c1 t1, .int c2 t2, .int c3 t3] := ⟨_, (N₃ _ (.tail _ (.tail _ hD))).1, rfl, 0, rfl⟩
  have hP1 := (N₃ _ (.head _)).1
  have hC1 := (N₃ _ (.tail _ (.head _))).1
  refine eval_lc2 (cl := [(Str.ofString "pieces", L' + 1)]) (l1 := D) (vs1 := #[.int c0 t0, .int c1 t1, .int c2 t2, .int c3 t3]) (n2 := 3) (P2 := fun vs2 => ∃ t u v, vs2 = #[.int 1 t, .int 17 u, .int 289 v]) (G := fun _ _ y => ∃ x ∈ piecesL, ∃ t, y = .str (txt x) t)
    rfl rfl (by decide +kernel) rfl (by decide +kernel) rfl rfl (by decide +kernel) (fun _ => rfl) (fun _ _ => rfl) ?i1 hL1 (by rw [sizeLine_eq]; show 4 * 3 ≤ _; omega) ?i2 ?elt ?done
  case i1 =>
    intro Q' hq
    exact wpAny_Name (wpAny_loadName_local rfl rfl F₃.ns rfl hq) (by decide +kernel)
  case i2 =>
    intro C s' E' Q' hq
    exact ints3 hq
  case elt =>
    intro C i j v1 v2 vs2 s' m' E' hP2 hv1 hv2 hn hm1 hm2 hk
    obtain ⟨tt, uu, vv, rfl⟩ := hP2
    unfold Cells at hc
    have h1 : ∃ a t, v1 = .int a t ∧ 0 ≤ a := by
      rcases i with _ | _ | _ | _ | i <;> simp at hv1 <;> subst hv1
      · exact ⟨_, _, rfl, by omega⟩
      · exact ⟨_, _, rfl, by omega⟩
      · exact ⟨_, _, rfl, by omega⟩
      · exact ⟨_, _, rfl, by omega⟩
    have h2 : ∃ b t, v2 = .int b t ∧ 0 < b ∧ b < 1000 := by
      rcases j with _ | _ | _ | j <;> simp at hv2 <;> subst hv2
      · exact ⟨_, _, rfl, by decide⟩
      · exact ⟨_, _, rfl, by decide⟩
      · exact ⟨_, _, rfl, by decide⟩
    obtain ⟨a1, ta, rfl, ha⟩ := h1
    obtain ⟨b1, tb, rfl, hb0, hb2⟩ := h2
    refine wpAny_mono (elt_idx (c := L' + 1) (l := l₂) rfl rfl rfl ⟨_, hk _ _ hC1, d₃⟩ ⟨_, hk _ _ hP1, rfl, 0, rfl⟩ hn rfl rfl hm1 hm2 ha hb0 hb2 rfl (by decide +kernel) (by decide +kernel) (by decide +kernel)) ?_ fun _ _ e => e
    rintro y s'' ⟨hy, hs⟩
    refine ⟨?_, hs⟩
    have hz : (a1 / b1 % 17).toNat < 17 := by
      generalize a1 / b1 = q
      omega
    generalize (a1 / b1 % 17).toNat = z at hy hz
    have fin : ∀ x ∈ piecesL, ∀ t, y = .str (txt x) t → ∃ x ∈ piecesL, ∃ t, y = .str (txt x) t := fun x hx t e => ⟨x, hx, t, e⟩
    rcases z with _ | _ | _ | _ | _ | _ | _ | _ | _ | _ | _ | _ | _ | _ | _ | _ | _ | z
    · exact fin [38] (by decide) _ (Option.some.inj hy).symm
    · exact fin [97, 109, 112, 59] (by decide) _ (Option.some.inj hy).symm
    · exact fin [108, 116, 59] (by decide) _ (Option.some.inj hy).symm
    · exact fin [81, 117, 111, 116, 59] (by decide) _ (Option.some.inj hy).symm
    · exact fin [35, 120] (by decide) _ (Option.some.inj hy).symm
    · exact fin [65, 59] (by decide) _ (Option.some.inj hy).symm
    · exact fin [57, 59] (by decide) _ (Option.some.inj hy).symm
    · exact fin [38, 97, 109, 112, 59] (by decide) _ (Option.some.inj hy).symm
    · exact fin [119808] (by decide) _ (Option.some.inj hy).symm
    · exact fin [77] (by decide) _ (Option.some.inj hy).symm
    · exact fin [112, 59] (by decide) _ (Option.some.inj hy).symm
    · exact fin [173] (by decide) _ (Option.some.inj hy).symm
    · exact fin [8205] (by decide) _ (Option.some.inj hy).symm
    · exact fin [64261] (by decide) _ (Option.some.inj hy).symm
    · exact fin [9] (by decide) _ (Option.some.inj hy).symm
    · exact fin [] (by decide) _ (Option.some.inj hy).symm
    · exact fin [68, 59] (by decide) _ (Option.some.inj hy).symm
    · omega
  case done =>
    intro D₄ h₄ tk₄ ys hD₄ hL₄ hsz₄ hG₄ hk₄
    have F₄ := F₃.keptAll hk₄
    have N₄ : News g' L' h₄ ((L' + 1, o₃) :: news) := fun p hp => ⟨hk₄ _ _ (N₃ p (.tail _ hp)).1, (N₃ p (.tail _ hp)).2⟩
    obtain ⟨zs, hz1, hz2, hz3⟩ := strs_of (L := ys.toList) (fun i y e => hG₄ (i / 3) (i % 3) y (Nat.mod_lt _ (by decide)) (by rw [Nat.div_add_mod' i 3]; simpa using e))
    have hz4 : zs.length = 12 := by rw [hz1, Array.length_toList, hsz₄]; rfl
    obtain ⟨s1, s2, s3⟩ := sum_le zs hz2
    rw [hz4] at s1 s2
    clear F₃ N₃
    refine spliced_none ?_
    dsimp only
    refine join_listW hL₄ hz3 (by decide) (by rw [List.length_map, hz4]; omega) ?_
    intro t' k
    rw [join_txt]
    k_steps
    exact hret _ _ _ _ s3 s2 (by assumption) (fun p hp => (by assumption : News _ _ _ (_ :: _)) p (.tail _ hp))
end Mine
end

section
open PySem PySem.W PyProof.Rows PySem.Calls
set_option maxRecDepth 100000
set_option Elab.async false
set_option linter.unusedVariables false
set_option maxHeartbeats 4000000
namespace Mine
theorem make_any {w : World} {mean : ExcName → Option Value} {mg mb : Str → Option Value}
    {dp un : Nat} {gd : Option (List Code)} {cn : Str} {cs : Scope} {a : Addr} {ccd : Value} {cl : List (Str × Addr)} {outer : List Env} {A₀ : Around} {base h₀ : Heap} {L : Addr} {m : Str → Option Value} {news : List (Addr × Obj)} {s : Shared} {Q E : Value → Shared → Prop}
    (B : Below A₀ base outer h₀) (F : Fr h₀ L s.heap m) (X : (heapK w.params).In h₀) (N : News h₀ L s.heap news) (T : Top vwT (looseW vwT looseT) mean mg mb h₀) (hk : cs.kind = .function)
    (hd : dp + 20 < recursionLimit) (hu : un + 100 < cLine)
    (hret : ∀ x dx l u k n h' tk', Fr h₀ L h' m → (∀ p ∈ news, p.1 < dx) → dx < x → x < l → News h₀ L h' ((l, listOf #[] n) :: (x, instObj 235 dx) :: (dx, dictOf [⟨PyData.keyHash w.params (Str.ofString "_headers"), .str (Str.ofString "_headers") u, .ref l⟩] k) :: news) → Q (.ref x) { s with heap := h', toks := tk' }) :
    wpAny (model Challenge.rw_un0048_02.row.prog w) (ktrTop dp un gd cn cs L a ccd cl outer) (call (.ref 235) []) Q E s := by
  revert X; k_fill; intro X
  k_dflt (refine' call_cls ?k1 ?k2 ?k3 ?k4 ?k5 ?k6 ?_; (case k1 => k_asm); (case k2 => k_asm); (case k3 => k_asm); (case k4 => k_is); (case k5 => k_is); (case k6 => k_is); k_whole; intro x' d' h' F' N' l1 l2; (try k_lt l1); (try k_lt2 l2); (try k_sweep))
  k_dflt (refine' code_def ?k1 ?k2 ?k3 ?k4 ?k5 ?kA ?kF ?kK ?k6 ?k7 ?k8 ?k9 ?kB ?_ ?c2 ?c3 ?c4 ?c5; (case kA => exact rfl); (case kF => exact rfl); (case kK => assumption); (case k1 => k_asm); (case k2 => k_asm); (case k3 => k_asm); (case k4 => k_asm); (case k5 => k_asm); (case k6 => k_is); (case k7 => k_is); (case k8 => ktr_room); (case k9 => first | exact BindsTo.of_eq rfl | exact binds_K (by k_in) rfl (by k_is) rfl rfl rfl); (case c5 => decide); (case kB => exact locs rfl); (case c2 => exact rfl); (case c3 => exact rfl); (case c4 => exact rfl); k_whole; intro g' L' h' FG' F' N' B' X' T'; (try dsimp only); (try k_fold))
  conv => arg 3; arg 1; whnf
  k_steps
  refine for_any (h₀ := g') ?_ (by intro _; rfl)
  k_steps
  rename News _ _ _ _ => N₅
  rename Fr _ _ _ _ => F₅
  rename x' < _ ∧ _ => ll
  refine iterM_list (vs := #[]) (m₀ := _) (news := _)
      (fun i m₁ news₁ => ∃ l u k n, (∀ p ∈ news, p.1 < d') ∧ d' < x' ∧ x' < l ∧ news₁ = (l, listOf #[] n) :: (x', instObj 235 d') :: (d', dictOf [⟨PyData.keyHash w.params (Str.ofString "_headers"), .str (Str.ofString "_headers") u, .ref l⟩] k) :: news)
      rfl ⟨_, (N₅ _ (.head _)).1, rfl, 0, rfl⟩ (N₅ _ (.head _)).2.1 F₅ N₅ ⟨_, _, _, _, l1, l2, ll.1, rfl⟩ ?turn ?done
  case turn =>
    intro i v m₁ news₁ h tk own hv
    simp at hv
  case done =>
    rintro h₆ tk₆ m₆ news₆ F₆ N₆ _ ⟨l, u, k, n, a1, a2, a3, rfl⟩
    k_steps
    exact hret _ _ _ _ _ _ _ _ (by assumption) a1 a2 a3 (by assumption)
end Mine
end

section
open PySem PySem.W PyProof.Rows PySem.Calls
set_option maxRecDepth 100000
set_option Elab.async false
set_option linter.unusedVariables false
namespace Mine
section
variable {prog : Program} {w : World} {A : Around} {E : Value → Shared → Prop} {s : Shared} {env : Env} {Q : Flow → Shared → Prop} {target iter : Expr} {body : List Stmt} {pos : Pos} {y : Str} {yp : Pos}
/-- what a turn leaves; the ground may have moved -/
noncomputable def TurnG (Bs : Heap → Prop) (L I : Addr) (o : Obj) (J : (Str → Option Value) → List (Addr × Obj) → Prop) (s₂ : Shared) (Q : Flow → Shared → Prop) (f : Flow) (s' : Shared) : Prop :=
  match f with
  | .ret v => Q (.ret v) s'
  | .brk => Q .next s'
  | _ => ∃ g h' tk m' news', s' = { s₂ with heap := h', toks := tk } ∧ Bs g ∧ Fr g L h' m' ∧ News g L h' ((I, o) :: news') ∧ (∀ p ∈ news', p.1 ≠ I) ∧ J m' news'
/-- a loop over a text whose turns may move the ground -/
noncomputable def LoopStrG (prog : Program) (w : World) (A : Around) (env : Env) (y : Str) (yp : Pos) (body : List Stmt) (Q : Flow → Shared → Prop) (E : Value → Shared → Prop) (xv : Value) (s₁ : Shared) : Prop :=
  ∃ (x : Str) (t : Tok) (Bs : Heap → Prop) (g : Heap) (m : Str → Option Value) (news : List (Addr × Obj)) (J : Nat → (Str → Option Value) → List (Addr × Obj) → Prop),
    xv = .str x t ∧ Bs g ∧ Fr g env.locals s₁.heap m ∧ News g env.locals s₁.heap news ∧ J 0 m news ∧
    (∀ i c u g m₁ news₁ h tk o, x.cps[i]? = some c → Bs g → J i m₁ news₁ → (∀ p ∈ news₁, p.1 ≠ s₁.heap.objs.size) → Fr g env.locals h m₁ → News g env.locals h ((s₁.heap.objs.size, o) :: news₁) →
      wpAny (model prog w) A (assign (.Name y yp) env (.str ⟨#[c]⟩ u)) (fun _ s₃ => wpAny (model prog w) A (execs body env) (TurnG Bs env.locals s₁.heap.objs.size o (J (i + 1)) s₁ Q) E s₃) E { s₁ with heap := h, toks := tk }) ∧
    ∀ g h' tk m' news', Bs g → Fr g env.locals h' m' → News g env.locals h' news' → (∀ p ∈ news', p.1 ≠ s₁.heap.objs.size) → J x.cps.size m' news' → Q .next { s₁ with heap := h', toks := tk }
theorem for_strG (hh : A.handled = none) (h : wpAny (model prog w) A (eval iter env) (LoopStrG prog w A env y yp body Q E) E s)
    (hs : ∀ x, foldedSetIterable iter env x = pure x)
    (hE : PassesOwn (model prog w) A env E := by passes_own) :
    wpAny (model prog w) A (exec (.For (.Name y yp) iter body [] pos) env) Q E s := by
  refine wpAny_For (wpAny_mono h (fun xv s₁ h₁ => ?_) fun _ _ e => e) hs
  obtain ⟨x, t, Bs, g, m, news, J, rfl, hB, F, N, h0, step, hR⟩ := h₁
  have key : ∀ (o : Obj) (T : String), (s₁.heap.push o).IsStrIter s₁.heap.objs.size T x t 0 → Walks prog w A s₁.heap.objs.size [s₁.heap.objs.size] [s₁.heap.objs.size] x.cps.size (SignAt x) (fun i h => h.IsStrIter s₁.heap.objs.size T x t i) →
      codeAny (model prog w) A (.forLoop (.Name y yp) (.ref s₁.heap.objs.size) body [] env)
        (fun r s' => match r with | .ok f => Q f s' | .error e => cameBackBy (model prog w) A env E e s') { s₁ with heap := s₁.heap.push o } := by
    intro o T hst W
    refine codeAny_forLoop_any
      (fun k s' => ∃ g h' tk m' news' i, s' = { s₁ with heap := h', toks := tk } ∧ Bs g ∧ h'.IsStrIter s₁.heap.objs.size T x t i ∧ Fr g env.locals h' m' ∧ News g env.locals h' news' ∧ (∀ p ∈ news', p.1 ≠ s₁.heap.objs.size) ∧ J i m' news' ∧ i ≤ x.cps.size ∧ k = x.cps.size + 1 - i) ?_ (x.cps.size + 1)
      ⟨g, s₁.heap.push o, s₁.toks, m, news, 0, rfl, hB, hst, F.push _, (fun p hp => ⟨Heap.get?_push_of_some _ (N p hp).1, (N p hp).2⟩), (fun p hp e => absurd (Heap.lt_size (N p hp).1) (e ▸ Nat.lt_irrefl _)), h0, Nat.zero_le _, rfl⟩
    rintro k s' ⟨g', h', tk, m', news', i, rfl, hB', hst', F', N', hnw', hJ, hi, rfl⟩
    have hLI : env.locals < s₁.heap.objs.size := F.ns.lt
    have kept : ∀ h₁ : Heap, (∀ b o, b ∉ [s₁.heap.objs.size] → h'.get? b = some o → h₁.get? b = some o) → Fr g' env.locals h₁ m' ∧ News g' env.locals h₁ news' := fun h₁ hk₁ =>
      ⟨⟨F'.ns.at' fun o e => hk₁ _ o (fun q => Nat.lt_irrefl _ ((List.mem_singleton.mp q) ▸ hLI)) e,
        fun b o e => hk₁ b o (fun q => by
          have h1 := Heap.lt_size e
          rw [List.mem_singleton.mp q] at h1
          exact Nat.lt_irrefl _ (Nat.lt_trans h1 (Nat.lt_of_le_of_lt F'.above hLI))) (F'.keep b o e), F'.above⟩,
       fun p hp => ⟨hk₁ _ _ (fun q => hnw' p hp (List.mem_singleton.mp q)) (N' p hp).1, (N' p hp).2⟩⟩
    by_cases hlt : i < x.cps.size
    · refine W.item i _ _ _ hlt hst' fun v h₁ tk₁ hP hst₁ hk₁ => ?_
      obtain ⟨F₁, N₁⟩ := kept h₁ hk₁
      obtain ⟨c, u, hc, rfl⟩ := hP
      obtain ⟨ob, hob, hob2⟩ := id hst₁
      have hfree : g'.get? s₁.heap.objs.size = none := by
        cases hq : g'.get? s₁.heap.objs.size with
        | none => rfl
        | some o => exact absurd (Heap.lt_size hq) (Nat.not_lt_of_le (Nat.le_of_lt (Nat.lt_of_le_of_lt F'.above hLI)))
      have Nall : News g' env.locals h₁ ((s₁.heap.objs.size, ob) :: news') := by
        intro p hp
        rcases List.mem_cons.mp hp with rfl | hp
        · exact ⟨hob, (fun q => Nat.lt_irrefl _ (by dsimp only at q; rw [q] at hLI; exact hLI)), hfree⟩
        · exact N₁ p hp
      refine wpAny_passesOwn hE (wpAny_pure ?_)
      refine wpAny_passesOwn hE (wpAny_mono (step i c u g' m' news' h₁ tk₁ ob hc hB' hJ hnw' F₁ Nall) (fun _ s₃ h₃ => wpAny_passesOwn hE (wpAny_mono h₃ (fun f s₄ h₄ => ?_) fun _ _ e => e)) fun _ _ e => e)
      have go : (∃ g h' tk m₃ news₃, s₄ = { s₁ with heap := h', toks := tk } ∧ Bs g ∧ Fr g env.locals h' m₃ ∧ News g env.locals h' ((s₁.heap.objs.size, ob) :: news₃) ∧ (∀ p ∈ news₃, p.1 ≠ s₁.heap.objs.size) ∧ J (i + 1) m₃ news₃) →
          ∃ m, m < x.cps.size + 1 - i ∧ (∃ g h' tk m' news' i, s₄ = { s₁ with heap := h', toks := tk } ∧ Bs g ∧ h'.IsStrIter s₁.heap.objs.size T x t i ∧ Fr g env.locals h' m' ∧ News g env.locals h' news' ∧ (∀ p ∈ news', p.1 ≠ s₁.heap.objs.size) ∧ J i m' news' ∧ i ≤ x.cps.size ∧ m = x.cps.size + 1 - i) := by
        rintro ⟨g₃, h₃', tk₃, m₂, news₂, rfl, hB₃, F₃, N₃, ha₃, hJ₃⟩
        exact ⟨x.cps.size + 1 - (i + 1), by omega, g₃, h₃', tk₃, m₂, news₂, i + 1, rfl, hB₃, ⟨ob, (N₃ _ (.head _)).1, hob2⟩, F₃, fun p hp => N₃ p (.tail _ hp), ha₃, hJ₃, hlt, rfl⟩
      cases f with
      | next => exact go h₄
      | cont => exact go h₄
      | brk => exact h₄
      | ret v => exact h₄
    · have hin : i = x.cps.size := by omega
      subst hin
      refine W.done _ _ _ hst' fun h₁ tk₁ hk₁ => wpAny_execs_nil ?_
      obtain ⟨F₁, N₁⟩ := kept h₁ hk₁
      exact hR g' h₁ tk₁ m' news' hB' F₁ N₁ hnw' hJ
  cases ha : x.cps.all (· < 128)
  · exact wpAny_pyIter_wide ha (key _ _ ⟨_, Heap.get?_push_size _ rfl, rfl, rfl⟩ (Walks.strWide hh _ x t))
  · exact wpAny_pyIter_ascii ha (key _ _ ⟨_, Heap.get?_push_size _ rfl, rfl, rfl⟩ (Walks.strAscii hh _ x t))
end
end Mine
end

section
open PySem PySem.W PyProof.Rows PySem.Calls
set_option maxRecDepth 100000
set_option Elab.async false
set_option linter.unusedVariables false
set_option maxHeartbeats 4000000
namespace Mine
noncomputable def six : List Nat := [38, 60, 34, 9, 10, 13]
/-- the six signs, round from one of them -/
noncomputable def sgs (r : Nat) : List Nat := six.drop r ++ six.take r
noncomputable def escOf (c : Nat) : Str := txt ([c].flatMap escSign)
noncomputable def rowOf (c : Nat) : Str × Str := (escOf c, if c = 10 ∨ c = 13 then Str.ofString " " else ⟨#[c]⟩)
theorem sgs_ok : ∀ r, r < 6 → (∀ c ∈ sgs r, c ∈ six) ∧ (sgs r).length = 6 := by decide +kernel
theorem sgs_nodup : ∀ r, r < 6 → (sgs r).Nodup := by decide +kernel
theorem esc_ok : ∀ c ∈ six, (escOf c).length ≤ 1000 ∧ anyBad badN (Txt.lower (escOf c)).cps = false ∧ anyBad badN (escOf c).cps = false ∧ (anyBad badV (⟨#[c]⟩ : Str).cps = decide (c = 10 ∨ c = 13)) := by decide +kernel
theorem esc_ne : ∀ c ∈ six, ∀ d ∈ six, d ≠ c → (Txt.lower (escOf d) == Txt.lower (escOf c)) = false := by decide +kernel
theorem slices_eq {first : Int} (h0 : 0 ≤ first) (h6 : first < 6) : Txt.slice (Str.ofString "&<\"\t\n\x0d") (some first) none ++ Txt.slice (Str.ofString "&<\"\t\n\x0d") none (some first) = txt (sgs first.toNat) := by
  have hf : first = 0 ∨ first = 1 ∨ first = 2 ∨ first = 3 ∨ first = 4 ∨ first = 5 := by omega
  rcases hf with rfl | rfl | rfl | rfl | rfl | rfl <;> decide +kernel
theorem no_row {its : List (Addr × Str × Str)} {r i c : Nat} (hr : r < 6) (hi : its.map (·.2) = ((sgs r).take i).map rowOf) (hc : (sgs r)[i]? = some c) : its.find? (fun it => Txt.lower it.2.1 == Txt.lower (escOf c)) = none := by
  rw [List.find?_eq_none]
  intro it hit
  have h1 : it.2 ∈ ((sgs r).take i).map rowOf := by rw [← hi]; exact List.mem_map_of_mem hit
  obtain ⟨d, hd, e⟩ := List.mem_map.mp h1
  have h2 : d ∈ six := (sgs_ok r hr).1 d (List.mem_of_mem_take hd)
  have h3 : c ∈ six := (sgs_ok r hr).1 c (List.mem_of_getElem? hc)
  have h4 : d ≠ c := by
    rintro rfl
    have h5 := sgs_nodup r hr
    obtain ⟨j, hj, e2⟩ := List.mem_iff_getElem.mp hd
    rw [List.length_take] at hj
    rw [List.getElem_take] at e2
    obtain ⟨h6, e3⟩ := List.getElem?_eq_some_iff.mp hc
    have := (List.getElem_inj h5).mp (e2.trans e3.symm)
    omega
  have e2 : it.2.1 = escOf d := by rw [← e]; rfl
  rw [e2, esc_ne c h3 d h2 h4]
  decide
theorem rows_push {its : List (Addr × Str × Str)} {r i c : Nat} {D : Addr} (hi : its.map (·.2) = ((sgs r).take i).map rowOf) (hc : (sgs r)[i]? = some c) :
    (its ++ [(D, rowOf c)]).map (·.2) = ((sgs r).take (i + 1)).map rowOf := by
  rw [List.take_add_one, hc, List.map_append, List.map_append, hi]
  rfl
noncomputable abbrev tupObj (x y : Str) (t u : Tok) : Obj := { cls := .type "tuple", data := .seq #[.str x t, .str y u] }
/-- what the ledger holds of a table in the making -/
structure TabJ (news : List (Addr × Obj)) (w : World) (x dx l : Addr) (rows : List (Str × Str)) (news₁ : List (Addr × Obj)) : Prop where
  ex : ∃ (its : List (Addr × Str × Str)) (n : Nat) (u : Tok) (k : Nat) (tups : List (Addr × Obj)), its.map (·.2) = rows ∧ (∀ it ∈ its, ∃ tk tv, (it.1, tupObj it.2.1 it.2.2 tk tv) ∈ tups) ∧ (∀ p ∈ tups, l < p.1) ∧
    news₁ = (l, listOf (its.map fun it => Value.ref it.1).toArray n) :: (tups ++ (x, instObj 235 dx) :: (dx, dictOf [⟨PyData.keyHash w.params (Str.ofString "_headers"), .str (Str.ofString "_headers") u, .ref l⟩] k) :: news)
theorem turn_led {news : List (Addr × Obj)} {w : World} {x dx l I L : Addr} {oI : Obj} {r i c n : Nat} {u : Tok} {k : Nat} {its : List (Addr × Str × Str)} {tups : List (Addr × Obj)} {g h : Heap} (hr6 : r < 6) (hcs : (sgs r)[i]? = some c)
    (a1 : ∀ p ∈ news, p.1 < dx) (a2 : dx < x) (a3 : x < l) (hrows : its.map (·.2) = ((sgs r).take i).map rowOf) (htup : ∀ it ∈ its, ∃ tk tv, (it.1, tupObj it.2.1 it.2.2 tk tv) ∈ tups) (htl : ∀ p ∈ tups, l < p.1)
    (hoff : ∀ p ∈ (l, listOf (its.map fun it => Value.ref it.1).toArray n) :: (tups ++ (x, instObj 235 dx) :: (dx, dictOf [⟨PyData.keyHash w.params (Str.ofString "_headers"), .str (Str.ofString "_headers") u, .ref l⟩] k) :: news), p.1 ≠ I)
    (N : News g L h ((I, oI) :: (l, listOf (its.map fun it => Value.ref it.1).toArray n) :: (tups ++ (x, instObj 235 dx) :: (dx, dictOf [⟨PyData.keyHash w.params (Str.ofString "_headers"), .str (Str.ofString "_headers") u, .ref l⟩] k) :: news))) :
    ∃ led rest, News g L h led ∧ (x, instObj 235 dx) ∈ led ∧ (dx, dictOf [⟨PyData.keyHash w.params (Str.ofString "_headers"), .str (Str.ofString "_headers") u, .ref l⟩] k) ∈ led ∧ (l, listOf (its.map fun it => Value.ref it.1).toArray n) ∈ led ∧
      (∀ it ∈ its, ∃ tk tv, (it.1, tupObj it.2.1 it.2.2 tk tv) ∈ led) ∧ (∀ v, Upd l (listOf (its.map fun it => Value.ref it.1).toArray n) (listOf ((its.map fun it => Value.ref it.1).toArray.push v) (n + 1)) led ((l, listOf ((its.map fun it => Value.ref it.1).toArray.push v) (n + 1)) :: rest)) ∧
      (∀ (yy : Str), rowOf c = (escOf c, yy) → ∀ D t1 t2 g' h', (∀ p ∈ led, p.1 < D) →
        News g' L h' ((D, tupObj (escOf c) yy t1 t2) :: (l, listOf ((its.map fun it => Value.ref it.1).toArray.push (.ref D)) (n + 1)) :: rest) →
        ∃ news', News g' L h' ((I, oI) :: news') ∧ (∀ p ∈ news', p.1 ≠ I) ∧ TabJ news w x dx l (((sgs r).take (i + 1)).map rowOf) news') := by
  have hlI : l ≠ I := hoff _ (.head _)
  refine ⟨(l, listOf (its.map fun it => Value.ref it.1).toArray n) :: (I, oI) :: (tups ++ (x, instObj 235 dx) :: (dx, dictOf [⟨PyData.keyHash w.params (Str.ofString "_headers"), .str (Str.ofString "_headers") u, .ref l⟩] k) :: news),
    (I, oI) :: (tups ++ (x, instObj 235 dx) :: (dx, dictOf [⟨PyData.keyHash w.params (Str.ofString "_headers"), .str (Str.ofString "_headers") u, .ref l⟩] k) :: news), ?_, ?_, ?_, .head _, ?_, fun v => Upd.head ?_, ?_⟩
  · intro p hp
    refine N p ?_
    simp only [List.mem_cons] at hp ⊢
    rcases hp with h | h | h
    · exact .inr (.inl h)
    · exact .inl h
    · exact .inr (.inr h)
  · exact .tail _ (.tail _ (List.mem_append_right _ (.head _)))
  · exact .tail _ (.tail _ (List.mem_append_right _ (.tail _ (.head _))))
  · intro it hit
    obtain ⟨tk, tv, h⟩ := htup it hit
    exact ⟨tk, tv, .tail _ (.tail _ (List.mem_append_left _ h))⟩
  · intro p hp e
    rcases List.mem_cons.mp hp with rfl | hp
    · exact hlI e.symm
    · rcases List.mem_append.mp hp with hp | hp
      · exact Nat.lt_irrefl _ (e ▸ htl p hp)
      · rcases List.mem_cons.mp hp with rfl | hp
        · exact Nat.lt_irrefl _ (e ▸ a3)
        · rcases List.mem_cons.mp hp with rfl | hp
          · exact Nat.lt_irrefl _ (e ▸ Nat.lt_trans a2 a3)
          · exact Nat.lt_irrefl _ (e ▸ Nat.lt_trans (a1 p hp) (Nat.lt_trans a2 a3))
  · intro yy hyy D t1 t2 g' h' hD NN
    refine ⟨_, ?_, ?_, ⟨its ++ [(D, rowOf c)], n + 1, u, k, (D, tupObj (escOf c) yy t1 t2) :: tups, rows_push hrows hcs, ?_, ?_, rfl⟩⟩
    · intro p hp
      refine NN p ?_
      simp only [List.mem_cons, List.mem_append, List.map_append, List.map_cons, List.map_nil, List.cons_append] at hp ⊢
      have e1 : ((its.map fun it => Value.ref it.1) ++ [Value.ref D]).toArray = (its.map fun it => Value.ref it.1).toArray.push (.ref D) := by simp
      rw [e1] at hp
      rcases hp with h | h | h | h
      · exact .inr (.inr (.inl h))
      · exact .inr (.inl h)
      · exact .inl h
      · exact .inr (.inr (.inr h))
    · intro p hp e
      rcases List.mem_cons.mp hp with rfl | hp
      · exact hlI e
      · rcases List.mem_cons.mp hp with rfl | hp
        · have h1 := hD _ (.tail _ (.head _))
          dsimp only at h1 e
          rw [e] at h1
          exact Nat.lt_irrefl _ h1
        · exact hoff p (.tail _ hp) e
    · intro it hit
      rcases List.mem_append.mp hit with hit | hit
      · obtain ⟨tk, tv, h⟩ := htup it hit
        exact ⟨tk, tv, .tail _ h⟩
      · rw [List.mem_singleton.mp hit]
        refine ⟨t1, t2, ?_⟩
        dsimp only
        rw [hyy]
        exact .head _
    · intro p hp
      rcases List.mem_cons.mp hp with rfl | hp
      · exact hD _ (.head _)
      · exact htl p hp
local macro_rules | `(tactic| ktr_room) => `(tactic| ((try simp only [depth_mark, depth_under_make, depth_under_kw, depth_in1, depth_deeper, depth_caller] at *); (try dsimp only [ktrTop] at *); omega))
local macro_rules | `(tactic| walk_at "exec For") => `(tactic| (k_here; refine for_strG rfl ?_ (by intro _; rfl)))
theorem table_any {w : World} {mean : ExcName → Option Value} {mg mb : Str → Option Value}
    {dp un : Nat} {gd : Option (List Code)} {cn : Str} {cs : Scope} {a : Addr} {ccd : Value} {A₀ : Around} {base h₀ : Heap} {L : Addr} {m : Str → Option Value} {news : List (Addr × Obj)} {s : Shared} {Q E : Value → Shared → Prop}
    {first : Int} {t : Tok}
    (XB : (heapK w.params).In base) (TB : Top vwT (looseW vwT looseT) mean mg mb base)
    (B : Below A₀ base [] h₀) (F : Fr h₀ L s.heap m) (X : (heapK w.params).In h₀) (N : News h₀ L s.heap news) (T : Top vwT (looseW vwT looseT) mean mg mb h₀) (hk : cs.kind = .function)
    (hd : dp + 40 < recursionLimit) (hu : un + 200 < cLine) (h0 : 0 ≤ first) (h6 : first < 6)
    (hret : ∀ x dx l n u k (its : List (Addr × Str × Str)) news' h' tk', its.map (·.2) = (sgs first.toNat).map rowOf → (x, instObj 235 dx) ∈ news' → (dx, dictOf [⟨PyData.keyHash w.params (Str.ofString "_headers"), .str (Str.ofString "_headers") u, .ref l⟩] k) ∈ news' → (l, listOf (its.map fun it => Value.ref it.1).toArray n) ∈ news' → (∀ it ∈ its, ∃ tk tv, (it.1, tupObj it.2.1 it.2.2 tk tv) ∈ news') → (∀ p ∈ news, p ∈ news') → Fr h₀ L h' m → News h₀ L h' news' → Q (.ref x) { s with heap := h', toks := tk' }) :
    wpAny (model Challenge.rw_un0048_02.row.prog w) (ktrTop dp un gd cn cs L a ccd [] []) (call (.ref 272) [.int first t]) Q E s := by
  revert X; k_fill; intro X
  refine wpAny_call ?_
  k_dflt (refine' code_defS0 ?k1 ?k2 ?k3 ?k4 ?k5 ?kA ?k6 ?k7 ?k8 ?k9 ?kB ?_ ?cK ?c2 ?c3 ?c4 ?c5; (case kA => exact rfl); (case k2 => k_asm); (case k1 => k_asm); (case k3 => k_asm); (case k4 => k_asm); (case k5 => k_asm); (case k6 => k_is); (case k7 => k_is); (case k8 => ktr_room); (case k9 => first | exact BindsTo.of_eq rfl | exact binds_K (by k_in) rfl (by k_is) rfl rfl rfl); (case kB => exact locs rfl); (case cK => assumption); (case c2 => exact rfl); (case c3 => exact rfl); (case c4 => exact rfl); (case c5 => decide); k_whole; intro g' L' h' FG' F' N' B' X' T' D'; (try dsimp only); (try k_fold))
  conv => arg 3; arg 1; whnf
  refine with_pos (show 0 < s.toks + 1 from Nat.succ_pos _) ?_
  intro k0 hk0
  dsimp only
  k_steps
  refine make_any B' F' X' N' T' rfl ?_ ?_ ?_
  · ktr_room
  · ktr_units
  · intro x dx l u k n h' tk' F₁ a1 a2 a3 N₁
    k_steps
    rw [slices_eq h0 h6]
    rename News _ _ _ _ => N₂
    rename Fr _ _ _ _ => F₂
    refine ⟨_, _, (fun g => KtsTurn ([envOf cn cs L a ccd].filterMap (·.frame)) g' g ∧ Below (ktrTop dp un gd cn cs L a ccd [] []) base [envOf cn cs L a ccd] g ∧ (heapK w.params).In g ∧ Top vwT (looseW vwT looseT) mean mg mb g ∧ KtsDicts ([envOf cn cs L a ccd].filterMap (·.frame)) g), g', _, _,
      (fun i m₁ news₁ => (∃ f, m₁ = two (Str.ofString "sign") (Str.ofString "name") f _) ∧ TabJ news w x dx l (((sgs first.toNat).take i).map rowOf) news₁),
      rfl, ⟨KtsTurn.refl, B', X', T', D'⟩, F₂, N₂, ⟨⟨_, two_self _ _ _⟩, ⟨[], _, u, _, [], rfl, fun _ h => (nomatch h), fun _ h => (nomatch h), rfl⟩⟩, ?turn, ?done⟩
    case turn =>
      rintro i c u₁ g₁ m₁ news₁ h₂ tk₂ oI hc ⟨K₁, B₁, X₁, T₁, D₁⟩ ⟨⟨f, rfl⟩, ⟨its, n₁, u₂, k₂, tups, hrows, htup, htl, rfl⟩⟩ hoff F₃ N₃
      have hcs : (sgs first.toNat)[i]? = some c := by simpa [txt] using hc
      have hr6 : first.toNat < 6 := by omega
      have hc6 : c ∈ six := (sgs_ok _ hr6).1 c (List.mem_of_getElem? hcs)
      obtain ⟨e1, e2, e3, e4⟩ := esc_ok c hc6
      have hlen : ∀ it ∈ its, it.2.1.length ≤ 1000 := by
        intro it hit
        have h1 : it.2 ∈ ((sgs first.toNat).take i).map rowOf := by rw [← hrows]; exact List.mem_map_of_mem hit
        obtain ⟨d, hd, e⟩ := List.mem_map.mp h1
        rw [← e]
        exact (esc_ok d ((sgs_ok _ hr6).1 d (List.mem_of_mem_take hd))).1
      have hcnt : its.length ≤ 1000 := by
        have h1 := congrArg List.length hrows
        rw [List.length_map, List.length_map, List.length_take, (sgs_ok _ hr6).2] at h1
        omega
      obtain ⟨led, rest, N₅, M1, M2, M3, hp, hU, fin⟩ := turn_led hr6 hcs a1 a2 a3 hrows htup htl hoff N₃
      generalize hIe : Shared.heap _ = z at fin
      clear N₃ N₂ F₂ htup htl hoff B' X' T' D' FG'
      k_steps
      refine esc_txt (l := [c]) B₁ (by assumption) X₁ (by assumption) T₁ rfl ?_ ?_ ?_ ?_
      · ktr_room
      · ktr_units
      · show 1 ≤ 100000; omega
      · intro t₁ h₄ tk₄ F₄ N₄
        k_steps
        refine setdefault_tab (x := escOf c) (y := ⟨#[c]⟩) (its := its) B₁ (by assumption) X₁ (by assumption) T₁ rfl ?_ ?_ e1 (by show 1 ≤ 1000; omega) M1 M2 M3 hlen hp hcnt hU e2 e3 (no_row hr6 hrows hcs) ?good ?bad
        · ktr_room
        · ktr_units
        case good =>
          intro hv D t1 t2 r h₅ tk₅ F₅ hD N₅
          k_steps
          have hrow : rowOf c = (escOf c, ⟨#[c]⟩) := by
            rw [e4] at hv
            unfold rowOf
            rw [if_neg (of_decide_eq_false hv)]
          obtain ⟨news', NN, hoff', hJ⟩ := fin _ hrow D t1 t2 g₁ _ hD (by assumption)
          exact ⟨g₁, _, _, _, news', rfl, ⟨K₁, B₁, X₁, T₁, D₁⟩, (by assumption), NN, hoff', ⟨_, two_set _ _ _ _ _ _ (by decide)⟩, hJ⟩
        case bad =>
          intro hv e t vs g₂ h' tk' F₂ R' U'
          have hrow : rowOf c = (escOf c, Str.ofString " ") := by
            rw [e4] at hv
            unfold rowOf
            rw [if_pos (of_decide_eq_true hv)]
          k_steps
          rename RaisedC _ _ _ _ _ _ _ _ _ => R₁
          refine caught_C0 (T' := "ValueError") R₁ (by assumption) B₁ (by assumption) XB TB D₁ K₁ ?ex PyProof.Rows.Boot.«ValueError» ?hn PySem.F.isExc_ValueError PySem.F.notTuple_ValueError ?hs ?_
          case ex => k_is
          case hn => decide
          case hs => kts_sub
          intro h₆ g₃ oe ws K₃ F₃ hoe hw2 N₃ hne B₃ X₃ T₃ D₃
          clear B₁ X₁ T₁ D₁ K₁ R₁
          have M1' := List.mem_cons_of_mem (e, oe) M1
          have M2' := List.mem_cons_of_mem (e, oe) M2
          have M3' := List.mem_cons_of_mem (e, oe) M3
          k_steps
          refine setdefault_tabH (x := escOf c) (y := Str.ofString " ") (its := its) B₃ (by assumption) X₃ (by assumption) T₃ rfl (.head _) hoe hw2 ?_ ?_ e1 (by decide) M1' M2' M3' hlen (fun it hit => let ⟨a, b, h⟩ := hp it hit; ⟨a, b, .tail _ h⟩) hcnt (fun v => Upd.tail (hne _ M3).symm (hU v)) e2 e3 (by decide +kernel) (no_row hr6 hrows hcs) ?_
          · ktr_room
          · ktr_units
          intro D t1 t2 r h₅ tk₅ F₅ hD N₅
          k_steps
          rename News _ _ _ _ => N₆
          obtain ⟨news', NN, hoff', hJ⟩ := fin _ hrow D t1 t2 g₃ _ (fun p hp => hD p (.tail _ hp)) (fun p hp => by
            refine N₆ p ?_
            rcases List.mem_cons.mp hp with h | h
            · rw [h]; exact .head _
            · exact .tail _ (.tail _ h))
          exact ⟨g₃, _, _, _, news', rfl, ⟨K₃, B₃, X₃, T₃, D₃⟩, (by assumption), NN, hoff', ⟨_, two_set _ _ _ _ _ _ (by decide)⟩, hJ⟩
    case done =>
      rintro g₁ h₂ tk₂ m₁ news₁ ⟨K₁, B₁, X₁, T₁, D₁⟩ F₃ N₃ hoff ⟨⟨f, rfl⟩, ⟨its, n₁, u₂, k₂, tups, hrows, htup, htl, rfl⟩⟩
      clear F₂ N₂
      have hsz : (sgs first.toNat).take (txt (sgs first.toNat)).cps.size = sgs first.toNat := by
        show (sgs first.toNat).take (sgs first.toNat).length = _
        exact List.take_length
      rw [hsz] at hrows
      k_steps
      refine hret _ _ _ _ _ _ its _ _ _ hrows (.tail _ (List.mem_append_right _ (.head _))) (.tail _ (List.mem_append_right _ (.tail _ (.head _)))) (.head _) ?_ ?_ (by assumption) (by assumption)
      · intro it hit
        obtain ⟨tk, tv, h⟩ := htup it hit
        exact ⟨tk, tv, .tail _ (List.mem_append_left _ h)⟩
      · intro p hp
        exact .tail _ (List.mem_append_right _ (.tail _ (.tail _ hp)))
end Mine
end

section
open PySem PySem.W PyProof.Rows PySem.Calls
set_option maxRecDepth 100000
set_option Elab.async false
set_option linter.unusedVariables false
namespace Mine
noncomputable def low (c : Nat) : Nat := if 65 ≤ c ∧ c ≤ 90 then c + 32 else c
theorem lowerOf_sg : ∀ c ∈ sgL, Unicode.lowerOf c = [low c] ∧ (c == 0x3A3) = false := by decide +kernel
theorem lower_txt {nm : List Nat} (h : ∀ c ∈ nm, c ∈ sgL) : Txt.lower (txt nm) = txt (nm.map low) := by
  apply str_eq_of_lists
  show (placed (txt nm) fun i _ => Unicode.lowerAt (txt nm).cps i).toList = nm.map low
  unfold placed
  have e1 : ((txt nm).cps.mapIdx fun i c => (Unicode.lowerAt (txt nm).cps i).toArray) = (nm.map fun c => #[low c]).toArray := by
    apply Array.ext
    · simp [txt]
    · intro i h1 h2
      simp only [Array.size_mapIdx] at h1
      have h3 : i < nm.length := h1
      have e0 : (txt nm).cps[i]? = some nm[i] := by simp [txt, h3]
      simp only [Array.getElem_mapIdx, List.getElem_toArray, List.getElem_map]
      unfold Unicode.lowerAt
      rw [e0]
      dsimp only
      obtain ⟨e2, e3⟩ := lowerOf_sg nm[i] (h _ (List.getElem_mem h3))
      rw [e3, Bool.false_and, if_neg (by simp), e2]
  rw [e1]
  clear e1 h
  induction nm with
  | nil => rfl
  | cons a r ih =>
    simp only [List.map_cons] at ih ⊢
    simp [Array.flatten_toArray] at ih ⊢
    exact ih
noncomputable def b1s (c : Nat) : Bool := c == 173 || c == 8205
theorem b1_sg : ∀ c ∈ sgL, b1List.contains (c : Int) = b1s c := by decide +kernel
noncomputable def fold3 (c : Nat) : List Nat := if c = 119808 then [97] else if c = 64261 then [115, 116] else [low c]
theorem b3_sg : ∀ c ∈ sgL, b3Str c = txt (fold3 c) := by decide +kernel
/-- the six names, in small letters, with what they stand for -/
noncomputable def names6 : List (List Nat × Nat) := [([38, 97, 109, 112, 59], 38), ([38, 108, 116, 59], 60), ([38, 113, 117, 111, 116, 59], 34), ([38, 35, 120, 57, 59], 9), ([38, 35, 120, 97, 59], 32), ([38, 35, 120, 100, 59], 32)]
noncomputable def look (nm : List Nat) : Option Nat := (names6.find? fun p => p.1 == nm.map low).map (·.2)
noncomputable def lowEsc (c : Nat) : List Nat := (escSign c).map low
noncomputable def valOf (c : Nat) : Nat := if c = 10 ∨ c = 13 then 32 else c
theorem row_six : ∀ c ∈ six, Txt.lower (rowOf c).1 = txt (lowEsc c) ∧ (rowOf c).2 = txt [valOf c] := by decide +kernel
theorem names_rot : ∀ r, r < 6 → ∀ m ∈ names6.map (·.1), ((sgs r).map fun c => (lowEsc c, valOf c)).find? (fun p => p.1 == m) = names6.find? fun p => p.1 == m := by decide +kernel
theorem keys_rot : ∀ r, r < 6 → ∀ c ∈ sgs r, lowEsc c ∈ names6.map (·.1) := by decide +kernel
theorem find_rot {r : Nat} (hr : r < 6) (m : List Nat) : ((sgs r).map fun c => (lowEsc c, valOf c)).find? (fun p => p.1 == m) = names6.find? fun p => p.1 == m := by
  by_cases h : m ∈ names6.map (·.1)
  · exact names_rot r hr m h
  · have h1 : names6.find? (fun p => p.1 == m) = none := by
      rw [List.find?_eq_none]
      intro p hp e
      exact h (by rw [← eq_of_beq e]; exact List.mem_map_of_mem hp)
    rw [h1, List.find?_eq_none]
    intro p hp e
    obtain ⟨c, hc, rfl⟩ := List.mem_map.mp hp
    exact h (by rw [← eq_of_beq e]; exact keys_rot r hr c hc)
theorem txt_beq (a b : List Nat) : (txt a == txt b) = (a == b) := by
  by_cases h : a = b
  · subst h; simp
  · have h2 : txt a ≠ txt b := fun e => h (by have := congrArg (fun x : Str => x.cps.toList) e; simpa [txt] using this)
    rw [beq_eq_false_iff_ne.mpr h, beq_eq_false_iff_ne.mpr h2]
theorem told_look {its : List (Addr × Str × Str)} {r : Nat} {nm : List Nat} {v d : Value} (hr : r < 6) (hi : its.map (·.2) = (sgs r).map rowOf) (hn : ∀ c ∈ nm, c ∈ sgL) (h : Told its (txt nm) d v) :
    match look nm with | some c => ∃ tv, v = .str (txt [c]) tv | none => v = d := by
  unfold Told at h
  have e1 : (its.find? fun it => Txt.lower it.2.1 == Txt.lower (txt nm)).map (·.2) = ((sgs r).map rowOf).find? fun p => Txt.lower p.1 == Txt.lower (txt nm) := by
    rw [← hi, List.find?_map]; rfl
  have e2 : ∀ L : List Nat, (∀ c ∈ L, c ∈ six) → ((L.map rowOf).find? fun p => Txt.lower p.1 == Txt.lower (txt nm)).map (·.2) = ((L.map fun c => (lowEsc c, valOf c)).find? fun p => p.1 == nm.map low).map fun p => txt [p.2] := by
    intro L hL
    induction L with
    | nil => rfl
    | cons c L ih =>
      obtain ⟨a1, a2⟩ := row_six c (hL c (.head _))
      simp only [List.map_cons, List.find?_cons]
      rw [a1, lower_txt hn, txt_beq]
      cases (lowEsc c == nm.map low) with
      | true => simp [a2]
      | false =>
        have := ih fun y hy => hL y (.tail _ hy)
        rw [lower_txt hn] at this
        exact this
  have e3 := e2 (sgs r) (sgs_ok r hr).1
  rw [find_rot hr] at e3
  unfold look
  cases hf : its.find? (fun it => Txt.lower it.2.1 == Txt.lower (txt nm)) with
  | none =>
    rw [hf] at h e1
    rw [← e1] at e3
    cases hg : names6.find? (fun p => p.1 == nm.map low) with
    | none => exact h
    | some p => rw [hg] at e3; cases e3
  | some it =>
    rw [hf] at h e1
    rw [← e1] at e3
    obtain ⟨tv, rfl⟩ := h
    cases hg : names6.find? (fun p => p.1 == nm.map low) with
    | none => rw [hg] at e3; cases e3
    | some p =>
      rw [hg] at e3
      have e4 := Option.some.inj e3
      dsimp only at e4
      exact ⟨tv, by rw [e4]⟩
theorem bad_tab {nm : List Nat} (hn : ∀ c ∈ nm, c ∈ sgL) : anyBad badN (Txt.lower (txt nm)).cps = nm.contains 9 := by
  rw [lower_txt hn]
  unfold anyBad
  show (nm.map low).any badN = _
  induction nm with
  | nil => rfl
  | cons c r ih =>
    rw [List.map_cons, List.any_cons, ih fun y hy => hn y (.tail _ hy), List.contains_cons]
    have : ∀ c ∈ sgL, badN (low c) = (9 == c) := by decide +kernel
    rw [this c (hn c (.head _))]
end Mine
end

section
open PySem PySem.W PyProof.Rows PySem.Calls
set_option maxRecDepth 100000
set_option Elab.async false
set_option linter.unusedVariables false
namespace Mine
theorem charAt_txt {l : List Nat} {i : Nat} {c : Nat} (h : l[i]? = some c) : Txt.charAt (txt l) (i : Int) = some c := by
  have h1 : i < l.length := (List.getElem?_eq_some_iff.mp h).1
  have e1 : seqIndex? (i : Int) (txt l).length = some i := by
    have e0 : (txt l).length = l.length := rfl
    unfold seqIndex?
    rw [e0]
    have h2 : ¬ ((i : Int) < 0) := by omega
    simp only [if_neg h2]
    rw [if_pos (by simp; omega)]
    simp
  show (seqIndex? (i : Int) (txt l).length).bind _ = _
  rw [e1]
  show (txt l).cps[i]? = some c
  simpa [txt] using h
theorem item_txt {l : List Nat} {i : Nat} {c : Nat} (h : l[i]? = some c) : Txt.item (txt l) (i : Int) = ⟨#[c]⟩ := by
  show (⟨#[(Txt.charAt (txt l) i).getD 0]⟩ : Str) = ⟨#[c]⟩
  rw [charAt_txt h]; rfl
theorem slice_drop {l : List Nat} {i : Nat} (h : i ≤ l.length) : Txt.slice (txt l) (some (i : Int)) none = txt (l.drop i) := by
  rw [slice_from_eq (b := l.length) (by omega) (by show (i : Int) ≤ (l.length : Int); omega) rfl]
  apply str_eq_of_lists
  show ((l.drop (i : Int).toNat).take _) = l.drop i
  rw [Int.toNat_natCast, List.take_of_length_le]
  rw [List.length_drop]; omega
theorem slice_take {l : List Nat} {i : Nat} (h : i ≤ l.length) : Txt.slice (txt l) none (some (i : Int)) = txt (l.take i) := by
  have := slice_closes_to (x := txt l) (j := (i : Int)) ⟨by omega, by show (i : Int) ≤ (l.length : Int); omega⟩
  rw [beq_iff_eq] at this
  rw [this]
  apply str_eq_of_lists
  show ((l.drop (0 : Int).toNat).take _) = l.take i
  simp
theorem has_one (l : List Nat) (c : Nat) : (Builtin.Str.occurrences (txt l) ⟨#[c]⟩ 0 (txt l).length 1).isEmpty = !decide (c ∈ l) := by
  rw [empty_one]; rfl
theorem add_txt (a b : List Nat) : txt a ++ txt b = txt (a ++ b) := by
  apply str_eq_of_lists
  rw [Str.cps_append, Array.toList_append]; rfl
theorem takeWhile_free {c : Nat} : ∀ (a b : List Nat), c ∉ a → (a ++ c :: b).takeWhile (· != c) = a
  | [], b, _ => by simp
  | d :: a, b, h => by
    have h1 : d ≠ c := fun e => h (e ▸ List.mem_cons_self ..)
    have h2 : c ∉ a := fun m => h (List.mem_cons_of_mem _ m)
    rw [List.cons_append, List.takeWhile_cons, if_pos (by simp [h1]), takeWhile_free a b h2]
theorem takeWhile_all {c : Nat} : ∀ (a : List Nat), c ∉ a → a.takeWhile (· != c) = a
  | [], _ => rfl
  | d :: a, h => by
    have h1 : d ≠ c := fun e => h (e ▸ List.mem_cons_self ..)
    rw [List.takeWhile_cons, if_pos (by simp [h1]), takeWhile_all a fun m => h (List.mem_cons_of_mem _ m)]
theorem join_head {c : Nat} {y : Str} : ∀ {ps : List Str}, ps[0]? = some y → (∀ p ∈ ps, c ∉ p.cps.toList) → y.cps.toList = (Str.join ⟨#[c]⟩ ps).cps.toList.takeWhile (· != c)
  | [], h, _ => by simp at h
  | [p], h, hf => by
    have e : p = y := Option.some.inj h
    subst e
    exact (takeWhile_all _ (hf p (.head _))).symm
  | p :: q :: r, h, hf => by
    have e : p = y := Option.some.inj h
    subst e
    show p.cps.toList = (p ++ ⟨#[c]⟩ ++ Str.join ⟨#[c]⟩ (q :: r)).cps.toList.takeWhile (· != c)
    rw [Str.cps_append, Str.cps_append, Array.toList_append, Array.toList_append, List.append_assoc]
    exact (takeWhile_free _ _ (hf p (.head _))).symm
theorem split_head {l : List Nat} {c : Nat} {y : Str} (h : (Txt.split (txt l) ⟨#[c]⟩)[0]? = some y) : y = txt (l.takeWhile (· != c)) := by
  apply str_eq_of_lists
  rw [join_head h (StrLaws.split_free (txt l) c), StrLaws.join_split]
  rfl
end Mine
end

section
open PySem PySem.W PyProof.Rows PySem.Calls
set_option maxRecDepth 100000
set_option Elab.async false
set_option linter.unusedVariables false
set_option maxHeartbeats 4000000
namespace Mine
/-- the reference that begins at a place -/
noncomputable def nameAt (l : List Nat) (i : Nat) : List Nat := (l.drop i).takeWhile (· != 59) ++ [59]
theorem lt_of_all {d : Addr} {l : List (Addr × Obj)} (h : AllLt d l) : ∀ p ∈ l, p.1 < d := by
  induction l with
  | nil => intro p hp; cases hp
  | cons q r ih =>
    intro p hp
    rcases List.mem_cons.mp hp with e | hp
    · rw [e]; exact h.1
    · exact ih h.2 p hp
theorem news_drop {h₀ h : Heap} {L : Addr} {a b : Addr × Obj} {l : List (Addr × Obj)} (N : News h₀ L h (a :: b :: l)) : News h₀ L h (a :: l) := fun p hp => N p ((List.mem_cons.mp hp).elim (fun e => e ▸ .head _) fun h => .tail _ (.tail _ h))
theorem name_sg {l : List Nat} {i : Nat} (hl : ∀ c ∈ l, c ∈ sgL) : ∀ c ∈ nameAt l i, c ∈ sgL := by
  intro c hc
  rcases List.mem_append.mp hc with h | h
  · exact hl c (List.mem_of_mem_drop ((List.takeWhile_sublist _).subset h))
  · rw [List.mem_singleton.mp h]; decide
/-- what a step does at a place -/
noncomputable def stepS (l : List Nat) (i : Nat) : Nat × List Nat :=
  match l[i]? with
  | none => (0, [])
  | some c => if b1s c then (1, []) else if fold3 c ≠ [c] then (1, fold3 c) else
    if c = 38 ∧ 59 ∈ l.drop i then (if 9 ∈ nameAt l i then (0, []) else match look (nameAt l i) with | some v => ((nameAt l i).length, [v]) | none => (0, [])) else (0, [])
noncomputable abbrev tupIS (g : Nat) (c : List Nat) (t u : Tok) : Obj := { cls := .type "tuple", data := .seq #[.int (g : Int) t, .str (txt c) u] }
theorem step_any {w : World} {mean : ExcName → Option Value} {mg mb : Str → Option Value}
    {dp un : Nat} {gd : Option (List Code)} {cn : Str} {cs : Scope} {a : Addr} {ccd : Value} {outer : List Env} {A₀ : Around} {base h₀ : Heap} {L : Addr} {m : Str → Option Value} {news : List (Addr × Obj)} {s : Shared} {Q E : Value → Shared → Prop}
    {l : List Nat} {i : Nat} {t : Tok} {ti : Tok} {tb ls dx : Addr} {k n r : Nat} {u : Tok} {its : List (Addr × Str × Str)} {kvs : List (Int × Value)}
    (XB : (heapK w.params).In base) (TB : Top vwT (looseW vwT looseT) mean mg mb base)
    (B : Below A₀ base outer h₀) (F : Fr h₀ L s.heap m) (X : (heapK w.params).In h₀) (N : News h₀ L s.heap news) (T : Top vwT (looseW vwT looseT) mean mg mb h₀) (hk : cs.kind = .function) (D₀ : KtsDicts (outer.filterMap (·.frame)) h₀) (T₀ : KtsTurn (outer.filterMap (·.frame)) h₀ h₀)
    (hd : dp + 40 < recursionLimit) (hu : un + 200 < cLine) (hl : ∀ c ∈ l, c ∈ sgL) (hlen : l.length ≤ 500) (hi : i < l.length) (sv : IsSV kvs b3Items) (hB : h₀.DictOf (intKind Challenge.rw_un0048_02.row.prog w) 57 kvs)
    (hr : r < 6) (hits : its.map (·.2) = (sgs r).map rowOf)
    (ht : (tb, instObj 235 dx) ∈ news) (hdx : (dx, dictOf [⟨PyData.keyHash w.params (Str.ofString "_headers"), .str (Str.ofString "_headers") u, .ref ls⟩] k) ∈ news)
    (hls : (ls, listOf (its.map fun it => Value.ref it.1).toArray n) ∈ news)
    (hp : ∀ it ∈ its, ∃ tk tv, (it.1, tupObj it.2.1 it.2.2 tk tv) ∈ news)
    (hret : ∀ D t1 t2 h₁ h' tk', KtsTurn (outer.filterMap (·.frame)) h₀ h₁ → Below A₀ base outer h₁ → (heapK w.params).In h₁ → Top vwT (looseW vwT looseT) mean mg mb h₁ → KtsDicts (outer.filterMap (·.frame)) h₁ → Fr h₁ L h' m → (∀ p ∈ news, p.1 < D) →
      News h₁ L h' ((D, tupIS (stepS l i).1 (stepS l i).2 t1 t2) :: news) → Q (.ref D) { s with heap := h', toks := tk' }) :
    wpAny (model Challenge.rw_un0048_02.row.prog w) (ktrTop dp un gd cn cs L a ccd [] outer) (call (.ref 279) [.ref tb, .str (txt l) t, .int i ti]) Q E s := by
  revert X; k_fill; intro X
  refine wpAny_call ?_
  k_dflt (refine' code_defS ?k1 ?k2 ?k3 ?k4 ?k5 ?XB ?TB ?D ?T0 ?kA ?k6 ?k7 ?k8 ?k9 ?kB ?_ ?cK ?c2 ?c3 ?c4 ?c5; (case kA => exact rfl); (case k2 => k_asm); (case k1 => k_asm); (case XB => assumption); (case TB => assumption); (case D => assumption); (case T0 => first | assumption | exact KtsTurn.refl); (case k3 => k_asm); (case k4 => k_asm); (case k5 => k_asm); (case k6 => k_is); (case k7 => k_is); (case k8 => ktr_room); (case k9 => first | exact BindsTo.of_eq rfl | exact binds_K (by k_in) rfl (by k_is) rfl rfl rfl); (case kB => exact locs rfl); (case cK => assumption); (case c2 => exact rfl); (case c3 => exact rfl); (case c4 => exact rfl); (case c5 => decide); k_whole; intro g' L' h' FG' F' N' B' X' T' D'; (try dsimp only); (try k_fold))
  conv => arg 3; arg 1; whnf
  have hBg := hB.at fun o e => FG'.keep _ _ e
  refine with_pos (show 0 < s.toks + 3 from Nat.succ_pos _) ?_
  intro k0 hk0
  dsimp only
  have hL : (txt l).length = l.length := rfl
  obtain ⟨c, hc⟩ : ∃ c, l[i]? = some c := ⟨_, List.getElem?_eq_getElem hi⟩
  have hcs := hl c (List.mem_of_getElem? hc)
  k_steps
  rename Fr _ _ _ _ => F₁
  simp only [item_txt hc] at F₁ ⊢
  refine in_b1 B' F₁ X' (by assumption) T' rfl ?_ ?_ ?_
  · ktr_room
  · ktr_units
  · intro h₂ tk₂ F₂ N₂
    rw [b1_sg c hcs]
    cases hb : b1s c with
    | true =>
      have hS : stepS l i = (1, []) := by unfold stepS; rw [hc]; dsimp only; rw [if_pos hb]
      rw [hS] at hret
      k_steps
      exact hret _ _ _ h₀ _ _ T₀ B (by assumption) T D₀ (by assumption) (by assumption) (by assumption)
    | false =>
      k_steps
      refine map_b3 B' (by assumption) X' (by assumption) T' rfl ?_ ?_ sv hBg ?_
      · ktr_room
      · ktr_units
      intro t₃ h₃ tk₃ F₃ N₃
      rw [b3_sg c hcs]
      have hne : (txt (fold3 c) != (⟨#[c]⟩ : Str)) = !(fold3 c == [c]) := congrArg (!·) (txt_beq (fold3 c) [c])
      k_steps
      · rename (_ != _) = true => hq
        rw [hne] at hq
        have hS : stepS l i = (1, fold3 c) := by
          unfold stepS; rw [hc]; dsimp only; rw [if_neg (by rw [hb]; decide), if_pos (by intro e; rw [e] at hq; simp at hq)]
        rw [hS] at hret
        exact hret _ _ _ h₀ _ _ T₀ B (by assumption) T D₀ (by assumption) (by assumption) (by assumption)
      · rename (_ != _) = false => hq
        rename (_ == _) = true => hq2
        rename List.isEmpty _ = true => hq3
        rw [hne] at hq
        rw [slice_drop (Nat.le_of_lt hi), show Str.ofString ";" = ⟨#[59]⟩ by decide +kernel, has_one] at hq3
        have hS : stepS l i = (0, []) := by
          unfold stepS; rw [hc]; dsimp only; rw [if_neg (by rw [hb]; decide), if_neg (by intro e; apply e; simpa using hq), if_neg (by intro e; simp [e.2] at hq3)]
        rw [hS] at hret
        exact hret _ _ _ h₀ _ _ T₀ B (by assumption) T D₀ (by assumption) (by assumption) (by assumption)
      · rename (_ != _) = false => hq
        rename (_ == _) = true => hq2
        rename List.isEmpty _ = false => hq3
        rename _[Int.toNat 0]? = some _ => hy
        rename List.map _ _ = Txt.split _ _ => hs
        rw [hne] at hq
        rw [slice_drop (Nat.le_of_lt hi), show Str.ofString ";" = ⟨#[59]⟩ by decide +kernel, has_one] at hq3
        rw [hs, slice_drop (Nat.le_of_lt hi), show Str.ofString ";" = ⟨#[59]⟩ by decide +kernel] at hy
        obtain rfl := split_head hy
        clear hy
        have hyl : (txt ((l.drop i).takeWhile (· != 59))).length ≤ 500 := by
          rw [length_txt]
          refine Nat.le_trans ?_ hlen
          exact Nat.le_trans (List.takeWhile_sublist _).length_le (by rw [List.length_drop]; omega)
        rename News _ _ _ _ => N₅
        replace N₅ := (fun p hp => N₅ p (.tail _ hp) : News g' L' _ news)
        have hnm : txt ((l.drop i).takeWhile (· != 59)) ++ Str.ofString ";" = txt (nameAt l i) := add_txt _ [59]
        have hnsg : ∀ c ∈ nameAt l i, c ∈ sgL := name_sg hl
        have hnl : (nameAt l i).length ≤ 501 := by
          unfold nameAt
          rw [List.length_append]
          rw [length_txt] at hyl
          show _ + 1 ≤ 501
          omega
        have hnl2 : (txt (nameAt l i)).length ≤ 501 := by rw [length_txt]; exact hnl
        have hlen' : ∀ it ∈ its, it.2.1.length ≤ 1000 := by
          intro it hit
          have h1 : it.2 ∈ (sgs r).map rowOf := by rw [← hits]; exact List.mem_map_of_mem hit
          obtain ⟨d, hdm, e⟩ := List.mem_map.mp h1
          rw [← e]
          exact (esc_ok d ((sgs_ok _ hr).1 d hdm)).1
        have hS0 : stepS l i = (if 9 ∈ nameAt l i then (0, []) else match look (nameAt l i) with | some v => ((nameAt l i).length, [v]) | none => (0, [])) := by
          have hc2 : c = 38 := by
            by_cases h : c = 38
            · exact h
            · exact absurd hq2 (by rw [show ((⟨#[c]⟩ : Str) == Str.ofString "&") = ([c] == [38]) from txt_beq [c] [38]]; simp [h])
          unfold stepS; rw [hc]; dsimp only; rw [if_neg (by rw [hb]; decide), if_neg (by intro e; apply e; simpa using hq), if_pos ⟨hc2, by simpa using hq3⟩]
        clear hq2 hq3 hs
        k_steps
        · rename List.isEmpty _ = true => hq4
          rename Fr _ _ _ _ => F₇
          rw [hnm] at hq4 F₇
          rw [hnm]
          rw [show Str.ofString "\t" = ⟨#[9]⟩ by decide +kernel, has_one] at hq4
          have h9 : 9 ∉ nameAt l i := by simpa using hq4
          have hbf : anyBad badN (Txt.lower (txt (nameAt l i))).cps = false := by
            rw [bad_tab hnsg]
            cases hct : (nameAt l i).contains 9 with
            | false => rfl
            | true => exact absurd (List.contains_iff_mem.mp hct) h9
          rw [if_neg h9] at hS0
          refine get_tab (x := txt (nameAt l i)) (its := its) B' F₇ X' (by assumption) T' rfl ?_ ?_ (by rw [length_txt]; omega) ht hdx hls hlen' hp ?ok ?bad
          · ktr_room
          · ktr_units
          case bad =>
            intro hbad
            rw [hbf] at hbad
            cases hbad
          case ok =>
            intro _ v h₆ tk₆ hT F₆ N₆
            have hv := told_look hr hits hnsg hT
            clear hT
            cases hlk : look (nameAt l i) with
            | none =>
              rw [hlk] at hv hS0
              dsimp only at hv hS0
              subst hv
              rw [hS0] at hret
              k_steps
              exact hret _ _ _ h₀ _ _ T₀ B (by assumption) T D₀ (by assumption) (by assumption) (by assumption)
            | some v0 =>
              rw [hlk] at hv hS0
              dsimp only at hv hS0
              obtain ⟨tv, rfl⟩ := hv
              rw [hS0] at hret
              k_steps
              exact hret _ _ _ h₀ _ _ T₀ B (by assumption) T D₀ (by assumption) (by assumption) (by assumption)
        · rename List.isEmpty _ = false => hq4
          rename Fr _ _ _ _ => F₇
          rw [hnm] at hq4 F₇
          rw [hnm]
          rw [show Str.ofString "\t" = ⟨#[9]⟩ by decide +kernel, has_one] at hq4
          have h9 : 9 ∈ nameAt l i := by simpa using hq4
          have hS : stepS l i = (0, []) := by rw [hS0, if_pos h9]
          rw [hS] at hret
          refine get_tab (x := txt (nameAt l i)) (its := its) B' F₇ X' (by assumption) T' rfl ?_ ?_ (by rw [length_txt]; omega) ht hdx hls hlen' hp ?ok ?bad
          · ktr_room
          · ktr_units
          case ok =>
            intro hbad
            rw [bad_tab hnsg] at hbad
            rw [List.contains_iff_mem.mpr h9] at hbad
            cases hbad
          case bad =>
            intro _ e t vs g₂ h' tk' F₂ R' U'
            k_steps
            rename RaisedC _ _ _ _ _ _ _ _ _ => R₁
            refine caught_C0 (T' := "ValueError") R₁ (by assumption) B' (by assumption) XB TB D' KtsTurn.refl ?ex PyProof.Rows.Boot.«ValueError» ?hn PySem.F.isExc_ValueError PySem.F.notTuple_ValueError ?hs ?_
            case ex => k_is
            case hn => decide
            case hs => kts_sub
            intro h₆ g₃ oe ws K₃ F₃ hoe hw2 N₃ hne B₃ X₃ T₃ D₃
            clear R₁
            k_steps
            all_goals first
              | (with_reducible rename List.isEmpty _ = true => hq5
                 rw [show Str.ofString "\t" = ⟨#[9]⟩ by decide +kernel, has_one] at hq5
                 exact absurd h9 (by simpa using hq5))
              | (with_reducible rename KtsTurn _ _ _ => kT
                 with_reducible rename News _ _ _ _ => kN
                 with_reducible rename _ ∧ AllLt _ _ => l1
                 have kN2 := news_drop kN
                 exact hret _ _ _ _ _ _ kT (by assumption) (by assumption) (by assumption) (by assumption) (by assumption) (lt_of_all l1.2) (by assumption))
      · rename (_ != _) = false => hq
        rename (_ == _) = false => hq2
        rw [hne] at hq
        have hS : stepS l i = (0, []) := by
          unfold stepS; rw [hc]; dsimp only; rw [if_neg (by rw [hb]; decide), if_neg (by intro e; apply e; simpa using hq), if_neg (by intro e; rw [e.1] at hq2; revert hq2; decide +kernel)]
        rw [hS] at hret
        exact hret _ _ _ h₀ _ _ T₀ B (by assumption) T D₀ (by assumption) (by assumption) (by assumption)
end Mine
end

section
open PySem PySem.W PyProof.Rows PySem.Calls
set_option maxRecDepth 100000
set_option Elab.async false
set_option linter.unusedVariables false
namespace Mine
/-- the text behind a step -/
noncomputable def app (l : List Nat) (i : Nat) : List Nat := l.take i ++ (stepS l i).2 ++ l.drop (i + (stepS l i).1)
/-- what comes for what -/
inductive StepR : List Nat → List Nat → Prop
  | gone (c : Nat) (h : b1s c = true) : StepR [c] []
  | fold (c : Nat) (h : b1s c = false) (h2 : fold3 c ≠ [c]) : StepR [c] (fold3 c)
  | read (n : List Nat) (v : Nat) (h : 59 ∉ n) (h2 : look (38 :: n ++ [59]) = some v) : StepR (38 :: n ++ [59]) [v]
theorem drop_split {l : List Nat} {i c : Nat} (h : l[i]? = some c) : l = l.take i ++ [c] ++ l.drop (i + 1) ∧ l.drop i = c :: l.drop (i + 1) := by
  obtain ⟨h1, h2⟩ := List.getElem?_eq_some_iff.mp h
  have e : l.drop i = c :: l.drop (i + 1) := by rw [← h2]; exact List.drop_eq_getElem_cons h1
  refine ⟨?_, e⟩
  conv => lhs; rw [← List.take_append_drop i l, e]
  simp
theorem while_split {m : List Nat} (h : 59 ∈ m) : m = m.takeWhile (· != 59) ++ [59] ++ m.drop ((m.takeWhile (· != 59)).length + 1) ∧ 59 ∉ m.takeWhile (· != 59) := by
  induction m with
  | nil => cases h
  | cons d r ih =>
    by_cases hd : d = 59
    · subst hd; simp
    · have h2 : 59 ∈ r := by
        rcases List.mem_cons.mp h with e | e
        · exact absurd e.symm hd
        · exact e
      obtain ⟨i1, i2⟩ := ih h2
      rw [List.takeWhile_cons, if_pos (by simp [hd])]
      refine ⟨?_, ?_⟩
      · simp only [List.cons_append, List.length_cons, List.drop_succ_cons]
        rw [← i1]
      · intro e
        rcases List.mem_cons.mp e with e | e
        · exact hd e.symm
        · exact i2 e
theorem step_cases {l : List Nat} {i : Nat} (h : (stepS l i).1 ≠ 0) : ∃ u x y v, l = u ++ x ++ v ∧ app l i = u ++ y ++ v ∧ StepR x y ∧ (∀ c ∈ x, c ∈ l) := by
  cases hc : l[i]? with
  | none => exact absurd (by unfold stepS; rw [hc]) h
  | some c =>
    obtain ⟨e1, e2⟩ := drop_split hc
    have hS : stepS l i = if b1s c then (1, []) else if fold3 c ≠ [c] then (1, fold3 c) else
        if c = 38 ∧ 59 ∈ l.drop i then (if 9 ∈ nameAt l i then (0, []) else match look (nameAt l i) with | some v => ((nameAt l i).length, [v]) | none => (0, [])) else (0, []) := by
      unfold stepS; rw [hc]; try rfl
    cases hb : b1s c with
    | true =>
      rw [hb, if_pos rfl] at hS
      refine ⟨l.take i, [c], [], l.drop (i + 1), e1, by unfold app; rw [hS], .gone c hb, fun d hd => ?_⟩
      rw [List.mem_singleton.mp hd]; exact List.mem_of_getElem? hc
    | false =>
      rw [hb, if_neg (by decide)] at hS
      by_cases hf : fold3 c ≠ [c]
      · rw [if_pos hf] at hS
        refine ⟨l.take i, [c], fold3 c, l.drop (i + 1), e1, by unfold app; rw [hS], .fold c hb hf, fun d hd => ?_⟩
        rw [List.mem_singleton.mp hd]; exact List.mem_of_getElem? hc
      · rw [if_neg hf] at hS
        by_cases ha : c = 38 ∧ 59 ∈ l.drop i
        · rw [if_pos ha] at hS
          by_cases h9 : 9 ∈ nameAt l i
          · rw [if_pos h9] at hS; rw [hS] at h; exact absurd rfl h
          · rw [if_neg h9] at hS
            cases hl : look (nameAt l i) with
            | none => rw [hl] at hS; rw [hS] at h; exact absurd rfl h
            | some v =>
              rw [hl] at hS
              dsimp only at hS
              obtain ⟨w1, w2⟩ := while_split ha.2
              have hne : (l.drop i).takeWhile (· != 59) = 38 :: (l.drop (i + 1)).takeWhile (· != 59) := by
                rw [e2, List.takeWhile_cons, if_pos (by rw [ha.1]; decide), ha.1]
              have hname : nameAt l i = 38 :: (l.drop (i + 1)).takeWhile (· != 59) ++ [59] := by unfold nameAt; rw [hne]
              have hlen : (nameAt l i).length = ((l.drop i).takeWhile (· != 59)).length + 1 := by unfold nameAt; rw [List.length_append]; rfl
              have hl1 : l = l.take i ++ nameAt l i ++ l.drop (i + (nameAt l i).length) := by
                conv => lhs; rw [← List.take_append_drop i l, w1]
                unfold nameAt
                rw [List.drop_drop, List.length_append, List.append_assoc (l.take i)]
                rfl
              refine ⟨l.take i, nameAt l i, [v], l.drop (i + (nameAt l i).length), hl1, by unfold app; rw [hS], ?_, fun d hd => ?_⟩
              · rw [hname]
                refine .read _ v ?_ (by rw [← hname]; exact hl)
                intro e
                exact w2 (by rw [hne]; exact List.mem_cons_of_mem _ e)
              · rw [hl1]
                exact List.mem_append_left _ (List.mem_append_right _ hd)
        · rw [if_neg ha] at hS; rw [hS] at h; exact absurd rfl h
noncomputable def wg (c : Nat) : Nat := if b1s c = false ∧ fold3 c ≠ [c] then 3 else 1
noncomputable def wgt (l : List Nat) : Nat := (l.map wg).sum
theorem wgt_append (a b : List Nat) : wgt (a ++ b) = wgt a + wgt b := by unfold wgt; rw [List.map_append, List.sum_append]
theorem wg_pos (c : Nat) : 1 ≤ wg c ∧ wg c ≤ 3 := by unfold wg; split <;> omega
theorem wgt_len : ∀ l : List Nat, l.length ≤ wgt l ∧ wgt l ≤ 3 * l.length
  | [] => ⟨Nat.le_refl _, Nat.le_refl _⟩
  | c :: r => by
    have h := wgt_len r
    have h2 := wg_pos c
    have e : wgt (c :: r) = wg c + wgt r := rfl
    rw [e, List.length_cons]
    omega
theorem fold_sg : ∀ c ∈ sgL, b1s c = false → fold3 c ≠ [c] → wgt (fold3 c) < wg c ∧ ∀ d ∈ fold3 c, d ∈ sgL ∧ b1s d = false ∧ fold3 d = [d] ∧ d ≠ 59 := by decide +kernel
theorem val_sg : ∀ p ∈ names6, p.2 ∈ sgL ∧ wg p.2 = 1 ∧ b1s p.2 = false ∧ fold3 p.2 = [p.2] ∧ p.2 ≠ 59 := by decide +kernel
theorem look_val {nm : List Nat} {v : Nat} (h : look nm = some v) : ∃ p ∈ names6, p.2 = v ∧ p.1 = nm.map low := by
  unfold look at h
  cases hf : names6.find? (fun p => p.1 == nm.map low) with
  | none => rw [hf] at h; cases h
  | some p =>
    rw [hf] at h
    have h1 := List.find?_some hf
    exact ⟨p, List.mem_of_find?_eq_some hf, Option.some.inj h, by simpa using h1⟩
theorem stepR_wgt {x y : List Nat} (h : StepR x y) (hx : ∀ c ∈ x, c ∈ sgL) : wgt y < wgt x ∧ ∀ c ∈ y, c ∈ sgL := by
  cases h with
  | gone c h =>
    refine ⟨?_, fun _ h => nomatch h⟩
    have := (wg_pos c).1
    show 0 < wg c + 0
    omega
  | fold c h h2 =>
    obtain ⟨a, b⟩ := fold_sg c (hx c (.head _)) h h2
    exact ⟨by show _ < wg c + 0; omega, fun d hd => (b d hd).1⟩
  | read n v h h2 =>
    obtain ⟨p, hp, rfl, _⟩ := look_val h2
    obtain ⟨a, b, _⟩ := val_sg p hp
    refine ⟨?_, fun d hd => by rw [List.mem_singleton.mp hd]; exact a⟩
    have h3 := (wgt_len (38 :: n ++ [59])).1
    rw [List.length_append, List.length_cons] at h3
    have e : wgt [p.2] = wg p.2 + 0 := rfl
    rw [e, b]
    have : ([59] : List Nat).length = 1 := rfl
    omega
theorem app_wgt {l : List Nat} {i : Nat} (h : (stepS l i).1 ≠ 0) (hl : ∀ c ∈ l, c ∈ sgL) : wgt (app l i) < wgt l ∧ ∀ c ∈ app l i, c ∈ sgL := by
  obtain ⟨u, x, y, v, e1, e2, hR, hx⟩ := step_cases h
  obtain ⟨a, b⟩ := stepR_wgt hR fun c hc => hl c (hx c hc)
  have z := wgt_append
  refine ⟨?_, fun c hc => ?_⟩
  · rw [e2, wgt_append, wgt_append]
    conv => rhs; rw [e1, wgt_append, wgt_append]
    omega
  · rw [e2] at hc
    rcases List.mem_append.mp hc with hc | hc
    · rcases List.mem_append.mp hc with hc | hc
      · exact hl c (by rw [e1]; exact List.mem_append_left _ (List.mem_append_left _ hc))
      · exact b c hc
    · exact hl c (by rw [e1]; exact List.mem_append_right _ hc)
end Mine
end

section
open PySem PySem.W PyProof.Rows PySem.Calls
set_option maxRecDepth 100000
set_option Elab.async false
set_option linter.unusedVariables false
namespace Mine
section
variable {prog : Program} {w : World} {A : Around} {E : Value → Shared → Prop} {s : Shared} {env : Env} {Q : Flow → Shared → Prop} {test : Expr} {body : List Stmt} {pos : Pos}
/-- what a turn of a while loop leaves -/
noncomputable def TurnW (I : Nat → Shared → Prop) (n : Nat) (Q : Flow → Shared → Prop) (f : Flow) (s₃ : Shared) : Prop :=
  match f with
  | .next | .cont => ∃ k, k < n ∧ I k s₃
  | .brk => Q .next s₃
  | .ret v => Q (.ret v) s₃
theorem while_G (I : Nat → Shared → Prop) (n : Nat) (h0 : I n s)
    (turn : ∀ n s, I n s → wpAny (model prog w) A (isTrue test env (eval test env)) (fun b s₂ => if b then wpAny (model prog w) A (execs body env) (TurnW I n Q) E s₂ else Q .next s₂) E s)
    (hE : PassesOwn (model prog w) A env E := by passes_own) :
    wpAny (model prog w) A (exec (.While test body [] pos) env) Q E s := by
  refine wpAny_While (codeAny_whileLoop I (fun n s hI => ?_) n h0)
  refine wpAny_passesOwn hE (wpAny_mono (turn n s hI) (fun b s₂ h₂ => ?_) fun _ _ e => e)
  cases b with
  | true =>
    refine wpAny_passesOwn hE (wpAny_mono h₂ (fun f s₃ h₃ => ?_) fun _ _ e => e)
    cases f <;> exact h₃
  | false => exact wpAny_execs_nil h₂
end
end Mine
end

section
open PySem PySem.W PyProof.Rows PySem.Calls
set_option maxRecDepth 100000
set_option Elab.async false
set_option linter.unusedVariables false
set_option maxHeartbeats 4000000
namespace Mine
/-- any number of steps -/
inductive Steps : List Nat → List Nat → Prop
  | refl (a : List Nat) : Steps a a
  | tail {a b : List Nat} (i : Nat) (h : Steps a b) (hi : i < b.length) (h2 : (stepS b i).1 ≠ 0) : Steps a (app b i)
/-- the names of _law_end -/
noncomputable abbrev mEnd (x : Str) (t1 : Tok) (turn : Nat) (t2 : Tok) (tried : Nat) (t3 : Tok) (f M : Str → Option Value) : Str → Option Value := fun y =>
  if y = Str.ofString "text" then some (.str x t1) else if y = Str.ofString "turn" then some (.int (turn : Int) t2) else if y = Str.ofString "tried" then some (.int (tried : Int) t3) else
  if y = Str.ofString "at" then f y else if y = Str.ofString "gone" then f y else if y = Str.ofString "come" then f y else M y
theorem mEnd_of {x : Str} {t1 t2 t3 : Tok} {turn tried : Nat} {G M : Str → Option Value} (h1 : G (Str.ofString "text") = some (.str x t1)) (h2 : G (Str.ofString "turn") = some (.int (turn : Int) t2)) (h3 : G (Str.ofString "tried") = some (.int (tried : Int) t3))
    (h4 : ∀ y, y ≠ Str.ofString "text" → y ≠ Str.ofString "turn" → y ≠ Str.ofString "tried" → y ≠ Str.ofString "at" → y ≠ Str.ofString "gone" → y ≠ Str.ofString "come" → G y = M y) : G = mEnd x t1 turn t2 tried t3 G M := by
  funext y
  show G y = (if y = Str.ofString "text" then some (.str x t1) else if y = Str.ofString "turn" then some (.int (turn : Int) t2) else if y = Str.ofString "tried" then some (.int (tried : Int) t3) else
    if y = Str.ofString "at" then G y else if y = Str.ofString "gone" then G y else if y = Str.ofString "come" then G y else M y)
  by_cases a1 : y = Str.ofString "text"
  · rw [if_pos a1, a1, h1]
  by_cases a2 : y = Str.ofString "turn"
  · rw [if_neg a1, if_pos a2, a2, h2]
  by_cases a3 : y = Str.ofString "tried"
  · rw [if_neg a1, if_neg a2, if_pos a3, a3, h3]
  by_cases a4 : y = Str.ofString "at"
  · rw [if_neg a1, if_neg a2, if_neg a3, if_pos a4]
  by_cases a5 : y = Str.ofString "gone"
  · rw [if_neg a1, if_neg a2, if_neg a3, if_neg a4, if_pos a5]
  by_cases a6 : y = Str.ofString "come"
  · rw [if_neg a1, if_neg a2, if_neg a3, if_neg a4, if_neg a5, if_pos a6]
  rw [if_neg a1, if_neg a2, if_neg a3, if_neg a4, if_neg a5, if_neg a6, h4 y a1 a2 a3 a4 a5 a6]
theorem fr_name {g h : Heap} {L : Addr} {m : Str → Option Value} (F : Fr g L h m) : ∃ M, M = m := ⟨_, rfl⟩
theorem fr_end {x : Str} {t1 t2 t3 : Tok} {turn tried : Nat} {G M : Str → Option Value} {g h : Heap} {L : Addr} (F : Fr g L h G) (h1 : G (Str.ofString "text") = some (.str x t1)) (h2 : G (Str.ofString "turn") = some (.int (turn : Int) t2)) (h3 : G (Str.ofString "tried") = some (.int (tried : Int) t3))
    (h4 : ∀ y, y ≠ Str.ofString "text" → y ≠ Str.ofString "turn" → y ≠ Str.ofString "tried" → y ≠ Str.ofString "at" → y ≠ Str.ofString "gone" → y ≠ Str.ofString "come" → G y = M y) : Fr g L h (mEnd x t1 turn t2 tried t3 G M) := by
  rw [← mEnd_of h1 h2 h3 h4]; exact F
theorem step_len (l : List Nat) (i : Nat) : (stepS l i).2.length ≤ 2 := by
  unfold stepS
  split
  · simp
  · rename_i c _
    split
    · simp
    · split
      · show (fold3 c).length ≤ 2
        unfold fold3
        split
        · decide
        · split
          · decide
          · simp
      · split
        · split
          · simp
          · split
            · simp
            · simp
        · simp
theorem step_le {l : List Nat} {i : Nat} (hi : i < l.length) : i + (stepS l i).1 ≤ l.length := by
  unfold stepS
  split
  · simp; omega
  · split
    · show i + 1 ≤ _; omega
    · split
      · show i + 1 ≤ _; omega
      · split
        · rename_i h
          split
          · simp; omega
          · split
            · show i + (nameAt l i).length ≤ l.length
              obtain ⟨w1, _⟩ := while_split h.2
              have := congrArg List.length w1
              rw [List.length_append, List.length_drop] at this
              unfold nameAt
              omega
            · simp; omega
        · simp; omega
theorem app_txt {l : List Nat} {i : Nat} (hi : i < l.length) : Txt.slice (txt l) none (some (i : Int)) ++ txt (stepS l i).2 ++ Txt.slice (txt l) (some ((i : Int) + ((stepS l i).1 : Int))) none = txt (app l i) := by
  rw [slice_take (Nat.le_of_lt hi), ← Int.natCast_add, slice_drop (step_le hi), add_txt, add_txt]
  rfl
theorem all_of_turn {l : List Nat} {P tried : Nat} (h : ∀ k < tried, (stepS l ((P + k) % l.length)).1 = 0) (ht : l.length ≤ tried) : ∀ i < l.length, (stepS l i).1 = 0 := by
  intro i hi
  have hpos : 0 < l.length := by omega
  have hm : P % l.length < l.length := Nat.mod_lt _ hpos
  have h2 := h ((i + (l.length - P % l.length)) % l.length) (Nat.lt_of_lt_of_le (Nat.mod_lt _ hpos) ht)
  have e : (P + (i + (l.length - P % l.length)) % l.length) % l.length = i := by
    rw [Nat.add_mod_mod, ← Nat.mod_add_mod, show P % l.length + (i + (l.length - P % l.length)) = i + l.length by omega, Nat.add_mod_right, Nat.mod_eq_of_lt hi]
  rw [e] at h2
  exact h2
/-- a stop for the walk -/
structure Held (p : Prop) : Prop where
  get : p
theorem of_held {p : Prop} (h : Held p) : p := h.get
local macro_rules | `(tactic| walk_at "exec While Compare") => `(tactic| (k_here; refine of_held ?_))
theorem end_any {w : World} {mean : ExcName → Option Value} {mg mb : Str → Option Value}
    {dp un : Nat} {gd : Option (List Code)} {cn : Str} {cs : Scope} {a : Addr} {ccd : Value} {outer : List Env} {A₀ : Around} {base h₀ : Heap} {L : Addr} {m : Str → Option Value} {news : List (Addr × Obj)} {s : Shared} {Q E : Value → Shared → Prop}
    {l : List Nat} {t : Tok} {tb ls dx pl : Addr} {k n r np : Nat} {u : Tok} {its : List (Addr × Str × Str)} {kvs : List (Int × Value)} {p0 p1 p2 p3 : Nat} {t0 t1' t2' t3' : Tok}
    (XB : (heapK w.params).In base) (TB : Top vwT (looseW vwT looseT) mean mg mb base)
    (B : Below A₀ base outer h₀) (F : Fr h₀ L s.heap m) (X : (heapK w.params).In h₀) (N : News h₀ L s.heap news) (T : Top vwT (looseW vwT looseT) mean mg mb h₀) (hk : cs.kind = .function) (D₀ : KtsDicts (outer.filterMap (·.frame)) h₀) (T₀ : KtsTurn (outer.filterMap (·.frame)) h₀ h₀)
    (hd : dp + 80 < recursionLimit) (hu : un + 400 < cLine) (hl : ∀ c ∈ l, c ∈ sgL) (hlen : wgt l ≤ 400) (sv : IsSV kvs b3Items) (hB : base.DictOf (intKind Challenge.rw_un0048_02.row.prog w) 57 kvs)
    (hr : r < 6) (hits : its.map (·.2) = (sgs r).map rowOf)
    (ht : (tb, instObj 235 dx) ∈ news) (hdx : (dx, dictOf [⟨PyData.keyHash w.params (Str.ofString "_headers"), .str (Str.ofString "_headers") u, .ref ls⟩] k) ∈ news)
    (hls : (ls, listOf (its.map fun it => Value.ref it.1).toArray n) ∈ news)
    (hp : ∀ it ∈ its, ∃ tk tv, (it.1, tupObj it.2.1 it.2.2 tk tv) ∈ news)
    (hpl : (pl, listOf #[.int (p0 : Int) t0, .int (p1 : Int) t1', .int (p2 : Int) t2', .int (p3 : Int) t3'] np) ∈ news)
    (hret : ∀ l' t1 h₁ h' tk', Steps l l' → (∀ i < l'.length, (stepS l' i).1 = 0) → (∀ c ∈ l', c ∈ sgL) → l'.length ≤ 400 → KtsTurn (outer.filterMap (·.frame)) h₀ h₁ → Below A₀ base outer h₁ → (heapK w.params).In h₁ → Top vwT (looseW vwT looseT) mean mg mb h₁ → KtsDicts (outer.filterMap (·.frame)) h₁ → Fr h₁ L h' m →
      News h₁ L h' news → Q (.str (txt l') t1) { s with heap := h', toks := tk' }) :
    wpAny (model Challenge.rw_un0048_02.row.prog w) (ktrTop dp un gd cn cs L a ccd [] outer) (call (.ref 286) [.ref tb, .str (txt l) t, .ref pl]) Q E s := by
  revert X; k_fill; intro X
  refine wpAny_call ?_
  k_dflt (refine' code_defS ?k1 ?k2 ?k3 ?k4 ?k5 ?XB ?TB ?D ?T0 ?kA ?k6 ?k7 ?k8 ?k9 ?kB ?_ ?cK ?c2 ?c3 ?c4 ?c5; (case kA => exact rfl); (case k2 => k_asm); (case k1 => k_asm); (case XB => assumption); (case TB => assumption); (case D => assumption); (case T0 => first | assumption | exact KtsTurn.refl); (case k3 => k_asm); (case k4 => k_asm); (case k5 => k_asm); (case k6 => k_is); (case k7 => k_is); (case k8 => ktr_room); (case k9 => first | exact BindsTo.of_eq rfl | exact binds_K (by k_in) rfl (by k_is) rfl rfl rfl); (case kB => exact locs rfl); (case cK => assumption); (case c2 => exact rfl); (case c3 => exact rfl); (case c4 => exact rfl); (case c5 => decide); k_whole; intro g' L' h' FG' F' N' B' X' T' D'; (try dsimp only); (try k_fold))
  conv => arg 3; arg 1; whnf
  obtain ⟨M, hM⟩ := fr_name F'
  refine with_pos (show 0 < s.toks + 3 from Nat.succ_pos _) ?_
  intro k0 hk0
  dsimp only
  k_steps
  refine ⟨?_⟩
  rename News _ _ _ _ => N₁
  rename Fr _ _ _ _ => F₁
  refine while_G (fun n s' => ∃ g h tk l₁ turn tried f t1 t2 t3, s' = { s with heap := h, toks := tk } ∧
    (KtsTurn ((envOf cn cs L a ccd :: outer).filterMap (·.frame)) g' g ∧ Below (ktrTop dp un gd cn cs L a ccd [] outer) base (envOf cn cs L a ccd :: outer) g ∧ (heapK w.params).In g ∧ Top vwT (looseW vwT looseT) mean mg mb g ∧ KtsDicts ((envOf cn cs L a ccd :: outer).filterMap (·.frame)) g) ∧
    Fr g L' h (mEnd (txt l₁) t1 turn t2 tried t3 f M) ∧ News g L' h news ∧ Steps l l₁ ∧ (∀ c ∈ l₁, c ∈ sgL) ∧ wgt l₁ ≤ 400 ∧ tried ≤ l₁.length ∧
    (∀ k < tried, (stepS l₁ (([p0, p1, p2, p3].getD (turn % 4) 0 + k) % l₁.length)).1 = 0) ∧ n = wgt l₁ * 500 + (l₁.length + 1 - tried)) (wgt l * 500 + (l.length + 1 - 0))
    ⟨g', _, _, l, 0, 0, _, t, _, _, rfl, ⟨KtsTurn.refl, B', X', T', D'⟩, fr_end F₁ ?e1 rfl rfl ?e4, N₁, .refl l, hl, hlen, Nat.zero_le _, fun k hk => absurd hk (Nat.not_lt_zero _), rfl⟩ ?turn
  case e1 => rfl
  case e4 =>
    intro y a1 a2 a3 a4 a5 a6
    rw [if_neg a3, if_neg a2, hM]
  case turn =>
    rintro n₀ s' ⟨g₁, h₁, tk₁, l₁, turn, tried, f, t1, t2, t3, rfl, ⟨K₁, B₁, X₁, T₁, D₁⟩, F₂, N₂, hst, hsg, hw, htr, hno, rfl⟩
    clear N₁ F₁ B' X' T' D'
    have hl1 : (txt l₁).length ≤ 400 := Nat.le_trans (wgt_len l₁).1 hw
    subst hM
    have hb0 : (0 : Int) ≤ (turn : Int).fmod 4 ∧ (turn : Int).fmod 4 < 4 := by rw [Int.fmod_eq_emod_of_nonneg _ (by decide)]; omega
    have hLp : h₁.IsList pl #[.int (p0 : Int) t0, .int (p1 : Int) t1', .int (p2 : Int) t2', .int (p3 : Int) t3'] := ⟨_, (N₂ _ hpl).1, rfl, np, rfl⟩
    obtain ⟨P, hP⟩ : ∃ P, P = [p0, p1, p2, p3].getD (turn % 4) 0 := ⟨_, rfl⟩
    have hx : ∃ tp, (#[.int (p0 : Int) t0, .int (p1 : Int) t1', .int (p2 : Int) t2', .int (p3 : Int) t3'] : Array Value)[((turn : Int).fmod 4).toNat]? = some (.int (P : Int) tp) := by
      have e : ((turn : Int).fmod 4).toNat = turn % 4 := by rw [Int.fmod_eq_emod_of_nonneg _ (by decide)]; omega
      rw [e, hP]
      have h4 : turn % 4 < 4 := Nat.mod_lt _ (by decide)
      generalize turn % 4 = q at h4
      rcases q with _ | _ | _ | _ | q
      · exact ⟨_, rfl⟩
      · exact ⟨_, rfl⟩
      · exact ⟨_, rfl⟩
      · exact ⟨_, rfl⟩
      · omega
    obtain ⟨tp, hx⟩ := hx
    k_steps
    · rename (_ : Int) < _ => hlt
      have hlt2 : tried < l₁.length := by have e : (txt l₁).length = l₁.length := rfl; rw [e] at hlt; omega
      have hat : ([(p0 : Int), (p1 : Int), (p2 : Int), (p3 : Int)].getD ((turn : Int).fmod 4).toNat 0 + (tried : Int)).fmod ((txt l₁).length : Int) = (((P + tried) % l₁.length : Nat) : Int) := by
        have e : ((turn : Int).fmod 4).toNat = turn % 4 := by rw [Int.fmod_eq_emod_of_nonneg _ (by decide)]; omega
        have e2 : [(p0 : Int), (p1 : Int), (p2 : Int), (p3 : Int)].getD (turn % 4) 0 = (P : Int) := by
          rw [hP]
          have h4 : turn % 4 < 4 := Nat.mod_lt _ (by decide)
          generalize turn % 4 = q at h4
          rcases q with _ | _ | _ | _ | q
          · rfl
          · rfl
          · rfl
          · rfl
          · omega
        rw [e, e2, Int.fmod_eq_emod_of_nonneg _ (by omega)]
        show _ = (((P + tried) % l₁.length : Nat) : Int)
        rw [show ((txt l₁).length : Int) = (l₁.length : Int) from rfl, Int.natCast_emod, Int.natCast_add]
      obtain ⟨at_, hat_⟩ : ∃ at_, at_ = (P + tried) % l₁.length := ⟨_, rfl⟩
      have hatl : at_ < l₁.length := by rw [hat_]; exact Nat.mod_lt _ (by omega)
      rename Fr _ _ _ _ => F₃
      rename News _ _ _ _ => N₃
      rw [← hat_] at hat
      rw [hat] at F₃
      rw [hat]
      refine step_any (l := l₁) (i := at_) (its := its) XB TB B₁ F₃ X₁ N₃ T₁ rfl D₁ KtsTurn.refl ?_ ?_ hsg ?_ hatl sv (hB.at fun o e => B₁.stays _ _ e) hr hits ht hdx hls hp ?_
      · ktr_room
      · ktr_units
      · exact Nat.le_trans (wgt_len l₁).1 (by omega)
      intro D t4 t5 g₂ h₄ tk₄ K₂ B₂ X₂ T₂ D₂ F₄ hDlt N₄
      have K₃ := K₁.trans K₂
      clear F₃ N₃ B₁ X₁ T₁ D₁ K₁ K₂
      have hcl : (txt (stepS l₁ at_).2).length ≤ 2 := step_len l₁ at_
      have hgl : at_ + (stepS l₁ at_).1 ≤ l₁.length := step_le hatl
      k_steps
      · rename (_ : Int) = 0 => hz
        have hz2 : (stepS l₁ at_).1 = 0 := by omega
        with_reducible rename Fr _ _ _ _ => F₅
        with_reducible rename News _ _ _ _ => N₅
        refine ⟨wgt l₁ * 500 + (l₁.length + 1 - (tried + 1)), by omega, g₂, _, _, l₁, turn, tried + 1, _, t1, t2, _, rfl, ⟨K₃, B₂, X₂, T₂, D₂⟩, fr_end F₅ rfl rfl rfl ?_, fun p hp => N₅ p (.tail _ hp), hst, hsg, hw, hlt2, ?_, rfl⟩
        · intro y a1 a2 a3 a4 a5 a6
          simp only [if_neg a1, if_neg a2, if_neg a3, if_neg a4, if_neg a5, if_neg a6]
        · intro k hk
          rcases Nat.lt_or_ge k tried with h | h
          · exact hno k h
          · have : k = tried := by omega
            rw [this, ← hP, ← hat_]
            exact hz2
      · rename (_ : Int) ≠ 0 => hz
        have hz2 : (stepS l₁ at_).1 ≠ 0 := by omega
        obtain ⟨ha1, ha2⟩ := app_wgt hz2 hsg
        have ha3 := (wgt_len (app l₁ at_)).1
        with_reducible rename Fr _ _ _ _ => F₅
        with_reducible rename News _ _ _ _ => N₅
        rw [app_txt hatl] at F₅
        refine ⟨wgt (app l₁ at_) * 500 + ((app l₁ at_).length + 1 - 0), by omega, g₂, _, _, app l₁ at_, turn + 1, 0, _, _, _, _, rfl, ⟨K₃, B₂, X₂, T₂, D₂⟩, fr_end F₅ rfl rfl rfl ?_, fun p hp => N₅ p (.tail _ hp), .tail at_ hst hatl hz2, ha2, by omega, Nat.zero_le _, fun k hk => absurd hk (Nat.not_lt_zero _), rfl⟩
        intro y a1 a2 a3 a4 a5 a6
        simp only [if_neg a1, if_neg a2, if_neg a3, if_neg a4, if_neg a5, if_neg a6]
    · rename ¬ (_ : Int) < _ => hnl
      with_reducible rename KtsTurn _ _ _ => kT
      with_reducible rename Fr _ _ _ _ => kF
      with_reducible rename News _ _ _ _ => kN
      have e : (txt l₁).length = l₁.length := rfl
      rw [e] at hnl
      exact hret _ _ _ _ _ hst (all_of_turn hno (by omega)) hsg (Nat.le_trans (wgt_len l₁).1 hw) kT (by assumption) (by assumption) (by assumption) (by assumption) kF kN
end Mine
end

section
open PySem PySem.W PyProof.Rows PySem.Calls
set_option maxRecDepth 100000
set_option Elab.async false
set_option linter.unusedVariables false
namespace Mine
/-- texts for texts -/
noncomputable def SVs : List (Str × Value) → List (Str × Str) → Prop
  | [], [] => True
  | kv :: r, it :: r' => kv.1 = it.1 ∧ (∃ t, kv.2 = .str it.2 t) ∧ SVs r r'
  | _, _ => False
noncomputable def tabGet (its : List (Str × Str)) (x : Str) : Option Str := (its.find? fun it => it.1 == x).map (·.2)
theorem valueAt_svs {x : Str} : ∀ {kvs : List (Str × Value)} {its : List (Str × Str)}, SVs kvs its → (∃ y t, tabGet its x = some y ∧ valueAt kvs x = some (.str y t)) ∨ (tabGet its x = none ∧ valueAt kvs x = none)
  | [], [], _ => .inr ⟨rfl, rfl⟩
  | kv :: r, it :: r', h => by
    obtain ⟨h1, ⟨t, h2⟩, h3⟩ := h
    unfold tabGet valueAt
    simp only [List.find?_cons, h1]
    by_cases hc : it.1 = x
    · simp only [hc, decide_true, beq_self_eq_true, Option.map_some]
      exact .inl ⟨it.2, t, rfl, by rw [h2]⟩
    · have e2 : (it.1 == x) = false := beq_eq_false_iff_ne.mpr hc
      simp only [decide_eq_false hc, e2]
      exact valueAt_svs h3
  | [], _ :: _, h => h.elim
  | _ :: _, [], h => h.elim
structure SDict (prog : Program) (w : World) (o : Obj) (d : Addr) (its : List (Str × Str)) : Prop where
  lo : (d == sysModules) = false
  ex : ∃ kvs, o.IsDictOf (strKind prog w) kvs ∧ SVs kvs its
section
variable {prog : Program} {w : World} {A : Around} {E : Value → Shared → Prop} {s : Shared} {d : Addr} {o : Obj} {its : List (Str × Str)}
theorem SDict.at (T : SDict prog w o d its) (h : s.heap.get? d = some o) : ∃ kvs, s.heap.DictOf (strKind prog w) d kvs ∧ SVs kvs its := by
  obtain ⟨kvs, a, b⟩ := T.ex
  exact ⟨kvs, Heap.dictOf_iff.mpr ⟨o, h, a⟩, b⟩
theorem getMethod_sdict {pl : Sem Bool} {Q : Value × List Value → Shared → Prop} (T : SDict prog w o d its) (ho : s.heap.get? d = some o) (h : Q (.builtin "dict.get", [.ref d]) s) :
    wpAny (model prog w) A (getMethod (.ref d) (Str.ofString "get") pl) Q E s := by
  obtain ⟨kvs, hd, _⟩ := T.at ho
  exact getMethod_builtin hd.typeIs PySem.F.plainAttrs_dict PySem.F.slot_dict_get PySem.F.type_dict_get hd.mapOf.noDict h
theorem call_sget {x y : Str} {t u : Tok} {Q : Value → Shared → Prop} (T : SDict prog w o d its) (ho : s.heap.get? d = some o) (h : ∀ v, Q (.str ((tabGet its x).getD y) v) { s with toks := s.toks + 1 }) :
    wpAny (model prog w) A (call (.builtin "dict.get") [.ref d, .str x t, .str y u]) Q E s := by
  obtain ⟨kvs, hd, sv⟩ := T.at ho
  refine call_meetsIn PySem.F.slot_dict_get hd.typeIs PySem.F.entry_dict_get (PySem.F.args_dict_get_3 _ _ _) (meets_dict_get_default (strKind prog w) d (strKind_is prog w x t) T.lo _) ⟨_, hd.mapOf, ?_⟩
  rcases valueAt_svs (x := x) sv with ⟨z, v, h1, h2⟩ | ⟨h1, h2⟩
  · rw [h2]; rw [h1] at h; exact h v
  · rw [h2]; rw [h1] at h; exact h u
theorem in_sdict {x : Str} {t : Tok} {Q : Value → Shared → Prop} (T : SDict prog w o d its) (ho : s.heap.get? d = some o) (h : Q (.bool (tabGet its x).isSome) { s with toks := s.toks + 1 }) :
    wpAny (model prog w) A (compareOp .In (.str x t) (.ref d)) Q E s := by
  obtain ⟨kvs, hd, sv⟩ := T.at ho
  refine wpAny_in_of (strKind_is prog w x t) T.lo hd.mapOf ?_
  rcases valueAt_svs (x := x) sv with ⟨z, v, h1, h2⟩ | ⟨h1, h2⟩
  · rw [h2]; rw [h1] at h; exact h
  · rw [h2]; rw [h1] at h; exact h
theorem item_sdict {value slice : Expr} {x y : Str} {t : Tok} {Q : Value → Shared → Prop} (T : SDict prog w o d its) (ho : s.heap.get? d = some o) (hl : tabGet its x = some y)
    (h : ∀ v, Q (.str y v) { s with toks := s.toks + 1 })
    (hs : subscripted slice false (.ref d) (.str x t) = operate [.ref d, .str x t] (getItem (.ref d) (.str x t)) := by with_unfolding_all rfl) (hg : ∀ r, letTemporaryGo value (.ref d) r = pure () := by intro _; with_unfolding_all rfl) :
    wpAny (model prog w) A (subscriptTail value slice (.ref d) (.str x t)) Q E s := by
  obtain ⟨kvs, hd, sv⟩ := T.at ho
  rcases valueAt_svs (x := x) sv with ⟨z, v, h1, h2⟩ | ⟨h1, h2⟩
  · rw [hl] at h1
    cases h1
    exact subscriptTail_builtin hd.typeIs slot_dict_getitem.lookup (wpAny_getItem_of (strKind_is prog w x t) hd.mapOf h2 (h v)) hs hg
  · rw [hl] at h1
    cases h1
end
end Mine
end

section
open PySem PySem.W PyProof.Rows PySem.Calls
set_option maxRecDepth 100000
set_option Elab.async false
set_option linter.unusedVariables false
namespace Mine
/-- a pile cut before its last sign & -/
noncomputable def cut : List Nat → Option (List Nat × List Nat)
  | [] => none
  | c :: r => match cut r with
    | some (b, a) => some (c :: b, a)
    | none => if c = 38 then some ([], r) else none
theorem cut_none : ∀ {p : List Nat}, cut p = none ↔ 38 ∉ p
  | [] => by simp [cut]
  | c :: r => by
    have ih := @cut_none r
    unfold cut
    cases hr : cut r with
    | some q =>
      have : ¬ 38 ∉ r := fun h => by rw [ih.mpr h] at hr; cases hr
      simp only [reduceCtorEq, false_iff]
      intro hm
      exact this fun h => hm (List.mem_cons_of_mem _ h)
    | none =>
      have h := ih.mp hr
      by_cases hc : c = 38
      · simp [hc]
      · simp only [if_neg hc, List.mem_cons, true_iff]
        intro e
        rcases e with e | e
        · exact hc e.symm
        · exact h e
theorem cut_app : ∀ (x q : List Nat), 38 ∉ x → cut (x ++ 38 :: q) = (match cut q with | some (b, a) => some (x ++ 38 :: b, a) | none => some (x, q))
  | [], q, _ => by
    show (match cut q with | some (b, a) => some (38 :: b, a) | none => if 38 = 38 then some ([], q) else none) = _
    cases cut q with
    | none => rfl
    | some z => rfl
  | d :: x, q, h => by
    have h1 : d ≠ 38 := fun e => h (e ▸ List.mem_cons_self ..)
    have ih := cut_app x q fun m => h (List.mem_cons_of_mem _ m)
    show (match cut (x ++ 38 :: q) with | some (b, a) => some (d :: b, a) | none => if d = 38 then some ([], x ++ 38 :: q) else none) = _
    rw [ih]
    cases cut q with
    | none => rfl
    | some z => rfl
theorem cut_join : ∀ (ps : List Str), ps ≠ [] → (∀ p ∈ ps, 38 ∉ p.cps.toList) →
    (ps.length = 1 → cut (Str.join ⟨#[38]⟩ ps).cps.toList = none) ∧
    (1 < ps.length → ∃ z, ps.getLast? = some z ∧ cut (Str.join ⟨#[38]⟩ ps).cps.toList = some ((Str.join ⟨#[38]⟩ ps.dropLast).cps.toList, z.cps.toList))
  | [], h, _ => absurd rfl h
  | [p], _, hf => ⟨fun _ => cut_none.mpr (hf p (.head _)), fun h => absurd h (by simp)⟩
  | p :: q :: r, _, hf => by
    refine ⟨fun h => absurd h (by simp), fun _ => ?_⟩
    obtain ⟨i1, i2⟩ := cut_join (q :: r) (by simp) fun x hx => hf x (.tail _ hx)
    have e : (Str.join ⟨#[38]⟩ (p :: q :: r)).cps.toList = p.cps.toList ++ 38 :: (Str.join ⟨#[38]⟩ (q :: r)).cps.toList := by
      show (p ++ ⟨#[38]⟩ ++ Str.join ⟨#[38]⟩ (q :: r)).cps.toList = _
      rw [Str.cps_append, Str.cps_append, Array.toList_append, Array.toList_append, List.append_assoc]; rfl
    rw [e, cut_app _ _ (hf p (.head _))]
    cases r with
    | nil =>
      rw [i1 rfl]
      exact ⟨q, rfl, rfl⟩
    | cons z r =>
      obtain ⟨y, h1, h2⟩ := i2 (by simp)
      rw [h2]
      refine ⟨y, h1, ?_⟩
      show some (p.cps.toList ++ 38 :: _, _) = some ((p ++ ⟨#[38]⟩ ++ Str.join ⟨#[38]⟩ (q :: z :: r).dropLast).cps.toList, _)
      rw [Str.cps_append, Str.cps_append, Array.toList_append, Array.toList_append, List.append_assoc]; rfl
theorem split_cut (q : List Nat) : ((Txt.split (txt q) ⟨#[38]⟩).length ≤ 1 → cut q = none) ∧
    (1 < (Txt.split (txt q) ⟨#[38]⟩).length → ∃ z, (Txt.split (txt q) ⟨#[38]⟩).getLast? = some z ∧ cut q = some ((Str.join ⟨#[38]⟩ (Txt.split (txt q) ⟨#[38]⟩).dropLast).cps.toList, z.cps.toList)) := by
  have hj := StrLaws.join_split (txt q) ⟨#[38]⟩
  have hf := StrLaws.split_free (txt q) 38
  generalize Txt.split (txt q) ⟨#[38]⟩ = ps at hj hf
  have hq : q = (Str.join ⟨#[38]⟩ ps).cps.toList := by rw [hj]; rfl
  by_cases hn : ps = []
  · subst hn
    have : q = [] := hq
    subst this
    exact ⟨fun _ => rfl, fun h => absurd h (by simp)⟩
  · obtain ⟨a, b⟩ := cut_join ps hn hf
    rw [← hq] at a b
    refine ⟨fun h => a ?_, b⟩
    have : ps.length ≠ 0 := fun e => hn (List.length_eq_zero_iff.mp e)
    omega
end Mine
end

section
open PySem PySem.W PyProof.Rows PySem.Calls
set_option maxRecDepth 100000
set_option Elab.async false
set_option linter.unusedVariables false
set_option maxHeartbeats 4000000
namespace Mine
local macro_rules | `(tactic| walk_at "no such key") => `(tactic| skip)
noncomputable def foldsI : List (Str × Str) := [(⟨#[173]⟩, Str.ofString ""), (⟨#[8205]⟩, Str.ofString ""), (⟨#[64261]⟩, Str.ofString "st"), (⟨#[119808]⟩, Str.ofString "a"), (Str.ofString "A", Str.ofString "a"), (Str.ofString "D", Str.ofString "d"), (Str.ofString "M", Str.ofString "m"), (Str.ofString "Q", Str.ofString "q")]
noncomputable def readI : List (Str × Str) := [(Str.ofString "amp;", Str.ofString "&"), (Str.ofString "lt;", Str.ofString "<"), (Str.ofString "quot;", Str.ofString "\""), (Str.ofString "#x9;", Str.ofString "\t"), (Str.ofString "#xa;", Str.ofString " "), (Str.ofString "#xd;", Str.ofString " ")]
/-- the names of _law_one_pass -/
noncomputable abbrev mPass (x : Str) (t1 : Tok) (D1 D2 : Addr) (f : Str → Option Value) : Str → Option Value := fun y =>
  if y = Str.ofString "pile" then some (.str x t1) else if y = Str.ofString "read" then some (.ref D2) else if y = Str.ofString "folds" then some (.ref D1) else f y
theorem fr_pass {x : Str} {t1 : Tok} {D1 D2 : Addr} {G : Str → Option Value} {g h : Heap} {L : Addr} (F : Fr g L h G) (h1 : G (Str.ofString "pile") = some (.str x t1))
    (h2 : G (Str.ofString "read") = some (.ref D2)) (h3 : G (Str.ofString "folds") = some (.ref D1)) : Fr g L h (mPass x t1 D1 D2 G) := by
  have e : G = mPass x t1 D1 D2 G := by
    funext y
    show G y = (if y = Str.ofString "pile" then some (.str x t1) else if y = Str.ofString "read" then some (.ref D2) else if y = Str.ofString "folds" then some (.ref D1) else G y)
    by_cases a1 : y = Str.ofString "pile"
    · rw [if_pos a1, a1, h1]
    by_cases a2 : y = Str.ofString "read"
    · rw [if_neg a1, if_pos a2, a2, h2]
    by_cases a3 : y = Str.ofString "folds"
    · rw [if_neg a1, if_neg a2, if_pos a3, a3, h3]
    rw [if_neg a1, if_neg a2, if_neg a3]
  rw [← e]; exact F
theorem pass_start {g h : Heap} {L D1 D2 : Addr} {o1 o2 : Obj} {G : Str → Option Value} {news : List (Addr × Obj)} {P : Program} {w : World} {kvs1 kvs2 : List (Str × Value)} {t1 : Tok} (F : Fr g L h G) (N : News g L h ((D2, o2) :: (D1, o1) :: news))
    (lo1 : (D1 == sysModules) = false) (hd1 : o1.IsDictOf (strKind P w) kvs1) (lo2 : (D2 == sysModules) = false) (hd2 : o2.IsDictOf (strKind P w) kvs2) (s1 : SVs kvs1 foldsI) (s2 : SVs kvs2 readI)
    (e1 : G (Str.ofString "pile") = some (.str (txt []) t1)) (e2 : G (Str.ofString "read") = some (.ref D2)) (e3 : G (Str.ofString "folds") = some (.ref D1)) :
    ∃ D1 D2 o1 o2 t1 f, SDict P w o1 D1 foldsI ∧ SDict P w o2 D2 readI ∧ Fr g L h (mPass (txt []) t1 D1 D2 f) ∧ News g L h ((D2, o2) :: (D1, o1) :: news) :=
  ⟨D1, D2, o1, o2, t1, G, ⟨lo1, _, hd1, s1⟩, ⟨lo2, _, hd2, s2⟩, fr_pass F e1 e2 e3, N⟩
noncomputable def foldP (c : Nat) : List Nat := if b1s c then [] else fold3 c
noncomputable def readL (a : List Nat) : Option Nat := (names6.find? fun p => p.1 == 38 :: a).map (·.2)
noncomputable def rd (p : List Nat) : List Nat := match cut p with
  | some (b, a) => (match readL a with | some v => b ++ [v] | none => p)
  | none => p
noncomputable def pushP (p : List Nat) (c : Nat) : List Nat := if c = 59 then rd (p ++ foldP c) else p ++ foldP c
/-- the pile that one pass makes -/
noncomputable def pileOf (l : List Nat) : List Nat := l.foldl pushP []
theorem folds_sg : ∀ c ∈ sgL, (tabGet foldsI ⟨#[c]⟩).getD ⟨#[c]⟩ = txt (foldP c) ∧ (foldP c).length ≤ 2 := by decide +kernel
theorem cut_eq : ∀ {p b a : List Nat}, cut p = some (b, a) → p = b ++ 38 :: a ∧ 38 ∉ a
  | [], b, a, h => by cases h
  | c :: r, b, a, h => by
    unfold cut at h
    cases hr : cut r with
    | some q =>
      rw [hr] at h
      obtain ⟨b', a'⟩ := q
      cases h
      obtain ⟨e1, e2⟩ := cut_eq hr
      exact ⟨by rw [e1]; rfl, e2⟩
    | none =>
      rw [hr] at h
      by_cases hc : c = 38
      · simp only [if_pos hc] at h
        cases h
        exact ⟨by rw [hc]; rfl, cut_none.mp hr⟩
      · simp only [if_neg hc] at h
        cases h
theorem strs_take : ∀ {vs : List Value} {ys : List Str}, StrsAre vs ys → ∀ n, StrsAre (vs.take n) (ys.take n)
  | _, _, .nil, n => by simp; exact .nil
  | _, _, .cons y t h, 0 => by simp; exact .nil
  | _, _, .cons y t h, n + 1 => by
    rw [List.take_succ_cons, List.take_succ_cons]
    exact .cons y t (strs_take h n)
theorem strs_len : ∀ {vs : List Value} {ys : List Str}, StrsAre vs ys → vs.length = ys.length
  | _, _, .nil => rfl
  | _, _, .cons _ _ h => by rw [List.length_cons, List.length_cons, strs_len h]
theorem pick_strs {vs : List Value} {ys : List Str} (h : StrsAre vs ys) : StrsAre (slicePick vs.toArray none (some (-1)) none).toList ys.dropLast := by
  have e := slicePick_butLast vs.toArray 1 (Nat.le_refl _)
  rw [show (-((1 : Nat) : Int)) = -1 from rfl] at e
  rw [e, List.dropLast_eq_take]
  have hl := strs_len h
  show StrsAre (vs.toArray.toList.take (vs.length - 1)) _
  rw [hl]
  exact strs_take h _
theorem join_count (c : Nat) : ∀ ps : List Str, ps.length ≤ (Str.join ⟨#[c]⟩ ps).length + 1
  | [] => Nat.zero_le _
  | [p] => by simp
  | p :: q :: r => by
    have ih := join_count c (q :: r)
    show (q :: r).length + 1 ≤ (p ++ ⟨#[c]⟩ ++ Str.join ⟨#[c]⟩ (q :: r)).cps.size + 1
    rw [Str.cps_append, Str.cps_append, Array.size_append, Array.size_append]
    have e : (#[c] : Array Nat).size = 1 := rfl
    show (q :: r).length + 1 ≤ p.cps.size + (#[c] : Array Nat).size + (Str.join ⟨#[c]⟩ (q :: r)).length + 1
    omega
theorem sum_le_mul {n : Nat} : ∀ ps : List Str, (∀ p ∈ ps, p.length ≤ n) → (ps.map (·.length)).sum ≤ n * ps.length
  | [], _ => Nat.zero_le _
  | p :: r, h => by
    have ih := sum_le_mul r fun x hx => h x (.tail _ hx)
    have h1 := h p (.head _)
    rw [List.map_cons, List.sum_cons, List.length_cons, Nat.mul_succ]
    omega
theorem gen_toks {M : Model} {A : Around} {α : Type} {t : Sem α} {Q : α → Shared → Prop} {E : Value → Shared → Prop} {s : Shared} (h : ∀ k, wpAny M A t Q E { s with toks := k }) : wpAny M A t Q E s := h s.toks
theorem push_none {p b a : List Nat} {c : Nat} (hc : c = 59) (h : cut (p ++ foldP c) = some (b, a)) (hr : readL a = none) : pushP p c = p ++ foldP c := by
  unfold pushP rd
  rw [if_pos hc, h]
  dsimp only
  rw [hr]
theorem push_some {p b a : List Nat} {c v : Nat} (hc : c = 59) (h : cut (p ++ foldP c) = some (b, a)) (hr : readL a = some v) : pushP p c = b ++ [v] := by
  unfold pushP rd
  rw [if_pos hc, h]
  dsimp only
  rw [hr]
theorem push_no {p : List Nat} {c : Nat} (h : cut (p ++ foldP c) = none) : pushP p c = p ++ foldP c := by
  unfold pushP rd
  rw [h]
  split <;> rfl
theorem push_ne {p : List Nat} {c : Nat} (hc : c ≠ 59) : pushP p c = p ++ foldP c := by
  unfold pushP
  rw [if_neg hc]
theorem sign_eq {c d : Nat} {y : Str} (hy : y = txt [d]) : ((⟨#[c]⟩ : Str) == y) = decide (c = d) := by
  rw [hy]
  have := txt_beq [c] [d]
  rw [show (⟨#[c]⟩ : Str) = txt [c] from rfl, this]
  by_cases h : c = d
  · simp [h]
  · simp [h]
theorem readI_eq : readI = names6.map fun p => (txt p.1.tail, txt [p.2]) := by decide +kernel
theorem read_tab (a : List Nat) : tabGet readI (txt a) = (readL a).map fun v => txt [v] := by
  unfold tabGet readL
  rw [readI_eq]
  have h38 : ∀ p ∈ names6, p.1 = 38 :: p.1.tail := by decide +kernel
  generalize names6 = L at h38
  induction L with
  | nil => rfl
  | cons p r ih =>
    simp only [List.map_cons, List.find?_cons]
    have e : (p.1 == 38 :: a) = (txt p.1.tail == txt a) := by
      rw [txt_beq, h38 p (.head _)]
      simp
    rw [e]
    cases (txt p.1.tail == txt a) with
    | true => rfl
    | false => exact ih fun q hq => h38 q (.tail _ hq)
theorem last_getD {ps : List Str} {z : Str} (h : ps.getLast? = some z) : ps.getD (-1 + (ps.length : Int)).toNat Str.empty = z := by
  have hne : ps ≠ [] := by intro e; rw [e] at h; cases h
  have hpos : ps.length ≠ 0 := fun e => hne (List.length_eq_zero_iff.mp e)
  have e : (-1 + (ps.length : Int)).toNat = ps.length - 1 := by omega
  rw [e]
  rw [List.getLast?_eq_getElem?] at h
  rw [List.getD_eq_getElem?_getD, h]; rfl
theorem rd_len (p : List Nat) : (rd p).length ≤ p.length := by
  unfold rd
  split
  · rename_i b a hcut
    split
    · obtain ⟨e, _⟩ := cut_eq hcut
      rw [e, List.length_append, List.length_append]
      simp
    · exact Nat.le_refl _
  · exact Nat.le_refl _
theorem foldP_len (c : Nat) : (foldP c).length ≤ 2 := by
  unfold foldP fold3
  split
  · simp
  · split
    · simp
    · split
      · simp
      · simp
theorem push_len (p : List Nat) (c : Nat) : (pushP p c).length ≤ p.length + 2 := by
  have h := foldP_len c
  unfold pushP
  split
  · refine Nat.le_trans (rd_len _) ?_
    rw [List.length_append]; omega
  · rw [List.length_append]; omega
theorem pile_len (l : List Nat) : ∀ p : List Nat, (l.foldl pushP p).length ≤ p.length + 2 * l.length := by
  induction l with
  | nil => intro p; exact Nat.le_refl _
  | cons c r ih =>
    intro p
    have h1 := ih (pushP p c)
    have h2 := push_len p c
    rw [List.foldl_cons, List.length_cons]
    omega
theorem pile_succ {l : List Nat} {i c : Nat} (h : l[i]? = some c) : pileOf (l.take (i + 1)) = pushP (pileOf (l.take i)) c := by
  unfold pileOf
  rw [List.take_add_one, h, List.foldl_append]
  rfl
local macro_rules | `(tactic| walk_at "exec For") => `(tactic| (k_here; refine for_anyF (by assumption) ?_ (by intro _; rfl)))
theorem pass_any {w : World} {mean : ExcName → Option Value} {mg mb : Str → Option Value}
    {dp un : Nat} {gd : Option (List Code)} {cn : Str} {cs : Scope} {a : Addr} {ccd : Value} {cl : List (Str × Addr)} {outer : List Env} {A₀ : Around} {base h₀ : Heap} {L : Addr} {m : Str → Option Value} {news : List (Addr × Obj)} {s : Shared} {Q E : Value → Shared → Prop}
    {l : List Nat} {t : Tok}
    (B : Below A₀ base outer h₀) (F : Fr h₀ L s.heap m) (X : (heapK w.params).In h₀) (N : News h₀ L s.heap news) (T : Top vwT (looseW vwT looseT) mean mg mb h₀) (hk : cs.kind = .function)
    (hd : dp + 20 < recursionLimit) (hu : un + 100 < cLine) (hl : ∀ c ∈ l, c ∈ sgL) (hlen : l.length ≤ 60)
    (hret : ∀ t1 h' tk', Fr h₀ L h' m → News h₀ L h' news → Q (.str (txt (pileOf l)) t1) { s with heap := h', toks := tk' }) :
    wpAny (model Challenge.rw_un0048_02.row.prog w) (ktrTop dp un gd cn cs L a ccd cl outer) (call (.ref 293) [.str (txt l) t]) Q E s := by
  revert X; k_fill; intro X
  refine wpAny_call ?_
  k_dflt (refine' code_def ?k1 ?k2 ?k3 ?k4 ?k5 ?kA ?kF ?kK ?k6 ?k7 ?k8 ?k9 ?kB ?_ ?c2 ?c3 ?c4 ?c5; (case kA => exact rfl); (case kF => exact rfl); (case kK => assumption); (case k1 => k_asm); (case k2 => k_asm); (case k3 => k_asm); (case k4 => k_asm); (case k5 => k_asm); (case k6 => k_is); (case k7 => k_is); (case k8 => ktr_room); (case k9 => first | exact BindsTo.of_eq rfl | exact binds_K (by k_in) rfl (by k_is) rfl rfl rfl); (case c5 => decide); (case kB => exact locs rfl); (case c2 => exact rfl); (case c3 => exact rfl); (case c4 => exact rfl); k_whole; intro g' L' h' FG' F' N' B' X' T'; (try dsimp only); (try k_fold))
  conv => arg 3; arg 1; whnf
  k_steps
  with_reducible rename Fr _ _ _ _ => F₁
  with_reducible rename News _ _ _ _ => N₁
  obtain ⟨D1, D2, o1, o2, t1, f, S1, S2, F₂, N₂⟩ := pass_start (P := Challenge.rw_un0048_02.row.prog) (w := w) F₁ N₁ (by assumption) (by assumption) (by assumption) (by assumption)
    (by exact ⟨rfl, ⟨_, rfl⟩, rfl, ⟨_, rfl⟩, rfl, ⟨_, rfl⟩, rfl, ⟨_, rfl⟩, rfl, ⟨_, rfl⟩, rfl, ⟨_, rfl⟩, rfl, ⟨_, rfl⟩, rfl, ⟨_, rfl⟩, trivial⟩)
    (by exact ⟨rfl, ⟨_, rfl⟩, rfl, ⟨_, rfl⟩, rfl, ⟨_, rfl⟩, rfl, ⟨_, rfl⟩, rfl, ⟨_, rfl⟩, rfl, ⟨_, rfl⟩, trivial⟩) rfl rfl rfl
  clear F₁ N₁
  with_reducible rename Obj.IsDictOf _ _ _ => hz1
  clear hz1
  with_reducible rename Obj.IsDictOf _ _ _ => hz1
  clear hz1
  refine gen_toks ?_
  intro tk0
  dsimp only
  refine iterM_str (m₀ := _) (news := _) (fun i m₁ news₁ => ∃ t1 f, m₁ = mPass (txt (pileOf (l.take i))) t1 D1 D2 f ∧ news₁ = (D2, o2) :: (D1, o1) :: news) rfl F₂ N₂ ⟨_, _, rfl, rfl⟩ ?turn ?done
  case turn =>
    rintro i c u₁ m₁ news₁ h₂ tk₂ own hc ⟨t1, f, rfl, rfl⟩ hoff hsub _ F₃ N₃
    clear F₂ N₂
    have hcl : l[i]? = some c := by simpa [txt] using hc
    have hcs := hl c (List.mem_of_getElem? hcl)
    obtain ⟨hf1, hf2⟩ := folds_sg c hcs
    have hpl : (txt (pileOf (l.take i))).length ≤ 200 := by
      have h1 := pile_len (l.take i) []
      rw [List.length_take] at h1
      show (pileOf (l.take i)).length ≤ 200
      unfold pileOf
      simp only [List.length_nil] at h1
      omega
    have hfl : (txt (foldP c)).length ≤ 2 := hf2
    rw [pile_succ hcl]
    generalize pileOf (l.take i) = p at hpl F₃ ⊢
    k_steps
    with_reducible rename News _ _ _ _ => N₄
    refine getMethod_sdict S1 (N₄ _ (List.mem_append_right own (.tail _ (.head _)))).1 ?_
    k_steps
    refine call_sget S1 (N₄ _ (List.mem_append_right own (.tail _ (.head _)))).1 ?_
    intro v
    rw [hf1]
    k_steps
    · rename List (Str × Tok) => lz
      rename List.map _ _ = Txt.split _ _ => hlook
      rename ∀ a, a ∈ List.map _ _ → _ => hbd
      rename (_ == _) = true => hc59
      rw [sign_eq (d := 59) (by decide +kernel)] at hc59
      replace hc59 := of_decide_eq_true hc59
      with_reducible rename News _ _ _ _ => N₅
      rename 1 < _ => hgt
      rw [add_txt, show Str.ofString "&" = ⟨#[38]⟩ by decide +kernel] at hlook
      obtain ⟨z, hz1, hz2⟩ := (split_cut (p ++ foldP c)).2 (by
        rw [← hlook, List.length_map]; omega)
      rw [← hlook] at hz1 hz2
      refine in_sdict S2 (N₅ _ (.tail _ (List.mem_append_right own (.head _)))).1 ?_
      rw [last_getD hz1, show z = txt z.cps.toList from rfl, read_tab]
      cases hrl : readL z.cps.toList with
      | none =>
        dsimp only [Option.map_none, Option.isSome_none]
        k_steps
        with_reducible rename Fr _ _ _ _ => F₇
        with_reducible rename News _ _ _ _ => N₇
        rw [add_txt, ← push_none hc59 hz2 hrl] at F₇
        exact ⟨_, _, _, (D2, o2) :: (D1, o1) :: news, rfl, fr_pass F₇ rfl rfl rfl, fun p hp => N₇ p (.tail _ hp), (fun p hp => by simpa using hoff p hp), _, _, rfl, rfl⟩
      | some v0 =>
        dsimp only [Option.map_some, Option.isSome_some]
        k_steps
        rename StrsAre _ _ => hstr
        have hpick := pick_strs hstr
        have hcnt : (List.map (fun x => x.1) lz).length ≤ 300 := by
          rw [hlook]
          have h1 := join_count 38 (Txt.split (txt (p ++ foldP c)) ⟨#[38]⟩)
          rw [StrLaws.join_split, length_txt, List.length_append] at h1
          rw [length_txt] at hpl hfl
          omega
        have hsl := strs_len hstr
        have hpart : ∀ y ∈ (List.map (fun x => x.1) lz).dropLast, y.length ≤ 300 := by
          intro y hy
          refine Nat.le_trans (hbd y (List.dropLast_subset _ hy)) ?_
          rw [add_txt, length_txt, List.length_append]
          rw [length_txt] at hpl hfl
          omega
        have hsum := sum_le_mul _ hpart
        refine slice_list3 (lo := none) (hi := some (-1)) (st := none) (by assumption) (by assumption) (News.isList (by assumption) (.head _)) .none (.int _ _) .none (by decide) ?_ (hsz := by rw [sizeLine_eq, List.size_toArray, hsl]; omega)
        intro h₆ F₆ N₆
        k_steps
        with_reducible rename News _ _ _ _ => N₇
        have hb := (cut_eq hz2).1
        have hbl : (Str.join ⟨#[38]⟩ (List.map (fun x => x.1) lz).dropLast).cps.toList.length ≤ 300 := by
          have h1 := congrArg List.length hb
          rw [List.length_append, List.length_append] at h1
          rw [length_txt] at hpl hfl
          omega
        have hjoin : Txt.join (Str.ofString "&") (List.map (fun x => x.1) lz).dropLast = txt (Str.join ⟨#[38]⟩ (List.map (fun x => x.1) lz).dropLast).cps.toList := by
          show Builtin.Str.glued _ _ = _
          rw [StrLaws.glued_eq_join, show Str.ofString "&" = ⟨#[38]⟩ by decide +kernel]; rfl
        refine join_listW (ys := (List.map (fun x => x.1) lz).dropLast) ⟨_, (N₇ _ (.head _)).1, rfl, _, rfl⟩ hpick (by decide) (by rw [List.length_dropLast] at hsum ⊢; omega) ?_
        intro t6 k6
        rw [hjoin]
        have hbl2 : (txt (Str.join ⟨#[38]⟩ (List.map (fun x => x.1) lz).dropLast).cps.toList).length ≤ 300 := hbl
        have htab : tabGet readI ((List.map (fun x => x.1) lz).getD (-1 + ((List.map (fun x => x.1) lz).length : Int)).toNat Str.empty) = some (txt [v0]) := by
          rw [last_getD hz1, show z = txt z.cps.toList from rfl, read_tab, hrl]; rfl
        k_steps
        refine item_sdict S2 (N₇ _ (.tail _ (.tail _ (List.mem_append_right own (.head _))))).1 htab ?_
        intro v6
        have hv6 : (txt [v0]).length ≤ 1 := Nat.le_refl _
        k_steps
        with_reducible rename Fr _ _ _ _ => F₇
        with_reducible rename News _ _ _ _ => N₇
        rw [add_txt, ← push_some hc59 hz2 hrl] at F₇
        exact ⟨_, _, _, (D2, o2) :: (D1, o1) :: news, rfl, fr_pass F₇ rfl rfl rfl, fun p hp => N₇ p (.tail _ (.tail _ hp)), (fun p hp => by simpa using hoff p hp), _, _, rfl, rfl⟩
    · rename List (Str × Tok) => lz
      rename List.map _ _ = Txt.split _ _ => hlook
      rename ¬ 1 < _ => hgt
      rw [add_txt, show Str.ofString "&" = ⟨#[38]⟩ by decide +kernel] at hlook
      have hz2 := (split_cut (p ++ foldP c)).1 (by
        rw [← hlook, List.length_map]; omega)
      with_reducible rename Fr _ _ _ _ => F₇
      with_reducible rename News _ _ _ _ => N₇
      rw [add_txt, ← push_no hz2] at F₇
      exact ⟨_, _, _, (D2, o2) :: (D1, o1) :: news, rfl, fr_pass F₇ rfl rfl rfl, fun p hp => N₇ p (.tail _ hp), (fun p hp => by simpa using hoff p hp), _, _, rfl, rfl⟩
    · rename (_ == _) = false => hc59
      rw [sign_eq (d := 59) (by decide +kernel)] at hc59
      with_reducible rename Fr _ _ _ _ => F₇
      with_reducible rename News _ _ _ _ => N₇
      rw [add_txt, ← push_ne (of_decide_eq_false hc59)] at F₇
      exact ⟨_, _, _, (D2, o2) :: (D1, o1) :: news, rfl, fr_pass F₇ rfl rfl rfl, N₇, (fun p hp => by simpa using hoff p hp), _, _, rfl, rfl⟩
  case done =>
    rintro h₂ tk₂ m₁ news₁ F₃ N₃ hoff ⟨t1, f, rfl, rfl⟩
    clear F₂ N₂
    have hsz : l.take (txt l).cps.size = l := by
      show l.take l.length = _
      exact List.take_length
    rw [hsz] at F₃
    k_steps
    exact hret _ _ _ (by assumption) (fun p hp => (by assumption : News _ _ _ (_ :: _ :: _)) p (.tail _ (.tail _ hp)))
end Mine
end

section
open PySem PySem.W PyProof.Rows PySem.Calls
set_option maxRecDepth 100000
set_option Elab.async false
set_option linter.unusedVariables false
namespace Mine
/-- a sign that stands as it is -/
noncomputable def Plain (c : Nat) : Prop := foldP c = [c] ∧ c ≠ 59
theorem fold_plain {p n : List Nat} (h : ∀ c ∈ n, Plain c) : n.foldl pushP p = p ++ n := by
  induction n generalizing p with
  | nil => simp
  | cons c r ih =>
    obtain ⟨h1, h2⟩ := h c (.head _)
    rw [List.foldl_cons, push_ne h2, h1, ih fun y hy => h y (.tail _ hy)]
    simp
theorem fold_low {n : List Nat} (h : ∀ c ∈ n, foldP c = [low c] ∧ c ≠ 59) : ∀ p, n.foldl pushP p = p ++ n.map low := by
  induction n with
  | nil => intro p; simp
  | cons c r ih =>
    intro p
    obtain ⟨h1, h2⟩ := h c (.head _)
    rw [List.foldl_cons, push_ne h2, h1, ih fun y hy => h y (.tail _ hy)]
    simp
theorem low_letter : ∀ c ∈ sgL, (∃ p ∈ names6, low c ∈ p.1) → foldP c = [low c] := by decide +kernel
theorem names_shape : ∀ p ∈ names6, p.1.head? = some 38 ∧ 38 ∉ p.1.tail ∧ p.1.tail.dropLast ++ [59] = p.1.tail ∧ 59 ∉ p.1.tail.dropLast ∧ Plain p.2 := by unfold Plain; decide +kernel
theorem low_38 : ∀ c ∈ sgL, low c = 38 → c = 38 := by decide +kernel
theorem stepR_fold {x y : List Nat} (h : StepR x y) (hx : ∀ c ∈ x, c ∈ sgL) (p : List Nat) : x.foldl pushP p = y.foldl pushP p := by
  cases h with
  | gone c h =>
    have hc : c ≠ 59 := by rintro rfl; revert h; decide
    show pushP p c = p
    rw [push_ne hc]
    unfold foldP
    rw [if_pos h, List.append_nil]
  | fold c h h2 =>
    have hc : c ≠ 59 := by rintro rfl; revert h2; decide
    obtain ⟨_, b⟩ := fold_sg c (hx c (.head _)) h h2
    have hp : ∀ d ∈ fold3 c, Plain d := fun d hd => by
      obtain ⟨_, b1, b2, b3⟩ := b d hd
      refine ⟨?_, b3⟩
      unfold foldP
      rw [b1, if_neg (by decide), b2]
    rw [fold_plain hp]
    show pushP p c = _
    rw [push_ne hc]
    unfold foldP
    rw [h, if_neg (by decide)]
  | read n v h h2 =>
    obtain ⟨q, hq, rfl, hm⟩ := look_val h2
    obtain ⟨s1, s2, s3, s4, s5⟩ := names_shape q hq
    have hm2 : q.1 = 38 :: (n.map low ++ [59]) := by rw [hm]; simp; decide
    have ht : q.1.tail = n.map low ++ [59] := by rw [hm2]; rfl
    have hnl : ∀ c ∈ n, foldP c = [low c] ∧ c ≠ 59 := fun c hc => by
      refine ⟨low_letter c (hx c (.tail _ (List.mem_append_left _ hc))) ⟨q, hq, ?_⟩, fun e => h (e ▸ hc)⟩
      rw [hm2]
      exact .tail _ (List.mem_append_left _ (List.mem_map_of_mem hc))
    rw [fold_plain (n := [q.2]) fun c hc => by rw [List.mem_singleton.mp hc]; exact s5]
    rw [List.cons_append, List.foldl_cons, List.foldl_append, fold_low hnl]
    have e38 : pushP p 38 = p ++ [38] := by rw [push_ne (by decide)]; rfl
    rw [e38]
    show pushP (p ++ [38] ++ n.map low) 59 = p ++ [q.2]
    have f59 : foldP 59 = [59] := by decide
    have hcut : cut (p ++ [38] ++ n.map low ++ foldP 59) = some (p, n.map low ++ [59]) := by
      rw [f59, List.append_assoc, List.append_assoc]
      show cut (p ++ 38 :: (n.map low ++ [59])) = _
      have hfree : 38 ∉ n.map low ++ [59] := by rw [← ht]; exact s2
      clear e38 hm hm2 ht
      generalize n.map low ++ [59] = a at hfree
      induction p with
      | nil =>
        show (match cut a with | some (b, a') => some (38 :: b, a') | none => if 38 = 38 then some ([], a) else none) = _
        rw [cut_none.mpr hfree]; rfl
      | cons d r ih =>
        show (match cut (r ++ 38 :: a) with | some (b, a') => some (d :: b, a') | none => _) = _
        rw [ih]
    refine push_some rfl hcut ?_
    unfold readL
    rw [← hm2]
    have : ∀ q ∈ names6, names6.find? (fun p => p.1 == q.1) = some q := by decide +kernel
    rw [this q hq]; rfl
theorem step_pile {l : List Nat} {i : Nat} (h : (stepS l i).1 ≠ 0) (hl : ∀ c ∈ l, c ∈ sgL) : pileOf (app l i) = pileOf l := by
  obtain ⟨u, x, y, v, e1, e2, hR, hx⟩ := step_cases h
  unfold pileOf
  rw [e2]
  conv => rhs; rw [e1]
  rw [List.foldl_append, List.foldl_append, List.foldl_append, List.foldl_append, stepR_fold hR fun c hc => hl c (hx c hc)]
theorem steps_pile {a b : List Nat} (h : Steps a b) (ha : ∀ c ∈ a, c ∈ sgL) : pileOf b = pileOf a ∧ ∀ c ∈ b, c ∈ sgL := by
  induction h with
  | refl => exact ⟨rfl, ha⟩
  | tail i _ hi h2 ih =>
    obtain ⟨i1, i2⟩ := ih
    exact ⟨(step_pile h2 i2).trans i1, (app_wgt h2 i2).2⟩
end Mine
end

section
open PySem PySem.W PyProof.Rows PySem.Calls
set_option maxRecDepth 100000
set_option Elab.async false
set_option linter.unusedVariables false
namespace Mine
theorem step_zero {l : List Nat} {i c : Nat} (h : (stepS l i).1 = 0) (hc : l[i]? = some c) : foldP c = [c] ∧ ¬ (c = 38 ∧ 59 ∈ l.drop i ∧ 9 ∉ nameAt l i ∧ (look (nameAt l i)).isSome = true) := by
  unfold stepS at h
  rw [hc] at h
  dsimp only at h
  cases hb : b1s c with
  | true => rw [hb, if_pos rfl] at h; cases h
  | false =>
    rw [hb, if_neg (by decide)] at h
    by_cases hf : fold3 c ≠ [c]
    · rw [if_pos hf] at h; cases h
    · rw [if_neg hf] at h
      have hf2 : fold3 c = [c] := Classical.not_not.mp hf
      refine ⟨by unfold foldP; rw [hb, if_neg (by decide), hf2], ?_⟩
      rintro ⟨a1, a2, a3, a4⟩
      rw [if_pos ⟨a1, a2⟩, if_neg a3] at h
      cases hl : look (nameAt l i) with
      | none => rw [hl] at a4; cases a4
      | some v =>
        rw [hl] at h
        dsimp only at h
        unfold nameAt at h
        rw [List.length_append] at h
        exact absurd h (by simp)
theorem names_self : ∀ p ∈ names6, p.1.map low = p.1 ∧ 9 ∉ p.1 ∧ p.1 = 38 :: p.1.tail := by decide +kernel
theorem normal_pile {l : List Nat} (h : ∀ i < l.length, (stepS l i).1 = 0) : ∀ k ≤ l.length, pileOf (l.take k) = l.take k := by
  intro k
  induction k with
  | zero => intro _; simp [pileOf]
  | succ k ih =>
    intro hk
    have hc : l[k]? = some l[k] := List.getElem?_eq_getElem hk
    rw [pile_succ hc, ih (Nat.le_of_lt hk), List.take_add_one, hc]
    obtain ⟨h1, _⟩ := step_zero (h k hk) hc
    generalize hcc : l[k] = c at h1 hc
    by_cases h59 : c = 59
    · have key : rd (l.take k ++ foldP c) = l.take k ++ foldP c := by
        unfold rd
        cases hcut : cut (l.take k ++ foldP c) with
        | none => rfl
        | some q =>
          obtain ⟨b, a⟩ := q
          dsimp only
          cases hr : readL a with
          | none => rfl
          | some v =>
            exfalso
            obtain ⟨e1, e2⟩ := cut_eq hcut
            unfold readL at hr
            cases hf : names6.find? (fun p => p.1 == 38 :: a) with
            | none => rw [hf] at hr; cases hr
            | some p =>
              have hp := List.mem_of_find?_eq_some hf
              have hpe : p.1 = 38 :: a := by simpa using List.find?_some hf
              obtain ⟨n1, n2, n3⟩ := names_self p hp
              obtain ⟨s1, s2, s3, s4, _⟩ := names_shape p hp
              have hta : p.1.tail = a := by rw [hpe]; rfl
              rw [hta] at s3 s4
              rw [h1, h59] at e1
              have hl1 : l = l.take k ++ [59] ++ l.drop (k + 1) := by
                have := (drop_split hc).1
                rw [h59] at this
                exact this
              have hl2 : l = b ++ (38 :: a.dropLast ++ 59 :: l.drop (k + 1)) := by
                conv => lhs; rw [hl1, e1, ← s3]
                simp
              have hbl : b.length < l.length := by
                conv => rhs; rw [hl2]
                simp
              have hdrop : l.drop b.length = 38 :: a.dropLast ++ 59 :: l.drop (k + 1) := by
                conv => lhs; rw [hl2]
                simp
              have hget : l[b.length]? = some 38 := by
                conv => lhs; rw [hl2]
                simp
              have hname : nameAt l b.length = p.1 := by
                unfold nameAt
                rw [hdrop, takeWhile_free (38 :: a.dropLast) _ (by
                  intro e
                  rcases List.mem_cons.mp e with e | e
                  · cases e
                  · exact s4 e), hpe, List.cons_append, s3]
              refine (step_zero (h b.length hbl) hget).2 ⟨rfl, by rw [hdrop]; simp, by rw [hname]; exact n2, ?_⟩
              rw [hname]
              unfold look
              rw [n1, hpe, hf]
              rfl
      unfold pushP
      rw [if_pos h59, key, h1]
      rfl
    · rw [push_ne h59, h1]; rfl
theorem law_plain {a b : List Nat} (hs : Steps a b) (ha : ∀ c ∈ a, c ∈ sgL) (hn : ∀ i < b.length, (stepS b i).1 = 0) : pileOf a = b := by
  rw [← (steps_pile hs ha).1]
  have := normal_pile hn b.length (Nat.le_refl _)
  rwa [List.take_length] at this
end Mine
end

section
open PySem PySem.W PyProof.Rows PySem.Calls
set_option maxRecDepth 100000
set_option Elab.async false
set_option linter.unusedVariables false
namespace Mine
section
variable {prog : Program} {w : World} {A : Around} {E : Value → Shared → Prop} {s : Shared} {env : Env}
theorem lc_div4 {X : Str} {px p1 p2 p3 pos : Pos} {kk : Nat} {iter : Expr} {scope : Scope} {l : Addr} {c0 c1 c2 c3 d : Int} {t0 t1 t2 t3 : Tok} {Q : Value → Shared → Prop} (hh : A.handled = none) (hd : d ≠ 0) (hpl : ∀ n, Builtin.divisionGoesByPylong n d = false)
    (hclos : closureFor scope env = pure []) (hcell : ∀ y ∈ scope.names, y.2 ≠ .cell) (hkind : scope.kind = .function) (hnames : ∀ y ∈ scope.names, y.2 = .local → scope.names.lookup y.1 = some .local) (hx : scope.names.lookup X = some .local)
    (hXd : (X == ("__debug__" : Str)) = false) (hs : ∀ x, foldedSetIterable iter env x = pure x)
    (h1 : ∀ Q' : Value → Shared → Prop, Q' (.ref l) s → wpAny (model prog w) A (eval iter env) Q' E s) (hl : s.heap.IsList l #[.int c0 t0, .int c1 t1, .int c2 t2, .int c3 t3])
    (done : ∀ D h' tk u0 u1 u2 u3, s.heap.get? D = none → h'.PlainList D #[.int (c0.fdiv d) u0, .int (c1.fdiv d) u1, .int (c2.fdiv d) u2, .int (c3.fdiv d) u3] → (∀ b o, s.heap.get? b = some o → h'.get? b = some o) → Q (.ref D) { s with heap := h', toks := tk }) :
    wpAny (model prog w) A (eval (.ListComp (.BinOp (.Name X p1) .FloorDiv (.Constant (.int d) kk p2) p3) [⟨.Name X px, iter, [], 0⟩] scope pos) env) Q E s := by
  obtain ⟨ol, hol, _⟩ := id hl
  have hlt : l < s.heap.objs.size := Heap.lt_size hol
  refine wpAny_ListComp_free (cl := []) (fun _ => true) (fun v y => ∃ n t u, v = .int n t ∧ y = .int (n.fdiv d) u) hclos hcell hkind hnames hx ?_ hs
  refine h1 _ (wpAny_pyIter_list hl ?_)
  refine ⟨s.heap.objs.size, [s.heap.objs.size, l], [s.heap.objs.size], 4, _, _, rfl, Walks.list hh s.heap.objs.size l (Nat.ne_of_lt hlt) #[.int c0 t0, .int c1 t1, .int c2 t2, .int c3 t3], by rw [sizeLine_eq]; omega, ⟨⟨_, Heap.get?_push_size _ rfl, rfl, rfl⟩, hl.at fun o e => Heap.get?_push_of_some _ e⟩, ?_, ⟨?_, ?_⟩, ?_⟩
  · intro b hb
    dsimp only
    rw [Heap.size_push]
    rcases List.mem_cons.mp hb with rfl | hb
    · exact Nat.lt_succ_self _
    · rw [List.mem_singleton.mp hb]; exact Nat.lt_succ_of_lt hlt
  · intro C i v s₃ m₃ E' _ _ _ _ _ _
    exact wpAny_pure ⟨rfl, s₃.heap, s₃.toks, rfl, fun _ _ e => e⟩
  · intro C i v s₃ m₃ E' _ hP _ hn hm _ _
    have hv : ∃ n t, v = .int n t := by
      rcases i with _ | _ | _ | _ | i <;> simp at hP <;> subst hP <;> exact ⟨_, _, rfl⟩
    obtain ⟨n, t, rfl⟩ := hv
    refine wpAny_BinOp ?_
    refine wpAny_Name (wpAny_loadName_local ?_ ?_ hn hm ?_) hXd
    · show (relabel scope env).kind = .function
      exact hkind
    · exact lookup_relabel_local hx
    refine wpAny_Constant_int ?_
    refine floordiv_int hd ?_ (.inl (hpl n))
    exact ⟨⟨n, t, _, rfl, rfl⟩, _, _, rfl, fun _ _ e => e⟩
  · intro D h' tk ys vs hD _ hpl hlen hP hF hk
    have h4 : vs = [.int c0 t0, .int c1 t1, .int c2 t2, .int c3 t3] := by
      rcases vs with _ | ⟨a, _ | ⟨b, _ | ⟨c, _ | ⟨e, _ | ⟨f, r⟩⟩⟩⟩⟩ <;> simp at hlen
      have e0 := hP 0 a rfl
      have e1 := hP 1 b rfl
      have e2 := hP 2 c rfl
      have e3 := hP 3 e rfl
      simp at e0 e1 e2 e3
      rw [e0, e1, e2, e3]
    subst h4
    have hys : ∃ u0 u1 u2 u3, ys = #[.int (c0.fdiv d) u0, .int (c1.fdiv d) u1, .int (c2.fdiv d) u2, .int (c3.fdiv d) u3] := by
      obtain ⟨L⟩ := ys
      have ef : [Value.int c0 t0, .int c1 t1, .int c2 t2, .int c3 t3].filter (fun _ => true) = [Value.int c0 t0, .int c1 t1, .int c2 t2, .int c3 t3] := rfl
      rw [ef] at hF
      cases hF with
      | cons a0 hF =>
        cases hF with
        | cons a1 hF =>
          cases hF with
          | cons a2 hF =>
            cases hF with
            | cons a3 hF =>
              cases hF
              obtain ⟨_, _, u0, x0, rfl⟩ := a0
              obtain ⟨_, _, u1, x1, rfl⟩ := a1
              obtain ⟨_, _, u2, x2, rfl⟩ := a2
              obtain ⟨_, _, u3, x3, rfl⟩ := a3
              cases x0; cases x1; cases x2; cases x3
              exact ⟨_, _, _, _, rfl⟩
    obtain ⟨u0, u1, u2, u3, rfl⟩ := hys
    refine done D h' tk u0 u1 u2 u3 ?_ hpl fun b o e => hk b o (fun q => by rw [List.mem_singleton.mp q] at e; exact absurd (Heap.lt_size e) (Nat.lt_irrefl _)) (Heap.get?_push_of_some _ e)
    cases hq : s.heap.get? D with
    | none => rfl
    | some o => rw [show (_ : Heap).get? D = some o from Heap.get?_push_of_some _ hq] at hD; cases hD
end
end Mine
end

section
open PySem PySem.W PyProof.Rows PySem.Calls PySem.SeqAt
set_option maxRecDepth 100000
set_option Elab.async false
set_option linter.unusedVariables false
namespace Mine
theorem abs7 {h₀ h : Heap} {L : Addr} {a0 a1 a2 a3 a4 a5 a6 b : Addr × Obj} {news : List (Addr × Obj)} (N : News h₀ L h (a0 :: a1 :: a2 :: a3 :: a4 :: a5 :: a6 :: b :: news)) :
    ∃ led, News h₀ L h led ∧ a0 ∈ led ∧ a1 ∈ led ∧ a2 ∈ led ∧ a3 ∈ led ∧ a4 ∈ led ∧ a5 ∈ led ∧ a6 ∈ led ∧ ∀ p ∈ news, p ∈ led :=
  ⟨_, N, by simp, by simp, by simp, by simp, by simp, by simp, by simp, fun p hp => by simp [hp]⟩
section
variable {prog : Program} {w : World} {A : Around} {E : Value → Shared → Prop} {s : Shared}
theorem eq_rows {l b : Addr} {as bs : Array Value} {rows : List (Str × Str)} {Q : Value → Shared → Prop} (hl : s.heap.IsList l as) (hb : s.heap.IsList b bs) (ha : as.size = rows.length) (hbz : bs.size = rows.length)
    (h1 : ∀ (j : Nat) r, rows[j]? = some r → ∃ a t u, as[j]? = some (.ref a) ∧ s.heap.get? a = some (tupObj r.1 r.2 t u)) (h2 : ∀ (j : Nat) r, rows[j]? = some r → ∃ a t u, bs[j]? = some (.ref a) ∧ s.heap.get? a = some (tupObj r.1 r.2 t u))
    (hu : A.units + 20 < cLine) (h : Q (.bool true) s) : wpAny (model prog w) A (compareOp .Eq (.ref l) (.ref b)) Q E s := by
  refine PySem.SeqAt.eq_listAt (e := fun _ => true) hl hb (ha.trans hbz.symm) (by omega) ?_ (by rw [show (List.range as.size).all (fun _ => true) = true by simp]; exact h)
  intro j j1 j2
  have hj : j < rows.length := by omega
  obtain ⟨a, t, u, e1, g1⟩ := h1 j rows[j] (List.getElem?_eq_getElem hj)
  obtain ⟨a', t', u', e2, g2⟩ := h2 j rows[j] (List.getElem?_eq_getElem hj)
  have x1 : as[j] = .ref a := by rw [Array.getElem?_eq_getElem j1] at e1; exact Option.some.inj e1
  have x2 : bs[j] = .ref a' := by rw [Array.getElem?_eq_getElem j2] at e2; exact Option.some.inj e2
  rw [x1, x2]
  by_cases hne : a = a'
  · subst hne; exact EqAt.same _
  · refine EqAt.of_refs hne ?_
    have hk := RcAt.tuples (A := A.in1) (s := s) (l := a) (b := a') (items := #[.str rows[j].1 t, .str rows[j].2 u]) (items2 := #[.str rows[j].1 t', .str rows[j].2 u']) (e := fun _ => true) ⟨_, g1, rfl, 0, rfl⟩ ⟨_, g2, rfl, 0, rfl⟩ (by show A.units + 1 < cLine; omega) ?_
    · exact hk
    · intro i i1 i2
      rcases i with _ | _ | i
      · have := EqAt.str_str (A := A.in1.in1) (s := s) rows[j].1 t rows[j].1 t'
        rw [beq_self_eq_true] at this
        exact this
      · have := EqAt.str_str (A := A.in1.in1) (s := s) rows[j].2 u rows[j].2 u'
        rw [beq_self_eq_true] at this
        exact this
      · exact absurd i1 (by show ¬ i + 1 + 1 < 2; omega)
end
end Mine
end

section
open PySem PySem.W PyProof.Rows PySem.Calls
set_option maxRecDepth 100000
set_option Elab.async false
set_option linter.unusedVariables false
namespace Mine
theorem rot_rel {α β : Type} {P : α → β → Prop} {A : List α} {B : List β} (hlen : A.length = B.length) (h : ∀ (j : Nat) b, B[j]? = some b → ∃ a, A[j]? = some a ∧ P a b) (r : Nat) :
    ∀ (j : Nat) b, (B.drop r ++ B.take r)[j]? = some b → ∃ a, (A.drop r ++ A.take r)[j]? = some a ∧ P a b := by
  intro j b hj
  rw [List.getElem?_append] at hj ⊢
  rw [List.length_drop] at hj ⊢
  rw [hlen]
  split at hj
  · rename_i hlt
    rw [if_pos hlt]
    rw [List.getElem?_drop] at hj ⊢
    exact h _ b hj
  · rename_i hge
    rw [if_neg hge]
    rw [List.getElem?_take] at hj ⊢
    split at hj
    · rename_i h2
      rw [if_pos h2]
      exact h _ b hj
    · cases hj
theorem six_rows : six.map rowOf = [(Str.ofString "&amp;", Str.ofString "&"), (Str.ofString "&lt;", Str.ofString "<"), (Str.ofString "&quot;", Str.ofString "\""), (Str.ofString "&#x9;", Str.ofString "\t"), (Str.ofString "&#xA;", Str.ofString " "), (Str.ofString "&#xD;", Str.ofString " ")] := by decide +kernel
theorem sgs_rows (r : Nat) : (sgs r).map rowOf = (six.map rowOf).drop r ++ (six.map rowOf).take r := by
  unfold sgs
  rw [List.map_append, List.map_drop, List.map_take]
/-- the rows that are due, by their addresses -/
theorem due_rel {h : Heap} {D0 D1 D2 D3 D4 D5 : Addr} {t0 t1 t2 t3 t4 t5 u0 u1 u2 u3 u4 u5 : Tok}
    (g0 : h.get? D0 = some (tupObj (Str.ofString "&amp;") (Str.ofString "&") t0 u0)) (g1 : h.get? D1 = some (tupObj (Str.ofString "&lt;") (Str.ofString "<") t1 u1)) (g2 : h.get? D2 = some (tupObj (Str.ofString "&quot;") (Str.ofString "\"") t2 u2))
    (g3 : h.get? D3 = some (tupObj (Str.ofString "&#x9;") (Str.ofString "\t") t3 u3)) (g4 : h.get? D4 = some (tupObj (Str.ofString "&#xA;") (Str.ofString " ") t4 u4)) (g5 : h.get? D5 = some (tupObj (Str.ofString "&#xD;") (Str.ofString " ") t5 u5)) (r : Nat) :
    ∀ (j : Nat) x, ((sgs r).map rowOf)[j]? = some x → ∃ a t u, (([Value.ref D0, .ref D1, .ref D2, .ref D3, .ref D4, .ref D5].drop r ++ [Value.ref D0, .ref D1, .ref D2, .ref D3, .ref D4, .ref D5].take r).toArray : Array Value)[j]? = some (.ref a) ∧ h.get? a = some (tupObj x.1 x.2 t u) := by
  intro j x hx
  rw [sgs_rows, six_rows] at hx
  obtain ⟨a, ha, hP⟩ := rot_rel (P := fun (v : Value) (x : Str × Str) => ∃ b t u, v = .ref b ∧ h.get? b = some (tupObj x.1 x.2 t u)) (A := [Value.ref D0, .ref D1, .ref D2, .ref D3, .ref D4, .ref D5]) rfl (fun j x hj => by
    rcases j with _ | _ | _ | _ | _ | _ | j
    · cases hj; exact ⟨_, rfl, _, _, _, rfl, g0⟩
    · cases hj; exact ⟨_, rfl, _, _, _, rfl, g1⟩
    · cases hj; exact ⟨_, rfl, _, _, _, rfl, g2⟩
    · cases hj; exact ⟨_, rfl, _, _, _, rfl, g3⟩
    · cases hj; exact ⟨_, rfl, _, _, _, rfl, g4⟩
    · cases hj; exact ⟨_, rfl, _, _, _, rfl, g5⟩
    · simp at hj) r j x hx
  obtain ⟨b, t, u, rfl, hb⟩ := hP
  exact ⟨b, t, u, by rw [List.getElem?_toArray]; exact ha, hb⟩
theorem its_rel {h : Heap} {its : List (Addr × Str × Str)} {rows : List (Str × Str)} (hr : its.map (·.2) = rows) (hp : ∀ it ∈ its, ∃ tk tv, h.get? it.1 = some (tupObj it.2.1 it.2.2 tk tv)) :
    ∀ (j : Nat) x, rows[j]? = some x → ∃ a t u, ((its.map fun it => Value.ref it.1).toArray : Array Value)[j]? = some (.ref a) ∧ h.get? a = some (tupObj x.1 x.2 t u) := by
  intro j x hx
  rw [← hr, List.getElem?_map] at hx
  cases hi : its[j]? with
  | none => rw [hi] at hx; cases hx
  | some it =>
    rw [hi] at hx
    cases hx
    obtain ⟨tk, tv, e⟩ := hp it (List.mem_of_getElem? hi)
    exact ⟨it.1, tk, tv, by rw [List.getElem?_toArray, List.getElem?_map, hi]; rfl, e⟩
end Mine
end

section
open PySem PySem.W PyProof.Rows PySem.Calls
set_option maxRecDepth 100000
set_option Elab.async false
set_option linter.unusedVariables false
set_option maxHeartbeats 4000000
namespace Mine
theorem items_tab {w : World} {mean : ExcName → Option Value} {mg mb : Str → Option Value}
    {dp un : Nat} {gd : Option (List Code)} {cn : Str} {cs : Scope} {a : Addr} {ccd : Value} {cl : List (Str × Addr)} {outer : List Env} {A₀ : Around} {base h₀ : Heap} {L : Addr} {m : Str → Option Value} {news : List (Addr × Obj)} {s : Shared} {Q E : Value → Shared → Prop}
    {tb l dx : Addr} {k n : Nat} {u : Tok} {ws : Array Value}
    (B : Below A₀ base outer h₀) (F : Fr h₀ L s.heap m) (X : (heapK w.params).In h₀) (N : News h₀ L s.heap news) (T : Top vwT (looseW vwT looseT) mean mg mb h₀) (hk : cs.kind = .function)
    (hd : dp + 10 < recursionLimit) (hu : un + 50 < cLine) (hsz : ws.size ≤ 1000)
    (ht : (tb, instObj 235 dx) ∈ news) (hdx : (dx, dictOf [⟨PyData.keyHash w.params (Str.ofString "_headers"), .str (Str.ofString "_headers") u, .ref l⟩] k) ∈ news)
    (hl : (l, listOf ws n) ∈ news)
    (hret : ∀ D h' tk', Fr h₀ L h' m → News h₀ L h' ((D, listOf ws 0) :: news) → Q (.ref D) { s with heap := h', toks := tk' }) :
    wpAny (model Challenge.rw_un0048_02.row.prog w) (ktrTop dp un gd cn cs L a ccd cl outer) (call (.ref 199) [.ref tb]) Q E s := by
  revert X; k_fill; intro X
  refine wpAny_call ?_
  k_dflt (refine' code_def ?k1 ?k2 ?k3 ?k4 ?k5 ?kA ?kF ?kK ?k6 ?k7 ?k8 ?k9 ?kB ?_ ?c2 ?c3 ?c4 ?c5; (case kA => exact rfl); (case kF => exact rfl); (case kK => assumption); (case k1 => k_asm); (case k2 => k_asm); (case k3 => k_asm); (case k4 => k_asm); (case k5 => k_asm); (case k6 => k_is); (case k7 => k_is); (case k8 => ktr_room); (case k9 => first | exact BindsTo.of_eq rfl | exact binds_K (by k_in) rfl (by k_is) rfl rfl rfl); (case c5 => decide); (case kB => exact locs rfl); (case c2 => exact rfl); (case c3 => exact rfl); (case c4 => exact rfl); k_whole; intro g' L' h' FG' F' N' B' X' T'; (try dsimp only); (try k_fold))
  conv => arg 3; arg 1; whnf
  k_steps
  refine slice_list3 (items := ws) (lo := none) (hi := none) (st := none) (by assumption) (by assumption) ⟨_, ((by assumption : News g' L' _ news) _ hl).1, rfl, n, rfl⟩ .none .none .none (by decide) ?_ (hsz := by rw [sizeLine_eq]; omega)
  intro h₆ F₆ N₆
  rw [slicePick_all] at N₆
  k_steps
  exact hret _ _ _ (by assumption) (by assumption)
/-- what stands around the law -/
noncomputable abbrev lawA (dp un : Nat) (gd : Option (List Code)) : Around := { handled := none, depth := dp, frames := some [], guards := gd, units := un }
theorem turn_nil {g g' h : Heap} {L : Addr} {m : Str → Option Value} {news : List (Addr × Obj)} (K : KtsTurn [] g g') (F : Fr g' L h m) (N : News g' L h news) : Fr g L h m ∧ News g L h news := by
  have k1 : ∀ b o, g.get? b = some o → g'.get? b = some o := fun b o e => K.other b o e (fun h => nomatch h)
  refine ⟨⟨F.ns, fun b o e => F.keep b o (k1 b o e), by rw [← K.size]; exact F.above⟩, fun p hp => ⟨(N p hp).1, (N p hp).2.1, ?_⟩⟩
  cases hq : g.get? p.1 with
  | none => rfl
  | some o => have := k1 _ _ hq; rw [(N p hp).2.2] at this; cases this
local macro_rules | `(tactic| walk_at "eval ListComp") => `(tactic| (k_here; refine of_held ?_))
theorem law_body {w : World} {mean : ExcName → Option Value} {mg mb : Str → Option Value} {dp un : Nat} {gd : Option (List Code)} {fa l : Addr} {cdv : Value} {h₀ : Heap} {L : Addr} {vs : List Value} {ns : List Int} {kvs : List (Int × Value)} {s : Shared} {Q : Flow → Shared → Prop} {E : Value → Shared → Prop}
    (B : Below (lawA dp un gd) h₀ [] h₀) (F : Fr h₀ L s.heap (fun x => List.lookup x [(Str.ofString "script", .ref l)])) (X : (heapK w.params).In h₀) (N : News h₀ L s.heap []) (T : Top vwT (looseW vwT looseT) mean mg mb h₀)
    (hd : dp + 200 < recursionLimit) (hu : un + 1000 < cLine) (hl : h₀.IsList l vs.toArray) (hi : IntsAre vs ns) (hn : ns.length ≤ 63) (sv : IsSV kvs b3Items) (hB : h₀.DictOf (intKind Challenge.rw_un0048_02.row.prog w) 57 kvs)
    (hret : ∀ m h' tk', Fr h₀ L h' m → Q (.ret (.bool true)) { s with heap := h', toks := tk' }) :
    wpAny (model Challenge.rw_un0048_02.row.prog w) ((lawA dp un gd).deeper (envOf (Str.ofString "law") (fnScope [21]) L fa cdv)) (execs (fnBody [21]) (envOf (Str.ofString "law") (fnScope [21]) L fa cdv)) Q E s := by
  revert X; k_fill; intro X
  conv => arg 3; arg 1; whnf
  k_steps
  refine cells_any B F X N T rfl ?_ ?_ hl hi hn ?_
  · ktr_room
  · ktr_units
  intro D c0 c1 c2 c3 t0 t1 t2 t3 h₁ tk₁ hc F₁ hlt₁ N₁
  clear F N
  have hIn : IntsAre [Value.int c0 t0, .int c1 t1, .int c2 t2, .int c3 t3] [c0, c1, c2, c3] := .cons _ _ (.cons _ _ (.cons _ _ (.cons _ _ .nil)))
  k_steps
  refine text_any B (by assumption) X (by assumption) T rfl ?_ ?_ (.head _) hc ?_
  · ktr_room
  · ktr_units
  intro l₁ t₁ h₂ tk₂ hsg hlen F₂ N₂
  k_steps
  obtain ⟨first, hfirst⟩ : ∃ first, first = (c0 + (c1 + (c2 + (c3 + 0)))).fmod 6 := ⟨_, rfl⟩
  have hf0 : 0 ≤ first ∧ first < 6 := by
    rw [hfirst, Int.fmod_eq_emod_of_nonneg _ (by decide)]
    generalize c0 + (c1 + (c2 + (c3 + 0))) = q
    omega
  with_reducible rename Fr _ _ _ _ => F₃
  with_reducible rename News _ _ _ _ => N₃
  rw [← hfirst] at F₃
  rw [← hfirst]
  refine table_any X T B F₃ X N₃ T rfl ?_ ?_ hf0.1 hf0.2 ?_
  · ktr_room
  · ktr_units
  intro x dx lt n u k its news₄ h₄ tk₄ hrows M1 M2 M3 hp hsub F₄ N₄
  have hr6 : first.toNat < 6 := by omega
  have hDm := hsub _ (.head _)
  clear F₃ N₃
  k_steps
  refine ⟨?_⟩
  have hcs : 0 ≤ c0 ∧ 0 ≤ c1 ∧ 0 ≤ c2 ∧ 0 ≤ c3 := ⟨hc.1.1, hc.2.1.1, hc.2.2.1.1, hc.2.2.2.1⟩
  have hq : ∀ c : Int, 0 ≤ c → c.fdiv 4913 = ((c.fdiv 4913).toNat : Int) := fun c h => by rw [Int.fdiv_eq_ediv_of_nonneg _ (by decide)]; omega
  with_reducible rename News _ _ _ _ => N₅
  with_reducible rename Fr _ _ _ _ => F₅
  refine lc_div4 (l := D) rfl (by decide) (fun n => PyProof.noPylong_small (by decide)) rfl (by decide +kernel) rfl (by decide +kernel) rfl (by decide +kernel) (fun _ => rfl) ?iter ⟨_, (N₅ _ hDm).1, rfl, 0, rfl⟩ ?done
  case iter =>
    intro Q' hq
    exact wpAny_Name (wpAny_loadName_local rfl rfl F₅.ns rfl hq) (by decide +kernel)
  case done =>
  intro pl h₆ tk₆ u0 u1 u2 u3 hfree hpl hk₆
  obtain ⟨np, hpl⟩ := hpl
  rw [hq c0 hcs.1, hq c1 hcs.2.1, hq c2 hcs.2.2.1, hq c3 hcs.2.2.2] at hpl
  have F₆ := F₅.keptAll hk₆
  have hplL : pl ≠ L := fun e => by
    obtain ⟨oL, _, _, hoL, _⟩ := F₅.ns
    rw [← e, show Heap.get? _ pl = none from hfree] at hoL
    cases hoL
  have hplh : h₀.get? pl = none := by
    cases hz : h₀.get? pl with
    | none => rfl
    | some o => have := F₅.keep _ _ hz; rw [show Heap.get? _ pl = none from hfree] at this; cases this
  have N₆ : News h₀ L h₆ ((pl, listOf #[.int ((c0.fdiv 4913).toNat : Int) u0, .int ((c1.fdiv 4913).toNat : Int) u1, .int ((c2.fdiv 4913).toNat : Int) u2, .int ((c3.fdiv 4913).toNat : Int) u3] np) :: news₄) := by
    intro p hp
    rcases List.mem_cons.mp hp with rfl | hp
    · exact ⟨hpl, hplL, hplh⟩
    · exact ⟨hk₆ _ _ (N₅ p hp).1, (N₅ p hp).2⟩
  clear F₅ N₅
  k_steps
  have lift : ∀ q ∈ news₄, q ∈ (pl, listOf #[.int ((c0.fdiv 4913).toNat : Int) u0, .int ((c1.fdiv 4913).toNat : Int) u1, .int ((c2.fdiv 4913).toNat : Int) u2, .int ((c3.fdiv 4913).toNat : Int) u3] np) :: news₄ := fun q h => .tail _ h
  with_reducible rename News _ _ _ _ => N₅
  with_reducible rename Fr _ _ _ _ => F₅
  refine end_any (l := l₁) (its := its) X T B F₅ X N₅ T rfl ktsDicts_nil KtsTurn.refl ?_ ?_ hsg ?_ sv hB hr6 hrows (lift _ M1) (lift _ M2) (lift _ M3) (fun it hit => let ⟨a, b, h⟩ := hp it hit; ⟨a, b, lift _ h⟩) (.head _) ?_
  · ktr_room
  · ktr_units
  · exact Nat.le_trans (wgt_len l₁).2 (by omega)
  intro l₂ t₂ h₁ h₇ tk₇ hst hnorm hsg₂ hlen₂ K₁ B₁ X₁ T₁ D₁ F₇ N₇
  obtain ⟨F₈, N₈⟩ := turn_nil K₁ F₇ N₇
  have hfin := law_plain hst hsg hnorm
  clear F₅ N₅ F₇ N₇ B₁ X₁ T₁ D₁ K₁ h₁
  k_steps
  refine pass_any B (by assumption) X (by assumption) T rfl ?_ ?_ hsg hlen ?_
  · ktr_room
  · ktr_units
  intro t₃ h₉ tk₉ F₉ N₉
  rw [hfin]
  k_steps
  · with_reducible rename News _ _ _ _ => N₁₀
    obtain ⟨led, N₁₁, d0, d1, d2, d3, d4, d5, d6, hrest⟩ := abs7 N₁₀
    clear N₁₀
    have M1' := hrest _ M1
    have M2' := hrest _ M2
    have M3' := hrest _ M3
    have hcnt : its.length = 6 := by
      have h1 := congrArg List.length hrows
      rw [List.length_map, List.length_map, (sgs_ok _ hr6).2] at h1
      exact h1
    k_steps
    refine items_tab (ws := (its.map fun it => Value.ref it.1).toArray) B (by assumption) X (by assumption) T rfl ?_ ?_ (by rw [List.size_toArray, List.length_map, hcnt]; omega) M1' M2' M3' ?_
    · ktr_room
    · ktr_units
    intro Di h₁₁ tk₁₁ F₁₁ N₁₂
    k_steps
    have hfr : first = ((first.toNat : Nat) : Int) := by omega
    refine slice_list3 (lo := some first) (hi := none) (st := none) (by assumption) (by assumption) ⟨_, ((by assumption : News h₀ L _ (_ :: led)) _ (.tail _ d0)).1, rfl, 0, rfl⟩ (.int _ _) .none .none (by decide) ?_ (hsz := by rw [sizeLine_eq]; show 6 ≤ _; omega)
    intro h₁₂ F₁₂ N₁₃
    rw [hfr, slicePick_from'] at N₁₃
    k_steps
    refine slice_list3 (lo := none) (hi := some first) (st := none) (by assumption) (by assumption) ⟨_, ((by assumption : News h₀ L _ (_ :: _ :: led)) _ (.tail _ (.tail _ d0))).1, rfl, 0, rfl⟩ .none (.int _ _) .none (by decide) ?_ (hsz := by rw [sizeLine_eq]; show 6 ≤ _; omega)
    intro h₁₃ F₁₃ N₁₄
    rw [hfr, slicePick_upto'] at N₁₄
    k_steps
    with_reducible rename News _ _ _ _ => N₁₅
    with_reducible rename Fr _ _ _ _ => F₁₅
    refine add_lists F₁₅ N₁₅ ⟨_, (N₁₅ _ (.tail _ (.head _))).1, rfl, 0, rfl⟩ ⟨_, (N₁₅ _ (.head _)).1, rfl, 0, rfl⟩ ?_ (hsz := by rw [List.length_drop, List.length_take, sizeLine_eq]; show (6 - _) + min _ 6 ≤ _; omega)
    intro h₁₄ F₁₆ N₁₆
    dsimp only
    have up : ∀ q ∈ led, h₁₄.get? q.1 = some q.2 := fun q hq => (N₁₆ _ (.tail _ (.tail _ (.tail _ (.tail _ hq))))).1
    refine eq_rows (rows := (sgs first.toNat).map rowOf) ⟨_, (N₁₆ _ (.tail _ (.tail _ (.tail _ (.head _))))).1, rfl, 0, rfl⟩ ⟨_, (N₁₆ _ (.head _)).1, rfl, 0, rfl⟩ ?_ ?_ (its_rel hrows fun it hit => let ⟨a, b, hq⟩ := hp it hit; ⟨a, b, up _ (hrest _ hq)⟩) (due_rel (up _ d6) (up _ d5) (up _ d4) (up _ d3) (up _ d2) (up _ d1) _) ?_ ?_
    · rw [List.size_toArray, List.length_map, List.length_map, hcnt, (sgs_ok _ hr6).2]
    · rw [List.size_toArray, List.length_append, List.length_drop, List.length_take, List.length_map, (sgs_ok _ hr6).2]
      show (6 - _) + min _ 6 = 6
      omega
    · ktr_units
    · exact hret _ _ _ F₁₆
  · rename (_ == _) = false => hbad
    simp at hbad
end Mine
end

open PySem PySem.W PyProof.Rows PySem.Calls
set_option Elab.async false
set_option maxRecDepth 100000
set_option maxHeartbeats 8000000
-- the joined text must make no twin of the program (10 MB of compiled file)
local macro_rules | `(tactic| k_qdec) => `(tactic| decide +kernel)
-- the law
theorem PySem.Challenge.cw_un0048_02_holds : PySem.Challenge.rw_un0048_02.Holds := by
  w_on
  refine ⟨Mine.said, ?_⟩
  refine Mine.holds02 (by rfl) (by rfl) (by rfl) Mine.said_row (by decide +kernel) ⟨rfl, rfl, rfl, rfl, rfl, by decide +kernel⟩ ?hw ?call
  case hw => w_witness2
  case call =>
    k_fill
    intro w s₀ s₁ mg mb G Y fa o pm cd doc dV kV ho hd hcd hD hmg hg args vals as hpre hlay hrd hwl hlo
    have KX := Y.K
    have KB1 := Y.b1
    have KB3 := Y.b3
    k_behind G ho hd hcd hD hmg hpre hlay hrd hwl hlo cd
    obtain ⟨kvs, sv, hB⟩ := KB3
    with_reducible rename Fr _ _ _ _ => F
    with_reducible rename News _ _ _ _ => N
    with_reducible rename IntsAre _ _ => hi
    with_reducible rename Heap.IsList _ _ _ => hL
    with_reducible rename Top _ _ _ _ _ _ => T
    rename ¬ (_ : Int) < _ => hn
    have e1 : Mine.vw = Mine.vwT := by first | rfl | decide +kernel
    have e2 : Mine.looseV = Mine.looseT := by unfold Mine.looseV; rfl
    have T2 := T
    rw [e1, e2] at T2
    refine wpAny_mono (Mine.law_body (mean := ExcName.means s₀.heap) (mg := mg) (mb := mb) (dp := 1 + claimMargin) (un := 4) (gd := some []) (Q := fun f s' => f = .ret (.bool true) ∧ ∃ m h' tk', Fr s₁.heap s₁.heap.objs.size h' m ∧ s' = { s₁ with heap := h', toks := tk' }) (E := fun _ _ => False) (below_caller _) F KX N ?T ?hd ?hu hL hi ?hn sv hB ?hret) ?post ?exc
    case T => exact T2
    case hd => decide
    case hu => decide +kernel
    case hn => omega
    case hret =>
      intro m h' tk' F'
      exact ⟨rfl, m, h', tk', F', rfl⟩
    case exc => exact fun _ _ h => h.elim
    case post =>
      rintro f s' ⟨rfl, m, h', tk', F', rfl⟩
      exact goodW_bool F' hg (fun cls => rfl) (by first | rfl | with_unfolding_all rfl | (simp; done))

