import PyProof.Rows.All
import Wide.All
import OpenK.AllK
import Wide.FinOn
import Lean
import PySem.Challenge.RW_un0048_01
section
open PySem PySem.W PyProof.Rows PySem.Calls
set_option Elab.async false
set_option maxRecDepth 100000
namespace Mine
-- the row's own looks, piece by piece (the kernel frees its store behind each), once for the two places that ask them
theorem lk1 : sreFenced Challenge.pw_un0048_01.main = true := by kernel_rfl
theorem lk2 : ((moduleNames Challenge.pw_un0048_01.main.body).isEmpty || lookedIntoSs (moduleNames Challenge.pw_un0048_01.main.body) Challenge.pw_un0048_01.main.body) = true := by kernel_rfl
theorem lk3 : namesResolve Challenge.pw_un0048_01 = true := by kernel_rfl
theorem lk4 : (Challenge.pw_un0048_01.boundNames.all fun n => !worldNames.contains n) = true := by kernel_rfl
theorem lk5 : noRoadLSs { strict := !(importedModules Challenge.pw_un0048_01.main.body).all cThrough.contains, foot := none, bare := (["vars", "dir", "locals"] : List Str).filter (readsOut Challenge.pw_un0048_01 Challenge.pw_un0048_01.main.body) } Challenge.pw_un0048_01.main.body = true := by kernel_rfl
theorem lk6 : (namesMeet Challenge.pw_un0048_01 Challenge.pw_un0048_01.main.body fun _ n => attrL n) = true := by kernel_rfl
theorem looks : looksOpen Challenge.pw_un0048_01 = true := by
  unfold looksOpen
  rw [lk1, lk2, lk3, lk4, lk5, lk6]
  rfl
theorem said_row : Challenge.rw_un0048_01.row.wellSaid = true := by
  unfold OpenRow.wellSaid OpenRow.partSaid
  rw [show looksOpen Challenge.rw_un0048_01.row.prog = true from looks]
  kernel_rfl
theorem said : Challenge.rw_un0048_01.wellSaid = true := by
  unfold OpenLaw.wellSaid
  rw [said_row]
  kernel_rfl
end Mine
end

section
open PySem PySem.W PyProof.Rows PySem.Calls PySem.F
set_option maxRecDepth 100000
namespace Mine
section
variable {prog : Program} {w : World} {A : Around} {E : Value → Shared → Prop}

inductive F2 {α β : Type} (R : α → β → Prop) : List α → List β → Prop
  | nil : F2 R [] []
  | cons {a : α} {b : β} {l : List α} {m : List β} : R a b → F2 R l m → F2 R (a :: l) (b :: m)

/-- the heap has grown by n objects, what stood stands -/
noncomputable def Grown (h h' : Heap) (n : Nat) : Prop := h'.objs.size = h.objs.size + n ∧ ∀ b, b < h.objs.size → h'.get? b = h.get? b
theorem Grown.refl (h : Heap) : Grown h h 0 := ⟨rfl, fun _ _ => rfl⟩
theorem Grown.trans {h₁ h₂ h₃ : Heap} {m n : Nat} (x : Grown h₁ h₂ m) (y : Grown h₂ h₃ n) : Grown h₁ h₃ (m + n) :=
  ⟨by rw [y.1, x.1]; omega, fun b hb => (y.2 b (by rw [x.1]; omega)).trans (x.2 b hb)⟩
theorem Grown.push (h : Heap) (o : Obj) : Grown h (h.push o) 1 := by
  refine ⟨?_, fun b hb => Heap.get?_push_ne h b o (Nat.ne_of_lt hb)⟩
  cases h; simp [Heap.push]
theorem Grown.but {h h₁ h₂ : Heap} {n d : Nat} (x : Grown h h₁ n) (s : Heap.SameBut d h₁ h₂) (hd : h.objs.size ≤ d) : Grown h h₂ n :=
  ⟨s.1.trans x.1, fun b hb => (s.2 b (Nat.ne_of_lt (Nat.lt_of_lt_of_le hb hd))).trans (x.2 b hb)⟩

noncomputable def IsSV (kvs : List (Int × Value)) (its : List (Int × Str)) : Prop := F2 (fun kv it => kv.1 = it.1 ∧ ∃ t, kv.2 = Value.str it.2 t) kvs its
theorem IsSV.keys {kvs : List (Int × Value)} {its : List (Int × Str)} (h : IsSV kvs its) : kvs.map (·.1) = its.map (·.1) := by
  induction h with
  | nil => rfl
  | cons h _ ih => rw [List.map_cons, List.map_cons, h.1, ih]
theorem IsSV.append {a b : List (Int × Value)} {x y : List (Int × Str)} (h : IsSV a x) (k : IsSV b y) : IsSV (a ++ b) (x ++ y) := by
  induction h with
  | nil => exact k
  | cons h _ ih => exact .cons h ih
theorem IsSV.length {kvs : List (Int × Value)} {its : List (Int × Str)} (h : IsSV kvs its) : kvs.length = its.length := by
  induction h with
  | nil => rfl
  | cons _ _ ih => simp [ih]

noncomputable def LitP (prog : Program) (w : World) (p : Sem Value × Sem Value) (it : Int × Str) : Prop :=
  (∀ (A : Around) (E : Value → Shared → Prop) (s : Shared) (Q : Value → Shared → Prop), Q (.int it.1 s.toks) { s with toks := s.toks + 1 } → wpAny (model prog w) A p.1 Q E s) ∧
  (∀ (A : Around) (E : Value → Shared → Prop) (s : Shared) (Q : Value → Shared → Prop), Q (.str it.2 s.toks) { s with toks := s.toks + 1 } → wpAny (model prog w) A p.2 Q E s)

theorem stored_fresh {kvs : List (Int × Value)} {k : Int} {v : Value} (h : k ∉ kvs.map (·.1)) : stored kvs k v = kvs ++ [(k, v)] := by
  unfold stored
  rw [if_neg]
  rw [List.any_eq_true]
  rintro ⟨kv, hm, he⟩
  exact h (List.mem_map.mpr ⟨kv, hm, of_decide_eq_true he⟩)

theorem isInt_self (k : Int) (t : Tok) : (intKind prog w).is k (.int k t) = true := by
  show Value.isInt k (.int k t) = true
  simp [Value.isInt]

/-- evaluate and store pair by pair (a display of more than fifteen) -/
theorem wp_longLoop {d : Addr} : ∀ (pairs : List (Sem Value × Sem Value)) (its done : List (Int × Str)) (kvs : List (Int × Value)) (s : Shared) (Q : PUnit → Shared → Prop),
    F2 (LitP prog w) pairs its → ((done ++ its).map (·.1)).Nodup → IsSV kvs done → s.heap.DictOf (intKind prog w) d kvs → done.length + its.length ≤ sizeLine →
    (∀ h' kvs', IsSV kvs' (done ++ its) → h'.DictOf (intKind prog w) d kvs' → Heap.SameBut d s.heap h' → Q PUnit.unit { s with heap := h', toks := s.toks + 3 * its.length }) →
    wpAny (model prog w) A (forIn pairs PUnit.unit fun (x : Sem Value × Sem Value) (_ : PUnit) => (do
      let kv ← x.1
      let vv ← holding [kv] x.2
      holding [kv, vv] (dictSet d kv vv)
      pure (ForInStep.yield PUnit.unit) : Sem (ForInStep PUnit))) Q E s
  | [], [], done, kvs, s, Q, _, _, hsv, hd, _, hQ => by
    rw [List.forIn_nil]
    exact wpAny_pure (by simpa using hQ s.heap kvs (by simpa using hsv) hd (Heap.SameBut.refl _ _))
  | p :: pairs, it :: its, done, kvs, s, Q, hp, hn, hsv, hd, hsz, hQ => by
    cases hp with
    | cons h1 h2 =>
      rw [List.length_cons] at hsz
      rw [List.forIn_cons]
      refine wpAny_bind (wpAny_bind (h1.1 A E s _ ?_))
      refine wpAny_bind (wpAny_holding (h1.2 A E _ _ ?_))
      have hfresh : it.1 ∉ kvs.map (·.1) := by
        rw [hsv.keys]
        intro hm
        rw [List.map_append, List.map_cons, List.nodup_append] at hn
        exact hn.2.2 _ hm _ List.mem_cons_self rfl
      refine wpAny_bind (wpAny_holding (wpAny_dictSet_pairs (knd := intKind prog w) (k := it.1) (kvs := kvs) (isInt_self _ _) hd (fun h₁ hd₁ hs₁ => wpAny_pure ?_) (by rw [hsv.length]; omega)))
      rw [stored_fresh hfresh] at hd₁
      have hsv₁ : IsSV (kvs ++ [(it.1, Value.str it.2 (s.toks + 1))]) (done ++ [it]) := hsv.append (.cons ⟨rfl, _, rfl⟩ .nil)
      refine wp_longLoop pairs its (done ++ [it]) _ _ Q h2 (by simpa using hn) hsv₁ hd₁ (by simp; omega) fun h' kvs' a b c => ?_
      have := hQ h' kvs' (by simpa using a) b (hs₁.trans c)
      have e : s.toks + 3 * (it :: its).length = s.toks + 1 + 1 + 1 + 3 * its.length := by simp; omega
      rw [e] at this
      exact this
  | [], _ :: _, _, _, _, _, hp, _, _, _, _, _ => nomatch hp
  | _ :: _, [], _, _, _, _, hp, _, _, _, _, _ => nomatch hp

/-- the pairs of a short display, evaluated -/
theorem wp_evalLits : ∀ (pairs : List (Sem Value × Sem Value)) (its : List (Int × Str)) (s : Shared) (Q : List (Value × Value) → Shared → Prop),
    F2 (LitP prog w) pairs its →
    (∀ vs, F2 (fun (kv : Value × Value) it => (∃ t, kv.1 = .int it.1 t) ∧ ∃ t, kv.2 = Value.str it.2 t) vs its → Q vs { s with toks := s.toks + 2 * its.length }) →
    wpAny (model prog w) A (evalPairs pairs) Q E s
  | [], [], s, Q, _, hQ => wpAny_pure (by simpa using hQ [] .nil)
  | (k, v) :: pairs, it :: its, s, Q, hp, hQ => by
    cases hp with
    | cons h1 h2 =>
      refine evalPairs_cons (h1.1 A E s _ (h1.2 A E _ _ (wp_evalLits pairs its _ _ h2 fun vs hv => ?_)))
      have := hQ ((Value.int it.1 s.toks, Value.str it.2 (s.toks + 1)) :: vs) (.cons ⟨⟨_, rfl⟩, _, rfl⟩ hv)
      have e : s.toks + 2 * (it :: its).length = s.toks + 1 + 1 + 2 * its.length := by simp; omega
      rw [e] at this
      exact this
  | [], _ :: _, _, _, hp, _ => nomatch hp
  | _ :: _, [], _, _, hp, _ => nomatch hp

theorem carries_of {vs : List (Value × Value)} {its : List (Int × Str)} (h : F2 (fun (kv : Value × Value) it => (∃ t, kv.1 = .int it.1 t) ∧ ∃ t, kv.2 = Value.str it.2 t) vs its) :
    ∃ kvs, Carries (intKind prog w) vs kvs ∧ IsSV kvs its := by
  induction h with
  | nil => exact ⟨[], trivial, .nil⟩
  | @cons kv it vs its h _ ih =>
    obtain ⟨kvs, c, sv⟩ := ih
    obtain ⟨k, v⟩ := kv
    obtain ⟨⟨t, rfl⟩, u, rfl⟩ := h
    exact ⟨(it.1, .str it.2 u) :: kvs, ⟨isInt_self _ _, rfl, c⟩, .cons ⟨rfl, u, rfl⟩ sv⟩

theorem dictOf_push (h : Heap) : (h.push { cls := .type "dict", data := .dict #[] }).DictOf (intKind prog w) h.objs.size [] := Heap.DictOf.new h

theorem wp_subDict {pairs : List (Sem Value × Sem Value)} {its : List (Int × Str)} {s : Shared} {Q : Addr → Shared → Prop} (hp : F2 (LitP prog w) pairs its) (hn : (its.map (·.1)).Nodup) (hl : its.length ≤ 17)
    (hQ : ∀ h' kvs, IsSV kvs its → h'.DictOf (intKind prog w) s.heap.objs.size kvs → Grown s.heap h' 1 → Q s.heap.objs.size { s with heap := h', toks := s.toks + 3 * its.length }) :
    wpAny (model prog w) A (subDict pairs) Q E s := by
  have hlen : pairs.length = its.length := by
    clear hQ hn hl
    induction hp with
    | nil => rfl
    | cons _ _ ih => simp [ih]
  have hsl : 17 ≤ sizeLine := by rw [sizeLine_eq]; decide
  by_cases h15 : pairs.length ≤ 15
  · refine wpAny_subDict (knd := intKind prog w) h15 (wp_evalLits pairs its _ _ hp fun vs hv => ?_)
    obtain ⟨kvs, c, sv⟩ := carries_of (prog := prog) (w := w) hv
    refine ⟨kvs, c, dictOf_push _, fun h' hd hs => ?_⟩
    have hvl : vs.length = its.length := by rw [← sv.length, c.length]
    rw [merged_nil_of_nodup _ (by rw [sv.keys]; exact hn)] at hd
    have := hQ h' kvs sv hd ((Grown.push s.heap _).but hs (Nat.le_refl _))
    have e : s.toks + 3 * its.length = s.toks + 2 * its.length + vs.length := by rw [hvl]; omega
    rw [e] at this
    exact this
  · unfold subDict
    refine wpAny_bind (wpAny_alloc ?_)
    refine wpAny_bind (wpAny_holding ?_)
    rw [if_neg h15]
    refine wpAny_bind (wpAny_rule ?_)
    refine wpAny_bind (wp_longLoop pairs its [] [] _ _ hp (by simpa using hn) .nil (dictOf_push _) (by simp; omega) fun h' kvs sv hd hs => ?_)
    refine wpAny_pure (wpAny_pure ?_)
    exact hQ h' kvs sv hd ((Grown.push s.heap _).but hs (Nat.le_refl _))
end
end Mine
end

section
open PySem PySem.W PyProof.Rows PySem.Calls PySem.F
set_option maxRecDepth 100000
namespace Mine
section
variable {prog : Program} {w : World} {A : Around} {E : Value → Shared → Prop}
theorem wp_dictPut {d : Addr} {kvs : List (Int × Value)} {k : Int} {t : Tok} {v : Value} {s : Shared} {Q : Unit → Shared → Prop} (hm : s.heap.DictOf (intKind prog w) d kvs) (hf : k ∉ kvs.map (·.1)) (hsz : kvs.length ≤ sizeLine)
    (hQ : ∀ h', h'.DictOf (intKind prog w) d (kvs ++ [(k, v)]) → Heap.SameBut d s.heap h' → Q () { s with heap := h' }) :
    wpAny (model prog w) A (dictPut d (hashInt k) (.int k t) v) Q E s := by
  obtain ⟨o, es, ep, ho, hc, hd, hk, hp, hn⟩ := hm
  have hes : es.size ≤ sizeLine := by have e1 := hp.length; have e2 : es.toList.length = es.size := by simp
                                      omega
  have hkey : (intKind prog w).is k (.int k t) = true := isInt_self k t
  unfold dictPut
  refine wpAny_bind (wpAny_dictFind_of (knd := intKind prog w) (k := k) hkey ho hd hk ?_)
  have hidx : (es.findIdx? fun e => (intKind prog w).is k e.key) = kvs.findIdx? fun kv => decide (kv.1 = k) := by
    rw [← hp.findIdx k]; obtain ⟨l⟩ := es; simp
  have hnone : (es.findIdx? fun e => (intKind prog w).is k e.key) = none := by
    rw [hidx, List.findIdx?_eq_none_iff]
    intro kv hkv
    exact decide_eq_false fun e => hf (List.mem_map.mpr ⟨kv, hkv, e⟩)
  rw [hnone]
  refine wpAny_updateDictKeys (hz := hes) ho hd (hQ _ ⟨_, _, ep + 1, Heap.get?_update_self _ ho (Obj.isFreed_of_dict (Obj.data_mapDictKeys hd _)), hc.mapDictKeys _, Obj.data_mapDictKeys hd _, hk.push hkey _, ?_, ?_⟩ (Heap.SameBut.update ..))
  · have := hp.append hkey (hashInt k) v
    obtain ⟨l⟩ := es
    simpa using this
  · rw [List.map_append, List.nodup_append]
    refine ⟨hn, by simp, ?_⟩
    intro a ha b hb
    simp only [List.map_cons, List.map_nil, List.mem_singleton] at hb
    subst hb
    exact fun e => hf (e ▸ ha)

theorem forIn_range_wp {n : Nat} {β : Type} (f : Nat → β → Sem (ForInStep β)) (I : Nat → β → Shared → Prop) (Q : β → Shared → Prop)
    (turn : ∀ i b s, i < n → I i b s → wpAny (model prog w) A (f i b) (fun r s' => match r with | .yield b' => I (i + 1) b' s' | .done b' => Q b' s') E s)
    (fin : ∀ b s, I n b s → Q b s) (b : β) (s : Shared) (h : I 0 b s) : wpAny (model prog w) A (forIn (List.range n) b f) Q E s := by
  refine wpAny_forIn_list f (fun rest b s => ∃ i, i ≤ n ∧ rest = List.range' i (n - i) ∧ I i b s) Q ?_ ?_ _ _ ⟨0, Nat.zero_le _, by rw [List.range_eq_range', Nat.sub_zero], h⟩
  · rintro x rest b s ⟨i, hi, hr, hI⟩
    obtain ⟨k, hk⟩ : ∃ k, n - i = k + 1 := by
      cases hni : n - i with
      | zero => rw [hni] at hr; cases hr
      | succ k => exact ⟨k, rfl⟩
    rw [hk, List.range'_succ] at hr
    injection hr with h1 h2
    subst h1 h2
    have hlt : x < n := by omega
    refine wpAny_mono (turn x b s hlt hI) (fun r s' hr => ?_) fun _ _ e => e
    cases r with
    | done b' => exact hr
    | yield b' => exact ⟨x + 1, hlt, by rw [show n - (x + 1) = k by omega], hr⟩
  · rintro b s ⟨i, hi, hr, hI⟩
    have : i = n := by
      have := congrArg List.length hr
      simp at this; omega
    subst this
    exact fin b s hI

theorem keysOf_get {es : Array DictEntry} {kvs : List (Int × Value)} (hk : KeysOf (intKind prog w) es) (hp : Pairs (intKind prog w) es.toList kvs) {i : Nat} (hi : i < kvs.length) :
    ∃ e t, es[i]? = some e ∧ e.hash = hashInt (kvs[i]).1 ∧ e.key = .int (kvs[i]).1 t ∧ e.val = (kvs[i]).2 := by
  have key : ∀ (l : List DictEntry) (kvs : List (Int × Value)), Pairs (intKind prog w) l kvs → ∀ i (hi : i < kvs.length), ∃ e, l[i]? = some e ∧ (intKind prog w).is (kvs[i]).1 e.key = true ∧ e.val = (kvs[i]).2 := by
    intro l kvs h
    induction h with
    | nil => intro i hi; exact absurd hi (Nat.not_lt_zero _)
    | @cons e kv l kvs h1 h2 _ ih =>
      intro i hi
      cases i with
      | zero => exact ⟨e, rfl, h1, h2⟩
      | succ i =>
        obtain ⟨e', q⟩ := ih i (by simpa using hi)
        exact ⟨e', by simpa using q⟩
  obtain ⟨e, he, h1, h2⟩ := key _ _ hp i hi
  have he' : es[i]? = some e := by rw [← Array.getElem?_toList]; exact he
  obtain ⟨k', hk1, hk2⟩ := hk e (Array.mem_of_getElem? he')
  have hkk : (kvs[i]).1 = k' := (intKind prog w).inj _ _ _ h1 hk1
  obtain ⟨t, ht⟩ := Value.isInt_shape (show Value.isInt (kvs[i]).1 e.key = true from h1)
  exact ⟨e, t, he', by rw [hk2, ← hkk]; rfl, ht, h2⟩

theorem wp_merge {d a : Addr} {kvs more : List (Int × Value)} {s : Shared} {Q : Unit → Shared → Prop} (hda : d ≠ a) (hS : (a == sysModules) = false) (hne : kvs ≠ [])
    (hd : s.heap.DictOf (intKind prog w) d kvs) (ha : s.heap.DictOf (intKind prog w) a more) (hn : ((kvs ++ more).map (·.1)).Nodup) (hsz : kvs.length + more.length ≤ sizeLine)
    (hQ : ∀ h', h'.DictOf (intKind prog w) d (kvs ++ more) → Heap.SameBut d s.heap h' → Q () { s with heap := h' }) :
    wpAny (model prog w) A (mergeMapping d (.ref a) false) Q E s := by
  obtain ⟨oa, esa, epa, hoa, hca, hda', hka, hpa, hna⟩ := id ha
  obtain ⟨od, esd, epd, hod, hcd, hdd, hkd, hpd, hnd⟩ := id hd
  have hlen : esa.size = more.length := by have := hpa.length; simpa using this
  unfold mergeMapping
  refine wpAny_bind (wpAny_isInstance ha.typeIs isSubtype_dict_dict ?_)
  rw [if_pos rfl]
  refine wpAny_bind (wpAny_specialOf ha.typeIs slot_dict_iter.lookup ?_)
  refine wpAny_bind (wpAny_pure ?_)
  rw [show ((some (Value.builtin "dict.__iter__") : Option Value) == some (Value.builtin "dict.__iter__")) = true from by decide +kernel]
  dsimp only
  rw [hS]
  rw [if_neg Bool.false_ne_true]
  refine wpAny_bind (wpAny_dictEntries hod hdd ?_)
  have hde : esd.isEmpty = false := by
    have := hpd.length
    cases hx : esd.isEmpty with
    | false => rfl
    | true =>
      have h0 : esd.size = 0 := by simpa [Array.isEmpty] using hx
      have : kvs.length = 0 := by rw [← this]; simpa using h0
      exact absurd (List.length_eq_zero_iff.mp this) hne
  rw [hde, if_neg Bool.false_ne_true]
  refine wpAny_bind (wpAny_dictEntries hoa hda' ?_)
  refine wpAny_bind (wpAny_dictEpoch hoa hda' ?_)
  refine wpAny_bind (forIn_range_wp _ (fun i _ s' => ∃ h', s' = { s with heap := h' } ∧ h'.DictOf (intKind prog w) d (kvs ++ more.take i) ∧ Heap.SameBut d s.heap h') _ ?_ ?_ _ _
    ⟨s.heap, rfl, by simpa using hd, Heap.SameBut.refl _ _⟩)
  · rintro i b s' hi ⟨h', rfl, hd', hs'⟩
    have hoa' : h'.get? a = some oa := (hs'.2 a (Ne.symm hda)).trans hoa
    rw [hlen] at hi
    obtain ⟨e, t, he, hh, hkey, hval⟩ := keysOf_get hka hpa hi
    refine wpAny_bind (wpAny_dictEntries (s := { s with heap := h' }) hoa' hda' ?_)
    rw [he]
    dsimp only
    refine wpAny_bind (wpAny_holding ?_)
    rw [if_neg Bool.false_ne_true, hh, hkey, hval]
    have hnot : (more[i]).1 ∉ (kvs ++ more.take i).map (·.1) := by
      intro hm
      have e1 : kvs ++ more = (kvs ++ more.take i) ++ more[i] :: more.drop (i + 1) := by
        rw [List.append_assoc, ← List.drop_eq_getElem_cons hi, List.take_append_drop]
      rw [e1, List.map_append, List.map_cons, List.nodup_append] at hn
      exact hn.2.2 _ hm _ List.mem_cons_self rfl
    refine wp_dictPut (s := { s with heap := h' }) hd' hnot (by simp only [List.length_append, List.length_take]; omega) fun h₂ hd₂ hs₂ => ?_
    have hoa₂ : h₂.get? a = some oa := (hs₂.2 a (Ne.symm hda)).trans hoa'
    refine wpAny_bind (wpAny_dictEpoch (s := { s with heap := h₂ }) hoa₂ hda' ?_)
    rw [if_neg (by simp)]
    refine wpAny_pure ⟨h₂, rfl, ?_, hs'.trans hs₂⟩
    rw [List.take_succ_eq_append_getElem hi, ← List.append_assoc]
    exact hd₂
  · rintro b s' ⟨h', rfl, hd', hs'⟩
    refine wpAny_pure (hQ h' ?_ hs')
    rw [hlen, List.take_length] at hd'
    exact hd'
end
end Mine
end

section
open PySem PySem.W PyProof.Rows PySem.Calls PySem.F
set_option maxRecDepth 100000
namespace Mine
section
variable {prog : Program} {w : World} {A : Around} {E : Value → Shared → Prop}

noncomputable def DSt (prog : Program) (w : World) (s : Shared) (done : List (Int × Str)) (m : Nat) (main : Option Addr) (s' : Shared) : Prop :=
  ∃ h', s' = { s with heap := h', toks := s.toks + 3 * done.length } ∧ Grown s.heap h' m ∧
    match main with
    | none => done = [] ∧ m = 0
    | some d => d = s.heap.objs.size ∧ done ≠ [] ∧ ∃ kvs, IsSV kvs done ∧ h'.DictOf (intKind prog w) d kvs

noncomputable def flushD (run : List (Sem Value × Sem Value)) (main : Option Addr) : Sem (Option Addr) := do
      if run.isEmpty then return main
      match main with
      | none => return some (← subDict run)
      | some d =>
        let sub ← holding [.ref d] (subDict run)
        (holding [.ref d, .ref sub] (mergeMapping d (.ref sub) false)).onRaise fun x => do let _ ← holding [.ref d, x] (runValue (.builtin "proto.let_go" {}))
        return some d

theorem wp_flush {s : Shared} (hS : sysModules < s.heap.objs.size) {done : List (Int × Str)} {m : Nat} {main : Option Addr} {run : List (Sem Value × Sem Value)} {its : List (Int × Str)} {s' : Shared} {Q : Option Addr → Shared → Prop}
    (hst : DSt prog w s done m main s') (hp : F2 (LitP prog w) run its) (hne : its ≠ []) (hl : its.length ≤ 17) (hn : ((done ++ its).map (·.1)).Nodup) (hsz : (done ++ its).length ≤ sizeLine)
    (hQ : ∀ d s'', DSt prog w s (done ++ its) (m + 1) (some d) s'' → Q (some d) s'') :
    wpAny (model prog w) A (flushD run main) Q E s' := by
  obtain ⟨h', rfl, hg, hm⟩ := hst
  have hre : run.isEmpty = false := by
    cases hp with
    | nil => exact absurd rfl hne
    | cons _ _ => rfl
  have hni : (its.map (·.1)).Nodup := by
    rw [List.map_append, List.nodup_append] at hn
    exact hn.2.1
  unfold flushD
  rw [hre, if_neg Bool.false_ne_true]
  cases main with
  | none =>
    obtain ⟨rfl, rfl⟩ := hm
    refine wpAny_bind (wp_subDict hp hni hl fun h₂ kvs sv hd g => wpAny_pure (hQ _ _ ⟨h₂, ?_, hg.trans g, ?_, by simpa using hne, kvs, by simpa using sv, hd⟩))
    · simp
    · exact hg.1
  | some d =>
    obtain ⟨rfl, hdn, kvs, sv, hd⟩ := hm
    refine wpAny_bind (wpAny_holding (wp_subDict hp hni hl fun h₂ kvs₂ sv₂ hd₂ g => ?_))
    have hdlt : s.heap.objs.size < h'.objs.size := by obtain ⟨o, _, _, ho, _⟩ := hd; exact Heap.lt_size ho
    have hd' : h₂.DictOf (intKind prog w) s.heap.objs.size kvs := hd.at fun o e => (g.2 _ hdlt).trans e
    refine wpAny_bind (wpAny_onRaise (wpAny_holding (wp_merge (s := { s with heap := h₂, toks := s.toks + 3 * done.length + 3 * its.length }) (Nat.ne_of_lt hdlt) ?_ ?_ hd' hd₂ ?_ ?_ fun h₃ hd₃ hs₃ => wpAny_pure (hQ _ _ ⟨h₃, ?_, (hg.trans g).but hs₃ (Nat.le_refl _), rfl, ?_, _, sv.append sv₂, hd₃⟩))))
    · exact beq_eq_false_iff_ne.mpr (Nat.ne_of_gt (Nat.lt_of_lt_of_le hS (by show _ ≤ h'.objs.size; rw [hg.1]; exact Nat.le_add_right _ _)))
    · intro e; subst e
      cases sv with
      | nil => exact hdn rfl
    · rw [List.map_append, sv.keys, sv₂.keys, ← List.map_append]; exact hn
    · rw [sv.length, sv₂.length, ← List.length_append]; exact hsz
    · simp [Nat.mul_add, Nat.add_assoc]
    · simp [hdn]

theorem wp_display {pairs : List (Sem Value × Sem Value)} {its : List (Int × Str)} {s : Shared} {Q : Value → Shared → Prop} (hS : sysModules < s.heap.objs.size) (hp : F2 (LitP prog w) pairs its) (hne : its ≠ [])
    (hn : (its.map (·.1)).Nodup) (hsz : its.length ≤ sizeLine)
    (hQ : ∀ h' kvs, IsSV kvs its → h'.DictOf (intKind prog w) s.heap.objs.size kvs → Grown s.heap h' ((its.length + 16) / 17) → Q (.ref s.heap.objs.size) { s with heap := h', toks := s.toks + 3 * its.length }) :
    wpAny (model prog w) A (dictDisplay (pairs.map fun p => (some p.1, p.2))) Q E s := by
  unfold dictDisplay
  dsimp only
  refine wpAny_bind (wpAny_forIn_list _ (fun rest st s' => ∃ (prest : List (Sem Value × Sem Value)) (done runI restI : List (Int × Str)) (m : Nat), rest = prest.map (fun p => (some p.1, p.2)) ∧ F2 (LitP prog w) prest restI ∧
      its = done ++ runI ++ restI ∧ F2 (LitP prog w) st.snd runI ∧ runI.length < 17 ∧ done.length = 17 * m ∧ DSt prog w s done m st.fst s') _ ?_ ?_ _ _ ?_)
  · rintro x rest st s' ⟨prest, done, runI, restI, m, hr, hpr, hits, hrun, hlr, hdm, hst⟩
    cases hpr with
    | nil => cases hr
    | @cons p it prest restI h1 h2 =>
      rw [List.map_cons] at hr
      injection hr with e1 e2
      subst e1 e2
      obtain ⟨main, run⟩ := st
      dsimp only at hrun hst ⊢
      have hlen : (run ++ [p]).length = runI.length + 1 := by
        have : ∀ {l : List (Sem Value × Sem Value)} {m : List (Int × Str)}, F2 (LitP prog w) l m → l.length = m.length := fun h => by
          induction h with
          | nil => rfl
          | cons _ _ ih => simp [ih]
        simp [this hrun]
      have hrun' : F2 (LitP prog w) (run ++ [p]) (runI ++ [it]) := by
        clear hlen hits hlr
        induction hrun with
        | nil => exact .cons h1 .nil
        | cons h _ ih => exact .cons h ih
      have hits' : its = done ++ (runI ++ [it]) ++ restI := by rw [hits]; simp
      by_cases h17 : runI.length + 1 = 17
      · have e17 : ((run ++ [(p.fst, p.snd)]).length == 17) = true := by
          show ((run ++ [p]).length == 17) = true
          rw [hlen, h17]; rfl
        rw [if_pos e17]
        refine wpAny_bind (show wpAny (model prog w) A (flushD (run ++ [p]) main) _ E s' from wp_flush hS hst hrun' (by simp) (by simp; omega) ?_ ?_ fun d s'' hst' => wpAny_pure ⟨prest, done ++ (runI ++ [it]), [], restI, m + 1, rfl, h2, by simpa using hits', .nil, by decide, by simp; omega, hst'⟩)
        · rw [hits', List.map_append, List.nodup_append] at hn; exact hn.1
        · rw [hits', List.length_append] at hsz; exact Nat.le_trans (Nat.le_add_right _ _) hsz
      · have e17 : ¬ (((run ++ [(p.fst, p.snd)]).length == 17) = true) := by
          show ¬ (((run ++ [p]).length == 17) = true)
          rw [hlen]; simpa using h17
        rw [if_neg e17]
        exact wpAny_pure ⟨prest, done, runI ++ [it], restI, m, rfl, h2, hits', hrun', by simp; omega, hdm, hst⟩
  · rintro ⟨main, run⟩ s' ⟨prest, done, runI, restI, m, hr, hpr, hits, hrun, hlr, hdm, hst⟩
    dsimp only at hrun hst ⊢
    cases prest with
    | cons _ _ => cases hr
    | nil =>
      cases hpr
      rw [List.append_nil] at hits
      by_cases hrn : runI = []
      · subst hrn
        cases hrun
        rw [List.append_nil] at hits
        subst hits
        rw [if_pos (show ([] : List (Sem Value × Sem Value)).isEmpty = true from rfl)]
        refine wpAny_bind (wpAny_pure ?_)
        obtain ⟨h', rfl, hg, hm⟩ := hst
        cases main with
        | none => exact absurd hm.1 hne
        | some d =>
          obtain ⟨rfl, _, kvs, sv, hd⟩ := hm
          refine wpAny_pure (hQ h' kvs sv hd ?_)
          rw [hdm, show (17 * m + 16) / 17 = m by omega]; exact hg
      · refine wpAny_bind (show wpAny (model prog w) A (flushD run main) _ E s' from wp_flush hS hst hrun hrn (by omega) (by rw [← hits]; exact hn) (by rw [← hits]; exact hsz) fun d s'' hst' => ?_)
        obtain ⟨h', rfl, hg, rfl, _, kvs, sv, hd⟩ := hst'
        rw [← hits] at sv ⊢
        refine wpAny_pure (hQ h' kvs sv hd ?_)
        have hl : its.length = done.length + runI.length := by rw [hits, List.length_append]
        have : 0 < runI.length := List.length_pos_iff.mpr hrn
        rw [show (its.length + 16) / 17 = m + 1 by omega]; exact hg
  · exact ⟨pairs, [], [], its, 0, rfl, hp, rfl, .nil, by decide, rfl, s.heap, by simp, Grown.refl _, rfl, rfl⟩
end
end Mine
end

section
open PySem PySem.W PyProof.Rows PySem.Calls PySem.F
set_option maxRecDepth 100000
namespace Mine
/-- the int keys and text values of a written dict; none where one is no literal -/
noncomputable def litInt : Option Expr → Option Int
  | some (.Constant (.int k) _ _) => some k
  | _ => none
noncomputable def litStr : Expr → Option Str
  | .Constant (.str v) _ _ => some v
  | _ => none
noncomputable def litItems : List (Option Expr) → List Expr → Option (List (Int × Str))
  | [], [] => some []
  | k :: ks, v :: vs => match litInt k with
    | some a => match litStr v with
      | some b => (litItems ks vs).map ((a, b) :: ·)
      | none => none
    | none => none
  | _, _ => none
theorem litInt_spec {k : Option Expr} {a : Int} (h : litInt k = some a) : ∃ n p, k = some (.Constant (.int a) n p) := by
  unfold litInt at h
  split at h
  · cases h; exact ⟨_, _, rfl⟩
  · cases h
theorem litStr_spec {v : Expr} {b : Str} (h : litStr v = some b) : ∃ n p, v = .Constant (.str b) n p := by
  unfold litStr at h
  split at h
  · cases h; exact ⟨_, _, rfl⟩
  · cases h
theorem litItems_spec {prog : Program} {w : World} (env : Env) (pos : Pos) : ∀ (ks : List (Option Expr)) (vs : List Expr) (its : List (Int × Str)), litItems ks vs = some its →
    F2 (LitP prog w) (pairTrees ks vs env pos) its ∧ ks.all (·.isSome) = true ∧ ks.length = vs.length
  | [], [], its, h => by cases h; exact ⟨.nil, rfl, rfl⟩
  | [], _ :: _, its, h => nomatch h
  | _ :: _, [], its, h => nomatch h
  | k :: ks, v :: vs, its, h => by
    have h1 : (match litInt k with | some a => (match litStr v with | some b => (litItems ks vs).map ((a, b) :: ·) | none => none) | none => none) = some its := h
    cases hk : litInt k with
    | none => rw [hk] at h1; cases h1
    | some a =>
      rw [hk] at h1
      dsimp only at h1
      cases hv : litStr v with
      | none => rw [hv] at h1; cases h1
      | some b =>
        rw [hv] at h1
        dsimp only at h1
        obtain ⟨its', h', rfl⟩ := Option.map_eq_some_iff.mp h1
        obtain ⟨x, y, z⟩ := litItems_spec env pos ks vs its' h'
        obtain ⟨n₁, p₁, rfl⟩ := litInt_spec hk
        obtain ⟨n₂, p₂, rfl⟩ := litStr_spec hv
        refine ⟨.cons ⟨fun A E s Q hQ => wpAny_Constant_int (env := env) (k := n₁) (pos := p₁) hQ, fun A E s Q hQ => wpAny_bind (wpAny_Constant_str (env := env) (k := n₂) (pos := p₂) (wpAny_bind (wpAny_standAt (wpAny_pure hQ))))⟩ x, by simpa using y, by simpa using z⟩

section
variable {prog : Program} {w : World} {A : Around} {E : Value → Shared → Prop}
theorem wp_DictLit {ks : List (Option Expr)} {vs : List Expr} {pos : Pos} {env : Env} {its : List (Int × Str)} {s : Shared} {Q : Value → Shared → Prop} (hS : sysModules < s.heap.objs.size) (hit : litItems ks vs = some its) (hne : its ≠ [])
    (hn : (its.map (·.1)).Nodup) (hsz : its.length ≤ sizeLine)
    (hQ : ∀ h' kvs, IsSV kvs its → h'.DictOf (intKind prog w) s.heap.objs.size kvs → Grown s.heap h' ((its.length + 16) / 17) → Q (.ref s.heap.objs.size) { s with heap := h', toks := s.toks + 3 * its.length }) :
    wpAny (model prog w) A (eval (.Dict ks vs pos) env) Q E s := by
  obtain ⟨hp, hall, hl⟩ := litItems_spec (prog := prog) (w := w) env pos ks vs its hit
  rw [arm_eval_Dict, zip_pairTrees ks vs env pos hall hl]
  exact wpAny_bind (wpAny_standAt (wp_display hS hp hne hn hsz hQ))
end

/-- rising keys are apart -/
noncomputable def risingI : List Int → Bool
  | a :: b :: r => decide (a < b) && risingI (b :: r)
  | _ => true
theorem risingI_lt : ∀ (l : List Int) (a : Int), risingI (a :: l) = true → ∀ b ∈ l, a < b
  | [], _, _, _, h => nomatch h
  | c :: r, a, h, b, hb => by
    simp only [risingI, Bool.and_eq_true, decide_eq_true_eq] at h
    cases hb with
    | head => exact h.1
    | tail _ hb => exact Int.lt_trans h.1 (risingI_lt r c h.2 b hb)
theorem risingI_nodup : ∀ (l : List Int), risingI l = true → l.Nodup
  | [], _ => List.nodup_nil
  | [a], _ => by simp
  | a :: b :: r, h => by
    have h' := h
    simp only [risingI, Bool.and_eq_true] at h'
    refine List.nodup_cons.mpr ⟨fun hm => ?_, risingI_nodup (b :: r) h'.2⟩
    exact Int.lt_irrefl a (risingI_lt _ _ h a hm)

/-- a grown heap, as a list of objects -/
theorem grown_objs {h h' : Heap} {n : Nat} (g : Grown h h' n) (live : ∀ b, b < h.objs.size → (h.get? b).isSome = true) :
    ∃ (os : List Obj), os.length = n ∧ h' = ⟨(h.objs.toList ++ os).toArray, h'.life⟩ := by
  obtain ⟨⟨l⟩, lf⟩ := h
  obtain ⟨⟨l'⟩, lf'⟩ := h'
  have hs : l'.length = l.length + n := g.1
  refine ⟨l'.drop l.length, by rw [List.length_drop]; omega, ?_⟩
  have e : l' = l ++ l'.drop l.length := by
    conv => lhs; rw [← List.take_append_drop l.length l']
    congr 1
    refine List.ext_getElem (by rw [List.length_take]; omega) fun i h1 h2 => ?_
    rw [List.getElem_take]
    have q := g.2 i h2
    have r := live i h2
    have raw : ∀ {m : List Obj} {lf : Life} {o : Obj} (b : Nat), Heap.get? ⟨⟨m⟩, lf⟩ b = some o → m[b]? = some o := by
      intro m lf o b e
      unfold Heap.get? at e
      split at e
      · cases e
      · simpa using e
    obtain ⟨o, ho⟩ := Option.isSome_iff_exists.mp r
    have ho' := q.trans ho
    have a := raw _ ho
    have b := raw _ ho'
    rw [List.getElem?_eq_getElem h2] at a
    rw [List.getElem?_eq_getElem (by omega)] at b
    exact Option.some.inj (b.trans a.symm)
  show (⟨⟨l'⟩, lf'⟩ : Heap) = ⟨⟨l ++ l'.drop l.length⟩, lf'⟩
  rw [← e]
end Mine
end

section
open PySem PySem.W PyProof.Rows PySem.Sem
namespace Mine
noncomputable abbrev CallEv := Ctx → Pos → Shared → Option (Result × Shared)

noncomputable def evS (M : Model) (ce : CallEv) (Γ : Ctx) {α : Type} : Sem α → Pos → Shared → Option (Except Value α × Pos × Shared)
  | .pure a, p, s => some (.ok a, p, s)
  | .raise e, p, s => some (.error e, p, s)
  | .unsupported _, _, _ => none
  | .finish _, _, _ => none
  | .rule _ k, p, s => evS M ce Γ (k ()) p s
  | .at p' k, _, s => evS M ce Γ (k ()) p' s
  | .load a _ k, p, s => (s.heap.get? a).bind fun o => evS M ce Γ (k o) p s
  | .update a _ f k, p, s => match s.heap.get? a with
    | some _ => evS M ce Γ (k ()) p { s with heap := s.heap.update a f }
    | none => none
  | .loadIfAlive a k, p, s => evS M ce Γ (k (s.heap.get? a)) p s
  | .point _ k, p, s => evS M ce Γ (k ()) p s
  | .register _ _, _, _ => none
  | .alloc o k, p, s => evS M ce Γ (k s.heap.objs.size) p { s with heap := s.heap.push o }
  | .fresh k, p, s => evS M ce Γ (k s.toks) p { s with toks := s.toks + 1 }
  | .ask k, p, s => evS M ce Γ (k ⟨M.prog, M.w.params⟩) p s
  | .choose _ _ _, _, _ => none
  | .os _ _ _, _, _ => none
  | .call c h _ _ k, p, s => (ce (Γ.enter c h p) p s).bind fun x => evS M ce Γ (k x.1) p x.2
  | .handled own k, p, s => evS M ce Γ (k (if own then Γ.own else Γ.handled)) p s
  | .genState _ _, _, _ => none
  | .newGen _ _, _, _ => none
  | .resume _ _ _ _, _, _ => none
  | .yield _ _ _ _, _, _ => none
  | .stack k, p, s => evS M ce Γ (k ((Γ.code, p) :: Γ.below)) p s
  | .fork _ _, _, _ => none
  | .thread k, p, s => evS M ce Γ (k 0) p s
  | .await _ _ _ _ _, _, _ => none

theorem evS_sound {M : Model} {ce : CallEv} (hce : ∀ Γ p s r s', ce Γ p s = some (r, s') → Returns M Γ p s r s') (Γ : Ctx) {α : Type} (t : Sem α) :
    ∀ (p : Pos) (s : Shared) (r : Except Value α) (p' : Pos) (s' : Shared) (Q : α → Pos → Shared → Prop) (E : Value → Pos → Shared → Prop), evS M ce Γ t p s = some (r, p', s') →
      (match r with | .ok a => Q a p' s' | .error e => E e p' s') → wp M Γ t Q E p s := by
  induction t with
  | pure a =>
    intro p s r p' s' Q E h k
    have h : some (Except.ok a, p, s) = some (r, p', s') := h
    cases h; exact k
  | raise e =>
    intro p s r p' s' Q E h k
    have h : some (Except.error e, p, s) = some (r, p', s') := h
    cases h; exact k
  | unsupported _ => exact fun p s r p' s' Q E h _ => nomatch (show (none : Option (Except Value α × Pos × Shared)) = _ from h)
  | finish _ => exact fun p s r p' s' Q E h _ => nomatch (show (none : Option (Except Value α × Pos × Shared)) = _ from h)
  | register _ _ => exact fun p s r p' s' Q E h _ => nomatch (show (none : Option (Except Value α × Pos × Shared)) = _ from h)
  | choose _ _ _ => exact fun p s r p' s' Q E h _ => nomatch (show (none : Option (Except Value α × Pos × Shared)) = _ from h)
  | os _ _ _ => exact fun p s r p' s' Q E h _ => nomatch (show (none : Option (Except Value α × Pos × Shared)) = _ from h)
  | genState _ _ => exact fun p s r p' s' Q E h _ => nomatch (show (none : Option (Except Value α × Pos × Shared)) = _ from h)
  | newGen _ _ => exact fun p s r p' s' Q E h _ => nomatch (show (none : Option (Except Value α × Pos × Shared)) = _ from h)
  | resume _ _ _ _ => exact fun p s r p' s' Q E h _ => nomatch (show (none : Option (Except Value α × Pos × Shared)) = _ from h)
  | yield _ _ _ _ => exact fun p s r p' s' Q E h _ => nomatch (show (none : Option (Except Value α × Pos × Shared)) = _ from h)
  | fork _ _ => exact fun p s r p' s' Q E h _ => nomatch (show (none : Option (Except Value α × Pos × Shared)) = _ from h)
  | await _ _ _ _ _ => exact fun p s r p' s' Q E h _ => nomatch (show (none : Option (Except Value α × Pos × Shared)) = _ from h)
  | rule _ k ih => exact fun p s r p' s' Q E h q => ih () p s r p' s' Q E h q
  | «at» p₀ k ih => exact fun p s r p' s' Q E h q => ih () p₀ s r p' s' Q E h q
  | point _ k ih => exact fun p s r p' s' Q E h q => ih () p s r p' s' Q E h q
  | fresh k ih => exact fun p s r p' s' Q E h q => ih s.toks p _ r p' s' Q E h q
  | ask k ih => exact fun p s r p' s' Q E h q => ih _ p s r p' s' Q E h q
  | handled _ k ih => exact fun p s r p' s' Q E h q => ih _ p s r p' s' Q E h q
  | stack k ih => exact fun p s r p' s' Q E h q => ih _ p s r p' s' Q E h q
  | thread k ih => exact fun p s r p' s' Q E h q => ih _ p s r p' s' Q E h q
  | alloc _ k ih => exact fun p s r p' s' Q E h q => ih _ p _ r p' s' Q E h q
  | loadIfAlive _ k ih => exact fun p s r p' s' Q E h q => ih _ p s r p' s' Q E h q
  | load a part k ih =>
    intro p s r p' s' Q E h q
    have h : ((s.heap.get? a).bind fun o => evS M ce Γ (k o) p s) = some (r, p', s') := h
    cases ho : s.heap.get? a with
    | none => rw [ho] at h; cases h
    | some o => rw [ho] at h; exact ⟨o, ho, ih o p s r p' s' Q E h q⟩
  | update a part f k ih =>
    intro p s r p' s' Q E h q
    have h : (match s.heap.get? a with | some _ => evS M ce Γ (k ()) p { s with heap := s.heap.update a f } | none => none) = some (r, p', s') := h
    cases ho : s.heap.get? a with
    | none => rw [ho] at h; cases h
    | some o => rw [ho] at h; exact ⟨by rw [ho]; rfl, ih () p _ r p' s' Q E h q⟩
  | call c hd g l k ih =>
    intro p s r p' s' Q E h q
    have h : ((ce (Γ.enter c hd p) p s).bind fun x => evS M ce Γ (k x.1) p x.2) = some (r, p', s') := h
    cases hc : ce (Γ.enter c hd p) p s with
    | none => rw [hc] at h; cases h
    | some x => rw [hc] at h; exact ⟨x.1, x.2, hce _ _ _ _ _ hc, ih _ p _ r p' s' Q E h q⟩

noncomputable def evC (M : Model) : Nat → CallEv
  | 0 => fun _ _ _ => none
  | n + 1 => fun Γ p s => match evS M (evC M n) Γ (M.den Γ.code) p s with
    | some (.ok (.done f), _, s') => some (.ok f, s')
    | some (.ok (.again c), p', s') => if c.quiet then evC M n (Γ.goto c) p' s' else none
    | some (.error e, _, s') => some (.error e, s')
    | none => none

theorem evC_sound (M : Model) : ∀ (n : Nat) (Γ : Ctx) (p : Pos) (s : Shared) (r : Result) (s' : Shared), evC M n Γ p s = some (r, s') → Returns M Γ p s r s'
  | 0, Γ, p, s, r, s', h => by simp [evC] at h
  | n + 1, Γ, p, s, r, s', h => by
    unfold evC at h
    have key : wp M Γ (M.den Γ.code) (finPost M Γ fun r₁ s₁ => r₁ = r ∧ s₁ = s') (fun e _ s₁ => Except.error e = r ∧ s₁ = s') p s := by
      cases h₁ : evS M (evC M n) Γ (M.den Γ.code) p s with
      | none => rw [h₁] at h; cases h
      | some x =>
        obtain ⟨r₁, p₁, s₁⟩ := x
        rw [h₁] at h
        refine evS_sound (evC_sound M n) Γ _ p s r₁ p₁ s₁ _ _ h₁ ?_
        cases r₁ with
        | error e => simp only [Option.some.injEq, Prod.mk.injEq] at h; exact h
        | ok fin =>
          cases fin with
          | done f => simp only [Option.some.injEq, Prod.mk.injEq] at h; exact h
          | again c =>
            simp only at h
            split at h
            · rename_i hq
              exact ⟨hq, r, s', evC_sound M n _ _ _ _ _ h, rfl, rfl⟩
            · cases h
    obtain ⟨r₁, s₁, hr, rfl, rfl⟩ := (wp_iff_runs M Γ (M.den Γ.code) (fun r₁ s₁ => r₁ = r ∧ s₁ = s') p s).mp key
    exact hr
end Mine
end

section
open PySem PySem.W PyProof.Rows PySem.Calls
set_option maxRecDepth 100000
set_option Elab.async false
set_option linter.unusedVariables false
noncomputable section
namespace Mine
noncomputable abbrev prg : Program := Challenge.pw_un0048_01
noncomputable def noArgs : Arguments := ⟨[], [], none, [], [], none, []⟩
noncomputable def stAt : List Nat → Option Stmt
  | [i] => prg.main.body[i]?
  | [i, j] => match prg.main.body[i]? with
    | some (.ClassDef _ _ _ b _ _ _ _ _ _ _) => b[j]?
    | _ => none
  | _ => none
noncomputable def fnParams (p : List Nat) : Arguments := match stAt p with
  | some (.FunctionDef _ a _ _ _ _ _ _ _ _) => a
  | _ => noArgs
noncomputable def fnBody (p : List Nat) : List Stmt := match stAt p with
  | some (.FunctionDef _ _ b _ _ _ _ _ _ _) => b
  | _ => []
noncomputable def fnScope (p : List Nat) : Scope := match stAt p with
  | some (.FunctionDef _ _ _ _ _ _ sc _ _ _) => sc
  | _ => prg.main.scope
noncomputable def z0 (P : Params) : Obj := ⟨(.type "dict"), none, (.dict #[⟨(PyData.keyHash P (PySem.Str.ofString "__name__")), (.str (PySem.Str.ofString "__name__") 1), (.str (PySem.Str.ofString "builtins") 160)⟩, ⟨(PyData.keyHash P (PySem.Str.ofString "__doc__")), (.str (PySem.Str.ofString "__doc__") 2), (.builtin "builtins.__doc__:str#opaque")⟩, ⟨(PyData.keyHash P (PySem.Str.ofString "__package__")), (.str (PySem.Str.ofString "__package__") 3), (.builtin "builtins.__package__:str#opaque")⟩, ⟨(PyData.keyHash P (PySem.Str.ofString "__loader__")), (.str (PySem.Str.ofString "__loader__") 4), (.builtin "builtins.__loader__:shared#opaque")⟩, ⟨(PyData.keyHash P (PySem.Str.ofString "__spec__")), (.str (PySem.Str.ofString "__spec__") 5), (.builtin "builtins.__spec__#opaque")⟩, ⟨(PyData.keyHash P (PySem.Str.ofString "__build_class__")), (.str (PySem.Str.ofString "__build_class__") 6), (.builtin "__build_class__")⟩, ⟨(PyData.keyHash P (PySem.Str.ofString "__import__")), (.str (PySem.Str.ofString "__import__") 7), (.builtin "__import__")⟩, ⟨(PyData.keyHash P (PySem.Str.ofString "abs")), (.str (PySem.Str.ofString "abs") 8), (.builtin "abs")⟩, ⟨(PyData.keyHash P (PySem.Str.ofString "all")), (.str (PySem.Str.ofString "all") 9), (.builtin "all")⟩, ⟨(PyData.keyHash P (PySem.Str.ofString "any")), (.str (PySem.Str.ofString "any") 10), (.builtin "any")⟩, ⟨(PyData.keyHash P (PySem.Str.ofString "ascii")), (.str (PySem.Str.ofString "ascii") 11), (.builtin "ascii")⟩, ⟨(PyData.keyHash P (PySem.Str.ofString "bin")), (.str (PySem.Str.ofString "bin") 12), (.builtin "bin")⟩, ⟨(PyData.keyHash P (PySem.Str.ofString "breakpoint")), (.str (PySem.Str.ofString "breakpoint") 13), (.builtin "breakpoint")⟩, ⟨(PyData.keyHash P (PySem.Str.ofString "callable")), (.str (PySem.Str.ofString "callable") 14), (.builtin "callable")⟩, ⟨(PyData.keyHash P (PySem.Str.ofString "chr")), (.str (PySem.Str.ofString "chr") 15), (.builtin "chr")⟩, ⟨(PyData.keyHash P (PySem.Str.ofString "compile")), (.str (PySem.Str.ofString "compile") 16), (.builtin "compile")⟩, ⟨(PyData.keyHash P (PySem.Str.ofString "delattr")), (.str (PySem.Str.ofString "delattr") 17), (.builtin "delattr")⟩, ⟨(PyData.keyHash P (PySem.Str.ofString "dir")), (.str (PySem.Str.ofString "dir") 18), (.builtin "dir")⟩, ⟨(PyData.keyHash P (PySem.Str.ofString "divmod")), (.str (PySem.Str.ofString "divmod") 19), (.builtin "divmod")⟩, ⟨(PyData.keyHash P (PySem.Str.ofString "eval")), (.str (PySem.Str.ofString "eval") 20), (.builtin "eval")⟩, ⟨(PyData.keyHash P (PySem.Str.ofString "exec")), (.str (PySem.Str.ofString "exec") 21), (.builtin "exec")⟩, ⟨(PyData.keyHash P (PySem.Str.ofString "format")), (.str (PySem.Str.ofString "format") 22), (.builtin "format")⟩, ⟨(PyData.keyHash P (PySem.Str.ofString "getattr")), (.str (PySem.Str.ofString "getattr") 23), (.builtin "getattr")⟩, ⟨(PyData.keyHash P (PySem.Str.ofString "globals")), (.str (PySem.Str.ofString "globals") 24), (.builtin "globals")⟩, ⟨(PyData.keyHash P (PySem.Str.ofString "hasattr")), (.str (PySem.Str.ofString "hasattr") 25), (.builtin "hasattr")⟩, ⟨(PyData.keyHash P (PySem.Str.ofString "hash")), (.str (PySem.Str.ofString "hash") 26), (.builtin "hash")⟩, ⟨(PyData.keyHash P (PySem.Str.ofString "hex")), (.str (PySem.Str.ofString "hex") 27), (.builtin "hex")⟩, ⟨(PyData.keyHash P (PySem.Str.ofString "id")), (.str (PySem.Str.ofString "id") 28), (.builtin "id")⟩, ⟨(PyData.keyHash P (PySem.Str.ofString "input")), (.str (PySem.Str.ofString "input") 29), (.builtin "input")⟩, ⟨(PyData.keyHash P (PySem.Str.ofString "isinstance")), (.str (PySem.Str.ofString "isinstance") 30), (.builtin "isinstance")⟩, ⟨(PyData.keyHash P (PySem.Str.ofString "issubclass")), (.str (PySem.Str.ofString "issubclass") 31), (.builtin "issubclass")⟩, ⟨(PyData.keyHash P (PySem.Str.ofString "iter")), (.str (PySem.Str.ofString "iter") 32), (.builtin "iter")⟩, ⟨(PyData.keyHash P (PySem.Str.ofString "aiter")), (.str (PySem.Str.ofString "aiter") 33), (.builtin "aiter")⟩, ⟨(PyData.keyHash P (PySem.Str.ofString "len")), (.str (PySem.Str.ofString "len") 34), (.builtin "len")⟩, ⟨(PyData.keyHash P (PySem.Str.ofString "locals")), (.str (PySem.Str.ofString "locals") 35), (.builtin "locals")⟩, ⟨(PyData.keyHash P (PySem.Str.ofString "max")), (.str (PySem.Str.ofString "max") 36), (.builtin "max")⟩, ⟨(PyData.keyHash P (PySem.Str.ofString "min")), (.str (PySem.Str.ofString "min") 37), (.builtin "min")⟩, ⟨(PyData.keyHash P (PySem.Str.ofString "next")), (.str (PySem.Str.ofString "next") 38), (.builtin "next")⟩, ⟨(PyData.keyHash P (PySem.Str.ofString "anext")), (.str (PySem.Str.ofString "anext") 39), (.builtin "anext")⟩, ⟨(PyData.keyHash P (PySem.Str.ofString "oct")), (.str (PySem.Str.ofString "oct") 40), (.builtin "oct")⟩, ⟨(PyData.keyHash P (PySem.Str.ofString "ord")), (.str (PySem.Str.ofString "ord") 41), (.builtin "ord")⟩, ⟨(PyData.keyHash P (PySem.Str.ofString "pow")), (.str (PySem.Str.ofString "pow") 42), (.builtin "pow")⟩, ⟨(PyData.keyHash P (PySem.Str.ofString "print")), (.str (PySem.Str.ofString "print") 43), (.builtin "print")⟩, ⟨(PyData.keyHash P (PySem.Str.ofString "repr")), (.str (PySem.Str.ofString "repr") 44), (.builtin "repr")⟩, ⟨(PyData.keyHash P (PySem.Str.ofString "round")), (.str (PySem.Str.ofString "round") 45), (.builtin "round")⟩, ⟨(PyData.keyHash P (PySem.Str.ofString "setattr")), (.str (PySem.Str.ofString "setattr") 46), (.builtin "setattr")⟩, ⟨(PyData.keyHash P (PySem.Str.ofString "sorted")), (.str (PySem.Str.ofString "sorted") 47), (.builtin "sorted")⟩, ⟨(PyData.keyHash P (PySem.Str.ofString "sum")), (.str (PySem.Str.ofString "sum") 48), (.builtin "sum")⟩, ⟨(PyData.keyHash P (PySem.Str.ofString "vars")), (.str (PySem.Str.ofString "vars") 49), (.builtin "vars")⟩, ⟨(PyData.keyHash P (PySem.Str.ofString "None")), (.str (PySem.Str.ofString "None") 50), .none⟩, ⟨(PyData.keyHash P (PySem.Str.ofString "Ellipsis")), (.str (PySem.Str.ofString "Ellipsis") 51), .ellipsis⟩, ⟨(PyData.keyHash P (PySem.Str.ofString "NotImplemented")), (.str (PySem.Str.ofString "NotImplemented") 52), .notImplemented⟩, ⟨(PyData.keyHash P (PySem.Str.ofString "False")), (.str (PySem.Str.ofString "False") 53), (.bool false)⟩, ⟨(PyData.keyHash P (PySem.Str.ofString "True")), (.str (PySem.Str.ofString "True") 54), (.bool true)⟩, ⟨(PyData.keyHash P (PySem.Str.ofString "bool")), (.str (PySem.Str.ofString "bool") 55), (.type "bool")⟩, ⟨(PyData.keyHash P (PySem.Str.ofString "memoryview")), (.str (PySem.Str.ofString "memoryview") 56), (.type "memoryview")⟩, ⟨(PyData.keyHash P (PySem.Str.ofString "bytearray")), (.str (PySem.Str.ofString "bytearray") 57), (.type "bytearray")⟩, ⟨(PyData.keyHash P (PySem.Str.ofString "bytes")), (.str (PySem.Str.ofString "bytes") 58), (.type "bytes")⟩, ⟨(PyData.keyHash P (PySem.Str.ofString "classmethod")), (.str (PySem.Str.ofString "classmethod") 59), (.type "classmethod")⟩, ⟨(PyData.keyHash P (PySem.Str.ofString "complex")), (.str (PySem.Str.ofString "complex") 60), (.type "complex")⟩, ⟨(PyData.keyHash P (PySem.Str.ofString "dict")), (.str (PySem.Str.ofString "dict") 61), (.type "dict")⟩, ⟨(PyData.keyHash P (PySem.Str.ofString "enumerate")), (.str (PySem.Str.ofString "enumerate") 62), (.type "enumerate")⟩, ⟨(PyData.keyHash P (PySem.Str.ofString "filter")), (.str (PySem.Str.ofString "filter") 63), (.type "filter")⟩, ⟨(PyData.keyHash P (PySem.Str.ofString "float")), (.str (PySem.Str.ofString "float") 64), (.type "float")⟩, ⟨(PyData.keyHash P (PySem.Str.ofString "frozenset")), (.str (PySem.Str.ofString "frozenset") 65), (.type "frozenset")⟩, ⟨(PyData.keyHash P (PySem.Str.ofString "property")), (.str (PySem.Str.ofString "property") 66), (.type "property")⟩, ⟨(PyData.keyHash P (PySem.Str.ofString "int")), (.str (PySem.Str.ofString "int") 67), (.type "int")⟩, ⟨(PyData.keyHash P (PySem.Str.ofString "list")), (.str (PySem.Str.ofString "list") 68), (.type "list")⟩, ⟨(PyData.keyHash P (PySem.Str.ofString "map")), (.str (PySem.Str.ofString "map") 69), (.type "map")⟩, ⟨(PyData.keyHash P (PySem.Str.ofString "object")), (.str (PySem.Str.ofString "object") 70), (.type "object")⟩, ⟨(PyData.keyHash P (PySem.Str.ofString "range")), (.str (PySem.Str.ofString "range") 71), (.type "range")⟩, ⟨(PyData.keyHash P (PySem.Str.ofString "reversed")), (.str (PySem.Str.ofString "reversed") 72), (.type "reversed")⟩, ⟨(PyData.keyHash P (PySem.Str.ofString "set")), (.str (PySem.Str.ofString "set") 73), (.type "set")⟩, ⟨(PyData.keyHash P (PySem.Str.ofString "slice")), (.str (PySem.Str.ofString "slice") 74), (.type "slice")⟩, ⟨(PyData.keyHash P (PySem.Str.ofString "staticmethod")), (.str (PySem.Str.ofString "staticmethod") 75), (.type "staticmethod")⟩, ⟨(PyData.keyHash P (PySem.Str.ofString "str")), (.str (PySem.Str.ofString "str") 76), (.type "str")⟩, ⟨(PyData.keyHash P (PySem.Str.ofString "super")), (.str (PySem.Str.ofString "super") 77), (.type "super")⟩, ⟨(PyData.keyHash P (PySem.Str.ofString "tuple")), (.str (PySem.Str.ofString "tuple") 78), (.type "tuple")⟩, ⟨(PyData.keyHash P (PySem.Str.ofString "type")), (.str (PySem.Str.ofString "type") 79), (.type "type")⟩, ⟨(PyData.keyHash P (PySem.Str.ofString "zip")), (.str (PySem.Str.ofString "zip") 80), (.type "zip")⟩, ⟨(PyData.keyHash P (PySem.Str.ofString "__debug__")), (.str (PySem.Str.ofString "__debug__") 81), (.bool true)⟩, ⟨(PyData.keyHash P (PySem.Str.ofString "BaseException")), (.str (PySem.Str.ofString "BaseException") 82), (.type "BaseException")⟩, ⟨(PyData.keyHash P (PySem.Str.ofString "BaseExceptionGroup")), (.str (PySem.Str.ofString "BaseExceptionGroup") 83), (.type "BaseExceptionGroup")⟩, ⟨(PyData.keyHash P (PySem.Str.ofString "Exception")), (.str (PySem.Str.ofString "Exception") 84), (.type "Exception")⟩, ⟨(PyData.keyHash P (PySem.Str.ofString "GeneratorExit")), (.str (PySem.Str.ofString "GeneratorExit") 85), (.type "GeneratorExit")⟩, ⟨(PyData.keyHash P (PySem.Str.ofString "KeyboardInterrupt")), (.str (PySem.Str.ofString "KeyboardInterrupt") 86), (.type "KeyboardInterrupt")⟩, ⟨(PyData.keyHash P (PySem.Str.ofString "SystemExit")), (.str (PySem.Str.ofString "SystemExit") 87), (.type "SystemExit")⟩, ⟨(PyData.keyHash P (PySem.Str.ofString "ArithmeticError")), (.str (PySem.Str.ofString "ArithmeticError") 88), (.type "ArithmeticError")⟩, ⟨(PyData.keyHash P (PySem.Str.ofString "AssertionError")), (.str (PySem.Str.ofString "AssertionError") 89), (.type "AssertionError")⟩, ⟨(PyData.keyHash P (PySem.Str.ofString "AttributeError")), (.str (PySem.Str.ofString "AttributeError") 90), (.type "AttributeError")⟩, ⟨(PyData.keyHash P (PySem.Str.ofString "BufferError")), (.str (PySem.Str.ofString "BufferError") 91), (.type "BufferError")⟩, ⟨(PyData.keyHash P (PySem.Str.ofString "EOFError")), (.str (PySem.Str.ofString "EOFError") 92), (.type "EOFError")⟩, ⟨(PyData.keyHash P (PySem.Str.ofString "ImportError")), (.str (PySem.Str.ofString "ImportError") 93), (.type "ImportError")⟩, ⟨(PyData.keyHash P (PySem.Str.ofString "LookupError")), (.str (PySem.Str.ofString "LookupError") 94), (.type "LookupError")⟩, ⟨(PyData.keyHash P (PySem.Str.ofString "MemoryError")), (.str (PySem.Str.ofString "MemoryError") 95), (.type "MemoryError")⟩, ⟨(PyData.keyHash P (PySem.Str.ofString "NameError")), (.str (PySem.Str.ofString "NameError") 96), (.type "NameError")⟩, ⟨(PyData.keyHash P (PySem.Str.ofString "OSError")), (.str (PySem.Str.ofString "OSError") 97), (.type "OSError")⟩, ⟨(PyData.keyHash P (PySem.Str.ofString "ReferenceError")), (.str (PySem.Str.ofString "ReferenceError") 98), (.type "ReferenceError")⟩, ⟨(PyData.keyHash P (PySem.Str.ofString "RuntimeError")), (.str (PySem.Str.ofString "RuntimeError") 99), (.type "RuntimeError")⟩, ⟨(PyData.keyHash P (PySem.Str.ofString "StopAsyncIteration")), (.str (PySem.Str.ofString "StopAsyncIteration") 100), (.type "StopAsyncIteration")⟩, ⟨(PyData.keyHash P (PySem.Str.ofString "StopIteration")), (.str (PySem.Str.ofString "StopIteration") 101), (.type "StopIteration")⟩, ⟨(PyData.keyHash P (PySem.Str.ofString "SyntaxError")), (.str (PySem.Str.ofString "SyntaxError") 102), (.type "SyntaxError")⟩, ⟨(PyData.keyHash P (PySem.Str.ofString "SystemError")), (.str (PySem.Str.ofString "SystemError") 103), (.type "SystemError")⟩, ⟨(PyData.keyHash P (PySem.Str.ofString "TypeError")), (.str (PySem.Str.ofString "TypeError") 104), (.type "TypeError")⟩, ⟨(PyData.keyHash P (PySem.Str.ofString "ValueError")), (.str (PySem.Str.ofString "ValueError") 105), (.type "ValueError")⟩, ⟨(PyData.keyHash P (PySem.Str.ofString "Warning")), (.str (PySem.Str.ofString "Warning") 106), (.type "Warning")⟩, ⟨(PyData.keyHash P (PySem.Str.ofString "FloatingPointError")), (.str (PySem.Str.ofString "FloatingPointError") 107), (.type "FloatingPointError")⟩, ⟨(PyData.keyHash P (PySem.Str.ofString "OverflowError")), (.str (PySem.Str.ofString "OverflowError") 108), (.type "OverflowError")⟩, ⟨(PyData.keyHash P (PySem.Str.ofString "ZeroDivisionError")), (.str (PySem.Str.ofString "ZeroDivisionError") 109), (.type "ZeroDivisionError")⟩, ⟨(PyData.keyHash P (PySem.Str.ofString "BytesWarning")), (.str (PySem.Str.ofString "BytesWarning") 110), (.type "BytesWarning")⟩, ⟨(PyData.keyHash P (PySem.Str.ofString "DeprecationWarning")), (.str (PySem.Str.ofString "DeprecationWarning") 111), (.type "DeprecationWarning")⟩, ⟨(PyData.keyHash P (PySem.Str.ofString "EncodingWarning")), (.str (PySem.Str.ofString "EncodingWarning") 112), (.type "EncodingWarning")⟩, ⟨(PyData.keyHash P (PySem.Str.ofString "FutureWarning")), (.str (PySem.Str.ofString "FutureWarning") 113), (.type "FutureWarning")⟩, ⟨(PyData.keyHash P (PySem.Str.ofString "ImportWarning")), (.str (PySem.Str.ofString "ImportWarning") 114), (.type "ImportWarning")⟩, ⟨(PyData.keyHash P (PySem.Str.ofString "PendingDeprecationWarning")), (.str (PySem.Str.ofString "PendingDeprecationWarning") 115), (.type "PendingDeprecationWarning")⟩, ⟨(PyData.keyHash P (PySem.Str.ofString "ResourceWarning")), (.str (PySem.Str.ofString "ResourceWarning") 116), (.type "ResourceWarning")⟩, ⟨(PyData.keyHash P (PySem.Str.ofString "RuntimeWarning")), (.str (PySem.Str.ofString "RuntimeWarning") 117), (.type "RuntimeWarning")⟩, ⟨(PyData.keyHash P (PySem.Str.ofString "SyntaxWarning")), (.str (PySem.Str.ofString "SyntaxWarning") 118), (.type "SyntaxWarning")⟩, ⟨(PyData.keyHash P (PySem.Str.ofString "UnicodeWarning")), (.str (PySem.Str.ofString "UnicodeWarning") 119), (.type "UnicodeWarning")⟩, ⟨(PyData.keyHash P (PySem.Str.ofString "UserWarning")), (.str (PySem.Str.ofString "UserWarning") 120), (.type "UserWarning")⟩, ⟨(PyData.keyHash P (PySem.Str.ofString "BlockingIOError")), (.str (PySem.Str.ofString "BlockingIOError") 121), (.type "BlockingIOError")⟩, ⟨(PyData.keyHash P (PySem.Str.ofString "ChildProcessError")), (.str (PySem.Str.ofString "ChildProcessError") 122), (.type "ChildProcessError")⟩, ⟨(PyData.keyHash P (PySem.Str.ofString "ConnectionError")), (.str (PySem.Str.ofString "ConnectionError") 123), (.type "ConnectionError")⟩, ⟨(PyData.keyHash P (PySem.Str.ofString "FileExistsError")), (.str (PySem.Str.ofString "FileExistsError") 124), (.type "FileExistsError")⟩, ⟨(PyData.keyHash P (PySem.Str.ofString "FileNotFoundError")), (.str (PySem.Str.ofString "FileNotFoundError") 125), (.type "FileNotFoundError")⟩, ⟨(PyData.keyHash P (PySem.Str.ofString "InterruptedError")), (.str (PySem.Str.ofString "InterruptedError") 126), (.type "InterruptedError")⟩, ⟨(PyData.keyHash P (PySem.Str.ofString "IsADirectoryError")), (.str (PySem.Str.ofString "IsADirectoryError") 127), (.type "IsADirectoryError")⟩, ⟨(PyData.keyHash P (PySem.Str.ofString "NotADirectoryError")), (.str (PySem.Str.ofString "NotADirectoryError") 128), (.type "NotADirectoryError")⟩, ⟨(PyData.keyHash P (PySem.Str.ofString "PermissionError")), (.str (PySem.Str.ofString "PermissionError") 129), (.type "PermissionError")⟩, ⟨(PyData.keyHash P (PySem.Str.ofString "ProcessLookupError")), (.str (PySem.Str.ofString "ProcessLookupError") 130), (.type "ProcessLookupError")⟩, ⟨(PyData.keyHash P (PySem.Str.ofString "TimeoutError")), (.str (PySem.Str.ofString "TimeoutError") 131), (.type "TimeoutError")⟩, ⟨(PyData.keyHash P (PySem.Str.ofString "IndentationError")), (.str (PySem.Str.ofString "IndentationError") 132), (.type "IndentationError")⟩, ⟨(PyData.keyHash P (PySem.Str.ofString "_IncompleteInputError")), (.str (PySem.Str.ofString "_IncompleteInputError") 133), (.type "_IncompleteInputError")⟩, ⟨(PyData.keyHash P (PySem.Str.ofString "IndexError")), (.str (PySem.Str.ofString "IndexError") 134), (.type "IndexError")⟩, ⟨(PyData.keyHash P (PySem.Str.ofString "KeyError")), (.str (PySem.Str.ofString "KeyError") 135), (.type "KeyError")⟩, ⟨(PyData.keyHash P (PySem.Str.ofString "ModuleNotFoundError")), (.str (PySem.Str.ofString "ModuleNotFoundError") 136), (.type "ModuleNotFoundError")⟩, ⟨(PyData.keyHash P (PySem.Str.ofString "NotImplementedError")), (.str (PySem.Str.ofString "NotImplementedError") 137), (.type "NotImplementedError")⟩, ⟨(PyData.keyHash P (PySem.Str.ofString "PythonFinalizationError")), (.str (PySem.Str.ofString "PythonFinalizationError") 138), (.type "PythonFinalizationError")⟩, ⟨(PyData.keyHash P (PySem.Str.ofString "RecursionError")), (.str (PySem.Str.ofString "RecursionError") 139), (.type "RecursionError")⟩, ⟨(PyData.keyHash P (PySem.Str.ofString "UnboundLocalError")), (.str (PySem.Str.ofString "UnboundLocalError") 140), (.type "UnboundLocalError")⟩, ⟨(PyData.keyHash P (PySem.Str.ofString "UnicodeError")), (.str (PySem.Str.ofString "UnicodeError") 141), (.type "UnicodeError")⟩, ⟨(PyData.keyHash P (PySem.Str.ofString "BrokenPipeError")), (.str (PySem.Str.ofString "BrokenPipeError") 142), (.type "BrokenPipeError")⟩, ⟨(PyData.keyHash P (PySem.Str.ofString "ConnectionAbortedError")), (.str (PySem.Str.ofString "ConnectionAbortedError") 143), (.type "ConnectionAbortedError")⟩, ⟨(PyData.keyHash P (PySem.Str.ofString "ConnectionRefusedError")), (.str (PySem.Str.ofString "ConnectionRefusedError") 144), (.type "ConnectionRefusedError")⟩, ⟨(PyData.keyHash P (PySem.Str.ofString "ConnectionResetError")), (.str (PySem.Str.ofString "ConnectionResetError") 145), (.type "ConnectionResetError")⟩, ⟨(PyData.keyHash P (PySem.Str.ofString "TabError")), (.str (PySem.Str.ofString "TabError") 146), (.type "TabError")⟩, ⟨(PyData.keyHash P (PySem.Str.ofString "UnicodeDecodeError")), (.str (PySem.Str.ofString "UnicodeDecodeError") 147), (.type "UnicodeDecodeError")⟩, ⟨(PyData.keyHash P (PySem.Str.ofString "UnicodeEncodeError")), (.str (PySem.Str.ofString "UnicodeEncodeError") 148), (.type "UnicodeEncodeError")⟩, ⟨(PyData.keyHash P (PySem.Str.ofString "UnicodeTranslateError")), (.str (PySem.Str.ofString "UnicodeTranslateError") 149), (.type "UnicodeTranslateError")⟩, ⟨(PyData.keyHash P (PySem.Str.ofString "ExceptionGroup")), (.str (PySem.Str.ofString "ExceptionGroup") 150), (.type "ExceptionGroup")⟩, ⟨(PyData.keyHash P (PySem.Str.ofString "EnvironmentError")), (.str (PySem.Str.ofString "EnvironmentError") 151), (.type "OSError")⟩, ⟨(PyData.keyHash P (PySem.Str.ofString "IOError")), (.str (PySem.Str.ofString "IOError") 152), (.type "OSError")⟩, ⟨(PyData.keyHash P (PySem.Str.ofString "open")), (.str (PySem.Str.ofString "open") 153), (.builtin "open")⟩, ⟨(PyData.keyHash P (PySem.Str.ofString "quit")), (.str (PySem.Str.ofString "quit") 154), (.builtin "builtins.quit#opaque")⟩, ⟨(PyData.keyHash P (PySem.Str.ofString "exit")), (.str (PySem.Str.ofString "exit") 155), (.builtin "builtins.exit#opaque")⟩, ⟨(PyData.keyHash P (PySem.Str.ofString "copyright")), (.str (PySem.Str.ofString "copyright") 156), (.builtin "builtins.copyright#opaque")⟩, ⟨(PyData.keyHash P (PySem.Str.ofString "credits")), (.str (PySem.Str.ofString "credits") 157), (.builtin "builtins.credits#opaque")⟩, ⟨(PyData.keyHash P (PySem.Str.ofString "license")), (.str (PySem.Str.ofString "license") 158), (.builtin "builtins.license#opaque")⟩, ⟨(PyData.keyHash P (PySem.Str.ofString "help")), (.str (PySem.Str.ofString "help") 159), (.builtin "builtins.help#opaque")⟩] 159), #[]⟩
noncomputable def z1 (P : Params) : Obj := ⟨(.type "dict"), none, (.dict #[⟨(PyData.keyHash P (PySem.Str.ofString "builtins")), (.str (PySem.Str.ofString "builtins") 162), (.ref 4)⟩, ⟨(PyData.keyHash P (PySem.Str.ofString "__main__")), (.str (PySem.Str.ofString "__main__") 163), (.ref 5)⟩, ⟨(PyData.keyHash P (PySem.Str.ofString "_sre")), (.str (PySem.Str.ofString "_sre") 244), (.ref 12)⟩] 3), #[]⟩
noncomputable def z2 (P : Params) : Obj := ⟨.none, none, (.dict #[⟨(PyData.keyHash P (PySem.Str.ofString "\x69mport.loaded._sre")), (.str (PySem.Str.ofString "\x69mport.loaded._sre") 183), (.bool true)⟩, ⟨(PyData.keyHash P (PySem.Str.ofString "class._frozen_importlib.BuiltinImporter")), (.str (PySem.Str.ofString "class._frozen_importlib.BuiltinImporter") 185), (.ref 14)⟩, ⟨(PyData.keyHash P (PySem.Str.ofString "watched.\x69mport")), (.str (PySem.Str.ofString "watched.\x69mport") 206), (.ref 18)⟩, ⟨(PyData.keyHash P (PySem.Str.ofString "class._frozen_importlib.ModuleSpec")), (.str (PySem.Str.ofString "class._frozen_importlib.ModuleSpec") 216), (.ref 22)⟩, ⟨(PyData.keyHash P (PySem.Str.ofString "sys.modules.booked-epoch")), (.str (PySem.Str.ofString "sys.modules.booked-epoch") 245), (.int 3 0)⟩, ⟨(PyData.keyHash P (PySem.Str.ofString "\x69mport.later-laid._sre")), (.str (PySem.Str.ofString "\x69mport.later-laid._sre") 270), (.bool true)⟩, ⟨(PyData.keyHash P (PySem.Str.ofString "watched.library")), (.str (PySem.Str.ofString "watched.library") 272), (.ref 27)⟩, ⟨(PyData.keyHash P (PySem.Str.ofString "watched.library-objects")), (.str (PySem.Str.ofString "watched.library-objects") 0), (.str (PySem.Str.ofString "\x0c") 0)⟩, ⟨(PyData.keyHash P (PySem.Str.ofString "watched.library-deep._sre")), (.str (PySem.Str.ofString "watched.library-deep._sre") 273), (.str (PySem.Str.ofString "\x04\x00\x00\x0b\x04\x00\x00\x0b\x04\x00\x00\x03\x04\x00\x00\x0b\x08\x04dict\x02") 0)⟩] 9), #[]⟩
noncomputable def z3 (P : Params) : Obj := ⟨(.type "dict"), none, (.dict #[⟨(PyData.keyHash P (PySem.Str.ofString "__name__")), (.str (PySem.Str.ofString "__name__") 165), (.str (PySem.Str.ofString "__main__") 164)⟩, ⟨(PyData.keyHash P (PySem.Str.ofString "__doc__")), (.str (PySem.Str.ofString "__doc__") 166), .none⟩, ⟨(PyData.keyHash P (PySem.Str.ofString "__package__")), (.str (PySem.Str.ofString "__package__") 167), .none⟩, ⟨(PyData.keyHash P (PySem.Str.ofString "__loader__")), (.str (PySem.Str.ofString "__loader__") 168), (.builtin "__main__.__loader__#opaque")⟩, ⟨(PyData.keyHash P (PySem.Str.ofString "__spec__")), (.str (PySem.Str.ofString "__spec__") 169), .none⟩, ⟨(PyData.keyHash P (PySem.Str.ofString "__annotations__")), (.str (PySem.Str.ofString "__annotations__") 170), (.ref 6)⟩, ⟨(PyData.keyHash P (PySem.Str.ofString "__builtins__")), (.str (PySem.Str.ofString "__builtins__") 171), (.ref 4)⟩, ⟨(PyData.keyHash P (PySem.Str.ofString "__file__")), (.str (PySem.Str.ofString "__file__") 173), (.str (PySem.Str.ofString "/claim/cut.py") 172)⟩, ⟨(PyData.keyHash P (PySem.Str.ofString "__cached__")), (.str (PySem.Str.ofString "__cached__") 174), .none⟩, ⟨(PyData.keyHash P (PySem.Str.ofString "_sre")), (.str (PySem.Str.ofString "_sre") 275), (.ref 12)⟩] 10), #[]⟩
noncomputable def z4 (P : Params) : Obj := ⟨(.type "module"), (some 0), .plain, #[]⟩
noncomputable def z5 (P : Params) : Obj := ⟨(.type "module"), (some 3), .plain, #[]⟩
noncomputable def z6 (P : Params) : Obj := ⟨(.type "dict"), none, (.dict #[] 0), #[]⟩
noncomputable def z7 (P : Params) : Obj := ⟨(.type "tuple"), none, (.seq #[] 0), #[]⟩
noncomputable def z8 (P : Params) : Obj := ⟨.none, none, (.fields #[]), #[]⟩
noncomputable def z9 (P : Params) : Obj := ⟨(.type "code"), none, (.fields #[(.str (PySem.Str.ofString "<module>") 176), (.str (PySem.Str.ofString "<module>") 177), (.str (PySem.Str.ofString "/claim/cut.py") 178), (.int 1 0), (.int 0 0), (.int 0 0), (.int 0 0), (.int 0 0), (.ref 7), (.bool false), (.int 175 0), (.ref 8), .none, .none, .none, .none, (.int 179 0), (.int 1 0), (.str (PySem.Str.ofString "/claim/cut.py") 180)]), #[]⟩
noncomputable def z10 (P : Params) : Obj := ⟨(.type "frame"), none, .plain, #[(some (.ref 9)), (some (.ref 3)), (some (.ref 3)), none, (some (.str (PySem.Str.ofString "__main__") 164)), none, (some (.ref 0))]⟩
noncomputable def z11 (P : Params) : Obj := ⟨(.type "dict"), none, (.dict #[⟨(PyData.keyHash P (PySem.Str.ofString "__name__")), (.str (PySem.Str.ofString "__name__") 247), (.str (PySem.Str.ofString "_sre") 246)⟩, ⟨(PyData.keyHash P (PySem.Str.ofString "__doc__")), (.str (PySem.Str.ofString "__doc__") 248), .none⟩, ⟨(PyData.keyHash P (PySem.Str.ofString "__package__")), (.str (PySem.Str.ofString "__package__") 250), (.str (PySem.Str.ofString "") 249)⟩, ⟨(PyData.keyHash P (PySem.Str.ofString "__loader__")), (.str (PySem.Str.ofString "__loader__") 251), (.builtin "off-the-table:_sre.__loader__:shared#opaque")⟩, ⟨(PyData.keyHash P (PySem.Str.ofString "__spec__")), (.str (PySem.Str.ofString "__spec__") 252), (.builtin "off-the-table:_sre.__spec__:shared#opaque")⟩, ⟨(PyData.keyHash P (PySem.Str.ofString "compile")), (.str (PySem.Str.ofString "compile") 253), (.builtin "_sre.compile")⟩, ⟨(PyData.keyHash P (PySem.Str.ofString "template")), (.str (PySem.Str.ofString "template") 254), (.builtin "off-the-table:_sre.template:shared#opaque")⟩, ⟨(PyData.keyHash P (PySem.Str.ofString "getcodesize")), (.str (PySem.Str.ofString "getcodesize") 255), (.builtin "off-the-table:_sre.getcodesize:shared#opaque")⟩, ⟨(PyData.keyHash P (PySem.Str.ofString "ascii_iscased")), (.str (PySem.Str.ofString "ascii_iscased") 256), (.builtin "off-the-table:_sre.ascii_iscased:shared#opaque")⟩, ⟨(PyData.keyHash P (PySem.Str.ofString "unicode_iscased")), (.str (PySem.Str.ofString "unicode_iscased") 257), (.builtin "off-the-table:_sre.unicode_iscased:shared#opaque")⟩, ⟨(PyData.keyHash P (PySem.Str.ofString "ascii_tolower")), (.str (PySem.Str.ofString "ascii_tolower") 258), (.builtin "off-the-table:_sre.ascii_tolower:shared#opaque")⟩, ⟨(PyData.keyHash P (PySem.Str.ofString "unicode_tolower")), (.str (PySem.Str.ofString "unicode_tolower") 259), (.builtin "off-the-table:_sre.unicode_tolower:shared#opaque")⟩, ⟨(PyData.keyHash P (PySem.Str.ofString "MAGIC")), (.str (PySem.Str.ofString "MAGIC") 261), (.int 20230612 260)⟩, ⟨(PyData.keyHash P (PySem.Str.ofString "CODESIZE")), (.str (PySem.Str.ofString "CODESIZE") 263), (.int 4 262)⟩, ⟨(PyData.keyHash P (PySem.Str.ofString "MAXREPEAT")), (.str (PySem.Str.ofString "MAXREPEAT") 265), (.int 4294967295 264)⟩, ⟨(PyData.keyHash P (PySem.Str.ofString "MAXGROUPS")), (.str (PySem.Str.ofString "MAXGROUPS") 267), (.int 1073741823 266)⟩, ⟨(PyData.keyHash P (PySem.Str.ofString "copyright")), (.str (PySem.Str.ofString "copyright") 269), (.str (PySem.Str.ofString " SRE 2.2.2 Copyright (c) 1997-2002 by Secret Labs AB ") 268)⟩] 17), #[]⟩
noncomputable def z12 (P : Params) : Obj := ⟨(.type "module"), (some 11), .plain, #[]⟩
noncomputable def z13 (P : Params) : Obj := ⟨(.type "dict"), none, (.dict #[⟨(PyData.keyHash P (PySem.Str.ofString "__module__")), (.str (PySem.Str.ofString "__module__") 189), (.str (PySem.Str.ofString "_frozen_importlib") 186)⟩, ⟨(PyData.keyHash P (PySem.Str.ofString "__firstlineno__")), (.str (PySem.Str.ofString "__firstlineno__") 190), (.int 971 187)⟩, ⟨(PyData.keyHash P (PySem.Str.ofString "__doc__")), (.str (PySem.Str.ofString "__doc__") 191), (.builtin "_frozen_importlib.BuiltinImporter.__doc__:str#opaque")⟩, ⟨(PyData.keyHash P (PySem.Str.ofString "_ORIGIN")), (.str (PySem.Str.ofString "_ORIGIN") 192), (.str (PySem.Str.ofString "built-in") 188)⟩, ⟨(PyData.keyHash P (PySem.Str.ofString "find_spec")), (.str (PySem.Str.ofString "find_spec") 193), (.builtin "_frozen_importlib.BuiltinImporter.find_spec#opaque")⟩, ⟨(PyData.keyHash P (PySem.Str.ofString "create_module")), (.str (PySem.Str.ofString "create_module") 194), (.builtin "_frozen_importlib.BuiltinImporter.create_module#opaque")⟩, ⟨(PyData.keyHash P (PySem.Str.ofString "exec_module")), (.str (PySem.Str.ofString "exec_module") 195), (.builtin "_frozen_importlib.BuiltinImporter.exec_module#opaque")⟩, ⟨(PyData.keyHash P (PySem.Str.ofString "get_code")), (.str (PySem.Str.ofString "get_code") 196), (.builtin "_frozen_importlib.BuiltinImporter.get_code#opaque")⟩, ⟨(PyData.keyHash P (PySem.Str.ofString "get_source")), (.str (PySem.Str.ofString "get_source") 197), (.builtin "_frozen_importlib.BuiltinImporter.get_source#opaque")⟩, ⟨(PyData.keyHash P (PySem.Str.ofString "is_package")), (.str (PySem.Str.ofString "is_package") 198), (.builtin "_frozen_importlib.BuiltinImporter.is_package#opaque")⟩, ⟨(PyData.keyHash P (PySem.Str.ofString "load_module")), (.str (PySem.Str.ofString "load_module") 199), (.builtin "_frozen_importlib.BuiltinImporter.load_module#opaque")⟩, ⟨(PyData.keyHash P (PySem.Str.ofString "__static_attributes__")), (.str (PySem.Str.ofString "__static_attributes__") 200), (.ref 15)⟩, ⟨(PyData.keyHash P (PySem.Str.ofString "__dict__")), (.str (PySem.Str.ofString "__dict__") 202), (.ref 16)⟩, ⟨(PyData.keyHash P (PySem.Str.ofString "__weakref__")), (.str (PySem.Str.ofString "__weakref__") 204), (.ref 17)⟩] 14), #[]⟩
noncomputable def z14 (P : Params) : Obj := ⟨(.type "type"), none, (.cls { name := (PySem.Str.ofString "BuiltinImporter"), bases := [(.type "object")], mro := [(.ref 14), (.type "object")], ns := 13, qualname := (PySem.Str.ofString "BuiltinImporter"), hasDict := true, slotNames := [], subclasses := [], abstract := false, collection := none, hasDel := false }), #[]⟩
noncomputable def z15 (P : Params) : Obj := ⟨(.type "tuple"), none, (.seq #[] 0), #[]⟩
noncomputable def z16 (P : Params) : Obj := ⟨(.type "getset_descriptor"), none, (.fields #[(.str (PySem.Str.ofString "__dict__") 201), (.ref 14), (.builtin "function.__dict__"), (.builtin "function.__dict__#set")]), #[]⟩
noncomputable def z17 (P : Params) : Obj := ⟨(.type "getset_descriptor"), none, (.fields #[(.str (PySem.Str.ofString "__weakref__") 203), (.ref 14), (.builtin "ExceptionGroup.__weakref__"), .none]), #[]⟩
noncomputable def z18 (P : Params) : Obj := ⟨.none, none, (.seq #[(.int 13 0), (.str (PySem.Str.ofString "\x06½\n__module__\x06º\x11_frozen_importlib\x06¾\x0f__firstlineno__\x04»\x00ϋ\x06¿\x07__doc__\t4_frozen_importlib.BuiltinImporter.__doc__:str#opaque\x06À\x07_ORIGIN\x06¼\x08built-in\x06Á\tfind_spec\t2_frozen_importlib.BuiltinImporter.find_spec#opaque\x06Â\rcreate_module\t6_frozen_importlib.BuiltinImporter.create_module#opaque\x06Ã\x0bexec_module\t4_frozen_importlib.BuiltinImporter.exec_module#opaque\x06Ä\x08get_code\t1_frozen_importlib.BuiltinImporter.get_code#opaque\x06Å\nget_source\t3_frozen_importlib.BuiltinImporter.get_source#opaque\x06Æ\nis_package\t3_frozen_importlib.BuiltinImporter.is_package#opaque\x06Ç\x0bload_module\t4_frozen_importlib.BuiltinImporter.load_module#opaque\x06È\x15__static_attributes__\x04\x00\x00\x0f\x06Ê\x08__dict__\x04\x00\x00\x10\x06Ì\x0b__weakref__\x04\x00\x00\x11") 0), (.bool true), (.bool true), (.str (PySem.Str.ofString "") 205), (.int 21 0), (.str (PySem.Str.ofString "\x06ã\n__module__\x06Ù\x11_frozen_importlib\x06ä\x0f__firstlineno__\x04Ú\x00Ȳ\x06å\x07__doc__\t/_frozen_importlib.ModuleSpec.__doc__:str#opaque\x06æ\x08__init__\t,_frozen_importlib.ModuleSpec.__init__#opaque\x06ç\x08__repr__\t,_frozen_importlib.ModuleSpec.__repr__#opaque\x06è\x06__eq__\t*_frozen_importlib.ModuleSpec.__eq__#opaque\x06é\x06cached\t*_frozen_importlib.ModuleSpec.cached#opaque\x06ê\x06parent\t*_frozen_importlib.ModuleSpec.parent#opaque\x06ë\x0chas_location\t0_frozen_importlib.ModuleSpec.has_location#opaque\x06ì\x15__static_attributes__\x04\x00\x00\x17\x06î\x08__dict__\x04\x00\x00\x18\x06ð\x0b__weakref__\x04\x00\x00\x19\x06ñ\x08__hash__\x00") 0), (.bool true), (.bool true), (.str (PySem.Str.ofString "") 242)] 1), #[]⟩
noncomputable def z19 (P : Params) : Obj := ⟨(.type "list"), none, (.seq #[] 0), #[]⟩
noncomputable def z20 (P : Params) : Obj := ⟨(.type "dict"), none, (.dict #[⟨(PyData.keyHash P (PySem.Str.ofString "name")), (.str (PySem.Str.ofString "name") 208), (.str (PySem.Str.ofString "_sre") 207)⟩, ⟨(PyData.keyHash P (PySem.Str.ofString "loader")), (.str (PySem.Str.ofString "loader") 209), (.ref 14)⟩, ⟨(PyData.keyHash P (PySem.Str.ofString "origin")), (.str (PySem.Str.ofString "origin") 210), (.str (PySem.Str.ofString "built-in") 184)⟩, ⟨(PyData.keyHash P (PySem.Str.ofString "loader_state")), (.str (PySem.Str.ofString "loader_state") 211), .none⟩, ⟨(PyData.keyHash P (PySem.Str.ofString "submodule_search_locations")), (.str (PySem.Str.ofString "submodule_search_locations") 212), .none⟩, ⟨(PyData.keyHash P (PySem.Str.ofString "_uninitialized_submodules")), (.str (PySem.Str.ofString "_uninitialized_submodules") 213), (.ref 19)⟩, ⟨(PyData.keyHash P (PySem.Str.ofString "_set_fileattr")), (.str (PySem.Str.ofString "_set_fileattr") 214), (.bool false)⟩, ⟨(PyData.keyHash P (PySem.Str.ofString "_cached")), (.str (PySem.Str.ofString "_cached") 215), .none⟩, ⟨(PyData.keyHash P (PySem.Str.ofString "_initializing")), (.str (PySem.Str.ofString "_initializing") 243), (.bool false)⟩] 9), #[]⟩
noncomputable def z21 (P : Params) : Obj := ⟨(.type "dict"), none, (.dict #[⟨(PyData.keyHash P (PySem.Str.ofString "__module__")), (.str (PySem.Str.ofString "__module__") 227), (.str (PySem.Str.ofString "_frozen_importlib") 217)⟩, ⟨(PyData.keyHash P (PySem.Str.ofString "__firstlineno__")), (.str (PySem.Str.ofString "__firstlineno__") 228), (.int 562 218)⟩, ⟨(PyData.keyHash P (PySem.Str.ofString "__doc__")), (.str (PySem.Str.ofString "__doc__") 229), (.builtin "_frozen_importlib.ModuleSpec.__doc__:str#opaque")⟩, ⟨(PyData.keyHash P (PySem.Str.ofString "__init__")), (.str (PySem.Str.ofString "__init__") 230), (.builtin "_frozen_importlib.ModuleSpec.__init__#opaque")⟩, ⟨(PyData.keyHash P (PySem.Str.ofString "__repr__")), (.str (PySem.Str.ofString "__repr__") 231), (.builtin "_frozen_importlib.ModuleSpec.__repr__#opaque")⟩, ⟨(PyData.keyHash P (PySem.Str.ofString "__eq__")), (.str (PySem.Str.ofString "__eq__") 232), (.builtin "_frozen_importlib.ModuleSpec.__eq__#opaque")⟩, ⟨(PyData.keyHash P (PySem.Str.ofString "cached")), (.str (PySem.Str.ofString "cached") 233), (.builtin "_frozen_importlib.ModuleSpec.cached#opaque")⟩, ⟨(PyData.keyHash P (PySem.Str.ofString "parent")), (.str (PySem.Str.ofString "parent") 234), (.builtin "_frozen_importlib.ModuleSpec.parent#opaque")⟩, ⟨(PyData.keyHash P (PySem.Str.ofString "has_location")), (.str (PySem.Str.ofString "has_location") 235), (.builtin "_frozen_importlib.ModuleSpec.has_location#opaque")⟩, ⟨(PyData.keyHash P (PySem.Str.ofString "__static_attributes__")), (.str (PySem.Str.ofString "__static_attributes__") 236), (.ref 23)⟩, ⟨(PyData.keyHash P (PySem.Str.ofString "__dict__")), (.str (PySem.Str.ofString "__dict__") 238), (.ref 24)⟩, ⟨(PyData.keyHash P (PySem.Str.ofString "__weakref__")), (.str (PySem.Str.ofString "__weakref__") 240), (.ref 25)⟩, ⟨(PyData.keyHash P (PySem.Str.ofString "__hash__")), (.str (PySem.Str.ofString "__hash__") 241), .none⟩] 13), #[]⟩
noncomputable def z22 (P : Params) : Obj := ⟨(.type "type"), none, (.cls { name := (PySem.Str.ofString "ModuleSpec"), bases := [(.type "object")], mro := [(.ref 22), (.type "object")], ns := 21, qualname := (PySem.Str.ofString "ModuleSpec"), hasDict := true, slotNames := [], subclasses := [], abstract := false, collection := none, hasDel := false }), #[]⟩
noncomputable def z23 (P : Params) : Obj := ⟨(.type "tuple"), none, (.seq #[(.str (PySem.Str.ofString "_cached") 219), (.str (PySem.Str.ofString "_set_fileattr") 220), (.str (PySem.Str.ofString "_uninitialized_submodules") 221), (.str (PySem.Str.ofString "loader") 222), (.str (PySem.Str.ofString "loader_state") 223), (.str (PySem.Str.ofString "name") 224), (.str (PySem.Str.ofString "origin") 225), (.str (PySem.Str.ofString "submodule_search_locations") 226)] 0), #[]⟩
noncomputable def z24 (P : Params) : Obj := ⟨(.type "getset_descriptor"), none, (.fields #[(.str (PySem.Str.ofString "__dict__") 237), (.ref 22), (.builtin "function.__dict__"), (.builtin "function.__dict__#set")]), #[]⟩
noncomputable def z25 (P : Params) : Obj := ⟨(.type "getset_descriptor"), none, (.fields #[(.str (PySem.Str.ofString "__weakref__") 239), (.ref 22), (.builtin "ExceptionGroup.__weakref__"), .none]), #[]⟩
noncomputable def z26 (P : Params) : Obj := ⟨(.ref 22), (some 20), .plain, #[]⟩
noncomputable def z27 (P : Params) : Obj := ⟨.none, none, (.seq #[(.int 11 0), (.str (PySem.Str.mk #[6, 247, 8, 95, 95, 110, 97, 109, 101, 95, 95, 6, 246, 4, 95, 115, 114, 101, 6, 248, 7, 95, 95, 100, 111, 99, 95, 95, 0, 6, 250, 11, 95, 95, 112, 97, 99, 107, 97, 103, 101, 95, 95, 6, 249, 0, 6, 251, 10, 95, 95, 108, 111, 97, 100, 101, 114, 95, 95, 4, 0, 0, 14, 6, 252, 8, 95, 95, 115, 112, 101, 99, 95, 95, 4, 0, 0, 26, 6, 253, 7, 99, 111, 109, 112, 105, 108, 101, 9, 12, 95, 115, 114, 101, 46, 99, 111, 109, 112, 105, 108, 101, 6, 254, 8, 116, 101, 109, 112, 108, 97, 116, 101, 9, 13, 95, 115, 114, 101, 46, 116, 101, 109, 112, 108, 97, 116, 101, 6, 255, 11, 103, 101, 116, 99, 111, 100, 101, 115, 105, 122, 101, 9, 16, 95, 115, 114, 101, 46, 103, 101, 116, 99, 111, 100, 101, 115, 105, 122, 101, 6, 256, 13, 97, 115, 99, 105, 105, 95, 105, 115, 99, 97, 115, 101, 100, 9, 18, 95, 115, 114, 101, 46, 97, 115, 99, 105, 105, 95, 105, 115, 99, 97, 115, 101, 100, 6, 257, 15, 117, 110, 105, 99, 111, 100, 101, 95, 105, 115, 99, 97, 115, 101, 100, 9, 20, 95, 115, 114, 101, 46, 117, 110, 105, 99, 111, 100, 101, 95, 105, 115, 99, 97, 115, 101, 100, 6, 258, 13, 97, 115, 99, 105, 105, 95, 116, 111, 108, 111, 119, 101, 114, 9, 18, 95, 115, 114, 101, 46, 97, 115, 99, 105, 105, 95, 116, 111, 108, 111, 119, 101, 114, 6, 259, 15, 117, 110, 105, 99, 111, 100, 101, 95, 116, 111, 108, 111, 119, 101, 114, 9, 20, 95, 115, 114, 101, 46, 117, 110, 105, 99, 111, 100, 101, 95, 116, 111, 108, 111, 119, 101, 114, 6, 261, 5, 77, 65, 71, 73, 67, 4, 260, 0, 20230612, 6, 263, 8, 67, 79, 68, 69, 83, 73, 90, 69, 4, 262, 0, 4, 6, 265, 9, 77, 65, 88, 82, 69, 80, 69, 65, 84, 4, 264, 0, 4294967295, 6, 267, 9, 77, 65, 88, 71, 82, 79, 85, 80, 83, 4, 266, 0, 1073741823, 6, 269, 9, 99, 111, 112, 121, 114, 105, 103, 104, 116, 6, 268, 53, 32, 83, 82, 69, 32, 50, 46, 50, 46, 50, 32, 67, 111, 112, 121, 114, 105, 103, 104, 116, 32, 40, 99, 41, 32, 49, 57, 57, 55, 45, 50, 48, 48, 50, 32, 98, 121, 32, 83, 101, 99, 114, 101, 116, 32, 76, 97, 98, 115, 32, 65, 66, 32]) 0), (.bool true), (.bool false), (.str (PySem.Str.ofString "_sre") 271)] 0), #[]⟩
noncomputable def y3 (P : Params) : Obj := ⟨(.type "dict"), none, (.dict #[⟨(PyData.keyHash P (PySem.Str.ofString "__name__")), (.str (PySem.Str.ofString "__name__") 165), (.str (PySem.Str.ofString "cpy313.stringprep") 554)⟩, ⟨(PyData.keyHash P (PySem.Str.ofString "__doc__")), (.str (PySem.Str.ofString "__doc__") 166), .none⟩, ⟨(PyData.keyHash P (PySem.Str.ofString "__package__")), (.str (PySem.Str.ofString "__package__") 167), .none⟩, ⟨(PyData.keyHash P (PySem.Str.ofString "__loader__")), (.str (PySem.Str.ofString "__loader__") 168), (.builtin "__main__.__loader__#opaque")⟩, ⟨(PyData.keyHash P (PySem.Str.ofString "__spec__")), (.str (PySem.Str.ofString "__spec__") 169), .none⟩, ⟨(PyData.keyHash P (PySem.Str.ofString "__annotations__")), (.str (PySem.Str.ofString "__annotations__") 170), (.ref 6)⟩, ⟨(PyData.keyHash P (PySem.Str.ofString "__builtins__")), (.str (PySem.Str.ofString "__builtins__") 171), (.ref 4)⟩, ⟨(PyData.keyHash P (PySem.Str.ofString "__file__")), (.str (PySem.Str.ofString "__file__") 173), (.str (PySem.Str.ofString "/claim/cut.py") 172)⟩, ⟨(PyData.keyHash P (PySem.Str.ofString "__cached__")), (.str (PySem.Str.ofString "__cached__") 174), .none⟩, ⟨(PyData.keyHash P (PySem.Str.ofString "_sre")), (.str (PySem.Str.ofString "_sre") 275), (.ref 12)⟩, ⟨(PyData.keyHash P (PySem.Str.ofString "_wall")), (.str (PySem.Str.ofString "_wall") 288), (.ref 38)⟩, ⟨(PyData.keyHash P (PySem.Str.ofString "tspecials")), (.str (PySem.Str.ofString "tspecials") 324), (.ref 43)⟩, ⟨(PyData.keyHash P (PySem.Str.ofString "_name_disallowed_re")), (.str (PySem.Str.ofString "_name_disallowed_re") 350), (.ref 48)⟩, ⟨(PyData.keyHash P (PySem.Str.ofString "_value_disallowed_re")), (.str (PySem.Str.ofString "_value_disallowed_re") 384), (.ref 53)⟩, ⟨(PyData.keyHash P (PySem.Str.ofString "_formatparam")), (.str (PySem.Str.ofString "_formatparam") 394), (.ref 61)⟩, ⟨(PyData.keyHash P (PySem.Str.ofString "Headers")), (.str (PySem.Str.ofString "Headers") 553), (.ref 184)⟩] 16), #[]⟩
noncomputable def y28 (P : Params) : Obj := ⟨(.type "tuple"), none, (.seq #[] 0), #[]⟩
noncomputable def y29 (P : Params) : Obj := ⟨.none, none, (.fields #[(.int 2 0), (.int 0 0), (.ref 37), (.int 9 0), (.int 0 0), (.ref 60), (.int 18 0), (.int 0 0), (.ref 67)]), #[]⟩
noncomputable def y30 (P : Params) : Obj := ⟨(.type "code"), none, (.fields #[(.str (PySem.Str.ofString "<module>") 277), (.str (PySem.Str.ofString "<module>") 278), (.str (PySem.Str.ofString "/claim/cut.py") 279), (.int 1 0), (.int 0 0), (.int 0 0), (.int 0 0), (.int 0 0), (.ref 28), (.bool false), (.int 276 0), (.ref 29), .none, .none, .none, .none, (.int 280 0), (.int 1 0), (.str (PySem.Str.ofString "/claim/cut.py") 281)]), #[]⟩
noncomputable def y31 (P : Params) : Obj := ⟨(.type "frame"), none, .plain, #[(some (.ref 30)), (some (.ref 3)), (some (.ref 3)), none, (some (.str (PySem.Str.ofString "__main__") 164)), none, (some (.ref 0))]⟩
noncomputable def y32 (P : Params) : Obj := ⟨(.type "tuple"), none, (.seq #[] 0), #[]⟩
noncomputable def y33 (P : Params) : Obj := ⟨.none, none, (.fields #[]), #[]⟩
noncomputable def y34 (P : Params) : Obj := ⟨(.type "tuple"), none, (.seq #[(.str (PySem.Str.ofString "k") 285)] 0), #[]⟩
noncomputable def y35 (P : Params) : Obj := ⟨(.type "tuple"), none, (.seq #[] 0), #[]⟩
noncomputable def y36 (P : Params) : Obj := ⟨.none, none, (.func { name := (PySem.Str.ofString "_wall"), qualname := (PySem.Str.ofString "_wall"), params := fnParams [1], body := .stmts (fnBody [1]), scope := fnScope [1], globals := 0, closure := [], defaults := .none, kwdefaults := .none, doc := .none, pyModule := .none, annotations := none, code := .none, closureTuple := .none, builtins := 0 }), #[]⟩
noncomputable def y37 (P : Params) : Obj := ⟨(.type "code"), none, (.fields #[(.str (PySem.Str.ofString "_wall") 282), (.str (PySem.Str.ofString "_wall") 283), (.str (PySem.Str.ofString "/claim/cut.py") 284), (.int 2 0), (.int 1 0), (.int 0 0), (.int 0 0), (.int 3 0), (.ref 32), (.bool true), (.int 276 0), (.ref 33), .none, (.ref 34), (.ref 35), (.ref 36), (.int 286 0), (.int 2 0), (.str (PySem.Str.ofString "/claim/cut.py") 287)]), #[]⟩
noncomputable def y38 (P : Params) : Obj := ⟨(.type "function"), none, (.func { name := (PySem.Str.ofString "_wall"), qualname := (PySem.Str.ofString "_wall"), params := fnParams [1], body := .stmts (fnBody [1]), scope := fnScope [1], globals := 3, closure := [], defaults := .none, kwdefaults := .none, doc := .none, pyModule := (.str (PySem.Str.ofString "__main__") 164), annotations := none, code := (.ref 37), closureTuple := .none, builtins := 0 }), #[]⟩
noncomputable def y39 (P : Params) : Obj := ⟨(.type "list"), none, (.seq #[(.int 14 294), (.int 14 295), (.int 4 296), (.int 1 297), (.int 1 298), (.int 9 299), (.int 0 300), (.int 4227896069 301), (.int 939524097 302), (.int 0 303), (.int 0 304), (.int 0 305), (.int 0 306), (.int 0 307), (.int 0 308), (.int 13 309), (.int 11 310), (.int 9 311), (.int 0 312), (.int 4227896069 313), (.int 939524097 314), (.int 0 315), (.int 0 316), (.int 0 317), (.int 0 318), (.int 0 319), (.int 0 320), (.int 1 321)] 0), #[]⟩
noncomputable def y40 (P : Params) : Obj := ⟨(.type "dict"), none, (.dict #[] 0), #[]⟩
noncomputable def y41 (P : Params) : Obj := ⟨(.type "tuple"), none, (.seq #[.none] 0), #[]⟩
noncomputable def y42 (P : Params) : Obj := ⟨(.type "tuple"), none, (.seq #[(.int 14 0), (.int 14 0), (.int 4 0), (.int 1 0), (.int 1 0), (.int 9 0), (.int 0 0), (.int 4227896069 0), (.int 939524097 0), (.int 0 0), (.int 0 0), (.int 0 0), (.int 0 0), (.int 0 0), (.int 0 0), (.int 13 0), (.int 11 0), (.int 9 0), (.int 0 0), (.int 4227896069 0), (.int 939524097 0), (.int 0 0), (.int 0 0), (.int 0 0), (.int 0 0), (.int 0 0), (.int 0 0), (.int 1 0)] 0), #[]⟩
noncomputable def y43 (P : Params) : Obj := ⟨(.type "re.Pattern"), none, (.fields #[(.str (PySem.Str.ofString "[ \\(\\)<>@,;:\\\\\"/\\[\\]\\?=]") 292), (.int 32 323), (.int 0 0), .none, .none, (.ref 42), (.int 0 0)]), #[]⟩
noncomputable def y44 (P : Params) : Obj := ⟨(.type "list"), none, (.seq #[(.int 14 328), (.int 10 329), (.int 4 330), (.int 1 331), (.int 1 332), (.int 22 333), (.int 0 334), (.int 31 335), (.int 16 336), (.int 127 337), (.int 0 338), (.int 13 339), (.int 7 340), (.int 22 341), (.int 0 342), (.int 31 343), (.int 16 344), (.int 127 345), (.int 0 346), (.int 1 347)] 0), #[]⟩
noncomputable def y45 (P : Params) : Obj := ⟨(.type "dict"), none, (.dict #[] 0), #[]⟩
noncomputable def y46 (P : Params) : Obj := ⟨(.type "tuple"), none, (.seq #[.none] 0), #[]⟩
noncomputable def y47 (P : Params) : Obj := ⟨(.type "tuple"), none, (.seq #[(.int 14 0), (.int 10 0), (.int 4 0), (.int 1 0), (.int 1 0), (.int 22 0), (.int 0 0), (.int 31 0), (.int 16 0), (.int 127 0), (.int 0 0), (.int 13 0), (.int 7 0), (.int 22 0), (.int 0 0), (.int 31 0), (.int 16 0), (.int 127 0), (.int 0 0), (.int 1 0)] 0), #[]⟩
noncomputable def y48 (P : Params) : Obj := ⟨(.type "re.Pattern"), none, (.fields #[(.str (PySem.Str.ofString "[\\x00-\\x1F\\x7F]") 326), (.int 32 349), (.int 0 0), .none, .none, (.ref 47), (.int 0 0)]), #[]⟩
noncomputable def y49 (P : Params) : Obj := ⟨(.type "list"), none, (.seq #[(.int 14 354), (.int 14 355), (.int 4 356), (.int 1 357), (.int 1 358), (.int 9 359), (.int 4294966783 360), (.int 0 361), (.int 0 362), (.int 2147483648 363), (.int 0 364), (.int 0 365), (.int 0 366), (.int 0 367), (.int 0 368), (.int 13 369), (.int 11 370), (.int 9 371), (.int 4294966783 372), (.int 0 373), (.int 0 374), (.int 2147483648 375), (.int 0 376), (.int 0 377), (.int 0 378), (.int 0 379), (.int 0 380), (.int 1 381)] 0), #[]⟩
noncomputable def y50 (P : Params) : Obj := ⟨(.type "dict"), none, (.dict #[] 0), #[]⟩
noncomputable def y51 (P : Params) : Obj := ⟨(.type "tuple"), none, (.seq #[.none] 0), #[]⟩
noncomputable def y52 (P : Params) : Obj := ⟨(.type "tuple"), none, (.seq #[(.int 14 0), (.int 14 0), (.int 4 0), (.int 1 0), (.int 1 0), (.int 9 0), (.int 4294966783 0), (.int 0 0), (.int 0 0), (.int 2147483648 0), (.int 0 0), (.int 0 0), (.int 0 0), (.int 0 0), (.int 0 0), (.int 13 0), (.int 11 0), (.int 9 0), (.int 4294966783 0), (.int 0 0), (.int 0 0), (.int 2147483648 0), (.int 0 0), (.int 0 0), (.int 0 0), (.int 0 0), (.int 0 0), (.int 1 0)] 0), #[]⟩
noncomputable def y53 (P : Params) : Obj := ⟨(.type "re.Pattern"), none, (.fields #[(.str (PySem.Str.ofString "[\\x00-\\x08\\x0A-\\x1F\\x7F]") 352), (.int 32 383), (.int 0 0), .none, .none, (.ref 52), (.int 0 0)]), #[]⟩
noncomputable def y54 (P : Params) : Obj := ⟨(.type "tuple"), none, (.seq #[.none, (.int 1 385)] 0), #[]⟩
noncomputable def y55 (P : Params) : Obj := ⟨(.type "tuple"), none, (.seq #[] 0), #[]⟩
noncomputable def y56 (P : Params) : Obj := ⟨.none, none, (.fields #[]), #[]⟩
noncomputable def y57 (P : Params) : Obj := ⟨(.type "tuple"), none, (.seq #[(.str (PySem.Str.ofString "param") 389), (.str (PySem.Str.ofString "value") 390), (.str (PySem.Str.ofString "quote") 391)] 0), #[]⟩
noncomputable def y58 (P : Params) : Obj := ⟨(.type "tuple"), none, (.seq #[] 0), #[]⟩
noncomputable def y59 (P : Params) : Obj := ⟨.none, none, (.func { name := (PySem.Str.ofString "_formatparam"), qualname := (PySem.Str.ofString "_formatparam"), params := fnParams [6], body := .stmts (fnBody [6]), scope := fnScope [6], globals := 0, closure := [], defaults := .none, kwdefaults := .none, doc := .none, pyModule := .none, annotations := none, code := .none, closureTuple := .none, builtins := 0 }), #[]⟩
noncomputable def y60 (P : Params) : Obj := ⟨(.type "code"), none, (.fields #[(.str (PySem.Str.ofString "_formatparam") 386), (.str (PySem.Str.ofString "_formatparam") 387), (.str (PySem.Str.ofString "/claim/cut.py") 388), (.int 9 0), (.int 3 0), (.int 0 0), (.int 0 0), (.int 3 0), (.ref 55), (.bool true), (.int 276 0), (.ref 56), .none, (.ref 57), (.ref 58), (.ref 59), (.int 392 0), (.int 9 0), (.str (PySem.Str.ofString "/claim/cut.py") 393)]), #[]⟩
noncomputable def y61 (P : Params) : Obj := ⟨(.type "function"), none, (.func { name := (PySem.Str.ofString "_formatparam"), qualname := (PySem.Str.ofString "_formatparam"), params := fnParams [6], body := .stmts (fnBody [6]), scope := fnScope [6], globals := 3, closure := [], defaults := (.ref 54), kwdefaults := .none, doc := .none, pyModule := (.str (PySem.Str.ofString "cpy313.wsgiref.headers") 289), annotations := none, code := (.ref 60), closureTuple := .none, builtins := 0 }), #[]⟩
noncomputable def y62 (P : Params) : Obj := ⟨(.type "tuple"), none, (.seq #[] 0), #[]⟩
noncomputable def y63 (P : Params) : Obj := ⟨(.type "builtin_function_or_method"), none, (.fields #[(.builtin "type.__prepare__"), (.type "type")]), #[]⟩
noncomputable def y64 (P : Params) : Obj := ⟨(.type "dict"), none, (.dict #[⟨(PyData.keyHash P (PySem.Str.ofString "__module__")), (.str (PySem.Str.ofString "__module__") 402), (.str (PySem.Str.ofString "cpy313.wsgiref.headers") 289)⟩, ⟨(PyData.keyHash P (PySem.Str.ofString "__qualname__")), (.str (PySem.Str.ofString "__qualname__") 404), (.str (PySem.Str.ofString "Headers") 403)⟩, ⟨(PyData.keyHash P (PySem.Str.ofString "__firstlineno__")), (.str (PySem.Str.ofString "__firstlineno__") 406), (.int 18 405)⟩, ⟨(PyData.keyHash P (PySem.Str.ofString "__init__")), (.str (PySem.Str.ofString "__init__") 416), (.ref 76)⟩, ⟨(PyData.keyHash P (PySem.Str.ofString "_convert_string_type")), (.str (PySem.Str.ofString "_convert_string_type") 426), (.ref 83)⟩, ⟨(PyData.keyHash P (PySem.Str.ofString "__len__")), (.str (PySem.Str.ofString "__len__") 433), (.ref 90)⟩, ⟨(PyData.keyHash P (PySem.Str.ofString "__setitem__")), (.str (PySem.Str.ofString "__setitem__") 442), (.ref 97)⟩, ⟨(PyData.keyHash P (PySem.Str.ofString "__delitem__")), (.str (PySem.Str.ofString "__delitem__") 448), (.ref 102)⟩, ⟨(PyData.keyHash P (PySem.Str.ofString "__getitem__")), (.str (PySem.Str.ofString "__getitem__") 456), (.ref 109)⟩, ⟨(PyData.keyHash P (PySem.Str.ofString "__contains__")), (.str (PySem.Str.ofString "__contains__") 464), (.ref 116)⟩, ⟨(PyData.keyHash P (PySem.Str.ofString "get_all")), (.str (PySem.Str.ofString "get_all") 472), (.ref 123)⟩, ⟨(PyData.keyHash P (PySem.Str.ofString "get")), (.str (PySem.Str.ofString "get") 483), (.ref 131)⟩, ⟨(PyData.keyHash P (PySem.Str.ofString "keys")), (.str (PySem.Str.ofString "keys") 489), (.ref 136)⟩, ⟨(PyData.keyHash P (PySem.Str.ofString "values")), (.str (PySem.Str.ofString "values") 495), (.ref 141)⟩, ⟨(PyData.keyHash P (PySem.Str.ofString "items")), (.str (PySem.Str.ofString "items") 502), (.ref 148)⟩, ⟨(PyData.keyHash P (PySem.Str.ofString "__repr__")), (.str (PySem.Str.ofString "__repr__") 509), (.ref 155)⟩, ⟨(PyData.keyHash P (PySem.Str.ofString "__str__")), (.str (PySem.Str.ofString "__str__") 515), (.ref 160)⟩, ⟨(PyData.keyHash P (PySem.Str.ofString "__bytes__")), (.str (PySem.Str.ofString "__bytes__") 522), (.ref 167)⟩, ⟨(PyData.keyHash P (PySem.Str.ofString "setdefault")), (.str (PySem.Str.ofString "setdefault") 531), (.ref 174)⟩, ⟨(PyData.keyHash P (PySem.Str.ofString "add_header")), (.str (PySem.Str.ofString "add_header") 544), (.ref 181)⟩, ⟨(PyData.keyHash P (PySem.Str.ofString "__static_attributes__")), (.str (PySem.Str.ofString "__static_attributes__") 546), (.ref 182)⟩] 21), #[]⟩
noncomputable def y65 (P : Params) : Obj := ⟨(.type "tuple"), none, (.seq #[] 0), #[]⟩
noncomputable def y66 (P : Params) : Obj := ⟨.none, none, (.fields #[(.int 20 0), (.int 4 0), (.ref 75), (.int 30 0), (.int 4 0), (.ref 82), (.int 38 0), (.int 4 0), (.ref 89), (.int 41 0), (.int 4 0), (.ref 96), (.int 45 0), (.int 4 0), (.ref 101), (.int 49 0), (.int 4 0), (.ref 108), (.int 52 0), (.int 4 0), (.ref 115), (.int 55 0), (.int 4 0), (.ref 122), (.int 58 0), (.int 4 0), (.ref 130), (.int 65 0), (.int 4 0), (.ref 135), (.int 68 0), (.int 4 0), (.ref 140), (.int 71 0), (.int 4 0), (.ref 147), (.int 74 0), (.int 4 0), (.ref 154), (.int 77 0), (.int 4 0), (.ref 159), (.int 80 0), (.int 4 0), (.ref 166), (.int 83 0), (.int 4 0), (.ref 173), (.int 86 0), (.int 4 0), (.ref 180)]), #[]⟩
noncomputable def y67 (P : Params) : Obj := ⟨(.type "code"), none, (.fields #[(.str (PySem.Str.ofString "Headers") 397), (.str (PySem.Str.ofString "Headers") 398), (.str (PySem.Str.ofString "/claim/cut.py") 399), (.int 18 0), (.int 0 0), (.int 0 0), (.int 0 0), (.int 0 0), (.ref 65), (.bool false), (.int 276 0), (.ref 66), .none, .none, .none, .none, (.int 400 0), (.int 18 0), (.str (PySem.Str.ofString "/claim/cut.py") 401)]), #[]⟩
noncomputable def y68 (P : Params) : Obj := ⟨(.type "frame"), none, .plain, #[(some (.ref 67)), (some (.ref 3)), (some (.ref 64)), none, (some (.str (PySem.Str.ofString "cpy313.wsgiref.headers") 289)), none, (some (.ref 0))]⟩
noncomputable def y69 (P : Params) : Obj := ⟨(.type "tuple"), none, (.seq #[.none] 0), #[]⟩
noncomputable def y70 (P : Params) : Obj := ⟨(.type "tuple"), none, (.seq #[] 0), #[]⟩
noncomputable def y71 (P : Params) : Obj := ⟨.none, none, (.fields #[]), #[]⟩
noncomputable def y72 (P : Params) : Obj := ⟨(.type "tuple"), none, (.seq #[(.str (PySem.Str.ofString "self") 410), (.str (PySem.Str.ofString "headers") 411), (.str (PySem.Str.ofString "k") 412), (.str (PySem.Str.ofString "v") 413)] 0), #[]⟩
noncomputable def y73 (P : Params) : Obj := ⟨(.type "tuple"), none, (.seq #[] 0), #[]⟩
noncomputable def y74 (P : Params) : Obj := ⟨.none, none, (.func { name := (PySem.Str.ofString "__init__"), qualname := (PySem.Str.ofString "Headers.__init__"), params := fnParams [7, 0], body := .stmts (fnBody [7, 0]), scope := fnScope [7, 0], globals := 0, closure := [], defaults := .none, kwdefaults := .none, doc := .none, pyModule := .none, annotations := none, code := .none, closureTuple := .none, builtins := 0 }), #[]⟩
noncomputable def y75 (P : Params) : Obj := ⟨(.type "code"), none, (.fields #[(.str (PySem.Str.ofString "__init__") 407), (.str (PySem.Str.ofString "Headers.__init__") 408), (.str (PySem.Str.ofString "/claim/cut.py") 409), (.int 20 0), (.int 2 0), (.int 0 0), (.int 0 0), (.int 3 0), (.ref 70), (.bool true), (.int 276 0), (.ref 71), .none, (.ref 72), (.ref 73), (.ref 74), (.int 414 0), (.int 20 0), (.str (PySem.Str.ofString "/claim/cut.py") 415)]), #[]⟩
noncomputable def y76 (P : Params) : Obj := ⟨(.type "function"), none, (.func { name := (PySem.Str.ofString "__init__"), qualname := (PySem.Str.ofString "Headers.__init__"), params := fnParams [7, 0], body := .stmts (fnBody [7, 0]), scope := fnScope [7, 0], globals := 3, closure := [], defaults := (.ref 69), kwdefaults := .none, doc := .none, pyModule := (.str (PySem.Str.ofString "cpy313.wsgiref.headers") 289), annotations := none, code := (.ref 75), closureTuple := .none, builtins := 0 }), #[]⟩
noncomputable def y77 (P : Params) : Obj := ⟨(.type "tuple"), none, (.seq #[] 0), #[]⟩
noncomputable def y78 (P : Params) : Obj := ⟨.none, none, (.fields #[]), #[]⟩
noncomputable def y79 (P : Params) : Obj := ⟨(.type "tuple"), none, (.seq #[(.str (PySem.Str.ofString "self") 420), (.str (PySem.Str.ofString "value") 421), (.str (PySem.Str.ofString "name") 422), (.str (PySem.Str.ofString "regex") 423)] 0), #[]⟩
noncomputable def y80 (P : Params) : Obj := ⟨(.type "tuple"), none, (.seq #[] 0), #[]⟩
noncomputable def y81 (P : Params) : Obj := ⟨.none, none, (.func { name := (PySem.Str.ofString "_convert_string_type"), qualname := (PySem.Str.ofString "Headers._convert_string_type"), params := fnParams [7, 1], body := .stmts (fnBody [7, 1]), scope := fnScope [7, 1], globals := 0, closure := [], defaults := .none, kwdefaults := .none, doc := .none, pyModule := .none, annotations := none, code := .none, closureTuple := .none, builtins := 0 }), #[]⟩
noncomputable def y82 (P : Params) : Obj := ⟨(.type "code"), none, (.fields #[(.str (PySem.Str.ofString "_convert_string_type") 417), (.str (PySem.Str.ofString "Headers._convert_string_type") 418), (.str (PySem.Str.ofString "/claim/cut.py") 419), (.int 30 0), (.int 2 0), (.int 0 0), (.int 1 0), (.int 3 0), (.ref 77), (.bool true), (.int 276 0), (.ref 78), .none, (.ref 79), (.ref 80), (.ref 81), (.int 424 0), (.int 30 0), (.str (PySem.Str.ofString "/claim/cut.py") 425)]), #[]⟩
noncomputable def y83 (P : Params) : Obj := ⟨(.type "function"), none, (.func { name := (PySem.Str.ofString "_convert_string_type"), qualname := (PySem.Str.ofString "Headers._convert_string_type"), params := fnParams [7, 1], body := .stmts (fnBody [7, 1]), scope := fnScope [7, 1], globals := 3, closure := [], defaults := .none, kwdefaults := .none, doc := .none, pyModule := (.str (PySem.Str.ofString "cpy313.wsgiref.headers") 289), annotations := none, code := (.ref 82), closureTuple := .none, builtins := 0 }), #[]⟩
noncomputable def y84 (P : Params) : Obj := ⟨(.type "tuple"), none, (.seq #[] 0), #[]⟩
noncomputable def y85 (P : Params) : Obj := ⟨.none, none, (.fields #[]), #[]⟩
noncomputable def y86 (P : Params) : Obj := ⟨(.type "tuple"), none, (.seq #[(.str (PySem.Str.ofString "self") 430)] 0), #[]⟩
noncomputable def y87 (P : Params) : Obj := ⟨(.type "tuple"), none, (.seq #[] 0), #[]⟩
noncomputable def y88 (P : Params) : Obj := ⟨.none, none, (.func { name := (PySem.Str.ofString "__len__"), qualname := (PySem.Str.ofString "Headers.__len__"), params := fnParams [7, 2], body := .stmts (fnBody [7, 2]), scope := fnScope [7, 2], globals := 0, closure := [], defaults := .none, kwdefaults := .none, doc := .none, pyModule := .none, annotations := none, code := .none, closureTuple := .none, builtins := 0 }), #[]⟩
noncomputable def y89 (P : Params) : Obj := ⟨(.type "code"), none, (.fields #[(.str (PySem.Str.ofString "__len__") 427), (.str (PySem.Str.ofString "Headers.__len__") 428), (.str (PySem.Str.ofString "/claim/cut.py") 429), (.int 38 0), (.int 1 0), (.int 0 0), (.int 0 0), (.int 3 0), (.ref 84), (.bool true), (.int 276 0), (.ref 85), .none, (.ref 86), (.ref 87), (.ref 88), (.int 431 0), (.int 38 0), (.str (PySem.Str.ofString "/claim/cut.py") 432)]), #[]⟩
noncomputable def y90 (P : Params) : Obj := ⟨(.type "function"), none, (.func { name := (PySem.Str.ofString "__len__"), qualname := (PySem.Str.ofString "Headers.__len__"), params := fnParams [7, 2], body := .stmts (fnBody [7, 2]), scope := fnScope [7, 2], globals := 3, closure := [], defaults := .none, kwdefaults := .none, doc := .none, pyModule := (.str (PySem.Str.ofString "cpy313.wsgiref.headers") 289), annotations := none, code := (.ref 89), closureTuple := .none, builtins := 0 }), #[]⟩
noncomputable def y91 (P : Params) : Obj := ⟨(.type "tuple"), none, (.seq #[] 0), #[]⟩
noncomputable def y92 (P : Params) : Obj := ⟨.none, none, (.fields #[]), #[]⟩
noncomputable def y93 (P : Params) : Obj := ⟨(.type "tuple"), none, (.seq #[(.str (PySem.Str.ofString "self") 437), (.str (PySem.Str.ofString "name") 438), (.str (PySem.Str.ofString "val") 439)] 0), #[]⟩
noncomputable def y94 (P : Params) : Obj := ⟨(.type "tuple"), none, (.seq #[] 0), #[]⟩
noncomputable def y95 (P : Params) : Obj := ⟨.none, none, (.func { name := (PySem.Str.ofString "__setitem__"), qualname := (PySem.Str.ofString "Headers.__setitem__"), params := fnParams [7, 3], body := .stmts (fnBody [7, 3]), scope := fnScope [7, 3], globals := 0, closure := [], defaults := .none, kwdefaults := .none, doc := .none, pyModule := .none, annotations := none, code := .none, closureTuple := .none, builtins := 0 }), #[]⟩
noncomputable def y96 (P : Params) : Obj := ⟨(.type "code"), none, (.fields #[(.str (PySem.Str.ofString "__setitem__") 434), (.str (PySem.Str.ofString "Headers.__setitem__") 435), (.str (PySem.Str.ofString "/claim/cut.py") 436), (.int 41 0), (.int 3 0), (.int 0 0), (.int 0 0), (.int 3 0), (.ref 91), (.bool true), (.int 276 0), (.ref 92), .none, (.ref 93), (.ref 94), (.ref 95), (.int 440 0), (.int 41 0), (.str (PySem.Str.ofString "/claim/cut.py") 441)]), #[]⟩
noncomputable def y97 (P : Params) : Obj := ⟨(.type "function"), none, (.func { name := (PySem.Str.ofString "__setitem__"), qualname := (PySem.Str.ofString "Headers.__setitem__"), params := fnParams [7, 3], body := .stmts (fnBody [7, 3]), scope := fnScope [7, 3], globals := 3, closure := [], defaults := .none, kwdefaults := .none, doc := .none, pyModule := (.str (PySem.Str.ofString "cpy313.wsgiref.headers") 289), annotations := none, code := (.ref 96), closureTuple := .none, builtins := 0 }), #[]⟩
noncomputable def y98 (P : Params) : Obj := ⟨(.type "tuple"), none, (.seq #[] 0), #[]⟩
noncomputable def y99 (P : Params) : Obj := ⟨.none, none, (.fields #[]), #[]⟩
noncomputable def y100 (P : Params) : Obj := ⟨.none, none, (.func { name := (PySem.Str.ofString "__delitem__"), qualname := (PySem.Str.ofString "Headers.__delitem__"), params := fnParams [7, 4], body := .stmts (fnBody [7, 4]), scope := fnScope [7, 4], globals := 0, closure := [], defaults := .none, kwdefaults := .none, doc := .none, pyModule := .none, annotations := none, code := .none, closureTuple := .none, builtins := 0 }), #[]⟩
noncomputable def y101 (P : Params) : Obj := ⟨(.type "code"), none, (.fields #[(.str (PySem.Str.ofString "__delitem__") 443), (.str (PySem.Str.ofString "Headers.__delitem__") 444), (.str (PySem.Str.ofString "/claim/cut.py") 445), (.int 45 0), (.int 2 0), (.int 0 0), (.int 0 0), (.int 3 0), (.ref 98), (.bool true), (.int 276 0), (.ref 99), .none, .none, .none, (.ref 100), (.int 446 0), (.int 45 0), (.str (PySem.Str.ofString "/claim/cut.py") 447)]), #[]⟩
noncomputable def y102 (P : Params) : Obj := ⟨(.type "function"), none, (.func { name := (PySem.Str.ofString "__delitem__"), qualname := (PySem.Str.ofString "Headers.__delitem__"), params := fnParams [7, 4], body := .stmts (fnBody [7, 4]), scope := fnScope [7, 4], globals := 3, closure := [], defaults := .none, kwdefaults := .none, doc := .none, pyModule := (.str (PySem.Str.ofString "cpy313.wsgiref.headers") 289), annotations := none, code := (.ref 101), closureTuple := .none, builtins := 0 }), #[]⟩
noncomputable def y103 (P : Params) : Obj := ⟨(.type "tuple"), none, (.seq #[] 0), #[]⟩
noncomputable def y104 (P : Params) : Obj := ⟨.none, none, (.fields #[]), #[]⟩
noncomputable def y105 (P : Params) : Obj := ⟨(.type "tuple"), none, (.seq #[(.str (PySem.Str.ofString "self") 452), (.str (PySem.Str.ofString "name") 453)] 0), #[]⟩
noncomputable def y106 (P : Params) : Obj := ⟨(.type "tuple"), none, (.seq #[] 0), #[]⟩
noncomputable def y107 (P : Params) : Obj := ⟨.none, none, (.func { name := (PySem.Str.ofString "__getitem__"), qualname := (PySem.Str.ofString "Headers.__getitem__"), params := fnParams [7, 5], body := .stmts (fnBody [7, 5]), scope := fnScope [7, 5], globals := 0, closure := [], defaults := .none, kwdefaults := .none, doc := .none, pyModule := .none, annotations := none, code := .none, closureTuple := .none, builtins := 0 }), #[]⟩
noncomputable def y108 (P : Params) : Obj := ⟨(.type "code"), none, (.fields #[(.str (PySem.Str.ofString "__getitem__") 449), (.str (PySem.Str.ofString "Headers.__getitem__") 450), (.str (PySem.Str.ofString "/claim/cut.py") 451), (.int 49 0), (.int 2 0), (.int 0 0), (.int 0 0), (.int 3 0), (.ref 103), (.bool true), (.int 276 0), (.ref 104), .none, (.ref 105), (.ref 106), (.ref 107), (.int 454 0), (.int 49 0), (.str (PySem.Str.ofString "/claim/cut.py") 455)]), #[]⟩
noncomputable def y109 (P : Params) : Obj := ⟨(.type "function"), none, (.func { name := (PySem.Str.ofString "__getitem__"), qualname := (PySem.Str.ofString "Headers.__getitem__"), params := fnParams [7, 5], body := .stmts (fnBody [7, 5]), scope := fnScope [7, 5], globals := 3, closure := [], defaults := .none, kwdefaults := .none, doc := .none, pyModule := (.str (PySem.Str.ofString "cpy313.wsgiref.headers") 289), annotations := none, code := (.ref 108), closureTuple := .none, builtins := 0 }), #[]⟩
noncomputable def y110 (P : Params) : Obj := ⟨(.type "tuple"), none, (.seq #[] 0), #[]⟩
noncomputable def y111 (P : Params) : Obj := ⟨.none, none, (.fields #[]), #[]⟩
noncomputable def y112 (P : Params) : Obj := ⟨(.type "tuple"), none, (.seq #[(.str (PySem.Str.ofString "self") 460), (.str (PySem.Str.ofString "name") 461)] 0), #[]⟩
noncomputable def y113 (P : Params) : Obj := ⟨(.type "tuple"), none, (.seq #[] 0), #[]⟩
noncomputable def y114 (P : Params) : Obj := ⟨.none, none, (.func { name := (PySem.Str.ofString "__contains__"), qualname := (PySem.Str.ofString "Headers.__contains__"), params := fnParams [7, 6], body := .stmts (fnBody [7, 6]), scope := fnScope [7, 6], globals := 0, closure := [], defaults := .none, kwdefaults := .none, doc := .none, pyModule := .none, annotations := none, code := .none, closureTuple := .none, builtins := 0 }), #[]⟩
noncomputable def y115 (P : Params) : Obj := ⟨(.type "code"), none, (.fields #[(.str (PySem.Str.ofString "__contains__") 457), (.str (PySem.Str.ofString "Headers.__contains__") 458), (.str (PySem.Str.ofString "/claim/cut.py") 459), (.int 52 0), (.int 2 0), (.int 0 0), (.int 0 0), (.int 3 0), (.ref 110), (.bool true), (.int 276 0), (.ref 111), .none, (.ref 112), (.ref 113), (.ref 114), (.int 462 0), (.int 52 0), (.str (PySem.Str.ofString "/claim/cut.py") 463)]), #[]⟩
noncomputable def y116 (P : Params) : Obj := ⟨(.type "function"), none, (.func { name := (PySem.Str.ofString "__contains__"), qualname := (PySem.Str.ofString "Headers.__contains__"), params := fnParams [7, 6], body := .stmts (fnBody [7, 6]), scope := fnScope [7, 6], globals := 3, closure := [], defaults := .none, kwdefaults := .none, doc := .none, pyModule := (.str (PySem.Str.ofString "cpy313.wsgiref.headers") 289), annotations := none, code := (.ref 115), closureTuple := .none, builtins := 0 }), #[]⟩
noncomputable def y117 (P : Params) : Obj := ⟨(.type "tuple"), none, (.seq #[] 0), #[]⟩
noncomputable def y118 (P : Params) : Obj := ⟨.none, none, (.fields #[]), #[]⟩
noncomputable def y119 (P : Params) : Obj := ⟨(.type "tuple"), none, (.seq #[(.str (PySem.Str.ofString "self") 468), (.str (PySem.Str.ofString "name") 469)] 0), #[]⟩
noncomputable def y120 (P : Params) : Obj := ⟨(.type "tuple"), none, (.seq #[] 0), #[]⟩
noncomputable def y121 (P : Params) : Obj := ⟨.none, none, (.func { name := (PySem.Str.ofString "get_all"), qualname := (PySem.Str.ofString "Headers.get_all"), params := fnParams [7, 7], body := .stmts (fnBody [7, 7]), scope := fnScope [7, 7], globals := 0, closure := [], defaults := .none, kwdefaults := .none, doc := .none, pyModule := .none, annotations := none, code := .none, closureTuple := .none, builtins := 0 }), #[]⟩
noncomputable def y122 (P : Params) : Obj := ⟨(.type "code"), none, (.fields #[(.str (PySem.Str.ofString "get_all") 465), (.str (PySem.Str.ofString "Headers.get_all") 466), (.str (PySem.Str.ofString "/claim/cut.py") 467), (.int 55 0), (.int 2 0), (.int 0 0), (.int 0 0), (.int 3 0), (.ref 117), (.bool true), (.int 276 0), (.ref 118), .none, (.ref 119), (.ref 120), (.ref 121), (.int 470 0), (.int 55 0), (.str (PySem.Str.ofString "/claim/cut.py") 471)]), #[]⟩
noncomputable def y123 (P : Params) : Obj := ⟨(.type "function"), none, (.func { name := (PySem.Str.ofString "get_all"), qualname := (PySem.Str.ofString "Headers.get_all"), params := fnParams [7, 7], body := .stmts (fnBody [7, 7]), scope := fnScope [7, 7], globals := 3, closure := [], defaults := .none, kwdefaults := .none, doc := .none, pyModule := (.str (PySem.Str.ofString "cpy313.wsgiref.headers") 289), annotations := none, code := (.ref 122), closureTuple := .none, builtins := 0 }), #[]⟩
noncomputable def y124 (P : Params) : Obj := ⟨(.type "tuple"), none, (.seq #[.none] 0), #[]⟩
noncomputable def y125 (P : Params) : Obj := ⟨(.type "tuple"), none, (.seq #[] 0), #[]⟩
noncomputable def y126 (P : Params) : Obj := ⟨.none, none, (.fields #[]), #[]⟩
noncomputable def y127 (P : Params) : Obj := ⟨(.type "tuple"), none, (.seq #[(.str (PySem.Str.ofString "self") 476), (.str (PySem.Str.ofString "name") 477), (.str (PySem.Str.ofString "default") 478), (.str (PySem.Str.ofString "k") 479), (.str (PySem.Str.ofString "v") 480)] 0), #[]⟩
noncomputable def y128 (P : Params) : Obj := ⟨(.type "tuple"), none, (.seq #[] 0), #[]⟩
noncomputable def y129 (P : Params) : Obj := ⟨.none, none, (.func { name := (PySem.Str.ofString "get"), qualname := (PySem.Str.ofString "Headers.get"), params := fnParams [7, 8], body := .stmts (fnBody [7, 8]), scope := fnScope [7, 8], globals := 0, closure := [], defaults := .none, kwdefaults := .none, doc := .none, pyModule := .none, annotations := none, code := .none, closureTuple := .none, builtins := 0 }), #[]⟩
noncomputable def y130 (P : Params) : Obj := ⟨(.type "code"), none, (.fields #[(.str (PySem.Str.ofString "get") 473), (.str (PySem.Str.ofString "Headers.get") 474), (.str (PySem.Str.ofString "/claim/cut.py") 475), (.int 58 0), (.int 3 0), (.int 0 0), (.int 0 0), (.int 3 0), (.ref 125), (.bool true), (.int 276 0), (.ref 126), .none, (.ref 127), (.ref 128), (.ref 129), (.int 481 0), (.int 58 0), (.str (PySem.Str.ofString "/claim/cut.py") 482)]), #[]⟩
noncomputable def y131 (P : Params) : Obj := ⟨(.type "function"), none, (.func { name := (PySem.Str.ofString "get"), qualname := (PySem.Str.ofString "Headers.get"), params := fnParams [7, 8], body := .stmts (fnBody [7, 8]), scope := fnScope [7, 8], globals := 3, closure := [], defaults := (.ref 124), kwdefaults := .none, doc := .none, pyModule := (.str (PySem.Str.ofString "cpy313.wsgiref.headers") 289), annotations := none, code := (.ref 130), closureTuple := .none, builtins := 0 }), #[]⟩
noncomputable def y132 (P : Params) : Obj := ⟨(.type "tuple"), none, (.seq #[] 0), #[]⟩
noncomputable def y133 (P : Params) : Obj := ⟨.none, none, (.fields #[]), #[]⟩
noncomputable def y134 (P : Params) : Obj := ⟨.none, none, (.func { name := (PySem.Str.ofString "keys"), qualname := (PySem.Str.ofString "Headers.keys"), params := fnParams [7, 9], body := .stmts (fnBody [7, 9]), scope := fnScope [7, 9], globals := 0, closure := [], defaults := .none, kwdefaults := .none, doc := .none, pyModule := .none, annotations := none, code := .none, closureTuple := .none, builtins := 0 }), #[]⟩
noncomputable def y135 (P : Params) : Obj := ⟨(.type "code"), none, (.fields #[(.str (PySem.Str.ofString "keys") 484), (.str (PySem.Str.ofString "Headers.keys") 485), (.str (PySem.Str.ofString "/claim/cut.py") 486), (.int 65 0), (.int 1 0), (.int 0 0), (.int 0 0), (.int 3 0), (.ref 132), (.bool true), (.int 276 0), (.ref 133), .none, .none, .none, (.ref 134), (.int 487 0), (.int 65 0), (.str (PySem.Str.ofString "/claim/cut.py") 488)]), #[]⟩
noncomputable def y136 (P : Params) : Obj := ⟨(.type "function"), none, (.func { name := (PySem.Str.ofString "keys"), qualname := (PySem.Str.ofString "Headers.keys"), params := fnParams [7, 9], body := .stmts (fnBody [7, 9]), scope := fnScope [7, 9], globals := 3, closure := [], defaults := .none, kwdefaults := .none, doc := .none, pyModule := (.str (PySem.Str.ofString "cpy313.wsgiref.headers") 289), annotations := none, code := (.ref 135), closureTuple := .none, builtins := 0 }), #[]⟩
noncomputable def y137 (P : Params) : Obj := ⟨(.type "tuple"), none, (.seq #[] 0), #[]⟩
noncomputable def y138 (P : Params) : Obj := ⟨.none, none, (.fields #[]), #[]⟩
noncomputable def y139 (P : Params) : Obj := ⟨.none, none, (.func { name := (PySem.Str.ofString "values"), qualname := (PySem.Str.ofString "Headers.values"), params := fnParams [7, 10], body := .stmts (fnBody [7, 10]), scope := fnScope [7, 10], globals := 0, closure := [], defaults := .none, kwdefaults := .none, doc := .none, pyModule := .none, annotations := none, code := .none, closureTuple := .none, builtins := 0 }), #[]⟩
noncomputable def y140 (P : Params) : Obj := ⟨(.type "code"), none, (.fields #[(.str (PySem.Str.ofString "values") 490), (.str (PySem.Str.ofString "Headers.values") 491), (.str (PySem.Str.ofString "/claim/cut.py") 492), (.int 68 0), (.int 1 0), (.int 0 0), (.int 0 0), (.int 3 0), (.ref 137), (.bool true), (.int 276 0), (.ref 138), .none, .none, .none, (.ref 139), (.int 493 0), (.int 68 0), (.str (PySem.Str.ofString "/claim/cut.py") 494)]), #[]⟩
noncomputable def y141 (P : Params) : Obj := ⟨(.type "function"), none, (.func { name := (PySem.Str.ofString "values"), qualname := (PySem.Str.ofString "Headers.values"), params := fnParams [7, 10], body := .stmts (fnBody [7, 10]), scope := fnScope [7, 10], globals := 3, closure := [], defaults := .none, kwdefaults := .none, doc := .none, pyModule := (.str (PySem.Str.ofString "cpy313.wsgiref.headers") 289), annotations := none, code := (.ref 140), closureTuple := .none, builtins := 0 }), #[]⟩
noncomputable def y142 (P : Params) : Obj := ⟨(.type "tuple"), none, (.seq #[] 0), #[]⟩
noncomputable def y143 (P : Params) : Obj := ⟨.none, none, (.fields #[]), #[]⟩
noncomputable def y144 (P : Params) : Obj := ⟨(.type "tuple"), none, (.seq #[(.str (PySem.Str.ofString "self") 499)] 0), #[]⟩
noncomputable def y145 (P : Params) : Obj := ⟨(.type "tuple"), none, (.seq #[] 0), #[]⟩
noncomputable def y146 (P : Params) : Obj := ⟨.none, none, (.func { name := (PySem.Str.ofString "items"), qualname := (PySem.Str.ofString "Headers.items"), params := fnParams [7, 11], body := .stmts (fnBody [7, 11]), scope := fnScope [7, 11], globals := 0, closure := [], defaults := .none, kwdefaults := .none, doc := .none, pyModule := .none, annotations := none, code := .none, closureTuple := .none, builtins := 0 }), #[]⟩
noncomputable def y147 (P : Params) : Obj := ⟨(.type "code"), none, (.fields #[(.str (PySem.Str.ofString "items") 496), (.str (PySem.Str.ofString "Headers.items") 497), (.str (PySem.Str.ofString "/claim/cut.py") 498), (.int 71 0), (.int 1 0), (.int 0 0), (.int 0 0), (.int 3 0), (.ref 142), (.bool true), (.int 276 0), (.ref 143), .none, (.ref 144), (.ref 145), (.ref 146), (.int 500 0), (.int 71 0), (.str (PySem.Str.ofString "/claim/cut.py") 501)]), #[]⟩
noncomputable def y148 (P : Params) : Obj := ⟨(.type "function"), none, (.func { name := (PySem.Str.ofString "items"), qualname := (PySem.Str.ofString "Headers.items"), params := fnParams [7, 11], body := .stmts (fnBody [7, 11]), scope := fnScope [7, 11], globals := 3, closure := [], defaults := .none, kwdefaults := .none, doc := .none, pyModule := (.str (PySem.Str.ofString "cpy313.wsgiref.headers") 289), annotations := none, code := (.ref 147), closureTuple := .none, builtins := 0 }), #[]⟩
noncomputable def y149 (P : Params) : Obj := ⟨(.type "tuple"), none, (.seq #[] 0), #[]⟩
noncomputable def y150 (P : Params) : Obj := ⟨.none, none, (.fields #[]), #[]⟩
noncomputable def y151 (P : Params) : Obj := ⟨(.type "tuple"), none, (.seq #[(.str (PySem.Str.ofString "self") 506)] 0), #[]⟩
noncomputable def y152 (P : Params) : Obj := ⟨(.type "tuple"), none, (.seq #[] 0), #[]⟩
noncomputable def y153 (P : Params) : Obj := ⟨.none, none, (.func { name := (PySem.Str.ofString "__repr__"), qualname := (PySem.Str.ofString "Headers.__repr__"), params := fnParams [7, 12], body := .stmts (fnBody [7, 12]), scope := fnScope [7, 12], globals := 0, closure := [], defaults := .none, kwdefaults := .none, doc := .none, pyModule := .none, annotations := none, code := .none, closureTuple := .none, builtins := 0 }), #[]⟩
noncomputable def y154 (P : Params) : Obj := ⟨(.type "code"), none, (.fields #[(.str (PySem.Str.ofString "__repr__") 503), (.str (PySem.Str.ofString "Headers.__repr__") 504), (.str (PySem.Str.ofString "/claim/cut.py") 505), (.int 74 0), (.int 1 0), (.int 0 0), (.int 0 0), (.int 3 0), (.ref 149), (.bool true), (.int 276 0), (.ref 150), .none, (.ref 151), (.ref 152), (.ref 153), (.int 507 0), (.int 74 0), (.str (PySem.Str.ofString "/claim/cut.py") 508)]), #[]⟩
noncomputable def y155 (P : Params) : Obj := ⟨(.type "function"), none, (.func { name := (PySem.Str.ofString "__repr__"), qualname := (PySem.Str.ofString "Headers.__repr__"), params := fnParams [7, 12], body := .stmts (fnBody [7, 12]), scope := fnScope [7, 12], globals := 3, closure := [], defaults := .none, kwdefaults := .none, doc := .none, pyModule := (.str (PySem.Str.ofString "cpy313.wsgiref.headers") 289), annotations := none, code := (.ref 154), closureTuple := .none, builtins := 0 }), #[]⟩
noncomputable def y156 (P : Params) : Obj := ⟨(.type "tuple"), none, (.seq #[] 0), #[]⟩
noncomputable def y157 (P : Params) : Obj := ⟨.none, none, (.fields #[]), #[]⟩
noncomputable def y158 (P : Params) : Obj := ⟨.none, none, (.func { name := (PySem.Str.ofString "__str__"), qualname := (PySem.Str.ofString "Headers.__str__"), params := fnParams [7, 13], body := .stmts (fnBody [7, 13]), scope := fnScope [7, 13], globals := 0, closure := [], defaults := .none, kwdefaults := .none, doc := .none, pyModule := .none, annotations := none, code := .none, closureTuple := .none, builtins := 0 }), #[]⟩
noncomputable def y159 (P : Params) : Obj := ⟨(.type "code"), none, (.fields #[(.str (PySem.Str.ofString "__str__") 510), (.str (PySem.Str.ofString "Headers.__str__") 511), (.str (PySem.Str.ofString "/claim/cut.py") 512), (.int 77 0), (.int 1 0), (.int 0 0), (.int 0 0), (.int 3 0), (.ref 156), (.bool true), (.int 276 0), (.ref 157), .none, .none, .none, (.ref 158), (.int 513 0), (.int 77 0), (.str (PySem.Str.ofString "/claim/cut.py") 514)]), #[]⟩
noncomputable def y160 (P : Params) : Obj := ⟨(.type "function"), none, (.func { name := (PySem.Str.ofString "__str__"), qualname := (PySem.Str.ofString "Headers.__str__"), params := fnParams [7, 13], body := .stmts (fnBody [7, 13]), scope := fnScope [7, 13], globals := 3, closure := [], defaults := .none, kwdefaults := .none, doc := .none, pyModule := (.str (PySem.Str.ofString "cpy313.wsgiref.headers") 289), annotations := none, code := (.ref 159), closureTuple := .none, builtins := 0 }), #[]⟩
noncomputable def y161 (P : Params) : Obj := ⟨(.type "tuple"), none, (.seq #[] 0), #[]⟩
noncomputable def y162 (P : Params) : Obj := ⟨.none, none, (.fields #[]), #[]⟩
noncomputable def y163 (P : Params) : Obj := ⟨(.type "tuple"), none, (.seq #[(.str (PySem.Str.ofString "self") 519)] 0), #[]⟩
noncomputable def y164 (P : Params) : Obj := ⟨(.type "tuple"), none, (.seq #[] 0), #[]⟩
noncomputable def y165 (P : Params) : Obj := ⟨.none, none, (.func { name := (PySem.Str.ofString "__bytes__"), qualname := (PySem.Str.ofString "Headers.__bytes__"), params := fnParams [7, 14], body := .stmts (fnBody [7, 14]), scope := fnScope [7, 14], globals := 0, closure := [], defaults := .none, kwdefaults := .none, doc := .none, pyModule := .none, annotations := none, code := .none, closureTuple := .none, builtins := 0 }), #[]⟩
noncomputable def y166 (P : Params) : Obj := ⟨(.type "code"), none, (.fields #[(.str (PySem.Str.ofString "__bytes__") 516), (.str (PySem.Str.ofString "Headers.__bytes__") 517), (.str (PySem.Str.ofString "/claim/cut.py") 518), (.int 80 0), (.int 1 0), (.int 0 0), (.int 0 0), (.int 3 0), (.ref 161), (.bool true), (.int 276 0), (.ref 162), .none, (.ref 163), (.ref 164), (.ref 165), (.int 520 0), (.int 80 0), (.str (PySem.Str.ofString "/claim/cut.py") 521)]), #[]⟩
noncomputable def y167 (P : Params) : Obj := ⟨(.type "function"), none, (.func { name := (PySem.Str.ofString "__bytes__"), qualname := (PySem.Str.ofString "Headers.__bytes__"), params := fnParams [7, 14], body := .stmts (fnBody [7, 14]), scope := fnScope [7, 14], globals := 3, closure := [], defaults := .none, kwdefaults := .none, doc := .none, pyModule := (.str (PySem.Str.ofString "cpy313.wsgiref.headers") 289), annotations := none, code := (.ref 166), closureTuple := .none, builtins := 0 }), #[]⟩
noncomputable def y168 (P : Params) : Obj := ⟨(.type "tuple"), none, (.seq #[] 0), #[]⟩
noncomputable def y169 (P : Params) : Obj := ⟨.none, none, (.fields #[]), #[]⟩
noncomputable def y170 (P : Params) : Obj := ⟨(.type "tuple"), none, (.seq #[(.str (PySem.Str.ofString "self") 526), (.str (PySem.Str.ofString "name") 527), (.str (PySem.Str.ofString "value") 528)] 0), #[]⟩
noncomputable def y171 (P : Params) : Obj := ⟨(.type "tuple"), none, (.seq #[] 0), #[]⟩
noncomputable def y172 (P : Params) : Obj := ⟨.none, none, (.func { name := (PySem.Str.ofString "setdefault"), qualname := (PySem.Str.ofString "Headers.setdefault"), params := fnParams [7, 15], body := .stmts (fnBody [7, 15]), scope := fnScope [7, 15], globals := 0, closure := [], defaults := .none, kwdefaults := .none, doc := .none, pyModule := .none, annotations := none, code := .none, closureTuple := .none, builtins := 0 }), #[]⟩
noncomputable def y173 (P : Params) : Obj := ⟨(.type "code"), none, (.fields #[(.str (PySem.Str.ofString "setdefault") 523), (.str (PySem.Str.ofString "Headers.setdefault") 524), (.str (PySem.Str.ofString "/claim/cut.py") 525), (.int 83 0), (.int 3 0), (.int 0 0), (.int 0 0), (.int 3 0), (.ref 168), (.bool true), (.int 276 0), (.ref 169), .none, (.ref 170), (.ref 171), (.ref 172), (.int 529 0), (.int 83 0), (.str (PySem.Str.ofString "/claim/cut.py") 530)]), #[]⟩
noncomputable def y174 (P : Params) : Obj := ⟨(.type "function"), none, (.func { name := (PySem.Str.ofString "setdefault"), qualname := (PySem.Str.ofString "Headers.setdefault"), params := fnParams [7, 15], body := .stmts (fnBody [7, 15]), scope := fnScope [7, 15], globals := 3, closure := [], defaults := .none, kwdefaults := .none, doc := .none, pyModule := (.str (PySem.Str.ofString "cpy313.wsgiref.headers") 289), annotations := none, code := (.ref 173), closureTuple := .none, builtins := 0 }), #[]⟩
noncomputable def y175 (P : Params) : Obj := ⟨(.type "tuple"), none, (.seq #[] 0), #[]⟩
noncomputable def y176 (P : Params) : Obj := ⟨.none, none, (.fields #[]), #[]⟩
noncomputable def y177 (P : Params) : Obj := ⟨(.type "tuple"), none, (.seq #[(.str (PySem.Str.ofString "self") 535), (.str (PySem.Str.ofString "_name") 536), (.str (PySem.Str.ofString "_value") 537), (.str (PySem.Str.ofString "_params") 538), (.str (PySem.Str.ofString "parts") 539), (.str (PySem.Str.ofString "k") 540), (.str (PySem.Str.ofString "v") 541)] 0), #[]⟩
noncomputable def y178 (P : Params) : Obj := ⟨(.type "tuple"), none, (.seq #[] 0), #[]⟩
noncomputable def y179 (P : Params) : Obj := ⟨.none, none, (.func { name := (PySem.Str.ofString "add_header"), qualname := (PySem.Str.ofString "Headers.add_header"), params := fnParams [7, 16], body := .stmts (fnBody [7, 16]), scope := fnScope [7, 16], globals := 0, closure := [], defaults := .none, kwdefaults := .none, doc := .none, pyModule := .none, annotations := none, code := .none, closureTuple := .none, builtins := 0 }), #[]⟩
noncomputable def y180 (P : Params) : Obj := ⟨(.type "code"), none, (.fields #[(.str (PySem.Str.ofString "add_header") 532), (.str (PySem.Str.ofString "Headers.add_header") 533), (.str (PySem.Str.ofString "/claim/cut.py") 534), (.int 86 0), (.int 3 0), (.int 0 0), (.int 0 0), (.int 11 0), (.ref 175), (.bool true), (.int 276 0), (.ref 176), .none, (.ref 177), (.ref 178), (.ref 179), (.int 542 0), (.int 86 0), (.str (PySem.Str.ofString "/claim/cut.py") 543)]), #[]⟩
noncomputable def y181 (P : Params) : Obj := ⟨(.type "function"), none, (.func { name := (PySem.Str.ofString "add_header"), qualname := (PySem.Str.ofString "Headers.add_header"), params := fnParams [7, 16], body := .stmts (fnBody [7, 16]), scope := fnScope [7, 16], globals := 3, closure := [], defaults := .none, kwdefaults := .none, doc := .none, pyModule := (.str (PySem.Str.ofString "cpy313.wsgiref.headers") 289), annotations := none, code := (.ref 180), closureTuple := .none, builtins := 0 }), #[]⟩
noncomputable def y182 (P : Params) : Obj := ⟨(.type "tuple"), none, (.seq #[(.str (PySem.Str.ofString "_headers") 545)] 0), #[]⟩
noncomputable def y183 (P : Params) : Obj := ⟨(.type "dict"), none, (.dict #[⟨(PyData.keyHash P (PySem.Str.ofString "__module__")), (.str (PySem.Str.ofString "__module__") 402), (.str (PySem.Str.ofString "cpy313.wsgiref.headers") 289)⟩, ⟨(PyData.keyHash P (PySem.Str.ofString "__firstlineno__")), (.str (PySem.Str.ofString "__firstlineno__") 406), (.int 18 405)⟩, ⟨(PyData.keyHash P (PySem.Str.ofString "__init__")), (.str (PySem.Str.ofString "__init__") 416), (.ref 76)⟩, ⟨(PyData.keyHash P (PySem.Str.ofString "_convert_string_type")), (.str (PySem.Str.ofString "_convert_string_type") 426), (.ref 83)⟩, ⟨(PyData.keyHash P (PySem.Str.ofString "__len__")), (.str (PySem.Str.ofString "__len__") 433), (.ref 90)⟩, ⟨(PyData.keyHash P (PySem.Str.ofString "__setitem__")), (.str (PySem.Str.ofString "__setitem__") 442), (.ref 97)⟩, ⟨(PyData.keyHash P (PySem.Str.ofString "__delitem__")), (.str (PySem.Str.ofString "__delitem__") 448), (.ref 102)⟩, ⟨(PyData.keyHash P (PySem.Str.ofString "__getitem__")), (.str (PySem.Str.ofString "__getitem__") 456), (.ref 109)⟩, ⟨(PyData.keyHash P (PySem.Str.ofString "__contains__")), (.str (PySem.Str.ofString "__contains__") 464), (.ref 116)⟩, ⟨(PyData.keyHash P (PySem.Str.ofString "get_all")), (.str (PySem.Str.ofString "get_all") 472), (.ref 123)⟩, ⟨(PyData.keyHash P (PySem.Str.ofString "get")), (.str (PySem.Str.ofString "get") 483), (.ref 131)⟩, ⟨(PyData.keyHash P (PySem.Str.ofString "keys")), (.str (PySem.Str.ofString "keys") 489), (.ref 136)⟩, ⟨(PyData.keyHash P (PySem.Str.ofString "values")), (.str (PySem.Str.ofString "values") 495), (.ref 141)⟩, ⟨(PyData.keyHash P (PySem.Str.ofString "items")), (.str (PySem.Str.ofString "items") 502), (.ref 148)⟩, ⟨(PyData.keyHash P (PySem.Str.ofString "__repr__")), (.str (PySem.Str.ofString "__repr__") 509), (.ref 155)⟩, ⟨(PyData.keyHash P (PySem.Str.ofString "__str__")), (.str (PySem.Str.ofString "__str__") 515), (.ref 160)⟩, ⟨(PyData.keyHash P (PySem.Str.ofString "__bytes__")), (.str (PySem.Str.ofString "__bytes__") 522), (.ref 167)⟩, ⟨(PyData.keyHash P (PySem.Str.ofString "setdefault")), (.str (PySem.Str.ofString "setdefault") 531), (.ref 174)⟩, ⟨(PyData.keyHash P (PySem.Str.ofString "add_header")), (.str (PySem.Str.ofString "add_header") 544), (.ref 181)⟩, ⟨(PyData.keyHash P (PySem.Str.ofString "__static_attributes__")), (.str (PySem.Str.ofString "__static_attributes__") 546), (.ref 182)⟩, ⟨(PyData.keyHash P (PySem.Str.ofString "__dict__")), (.str (PySem.Str.ofString "__dict__") 548), (.ref 185)⟩, ⟨(PyData.keyHash P (PySem.Str.ofString "__weakref__")), (.str (PySem.Str.ofString "__weakref__") 550), (.ref 186)⟩, ⟨(PyData.keyHash P (PySem.Str.ofString "__doc__")), (.str (PySem.Str.ofString "__doc__") 551), .none⟩] 4), #[]⟩
noncomputable def y184 (P : Params) : Obj := ⟨(.type "type"), none, (.cls { name := (PySem.Str.ofString "Headers"), bases := [(.type "object")], mro := [(.ref 184), (.type "object")], ns := 183, qualname := (PySem.Str.ofString "Headers"), hasDict := true, slotNames := [], subclasses := [], abstract := false, collection := none, hasDel := false }), #[none, none, (some (.str (PySem.Str.ofString "Headers") 395)), (some (.str (PySem.Str.ofString "Headers") 403)), (some (.builtin "object.__new__")), (some (.bool true))]⟩
noncomputable def y185 (P : Params) : Obj := ⟨(.type "getset_descriptor"), none, (.fields #[(.str (PySem.Str.ofString "__dict__") 547), (.ref 184), (.builtin "function.__dict__"), (.builtin "function.__dict__#set")]), #[]⟩
noncomputable def y186 (P : Params) : Obj := ⟨(.type "getset_descriptor"), none, (.fields #[(.str (PySem.Str.ofString "__weakref__") 549), (.ref 184), (.builtin "ExceptionGroup.__weakref__"), .none]), #[]⟩
noncomputable def y187 (P : Params) : Obj := ⟨(.type "super"), none, (.fields #[(.ref 184), (.ref 184), (.ref 184)]), #[]⟩
noncomputable def y188 (P : Params) : Obj := ⟨(.type "builtin_function_or_method"), none, (.fields #[(.builtin "object.__init_subclass__"), (.ref 184)]), #[]⟩
noncomputable def a3 (P : Params) : Obj := ⟨(.type "dict"), none, (.dict #[⟨(PyData.keyHash P (PySem.Str.ofString "__name__")), (.str (PySem.Str.ofString "__name__") 165), (.str (PySem.Str.ofString "cpy313.stringprep") 554)⟩, ⟨(PyData.keyHash P (PySem.Str.ofString "__doc__")), (.str (PySem.Str.ofString "__doc__") 166), .none⟩, ⟨(PyData.keyHash P (PySem.Str.ofString "__package__")), (.str (PySem.Str.ofString "__package__") 167), .none⟩, ⟨(PyData.keyHash P (PySem.Str.ofString "__loader__")), (.str (PySem.Str.ofString "__loader__") 168), (.builtin "__main__.__loader__#opaque")⟩, ⟨(PyData.keyHash P (PySem.Str.ofString "__spec__")), (.str (PySem.Str.ofString "__spec__") 169), .none⟩, ⟨(PyData.keyHash P (PySem.Str.ofString "__annotations__")), (.str (PySem.Str.ofString "__annotations__") 170), (.ref 6)⟩, ⟨(PyData.keyHash P (PySem.Str.ofString "__builtins__")), (.str (PySem.Str.ofString "__builtins__") 171), (.ref 4)⟩, ⟨(PyData.keyHash P (PySem.Str.ofString "__file__")), (.str (PySem.Str.ofString "__file__") 173), (.str (PySem.Str.ofString "/claim/cut.py") 172)⟩, ⟨(PyData.keyHash P (PySem.Str.ofString "__cached__")), (.str (PySem.Str.ofString "__cached__") 174), .none⟩, ⟨(PyData.keyHash P (PySem.Str.ofString "_sre")), (.str (PySem.Str.ofString "_sre") 275), (.ref 12)⟩, ⟨(PyData.keyHash P (PySem.Str.ofString "_wall")), (.str (PySem.Str.ofString "_wall") 288), (.ref 38)⟩, ⟨(PyData.keyHash P (PySem.Str.ofString "tspecials")), (.str (PySem.Str.ofString "tspecials") 324), (.ref 43)⟩, ⟨(PyData.keyHash P (PySem.Str.ofString "_name_disallowed_re")), (.str (PySem.Str.ofString "_name_disallowed_re") 350), (.ref 48)⟩, ⟨(PyData.keyHash P (PySem.Str.ofString "_value_disallowed_re")), (.str (PySem.Str.ofString "_value_disallowed_re") 384), (.ref 53)⟩, ⟨(PyData.keyHash P (PySem.Str.ofString "_formatparam")), (.str (PySem.Str.ofString "_formatparam") 394), (.ref 61)⟩, ⟨(PyData.keyHash P (PySem.Str.ofString "Headers")), (.str (PySem.Str.ofString "Headers") 553), (.ref 184)⟩, ⟨(PyData.keyHash P (PySem.Str.ofString "b1_set")), (.str (PySem.Str.ofString "b1_set") 615), (.ref 196)⟩, ⟨(PyData.keyHash P (PySem.Str.ofString "in_table_b1")), (.str (PySem.Str.ofString "in_table_b1") 622), (.ref 206)⟩] 18), #[]⟩
noncomputable def a29 (P : Params) : Obj := ⟨.none, none, (.fields #[(.int 2 0), (.int 0 0), (.ref 37), (.int 9 0), (.int 0 0), (.ref 60), (.int 18 0), (.int 0 0), (.ref 67), (.int 101 0), (.int 0 0), (.ref 205)]), #[]⟩
noncomputable def a189 (P : Params) : Obj := ⟨(.type "list"), none, (.seq #[(.int 173 556), (.int 847 557), (.int 6150 558), (.int 6155 559), (.int 6156 560), (.int 6157 561), (.int 8203 562), (.int 8204 563), (.int 8205 564), (.int 8288 565), (.int 65279 566)] 0), #[]⟩
noncomputable def a190 (P : Params) : Obj := ⟨(.type "range"), none, (.fields #[(.int 65024 567), (.int 65040 568), (.int 1 569)]), #[]⟩
noncomputable def a191 (P : Params) : Obj := ⟨(.type "list"), none, (.seq #[(.int 65024 572), (.int 65025 573), (.int 65026 574), (.int 65027 575), (.int 65028 576), (.int 65029 577), (.int 65030 578), (.int 65031 579), (.int 65032 580), (.int 65033 581), (.int 65034 582), (.int 65035 583), (.int 65036 584), (.int 65037 585), (.int 65038 586), (.int 65039 587)] 18), #[]⟩
noncomputable def a192 (P : Params) : Obj := ⟨(.type "range_iterator"), none, (.fields #[(.int 65040 0), (.int 0 0), (.int 1 0)]), #[]⟩
noncomputable def a193 (P : Params) : Obj := ⟨(.type "tuple"), none, (.seq #[] 0), #[]⟩
noncomputable def a194 (P : Params) : Obj := ⟨(.type "StopIteration"), none, (.fields #[(.ref 193), .none, .none, .none, (.bool false), .none]), #[]⟩
noncomputable def a195 (P : Params) : Obj := ⟨(.type "list"), none, (.seq #[(.int 173 556), (.int 847 557), (.int 6150 558), (.int 6155 559), (.int 6156 560), (.int 6157 561), (.int 8203 562), (.int 8204 563), (.int 8205 564), (.int 8288 565), (.int 65279 566), (.int 65024 572), (.int 65025 573), (.int 65026 574), (.int 65027 575), (.int 65028 576), (.int 65029 577), (.int 65030 578), (.int 65031 579), (.int 65032 580), (.int 65033 581), (.int 65034 582), (.int 65035 583), (.int 65036 584), (.int 65037 585), (.int 65038 586), (.int 65039 587)] 0), #[]⟩
noncomputable def a196 (P : Params) : Obj := ⟨(.type "set"), none, (.set #[(65024, (.int 65024 572)), (65025, (.int 65025 573)), (65026, (.int 65026 574)), (65027, (.int 65027 575)), (65028, (.int 65028 576)), (65029, (.int 65029 577)), (6150, (.int 6150 558)), (65030, (.int 65030 578)), (65031, (.int 65031 579)), (65032, (.int 65032 580)), (65033, (.int 65033 581)), (6155, (.int 6155 559)), (6156, (.int 6156 560)), (6157, (.int 6157 561)), (8203, (.int 8203 562)), (8204, (.int 8204 563)), (8205, (.int 8205 564)), (65034, (.int 65034 582)), (65035, (.int 65035 583)), (65036, (.int 65036 584)), (65037, (.int 65037 585)), (65038, (.int 65038 586)), (65039, (.int 65039 587)), (173, (.int 173 556)), (847, (.int 847 557)), (8288, (.int 8288 565)), (65279, (.int 65279 566))] 29 { mask := 127, place := #[0, 1, 2, 3, 4, 5, 6, 7, 8, 9, 10, 11, 12, 13, 14, 15, 16, 17, 18, 19, 20, 21, 22, 45, 79, 96, 127], dummies := #[], finger := 0, led := !P.followText "set-order", moves := 2, plain := true }), #[]⟩
noncomputable def a197 (P : Params) : Obj := ⟨(.type "list_iterator"), none, (.fields #[.none, (.int 27 0)]), #[]⟩
noncomputable def a198 (P : Params) : Obj := ⟨(.type "tuple"), none, (.seq #[] 0), #[]⟩
noncomputable def a199 (P : Params) : Obj := ⟨(.type "StopIteration"), none, (.fields #[(.ref 198), .none, .none, .none, (.bool false), .none]), #[]⟩
noncomputable def a200 (P : Params) : Obj := ⟨(.type "tuple"), none, (.seq #[] 0), #[]⟩
noncomputable def a201 (P : Params) : Obj := ⟨.none, none, (.fields #[]), #[]⟩
noncomputable def a202 (P : Params) : Obj := ⟨(.type "tuple"), none, (.seq #[(.str (PySem.Str.ofString "code") 619)] 0), #[]⟩
noncomputable def a203 (P : Params) : Obj := ⟨(.type "tuple"), none, (.seq #[] 0), #[]⟩
noncomputable def a204 (P : Params) : Obj := ⟨.none, none, (.func { name := (PySem.Str.ofString "in_table_b1"), qualname := (PySem.Str.ofString "in_table_b1"), params := fnParams [10], body := .stmts (fnBody [10]), scope := fnScope [10], globals := 0, closure := [], defaults := .none, kwdefaults := .none, doc := .none, pyModule := .none, annotations := none, code := .none, closureTuple := .none, builtins := 0 }), #[]⟩
noncomputable def a205 (P : Params) : Obj := ⟨(.type "code"), none, (.fields #[(.str (PySem.Str.ofString "in_table_b1") 616), (.str (PySem.Str.ofString "in_table_b1") 617), (.str (PySem.Str.ofString "/claim/cut.py") 618), (.int 101 0), (.int 1 0), (.int 0 0), (.int 0 0), (.int 3 0), (.ref 200), (.bool true), (.int 276 0), (.ref 201), .none, (.ref 202), (.ref 203), (.ref 204), (.int 620 0), (.int 101 0), (.str (PySem.Str.ofString "/claim/cut.py") 621)]), #[]⟩
noncomputable def a206 (P : Params) : Obj := ⟨(.type "function"), none, (.func { name := (PySem.Str.ofString "in_table_b1"), qualname := (PySem.Str.ofString "in_table_b1"), params := fnParams [10], body := .stmts (fnBody [10]), scope := fnScope [10], globals := 3, closure := [], defaults := .none, kwdefaults := .none, doc := .none, pyModule := (.str (PySem.Str.ofString "cpy313.stringprep") 554), annotations := none, code := (.ref 205), closureTuple := .none, builtins := 0 }), #[]⟩
@[irreducible] noncomputable def zObjs (P : Params) : List Obj := [z0 P, z1 P, z2 P, z3 P, z4 P, z5 P, z6 P, z7 P, z8 P, z9 P, z10 P, z11 P, z12 P, z13 P, z14 P, z15 P, z16 P, z17 P, z18 P, z19 P, z20 P, z21 P, z22 P, z23 P, z24 P, z25 P, z26 P, z27 P]
@[irreducible] noncomputable def yObjs (P : Params) : List Obj := [z0 P, z1 P, z2 P, y3 P, z4 P, z5 P, z6 P, z7 P, z8 P, z9 P, z10 P, z11 P, z12 P, z13 P, z14 P, z15 P, z16 P, z17 P, z18 P, z19 P, z20 P, z21 P, z22 P, z23 P, z24 P, z25 P, z26 P, z27 P, y28 P, y29 P, y30 P, y31 P, y32 P, y33 P, y34 P, y35 P, y36 P, y37 P, y38 P, y39 P, y40 P, y41 P, y42 P, y43 P, y44 P, y45 P, y46 P, y47 P, y48 P, y49 P, y50 P, y51 P, y52 P, y53 P, y54 P, y55 P, y56 P, y57 P, y58 P, y59 P, y60 P, y61 P, y62 P, y63 P, y64 P, y65 P, y66 P, y67 P, y68 P, y69 P, y70 P, y71 P, y72 P, y73 P, y74 P, y75 P, y76 P, y77 P, y78 P, y79 P, y80 P, y81 P, y82 P, y83 P, y84 P, y85 P, y86 P, y87 P, y88 P, y89 P, y90 P, y91 P, y92 P, y93 P, y94 P, y95 P, y96 P, y97 P, y98 P, y99 P, y100 P, y101 P, y102 P, y103 P, y104 P, y105 P, y106 P, y107 P, y108 P, y109 P, y110 P, y111 P, y112 P, y113 P, y114 P, y115 P, y116 P, y117 P, y118 P, y119 P, y120 P, y121 P, y122 P, y123 P, y124 P, y125 P, y126 P, y127 P, y128 P, y129 P, y130 P, y131 P, y132 P, y133 P, y134 P, y135 P, y136 P, y137 P, y138 P, y139 P, y140 P, y141 P, y142 P, y143 P, y144 P, y145 P, y146 P, y147 P, y148 P, y149 P, y150 P, y151 P, y152 P, y153 P, y154 P, y155 P, y156 P, y157 P, y158 P, y159 P, y160 P, y161 P, y162 P, y163 P, y164 P, y165 P, y166 P, y167 P, y168 P, y169 P, y170 P, y171 P, y172 P, y173 P, y174 P, y175 P, y176 P, y177 P, y178 P, y179 P, y180 P, y181 P, y182 P, y183 P, y184 P, y185 P, y186 P, y187 P, y188 P]
@[irreducible] noncomputable def aObjs (P : Params) : List Obj := [z0 P, z1 P, z2 P, a3 P, z4 P, z5 P, z6 P, z7 P, z8 P, z9 P, z10 P, z11 P, z12 P, z13 P, z14 P, z15 P, z16 P, z17 P, z18 P, z19 P, z20 P, z21 P, z22 P, z23 P, z24 P, z25 P, z26 P, z27 P, y28 P, a29 P, y30 P, y31 P, y32 P, y33 P, y34 P, y35 P, y36 P, y37 P, y38 P, y39 P, y40 P, y41 P, y42 P, y43 P, y44 P, y45 P, y46 P, y47 P, y48 P, y49 P, y50 P, y51 P, y52 P, y53 P, y54 P, y55 P, y56 P, y57 P, y58 P, y59 P, y60 P, y61 P, y62 P, y63 P, y64 P, y65 P, y66 P, y67 P, y68 P, y69 P, y70 P, y71 P, y72 P, y73 P, y74 P, y75 P, y76 P, y77 P, y78 P, y79 P, y80 P, y81 P, y82 P, y83 P, y84 P, y85 P, y86 P, y87 P, y88 P, y89 P, y90 P, y91 P, y92 P, y93 P, y94 P, y95 P, y96 P, y97 P, y98 P, y99 P, y100 P, y101 P, y102 P, y103 P, y104 P, y105 P, y106 P, y107 P, y108 P, y109 P, y110 P, y111 P, y112 P, y113 P, y114 P, y115 P, y116 P, y117 P, y118 P, y119 P, y120 P, y121 P, y122 P, y123 P, y124 P, y125 P, y126 P, y127 P, y128 P, y129 P, y130 P, y131 P, y132 P, y133 P, y134 P, y135 P, y136 P, y137 P, y138 P, y139 P, y140 P, y141 P, y142 P, y143 P, y144 P, y145 P, y146 P, y147 P, y148 P, y149 P, y150 P, y151 P, y152 P, y153 P, y154 P, y155 P, y156 P, y157 P, y158 P, y159 P, y160 P, y161 P, y162 P, y163 P, y164 P, y165 P, y166 P, y167 P, y168 P, y169 P, y170 P, y171 P, y172 P, y173 P, y174 P, y175 P, y176 P, y177 P, y178 P, y179 P, y180 P, y181 P, y182 P, y183 P, y184 P, y185 P, y186 P, y187 P, y188 P, a189 P, a190 P, a191 P, a192 P, a193 P, a194 P, a195 P, a196 P, a197 P, a198 P, a199 P, a200 P, a201 P, a202 P, a203 P, a204 P, a205 P, a206 P]
noncomputable def k3 (P : Params) : Obj := ⟨(.type "dict"), none, (.dict #[⟨(PyData.keyHash P (PySem.Str.ofString "__name__")), (.str (PySem.Str.ofString "__name__") 165), (.str (PySem.Str.ofString "law_un0048_01") 2598)⟩, ⟨(PyData.keyHash P (PySem.Str.ofString "__doc__")), (.str (PySem.Str.ofString "__doc__") 166), .none⟩, ⟨(PyData.keyHash P (PySem.Str.ofString "__package__")), (.str (PySem.Str.ofString "__package__") 167), .none⟩, ⟨(PyData.keyHash P (PySem.Str.ofString "__loader__")), (.str (PySem.Str.ofString "__loader__") 168), (.builtin "__main__.__loader__#opaque")⟩, ⟨(PyData.keyHash P (PySem.Str.ofString "__spec__")), (.str (PySem.Str.ofString "__spec__") 169), .none⟩, ⟨(PyData.keyHash P (PySem.Str.ofString "__annotations__")), (.str (PySem.Str.ofString "__annotations__") 170), (.ref 6)⟩, ⟨(PyData.keyHash P (PySem.Str.ofString "__builtins__")), (.str (PySem.Str.ofString "__builtins__") 171), (.ref 4)⟩, ⟨(PyData.keyHash P (PySem.Str.ofString "__file__")), (.str (PySem.Str.ofString "__file__") 173), (.str (PySem.Str.ofString "/claim/cut.py") 172)⟩, ⟨(PyData.keyHash P (PySem.Str.ofString "__cached__")), (.str (PySem.Str.ofString "__cached__") 174), .none⟩, ⟨(PyData.keyHash P (PySem.Str.ofString "_sre")), (.str (PySem.Str.ofString "_sre") 275), (.ref 12)⟩, ⟨(PyData.keyHash P (PySem.Str.ofString "_wall")), (.str (PySem.Str.ofString "_wall") 288), (.ref 38)⟩, ⟨(PyData.keyHash P (PySem.Str.ofString "tspecials")), (.str (PySem.Str.ofString "tspecials") 324), (.ref 43)⟩, ⟨(PyData.keyHash P (PySem.Str.ofString "_name_disallowed_re")), (.str (PySem.Str.ofString "_name_disallowed_re") 350), (.ref 48)⟩, ⟨(PyData.keyHash P (PySem.Str.ofString "_value_disallowed_re")), (.str (PySem.Str.ofString "_value_disallowed_re") 384), (.ref 53)⟩, ⟨(PyData.keyHash P (PySem.Str.ofString "_formatparam")), (.str (PySem.Str.ofString "_formatparam") 394), (.ref 61)⟩, ⟨(PyData.keyHash P (PySem.Str.ofString "Headers")), (.str (PySem.Str.ofString "Headers") 553), (.ref 184)⟩, ⟨(PyData.keyHash P (PySem.Str.ofString "b1_set")), (.str (PySem.Str.ofString "b1_set") 615), (.ref 196)⟩, ⟨(PyData.keyHash P (PySem.Str.ofString "in_table_b1")), (.str (PySem.Str.ofString "in_table_b1") 622), (.ref 206)⟩, ⟨(PyData.keyHash P (PySem.Str.ofString "b3_exceptions")), (.str (PySem.Str.ofString "b3_exceptions") 2573), (.ref 207)⟩, ⟨(PyData.keyHash P (PySem.Str.ofString "map_table_b3")), (.str (PySem.Str.ofString "map_table_b3") 2581), (.ref 252)⟩, ⟨(PyData.keyHash P (PySem.Str.ofString "_raise_serialization_error")), (.str (PySem.Str.ofString "_raise_serialization_error") 2590), (.ref 259)⟩, ⟨(PyData.keyHash P (PySem.Str.ofString "_escape_attrib_c14n")), (.str (PySem.Str.ofString "_escape_attrib_c14n") 2597), (.ref 266)⟩, ⟨(PyData.keyHash P (PySem.Str.ofString "_law_houses")), (.str (PySem.Str.ofString "_law_houses") 2616), (.ref 273)⟩, ⟨(PyData.keyHash P (PySem.Str.ofString "_law_built")), (.str (PySem.Str.ofString "_law_built") 2622), (.ref 278)⟩, ⟨(PyData.keyHash P (PySem.Str.ofString "_law_refused")), (.str (PySem.Str.ofString "_law_refused") 2633), (.ref 285)⟩, ⟨(PyData.keyHash P (PySem.Str.ofString "_law_blank")), (.str (PySem.Str.ofString "_law_blank") 2639), (.ref 290)⟩, ⟨(PyData.keyHash P (PySem.Str.ofString "_law_dressed")), (.str (PySem.Str.ofString "_law_dressed") 2655), (.ref 297)⟩, ⟨(PyData.keyHash P (PySem.Str.ofString "_law_told")), (.str (PySem.Str.ofString "_law_told") 2678), (.ref 304)⟩, ⟨(PyData.keyHash P (PySem.Str.ofString "law")), (.str (PySem.Str.ofString "law") 2684), (.ref 309)⟩] 29), #[]⟩
noncomputable def k246 (P : Params) : Obj := ⟨(.type "tuple"), none, (.seq #[] 0), #[]⟩
noncomputable def k248 (P : Params) : Obj := ⟨(.type "tuple"), none, (.seq #[(.str (PySem.Str.ofString "code") 2577), (.str (PySem.Str.ofString "r") 2578)] 0), #[]⟩
noncomputable def k249 (P : Params) : Obj := ⟨(.type "tuple"), none, (.seq #[] 0), #[]⟩
noncomputable def k251 (P : Params) : Obj := ⟨(.type "code"), none, (.fields #[(.str (PySem.Str.ofString "map_table_b3") 2574), (.str (PySem.Str.ofString "map_table_b3") 2575), (.str (PySem.Str.ofString "/claim/cut.py") 2576), (.int 104 0), (.int 1 0), (.int 0 0), (.int 0 0), (.int 3 0), (.ref 246), (.bool true), (.int 276 0), (.ref 247), .none, (.ref 248), (.ref 249), (.ref 250), (.int 2579 0), (.int 104 0), (.str (PySem.Str.ofString "/claim/cut.py") 2580)]), #[]⟩
noncomputable def k252 (P : Params) : Obj := ⟨(.type "function"), none, (.func { name := (PySem.Str.ofString "map_table_b3"), qualname := (PySem.Str.ofString "map_table_b3"), params := fnParams [12], body := .stmts (fnBody [12]), scope := fnScope [12], globals := 3, closure := [], defaults := .none, kwdefaults := .none, doc := .none, pyModule := (.str (PySem.Str.ofString "cpy313.stringprep") 554), annotations := none, code := (.ref 251), closureTuple := .none, builtins := 0 }), #[]⟩
noncomputable def k253 (P : Params) : Obj := ⟨(.type "tuple"), none, (.seq #[] 0), #[]⟩
noncomputable def k255 (P : Params) : Obj := ⟨(.type "tuple"), none, (.seq #[(.str (PySem.Str.ofString "text") 2587)] 0), #[]⟩
noncomputable def k256 (P : Params) : Obj := ⟨(.type "tuple"), none, (.seq #[] 0), #[]⟩
noncomputable def k258 (P : Params) : Obj := ⟨(.type "code"), none, (.fields #[(.str (PySem.Str.ofString "_raise_serialization_error") 2584), (.str (PySem.Str.ofString "_raise_serialization_error") 2585), (.str (PySem.Str.ofString "/claim/cut.py") 2586), (.int 110 0), (.int 1 0), (.int 0 0), (.int 0 0), (.int 3 0), (.ref 253), (.bool true), (.int 276 0), (.ref 254), .none, (.ref 255), (.ref 256), (.ref 257), (.int 2588 0), (.int 110 0), (.str (PySem.Str.ofString "/claim/cut.py") 2589)]), #[]⟩
noncomputable def k259 (P : Params) : Obj := ⟨(.type "function"), none, (.func { name := (PySem.Str.ofString "_raise_serialization_error"), qualname := (PySem.Str.ofString "_raise_serialization_error"), params := fnParams [14], body := .stmts (fnBody [14]), scope := fnScope [14], globals := 3, closure := [], defaults := .none, kwdefaults := .none, doc := .none, pyModule := (.str (PySem.Str.ofString "cpy313.xml.etree.ElementTree") 2582), annotations := none, code := (.ref 258), closureTuple := .none, builtins := 0 }), #[]⟩
noncomputable def k260 (P : Params) : Obj := ⟨(.type "tuple"), none, (.seq #[] 0), #[]⟩
noncomputable def k262 (P : Params) : Obj := ⟨(.type "tuple"), none, (.seq #[(.str (PySem.Str.ofString "text") 2594)] 0), #[]⟩
noncomputable def k263 (P : Params) : Obj := ⟨(.type "tuple"), none, (.seq #[] 0), #[]⟩
noncomputable def k265 (P : Params) : Obj := ⟨(.type "code"), none, (.fields #[(.str (PySem.Str.ofString "_escape_attrib_c14n") 2591), (.str (PySem.Str.ofString "_escape_attrib_c14n") 2592), (.str (PySem.Str.ofString "/claim/cut.py") 2593), (.int 112 0), (.int 1 0), (.int 0 0), (.int 0 0), (.int 3 0), (.ref 260), (.bool true), (.int 276 0), (.ref 261), .none, (.ref 262), (.ref 263), (.ref 264), (.int 2595 0), (.int 112 0), (.str (PySem.Str.ofString "/claim/cut.py") 2596)]), #[]⟩
noncomputable def k266 (P : Params) : Obj := ⟨(.type "function"), none, (.func { name := (PySem.Str.ofString "_escape_attrib_c14n"), qualname := (PySem.Str.ofString "_escape_attrib_c14n"), params := fnParams [15], body := .stmts (fnBody [15]), scope := fnScope [15], globals := 3, closure := [], defaults := .none, kwdefaults := .none, doc := .none, pyModule := (.str (PySem.Str.ofString "cpy313.xml.etree.ElementTree") 2582), annotations := none, code := (.ref 265), closureTuple := .none, builtins := 0 }), #[]⟩
noncomputable def k267 (P : Params) : Obj := ⟨(.type "tuple"), none, (.seq #[] 0), #[]⟩
noncomputable def k269 (P : Params) : Obj := ⟨(.type "tuple"), none, (.seq #[(.str (PySem.Str.ofString "script") 2603), (.str (PySem.Str.ofString "cells") 2604), (.str (PySem.Str.ofString "at") 2605), (.str (PySem.Str.ofString "number") 2606), (.str (PySem.Str.ofString "signs") 2607), (.str (PySem.Str.ofString "houses") 2608), (.str (PySem.Str.ofString "free") 2609), (.str (PySem.Str.ofString "k") 2610), (.str (PySem.Str.ofString "cell") 2611), (.str (PySem.Str.ofString "above") 2612), (.str (PySem.Str.ofString "room") 2613)] 0), #[]⟩
noncomputable def k270 (P : Params) : Obj := ⟨(.type "tuple"), none, (.seq #[] 0), #[]⟩
noncomputable def k272 (P : Params) : Obj := ⟨(.type "code"), none, (.fields #[(.str (PySem.Str.ofString "_law_houses") 2600), (.str (PySem.Str.ofString "_law_houses") 2601), (.str (PySem.Str.ofString "/claim/cut.py") 2602), (.int 130 0), (.int 1 0), (.int 0 0), (.int 0 0), (.int 3 0), (.ref 267), (.bool true), (.int 276 0), (.ref 268), .none, (.ref 269), (.ref 270), (.ref 271), (.int 2614 0), (.int 130 0), (.str (PySem.Str.ofString "/claim/cut.py") 2615)]), #[]⟩
noncomputable def k273 (P : Params) : Obj := ⟨(.type "function"), none, (.func { name := (PySem.Str.ofString "_law_houses"), qualname := (PySem.Str.ofString "_law_houses"), params := fnParams [17], body := .stmts (fnBody [17]), scope := fnScope [17], globals := 3, closure := [], defaults := .none, kwdefaults := .none, doc := .none, pyModule := (.str (PySem.Str.ofString "law_un0048_01") 2598), annotations := none, code := (.ref 272), closureTuple := .none, builtins := 0 }), #[]⟩
noncomputable def k274 (P : Params) : Obj := ⟨(.type "tuple"), none, (.seq #[] 0), #[]⟩
noncomputable def k277 (P : Params) : Obj := ⟨(.type "code"), none, (.fields #[(.str (PySem.Str.ofString "_law_built") 2617), (.str (PySem.Str.ofString "_law_built") 2618), (.str (PySem.Str.ofString "/claim/cut.py") 2619), (.int 146 0), (.int 1 0), (.int 0 0), (.int 0 0), (.int 3 0), (.ref 274), (.bool true), (.int 276 0), (.ref 275), .none, .none, .none, (.ref 276), (.int 2620 0), (.int 146 0), (.str (PySem.Str.ofString "/claim/cut.py") 2621)]), #[]⟩
noncomputable def k278 (P : Params) : Obj := ⟨(.type "function"), none, (.func { name := (PySem.Str.ofString "_law_built"), qualname := (PySem.Str.ofString "_law_built"), params := fnParams [18], body := .stmts (fnBody [18]), scope := fnScope [18], globals := 3, closure := [], defaults := .none, kwdefaults := .none, doc := .none, pyModule := (.str (PySem.Str.ofString "law_un0048_01") 2598), annotations := none, code := (.ref 277), closureTuple := .none, builtins := 0 }), #[]⟩
noncomputable def k279 (P : Params) : Obj := ⟨(.type "tuple"), none, (.seq #[] 0), #[]⟩
noncomputable def k281 (P : Params) : Obj := ⟨(.type "tuple"), none, (.seq #[(.str (PySem.Str.ofString "houses") 2626), (.str (PySem.Str.ofString "refused") 2627), (.str (PySem.Str.ofString "k") 2628), (.str (PySem.Str.ofString "sign") 2629), (.str (PySem.Str.ofString "at") 2630)] 0), #[]⟩
noncomputable def k282 (P : Params) : Obj := ⟨(.type "tuple"), none, (.seq #[] 0), #[]⟩
noncomputable def k284 (P : Params) : Obj := ⟨(.type "code"), none, (.fields #[(.str (PySem.Str.ofString "_law_refused") 2623), (.str (PySem.Str.ofString "_law_refused") 2624), (.str (PySem.Str.ofString "/claim/cut.py") 2625), (.int 164 0), (.int 1 0), (.int 0 0), (.int 0 0), (.int 3 0), (.ref 279), (.bool true), (.int 276 0), (.ref 280), .none, (.ref 281), (.ref 282), (.ref 283), (.int 2631 0), (.int 164 0), (.str (PySem.Str.ofString "/claim/cut.py") 2632)]), #[]⟩
noncomputable def k285 (P : Params) : Obj := ⟨(.type "function"), none, (.func { name := (PySem.Str.ofString "_law_refused"), qualname := (PySem.Str.ofString "_law_refused"), params := fnParams [19], body := .stmts (fnBody [19]), scope := fnScope [19], globals := 3, closure := [], defaults := .none, kwdefaults := .none, doc := .none, pyModule := (.str (PySem.Str.ofString "law_un0048_01") 2598), annotations := none, code := (.ref 284), closureTuple := .none, builtins := 0 }), #[]⟩
noncomputable def k286 (P : Params) : Obj := ⟨(.type "tuple"), none, (.seq #[] 0), #[]⟩
noncomputable def k289 (P : Params) : Obj := ⟨(.type "code"), none, (.fields #[(.str (PySem.Str.ofString "_law_blank") 2634), (.str (PySem.Str.ofString "_law_blank") 2635), (.str (PySem.Str.ofString "/claim/cut.py") 2636), (.int 175 0), (.int 2 0), (.int 0 0), (.int 0 0), (.int 3 0), (.ref 286), (.bool true), (.int 276 0), (.ref 287), .none, .none, .none, (.ref 288), (.int 2637 0), (.int 175 0), (.str (PySem.Str.ofString "/claim/cut.py") 2638)]), #[]⟩
noncomputable def k290 (P : Params) : Obj := ⟨(.type "function"), none, (.func { name := (PySem.Str.ofString "_law_blank"), qualname := (PySem.Str.ofString "_law_blank"), params := fnParams [20], body := .stmts (fnBody [20]), scope := fnScope [20], globals := 3, closure := [], defaults := .none, kwdefaults := .none, doc := .none, pyModule := (.str (PySem.Str.ofString "law_un0048_01") 2598), annotations := none, code := (.ref 289), closureTuple := .none, builtins := 0 }), #[]⟩
noncomputable def k291 (P : Params) : Obj := ⟨(.type "tuple"), none, (.seq #[] 0), #[]⟩
noncomputable def k293 (P : Params) : Obj := ⟨(.type "tuple"), none, (.seq #[(.str (PySem.Str.ofString "text") 2643), (.str (PySem.Str.ofString "i") 2644), (.str (PySem.Str.ofString "j") 2645), (.str (PySem.Str.ofString "e") 2646), (.str (PySem.Str.ofString "fold") 2647), (.str (PySem.Str.ofString "late") 2648), (.str (PySem.Str.ofString "names") 2649), (.str (PySem.Str.ofString "folds") 2650), (.str (PySem.Str.ofString "page") 2651), (.str (PySem.Str.ofString "sign") 2652)] 0), #[]⟩
noncomputable def k294 (P : Params) : Obj := ⟨(.type "tuple"), none, (.seq #[] 0), #[]⟩
noncomputable def k296 (P : Params) : Obj := ⟨(.type "code"), none, (.fields #[(.str (PySem.Str.ofString "_law_dressed") 2640), (.str (PySem.Str.ofString "_law_dressed") 2641), (.str (PySem.Str.ofString "/claim/cut.py") 2642), (.int 182 0), (.int 6 0), (.int 0 0), (.int 0 0), (.int 3 0), (.ref 291), (.bool true), (.int 276 0), (.ref 292), .none, (.ref 293), (.ref 294), (.ref 295), (.int 2653 0), (.int 182 0), (.str (PySem.Str.ofString "/claim/cut.py") 2654)]), #[]⟩
noncomputable def k297 (P : Params) : Obj := ⟨(.type "function"), none, (.func { name := (PySem.Str.ofString "_law_dressed"), qualname := (PySem.Str.ofString "_law_dressed"), params := fnParams [21], body := .stmts (fnBody [21]), scope := fnScope [21], globals := 3, closure := [], defaults := .none, kwdefaults := .none, doc := .none, pyModule := (.str (PySem.Str.ofString "law_un0048_01") 2598), annotations := none, code := (.ref 296), closureTuple := .none, builtins := 0 }), #[]⟩
noncomputable def k298 (P : Params) : Obj := ⟨(.type "tuple"), none, (.seq #[] 0), #[]⟩
noncomputable def k300 (P : Params) : Obj := ⟨(.type "tuple"), none, (.seq #[(.str (PySem.Str.ofString "houses") 2659), (.str (PySem.Str.ofString "refused") 2660), (.str (PySem.Str.ofString "k") 2661), (.str (PySem.Str.ofString "i") 2662), (.str (PySem.Str.ofString "j") 2663), (.str (PySem.Str.ofString "e") 2664), (.str (PySem.Str.ofString "fold") 2665), (.str (PySem.Str.ofString "late") 2666), (.str (PySem.Str.ofString "kind") 2667), (.str (PySem.Str.ofString "own") 2668), (.str (PySem.Str.ofString "above") 2669), (.str (PySem.Str.ofString "left") 2670), (.str (PySem.Str.ofString "right") 2671), (.str (PySem.Str.ofString "page") 2672), (.str (PySem.Str.ofString "mark") 2673), (.str (PySem.Str.ofString "name") 2674), (.str (PySem.Str.ofString "inner") 2675)] 0), #[]⟩
noncomputable def k301 (P : Params) : Obj := ⟨(.type "tuple"), none, (.seq #[] 0), #[]⟩
noncomputable def k303 (P : Params) : Obj := ⟨(.type "code"), none, (.fields #[(.str (PySem.Str.ofString "_law_told") 2656), (.str (PySem.Str.ofString "_law_told") 2657), (.str (PySem.Str.ofString "/claim/cut.py") 2658), (.int 199 0), (.int 8 0), (.int 0 0), (.int 0 0), (.int 3 0), (.ref 298), (.bool true), (.int 276 0), (.ref 299), .none, (.ref 300), (.ref 301), (.ref 302), (.int 2676 0), (.int 199 0), (.str (PySem.Str.ofString "/claim/cut.py") 2677)]), #[]⟩
noncomputable def k304 (P : Params) : Obj := ⟨(.type "function"), none, (.func { name := (PySem.Str.ofString "_law_told"), qualname := (PySem.Str.ofString "_law_told"), params := fnParams [22], body := .stmts (fnBody [22]), scope := fnScope [22], globals := 3, closure := [], defaults := .none, kwdefaults := .none, doc := .none, pyModule := (.str (PySem.Str.ofString "law_un0048_01") 2598), annotations := none, code := (.ref 303), closureTuple := .none, builtins := 0 }), #[]⟩
noncomputable def k305 (P : Params) : Obj := ⟨(.type "tuple"), none, (.seq #[] 0), #[]⟩
noncomputable def k308 (P : Params) : Obj := ⟨(.type "code"), none, (.fields #[(.str (PySem.Str.ofString "law") 2679), (.str (PySem.Str.ofString "law") 2680), (.str (PySem.Str.ofString "/claim/cut.py") 2681), (.int 219 0), (.int 1 0), (.int 0 0), (.int 0 0), (.int 3 0), (.ref 305), (.bool true), (.int 276 0), (.ref 306), .none, .none, .none, (.ref 307), (.int 2682 0), (.int 219 0), (.str (PySem.Str.ofString "/claim/cut.py") 2683)]), #[]⟩
noncomputable def k309 (P : Params) : Obj := ⟨(.type "function"), none, (.func { name := (PySem.Str.ofString "law"), qualname := (PySem.Str.ofString "law"), params := fnParams [23], body := .stmts (fnBody [23]), scope := fnScope [23], globals := 3, closure := [], defaults := .none, kwdefaults := .none, doc := .none, pyModule := (.str (PySem.Str.ofString "law_un0048_01") 2598), annotations := none, code := (.ref 308), closureTuple := .none, builtins := 0 }), #[]⟩
@[irreducible] noncomputable def heapK (P : Params) : Frag := (nat_lit 2, z2 P) :: (nat_lit 3, k3 P) :: (nat_lit 32, y32 P) :: (nat_lit 34, y34 P) :: (nat_lit 35, y35 P) :: (nat_lit 37, y37 P) :: (nat_lit 38, y38 P) :: (nat_lit 42, y42 P) :: (nat_lit 43, y43 P) :: (nat_lit 47, y47 P) :: (nat_lit 48, y48 P) :: (nat_lit 52, y52 P) :: (nat_lit 53, y53 P) :: (nat_lit 54, y54 P) :: (nat_lit 55, y55 P) :: (nat_lit 57, y57 P) :: (nat_lit 58, y58 P) :: (nat_lit 60, y60 P) :: (nat_lit 61, y61 P) :: (nat_lit 69, y69 P) :: (nat_lit 70, y70 P) :: (nat_lit 72, y72 P) :: (nat_lit 73, y73 P) :: (nat_lit 75, y75 P) :: (nat_lit 76, y76 P) :: (nat_lit 77, y77 P) :: (nat_lit 79, y79 P) :: (nat_lit 80, y80 P) :: (nat_lit 82, y82 P) :: (nat_lit 83, y83 P) :: (nat_lit 84, y84 P) :: (nat_lit 86, y86 P) :: (nat_lit 87, y87 P) :: (nat_lit 89, y89 P) :: (nat_lit 90, y90 P) :: (nat_lit 91, y91 P) :: (nat_lit 93, y93 P) :: (nat_lit 94, y94 P) :: (nat_lit 96, y96 P) :: (nat_lit 97, y97 P) :: (nat_lit 98, y98 P) :: (nat_lit 101, y101 P) :: (nat_lit 102, y102 P) :: (nat_lit 103, y103 P) :: (nat_lit 105, y105 P) :: (nat_lit 106, y106 P) :: (nat_lit 108, y108 P) :: (nat_lit 109, y109 P) :: (nat_lit 110, y110 P) :: (nat_lit 112, y112 P) :: (nat_lit 113, y113 P) :: (nat_lit 115, y115 P) :: (nat_lit 116, y116 P) :: (nat_lit 117, y117 P) :: (nat_lit 119, y119 P) :: (nat_lit 120, y120 P) :: (nat_lit 122, y122 P) :: (nat_lit 123, y123 P) :: (nat_lit 124, y124 P) :: (nat_lit 125, y125 P) :: (nat_lit 127, y127 P) :: (nat_lit 128, y128 P) :: (nat_lit 130, y130 P) :: (nat_lit 131, y131 P) :: (nat_lit 132, y132 P) :: (nat_lit 135, y135 P) :: (nat_lit 136, y136 P) :: (nat_lit 137, y137 P) :: (nat_lit 140, y140 P) :: (nat_lit 141, y141 P) :: (nat_lit 142, y142 P) :: (nat_lit 144, y144 P) :: (nat_lit 145, y145 P) :: (nat_lit 147, y147 P) :: (nat_lit 148, y148 P) :: (nat_lit 149, y149 P) :: (nat_lit 151, y151 P) :: (nat_lit 152, y152 P) :: (nat_lit 154, y154 P) :: (nat_lit 155, y155 P) :: (nat_lit 156, y156 P) :: (nat_lit 159, y159 P) :: (nat_lit 160, y160 P) :: (nat_lit 161, y161 P) :: (nat_lit 163, y163 P) :: (nat_lit 164, y164 P) :: (nat_lit 166, y166 P) :: (nat_lit 167, y167 P) :: (nat_lit 168, y168 P) :: (nat_lit 170, y170 P) :: (nat_lit 171, y171 P) :: (nat_lit 173, y173 P) :: (nat_lit 174, y174 P) :: (nat_lit 175, y175 P) :: (nat_lit 177, y177 P) :: (nat_lit 178, y178 P) :: (nat_lit 180, y180 P) :: (nat_lit 181, y181 P) :: (nat_lit 182, y182 P) :: (nat_lit 183, y183 P) :: (nat_lit 184, y184 P) :: (nat_lit 185, y185 P) :: (nat_lit 186, y186 P) :: (nat_lit 196, a196 P) :: (nat_lit 200, a200 P) :: (nat_lit 202, a202 P) :: (nat_lit 203, a203 P) :: (nat_lit 205, a205 P) :: (nat_lit 206, a206 P) :: (nat_lit 246, k246 P) :: (nat_lit 248, k248 P) :: (nat_lit 249, k249 P) :: (nat_lit 251, k251 P) :: (nat_lit 252, k252 P) :: (nat_lit 253, k253 P) :: (nat_lit 255, k255 P) :: (nat_lit 256, k256 P) :: (nat_lit 258, k258 P) :: (nat_lit 259, k259 P) :: (nat_lit 260, k260 P) :: (nat_lit 262, k262 P) :: (nat_lit 263, k263 P) :: (nat_lit 265, k265 P) :: (nat_lit 266, k266 P) :: (nat_lit 267, k267 P) :: (nat_lit 269, k269 P) :: (nat_lit 270, k270 P) :: (nat_lit 272, k272 P) :: (nat_lit 273, k273 P) :: (nat_lit 274, k274 P) :: (nat_lit 277, k277 P) :: (nat_lit 278, k278 P) :: (nat_lit 279, k279 P) :: (nat_lit 281, k281 P) :: (nat_lit 282, k282 P) :: (nat_lit 284, k284 P) :: (nat_lit 285, k285 P) :: (nat_lit 286, k286 P) :: (nat_lit 289, k289 P) :: (nat_lit 290, k290 P) :: (nat_lit 291, k291 P) :: (nat_lit 293, k293 P) :: (nat_lit 294, k294 P) :: (nat_lit 296, k296 P) :: (nat_lit 297, k297 P) :: (nat_lit 298, k298 P) :: (nat_lit 300, k300 P) :: (nat_lit 301, k301 P) :: (nat_lit 303, k303 P) :: (nat_lit 304, k304 P) :: (nat_lit 305, k305 P) :: (nat_lit 308, k308 P) :: (nat_lit 309, k309 P) :: []
noncomputable def addrK : List Addr := [2, 3, 32, 34, 35, 37, 38, 42, 43, 47, 48, 52, 53, 54, 55, 57, 58, 60, 61, 69, 70, 72, 73, 75, 76, 77, 79, 80, 82, 83, 84, 86, 87, 89, 90, 91, 93, 94, 96, 97, 98, 101, 102, 103, 105, 106, 108, 109, 110, 112, 113, 115, 116, 117, 119, 120, 122, 123, 124, 125, 127, 128, 130, 131, 132, 135, 136, 137, 140, 141, 142, 144, 145, 147, 148, 149, 151, 152, 154, 155, 156, 159, 160, 161, 163, 164, 166, 167, 168, 170, 171, 173, 174, 175, 177, 178, 180, 181, 182, 183, 184, 185, 186, 196, 200, 202, 203, 205, 206, 246, 248, 249, 251, 252, 253, 255, 256, 258, 259, 260, 262, 263, 265, 266, 267, 269, 270, 272, 273, 274, 277, 278, 279, 281, 282, 284, 285, 286, 289, 290, 291, 293, 294, 296, 297, 298, 300, 301, 303, 304, 305, 308, 309]
end Mine
end

section
open PySem PySem.W PyProof.Rows PySem.Calls
set_option maxRecDepth 100000
set_option Elab.async false
set_option linter.unusedVariables false
noncomputable section
namespace Mine
noncomputable abbrev qTab := PySem.W.Fast.tw14364793385576792824
noncomputable abbrev qDen := PySem.W.Fast.tw11892475500146522536 qTab
noncomputable abbrev qExecs := PySem.W.Fast.tw12563942051412417395
noncomputable def modelQ (w : World) : Model := ⟨qDen, prg, w⟩
noncomputable def os0 : OsState := { stdin := prg.given.stdin.toArray }
@[irreducible] noncomputable def S0 (w : World) : Shared := { heap := { objs := (zObjs w.params).toArray }, toks := 276, os := os0 }
@[irreducible] noncomputable def opened (w : World) : Option Shared :=
  (PySem.W.Fast.tw10274390034422433532 qTab (opening prg) w 1000 (PySem.W.Fast.tw1435165496053646825 (opening prg)).1 (PySem.W.Fast.tw1435165496053646825 (opening prg)).2).bind (PySem.W.Fast.tw14289696077712309145 prg)
theorem opened_eq : ∀ w : World, opened w = some (S0 w) := by intro w; kernel_rfl
noncomputable def ctx0 : Ctx := Ctx.of (.builtin "claim.caller" {}) []
@[irreducible] noncomputable def topEnv : Env := { scope := prg.main.scope, locals := mainNs, globals := mainNs, cells := [], code := .ref 30, frame := some 31 }
@[irreducible] noncomputable def body : List Stmt := behindTheImports prg
@[irreducible] noncomputable def ctx1 : Ctx := ctx0.enter (.body body topEnv) none default
@[irreducible] noncomputable def SA (w : World) : Shared := { heap := { objs := (aObjs w.params).toArray }, toks := 623, os := os0 }
noncomputable def posA : Pos := ⟨101, 0, 102, 30⟩
@[irreducible] noncomputable def SY (w : World) : Shared := { heap := { objs := (yObjs w.params).toArray }, toks := 556, os := os0 }
noncomputable def posY : Pos := ⟨99, 0, 99, 8⟩
@[irreducible] noncomputable def partY (w : World) : Option (Value × Addr × Pos × Pos × Shared) :=
  match evS (modelQ w) (evC (modelQ w) 50) ctx0 (PySem.W.Fast.tw17154629097778926822 prg.main prg.main.file none) default (S0 w) with
  | some (.ok code, p, s) => match evS (modelQ w) (evC (modelQ w) 50) ctx0 (PySem.W.Fast.tw12822647523644345616 code mainNs mainNs builtinsNs) p s with
    | some (.ok frame, p₂, s) => match evS (modelQ w) (evC (modelQ w) 50) ctx1 (PySem.W.Fast.tw1066825118222455980 body topEnv) p₂ s with
      | some (.ok _, p, s) => match evS (modelQ w) (evC (modelQ w) 50) ctx1 (qExecs (body.take 8) topEnv) p s with
        | some (.ok .next, p, s) => some (code, frame, p₂, p, s)
        | _ => none
      | _ => none
    | _ => none
  | _ => none
theorem partY_eq : ∀ w : World, partY w = some (.ref 30, 31, default, posY, SY w) := by intro w; kernel_rfl
@[irreducible] noncomputable def partA (w : World) : Option (Pos × Shared) :=
  match evS (modelQ w) (evC (modelQ w) 50) ctx1 (qExecs ((body.drop 8).take 2) topEnv) posY (SY w) with
  | some (.ok .next, p, s) => some (p, s)
  | _ => none
noncomputable abbrev wSide (b c : Bool) (w : World) : World := (w.withFollow "special-get-raises" c).withFollow "set-order" b
theorem partA_ff : ∀ w : World, partA (wSide false false w) = some (posA, SA (wSide false false w)) := by intro w; kernel_rfl
theorem partA_ft : ∀ w : World, partA (wSide false true w) = some (posA, SA (wSide false true w)) := by intro w; kernel_rfl
theorem partA_tf : ∀ w : World, partA (wSide true false w) = some (posA, SA (wSide true false w)) := by intro w; kernel_rfl
theorem partA_tt : ∀ w : World, partA (wSide true true w) = some (posA, SA (wSide true true w)) := by intro w; kernel_rfl
theorem partA_eq : ∀ w : World, partA w = some (posA, SA w) :=
  byRow2 "set-order" (byRow2 "special-get-raises" partA_ff partA_ft) (byRow2 "special-get-raises" partA_tf partA_tt)
end Mine
end

section
open PySem PySem.W PyProof.Rows PySem.Calls
set_option maxRecDepth 100000
set_option Elab.async false
set_option linter.unusedVariables false
noncomputable section
namespace Mine
@[irreducible] noncomputable def dTargets : List Expr := match (body[10]? : Option Stmt) with | some (.Assign ts _ _) => ts | _ => []
@[irreducible] noncomputable def dPos : Pos := match (body[10]? : Option Stmt) with | some (.Assign _ _ p) => p | _ => default
@[irreducible] noncomputable def dKs : List (Option Expr) := match (body[10]? : Option Stmt) with | some (.Assign _ (.Dict ks _ _) _) => ks | _ => []
@[irreducible] noncomputable def dVs : List Expr := match (body[10]? : Option Stmt) with | some (.Assign _ (.Dict _ vs _) _) => vs | _ => []
@[irreducible] noncomputable def dDPos : Pos := match (body[10]? : Option Stmt) with | some (.Assign _ (.Dict _ _ p) _) => p | _ => default
theorem body_split : body = body.take 10 ++ (.Assign dTargets (.Dict dKs dVs dDPos) dPos) :: body.drop 11 := by kernel_rfl
theorem body_split8 : body = body.take 8 ++ ((body.drop 8).take 2 ++ (.Assign dTargets (.Dict dKs dVs dDPos) dPos) :: body.drop 11) := by kernel_rfl
noncomputable def asgRest (v : Value) : Sem Flow := do assignStores topEnv v (← swappedStores dTargets (.Dict dKs dVs dDPos) topEnv) ((assignEach dTargets topEnv).map (·.2))
@[irreducible] noncomputable def SB (o : Nat → Obj) (lf : Life) (w : World) : Shared := { heap := { objs := (aObjs w.params ++ (List.range 39).map o).toArray, life := lf }, toks := 2573, os := os0 }
@[irreducible] noncomputable def partC (w : World) (o : Nat → Obj) (lf : Life) (p : Pos) : Option (Pos × Shared) :=
  match evS (modelQ w) (evC (modelQ w) 50) ctx1 (asgRest (.ref 207)) p (SB o lf w) with
  | some (.ok .next, p, s) => match evS (modelQ w) (evC (modelQ w) 50) ctx1 (qExecs (body.drop 11) topEnv) p s with
    | some (.ok .next, p, s) => some (p, s)
    | _ => none
  | _ => none
noncomputable def keepV : List Nat := [0, 1, 3, 4, 5, 7, 10, 12, 14, 15, 17, 18, 19, 20, 21, 22, 23]
noncomputable def vw : Program := view prg keepV
@[irreducible] noncomputable def looseV : List Str := [Str.ofString "tspecials", Str.ofString "_formatparam", Str.ofString "b1_set", Str.ofString "b3_exceptions", Str.ofString "_name_disallowed_re", Str.ofString "_value_disallowed_re"]
noncomputable def recs : WRecords := []
@[irreducible] noncomputable def XtV (s : Shared) : Bool := xlAt vw [] s && recOk recs s
end Mine
end

section
open PySem PySem.W PyProof.Rows PySem.Calls
set_option maxRecDepth 100000
set_option Elab.async false
set_option linter.unusedVariables false
noncomputable section
namespace Mine
@[irreducible] noncomputable def looks1 (w : World) (s : Shared) : Bool := staticsOk (importedModules prg.main.body) (S0 w).heap s.heap && namesBound prg s.heap && gensDone s && laidKept (S0 w).heap s.heap
@[irreducible] noncomputable def keptAt (h : Heap) : List (Option Obj) := ((List.range 28).filter fun b => b != 2 && b != 3).map fun b => h.objs[b]?
theorem partC_all : ∀ (w : World) (o : Nat → Obj) (lf : Life) (p : Pos), (partC w o lf p).map (fun x => (looks1 w x.2, PySem.W.Fast.tw4187177175401517315 vw looseV (importedModules prg.main.body) XtV true x.2,
    addrK.map x.2.heap.get?, x.2.heap.get? 196, x.2.heap.objs[207]?, keptAt x.2.heap, x.2.heap.life, x.2.gens, x.2.os)) =
    some (true, openGood vw looseV, (heapK w.params).map (fun p => some p.2), some (a196 w.params), some (o 0), keptAt (S0 w).heap, lf, #[], os0) := by intro w o lf p; kernel_rfl
end Mine
end

section
open PySem PySem.W PyProof.Rows PySem.Calls
set_option maxRecDepth 100000
set_option Elab.async false
set_option linter.unusedVariables false
noncomputable section
namespace Mine
theorem hM (w : World) : modelQ w = model prg w := by
  show (⟨qDen, prg, w⟩ : Model) = ⟨denote table, prg, w⟩
  rw [table_eq_tree, PySem.W.Fast.te11892475500146522536, PySem.W.Fast.te14364793385576792824]
noncomputable def evPost {α : Type} (Q : α → Pos → Shared → Prop) (E : Value → Pos → Shared → Prop) : Except Value α → Pos → Shared → Prop
  | .ok a => Q a
  | .error e => E e
theorem ev_wp {w : World} {Γ : Ctx} {α : Type} {t : Sem α} {p : Pos} {s : Shared} {r : Except Value α} {p' : Pos} {s' : Shared} {Q : α → Pos → Shared → Prop} {E : Value → Pos → Shared → Prop}
    (h : evS (modelQ w) (evC (modelQ w) 50) Γ t p s = some (r, p', s')) (k : evPost Q E r p' s') : Sem.wp (model prg w) Γ t Q E p s := by
  rw [← hM]
  refine evS_sound (evC_sound _ _) Γ t p s r p' s' Q E h ?_
  cases r <;> exact k

theorem wp_execs_append {M : Model} {Γ : Ctx} {env : Env} (l₁ l₂ : List Stmt) : ∀ (Q : Flow → Pos → Shared → Prop) (E : Value → Pos → Shared → Prop) (p : Pos) (s : Shared),
    Sem.wp M Γ (execs l₁ env) (fun f p' s' => match f with | .next => Sem.wp M Γ (execs l₂ env) Q E p' s' | f => Q f p' s') E p s → Sem.wp M Γ (execs (l₁ ++ l₂) env) Q E p s := by
  induction l₁ with
  | nil => intro Q E p s h; exact h
  | cons st l ih =>
    intro Q E p s h
    show Sem.wp M Γ (execs (st :: (l ++ l₂)) env) Q E p s
    rw [execs] at h ⊢
    rw [Sem.wp_bind'] at h ⊢
    refine Sem.wp_mono M Γ _ (fun f p' s' k => ?_) (fun _ _ _ e => e) p s h
    cases f with
    | next => exact ih Q E p' s' k
    | _ => exact k

noncomputable def aroundOf (Γ : Ctx) : Around := { handled := Γ.handled, depth := frameCount Γ.below + Γ.code.weight, units := Γ.units }
theorem in_aroundOf (Γ : Ctx) : Γ.In (aroundOf Γ) :=
  ⟨rfl, Nat.le_refl _, fun l (h : (none : Option (List Env)) = some l) => (nomatch h), fun l (h : (none : Option (List Code)) = some l) => (nomatch h), Nat.le_refl _⟩

@[irreducible] noncomputable def b3Items : List (Int × Str) := (litItems dKs dVs).getD []
theorem getD_of_isSome {α : Type} {x : Option α} {d : α} (h : x.isSome = true) : x = some (x.getD d) := by
  cases x with
  | none => cases h
  | some _ => rfl
theorem b3_lit : litItems dKs dVs = some b3Items := by
  have h : (litItems dKs dVs).isSome = true := by kernel_rfl
  unfold b3Items
  exact getD_of_isSome h
theorem b3_len : b3Items.length = 650 := by kernel_rfl
theorem b3_rising : risingI (b3Items.map (·.1)) = true := by kernel_rfl

theorem A_len (P : Params) : (aObjs P).length = 207 := by kernel_rfl
noncomputable def mkS (L : List Obj) (lf : Life) (tk : Nat) : Shared := { heap := { objs := L.toArray, life := lf }, toks := tk, os := os0 }
theorem SA_eq (w : World) : SA w = mkS (aObjs w.params) {} 623 := by kernel_rfl
theorem SB_eq (o : Nat → Obj) (lf : Life) (w : World) : SB o lf w = mkS (aObjs w.params ++ (List.range 39).map o) lf 2573 := by kernel_rfl
theorem live_A (P : Params) : ((List.range 207).all fun b => (Heap.get? ⟨(aObjs P).toArray, {}⟩ b).isSome) = true := by kernel_rfl

/-- the table of exceptions at its place -/
noncomputable def B3At (w : World) (h : Heap) (a : Addr) : Prop := ∃ kvs, IsSV kvs b3Items ∧ h.DictOf (intKind prg w) a kvs

theorem map_getD {os : List Obj} {n : Nat} (hl : os.length = n) : (List.range n).map (fun i => os.getD i default) = os := by
  refine List.ext_getElem (by simpa using hl.symm) fun i h1 h2 => ?_
  rw [List.getElem_map, List.getElem_range, List.getD_eq_getElem?_getD, List.getElem?_eq_getElem h2]
  rfl

theorem dict_wpL (w : World) {ks : List (Option Expr)} {vs : List Expr} {dp : Pos} {its : List (Int × Str)} (hit : litItems ks vs = some its) (hlen : its.length = 650) (hris : risingI (its.map (·.1)) = true) {Γ : Ctx} {env : Env}
    (L : List Obj) (hL : L.length = 207) (live : ((List.range 207).all fun b => (Heap.get? ⟨L.toArray, {}⟩ b).isSome) = true) (p : Pos) {Q : Value → Pos → Shared → Prop} {E : Value → Pos → Shared → Prop}
    (h : ∀ (o : Nat → Obj) (lf : Life) (p' : Pos), (∃ kvs, IsSV kvs its ∧ (mkS (L ++ (List.range 39).map o) lf 2573).heap.DictOf (intKind prg w) 207 kvs) → Q (.ref 207) p' (mkS (L ++ (List.range 39).map o) lf 2573)) :
    Sem.wp (model prg w) Γ (eval (.Dict ks vs dp) env) Q E p (mkS L {} 623) := by
  have hne : its ≠ [] := by intro e; rw [e] at hlen; cases hlen
  have hsz : (mkS L {} 623).heap.objs.size = 207 := by show L.toArray.size = 207; rw [List.size_toArray]; exact hL
  have hS : sysModules < (mkS L {} 623).heap.objs.size := by rw [hsz]; decide
  have hline : its.length ≤ sizeLine := by rw [hlen, sizeLine_eq]; decide
  have hnd := risingI_nodup _ hris
  have hlive : ∀ b, b < (mkS L {} 623).heap.objs.size → ((mkS L {} 623).heap.get? b).isSome = true := by
    rw [hsz]; intro b hb; exact List.all_eq_true.mp live b (List.mem_range.mpr hb)
  have key : wpAny (model prg w) (aroundOf Γ) (eval (.Dict ks vs dp) env) (fun v s' => ∀ p', Q v p' s') (fun e s' => ∀ p', E e p' s') (mkS L {} 623) := by
    refine wp_DictLit hS hit hne hnd hline ?_
    intro h' kvs sv hd g p'
    rw [hlen] at g ⊢
    obtain ⟨os, hl, he⟩ := grown_objs g hlive
    have he' : h' = ⟨(L ++ os).toArray, h'.life⟩ := he
    generalize h'.life = lf at he'
    subst he'
    rw [hsz] at hd ⊢
    have hm := map_getD (n := 39) hl
    have := h (fun i => os.getD i default) lf p'
    rw [hm] at this
    exact this ⟨kvs, sv, hd⟩
  exact Sem.wp_mono _ _ _ (fun v p' s' k => k p') (fun e p' s' k => k p') p _ (key Γ p (in_aroundOf Γ))
end Mine
end

section
open PySem PySem.W PyProof.Rows PySem.Calls
set_option maxRecDepth 100000
set_option Elab.async false
set_option linter.unusedVariables false
noncomputable section
namespace Mine
theorem swaps_eq (w : World) : evS (modelQ w) (evC (modelQ w) 50) ctx1 (swapsWithSole dTargets (.Dict dKs dVs dDPos) dPos.line topEnv) dPos (mkS (aObjs w.params) {} 623) = some (.ok false, dPos, mkS (aObjs w.params) {} 623) := by kernel_rfl

theorem assign_wpG {M : Model} {Γ : Ctx} {ts : List Expr} {v : Expr} {pos p : Pos} {env : Env} {s : Shared} {Q : Flow → Pos → Shared → Prop} {E : Value → Pos → Shared → Prop}
    (hs : ∀ Q' : Bool → Pos → Shared → Prop, Q' false pos s → Sem.wp M Γ (swapsWithSole ts v pos.line env) Q' E pos s)
    (hv : Sem.wp M Γ (eval v env) (fun a p' s' => Sem.wp M Γ (do assignStores env a (← swappedStores ts v env) ((assignEach ts env).map (·.2)) : Sem Flow) Q E p' s') E pos s) : Sem.wp M Γ (exec (.Assign ts v pos) env) Q E p s := by
  rw [arm_exec_Assign, Sem.wp_bind']
  show Sem.wp M Γ (swapsWithSole ts v pos.line env >>= _) Q E pos s
  rw [Sem.wp_bind']
  refine hs _ ?_
  rw [if_neg Bool.false_ne_true, Sem.wp_bind']
  exact hv
theorem assign_wp (w : World) (p : Pos) {Q : Flow → Pos → Shared → Prop} {E : Value → Pos → Shared → Prop}
    (h : ∀ (o : Nat → Obj) (lf : Life) (p' : Pos), (∃ kvs, IsSV kvs b3Items ∧ (SB o lf w).heap.DictOf (intKind prg w) 207 kvs) → Sem.wp (model prg w) ctx1 (asgRest (.ref 207)) Q E p' (SB o lf w)) :
    Sem.wp (model prg w) ctx1 (exec (.Assign dTargets (.Dict dKs dVs dDPos) dPos) topEnv) Q E p (SA w) := by
  rw [SA_eq]
  refine assign_wpG (fun Q' hq => ev_wp (r := .ok false) (swaps_eq w) hq) ?_
  refine dict_wpL w b3_lit b3_len b3_rising (aObjs w.params) (A_len _) (live_A _) dPos (fun o lf p' hk => ?_)
  have := h o lf p'
  rw [SB_eq] at this
  exact this hk

/-- what the top leaves -/
structure Left (w : World) (s : Shared) : Prop where
  looks : looks1 w s = true
  seen : openSeen vw looseV (importedModules prg.main.body) XtV true s = openGood vw looseV
  K : (heapK w.params).In s.heap
  b1 : s.heap.get? 196 = some (a196 w.params)
  b3 : ∃ kvs, IsSV kvs b3Items ∧ s.heap.DictOf (intKind prg w) 207 kvs
  kept : keptAt s.heap = keptAt (S0 w).heap
  gens : s.gens = #[]
  os : s.os = os0

theorem addrK_ok (P : Params) : addrK = (heapK P).map (·.1) := by kernel_rfl

theorem dictOf_raw {w : World} {h h' : Heap} {a : Addr} {kvs : List (Int × Value)} (x : h.DictOf (intKind prg w) a kvs) (e : h'.objs[a]? = h.objs[a]?) : h'.DictOf (intKind prg w) a kvs :=
  x.at fun o ho => by unfold Heap.get? at ho ⊢; rw [e]; exact ho

theorem left_of (w : World) (o : Nat → Obj) (lf : Life) (p p' : Pos) (s' : Shared) (hC : partC w o lf p = some (p', s')) (h3 : ∃ kvs, IsSV kvs b3Items ∧ (SB o lf w).heap.DictOf (intKind prg w) 207 kvs) : Left w s' := by
  have h := partC_all w o lf p
  rw [hC] at h
  simp only [Option.map_some, Option.some.injEq, Prod.mk.injEq] at h
  obtain ⟨h1, h2, hK, hb1, hb3, hk, hl, hg, hos⟩ := h
  refine ⟨h1, ?_, ?_, hb1, ?_, hk, hg, hos⟩
  · rw [← h2, PySem.W.Fast.te4187177175401517315]
  · exact Frag.in_of (addrK_ok _) hK
  · obtain ⟨kvs, sv, hd⟩ := h3
    refine ⟨kvs, sv, dictOf_raw hd (hb3.trans ?_)⟩
    have hL := A_len w.params
    rw [SB_eq]
    show some (o 0) = ((aObjs w.params ++ (List.range 39).map o).toArray)[207]?
    generalize aObjs w.params = L at hL ⊢
    rw [List.getElem?_toArray, List.getElem?_append_right (by omega), hL]
    rfl

theorem partC_some (w : World) (o : Nat → Obj) (lf : Life) (p : Pos) : ∃ p' s', partC w o lf p = some (p', s') := by
  have h := partC_all w o lf p
  cases e : partC w o lf p with
  | none => rw [e] at h; cases h
  | some x => exact ⟨x.1, x.2, rfl⟩

theorem body_wp (w : World) (p : Pos) {E : Value → Pos → Shared → Prop} {Q : Flow → Pos → Shared → Prop} (hQ : ∀ p' s', Left w s' → Q .next p' s') :
    Sem.wp (model prg w) ctx1 (execs (Stmt.Assign dTargets (.Dict dKs dVs dDPos) dPos :: body.drop 11) topEnv) Q E p (SA w) := by
  rw [execs, Sem.wp_bind']
  refine assign_wp w p fun o lf p' h3 => ?_
  obtain ⟨p₂, s₂, hC⟩ := partC_some w o lf p'
  have hL := left_of w o lf p' p₂ s₂ hC h3
  unfold partC at hC
  split at hC
  · rename_i p₁ s₁ h1
    split at hC
    · rename_i p₃ s₃ h2
      simp only [Option.some.injEq, Prod.mk.injEq] at hC
      obtain ⟨rfl, rfl⟩ := hC
      refine ev_wp (r := .ok .next) h1 ?_
      show Sem.wp (model prg w) ctx1 (execs (body.drop 11) topEnv) Q E p₁ s₁
      rw [show execs = qExecs from PySem.W.Fast.te12563942051412417395]
      refine ev_wp (r := .ok .next) h2 ?_
      exact hQ _ _ hL
    · cases hC
  · cases hC
end Mine
end

section
open PySem PySem.W PyProof.Rows PySem.Calls
set_option maxRecDepth 100000
set_option Elab.async false
set_option linter.unusedVariables false
noncomputable section
namespace Mine
theorem body_wpCode {p : Program} {w : World} {Γ : Ctx} {b : List Stmt} {env : Env} {pos : Pos} {s : Shared} {R : Shared → Prop} (hΓ : Γ.code = .body b env)
    (h : Sem.wp (model p w) Γ (blockStart b env) (fun _ p' s' => Sem.wp (model p w) Γ (execs b env) (fun f _ s' => f = .next ∧ R s') (fun _ _ _ => False) p' s') (fun _ _ _ => False) pos s) :
    wpCode (model p w) Γ (fun r s' => r = .ok .next ∧ R s') pos s := by
  have key : Sem.wp (model p w) Γ ((model p w).den Γ.code) (Sem.finPost (model p w) Γ fun r s' => r = .ok .next ∧ R s') (fun e _ s' => (Except.error e : Result) = .ok .next ∧ R s') pos s := by
    rw [hΓ]
    show Sem.wp (model p w) Γ ((blockStart b env).bind (fun _ => ((execs b env).onRaise (leaving env)).bind fun f => (Sem.pure (Fin.done f) : Sem Fin))) _ _ pos s
    rw [Sem.wp_bind]
    refine Sem.wp_mono _ _ _ (fun _ p' s' k => ?_) (fun _ _ _ e => e.elim) pos s h
    rw [Sem.wp_bind, Sem.wp_onRaise]
    refine Sem.wp_mono _ _ _ (fun f p' s' k => ?_) (fun _ _ _ e => e.elim) p' s' k
    obtain ⟨rfl, k⟩ := k
    exact ⟨rfl, k⟩
  exact (Sem.wp_iff_runs (model p w) Γ ((model p w).den Γ.code) (fun r s' => r = .ok .next ∧ R s') pos s).mp key

theorem stub_wpG {p : Program} {w : World} {Γ : Ctx} {s s₁ s₂ : Shared} {p₁ p₂ : Pos} {code : Value} {frame : Addr} {R : Shared → Prop} {E : Value → Pos → Shared → Prop}
    (hcode : ∀ Q : Value → Pos → Shared → Prop, Q code p₁ s₁ → Sem.wp (model p w) Γ (moduleCode p.main) Q E default s)
    (hframe : ∀ Q : Addr → Pos → Shared → Prop, Q frame p₂ s₂ → Sem.wp (model p w) Γ (newBodyFrame code mainNs mainNs) Q E p₁ s₁)
    (hbody : wpCode (model p w) (Γ.enter (.body (behindTheImports p) { scope := p.main.scope, locals := mainNs, globals := mainNs, cells := [], code, frame := some frame }) none p₂) (fun r s' => r = .ok .next ∧ R s') p₂ s₂) :
    Sem.wp (model p w) Γ (topStub p).cur (fun fin _ s' => fin = .done (.ret .none) ∧ R s') E default s := by
  unfold topStub
  dsimp only
  rw [Sem.wp_bind']
  refine hcode _ ?_
  rw [Sem.wp_bind']
  refine hframe _ ?_
  rw [Sem.wp_bind']
  unfold run
  refine wpCode_mono (fun r s' k => ?_) hbody
  obtain ⟨rfl, k⟩ := k
  exact ⟨rfl, k⟩

theorem S0_gens (w : World) : (S0 w).gens = #[] := by kernel_rfl
theorem ctx1_eq : ctx0.enter (.body body topEnv) none default = ctx1 := by kernel_rfl
theorem ctx1_code : ctx1.code = .body body topEnv := by kernel_rfl
theorem body_eq : behindTheImports prg = body := by kernel_rfl
theorem topEnv_eq : ({ scope := prg.main.scope, locals := mainNs, globals := mainNs, cells := [], code := .ref 30, frame := some 31 } : Env) = topEnv := by kernel_rfl

theorem top_wp (w : World) : Sem.wp (model prg w) ctx0 (topStub prg).cur (fun fin _ s' => fin = .done (.ret .none) ∧ Left w s') (fun _ _ _ => False) default (S0 w) := by
  have hA := partY_eq w
  unfold partY at hA
  split at hA
  · rename_i code p s h1
    split at hA
    · rename_i frame p₂ s₂ h2
      split at hA
      · rename_i u p₃ s₃ h3
        split at hA
        · rename_i p₄ s₄ h4
          simp only [Option.some.injEq, Prod.mk.injEq] at hA
          obtain ⟨rfl, rfl, rfl, rfl, rfl⟩ := hA
          refine stub_wpG (s₁ := s) (s₂ := s₂) (p₁ := p) (p₂ := default) (code := .ref 30) (frame := 31) (fun Q hq => ?_) (fun Q hq => ?_) ?_
          · rw [show @moduleCode = @PySem.W.Fast.tw17154629097778926822 from PySem.W.Fast.te17154629097778926822]
            refine ev_wp (r := .ok (.ref 30)) h1 ?_
            exact hq
          · rw [show @newBodyFrame = @PySem.W.Fast.tw12822647523644345616 from PySem.W.Fast.te12822647523644345616]
            refine ev_wp (r := .ok 31) h2 ?_
            exact hq
          · rw [body_eq, topEnv_eq, ctx1_eq]
            refine body_wpCode ctx1_code ?_
            rw [show blockStart = PySem.W.Fast.tw1066825118222455980 from PySem.W.Fast.te1066825118222455980]
            refine ev_wp (r := .ok u) h3 ?_
            show Sem.wp (model prg w) ctx1 (execs body topEnv) _ _ p₃ s₃
            rw [body_split8]
            refine wp_execs_append _ _ _ _ _ _ ?_
            have h4' := h4
            rw [show qExecs = execs from PySem.W.Fast.te12563942051412417395.symm] at h4'
            refine ev_wp (r := .ok .next) h4' ?_
            have hB := partA_eq w
            unfold partA at hB
            split at hB
            · rename_i p₅ s₅ h5
              simp only [Option.some.injEq, Prod.mk.injEq] at hB
              obtain ⟨rfl, rfl⟩ := hB
              refine wp_execs_append _ _ _ _ _ _ ?_
              rw [show qExecs = execs from PySem.W.Fast.te12563942051412417395.symm] at h5
              refine ev_wp (r := .ok .next) h5 ?_
              exact body_wp w posA (fun p' s' hl => ⟨rfl, hl⟩)
            · cases hB
        · cases hA
      · cases hA
    · cases hA
  · cases hA

theorem wp_comes_through {p : Program} {w : World} {c : Code} {t : Sem Fin} {s : Shared} {R : Shared → Prop} (hz : s.asleep) (hR : ∀ s', R s' → s'.gens = #[])
    (h : Sem.wp (model p w) (Ctx.of c []) t (fun fin _ s' => (∃ f, fin = .done f) ∧ R s') (fun _ _ _ => False) default s) :
    ∃ s₁, (∃ n t', schedN (denote table) p w n (.single s ⟨t, c, default, []⟩) = .running (.single s₁ t') ∧ through t' = true) ∧ s₁.heap.life = s.heap.life ∧ R s₁ := by
  obtain ⟨n, s', σ, p', leaf, hr, hf, hl⟩ := wp_reaches h
  have hl' : ∃ f, leaf = .pure (.done f) ∧ R s' := by
    rcases hl with ⟨a, rfl, ⟨f, rfl⟩, k⟩ | ⟨e, rfl, k⟩
    · exact ⟨f, rfl, k⟩
    · exact k.elim
  obtain ⟨f, rfl, hRs⟩ := hl'
  have hσ : σ = s' := Shared.eq_of_forget_eq hf (hR _ hRs)
  subst hσ
  have hw2 : Sem.wp (model p w) ⟨c, none, none, [], none⟩ t (Sem.finPost (model p w) ⟨c, none, none, [], none⟩ fun r s' => True ∧ leftWithCleanup s'.gens = false) (fun e _ s' => True ∧ leftWithCleanup s'.gens = false) default s := by
    refine Sem.wp_mono _ _ _ (fun fin p' s' k => ?_) (fun _ _ _ e => e.elim) default s h
    obtain ⟨⟨g, rfl⟩, k⟩ := k
    refine ⟨trivial, ?_⟩
    rw [hR _ k]; simp [leftWithCleanup]
  obtain ⟨m, r, s₂, hm, _⟩ := (wp_iff_halts (M := model p w) (c := c) t (fun _ _ => True) default s).mp hw2
  obtain ⟨s₃, hn3, _, hc⟩ := runNI_real (denote table) p w hm (outcomeOf_ends r)
  have hne : ∀ k s₄, runN (denote table) p w k s ⟨t, c, default, []⟩ ≠ .halted (.unsupported "lifetime:generator-with-cleanup-left-suspended") s₄ := by
    intro k s₄ hk
    have a := runN_mono (denote table) p w m k s _ _ s₃ hn3
    have b := runN_mono (denote table) p w k m s _ _ s₄ hk
    rw [Nat.add_comm, b] at a
    injection a with a1 _
    have := outcomeOf_ends r
    rw [← a1] at this
    exact absurd this (by simp [Outcome.ends])
  refine ⟨σ, ⟨n, _, (schedN_eq_runN (denote table) p w s _ hz ⟨hc, hne⟩ n).trans (congrArg Run.lift hr), rfl⟩, runN_life_running hr, hRs⟩

theorem S0_life (w : World) : (S0 w).heap.life = {} := by kernel_rfl
theorem S0_asleep (w : World) : (S0 w).asleep := by unfold Shared.asleep; rw [S0_life]; exact ⟨rfl, rfl⟩
theorem top_ran (w : World) : ∃ s₁, (∃ n t, schedN (denote table) prg w n (.single (S0 w) (topStub prg)) = .running (.single s₁ t) ∧ through t = true) ∧ s₁.heap.life = (S0 w).heap.life ∧ Left w s₁ :=
  wp_comes_through (S0_asleep w) (fun s' h => h.gens) (Sem.wp_mono _ _ _ (fun fin p' s' k => ⟨⟨_, k.1⟩, k.2⟩) (fun _ _ _ e => e.elim) _ _ (top_wp w))
end Mine
end

section
open PySem PySem.W PyProof.Rows PySem.Calls
set_option maxRecDepth 100000
set_option Elab.async false
set_option linter.unusedVariables false
noncomputable section
namespace Mine
theorem opened_plain (w : World) : ∃ s, importEnds table (opening prg) w 1000 (start (opening prg)).1 (start (opening prg)).2 = some s ∧ fenceModules? prg s = some (S0 w) := by
  have h := opened_eq w
  unfold opened at h
  rw [← PySem.W.Fast.te10274390034422433532, show qTab = treeTable from PySem.W.Fast.te14364793385576792824.symm, ← PySem.W.Fast.te1435165496053646825, ← PySem.W.Fast.te14289696077712309145, ← table_eq_tree] at h
  exact Option.bind_eq_some_iff.mp h

noncomputable def XPV (mg : Str → Option Value) (h : Heap) : Prop := XL vw [] mg h ∧ RecFacts recs h
theorem chains_vw : chainsOk vw = true := by kernel_rfl
theorem S0_main (w : World) : (S0 w).heap.isNs mainGlobals = true := by kernel_rfl
theorem S0_len (w : World) : (S0 w).heap.objs.size = 28 := by kernel_rfl
theorem S0_os (w : World) : (S0 w).os = os0 := by kernel_rfl
theorem mem_kept {b : Nat} (h : b < 28) (h2 : b ≠ 2) (h3 : b ≠ 3) : b ∈ (List.range 28).filter fun b => b != 2 && b != 3 := by
  rw [List.mem_filter]
  exact ⟨List.mem_range.mpr h, by simp [h2, h3]⟩
theorem kept_get {h h' : Heap} (e : keptAt h' = keptAt h) (hs : h.objs.size = 28) {b : Addr} {o : Obj} (hb : h.get? b = some o) (h2 : b ≠ cStatics) (h3 : b ≠ mainNs) : h'.get? b = some o := by
  have hlt : b < 28 := by rw [← hs]; exact Heap.lt_size hb
  unfold keptAt at e
  have := List.map_inj_left.mp e b (mem_kept hlt h2 h3)
  unfold Heap.get? at hb ⊢
  rw [this]; exact hb

theorem behind01 (w : World) : (∃ s, AfterRun (opening prg) w s) ∧ ∀ s, AfterRun (opening prg) w s → ∃ s₀, fenceModules? prg s = some s₀ ∧ s₀.gens = #[] ∧ ∃ s₁, TopRan prg w s₀ s₁ ∧ s₁.asleep ∧ s₁.heap.isNs mainGlobals = true ∧
    Ground vw looseV [] XPV w s₁ (s₁.heap.nsMap mainGlobals) (s₁.heap.nsMap builtinsNs) s₁.heap ∧ Left w s₁ := by
  obtain ⟨s, h4, h5⟩ := opened_plain w
  have A := AfterImport.of_importEnds h4
  refine ⟨⟨s, A⟩, fun s' hs' => ?_⟩
  obtain rfl : s' = s := AfterImport.unique hs' A
  refine ⟨S0 w, h5, S0_gens w, ?_⟩
  obtain ⟨s₁, a, l, L⟩ := top_ran w
  obtain ⟨G, g0, g1, g2, g3, g4, g5⟩ := ground_of_open (w := w) (XP := XPV) (Xt := XtV) (fun s e => by
    unfold XtV at e
    exact ⟨xl_of s (Bool.and_eq_true_iff.mp e).1, recFacts_of (Bool.and_eq_true_iff.mp e).2⟩) chains_vw L.seen
  have hk := L.looks
  unfold looks1 at hk
  obtain ⟨hs, hlk⟩ := Bool.and_eq_true_iff.mp hk
  obtain ⟨hs, hgd⟩ := Bool.and_eq_true_iff.mp hs
  obtain ⟨hs, hnb⟩ := Bool.and_eq_true_iff.mp hs
  refine ⟨s₁, ⟨a, l, Shared.rest_eq (L.os.trans (S0_os w).symm), fun b o hb hn => kept_get L.kept (S0_len w) hb (fun q => hn (.inr (.inl q))) (fun q => hn (.inl q)),
    g2, statics_of_ok hs, g3, g4, g5, gens_of_done hgd, names_of_bound hnb, laid_of_kept hlk⟩, Shared.asleep_of_life l (S0_asleep w), g1, G, L⟩
end Mine
end

section
open PySem PySem.W PyProof.Rows PySem.Calls
set_option maxRecDepth 100000
set_option Elab.async false
set_option linter.unusedVariables false
noncomputable section
namespace Mine
/-- what the call finds of the top -/
structure Here (w : World) (h : Heap) : Prop where
  K : (heapK w.params).In h
  b1 : h.get? 196 = some (a196 w.params)
  b3 : ∃ kvs, IsSV kvs b3Items ∧ h.DictOf (intKind prg w) 207 kvs
theorem Here.keeps {w : World} {h h' : Heap} (x : Here w h) (k : ∀ b o, h.get? b = some o → h'.get? b = some o) : Here w h' :=
  ⟨x.K.keeps k, k _ _ x.b1, let ⟨kvs, sv, hd⟩ := x.b3; ⟨kvs, sv, hd.at fun o e => k _ _ e⟩⟩
theorem Left.here {w : World} {s : Shared} (L : Left w s) : Here w s.heap := ⟨L.K, L.b1, L.b3⟩

abbrev lawRow : OpenRow := Challenge.rw_un0048_01.row
theorem recs_nil : lawRow.records = recs := rfl

theorem holds01 {d : DefRec} {kwd : List (Str × Expr)} (hdef : defOf vw lawRow.name = some (d, kwd)) (hp : lawRow.prog.theDef lawRow.name = some (d.params, d.body, d.scope)) (hk : kwWritten? d.params.kwonlyargs d.params.kw_defaults = some kwd)
    (k1 : lawRow.wellSaid = true) (ok : (opensWell lawRow.prog && (frees lawRow.toRowW && lawRow.within.isEmpty)) = true) (hb : lawRow.prog.bare) (hw : lawRow.toRowW.promised)
    (call : WalkO vw looseV (XL vw []) Here lawRow.toRowW d kwd fun f vs => PySem.call f vs) : lawRow.Holds := by
  refine ⟨k1, hw, ?_⟩
  obtain ⟨o1, k5⟩ := Bool.and_eq_true_iff.mp ok
  obtain ⟨k5, k6⟩ := Bool.and_eq_true_iff.mp k5
  obtain ⟨hsame, hu, ha, hap, hm⟩ := frees_parts k5
  refine ⟨⟨hb, o1, rfl⟩, hw.witness, fun w => ⟨(behind01 w).1, fun s' hs' => ?_⟩⟩
  obtain ⟨s₀, hf, hg0, s, hT, hz, hg, G00, L₀⟩ := (behind01 w).2 s' hs'
  have G0 : Ground vw looseV [] (XL vw []) w s (s.heap.nsMap mainGlobals) (s.heap.nsMap builtinsNs) s.heap := ⟨G00.T, G00.B, G00.D, G00.TE, G00.TD, G00.W, G00.X.1, G00.cls, G00.has, G00.apart, G00.once, G00.K⟩
  have RF : RecFacts lawRow.records s.heap := G00.X.2
  refine ⟨s₀, hf, hg0, s, hT, fun n hn => ?_, RF.1, RF.2.1, ?_⟩
  · obtain rfl : n = lawRow.name := by
      have hn' : n ∈ [lawRow.name] := hn
      exact List.mem_singleton.mp hn'
    exact pinned_of_view hg G0 hdef hp hk
  have hgens : s.gens = #[] := L₀.gens
  have G : Ground vw looseV lawRow.records (XL vw []) w s _ _ s.heap := RF.ground G0
  refine ClaimW.callFrom_of_specG (c := lawRow.toRowW.claim) (tree := fun vs => do match ← nsGet mainNs lawRow.name with
      | some f => do ret (← PySem.call f vs)
      | none => unsupported "claim.caller:no-such-global") hz hgens fun args hpre hlay ord hord => ?_
  obtain ⟨⟨vs, s₁⟩, hlaid⟩ := Option.isSome_iff_exists.mp (layAllW_isSome (P := w.params) (ord := ord) G.has args lawRow.args s (pre_splitW hpre).1)
  have keeps := layAllW_keeps _ _ _ hlaid
  have hal := layAllW_rest _ _ _ hlaid
  obtain ⟨as, hrd, hin, hold⟩ := reads_layAllW hord _ _ _ hlaid hlay s₁.heap (fun _ _ e => e)
  have L : Laid lawRow.records w s s₁ args vs as := ⟨⟨ord, hord, hlaid⟩, hrd, hin, hold, keeps, hal.1.trans hgens, hal.2.2.1⟩
  have G₁ := G.keeps XL.keeps keeps
  obtain ⟨a, o, pm, cd, doc, dV, kV, h1, h2, h3, h4, h5⟩ := G₁.fn hdef
  have hcall := call w s s₁ _ _ G₁ (L₀.here.keeps keeps) a o pm cd doc dV kV h2 h3 h4 h5 (defOf_name hdef ▸ h1) L.gens args vs as hpre hlay L.reads L.well (L.low G.low)
  have hi := ident_freeW hu ha hap
  have hwi : lawRow.toRowW.claim.within = [] := List.isEmpty_iff.mp k6
  refine ⟨vs, s₁, hlaid, ?_⟩
  refine wpAny_bind (wpAny_nsGet G₁.T.g ?_)
  rw [h1]
  dsimp only
  refine wpAny_bind (wpAny_mono hcall (fun v s' g => wpAny_pure ?_) fun e s' g => ?_)
  · have z := g.laid (c := lawRow.toRowW.claim) hsame hwi hi L
    exact ⟨_, rfl, z.1, z.2.1, z.2.2, fun q => nomatch (q : (false : Bool) = true)⟩
  · have z := g.laid (c := lawRow.toRowW.claim) hsame hwi hi L
    exact ⟨z.1, z.2.1, z.2.2, fun q => nomatch (q : (false : Bool) = true)⟩
end Mine
end

section
open PySem PySem.W PyProof.Rows PySem.Calls
namespace Mine
theorem fits0 {n a c : Nat} (h : n + a < c) : n < c := Nat.lt_of_le_of_lt (Nat.le_add_right _ _) h
theorem fits_in {n a b c : Nat} (h : n + a < c) (hb : 1 + b ≤ a) : n + 1 + b < c := by omega
theorem fits3 {n a b c : Nat} (h : n + a < c) (hb : 3 + b ≤ a) : n + 3 + b < c := by omega
theorem i6 {k : Nat} (h : k < 6) : (k : Int) < 2 ^ 63 := Int.ofNat_lt.mpr (Nat.lt_trans h (by decide : 6 < 2 ^ 63))
theorem i0 (k : Nat) : (0 : Int) ≤ (k : Int) := Int.natCast_nonneg k
theorem nat_of {a b : Nat} (h : (a : Int) = (b : Int)) : a = b := Int.ofNat.inj h
theorem nat_ne {a b : Nat} (h : (a : Int) ≠ (b : Int)) : a ≠ b := fun e => h (congrArg _ e)
theorem lt_eq {a b c : Nat} (h : a < b) (e : c = b) : a < c := e ▸ h
end Mine
end

section
open PySem PySem.W PyProof.Rows PySem.Calls
set_option maxRecDepth 100000
set_option Elab.async false
set_option linter.unusedVariables false
set_option maxHeartbeats 4000000
namespace Mine
local macro_rules | `(tactic| walk_at "no such key") => `(tactic| skip)
noncomputable def vwT : Program := view prg [0, 1, 3, 4, 5, 7, 10, 12, 14, 15, 17, 18, 19, 20, 21, 22, 23]
noncomputable def looseT : List Str := [Str.ofString "tspecials", Str.ofString "_formatparam", Str.ofString "b1_set", Str.ofString "b3_exceptions", Str.ofString "_name_disallowed_re", Str.ofString "_value_disallowed_re"]
noncomputable def b1Toks : List (Int × Nat) := [(65024, 572), (65025, 573), (65026, 574), (65027, 575), (65028, 576), (65029, 577), (6150, 558), (65030, 578), (65031, 579), (65032, 580), (65033, 581), (6155, 559), (6156, 560), (6157, 561), (8203, 562), (8204, 563), (8205, 564), (65034, 582), (65035, 583), (65036, 584), (65037, 585), (65038, 586), (65039, 587), (173, 556), (847, 557), (8288, 565), (65279, 566)]
noncomputable def b1List : List Int := b1Toks.map (·.1)
theorem setOf_list {prog : Program} {w : World} {h : Heap} {a : Addr} {tks : List (Int × Nat)} {ep : Nat} {t : SetTable} (hg : h.get? a = some ⟨.type "set", none, .set (tks.map fun x => (x.1, Value.int x.1 x.2)).toArray ep t, #[]⟩)
    (hh : (tks.all fun x => hashInt x.1 == x.1) = true) (hs : tks.length < scanBound) (hf : t.fits tks.length = true) : h.SetOf (intKind prog w) a (fun k => (tks.map (·.1)).contains k) tks.length := by
  refine ⟨_, _, _, _, hg, ⟨rfl, rfl, rfl⟩, rfl, ?_, ?_, by simpa using hs, by simpa using hf, by simp⟩
  · intro e he
    obtain ⟨x, hx, rfl⟩ := List.mem_map.mp (show e ∈ tks.map fun x => (x.1, Value.int x.1 x.2) from he)
    refine ⟨⟨x.1, by simp [intKind, Value.isInt], ?_⟩, rfl⟩
    exact (beq_iff_eq.mp (List.all_eq_true.mp hh x hx)).symm
  · intro k
    simp only [List.contains_iff_mem, List.mem_map, List.toList_toArray]
    constructor
    · rintro ⟨x, hx, rfl⟩
      exact ⟨_, ⟨x, hx, rfl⟩, by simp [intKind, Value.isInt]⟩
    · rintro ⟨e, ⟨x, hx, rfl⟩, hi⟩
      refine ⟨x, hx, ?_⟩
      simp only [intKind, Value.isInt] at hi
      simpa using hi
theorem b1_setOf {w : World} {h : Heap} (X : (heapK w.params).In h) : h.SetOf (intKind Challenge.rw_un0048_01.row.prog w) 196 (fun k => b1List.contains k) 27 := by
  have hl : (heapK w.params).lookup 196 = some ⟨.type "set", none, .set (b1Toks.map fun x => (x.1, Value.int x.1 x.2)).toArray 29 { mask := 127, place := #[0, 1, 2, 3, 4, 5, 6, 7, 8, 9, 10, 11, 12, 13, 14, 15, 16, 17, 18, 19, 20, 21, 22, 45, 79, 96, 127], dummies := #[], finger := 0, led := !w.params.followText "set-order", moves := 2, plain := true }, #[]⟩ := by kernel_rfl
  exact setOf_list (X 196 _ hl) (by decide +kernel) (by decide) (by kernel_rfl)
theorem in_b1 {w : World} {mean : ExcName → Option Value} {mg mb : Str → Option Value}
    {dp un : Nat} {gd : Option (List Code)} {cn : Str} {cs : Scope} {a : Addr} {ccd : Value} {cl : List (Str × Addr)} {outer : List Env} {A₀ : Around} {base h₀ : Heap} {L : Addr} {m : Str → Option Value} {news : List (Addr × Obj)} {s : Shared} {Q E : Value → Shared → Prop}
    {c : Nat} {t : Tok}
    (B : Below A₀ base outer h₀) (F : Fr h₀ L s.heap m) (X : (heapK w.params).In h₀) (N : News h₀ L s.heap news) (T : Top vwT (looseW vwT looseT) mean mg mb h₀) (hk : cs.kind = .function)
    (hd : dp + 3 < recursionLimit) (hu : un + 12 < cLine)
    (hret : ∀ h' tk', Fr h₀ L h' m → News h₀ L h' news → Q (.bool (b1List.contains (c : Int))) { s with heap := h', toks := tk' }) :
    wpAny (model Challenge.rw_un0048_01.row.prog w) (ktrTop dp un gd cn cs L a ccd cl outer) (call (.ref 206) [.str ⟨#[c]⟩ t]) Q E s := by
  revert X; k_fill; intro X
  refine wpAny_call ?_
  k_dflt ktr_enter
  conv => arg 3; arg 1; whnf
  k_steps
  rename_i g' L' h' FG' F' N' B' X' T'
  refine wpAny_inSet_of (knd := intKind _ w) (k := (c : Int)) (by simp [intKind, Value.isInt]) rfl (b1_setOf (X'.keeps (by first | assumption | exact F'.keep))) ?_
  k_steps
  exact hret _ _ (by assumption) (by assumption)
end Mine
end

section
open PySem PySem.W PyProof.Rows PySem.Calls
set_option maxRecDepth 100000
set_option Elab.async false
set_option linter.unusedVariables false
set_option maxHeartbeats 4000000
namespace Mine
section
variable {prog : Program} {w : World} {A : Around} {E : Value → Shared → Prop} {s : Shared}
theorem getMethod_dict_get {d : Addr} {f : Int → Option Value} {pl : Sem Bool} {Q : Value × List Value → Shared → Prop} (hm : s.heap.MapOf (intKind prog w) d f) (h : Q (.builtin "dict.get", [.ref d]) s) :
    wpAny (model prog w) A (getMethod (.ref d) (Str.ofString "get") pl) Q E s :=
  getMethod_builtin hm.typeIs F.plainAttrs_dict F.slot_dict_get F.type_dict_get hm.noDict h
theorem call_get_int {d : Addr} {f : Int → Option Value} {k : Int} {t : Tok} {Q : Value → Shared → Prop} (lo : (d == sysModules) = false) (hm : s.heap.MapOf (intKind prog w) d f) (h : Q ((f k).getD .none) { s with toks := s.toks + 1 }) :
    wpAny (model prog w) A (call (.builtin "dict.get") [.ref d, .int k t]) Q E s :=
  call_meetsIn F.slot_dict_get hm.typeIs F.entry_dict_get (F.args_dict_get_2 _ _) (meets_dict_get (intKind prog w) d (by simp [intKind, Value.isInt]) lo) ⟨f, hm, h⟩
end
/-- what the table of exceptions says of a sign -/
noncomputable def b3v (c : Nat) : Option Str := (b3Items.find? fun it => it.1 == (c : Int)).map (·.2)
theorem valueAt_b3 {kvs : List (Int × Value)} (sv : IsSV kvs b3Items) (c : Nat) : (∃ x t, valueAt kvs (c : Int) = some (.str x t) ∧ b3v c = some x) ∨ (valueAt kvs (c : Int) = none ∧ b3v c = none) := by
  unfold b3v valueAt
  generalize b3Items = its at sv
  induction sv with
  | nil => exact .inr ⟨rfl, rfl⟩
  | @cons kv it l m h _ ih =>
    obtain ⟨h1, t, h2⟩ := h
    simp only [List.find?_cons, h1]
    by_cases hc : it.1 = (c : Int)
    · simp only [hc, decide_true, beq_self_eq_true, Option.map_some]
      exact .inl ⟨it.2, t, by rw [h2], rfl⟩
    · have e2 : (it.1 == (c : Int)) = false := beq_eq_false_iff_ne.mpr hc
      simp only [decide_eq_false hc, e2]
      exact ih
/-- the sign folded, as the program does it -/
noncomputable def b3Str (c : Nat) : Str := (b3v c).getD (Txt.lower ⟨#[c]⟩)

theorem map_b3 {w : World} {mean : ExcName → Option Value} {mg mb : Str → Option Value}
    {dp un : Nat} {gd : Option (List Code)} {cn : Str} {cs : Scope} {a : Addr} {ccd : Value} {cl : List (Str × Addr)} {outer : List Env} {A₀ : Around} {base h₀ : Heap} {L : Addr} {m : Str → Option Value} {news : List (Addr × Obj)} {s : Shared} {Q E : Value → Shared → Prop}
    {c : Nat} {t : Tok} {kvs : List (Int × Value)}
    (B : Below A₀ base outer h₀) (F : Fr h₀ L s.heap m) (X : (heapK w.params).In h₀) (N : News h₀ L s.heap news) (T : Top vwT (looseW vwT looseT) mean mg mb h₀) (hk : cs.kind = .function)
    (hd : dp + 3 < recursionLimit) (hu : un + 12 < cLine) (sv : IsSV kvs b3Items) (hB : h₀.DictOf (intKind Challenge.rw_un0048_01.row.prog w) 207 kvs)
    (hret : ∀ t h' tk', Fr h₀ L h' m → News h₀ L h' news → Q (.str (b3Str c) t) { s with heap := h', toks := tk' }) :
    wpAny (model Challenge.rw_un0048_01.row.prog w) (ktrTop dp un gd cn cs L a ccd cl outer) (call (.ref 252) [.str ⟨#[c]⟩ t]) Q E s := by
  revert X; k_fill; intro X
  refine wpAny_call ?_
  k_dflt ktr_enter
  conv => arg 3; arg 1; whnf
  k_steps
  rename_i g' L' h' FG' F' N' B' X' T'
  have hm : h'.MapOf (intKind Challenge.rw_un0048_01.row.prog w) 207 (valueAt kvs) := (hB.at fun o e => F'.keep _ _ (FG'.keep _ _ e)).mapOf
  refine getMethod_dict_get hm ?_
  k_steps
  refine call_get_int (by decide) hm ?_
  unfold b3Str at hret
  rcases valueAt_b3 sv c with ⟨x, tx, hv, hb⟩ | ⟨hv, hb⟩
  · rw [hv]; rw [hb] at hret
    dsimp only [Option.getD_some] at hret ⊢
    k_steps
    exact hret _ _ _ (by assumption) (by assumption)
  · rw [hv]; rw [hb] at hret
    dsimp only [Option.getD_none] at hret ⊢
    have hl1 : Str.length ⟨#[c]⟩ = 1 := rfl
    k_steps
    exact hret _ _ _ (by assumption) (by assumption)
end Mine
end

section
open PySem PySem.W PyProof.Rows PySem.Calls
set_option maxRecDepth 100000
set_option Elab.async false
set_option linter.unusedVariables false
namespace Mine
theorem slot_search : Slot "re.Pattern" "search" "re.Pattern.search" :=
  .of (owner := "re.Pattern") (n := "search") (by rw [typeLookup_type, builtinLookup_eq_fast]; kernel_rfl) (by decide +kernel) (by decide +kernel) (by decide +kernel)
    (by first | exact .inl (by decide +kernel) | exact .inr (by decide +kernel)) (by rw [isSubtype_type]; kernel_rfl)
theorem type_search : typeOf (.builtin "re.Pattern.search") = pure (.type "method_descriptor") := by show builtinType _ = _; rw [builtinType_eq_fast]; kernel_rfl
theorem entry_search : entryFor table "re.Pattern.search" = some Builtin.«re.Pattern.search» := entryFor_of_tree (by kernel_rfl)
theorem args_search (a b : Value) : argsOk "re.Pattern.search" ⟨[a, b], []⟩ := by unfold argsOk; kernel_rfl
theorem plainAttrs_pattern : PlainAttrs "re.Pattern" :=
  ⟨⟨"object.__getattribute__", by rw [typeLookup_type, builtinLookup_eq_fast]; kernel_rfl, by decide +kernel⟩, by rw [typeLookup_type, builtinLookup_eq_fast]; kernel_rfl⟩
theorem match_bool : typeLookup (.type "re.Match") "__bool__" = pure none := by rw [typeLookup_type, builtinLookup_eq_fast]; kernel_rfl
theorem match_len : typeLookup (.type "re.Match") "__len__" = pure none := by rw [typeLookup_type, builtinLookup_eq_fast]; kernel_rfl

/-- the codes of the two patterns -/
noncomputable def codeN : Array Nat := #[14, 10, 4, 1, 1, 22, 0, 31, 16, 127, 0, 13, 7, 22, 0, 31, 16, 127, 0, 1]
noncomputable def codeV : Array Nat := #[14, 14, 4, 1, 1, 9, 4294966783, 0, 0, 2147483648, 0, 0, 0, 0, 0, 13, 11, 9, 4294966783, 0, 0, 2147483648, 0, 0, 0, 0, 0, 1]
noncomputable def badN (c : Nat) : Bool := c ≤ 31 || c == 127
noncomputable def badV (c : Nat) : Bool := (c ≤ 31 && c != 9) || c == 127

theorem inN_of {c : Nat} {X : Except String (Bool × Sre.Seen)} {a b d : Sre.Seen} (e : X = if (decide (0 ≤ c) && decide (c ≤ 31)) = true then .ok (true, a) else if (c == 127) = true then .ok (true, b) else .ok (false, d)) : ∃ seen', X = .ok (badN c, seen') := by
  rw [e]
  unfold badN
  by_cases hc : c ≤ 31
  · exact ⟨a, by simp [hc]⟩
  · by_cases hd : c = 127
    · exact ⟨b, by simp [hd]⟩
    · exact ⟨d, by simp [hc, hd]⟩
theorem bits_V : ∀ c, c < 256 → (codeV.getD (6 + c / 32) 0).testBit (c % 32) = badV c := by decide +kernel
theorem inV_of {c : Nat} {X : Except String (Bool × Sre.Seen)} {a b : Sre.Seen} {y : Nat} (hy : c < 256 → y = codeV.getD (6 + c / 32) 0) (e : X = if (decide (c < 256) && y.testBit (c % 32)) = true then .ok (true, a) else .ok (false, b)) : ∃ seen', X = .ok (badV c, seen') := by
  rw [e]
  by_cases hc : c < 256
  · rw [hy hc, bits_V c hc]
    cases hb : badV c
    · exact ⟨b, by simp [hc]⟩
    · exact ⟨a, by simp [hc]⟩
  · have : badV c = false := by
      unfold badV
      rw [Bool.or_eq_false_iff]
      exact ⟨by simp; omega, beq_eq_false_iff_ne.mpr (by omega)⟩
    rw [this]
    exact ⟨b, by simp [hc]⟩
theorem inSetN5 (c : Nat) (seen : Sre.Seen) : ∃ seen', Sre.inSet codeN c 20 5 true seen = .ok (badN c, seen') := inN_of (a := seen.add 22) (b := (seen.add 22).add 16) (d := ((seen.add 22).add 16).add 0) rfl
theorem inSetN13 (c : Nat) (seen : Sre.Seen) : ∃ seen', Sre.inSet codeN c 20 13 true seen = .ok (badN c, seen') := inN_of (a := seen.add 22) (b := (seen.add 22).add 16) (d := ((seen.add 22).add 16).add 0) rfl
theorem inSetV5 (c : Nat) (seen : Sre.Seen) : ∃ seen', Sre.inSet codeV c 28 5 true seen = .ok (badV c, seen') := inV_of (a := seen.add 9) (b := (seen.add 9).add 0) (y := codeV.getD (5 + (1 + c / 32)) 0) (fun _ => by rw [show 5 + (1 + c / 32) = 6 + c / 32 by omega]) rfl
theorem bits_V17 : ∀ c, c < 256 → codeV.getD (17 + (1 + c / 32)) 0 = codeV.getD (6 + c / 32) 0 := by decide +kernel
theorem inSetV17 (c : Nat) (seen : Sre.Seen) : ∃ seen', Sre.inSet codeV c 28 17 true seen = .ok (badV c, seen') := inV_of (a := seen.add 9) (b := (seen.add 9).add 0) (y := codeV.getD (17 + (1 + c / 32)) 0) (bits_V17 c) rfl
theorem admitted_spec {m : Sre.M} {bad : Nat → Bool} (hset : ∀ c seen, ∃ seen', Sre.inSet m.code c m.code.size 5 true seen = .ok (bad c, seen')) : ∀ (fuel s : Nat) (seen : Sre.Seen), m.lim < fuel + s →
    (∃ i seen', Sre.M.admitted m fuel s seen = .ok (some i, seen') ∧ s ≤ i ∧ i < m.lim ∧ bad (m.text.getD i 0) = true) ∨
    ((∃ seen', Sre.M.admitted m fuel s seen = .ok (none, seen')) ∧ ∀ i, s ≤ i → i < m.lim → bad (m.text.getD i 0) = false)
  | 0, s, seen, h => .inr ⟨⟨seen, rfl⟩, fun i h1 h2 => by omega⟩
  | fuel + 1, s, seen, h => by
    rw [Sre.M.admitted]
    by_cases hs : s ≥ m.lim
    · rw [if_pos hs]
      exact .inr ⟨⟨seen, rfl⟩, fun i h1 h2 => by omega⟩
    · rw [if_neg hs]
      obtain ⟨seen', e⟩ := hset (m.text.getD s 0) seen
      rw [e]
      cases hb : bad (m.text.getD s 0) with
      | true => exact .inl ⟨s, seen', rfl, Nat.le_refl _, by omega, hb⟩
      | false =>
        rcases admitted_spec hset fuel (s + 1) seen' (by omega) with ⟨i, sn, h1, h2, h3, h4⟩ | ⟨⟨sn, h1⟩, h2⟩
        · exact .inl ⟨i, sn, h1, by omega, h3, h4⟩
        · refine .inr ⟨⟨sn, h1⟩, fun i h3 h4 => ?_⟩
          rcases Nat.lt_or_ge s i with h5 | h5
          · exact h2 i h5 h4
          · have : i = s := by omega
            subst this; exact hb
noncomputable def anyBad (bad : Nat → Bool) (text : Array Nat) : Bool := text.toList.any bad
theorem anyBad_of {bad : Nat → Bool} {text : Array Nat} {i : Nat} (hi : i < text.size) (h : bad (text.getD i 0) = true) : anyBad bad text = true := by
  unfold anyBad
  rw [List.any_eq_true]
  refine ⟨text[i], by simp, ?_⟩
  simpa [Array.getD, hi] using h
theorem anyBad_not {bad : Nat → Bool} {text : Array Nat} (h : ∀ i, i < text.size → bad (text.getD i 0) = false) : anyBad bad text = false := by
  unfold anyBad
  rw [List.any_eq_false]
  intro c hc
  obtain ⟨i, hi, rfl⟩ := List.mem_iff_getElem.mp hc
  have hi' : i < text.size := by simpa using hi
  have := h i hi'
  simp only [Array.getD, hi', dif_pos] at this
  simpa using this

theorem run_said (m : Sre.M) (hf : m.frames = []) (ho : m.outcome = none) : ((m.say false).runFor 4).outcome = some .failed := by
  obtain ⟨⟩ := m
  dsimp only at hf ho
  subst hf ho
  rfl
theorem run_found {code text : Array Nat} {lim start ls pos : Nat} {marks : Array (Option Nat)} {seen seen' : Sre.Seen} {weight : Nat} {pc w1 : Nat} {fr : Sre.Frame}
    (hpc : pc < code.size) (hop : Sre.ops[code.getD pc 0]? = some .IN) (h13 : code.getD pc 0 = 13) (hw : code.getD (pc + 1) 0 = w1) (hpc2 : pc + (1 + w1) < code.size) (hop2 : Sre.ops[code.getD (pc + (1 + w1)) 0]? = some .SUCCESS)
    (hfr : fr.wait = .nextStart) (hpos : pos < lim)
    (hset : Sre.inSet code (text.getD pos 0) code.size (pc + 2) true (seen.add 13) = .ok (true, seen')) :
    ((({ code, text, lim, start, lastStart := ls, pc, pos, handed := pos, marks, seen, frames := [fr], weight } : Sre.M).runFor 4).outcome = some .matched) := by
  have acc : Sre.accepts code pc (text.getD pos 0) (seen.add 13) = .ok (true, seen') := by
    unfold Sre.accepts
    simp only [hop]
    exact hset
  have s1 : (({ code, text, lim, start, lastStart := ls, pc, pos, handed := pos, marks, seen, frames := [fr], weight } : Sre.M).step) =
      { code, text, lim, start, lastStart := ls, pc := pc + (1 + w1), pos := pos + 1, handed := pos, marks, seen := seen', frames := [fr], weight } := by
    simp only [Sre.M.step, Option.isSome_none, Bool.false_eq_true, if_false, hpc, if_true, Sre.M.exec, Sre.M.word, Nat.add_zero, h13, show Sre.ops[13]? = some .IN from rfl]
    rw [if_neg (by omega), acc]
    simp only [Sre.itemWidth, hop, hw]
  have s2 : (({ code, text, lim, start, lastStart := ls, pc := pc + (1 + w1), pos := pos + 1, handed := pos, marks, seen := seen', frames := [fr], weight } : Sre.M).step) =
      { code, text, lim, start, lastStart := ls, pc := pc + (1 + w1), pos := pos + 1, handed := pos + 1, marks, seen := seen'.add (code.getD (pc + (1 + w1)) 0), frames := [fr], weight, answer := some true } := by
    simp only [Sre.M.step, Option.isSome_none, Bool.false_eq_true, if_false, hpc2, if_true, Sre.M.exec, Sre.M.word, Nat.add_zero, hop2, Sre.M.say]
    rfl
  simp only [Sre.M.runFor, Option.isSome_none, Bool.false_eq_true, if_false, s1, s2]
  obtain ⟨wait, fpc, fpos, fom, cnt, kept, lp, bg⟩ := fr
  dsimp only at hfr
  subst hfr
  rfl

/-- what a search says -/
structure Finds (code : Array Nat) (bad : Nat → Bool) (body w1 : Nat) : Prop where
  header : Sre.header code = (1, body)
  first : Sre.ops[code.getD 0 0]? = some .INFO ∧ code.getD 2 0 = 4
  pc : body < code.size
  op : Sre.ops[code.getD body 0]? = some .IN
  op13 : code.getD body 0 = 13
  w : code.getD (body + 1) 0 = w1
  pc2 : body + (1 + w1) < code.size
  op2 : Sre.ops[code.getD (body + (1 + w1)) 0]? = some .SUCCESS
  set5 : ∀ c seen, ∃ seen', Sre.inSet code c code.size 5 true seen = .ok (bad c, seen')
  setB : ∀ c seen, ∃ seen', Sre.inSet code c code.size (body + 2) true seen = .ok (bad c, seen')

noncomputable def startM (code text : Array Nat) (n body ls : Nat) (sn : Sre.Seen) : Sre.M := { code, text, lim := n, start := 0, lastStart := ls, pc := body, pos := 0, handed := 0, marks := Array.replicate (2 * 0) none, seen := sn }
theorem forSearch_eq (code text : Array Nat) (n : Nat) : ∃ ls sn, Sre.forSearch code text 0 0 n false =
    if (decide (0 > n) || decide (n - 0 < (Sre.header code).1)) = true then (startM code text n (Sre.header code).2 0 sn).say false else (startM code text n (Sre.header code).2 ls sn).attemptFrom 0 true :=
  ⟨_, _, rfl⟩

theorem search_runs {code : Array Nat} {bad : Nat → Bool} {body w1 : Nat} (H : Finds code bad body w1) (text : Array Nat) :
    ((Sre.forSearch code text 0 0 text.size false).runFor 4).outcome = some (if anyBad bad text then .matched else .failed) := by
  obtain ⟨ls, sn, e⟩ := forSearch_eq code text text.size
  rw [e, H.header]
  by_cases h0 : text.size = 0
  · rw [if_pos (by simp [h0])]
    have : anyBad bad text = false := anyBad_not fun i hi => absurd hi (by omega)
    rw [this]
    exact run_said _ rfl rfl
  · have hc : (decide (0 > text.size) || decide (text.size - 0 < (1, body).1)) = false := Bool.or_eq_false_iff.mpr ⟨decide_eq_false (by omega), decide_eq_false (by show ¬ (text.size - 0 < 1); omega)⟩
    rw [hc, if_neg Bool.false_ne_true]
    have hfs : (startM code text text.size body ls sn).hasFirstSet = true := by
      unfold Sre.M.hasFirstSet startM
      simp only [H.first.1, H.first.2]
      rfl
    unfold Sre.M.attemptFrom
    rw [hfs]
    rw [if_neg (by decide)]
    rcases admitted_spec (m := startM code text text.size body ls sn) H.set5 (text.size + 1 - 0) 0 sn (by show text.size < _; omega) with ⟨i, sn', h1, h2, h3, h4⟩ | ⟨⟨sn', h1⟩, h2⟩
    · rw [show (startM code text text.size body ls sn).lim = text.size from rfl, show (startM code text text.size body ls sn).seen = sn from rfl, h1]
      have hi : i < text.size := h3
      have hb : bad (text.getD i 0) = true := h4
      rw [anyBad_of hi hb]
      obtain ⟨sn₂, hB⟩ := H.setB (text.getD i 0) (sn'.add 13)
      rw [hb] at hB
      show (Sre.M.runFor 4 (Sre.M.attemptAt { startM code text text.size body ls sn with mustAdvance := false, seen := sn' } i true)).outcome = some .matched
      exact run_found (fr := { wait := .nextStart, pc := body, pos := i, outermost := true }) H.pc H.op H.op13 H.w H.pc2 H.op2 rfl hi hB
    · rw [show (startM code text text.size body ls sn).lim = text.size from rfl, show (startM code text text.size body ls sn).seen = sn from rfl, h1]
      have hnb : anyBad bad text = false := anyBad_not (text := text) (fun i hi => h2 i (Nat.zero_le _) hi)
      rw [hnb]
      exact run_said _ rfl rfl
theorem finds_N : Finds codeN badN 11 7 := ⟨by rfl, ⟨by rfl, by rfl⟩, by decide, by rfl, by decide, by decide, by decide, by rfl, inSetN5, inSetN13⟩
theorem finds_V : Finds codeV badV 15 11 := ⟨by rfl, ⟨by rfl, by rfl⟩, by decide, by rfl, by decide, by decide, by decide, by rfl, inSetV5, inSetV17⟩

section
variable {prog : Program} {w : World} {A : Around} {E : Value → Shared → Prop} {s : Shared}
open Builtin.Re in
theorem wp_drive {m : Sre.M} {o : Sre.Outcome} {Q : Sre.M → Shared → Prop} (h : (m.runFor 4).outcome = some o) (hQ : Q (m.runFor 4) s) : wpAny (model prog w) A (reDrive (2 ^ 64) m) Q E s := by
  rw [show (2 : Nat) ^ 64 = (2 ^ 64 - 1) + 1 from rfl, reDrive]
  show wpAny _ _ (if (m.runFor 4).outcome.isSome = true then pure (m.runFor 4) else _) _ _ _
  rw [h]
  exact wpAny_pure hQ
theorem wp_rules {l : List Nat} {c : Nat → Bool} {t : Nat → String} {Q : PUnit → Shared → Prop} (hQ : Q PUnit.unit s) :
    wpAny (model prog w) A (forIn l PUnit.unit fun i (_ : PUnit) => (if c i = true then do rule (t i); pure (ForInStep.yield PUnit.unit) else pure (ForInStep.yield PUnit.unit) : Sem (ForInStep PUnit))) Q E s := by
  refine wpAny_forIn_list _ (fun _ _ s' => s' = s) Q ?_ ?_ l _ rfl
  · rintro x rest b s' rfl
    by_cases hc : c x = true
    · rw [if_pos hc]; exact wpAny_bind (wpAny_rule (wpAny_pure rfl))
    · rw [if_neg hc]; exact wpAny_pure rfl
  · rintro b s' rfl; exact hQ

open Builtin.Re in
theorem wp_toEnd {m : Sre.M} {o : Sre.Outcome} {Q : Option Sre.M → Shared → Prop} (h : (m.runFor 4).outcome = some o)
    (hQ : match o with | .matched => Q (some (m.runFor 4)) s | .failed => Q none s | .stuck _ => False) : wpAny (model prog w) A (reRunToEnd m) Q E s := by
  unfold reRunToEnd
  refine wpAny_bind (wp_drive h ?_)
  refine wpAny_bind ?_
  refine wp_rules ?_
  rw [h]
  cases o with
  | matched => exact wpAny_pure hQ
  | failed => exact wpAny_pure hQ
  | stuck _ => exact hQ.elim
end
end Mine
end

section
open PySem PySem.W PyProof.Rows PySem.Calls
set_option maxRecDepth 100000
set_option Elab.async false
set_option linter.unusedVariables false
namespace Mine
open Builtin.Re
theorem named_search (v : Value) : reNamed "re.Pattern.search" "search" ["string", "pos", "endpos"] 1 [v] [] = pure [some v, none, none] := by rfl
structure PatAt (h : Heap) (p : Addr) (code : Array Nat) : Prop where
  ex : ∃ pv fl tup k, h.get? p = some ⟨.type "re.Pattern", none, .fields #[pv, fl, .int 0 0, .none, .none, .ref tup, .int 0 0], #[]⟩ ∧
    h.get? tup = some ⟨.type "tuple", none, .seq (code.map fun (n : Nat) => Value.int (n : Int) 0) k, #[]⟩
noncomputable def matchObj (p tup : Addr) (x : Str) (t : Tok) (m : Sre.M) : Obj := { cls := .type "re.Match", data := .fields #[.str x t, .ref p, rawInt 0, rawInt x.cps.size, rawInt m.lastindex, .ref tup] }
section
variable {prog : Program} {w : World} {A : Around} {E : Value → Shared → Prop} {s : Shared}
theorem wp_fieldsOf {a : Addr} {o : Obj} {vs : Array Value} {Q : Array Value → Shared → Prop} (ho : s.heap.get? a = some o) (hd : o.data = .fields vs) (h : Q vs s) : wpAny (model prog w) A (fieldsOf (.ref a)) Q E s := by
  unfold fieldsOf
  refine wpAny_bind (wpAny_load ho ?_)
  rw [hd]
  exact wpAny_pure h
theorem wp_rawItems {a : Addr} {o : Obj} {vs : Array Value} {k : Nat} {Q : Array Int → Shared → Prop} (ho : s.heap.get? a = some o) (hd : o.data = .seq vs k) (h : Q (vs.map reRawOf) s) : wpAny (model prog w) A (reRawItems (.ref a)) Q E s := by
  unfold reRawItems
  refine wpAny_bind (wpAny_seqItems ho hd ?_)
  exact wpAny_pure h
theorem wp_target {p : Addr} {x : Str} {t : Tok} {code : Array Nat} {Q : ReTarget → Shared → Prop} (hp : PatAt s.heap p code) (hx : x.cps.size ≤ sizeLine)
    (h : Q { pattern := .ref p, string := .str x t, code, text := x.cps, kind := 0, groups := 0, pos := 0, lim := x.cps.size } s) : wpAny (model prog w) A (reTarget "re.Pattern.search" "search" ⟨[.ref p, .str x t], []⟩) Q E s := by
  obtain ⟨pv, fl, tup, k, h1, h2⟩ := hp.ex
  unfold reTarget
  dsimp only
  rw [named_search]
  show wpAny _ _ (fieldsOf (.ref p) >>= _) _ _ _
  refine wpAny_bind (wp_fieldsOf h1 rfl ?_)
  show wpAny _ _ (reTextOf (.str x t) >>= _) _ _ _
  show wpAny _ _ (reRawItems (.ref tup) >>= _) _ _ _
  refine wpAny_bind (wp_rawItems h2 rfl ?_)
  refine wpAny_pure ?_
  have e1 : ((code.map fun (n : Nat) => Value.int (n : Int) 0).map reRawOf).map (·.toNat) = code := by
    rw [Array.map_map, Array.map_map]
    conv => rhs; rw [← Array.map_id code]
    congr 1
  have e2 : min (2 ^ 63 - 1 : Int).toNat x.cps.size = x.cps.size := by
    rw [sizeLine_eq] at hx
    omega
  have e3 : min (0 : Int).toNat x.cps.size = 0 := by simp
  show Q { pattern := .ref p, string := .str x t, code := ((code.map fun (n : Nat) => Value.int (n : Int) 0).map reRawOf).map (·.toNat), text := x.cps, kind := 0, groups := 0, pos := min (0 : Int).toNat x.cps.size, lim := min (2 ^ 63 - 1 : Int).toNat x.cps.size } s
  rw [e1, e2, e3]
  exact h
theorem wp_newFields {T : String} {vs : List Value} {Q : Value → Shared → Prop} (h : Q (.ref s.heap.objs.size) { s with heap := s.heap.push { cls := .type T, data := .fields vs.toArray } })
    (hsz : vs.length ≤ sizeLine + 2) : wpAny (model prog w) A (newFields T vs) Q E s :=
  wpAny_newObj_type h (by show vs.toArray.size ≤ sizeLine + 2; rw [List.size_toArray]; exact hsz)
theorem meets_search {p : Addr} {x : Str} {t : Tok} {code : Array Nat} {bad : Nat → Bool} {body w1 : Nat} (H : Finds code bad body w1) (hx : x.cps.size ≤ sizeLine) :
    MeetsIn prog w (Builtin.«re.Pattern.search» ⟨[.ref p, .str x t], []⟩) (fun _ R s => PatAt s.heap p code ∧
      (anyBad bad x.cps = true → ∀ o₁ o₂ : Obj, o₂.cls = .type "re.Match" → o₂.isFreed = false → R (.ok (.ret (.ref (s.heap.objs.size + 1)))) { s with heap := (s.heap.push o₁).push o₂ }) ∧
      (anyBad bad x.cps = false → R (.ok (.ret .none)) s)) :=
  .of_wp fun A R s ⟨hp, h1, h2⟩ => by
    unfold Builtin.«re.Pattern.search»
    refine wpAny_bind (wp_target hp hx ?_)
    unfold reAnswer
    dsimp only
    have hr := search_runs H x.cps
    cases hb : anyBad bad x.cps with
    | false => 
      rw [hb] at hr
      refine wpAny_bind (wp_toEnd (o := .failed) hr ?_)
      exact wpAny_pure ⟨_, rfl, h2 hb⟩
    | true =>
      rw [hb] at hr
      refine wpAny_bind (wp_toEnd (o := .matched) hr ?_)
      refine wpAny_bind ?_
      unfold reNewMatch
      show wpAny _ _ (newTuple _ >>= _) _ _ _
      refine wpAny_bind (wpAny_newTuple ?_ (by rw [sizeLine_eq]; simp))
      refine wp_newFields ?_ (by rw [sizeLine_eq]; simp)
      refine wpAny_pure ⟨_, rfl, ?_⟩
      have e : ∀ o, (s.heap.push o).objs.size = s.heap.objs.size + 1 := fun o => by simp [Heap.push]
      simp only [e]
      exact h1 hb _ _ rfl rfl
/-- search, as it is called -/
theorem call_search {p : Addr} {x : Str} {t : Tok} {code : Array Nat} {bad : Nat → Bool} {body w1 : Nat} {Q : Value → Shared → Prop} (H : Finds code bad body w1) (hx : x.cps.size ≤ sizeLine) (hp : PatAt s.heap p code)
    (h1 : anyBad bad x.cps = true → ∀ o₁ o₂ : Obj, o₂.cls = .type "re.Match" → o₂.isFreed = false → Q (.ref (s.heap.objs.size + 1)) { s with heap := (s.heap.push o₁).push o₂ })
    (h2 : anyBad bad x.cps = false → Q .none s) : wpAny (model prog w) A (call (.builtin "re.Pattern.search") [.ref p, .str x t]) Q E s := by
  obtain ⟨pv, fl, tup, k, g1, g2⟩ := hp.ex
  exact call_meetsIn slot_search (show s.TypeIs (.ref p) "re.Pattern" from ⟨_, g1, rfl⟩) entry_search (args_search _ _) (meets_search H hx) ⟨hp, h1, h2⟩
theorem getMethod_search {p : Addr} {code : Array Nat} {pl : Sem Bool} {Q : Value × List Value → Shared → Prop} (hp : PatAt s.heap p code) (h : Q (.builtin "re.Pattern.search", [.ref p]) s) :
    wpAny (model prog w) A (getMethod (.ref p) (Str.ofString "search") pl) Q E s := by
  obtain ⟨pv, fl, tup, k, g1, g2⟩ := hp.ex
  exact getMethod_builtin (show s.TypeIs (.ref p) "re.Pattern" from ⟨_, g1, rfl⟩) plainAttrs_pattern slot_search type_search (fun a e => by injection e with e; subst e; exact ⟨_, g1, rfl⟩) h
theorem truthy_match {a : Addr} {o : Obj} {Q : Bool → Shared → Prop} (ho : s.heap.get? a = some o) (hc : o.cls = .type "re.Match") (h : Q true s) : wpAny (model prog w) A (truthy (.ref a)) Q E s := by
  have hT : s.TypeIs (.ref a) "re.Match" := ⟨_, ho, hc⟩
  unfold truthy
  refine wpAny_bind (wpAny_callSpecial?_none (name := Str.ofString "__bool__") hT match_bool ?_)
  refine wpAny_bind (wpAny_specialOf (name := Str.ofString "__len__") hT match_len ?_)
  exact wpAny_pure h
theorem News.past {h₀ h : Heap} {L : Addr} {news : List (Addr × Obj)} (N : News h₀ L h news) (o : Obj) : News h₀ L (h.push o) news :=
  fun p hp => ⟨Heap.get?_push_of_some _ (N p hp).1, (N p hp).2.1, (N p hp).2.2⟩
end
end Mine
end

section
open PySem PySem.W PyProof.Rows PySem.Calls
set_option maxRecDepth 100000
set_option Elab.async false
set_option linter.unusedVariables false
namespace Mine
/-- texts for texts -/
noncomputable def SVs : List (Str × Value) → List (Str × Str) → Prop
  | [], [] => True
  | kv :: r, it :: r' => kv.1 = it.1 ∧ (∃ t, kv.2 = .str it.2 t) ∧ SVs r r'
  | _, _ => False
noncomputable def tabGet (its : List (Str × Str)) (x : Str) : Option Str := (its.find? fun it => it.1 == x).map (·.2)
theorem valueAt_svs {x : Str} : ∀ {kvs : List (Str × Value)} {its : List (Str × Str)}, SVs kvs its → (∃ y t, tabGet its x = some y ∧ valueAt kvs x = some (.str y t)) ∨ (tabGet its x = none ∧ valueAt kvs x = none)
  | [], [], _ => .inr ⟨rfl, rfl⟩
  | kv :: r, it :: r', h => by
    obtain ⟨h1, ⟨t, h2⟩, h3⟩ := h
    unfold tabGet valueAt
    simp only [List.find?_cons, h1]
    by_cases hc : it.1 = x
    · simp only [hc, decide_true, beq_self_eq_true, Option.map_some]
      exact .inl ⟨it.2, t, rfl, by rw [h2]⟩
    · have e2 : (it.1 == x) = false := beq_eq_false_iff_ne.mpr hc
      simp only [decide_eq_false hc, e2]
      exact valueAt_svs h3
  | [], _ :: _, h => h.elim
  | _ :: _, [], h => h.elim
structure SDict (prog : Program) (w : World) (o : Obj) (d : Addr) (its : List (Str × Str)) : Prop where
  lo : (d == sysModules) = false
  ex : ∃ kvs, o.IsDictOf (strKind prog w) kvs ∧ SVs kvs its
section
variable {prog : Program} {w : World} {A : Around} {E : Value → Shared → Prop} {s : Shared} {d : Addr} {o : Obj} {its : List (Str × Str)}
theorem SDict.at (T : SDict prog w o d its) (h : s.heap.get? d = some o) : ∃ kvs, s.heap.DictOf (strKind prog w) d kvs ∧ SVs kvs its := by
  obtain ⟨kvs, a, b⟩ := T.ex
  exact ⟨kvs, Heap.dictOf_iff.mpr ⟨o, h, a⟩, b⟩
theorem getMethod_sdict {pl : Sem Bool} {Q : Value × List Value → Shared → Prop} (T : SDict prog w o d its) (ho : s.heap.get? d = some o) (h : Q (.builtin "dict.get", [.ref d]) s) :
    wpAny (model prog w) A (getMethod (.ref d) (Str.ofString "get") pl) Q E s := by
  obtain ⟨kvs, hd, _⟩ := T.at ho
  exact getMethod_builtin hd.typeIs PySem.F.plainAttrs_dict PySem.F.slot_dict_get PySem.F.type_dict_get hd.mapOf.noDict h
theorem call_sget {x y : Str} {t u : Tok} {Q : Value → Shared → Prop} (T : SDict prog w o d its) (ho : s.heap.get? d = some o) (h : ∀ v, Q (.str ((tabGet its x).getD y) v) { s with toks := s.toks + 1 }) :
    wpAny (model prog w) A (call (.builtin "dict.get") [.ref d, .str x t, .str y u]) Q E s := by
  obtain ⟨kvs, hd, sv⟩ := T.at ho
  refine call_meetsIn PySem.F.slot_dict_get hd.typeIs PySem.F.entry_dict_get (PySem.F.args_dict_get_3 _ _ _) (meets_dict_get_default (strKind prog w) d (strKind_is prog w x t) T.lo _) ⟨_, hd.mapOf, ?_⟩
  rcases valueAt_svs (x := x) sv with ⟨z, v, h1, h2⟩ | ⟨h1, h2⟩
  · rw [h2]; rw [h1] at h; exact h v
  · rw [h2]; rw [h1] at h; exact h u
theorem in_sdict {x : Str} {t : Tok} {Q : Value → Shared → Prop} (T : SDict prog w o d its) (ho : s.heap.get? d = some o) (h : Q (.bool (tabGet its x).isSome) { s with toks := s.toks + 1 }) :
    wpAny (model prog w) A (compareOp .In (.str x t) (.ref d)) Q E s := by
  obtain ⟨kvs, hd, sv⟩ := T.at ho
  refine wpAny_in_of (strKind_is prog w x t) T.lo hd.mapOf ?_
  rcases valueAt_svs (x := x) sv with ⟨z, v, h1, h2⟩ | ⟨h1, h2⟩
  · rw [h2]; rw [h1] at h; exact h
  · rw [h2]; rw [h1] at h; exact h
theorem item_sdict {value slice : Expr} {x y : Str} {t : Tok} {Q : Value → Shared → Prop} (T : SDict prog w o d its) (ho : s.heap.get? d = some o) (hl : tabGet its x = some y)
    (h : ∀ v, Q (.str y v) { s with toks := s.toks + 1 })
    (hs : subscripted slice false (.ref d) (.str x t) = operate [.ref d, .str x t] (getItem (.ref d) (.str x t)) := by with_unfolding_all rfl) (hg : ∀ r, letTemporaryGo value (.ref d) r = pure () := by intro _; with_unfolding_all rfl) :
    wpAny (model prog w) A (subscriptTail value slice (.ref d) (.str x t)) Q E s := by
  obtain ⟨kvs, hd, sv⟩ := T.at ho
  rcases valueAt_svs (x := x) sv with ⟨z, v, h1, h2⟩ | ⟨h1, h2⟩
  · rw [hl] at h1
    cases h1
    exact subscriptTail_builtin hd.typeIs slot_dict_getitem.lookup (wpAny_getItem_of (strKind_is prog w x t) hd.mapOf h2 (h v)) hs hg
  · rw [hl] at h1
    cases h1
end
end Mine
end

section
open PySem PySem.W PyProof.Rows PySem.Calls
set_option maxRecDepth 100000
set_option Elab.async false
set_option linter.unusedVariables false
namespace Mine
/-- a stop for the walk -/
structure Held (p : Prop) : Prop where
  get : p
theorem of_held {p : Prop} (h : Held p) : p := h.get
noncomputable def putS (its : List (Str × Str)) (x y : Str) : List (Str × Str) :=
  if its.any (fun it => it.1 = x) then its.map (fun it => if it.1 = x then (it.1, y) else it) else its ++ [(x, y)]
theorem SVs.any {x : Str} : ∀ {kvs : List (Str × Value)} {its : List (Str × Str)}, SVs kvs its → (kvs.any fun kv => decide (kv.1 = x)) = its.any fun it => decide (it.1 = x)
  | [], [], _ => rfl
  | kv :: r, it :: r', h => by rw [List.any_cons, List.any_cons, h.1, SVs.any h.2.2]
  | [], _ :: _, h => h.elim
  | _ :: _, [], h => h.elim
theorem SVs.map {x y : Str} {t : Tok} : ∀ {kvs : List (Str × Value)} {its : List (Str × Str)}, SVs kvs its → SVs (kvs.map fun kv => if kv.1 = x then (kv.1, .str y t) else kv) (its.map fun it => if it.1 = x then (it.1, y) else it)
  | [], [], _ => trivial
  | kv :: r, it :: r', h => by
    rw [List.map_cons, List.map_cons]
    refine ⟨?_, ?_, SVs.map h.2.2⟩
    · rw [h.1]
      by_cases e : it.1 = x
      · rw [if_pos e, if_pos e]
      · rw [if_neg e, if_neg e]; exact h.1
    · rw [h.1]
      by_cases e : it.1 = x
      · rw [if_pos e, if_pos e]; exact ⟨t, rfl⟩
      · rw [if_neg e, if_neg e]; exact h.2.1
  | [], _ :: _, h => h.elim
  | _ :: _, [], h => h.elim
theorem SVs.push {x y : Str} {t : Tok} : ∀ {kvs : List (Str × Value)} {its : List (Str × Str)}, SVs kvs its → SVs (kvs ++ [(x, .str y t)]) (its ++ [(x, y)])
  | [], [], _ => ⟨rfl, ⟨t, rfl⟩, trivial⟩
  | kv :: r, it :: r', h => ⟨h.1, h.2.1, SVs.push h.2.2⟩
  | [], _ :: _, h => h.elim
  | _ :: _, [], h => h.elim
theorem SVs.stored {x y : Str} {t : Tok} {kvs : List (Str × Value)} {its : List (Str × Str)} (h : SVs kvs its) : SVs (PySem.stored kvs x (.str y t)) (putS its x y) := by
  unfold PySem.stored putS
  rw [h.any]
  split
  · exact h.map
  · exact h.push
theorem SVs.len : ∀ {kvs : List (Str × Value)} {its : List (Str × Str)}, SVs kvs its → kvs.length = its.length
  | [], [], _ => rfl
  | kv :: r, it :: r', h => by rw [List.length_cons, List.length_cons, SVs.len h.2.2]
  | [], _ :: _, h => h.elim
  | _ :: _, [], h => h.elim
section
variable {prog : Program} {w : World} {A : Around} {E : Value → Shared → Prop} {s : Shared} {h₀ : Heap} {L d : Addr} {m : Str → Option Value} {rest : List (Addr × Obj)} {o : Obj} {its : List (Str × Str)}
theorem set_sdict {x y : Str} {t u : Tok} {Q : Unit → Shared → Prop} (F : Fr h₀ L s.heap m) (N : News h₀ L s.heap ((d, o) :: rest)) (hap : ∀ p ∈ rest, p.1 ≠ d) (T : SDict prog w o d its) (hz : its.length ≤ 1000)
    (h : ∀ h' o', Fr h₀ L h' m → News h₀ L h' ((d, o') :: rest) → SDict prog w o' d (putS its x y) → Q () { s with heap := h', toks := s.toks + 1 }) :
    wpAny (model prog w) A (setItem (.ref d) (.str x t) (.str y u)) Q E s := by
  obtain ⟨kvs, hd, sv⟩ := T.at (N.get (.head _))
  refine wpAny_setItem_pairs (hsz := by rw [sv.len, sizeLine_eq]; omega) (strKind_is prog w x t) hd fun h' hm hs => ?_
  obtain ⟨o', ho', hd'⟩ := Heap.dictOf_iff.mp hm
  exact h h' o' (F.change hs (N _ (.head _)).2.1 (N.fresh (.head _))) (N.setHead hap hs ho') ⟨T.lo, _, hd', sv.stored⟩
end
end Mine
end

section
open PySem PySem.W PyProof.Rows PySem.Calls
set_option maxRecDepth 100000
set_option Elab.async false
set_option linter.unusedVariables false
set_option maxHeartbeats 4000000
namespace Mine
local macro_rules | `(tactic| walk_at "leaving ref") => `(tactic| (k_here; first
  | (refine' leave_raiseS ?k1 ?k0 ?k2 ?k3 ?_; (case k0 => first | assumption | exact Heap.MadeExc.of (by assumption)); (case k2 => assumption); (case k1 => assumption); (case k3 => k_asm); k_whole; intro h' t' R' K' U'; clear K'; (try dsimp only at R' U' ⊢))
  | (refine' leave_onS ?k1 ?k2 ?k3 ?k4 ?_; (case k3 => assumption); (case k2 => assumption); (case k1 => assumption); (case k4 => assumption); k_whole; intro h' R' K' U'; clear K'; (try dsimp only at R' U' ⊢))))
local macro_rules | `(tactic| walk_at "getMethod ref") => `(tactic| (k_here; (with_reducible show wpAny _ _ (getMethod (Value.ref _) (Str.ofString "search") _) _ _ _); refine of_held ?_))
theorem patN {w : World} {h : Heap} (X : (heapK w.params).In h) : PatAt h 48 codeN := 
  ⟨_, _, _, _, X 48 (y48 w.params) (by kernel_rfl), X 47 ⟨.type "tuple", none, .seq (codeN.map fun (n : Nat) => Value.int (n : Int) 0) 0, #[]⟩ (by kernel_rfl)⟩
theorem patV {w : World} {h : Heap} (X : (heapK w.params).In h) : PatAt h 53 codeV := 
  ⟨_, _, _, _, X 53 (y53 w.params) (by kernel_rfl), X 52 ⟨.type "tuple", none, .seq (codeV.map fun (n : Nat) => Value.int (n : Int) 0) 0, #[]⟩ (by kernel_rfl)⟩
theorem conv_N {w : World} {mean : ExcName → Option Value} {mg mb : Str → Option Value}
    {dp un : Nat} {gd : Option (List Code)} {cn : Str} {cs : Scope} {a : Addr} {ccd : Value} {cl : List (Str × Addr)} {outer : List Env} {A₀ : Around} {base h₀ : Heap} {L : Addr} {m : Str → Option Value} {news : List (Addr × Obj)} {s : Shared} {Q E : Value → Shared → Prop}
    {x : Str} {t : Tok} {self : Addr}
    (B : Below A₀ base outer h₀) (F : Fr h₀ L s.heap m) (X : (heapK w.params).In h₀) (N : News h₀ L s.heap news) (T : Top vwT (looseW vwT looseT) mean mg mb h₀) (hk : cs.kind = .function)
    (hd : dp + 3 < recursionLimit) (hu : un + 12 < cLine) (hx : x.cps.size ≤ sizeLine)
    (hret : anyBad badN x.cps = false → ∀ h' tk', Fr h₀ L h' m → News h₀ L h' news → Q (.str x t) { s with heap := h', toks := tk' })
    (hexc : anyBad badN x.cps = true → ∀ e t vs g₂ h' tk', Fr h₀ L g₂ m → RaisedS base g₂ (envX cn cs L a ccd cl :: outer) e (.type "ValueError") t vs news h' → g₂.UpToSlots h' → E (.ref e) { s with heap := h', toks := tk' }) :
    wpAny (model Challenge.rw_un0048_01.row.prog w) (ktrTop dp un gd cn cs L a ccd cl outer) (call (.ref 83) [.ref self, .str x t] [(Str.ofString "name", .bool true)]) Q E s := by
  revert X; k_fill; intro X
  refine wpAny_call ?_
  k_dflt ktr_enter
  conv => arg 3; arg 1; whnf
  k_steps
  rename_i F' N'
  rename_i X' T' h'
  have X₂ := X'.keeps F'.keep
  refine ⟨?_⟩
  refine getMethod_search (patN X₂) ?_
  k_steps
  refine call_search finds_N hx (patN X₂) ?_ ?_
  · intro hb o₁ o₂ ho hf
    have F₂ := (F'.push o₁).push o₂
    have N₂ := News.past (News.past N' o₁) o₂
    have e2 : (h'.push o₁).objs.size = h'.objs.size + 1 := by simp [Heap.push]
    have g2 := Heap.get?_push_size (h'.push o₁) hf
    rw [e2] at g2
    clear F' N'
    refine truthy_match g2 ho ?_
    k_steps
    exact hexc hb _ _ _ _ _ _ (by assumption) (by assumption) (by assumption)
  · intro hb
    k_steps
    exact hret hb _ _ (by assumption) (by assumption)
theorem conv_V {w : World} {mean : ExcName → Option Value} {mg mb : Str → Option Value}
    {dp un : Nat} {gd : Option (List Code)} {cn : Str} {cs : Scope} {a : Addr} {ccd : Value} {cl : List (Str × Addr)} {outer : List Env} {A₀ : Around} {base h₀ : Heap} {L : Addr} {m : Str → Option Value} {news : List (Addr × Obj)} {s : Shared} {Q E : Value → Shared → Prop}
    {x : Str} {t : Tok} {self : Addr}
    (B : Below A₀ base outer h₀) (F : Fr h₀ L s.heap m) (X : (heapK w.params).In h₀) (N : News h₀ L s.heap news) (T : Top vwT (looseW vwT looseT) mean mg mb h₀) (hk : cs.kind = .function)
    (hd : dp + 3 < recursionLimit) (hu : un + 12 < cLine) (hx : x.cps.size ≤ sizeLine)
    (hret : anyBad badV x.cps = false → ∀ h' tk', Fr h₀ L h' m → News h₀ L h' news → Q (.str x t) { s with heap := h', toks := tk' })
    (hexc : anyBad badV x.cps = true → ∀ e t vs g₂ h' tk', Fr h₀ L g₂ m → RaisedS base g₂ (envX cn cs L a ccd cl :: outer) e (.type "ValueError") t vs news h' → g₂.UpToSlots h' → E (.ref e) { s with heap := h', toks := tk' }) :
    wpAny (model Challenge.rw_un0048_01.row.prog w) (ktrTop dp un gd cn cs L a ccd cl outer) (call (.ref 83) [.ref self, .str x t] [(Str.ofString "name",   .bool false)]) Q E s := by
  revert X; k_fill; intro X
  refine wpAny_call ?_
  k_dflt ktr_enter
  conv => arg 3; arg 1; whnf
  k_steps
  rename_i F' N'
  rename_i X' T' h'
  have X₂ := X'.keeps F'.keep
  refine ⟨?_⟩
  refine getMethod_search (patV X₂) ?_
  k_steps
  refine call_search finds_V hx (patV X₂) ?_ ?_
  · intro hb o₁ o₂ ho hf
    have F₂ := (F'.push o₁).push o₂
    have N₂ := News.past (News.past N' o₁) o₂
    have e2 : (h'.push o₁).objs.size = h'.objs.size + 1 := by simp [Heap.push]
    have g2 := Heap.get?_push_size (h'.push o₁) hf
    rw [e2] at g2
    clear F' N'
    refine truthy_match g2 ho ?_
    k_steps
    exact hexc hb _ _ _ _ _ _ (by assumption) (by assumption) (by assumption)
  · intro hb
    k_steps
    exact hret hb _ _ (by assumption) (by assumption)
end Mine
end

section
open PySem PySem.W PyProof.Rows PySem.Calls
set_option maxRecDepth 100000
set_option Elab.async false
set_option linter.unusedVariables false
namespace Mine
/-- a map with two names that the loop stores -/
noncomputable abbrev two (k v : Str) (f M : Str → Option Value) : Str → Option Value := fun y => if y = v then f v else if y = k then f k else M y
theorem two_self (k v : Str) (M : Str → Option Value) : M = two k v M M := by
  funext y; unfold two; split
  · rename_i h; rw [h]
  · split
    · rename_i h; rw [h]
    · rfl
theorem two_set (k v : Str) (f M : Str → Option Value) (a b : Option Value) (h : k ≠ v) : (fun y => if y = v then b else if y = k then a else two k v f M y) = two k v (fun y => if y = v then b else a) M := by
  funext y; unfold two; dsimp only
  by_cases h1 : y = v
  · rw [if_pos h1, if_pos h1, if_pos rfl]
  · by_cases h2 : y = k
    · rw [if_neg h1, if_pos h2, if_neg h1, if_pos h2, if_neg h]
    · rw [if_neg h1, if_neg h2, if_neg h1, if_neg h2, if_neg h1, if_neg h2]
theorem find_first {α : Type} {p : α → Bool} : ∀ {l : List α} {i : Nat} {x : α}, l[i]? = some x → p x = true → (∀ j y, j < i → l[j]? = some y → p y = false) → l.find? p = some x
  | a :: l, 0, x, h, hp, _ => by
    simp only [List.getElem?_cons_zero, Option.some.injEq] at h
    subst h
    rw [List.find?_cons, hp]
  | a :: l, i + 1, x, h, hp, hb => by
    have h0 := hb 0 a (Nat.succ_pos _) rfl
    rw [List.find?_cons, h0]
    exact find_first (l := l) (i := i) (by simpa using h) hp fun j y hj e => hb (j + 1) y (Nat.succ_lt_succ hj) (by simpa using e)
theorem find_none {α : Type} {p : α → Bool} {l : List α} (hb : ∀ j y, j < l.length → l[j]? = some y → p y = false) : l.find? p = none := by
  rw [List.find?_eq_none]
  intro x hx
  obtain ⟨i, hi, e⟩ := List.mem_iff_getElem.mp hx
  have := hb i x hi (by rw [List.getElem?_eq_getElem hi, e])
  simp [this]
theorem turn_lt {n i : Nat} (h : i < n) : n + 1 - (i + 1) < n + 1 - i := by rw [Nat.add_sub_add_right]; exact Nat.sub_lt_sub_right (Nat.le_of_lt h) (Nat.lt_succ_self n)
theorem turn_end {n i : Nat} (h : i ≤ n) (h2 : ¬ i < n) : i = n := Nat.le_antisymm h (Nat.not_lt.mp h2)
section
variable {prog : Program} {w : World} {A : Around} {E : Value → Shared → Prop} {s : Shared} {env : Env} {h₀ : Heap} {Q : Flow → Shared → Prop} {target iter : Expr} {body : List Stmt} {pos : Pos}
/-- what a turn leaves -/
noncomputable def TurnM (h₀ : Heap) (L : Addr) (wr : List Addr) (own : List (Addr × Obj)) (J : (Str → Option Value) → List (Addr × Obj) → Prop) (s₂ : Shared) (Q : Flow → Shared → Prop) (f : Flow) (s' : Shared) : Prop :=
  match f with
  | .ret v => Q (.ret v) s'
  | .brk => Q .next s'
  | _ => ∃ h' tk m' news', s' = { s₂ with heap := h', toks := tk } ∧ Fr h₀ L h' m' ∧ News h₀ L h' (own ++ news') ∧ (∀ p ∈ news', p.1 ∉ wr) ∧ J m' news'
/-- a loop with an invariant of the names and the ledger; a turn may return -/
noncomputable def LoopM (prog : Program) (w : World) (A : Around) (h₀ : Heap) (env : Env) (target : Expr) (body : List Stmt) (Q : Flow → Shared → Prop) (E : Value → Shared → Prop) (it : Value) (s₂ : Shared) : Prop :=
  ∃ (I : Addr) (fp wr : List Addr) (n : Nat) (P : Nat → Value → Prop) (St : Nat → Heap → Prop) (m : Str → Option Value) (news : List (Addr × Obj)) (J : Nat → (Str → Option Value) → List (Addr × Obj) → Prop),
    it = .ref I ∧ Walks prog w A I fp wr n P St ∧ env.locals ∉ fp ∧ (∀ b ∈ wr, h₀.get? b = none) ∧ (∀ p ∈ news, p.1 ∉ wr) ∧ St 0 s₂.heap ∧ Fr h₀ env.locals s₂.heap m ∧ News h₀ env.locals s₂.heap news ∧
    (∀ i (s' : Shared) v (Q' : Unit → Shared → Prop), St i s'.heap → Q' () s' → wpAny (model prog w) A (letOwnedTupleGo target (.ref I) v) Q' E s') ∧ J 0 m news ∧
    (∀ i v m₁ news₁ h tk own, i < n → P i v → St (i + 1) h → (∀ b ∈ fp, h₀.get? b = none → ∀ o, h.get? b = some o → (b, o) ∈ own) → J i m₁ news₁ → (∀ p ∈ news₁, p.1 ∉ wr) → (∀ p ∈ own, p.1 ∈ fp) →
      Fr h₀ env.locals h m₁ → News h₀ env.locals h (own ++ news₁) →
      wpAny (model prog w) A (assign target env v) (fun _ s₃ => wpAny (model prog w) A (execs body env) (TurnM h₀ env.locals wr own (J (i + 1)) s₂ Q) E s₃) E { s₂ with heap := h, toks := tk }) ∧
    ∀ h' tk m' news', Fr h₀ env.locals h' m' → News h₀ env.locals h' news' → (∀ p ∈ news', p.1 ∉ wr) → J n m' news' → Q .next { s₂ with heap := h', toks := tk }

theorem for_any (h : wpAny (model prog w) A (eval iter env) (fun xv s₁ => wpAny (model prog w) A (pyIter xv) (fun it s₂ => LoopM prog w A h₀ env target body Q E it s₂) E s₁) E s)
    (hs : ∀ x, foldedSetIterable iter env x = pure x)
    (hE : PassesOwn (model prog w) A env E := by passes_own) :
    wpAny (model prog w) A (exec (.For target iter body [] pos) env) Q E s := by
  refine wpAny_For (wpAny_mono h (fun xv s₁ h₁ => wpAny_mono h₁ (fun it s₂ h₂ => ?_) fun _ _ e => e) fun _ _ e => e) hs
  obtain ⟨I, fp, wr, n, P, St, m, news, J, rfl, W, hLf, hwr, hnw, hst, F, N, hgo, h0, step, hR⟩ := h₂
  have hLw : env.locals ∉ wr := fun h => hLf (W.sub _ h)
  have old : ∀ b o, h₀.get? b = some o → b ∉ wr := fun b o e hb => by rw [hwr b hb] at e; cases e
  refine codeAny_forLoop_any
    (fun k s' => ∃ h' tk m' news' i, s' = { s₂ with heap := h', toks := tk } ∧ St i h' ∧ Fr h₀ env.locals h' m' ∧ News h₀ env.locals h' news' ∧ (∀ p ∈ news', p.1 ∉ wr) ∧ J i m' news' ∧ i ≤ n ∧ k = n + 1 - i) ?_ (n + 1)
    ⟨s₂.heap, s₂.toks, m, news, 0, rfl, hst, F, N, hnw, h0, Nat.zero_le _, rfl⟩
  rintro k s' ⟨h', tk, m', news', i, rfl, hst', F', N', hnw', hJ, hi, rfl⟩
  have kept : ∀ h₁ : Heap, (∀ b o, b ∉ wr → h'.get? b = some o → h₁.get? b = some o) → Fr h₀ env.locals h₁ m' ∧ News h₀ env.locals h₁ news' := fun h₁ hk₁ =>
    ⟨⟨F'.ns.at' fun o e => hk₁ _ o hLw e, fun b o e => hk₁ b o (old b o e) (F'.keep b o e), F'.above⟩, fun p hp => ⟨hk₁ _ _ (hnw' p hp) (N' p hp).1, (N' p hp).2⟩⟩
  by_cases hlt : i < n
  · refine W.item i _ _ _ hlt hst' fun v h₁ tk₁ hP hst₁ hk₁ => ?_
    obtain ⟨F₁, N₁⟩ := kept h₁ hk₁
    have Nown : News h₀ env.locals h₁ (ownOf h₀ fp h₁) := news_ownOf hLf
    have Nall : News h₀ env.locals h₁ (ownOf h₀ fp h₁ ++ news') := fun p hp => (List.mem_append.mp hp).elim (Nown p) (N₁ p)
    refine wpAny_passesOwn hE (hgo (i + 1) _ v _ hst₁ ?_)
    refine wpAny_passesOwn hE (wpAny_mono (step i v m' news' h₁ tk₁ (ownOf h₀ fp h₁) hlt hP hst₁ (fun b hb hn o e => mem_ownOf hb hn e) hJ hnw' ownOf_sub F₁ Nall) (fun _ s₃ h₃ => wpAny_passesOwn hE (wpAny_mono h₃ (fun f s₄ h₄ => ?_) fun _ _ e => e)) fun _ _ e => e)
    have go : (∃ h' tk m₃ news₃, s₄ = { s₂ with heap := h', toks := tk } ∧ Fr h₀ env.locals h' m₃ ∧ News h₀ env.locals h' (ownOf h₀ fp h₁ ++ news₃) ∧ (∀ p ∈ news₃, p.1 ∉ wr) ∧ J (i + 1) m₃ news₃) →
        ∃ m, m < n + 1 - i ∧ (∃ h' tk m' news' i, s₄ = { s₂ with heap := h', toks := tk } ∧ St i h' ∧ Fr h₀ env.locals h' m' ∧ News h₀ env.locals h' news' ∧ (∀ p ∈ news', p.1 ∉ wr) ∧ J i m' news' ∧ i ≤ n ∧ m = n + 1 - i) := by
      rintro ⟨h₃', tk₃, m₂, news₂, rfl, F₃, N₃, ha₃, hJ₃⟩
      refine ⟨n + 1 - (i + 1), turn_lt hlt, h₃', tk₃, m₂, news₂, i + 1, rfl, ?_, F₃, fun p hp => N₃ p (List.mem_append_right _ hp), ha₃, hJ₃, hlt, rfl⟩
      refine W.frame _ _ _ hst₁ fun b hb o e => ?_
      cases hn : h₀.get? b with
      | some o₀ =>
        have e2 := Option.some.inj ((F₁.keep b o₀ hn).symm.trans e)
        rw [← e2]
        exact F₃.keep b o₀ hn
      | none => exact (N₃ _ (List.mem_append_left _ (mem_ownOf hb hn e))).1
    cases f with
    | next => exact go h₄
    | cont => exact go h₄
    | brk => exact h₄
    | ret v => exact h₄
  · have hin : i = n := turn_end hi hlt
    subst hin
    refine W.done _ _ _ hst' fun h₁ tk₁ hk₁ => wpAny_execs_nil ?_
    obtain ⟨F₁, N₁⟩ := kept h₁ hk₁
    exact hR h₁ tk₁ m' news' F₁ N₁ hnw' hJ
theorem goM_listiter {I l : Addr} {i : Nat} {v : Value} {Q' : Unit → Shared → Prop} (hit : s.heap.IsListIter I l i) (hQ : Q' () s) : wpAny (model prog w) A (letOwnedTupleGo target (.ref I) v) Q' E s := by
  unfold letOwnedTupleGo
  obtain ⟨o, ho, hc, hd⟩ := hit
  have key : wpAny (model prog w) A (do
      let (.ref r, .ref a) := ((Value.ref I, v) : Value × Value) | return
      let o ← load r
      match o.cls, o.data with
      | .type n, .fields vs =>
        if ["enumerate", "zip", "dict_itemiterator", "dict_reverseitemiterator", "odict_iterator", "itertools.zip_longest", "itertools.pairwise"].contains n && vs[0]? == some (rawInt a) then
          rule "for.unpacks-the-owned-tuple"
          updateField r 0 .none
      | _, _ => pure ()) Q' E s := by
    cases v with
    | ref a =>
      refine wpAny_bind (wpAny_load ho ?_)
      rw [hc, hd]
      exact wpAny_pure hQ
    | _ => exact wpAny_pure hQ
  cases target with
  | Tuple a b c => exact key
  | List a b => exact key
  | _ => exact wpAny_pure hQ

theorem iterM_list {l : Addr} {vs : Array Value} {m₀ : Str → Option Value} {news : List (Addr × Obj)} (J : Nat → (Str → Option Value) → List (Addr × Obj) → Prop)
    (hh : A.handled = none) (hl : s.heap.IsList l vs) (hlL : l ≠ env.locals) (F : Fr h₀ env.locals s.heap m₀) (N : News h₀ env.locals s.heap news) (hj : J 0 m₀ news)
    (turn : ∀ i v m₁ news₁ h tk own, vs[i]? = some v → J i m₁ news₁ → (∀ p ∈ news₁, p.1 ≠ s.heap.objs.size) → (∀ p ∈ own, p.1 = s.heap.objs.size ∨ p.1 = l) → Fr h₀ env.locals h m₁ → News h₀ env.locals h (own ++ news₁) →
      wpAny (model prog w) A (assign target env v) (fun _ s₃ => wpAny (model prog w) A (execs body env) (TurnM h₀ env.locals [s.heap.objs.size] own (J (i + 1)) s Q) E s₃) E { s with heap := h, toks := tk })
    (done : ∀ h' tk m' news', Fr h₀ env.locals h' m' → News h₀ env.locals h' news' → (∀ p ∈ news', p.1 ≠ s.heap.objs.size) → J vs.size m' news' → Q .next { s with heap := h', toks := tk }) :
    wpAny (model prog w) A (pyIter (.ref l)) (fun it s₂ => LoopM prog w A h₀ env target body Q E it s₂) E s := by
  obtain ⟨ol, hol, hol'⟩ := id hl
  have hlt : l < s.heap.objs.size := Heap.lt_size hol
  have hne : l ≠ s.heap.objs.size := Nat.ne_of_lt hlt
  refine wpAny_pyIter_list hl ?_
  have W := Walks.list (prog := prog) (w := w) hh s.heap.objs.size l hne vs
  refine ⟨_, _, _, vs.size, _, _, m₀, news, J, rfl, W, ?_, ?_, ?_, ⟨⟨_, Heap.get?_push_size _ rfl, rfl, rfl⟩, hl.at fun o e => Heap.get?_push_of_some _ e⟩, F.push _, (fun p hp => ⟨Heap.get?_push_of_some _ (N p hp).1, (N p hp).2⟩), ?_, hj, ?_, ?_⟩
  · intro hm
    rcases List.mem_cons.mp hm with e | hm
    · exact absurd F.ns.lt (e ▸ Nat.lt_irrefl _)
    · exact hlL (List.mem_singleton.mp hm).symm
  · intro b hb
    rw [List.mem_singleton.mp hb]
    cases hq : h₀.get? s.heap.objs.size with
    | none => rfl
    | some o => exact absurd (Heap.lt_size hq) (Nat.not_lt_of_le (Nat.le_of_lt (Nat.lt_of_le_of_lt F.above F.ns.lt)))
  · intro p hp hI
    exact absurd (Heap.lt_size (N p hp).1) ((List.mem_singleton.mp hI) ▸ Nat.lt_irrefl _)
  · intro i s' v Q' hst hq
    exact goM_listiter hst.1 hq
  · intro i v m₁ news₁ h tk own hi hP _ _ hJ hoff hsub F₁ N₁
    exact turn i v m₁ news₁ h tk own hP hJ (fun p hp e => hoff p hp (by rw [e]; exact List.mem_singleton_self _)) (fun p hp => by simpa using hsub p hp) F₁ N₁
  · intro h' tk m' news' F₁ N₁ hoff hJ
    exact done h' tk m' news' F₁ N₁ (fun p hp e => hoff p hp (by rw [e]; exact List.mem_singleton_self _)) hJ
theorem for_anyF {m : Str → Option Value} (F : Fr h₀ env.locals s.heap m) (h : wpAny (model prog w) A (eval iter env) (fun xv s₁ => wpAny (model prog w) A (pyIter xv) (fun it s₂ => LoopM prog w A h₀ env target body Q E it s₂) E s₁) E s)
    (hs : ∀ x, foldedSetIterable iter env x = pure x)
    (hE : PassesOwn (model prog w) A env E := by passes_own) :
    wpAny (model prog w) A (exec (.For target iter body [] pos) env) Q E s := for_any h hs hE
theorem iterM_str {y : Str} {yp : Pos} {x : Str} {t : Tok} {m₀ : Str → Option Value} {news : List (Addr × Obj)} (J : Nat → (Str → Option Value) → List (Addr × Obj) → Prop)
    (hh : A.handled = none) (F : Fr h₀ env.locals s.heap m₀) (N : News h₀ env.locals s.heap news) (hj : J 0 m₀ news)
    (turn : ∀ i c u m₁ news₁ h tk own, x.cps[i]? = some c → J i m₁ news₁ → (∀ p ∈ news₁, p.1 ≠ s.heap.objs.size) → (∀ p ∈ own, p.1 = s.heap.objs.size) → (∃ o, (s.heap.objs.size, o) ∈ own) → Fr h₀ env.locals h m₁ → News h₀ env.locals h (own ++ news₁) →
      wpAny (model prog w) A (assign (.Name y yp) env (.str ⟨#[c]⟩ u)) (fun _ s₃ => wpAny (model prog w) A (execs body env) (TurnM h₀ env.locals [s.heap.objs.size] own (J (i + 1)) s Q) E s₃) E { s with heap := h, toks := tk })
    (done : ∀ h' tk m' news', Fr h₀ env.locals h' m' → News h₀ env.locals h' news' → (∀ p ∈ news', p.1 ≠ s.heap.objs.size) → J x.cps.size m' news' → Q .next { s with heap := h', toks := tk }) :
    wpAny (model prog w) A (pyIter (.str x t)) (fun it s₂ => LoopM prog w A h₀ env (.Name y yp) body Q E it s₂) E s := by
  have key : ∀ (o : Obj) (T : String), (s.heap.push o).IsStrIter s.heap.objs.size T x t 0 → Walks prog w A s.heap.objs.size [s.heap.objs.size] [s.heap.objs.size] x.cps.size (SignAt x) (fun i h => h.IsStrIter s.heap.objs.size T x t i) →
      LoopM prog w A h₀ env (.Name y yp) body Q E (.ref s.heap.objs.size) { s with heap := s.heap.push o } := by
    intro o T hst W
    have hfree : h₀.get? s.heap.objs.size = none := by
      cases hq : h₀.get? s.heap.objs.size with
      | none => rfl
      | some o => exact absurd (Heap.lt_size hq) (Nat.not_lt_of_le (Nat.le_of_lt (Nat.lt_of_le_of_lt F.above F.ns.lt)))
    refine ⟨_, _, _, x.cps.size, _, _, m₀, news, J, rfl, W, ?_, ?_, ?_, hst, F.push _, (fun p hp => ⟨Heap.get?_push_of_some _ (N p hp).1, (N p hp).2⟩), ?_, hj, ?_, ?_⟩
    · intro hm
      exact absurd F.ns.lt ((List.mem_singleton.mp hm) ▸ Nat.lt_irrefl _)
    · intro b hb
      rw [List.mem_singleton.mp hb]
      exact hfree
    · intro p hp hI
      exact absurd (Heap.lt_size (N p hp).1) ((List.mem_singleton.mp hI) ▸ Nat.lt_irrefl _)
    · intro i s' v Q' _ hq
      exact wpAny_pure hq
    · rintro i v m₁ news₁ h tk own hi ⟨c, u, hc, rfl⟩ hst₁ hall hJ hoff hsub F₁ N₁
      obtain ⟨ob, hob, _⟩ := id hst₁
      exact turn i c u m₁ news₁ h tk own hc hJ (fun p hp e => hoff p hp (by rw [e]; exact List.mem_singleton_self _)) (fun p hp => by simpa using hsub p hp) ⟨ob, hall _ (List.mem_singleton_self _) hfree _ hob⟩ F₁ N₁
    · intro h' tk m' news' F₁ N₁ hoff hJ
      exact done h' tk m' news' F₁ N₁ (fun p hp e => hoff p hp (by rw [e]; exact List.mem_singleton_self _)) hJ
  cases ha : x.cps.all (· < 128)
  · exact wpAny_pyIter_wide ha (key _ _ ⟨_, Heap.get?_push_size _ rfl, rfl, rfl⟩ (Walks.strWide hh _ x t))
  · exact wpAny_pyIter_ascii ha (key _ _ ⟨_, Heap.get?_push_size _ rfl, rfl, rfl⟩ (Walks.strAscii hh _ x t))
theorem iterM_enum {xi xc : Str} {l : Addr} {vs : Array Value} {m₀ : Str → Option Value} {news : List (Addr × Obj)} (J : Nat → (Str → Option Value) → List (Addr × Obj) → Prop)
    (hh : A.handled = none) (hl : s.heap.IsList l vs) (hlL : l ≠ env.locals) (F : Fr h₀ env.locals s.heap m₀) (N : News h₀ env.locals s.heap news) (hj : J 0 m₀ news)
    (turn : ∀ i t v m₁ news₁ h tk own, vs[i]? = some v → J i m₁ news₁ → news₁.map (·.1) = news.map (·.1) → (∀ p ∈ own, p.1 = l ∨ s.heap.objs.size ≤ p.1) →
      Fr h₀ env.locals h (fun y => if y = xc then some v else if y = xi then some (.int i t) else m₁ y) → News h₀ env.locals h (own ++ news₁) →
      wpAny (model prog w) A (execs body env) (LoopStep3 h₀ env.locals own news₁ (J (i + 1)) { s with heap := h, toks := tk } (fun v s' => Q (.ret v) s') fun s' => Q .next s') E { s with heap := h, toks := tk })
    (done : ∀ h' tk m' news', Fr h₀ env.locals h' m' → News h₀ env.locals h' news' → news'.map (·.1) = news.map (·.1) → J vs.size m' news' → Q .next { s with heap := h', toks := tk }) :
    wpAny (model prog w) A (call (.type "enumerate") [.ref l]) (fun xv s₁ => wpAny (model prog w) A (pyIter xv) (fun it s₂ => PairAt3 prog w A h₀ env xi xc body Q E it s₂) E s₁) E s := by
  obtain ⟨ol, hol, hol'⟩ := id hl
  have hlt : l < s.heap.objs.size := Heap.lt_size hol
  have hLs : env.locals < s.heap.objs.size := F.ns.lt
  have hab : h₀.objs.size ≤ env.locals := F.above
  refine call_enumerate_list hl fun h' he hit hsz hk => ?_
  have F' : Fr h₀ env.locals h' m₀ := ⟨F.ns.keeps hk, fun b o e => hk b o (F.keep b o e), F.above⟩
  have N' : News h₀ env.locals h' news := fun p hp => ⟨hk _ _ (N p hp).1, (N p hp).2⟩
  refine wpAny_pyIter_enum he ?_
  have W := WalksT.enumerate (prog := prog) (w := w) hh (s.heap.objs.size + 1) s.heap.objs.size l (Nat.succ_ne_self _) (Nat.ne_of_lt (Nat.lt_succ_of_lt hlt)) (Nat.ne_of_lt hlt) vs
  refine ⟨_, _, _, vs.size, _, _, _, fun i v0 v1 => vs[i]? = some v1 ∧ ∃ t, v0 = .int i t, m₀, news, J, rfl, W, ?_, ?_, ?_, ?_, ⟨⟨_, he⟩, hit, hl.at fun o e => hk l o e⟩, F', N', hj, ?_, ?_⟩
  · rintro i vals ⟨t, x, hx, rfl⟩
    exact ⟨_, _, rfl, hx, t, rfl⟩
  · intro hm
    rcases List.mem_cons.mp hm with e | hm
    · exact Nat.ne_of_lt (Nat.lt_succ_of_lt hLs) e
    · rcases List.mem_cons.mp hm with e | hm
      · exact Nat.ne_of_lt hLs e
      · exact hlL (List.mem_singleton.mp hm).symm
  · intro b hb
    rcases List.mem_cons.mp hb with rfl | hb
    · exact Heap.get?_none_of_le (Nat.le_trans hab (Nat.le_of_lt (Nat.lt_succ_of_lt hLs)))
    · rw [List.mem_singleton.mp hb]; exact Heap.get?_none_of_le (Nat.le_trans hab (Nat.le_of_lt hLs))
  · intro p hp hI
    have h1 := Heap.lt_size (N p hp).1
    rcases List.mem_cons.mp hI with e | hb
    · rw [e] at h1; exact absurd h1 (Nat.not_lt_of_le (Nat.le_succ _))
    · rw [List.mem_singleton.mp hb] at h1; exact absurd h1 (Nat.lt_irrefl _)
  · rintro i v0 v1 m₁ news₁ s₁ own ⟨h, tk, rfl⟩ hi ⟨hx, t, rfl⟩ hJ hmap hsub F₁ N₁
    refine turn i t v1 m₁ news₁ h tk own hx hJ hmap (fun p hp => ?_) F₁ N₁
    rcases List.mem_cons.mp (hsub p hp) with e | hb
    · exact .inr (by rw [e]; exact Nat.le_succ _)
    · rcases List.mem_cons.mp hb with e | hb
      · exact .inr (by rw [e]; exact Nat.le_refl _)
      · exact .inl (List.mem_singleton.mp hb)
  · exact done
end
end Mine
end

section
open PySem PySem.W PyProof.Rows PySem.Calls
set_option maxRecDepth 100000
set_option Elab.async false
set_option linter.unusedVariables false
set_option maxHeartbeats 4000000
namespace Mine
local macro_rules | `(tactic| walk_at "leaving ref") => `(tactic| (k_here; first
  | (refine' leave_raiseS ?k1 ?k0 ?k2 ?k3 ?_; (case k0 => first | assumption | exact Heap.MadeExc.of (by assumption)); (case k2 => assumption); (case k1 => assumption); (case k3 => k_asm); k_whole; intro h' t' R' K' U'; clear K'; (try dsimp only at R' U' ⊢))
  | (refine' leave_onS ?k1 ?k2 ?k3 ?k4 ?_; (case k3 => assumption); (case k2 => assumption); (case k1 => assumption); (case k4 => assumption); k_whole; intro h' R' K' U'; clear K'; (try dsimp only at R' U' ⊢))))
/-- what get tells of a table -/
noncomputable def Told (its : List (Addr × Str × Str)) (x : Str) (dflt r : Value) : Prop :=
  match its.find? (fun it => Txt.lower it.2.1 == Txt.lower x) with | some it => ∃ tv, r = .str it.2.2 tv | none => r = dflt
theorem get_tab {w : World} {mean : ExcName → Option Value} {mg mb : Str → Option Value}
    {dp un : Nat} {gd : Option (List Code)} {cn : Str} {cs : Scope} {a : Addr} {ccd : Value} {cl : List (Str × Addr)} {outer : List Env} {A₀ : Around} {base h₀ : Heap} {L : Addr} {m : Str → Option Value} {news : List (Addr × Obj)} {s : Shared} {Q E : Value → Shared → Prop}
    {x : Str} {t : Tok} {tb l dx : Addr} {k n : Nat} {u : Tok} {its : List (Addr × Str × Str)} {dflt : Value}
    (B : Below A₀ base outer h₀) (F : Fr h₀ L s.heap m) (X : (heapK w.params).In h₀) (N : News h₀ L s.heap news) (T : Top vwT (looseW vwT looseT) mean mg mb h₀) (hk : cs.kind = .function)
    (hd : dp + 10 < recursionLimit) (hu : un + 50 < cLine) (hx : x.length ≤ 1000)
    (ht : (tb, instObj 184 dx) ∈ news) (hdx : (dx, dictOf [⟨PyData.keyHash w.params (Str.ofString "_headers"), .str (Str.ofString "_headers") u, .ref l⟩] k) ∈ news)
    (hl : (l, listOf (its.map fun it => Value.ref it.1).toArray n) ∈ news)
    (hlen : ∀ it ∈ its, it.2.1.length ≤ 1000)
    (hp : ∀ it ∈ its, ∃ tk tv, (it.1, ({ cls := .type "tuple", data := .seq #[.str it.2.1 tk, .str it.2.2 tv] } : Obj)) ∈ news)
    (hret : anyBad badN (Txt.lower x).cps = false → ∀ r h' tk', Told its x dflt r → Fr h₀ L h' m → News h₀ L h' news → Q r { s with heap := h', toks := tk' })
    (hexc : anyBad badN (Txt.lower x).cps = true → ∀ e t vs g₂ h' tk', Fr h₀ L g₂ m → RaisedS base g₂ (envX cn cs L a ccd cl :: outer) e (.type "ValueError") t vs news h' → g₂.UpToSlots h' → E (.ref e) { s with heap := h', toks := tk' }) :
    wpAny (model Challenge.rw_un0048_01.row.prog w) (ktrTop dp un gd cn cs L a ccd cl outer) (call (.ref 131) [.ref tb, .str x t, dflt]) Q E s := by
  revert X; k_fill; intro X
  refine wpAny_call ?_
  k_dflt (refine' code_def ?k1 ?k2 ?k3 ?k4 ?k5 ?kA ?kF ?kK ?k6 ?k7 ?k8 ?k9 ?kB ?_ ?c2 ?c3 ?c4 ?c5; (case kA => exact rfl); (case kF => exact rfl); (case kK => assumption); (case k1 => k_asm); (case k2 => k_asm); (case k3 => k_asm); (case k4 => k_asm); (case k5 => k_asm); (case k6 => k_is); (case k7 => k_is); (case k8 => first | exact fits0 hd | ktr_room); (case k9 => first | exact BindsTo.of_eq rfl | exact binds_K (by k_in) rfl (by k_is) rfl rfl rfl); (case c5 => decide); (case kB => exact locs rfl); (case c2 => exact rfl); (case c3 => exact rfl); (case c4 => exact rfl); k_whole; intro g' L' h' FG' F' N' B' X' T'; (try dsimp only); (try k_fold))
  conv => arg 3; arg 1; whnf
  k_steps
  have hlx := len_lower x
  refine conv_N B' F' X' N' T' rfl ?_ ?_ ?_ ?_ ?_
  · first | exact fits_in hd (by decide) | ktr_room
  · first | exact fits3 hu (by decide) | ktr_units
  · rw [sizeLine_eq]; show (Txt.lower x).length ≤ _; omega
  · intro hb h' tk' F' N'
    k_steps
    refine for_any (h₀ := g') ?_ (by intro _; rfl)
    k_steps
    rename_i h₃ F₃ N₃
    refine iterM_list (vs := (its.map fun it => Value.ref it.1).toArray) (m₀ := _) (news := news)
      (fun i m₁ news₁ => (∃ f, m₁ = two (Str.ofString "k") (Str.ofString "v") f _) ∧ news₁ = news ∧ ∀ j it, j < i → its[j]? = some it → (Txt.lower it.2.1 == Txt.lower x) = false)
      rfl ⟨listOf (its.map fun it => Value.ref it.1).toArray n, (N₃ _ hl).1, rfl, n, rfl⟩ (N₃ _ hl).2.1 F₃ N₃ ⟨⟨_, two_self _ _ _⟩, rfl, fun j it hj => absurd hj (Nat.not_lt_zero _)⟩ ?turn ?done
    case turn =>
      rintro i v m₁ news₁ h₄ tk₄ own hv ⟨⟨f, rfl⟩, rfl, hbefore⟩ hoff hsub F₄ N₄
      have hv2 : ∃ it, its[i]? = some it ∧ v = .ref it.1 := by
        simp only [List.getElem?_toArray, List.getElem?_map, Option.map_eq_some_iff] at hv
        obtain ⟨it, h1, h2⟩ := hv
        exact ⟨it, h1, h2.symm⟩
      obtain ⟨it, hit, rfl⟩ := hv2
      obtain ⟨tk₅, tv₅, hq⟩ := hp it (List.mem_of_getElem? hit)
      have hl5 := hlen it (List.mem_of_getElem? hit)
      have hq₂ := List.mem_append_right own hq
      clear F₃ N₃
      k_steps
      · rename_i heq tk₆
        dsimp only
        unfold TurnM
        dsimp only
        k_steps
        refine hret hb _ _ _ ?_ (by assumption) (News.right (by assumption))
        unfold Told
        rw [find_first hit (by assumption) hbefore]
        exact ⟨_, rfl⟩
      · rename_i hne tk₆
        refine ⟨_, _, _, _, rfl, by assumption, by assumption, (fun p hp => by simpa using hoff p hp), ⟨_, two_set _ _ _ _ _ _ (by decide)⟩, rfl, ?_⟩
        intro j it' hj hj2
        rcases Nat.lt_or_ge j i with h1 | h1
        · exact hbefore j it' h1 hj2
        · have : j = i := by omega
          subst this
          rw [hit] at hj2
          cases hj2
          assumption
    case done =>
      rintro h₄ tk₄ m₁ news₁ F₄ N₄ hoff ⟨⟨f, rfl⟩, rfl, hbefore⟩
      clear F₃ N₃
      k_steps
      refine hret hb _ _ _ ?_ (by assumption) (by assumption)
      unfold Told
      rw [find_none fun j y hj e => hbefore j y (by simpa using hj) e]
  · intro hb e t vs g₂ h' tk' F₂ R' U'
    k_steps
    exact hexc hb _ _ _ _ _ _ (by assumption) (by assumption) (by assumption)
end Mine
end

section
open PySem PySem.W PyProof.Rows PySem.Calls
set_option maxRecDepth 100000
set_option Elab.async false
set_option linter.unusedVariables false
namespace Mine
open Builtin.Str
theorem occ_one_empty {x y : Str} (h : (occurrences x y 0 x.length 1).isEmpty = true) : (occurrences x y 0 x.length (x.length + 1)).isEmpty = true := by
  rcases StrLaws.occ_head x y 1 (Nat.le_refl _) with ⟨_, hn⟩ | ⟨i, r, e, _⟩
  · rcases StrLaws.occ_head x y (x.length + 1) (by omega) with ⟨e, _⟩ | ⟨i, r, _, ha, _⟩
    · rw [e]; rfl
    · exact absurd ha (hn i)
  · rw [e] at h; cases h
theorem replace_none {x y z : Str} (h : (occurrences x y 0 x.length 1).isEmpty = true) : Txt.replace x y z = x := by
  unfold Txt.replace
  rw [occ_one_empty h]
  rfl
section
variable {prog : Program} {w : World} {A : Around} {E : Value → Shared → Prop} {s : Shared} {name : Str} {scope : Scope} {L a : Addr} {cd : Value} {h₀ : Heap} {m : Str → Option Value} {news : List (Addr × Obj)} {x y z : Str} {t u v : Tok}
theorem replace_pos {Q : Value → Shared → Prop} (hp : 0 < s.toks) (hu : u ≠ 0) (hv : v ≠ 0) (huv : u ≠ v) (hyz : (y == z) = false) (hx : x.length ≤ 1048576) (hz : z.length ≤ 14)
    (hq : ∀ t' k, 0 < k → Q (.str (Txt.replace x y z) t') { s with toks := k }) : wpAny (model prog w) A (call (.builtin "str.replace") [.str x t, .str y u, .str z v]) Q E s := by
  have hb : x.length + (x.length + 1) * z.length ≤ 16777216 := by
    have h1 : (x.length + 1) * z.length ≤ (x.length + 1) * 14 := Nat.mul_le_mul_left _ hz
    omega
  have hl : tooLong (x.length + (occurrences x y 0 x.length (x.length + 1)).length * z.length) = false := by
    have h1 := StrLaws.occ_length_le x y 0 x.length (x.length + 1)
    have h2 : (occurrences x y 0 x.length (x.length + 1)).length * z.length ≤ (x.length + 1) * z.length := Nat.mul_le_mul_right _ h1
    unfold tooLong sizeLine
    exact decide_eq_false (by omega)
  refine call_gives F.slot_str_replace (typeIs_str _ _ _) F.entry_str_replace (F.args_str_replace_3 _ _ _)
    (gives_str_replace x y z t u v fun _ => ⟨by simp [hu, hv], by simp [huv], hyz, hl⟩) ?_
  unfold Txt.replace at hq
  cases hc : ((occurrences x y 0 x.length (x.length + 1)).isEmpty || (y.length == 0 && z.length == 0))
  · rw [hc] at hq
    simp only [Bool.false_eq_true, if_false] at hq ⊢
    exact ⟨fits_replaced y hb, hq _ _ (Nat.succ_pos _)⟩
  · rw [hc] at hq
    simp only [if_true] at hq ⊢
    exact hq t s.toks hp
theorem esc_if {c r : Str} {k1 k2 k3 : Nat} {p1 p2 p3 p4 p5 p6 p7 p8 p9 p10 p11 : Pos} {Q : Flow → Shared → Prop} (F : Fr h₀ L s.heap m) (N : News h₀ L s.heap news) (hm : m "text" = some (.str x t)) (hpos : 0 < s.toks) (hcr : (c == r) = false)
    (hx : x.length ≤ 1048576) (hr : r.length ≤ 14) (hk : scope.kind = .function) (hl : (envOf name scope L a cd).kindOf "text" = some .local)
    (hcall : ∃ pl, eval (.Call (.Attribute (.Name "text" p5) "replace" p6) [.Constant (.str c) k2 p7, .Constant (.str r) k3 p8] [] p9) (envOf name scope L a cd) = (do
      let ov ← eval (.Name "text" p5) (envOf name scope L a cd)
      standAt p6.atName
      let (f, first) ← holding [ov] (getMethod ov "replace" pl)
      callWith p9 f first (backTo p9 (starEach [.Constant (.str c) k2 p7, .Constant (.str r) k3 p8] (envOf name scope L a cd))) []))
    (hq : ∀ t' h' tk', 0 < tk' → Fr h₀ L h' (fun y => if y = "text" then some (.str (Txt.replace x c r) t') else m y) → News h₀ L h' news → Q .next { s with heap := h', toks := tk' }) :
    wpAny (model prog w) A (exec (.If (.Compare (.Constant (.str c) k1 p1) [.In] [.Name "text" p2] p3) [.Assign [.Name "text" p4] (.Call (.Attribute (.Name "text" p5) "replace" p6) [.Constant (.str c) k2 p7, .Constant (.str r) k3 p8] [] p9) p10] [] p11) (envOf name scope L a cd)) Q E s := by
  refine wpAny_If (wpAny_isTrue_Compare1 (Constant_str ?_))
  refine ld F hm ?_ hk hl
  refine in_str (wpAny_truthy_bool ?_)
  cases he : (occurrences x c 0 x.length 1).isEmpty with
  | true =>
    refine wpAny_execs_nil ?_
    have := hq t s.heap (s.toks + 1) (Nat.succ_pos _) (by
      rw [replace_none he]
      have e : (fun y => if y = ("text" : Str) then some (Value.str x t) else m y) = m := by
        funext y
        split
        · rename_i h; rw [h, hm]
        · rfl
      rw [e]; exact F) N
    exact this
  | false =>
    refine wpAny_execs_cons (wpAny_Assign_Name ?_)
    obtain ⟨pl, hcall⟩ := hcall
    refine MethodCall_ (pl := pl) ?_ hcall
    refine ld F hm ?_ hk hl
    refine GM.replace ?_
    refine callWith_method1 ?_
    refine spliced_cons (Constant_str (k := k2) (pos := p7) (spliced_cons (Constant_str (k := k3) (pos := p8) (spliced_nil ?_))))
    refine replace_pos (Nat.succ_pos _) (Nat.succ_ne_zero _) (Nat.succ_ne_zero _) (by show s.toks + 1 ≠ s.toks + 1 + 1; omega) hcr hx hr ?_
    intro t' k hk0
    refine stN F N (fun h' F' N' => ?_) hk hl
    refine wpAny_execs_nil ?_
    exact hq t' h' _ (Nat.succ_pos _) F' N'
end
end Mine
end

section
open PySem PySem.W PyProof.Rows PySem.Calls
set_option Elab.async false
set_option linter.unusedVariables false
namespace Mine
/-- one sign replaced -/
noncomputable def sub1 (c : Nat) (z l : List Nat) : List Nat := l.flatMap fun d => if d = c then z else [d]
theorem sub1_append (c : Nat) (z a b : List Nat) : sub1 c z (a ++ b) = sub1 c z a ++ sub1 c z b := List.flatMap_append ..
theorem sub1_free (c : Nat) (z : List Nat) : ∀ l : List Nat, c ∉ l → sub1 c z l = l
  | [], _ => rfl
  | k :: r, h => by
    have h1 : ¬ k = c := fun e => h (e ▸ List.mem_cons_self ..)
    have h2 : c ∉ r := fun m => h (List.mem_cons_of_mem _ m)
    show (if k = c then z else [k]) ++ sub1 c z r = k :: r
    rw [if_neg h1, sub1_free c z r h2]; rfl
theorem sub1_join (c : Nat) (z : Str) : ∀ parts : List Str, (∀ p ∈ parts, c ∉ p.cps.toList) → sub1 c z.cps.toList (Str.join ⟨#[c]⟩ parts).cps.toList = (Str.join z parts).cps.toList
  | [], _ => rfl
  | [p], h => sub1_free c _ _ (h p (List.mem_singleton.mpr rfl))
  | p :: q :: r, h => by
    have ih := sub1_join c z (q :: r) fun a ha => h a (List.mem_cons_of_mem _ ha)
    show sub1 c z.cps.toList (p ++ ⟨#[c]⟩ ++ Str.join ⟨#[c]⟩ (q :: r)).cps.toList = (p ++ z ++ Str.join z (q :: r)).cps.toList
    simp only [Str.cps_append, Array.toList_append]
    rw [sub1_append, sub1_append, ih, sub1_free c _ _ (h p (List.mem_cons_self ..))]
    show p.cps.toList ++ ((if c = c then z.cps.toList else [c]) ++ []) ++ _ = _
    rw [if_pos rfl, List.append_nil]
theorem replace_sub (x z : Str) (c : Nat) : (Txt.replace x ⟨#[c]⟩ z).cps.toList = sub1 c z.cps.toList x.cps.toList := by
  rw [StrLaws.replace_one, ← sub1_join c z _ (StrLaws.split_free x c), StrLaws.join_split]
/-- a text of a list of signs -/
noncomputable def txt (l : List Nat) : Str := ⟨l.toArray⟩
theorem txt_toList (x : Str) : txt x.cps.toList = x := rfl
theorem toList_txt (l : List Nat) : (txt l).cps.toList = l := rfl
theorem length_txt (l : List Nat) : (txt l).length = l.length := rfl
theorem replace_txt (l : List Nat) (z : Str) (c : Nat) : Txt.replace (txt l) ⟨#[c]⟩ z = txt (sub1 c z.cps.toList l) := by
  have := replace_sub (txt l) z c
  rw [toList_txt] at this
  rw [← this]; rfl

noncomputable def zAmp : List Nat := [38, 97, 109, 112, 59]
noncomputable def zLt : List Nat := [38, 108, 116, 59]
noncomputable def zQuot : List Nat := [38, 113, 117, 111, 116, 59]
noncomputable def zTab : List Nat := [38, 35, 120, 57, 59]
noncomputable def zLf : List Nat := [38, 35, 120, 65, 59]
noncomputable def zCr : List Nat := [38, 35, 120, 68, 59]
noncomputable def e1 (d : Nat) : List Nat := if d = 38 then zAmp else [d]
noncomputable def e2 (d : Nat) : List Nat := sub1 60 zLt (e1 d)
noncomputable def e3 (d : Nat) : List Nat := sub1 34 zQuot (e2 d)
noncomputable def e4 (d : Nat) : List Nat := sub1 9 zTab (e3 d)
noncomputable def e5 (d : Nat) : List Nat := sub1 10 zLf (e4 d)
noncomputable def e6 (d : Nat) : List Nat := sub1 13 zCr (e5 d)
/-- a sign escaped -/
noncomputable def escSign (d : Nat) : List Nat := if d = 38 then zAmp else if d = 60 then zLt else if d = 34 then zQuot else if d = 9 then zTab else if d = 10 then zLf else if d = 13 then zCr else [d]
theorem sub1_one {c d : Nat} {z : List Nat} (h : d ≠ c) : sub1 c z [d] = [d] := sub1_free c z [d] (by simpa using fun e => h e.symm)
theorem e6_eq (d : Nat) : e6 d = escSign d := by
  unfold e6 e5 e4 e3 e2 e1 escSign
  by_cases h1 : d = 38
  · subst h1; rfl
  by_cases h2 : d = 60
  · subst h2; rfl
  by_cases h3 : d = 34
  · subst h3; rfl
  by_cases h4 : d = 9
  · subst h4; rfl
  by_cases h5 : d = 10
  · subst h5; rfl
  by_cases h6 : d = 13
  · subst h6; rfl
  rw [if_neg h1, sub1_one h2, sub1_one h3, sub1_one h4, sub1_one h5, sub1_one h6, if_neg h1, if_neg h2, if_neg h3, if_neg h4, if_neg h5, if_neg h6]
theorem len_sub1 {c : Nat} {z : List Nat} {n : Nat} : True := trivial
theorem e_len (d : Nat) : (e1 d).length ≤ 6 ∧ (e2 d).length ≤ 6 ∧ (e3 d).length ≤ 6 ∧ (e4 d).length ≤ 6 ∧ (e5 d).length ≤ 6 ∧ (e6 d).length ≤ 6 := by
  unfold e6 e5 e4 e3 e2 e1
  by_cases h1 : d = 38
  · subst h1; decide
  by_cases h2 : d = 60
  · subst h2; decide
  by_cases h3 : d = 34
  · subst h3; decide
  by_cases h4 : d = 9
  · subst h4; decide
  by_cases h5 : d = 10
  · subst h5; decide
  by_cases h6 : d = 13
  · subst h6; decide
  rw [if_neg h1, sub1_one h2, sub1_one h3, sub1_one h4, sub1_one h5, sub1_one h6]
  exact ⟨by simp, by simp, by simp, by simp, by simp, by simp⟩
theorem sub1_flatMap (c : Nat) (z : List Nat) (f : Nat → List Nat) (l : List Nat) : sub1 c z (l.flatMap f) = l.flatMap fun d => sub1 c z (f d) := by
  unfold sub1
  rw [List.flatMap_assoc]
theorem flatMap_len {f : Nat → List Nat} (h : ∀ d, (f d).length ≤ 6) : ∀ l : List Nat, (l.flatMap f).length ≤ 6 * l.length
  | [] => Nat.le_refl _
  | d :: l => by
    have := flatMap_len h l
    have := h d
    simp only [List.flatMap_cons, List.length_append, List.length_cons]
    omega
theorem rep1 (l : List Nat) : Txt.replace (txt l) ⟨#[38]⟩ (txt zAmp) = txt (l.flatMap e1) := replace_txt l _ _
theorem rep2 (l : List Nat) : Txt.replace (txt (l.flatMap e1)) ⟨#[60]⟩ (txt zLt) = txt (l.flatMap e2) := by rw [replace_txt]; exact congrArg txt (sub1_flatMap ..)
theorem rep3 (l : List Nat) : Txt.replace (txt (l.flatMap e2)) ⟨#[34]⟩ (txt zQuot) = txt (l.flatMap e3) := by rw [replace_txt]; exact congrArg txt (sub1_flatMap ..)
theorem rep4 (l : List Nat) : Txt.replace (txt (l.flatMap e3)) ⟨#[9]⟩ (txt zTab) = txt (l.flatMap e4) := by rw [replace_txt]; exact congrArg txt (sub1_flatMap ..)
theorem rep5 (l : List Nat) : Txt.replace (txt (l.flatMap e4)) ⟨#[10]⟩ (txt zLf) = txt (l.flatMap e5) := by rw [replace_txt]; exact congrArg txt (sub1_flatMap ..)
theorem rep6 (l : List Nat) : Txt.replace (txt (l.flatMap e5)) ⟨#[13]⟩ (txt zCr) = txt (l.flatMap escSign) := by
  rw [replace_txt]
  refine congrArg txt ((sub1_flatMap ..).trans ?_)
  exact congrArg (l.flatMap ·) (funext e6_eq)
end Mine
end

section
open PySem PySem.W PyProof.Rows PySem.Calls
set_option maxRecDepth 100000
set_option Elab.async false
set_option linter.unusedVariables false
set_option maxHeartbeats 4000000
namespace Mine
local macro_rules | `(tactic| walk_at "no such key") => `(tactic| skip)
theorem rep1s (l : List Nat) : Txt.replace (txt l) (Str.ofString "&") (Str.ofString "&amp;") = txt (l.flatMap e1) := rep1 l
theorem rep2s (l : List Nat) : Txt.replace (txt (l.flatMap e1)) (Str.ofString "<") (Str.ofString "&lt;") = txt (l.flatMap e2) := rep2 l
theorem rep3s (l : List Nat) : Txt.replace (txt (l.flatMap e2)) (Str.ofString "\"") (Str.ofString "&quot;") = txt (l.flatMap e3) := rep3 l
theorem rep4s (l : List Nat) : Txt.replace (txt (l.flatMap e3)) (Str.ofString "\t") (Str.ofString "&#x9;") = txt (l.flatMap e4) := rep4 l
theorem rep5s (l : List Nat) : Txt.replace (txt (l.flatMap e4)) (Str.ofString "\n") (Str.ofString "&#xA;") = txt (l.flatMap e5) := rep5 l
theorem rep6s (l : List Nat) : Txt.replace (txt (l.flatMap e5)) (Str.ofString "\r") (Str.ofString "&#xD;") = txt (l.flatMap escSign) := rep6 l
theorem with_pos {M : Model} {A : Around} {α : Type} {t : Sem α} {Q : α → Shared → Prop} {E : Value → Shared → Prop} {s' : Shared} (hp : 0 < s'.toks) (h : ∀ k, 0 < k → wpAny M A t Q E { s' with toks := k }) : wpAny M A t Q E s' := h s'.toks hp
local macro_rules | `(tactic| walk_at "exec If") => `(tactic| (k_here; refine esc_if (t := _) (by assumption) (by assumption) rfl (by assumption) (by decide +kernel) ?hx (by decide +kernel) rfl rfl ⟨_, rfl⟩ ?_; (case hx => assumption); intro t' h' tk' hp' F' N'; (first | rw [rep1s] at F' | rw [rep2s] at F' | rw [rep3s] at F' | rw [rep4s] at F' | rw [rep5s] at F' | rw [rep6s] at F')))
theorem esc_txt {w : World} {mean : ExcName → Option Value} {mg mb : Str → Option Value}
    {dp un : Nat} {gd : Option (List Code)} {cn : Str} {cs : Scope} {a : Addr} {ccd : Value} {cl : List (Str × Addr)} {outer : List Env} {A₀ : Around} {base h₀ : Heap} {L : Addr} {m : Str → Option Value} {news : List (Addr × Obj)} {s : Shared} {Q E : Value → Shared → Prop}
    {l : List Nat} {t : Tok}
    (B : Below A₀ base outer h₀) (F : Fr h₀ L s.heap m) (X : (heapK w.params).In h₀) (N : News h₀ L s.heap news) (T : Top vwT (looseW vwT looseT) mean mg mb h₀) (hk : cs.kind = .function)
    (hd : dp + 20 < recursionLimit) (hu : un + 100 < cLine) (hl : l.length ≤ 100000)
    (hret : ∀ t h' tk', Fr h₀ L h' m → News h₀ L h' news → Q (.str (txt (l.flatMap escSign)) t) { s with heap := h', toks := tk' }) :
    wpAny (model Challenge.rw_un0048_01.row.prog w) (ktrTop dp un gd cn cs L a ccd cl outer) (call (.ref 266) [.str (txt l) t]) Q E s := by
  have l0 : (txt l).length ≤ 1048576 := by rw [length_txt]; omega
  have l1 : (txt (l.flatMap e1)).length ≤ 1048576 := by rw [length_txt]; have := flatMap_len (fun d => (e_len d).1) l; omega
  have l2 : (txt (l.flatMap e2)).length ≤ 1048576 := by rw [length_txt]; have := flatMap_len (fun d => (e_len d).2.1) l; omega
  have l3 : (txt (l.flatMap e3)).length ≤ 1048576 := by rw [length_txt]; have := flatMap_len (fun d => (e_len d).2.2.1) l; omega
  have l4 : (txt (l.flatMap e4)).length ≤ 1048576 := by rw [length_txt]; have := flatMap_len (fun d => (e_len d).2.2.2.1) l; omega
  have l5 : (txt (l.flatMap e5)).length ≤ 1048576 := by rw [length_txt]; have := flatMap_len (fun d => (e_len d).2.2.2.2.1) l; omega
  revert X; k_fill; intro X
  refine wpAny_call ?_
  k_dflt (refine' code_def ?k1 ?k2 ?k3 ?k4 ?k5 ?kA ?kF ?kK ?k6 ?k7 ?k8 ?k9 ?kB ?_ ?c2 ?c3 ?c4 ?c5; (case kA => exact rfl); (case kF => exact rfl); (case kK => assumption); (case k1 => k_asm); (case k2 => k_asm); (case k3 => k_asm); (case k4 => k_asm); (case k5 => k_asm); (case k6 => k_is); (case k7 => k_is); (case k8 => first | exact fits0 hd | ktr_room); (case k9 => first | exact BindsTo.of_eq rfl | exact binds_K (by k_in) rfl (by k_is) rfl rfl rfl); (case c5 => decide); (case kB => exact locs rfl); (case c2 => exact rfl); (case c3 => exact rfl); (case c4 => exact rfl); k_whole; intro g' L' h' FG' F' N' B' X' T'; (try dsimp only); (try k_fold))
  conv => arg 3; arg 1; whnf
  refine with_pos (show 0 < s.toks + 1 from Nat.succ_pos _) ?_
  intro k0 hk0
  dsimp only
  k_steps
  exact hret _ _ _ (by assumption) (by assumption)
end Mine
end

section
open PySem PySem.W PyProof.Rows PySem.Calls
set_option maxRecDepth 100000
set_option Elab.async false
set_option linter.unusedVariables false
namespace Mine
theorem kind_2 : ∀ {n : Nat}, n < 3 → n ≠ 0 → n ≠ 1 → n = 2
  | 0, _, h, _ => absurd rfl h
  | 1, _, _, h => absurd rfl h
  | 2, _, _, _ => rfl
  | _ + 3, h, _, _ => absurd h (Nat.not_lt.mpr (Nat.le_add_left 3 _))
/-- a house: its kind, its own signs, the house it stands in, the houses in its rooms -/
structure House where
  kind : Nat
  own : List Nat
  above : Option Nat
  left : Option Nat
  right : Option Nat
/-- the signs of a house -/
noncomputable def sg16 : List (List Nat) := [[], [92], [34], [38], [60], [9], [10], [13], [127], [173], [65039], [65], [223], [64259], [119808], [8457]]
/-- all signs that a text can bear -/
noncomputable def alph : List Nat := [92, 34, 38, 60, 9, 10, 13, 127, 173, 65039, 65, 223, 64259, 119808, 8457, 63, 59, 32, 108, 114, 45, 61, 62, 97, 109, 112, 116, 113, 117, 111, 35, 120, 57, 68, 115, 102, 105, 176, 100]
noncomputable def b1h (c : Nat) : Bool := c == 173 || c == 65039
/-- a sign folded, or gone -/
noncomputable def pfold (c : Nat) : List Nat := if c = 173 ∨ c = 65039 then [] else if c = 65 ∨ c = 119808 then [97] else if c = 223 then [115, 115] else if c = 64259 then [102, 102, 105] else if c = 8457 then [176, 102] else if c = 68 then [100] else [c]
/-- a sign in a header's quotes -/
noncomputable def quoteSign (c : Nat) : List Nat := if c = 92 then [92, 92] else if c = 34 then [92, 34] else [c]
noncomputable def badS (c : Nat) : Bool := c == 10 || c == 13 || c == 127
noncomputable def room (c : Nat) (v : List Nat) : List Nat := [c, 45] ++ (if v = [] then [] else [61, 34] ++ v.flatMap quoteSign ++ [34])
/-- what a house makes -/
noncomputable def make1 (h : House) (one two : List Nat) : List Nat :=
  if h.kind = 0 then (if (h.own ++ (one ++ two)).any badS then [63] else h.own ++ [59, 32] ++ room 108 one ++ [59, 32] ++ room 114 two)
  else if h.kind = 1 then [60] ++ (h.own ++ one ++ two).flatMap escSign ++ [62]
  else (h.own ++ one ++ two).flatMap pfold
noncomputable def bt (hs : List House) (k : Nat) : List Nat :=
  if hk : k < hs.length then
    make1 hs[k] (match hs[k].left with | some c => if _ : k < c then bt hs c else [] | none => []) (match hs[k].right with | some c => if _ : k < c then bt hs c else [] | none => [])
  else []
termination_by hs.length - k
decreasing_by all_goals omega
noncomputable def optT (hs : List House) : Option Nat → List Nat
  | some c => bt hs c
  | none => []
structure WF (hs : List House) : Prop where
  kind : ∀ {k : Nat} {h : House}, hs[k]? = some h → h.kind < 3
  own : ∀ {k : Nat} {h : House}, hs[k]? = some h → h.own.length ≤ 2 ∧ ∀ c ∈ h.own, c ∈ alph ∧ c ≠ 68
  left : ∀ {k : Nat} {h : House} {c : Nat}, hs[k]? = some h → h.left = some c → k < c ∧ ∃ hc : House, hs[c]? = some hc ∧ hc.above = some k
  right : ∀ {k : Nat} {h : House} {c : Nat}, hs[k]? = some h → h.right = some c → k < c ∧ ∃ hc : House, hs[c]? = some hc ∧ hc.above = some k
  above : ∀ {k : Nat} {h : House} {a : Nat}, hs[k]? = some h → h.above = some a → a < k ∧ ∃ ha : House, hs[a]? = some ha ∧ (ha.left = some k ∨ ha.right = some k)
noncomputable def inputs (hs : List House) (h : House) : List Nat := h.own ++ (optT hs h.left ++ optT hs h.right)
section
variable {hs : List House}
theorem bt_eq (W : WF hs) {k : Nat} {h : House} (hk : hs[k]? = some h) : bt hs k = make1 h (optT hs h.left) (optT hs h.right) := by
  obtain ⟨hlt, e⟩ := List.getElem?_eq_some_iff.mp hk
  rw [bt, dif_pos hlt, e]
  have e1 : (match h.left with | some c => if _ : k < c then bt hs c else [] | none => []) = optT hs h.left := by
    cases hl : h.left with
    | none => rfl
    | some c => show (if _ : k < c then bt hs c else []) = bt hs c; rw [dif_pos (W.left hk hl).1]
  have e2 : (match h.right with | some c => if _ : k < c then bt hs c else [] | none => []) = optT hs h.right := by
    cases hl : h.right with
    | none => rfl
    | some c => show (if _ : k < c then bt hs c else []) = bt hs c; rw [dif_pos (W.right hk hl).1]
  rw [e1, e2]
/-- what the houses say, by induction from the last to the first -/
theorem down {P : Nat → House → Prop} (W : WF hs) (step : ∀ k h, hs[k]? = some h → (∀ c hc, hs[c]? = some hc → h.left = some c → P c hc) → (∀ c hc, hs[c]? = some hc → h.right = some c → P c hc) → P k h) : ∀ k h, hs[k]? = some h → P k h := by
  have : ∀ n k h, hs.length - k = n → hs[k]? = some h → P k h := by
    intro n
    induction n using Nat.strongRecOn with
    | ind n ih =>
      intro k h hn hk
      have hlt : k < hs.length := (List.getElem?_eq_some_iff.mp hk).1
      refine step k h hk (fun c hc e1 e2 => ?_) fun c hc e1 e2 => ?_
      · have h1 := (W.left hk e2).1
        have h2 : c < hs.length := (List.getElem?_eq_some_iff.mp e1).1
        exact ih (hs.length - c) (by omega) c hc rfl e1
      · have h1 := (W.right hk e2).1
        have h2 : c < hs.length := (List.getElem?_eq_some_iff.mp e1).1
        exact ih (hs.length - c) (by omega) c hc rfl e1
  exact fun k h hk => this _ k h rfl hk
theorem alph_esc : ∀ c ∈ alph, ∀ d ∈ escSign c, d ∈ alph := by decide +kernel
theorem alph_quote : ∀ c ∈ alph, ∀ d ∈ quoteSign c, d ∈ alph := by decide +kernel
theorem alph_fold : ∀ c ∈ alph, ∀ d ∈ pfold c, d ∈ alph := by decide +kernel
theorem flat_alph {f : Nat → List Nat} (hf : ∀ c ∈ alph, ∀ d ∈ f c, d ∈ alph) {l : List Nat} (hl : ∀ c ∈ l, c ∈ alph) : ∀ d ∈ l.flatMap f, d ∈ alph := by
  intro d hd
  obtain ⟨c, hc, h⟩ := List.mem_flatMap.mp hd
  exact hf c (hl c hc) d h
theorem app_alph {a b : List Nat} (ha : ∀ c ∈ a, c ∈ alph) (hb : ∀ c ∈ b, c ∈ alph) : ∀ c ∈ a ++ b, c ∈ alph := fun c hc => (List.mem_append.mp hc).elim (ha c) (hb c)
theorem room_alph {c : Nat} (hc : c ∈ alph) {v : List Nat} (hv : ∀ c ∈ v, c ∈ alph) : ∀ d ∈ room c v, d ∈ alph := by
  unfold room
  refine app_alph (fun d hd => ?_) ?_
  · simp only [List.mem_cons, List.not_mem_nil, or_false] at hd
    rcases hd with rfl | rfl
    · exact hc
    · decide
  · split
    · intro d hd; cases hd
    · exact app_alph (app_alph (by decide) (flat_alph alph_quote hv)) (by decide)
theorem make_alph {h : House} {one two : List Nat} (h0 : ∀ c ∈ h.own, c ∈ alph) (h1 : ∀ c ∈ one, c ∈ alph) (h2 : ∀ c ∈ two, c ∈ alph) : ∀ d ∈ make1 h one two, d ∈ alph := by
  unfold make1
  split
  · split
    · decide
    · exact app_alph (app_alph (app_alph (app_alph h0 (by decide)) (room_alph (by decide) h1)) (by decide)) (room_alph (by decide) h2)
  · split
    · exact app_alph (app_alph (by decide) (flat_alph alph_esc (app_alph (app_alph h0 h1) h2))) (by decide)
    · exact flat_alph alph_fold (app_alph (app_alph h0 h1) h2)
theorem opt_of {P : List Nat → Prop} (h0 : P []) {k : Nat} {o : Option Nat} (hp : ∀ c hc, hs[c]? = some hc → o = some c → P (bt hs c)) (hw : ∀ c, o = some c → ∃ hc, hs[c]? = some hc) : P (optT hs o) := by
  cases o with
  | none => exact h0
  | some c =>
    obtain ⟨hc, e⟩ := hw c rfl
    exact hp c hc e rfl
theorem bt_alph (W : WF hs) : ∀ k h, hs[k]? = some h → ∀ c ∈ bt hs k, c ∈ alph := by
  refine down W fun k h hk hl hr => ?_
  rw [bt_eq W hk]
  refine make_alph (fun c hc => ((W.own hk).2 c hc).1) ?_ ?_
  · exact opt_of (P := fun l => ∀ c ∈ l, c ∈ alph) (by decide) (k := k) hl fun c e => let ⟨_, hc, e2, _⟩ := W.left hk e; ⟨hc, e2⟩
  · exact opt_of (P := fun l => ∀ c ∈ l, c ∈ alph) (by decide) (k := k) hr fun c e => let ⟨_, hc, e2, _⟩ := W.right hk e; ⟨hc, e2⟩
theorem optT_alph (W : WF hs) {k : Nat} {h : House} (hk : hs[k]? = some h) : (∀ c ∈ optT hs h.left, c ∈ alph) ∧ (∀ c ∈ optT hs h.right, c ∈ alph) := by
  constructor
  · cases e : h.left with
    | none => intro c hc; cases hc
    | some x => obtain ⟨_, hc, e2, _⟩ := W.left hk e; exact bt_alph W x hc e2
  · cases e : h.right with
    | none => intro c hc; cases hc
    | some x => obtain ⟨_, hc, e2, _⟩ := W.right hk e; exact bt_alph W x hc e2
theorem inputs_alph (W : WF hs) {k : Nat} {h : House} (hk : hs[k]? = some h) : ∀ c ∈ inputs hs h, c ∈ alph :=
  app_alph (fun c hc => ((W.own hk).2 c hc).1) (app_alph (optT_alph W hk).1 (optT_alph W hk).2)
end
end Mine
end

section
open PySem PySem.W PyProof.Rows PySem.Calls
set_option maxRecDepth 100000
set_option Elab.async false
set_option linter.unusedVariables false
namespace Mine
noncomputable def nm (fold : Bool) (c : Nat) : List Nat :=
  if c = 38 then [97, 109, 112, 59] else if c = 60 then [108, 116, 59] else if c = 34 then [113, 117, 111, 116, 59] else if c = 9 then [35, 120, 57, 59]
  else if c = 10 then (if fold then [35, 120, 97, 59] else [35, 120, 65, 59]) else (if fold then [35, 120, 100, 59] else [35, 120, 68, 59])
noncomputable def special (c : Nat) : Bool := c == 38 || c == 60 || c == 34 || c == 9 || c == 10 || c == 13
/-- e times «amp;» -/
noncomputable def amps : Nat → List Nat
  | 0 => []
  | e + 1 => [97, 109, 112, 59] ++ amps e
/-- a sign as it is told from outside -/
noncomputable def dsign (i j e : Nat) (fold late : Bool) (c : Nat) : List Nat :=
  if c = 92 then List.replicate (2 ^ (i + j)) 92
  else if special c then (if c = 34 then List.replicate ((2 ^ i - 1) * 2 ^ j) 92 else []) ++ (if e = 0 then [c] else 38 :: amps (e - 1) ++ nm late c)
  else if fold then pfold c else [c]
noncomputable def dress (i j e : Nat) (fold late : Bool) (l : List Nat) : List Nat := l.flatMap (dsign i j e fold late)
theorem dress_nil (i j e : Nat) (fold late : Bool) : dress i j e fold late [] = [] := rfl
theorem dress_app (i j e : Nat) (fold late : Bool) (a b : List Nat) : dress i j e fold late (a ++ b) = dress i j e fold late a ++ dress i j e fold late b := List.flatMap_append ..
theorem amps_end : ∀ e, amps e ++ [97, 109, 112, 59] = [97, 109, 112, 59] ++ amps e
  | 0 => rfl
  | e + 1 => by show [97, 109, 112, 59] ++ amps e ++ _ = [97, 109, 112, 59] ++ ([97, 109, 112, 59] ++ amps e); rw [List.append_assoc, amps_end e]
noncomputable def calm (c : Nat) : Bool := !(c == 92) && !special c
theorem dsign_calm {i j e : Nat} {fold late : Bool} {c : Nat} (h : calm c = true) : dsign i j e fold late c = if fold then pfold c else [c] := by
  unfold calm at h
  simp only [Bool.and_eq_true, Bool.not_eq_true', beq_eq_false_iff_ne] at h
  unfold dsign
  rw [if_neg h.1, h.2, if_neg (by decide)]
theorem dsign_plain {i j e : Nat} {fold late : Bool} {c : Nat} (h : calm c = true) (hp : pfold c = [c]) : dsign i j e fold late c = [c] := by
  rw [dsign_calm h, hp]; cases fold <;> rfl
theorem dress_plain {i j e : Nat} {fold late : Bool} : ∀ l : List Nat, (l.all fun c => calm c && (pfold c == [c])) = true → dress i j e fold late l = l
  | [], _ => rfl
  | c :: l, h => by
    rw [List.all_cons, Bool.and_eq_true, Bool.and_eq_true] at h
    show dsign i j e fold late c ++ dress i j e fold late l = c :: l
    rw [dsign_plain h.1.1 (beq_iff_eq.mp h.1.2), dress_plain l h.2]; rfl
theorem calm_or (c : Nat) : c = 92 ∨ special c = true ∨ calm c = true := by
  unfold calm
  by_cases h : c = 92
  · exact .inl h
  · cases hs : special c with
    | true => exact .inr (.inl rfl)
    | false => refine .inr (.inr ?_); simp [h]
theorem special_or {c : Nat} (h : special c = true) : c = 38 ∨ c = 60 ∨ c = 34 ∨ c = 9 ∨ c = 10 ∨ c = 13 := by
  unfold special at h
  simp only [Bool.or_eq_true, beq_iff_eq, or_assoc] at h
  exact h
theorem calm_esc {c : Nat} (h : calm c = true) : escSign c = [c] := by
  unfold calm special at h
  simp only [Bool.and_eq_true, Bool.not_eq_true', Bool.or_eq_false_iff, beq_eq_false_iff_ne] at h
  obtain ⟨h0, ⟨⟨⟨⟨h1, h2⟩, h3⟩, h4⟩, h5⟩, h6⟩ := h
  unfold escSign
  rw [if_neg h1, if_neg h2, if_neg h3, if_neg h4, if_neg h5, if_neg h6]
theorem calm_quote {c : Nat} (h : c ≠ 92) (h2 : c ≠ 34) : quoteSign c = [c] := by unfold quoteSign; rw [if_neg h, if_neg h2]
theorem rep_add (a b : Nat) : List.replicate a 92 ++ List.replicate b 92 = List.replicate (a + b) (92 : Nat) := List.replicate_append_replicate
theorem ds92 (i j e : Nat) (fold late : Bool) : dsign i j e fold late 92 = List.replicate (2 ^ (i + j)) 92 := by unfold dsign; rw [if_pos rfl]
theorem ds34 (i j e : Nat) (fold late : Bool) : dsign i j e fold late 34 = List.replicate ((2 ^ i - 1) * 2 ^ j) 92 ++ (if e = 0 then [34] else 38 :: amps (e - 1) ++ nm late 34) := by unfold dsign; rw [if_neg (by decide)]; rfl
/-- a header's quotes, from outside -/
theorem dress_quote (i j e : Nat) (fold late : Bool) (l : List Nat) : dress i j e fold late (l.flatMap quoteSign) = dress (i + 1) j e fold late l := by
  unfold dress
  rw [List.flatMap_assoc]
  congr 1
  funext c
  by_cases h : c = 92
  · subst h
    show dsign i j e fold late 92 ++ (dsign i j e fold late 92 ++ []) = _
    unfold dsign
    rw [if_pos rfl, if_pos rfl, List.append_nil, rep_add]
    congr 1
    rw [show i + 1 + j = (i + j) + 1 by omega, Nat.pow_succ]; omega
  · by_cases h2 : c = 34
    · subst h2
      show dsign i j e fold late 92 ++ (dsign i j e fold late 34 ++ []) = _
      rw [List.append_nil, ds92, ds34, ds34, ← List.append_assoc, rep_add]
      congr 2
      have h1 : 0 < 2 ^ i := Nat.pow_pos (by decide)
      rw [Nat.pow_add, ← Nat.add_mul, Nat.pow_succ]
      congr 1
      omega
    · rw [calm_quote h h2]
      show dsign i j e fold late c ++ [] = _
      rw [List.append_nil]
      unfold dsign
      rw [if_neg h, if_neg h, if_neg h2, if_neg h2]
/-- an element's references, from outside -/
theorem amp_ref (i j e : Nat) (fold late : Bool) : dsign i j e fold late 38 ++ [] = if e = 0 then [38] else 38 :: amps (e - 1) ++ [97, 109, 112, 59] := by
  rw [List.append_nil]; unfold dsign; rw [if_neg (by decide), show special 38 = true from rfl, if_pos rfl, if_neg (by decide)]; rfl
theorem amp_next (e : Nat) (X : List Nat) : (if e = 0 then [38] else 38 :: amps (e - 1) ++ [97, 109, 112, 59]) ++ X = 38 :: amps e ++ X := by
  cases e with
  | zero => rfl
  | succ e => rw [if_neg (Nat.succ_ne_zero _), Nat.add_sub_cancel, List.cons_append, amps_end]; rfl
theorem dress_esc (i j e : Nat) (fold late : Bool) (l : List Nat) : dress i j e fold late (l.flatMap escSign) = dress 0 (i + j) (e + 1) fold fold l := by
  unfold dress
  rw [List.flatMap_assoc]
  congr 1
  funext c
  rcases calm_or c with rfl | hs | hc
  · show dsign i j e fold late 92 ++ [] = _
    rw [List.append_nil]; unfold dsign; rw [if_pos rfl, if_pos rfl, Nat.zero_add]
  · have key : ∀ X, escSign c = 38 :: X → dress i j e fold late X = nm fold c → (escSign c).flatMap (dsign i j e fold late) = dsign 0 (i + j) (e + 1) fold fold c := by
      intro X h1 h2
      rw [h1]
      show dsign i j e fold late 38 ++ dress i j e fold late X = _
      rw [h2]
      have := amp_ref i j e fold late
      rw [List.append_nil] at this
      rw [this, amp_next]
      unfold dsign
      have h92 : c ≠ 92 := by rintro rfl; exact absurd hs (by decide)
      rw [if_neg h92, hs, if_pos rfl, if_neg (Nat.succ_ne_zero _)]
      by_cases h34 : c = 34
      · rw [if_pos h34]; simp
      · rw [if_neg h34]; rfl
    rcases special_or hs with rfl | rfl | rfl | rfl | rfl | rfl
    · exact key [97, 109, 112, 59] rfl (dress_plain _ (by decide))
    · exact key [108, 116, 59] rfl (dress_plain _ (by decide))
    · exact key [113, 117, 111, 116, 59] rfl (dress_plain _ (by decide))
    · exact key [35, 120, 57, 59] rfl (dress_plain _ (by decide))
    · refine key [35, 120, 65, 59] rfl ?_
      rw [show ([35, 120, 65, 59] : List Nat) = [35, 120] ++ ([65] ++ [59]) from rfl, dress_app, dress_app, dress_plain [35, 120] (by decide), dress_plain [59] (by decide)]
      show _ ++ ((dsign i j e fold late 65 ++ []) ++ _) = _
      rw [dsign_calm (by decide)]
      cases fold <;> rfl
    · refine key [35, 120, 68, 59] rfl ?_
      rw [show ([35, 120, 68, 59] : List Nat) = [35, 120] ++ ([68] ++ [59]) from rfl, dress_app, dress_app, dress_plain [35, 120] (by decide), dress_plain [59] (by decide)]
      show _ ++ ((dsign i j e fold late 68 ++ []) ++ _) = _
      rw [dsign_calm (by decide)]
      cases fold <;> rfl
  · rw [calm_esc hc]
    show dsign i j e fold late c ++ [] = _
    rw [List.append_nil, dsign_calm hc, dsign_calm hc]
theorem fold_calm : ∀ c ∈ alph, calm c = true → ((pfold c).all fun d => calm d && (pfold d == [d])) = true := by decide +kernel
theorem fold_special : ∀ c ∈ alph, calm c = false → pfold c = [c] := by decide +kernel
theorem dress_fold (i j e : Nat) (fold late : Bool) (l : List Nat) (hl : ∀ c ∈ l, c ∈ alph) : dress i j e fold late (l.flatMap pfold) = dress i j e true late l := by
  unfold dress
  rw [List.flatMap_assoc]
  induction l with
  | nil => rfl
  | cons c l ih =>
    rw [List.flatMap_cons, List.flatMap_cons, ih fun d hd => hl d (.tail _ hd)]
    congr 1
    have hc := hl c (.head _)
    cases hk : calm c with
    | true =>
      have := dress_plain (i := i) (j := j) (e := e) (fold := fold) (late := late) _ (fold_calm c hc hk)
      unfold dress at this
      rw [this, dsign_calm hk, if_pos rfl]
    | false =>
      rw [fold_special c hc hk]
      show dsign i j e fold late c ++ [] = _
      rw [List.append_nil]
      rcases calm_or c with rfl | hs | h
      · unfold dsign; rw [if_pos rfl, if_pos rfl]
      · have h92 : c ≠ 92 := by rintro rfl; exact absurd hs (by decide)
        unfold dsign; rw [if_neg h92, if_neg h92, hs, if_pos rfl, if_pos rfl]
      · rw [hk] at h; cases h
theorem dress_id (l : List Nat) : dress 0 0 0 false false l = l := by
  unfold dress
  induction l with
  | nil => rfl
  | cons c l ih =>
    rw [List.flatMap_cons, ih]
    have : dsign 0 0 0 false false c = [c] := by
      unfold dsign
      by_cases h : c = 92
      · subst h; rfl
      · rw [if_neg h]
        cases hs : special c with
        | false => rfl
        | true =>
          rw [if_pos rfl, if_pos rfl]
          by_cases h34 : c = 34
          · rw [if_pos h34]; rfl
          · rw [if_neg h34]; rfl
    rw [this]; rfl
end Mine
end

section
open PySem PySem.W PyProof.Rows PySem.Calls
set_option maxRecDepth 100000
set_option Elab.async false
set_option linter.unusedVariables false
namespace Mine
/-- does a house of this kind let a control sign through -/
noncomputable def passes (kind c : Nat) : Bool := kind == 2 || (kind == 1 && c == 127)
/-- the first house on the way out that does not let it through -/
noncomputable def climb (hs : List House) (c : Nat) (k : Nat) : Option Nat :=
  match hs[k]? with
  | none => none
  | some h => if passes h.kind c then (match h.above with | some a => if _ : a < k then climb hs c a else none | none => none) else some k
termination_by k
noncomputable def refFrom (hs : List House) (k c : Nat) : List Nat :=
  if badS c then (match climb hs c k with | some a => if (hs[a]?.map (·.kind)) = some 0 then [a] else [] | none => []) else []
/-- the houses that refuse -/
noncomputable def refL (hs : List House) : List Nat := (List.range hs.length).flatMap fun k => match hs[k]? with | some h => h.own.flatMap (refFrom hs k) | none => []
noncomputable def blank (hs : List House) (k : Nat) : Bool :=
  if hk : k < hs.length then
    hs[k].kind == 2 && hs[k].own.all b1h && (match hs[k].left with | some c => if _ : k < c then blank hs c else true | none => true) && (match hs[k].right with | some c => if _ : k < c then blank hs c else true | none => true)
  else true
termination_by hs.length - k
decreasing_by all_goals omega
noncomputable def blankO (hs : List House) : Option Nat → Bool
  | some c => blank hs c
  | none => true
section
variable {hs : List House}
theorem blank_eq (W : WF hs) {k : Nat} {h : House} (hk : hs[k]? = some h) : blank hs k = (h.kind == 2 && h.own.all b1h && blankO hs h.left && blankO hs h.right) := by
  obtain ⟨hlt, e⟩ := List.getElem?_eq_some_iff.mp hk
  rw [blank, dif_pos hlt, e]
  have e1 : (match h.left with | some c => if _ : k < c then blank hs c else true | none => true) = blankO hs h.left := by
    cases hl : h.left with
    | none => rfl
    | some c => show (if _ : k < c then blank hs c else true) = blank hs c; rw [dif_pos (W.left hk hl).1]
  have e2 : (match h.right with | some c => if _ : k < c then blank hs c else true | none => true) = blankO hs h.right := by
    cases hl : h.right with
    | none => rfl
    | some c => show (if _ : k < c then blank hs c else true) = blank hs c; rw [dif_pos (W.right hk hl).1]
  rw [e1, e2]
theorem climb_stop {c k : Nat} {h : House} (hk : hs[k]? = some h) (hp : passes h.kind c = false) : climb hs c k = some k := by rw [climb, hk]; dsimp only; rw [hp]; rfl
theorem climb_up (W : WF hs) {c k a : Nat} {h : House} (hk : hs[k]? = some h) (hp : passes h.kind c = true) (ha : h.above = some a) : climb hs c k = climb hs c a := by
  rw [climb, hk]; dsimp only; rw [hp, if_pos rfl, ha]
  show (if _ : a < k then climb hs c a else none) = _
  rw [dif_pos (W.above hk ha).1]
theorem climb_none {c k : Nat} {h : House} (hk : hs[k]? = some h) (hp : passes h.kind c = true) (ha : h.above = none) : climb hs c k = none := by
  rw [climb, hk]; dsimp only; rw [hp, if_pos rfl, ha]
theorem bad_or {c : Nat} (h : badS c = true) : c = 10 ∨ c = 13 ∨ c = 127 := by
  unfold badS at h
  simp only [Bool.or_eq_true, beq_iff_eq, or_assoc] at h
  exact h
theorem fold_empty : ∀ c ∈ alph, (pfold c = []) ↔ b1h c = true := by decide +kernel
theorem bad_fold : ∀ c ∈ alph, ∀ d, badS d = true → (d ∈ pfold c ↔ d = c) := by
  intro c hc d hd
  rcases bad_or hd with rfl | rfl | rfl
  · revert c; decide +kernel
  · revert c; decide +kernel
  · revert c; decide +kernel
theorem bad_quote : ∀ c ∈ alph, ∀ d, badS d = true → (d ∈ quoteSign c ↔ d = c) := by
  intro c hc d hd
  rcases bad_or hd with rfl | rfl | rfl
  · revert c; decide +kernel
  · revert c; decide +kernel
  · revert c; decide +kernel
theorem bad_esc : ∀ c ∈ alph, ∀ d, badS d = true → (d ∈ escSign c ↔ d = c ∧ d = 127) := by
  intro c hc d hd
  rcases bad_or hd with rfl | rfl | rfl
  · revert c; decide +kernel
  · revert c; decide +kernel
  · revert c; decide +kernel
theorem flatMap_empty {f : Nat → List Nat} {l : List Nat} : l.flatMap f = [] ↔ ∀ c ∈ l, f c = [] := by
  rw [List.flatMap_eq_nil_iff]
theorem blank_iff (W : WF hs) : ∀ k h, hs[k]? = some h → (blank hs k = true ↔ bt hs k = []) := by
  refine down W fun k h hk hl hr => ?_
  have key : ∀ o, (∀ c hc, hs[c]? = some hc → o = some c → (blank hs c = true ↔ bt hs c = [])) → (∀ c, o = some c → ∃ hc, hs[c]? = some hc) → (blankO hs o = true ↔ optT hs o = []) := by
    intro o h1 h2
    cases o with
    | none => exact ⟨fun _ => rfl, fun _ => rfl⟩
    | some c => obtain ⟨hc, e⟩ := h2 c rfl; exact h1 c hc e rfl
  have kl := key h.left hl fun c e => let ⟨_, hc, e2, _⟩ := W.left hk e; ⟨hc, e2⟩
  have kr := key h.right hr fun c e => let ⟨_, hc, e2, _⟩ := W.right hk e; ⟨hc, e2⟩
  obtain ⟨al, ar⟩ := optT_alph W hk
  have ao : ∀ c ∈ h.own, c ∈ alph := fun c hc => ((W.own hk).2 c hc).1
  have fe : ∀ l : List Nat, (∀ c ∈ l, c ∈ alph) → (l.flatMap pfold = [] ↔ l.all b1h = true) := by
    intro l hl
    rw [flatMap_empty, List.all_eq_true]
    exact ⟨fun q c hc => (fold_empty c (hl c hc)).mp (q c hc), fun q c hc => (fold_empty c (hl c hc)).mpr (q c hc)⟩
  rw [blank_eq W hk, bt_eq W hk]
  unfold make1
  by_cases h0 : h.kind = 0
  · rw [h0, if_pos rfl]
    constructor
    · intro q; simp at q
    · intro q; split at q
      · cases q
      · simp at q
  · by_cases h1 : h.kind = 1
    · rw [h1, if_neg (by decide), if_pos rfl]
      exact ⟨fun q => by simp at q, fun q => by simp at q⟩
    · have h2 : h.kind = 2 := kind_2 (W.kind hk) h0 h1
      rw [if_neg h0, if_neg h1, h2]
      simp only [beq_self_eq_true, Bool.true_and, Bool.and_eq_true, List.flatMap_append, List.append_eq_nil_iff, kl, kr]
      rw [fe _ ao]
      -- a made text, folded, is empty just if it is empty
      have fm : ∀ o, (∀ c hc, hs[c]? = some hc → o = some c → (blank hs c = true ↔ bt hs c = [])) → (∀ c, o = some c → ∃ hc, hs[c]? = some hc) → ((optT hs o).flatMap pfold = [] ↔ optT hs o = []) := by
        intro o q1 q2
        cases o with
        | none => exact ⟨fun _ => rfl, fun _ => rfl⟩
        | some c =>
          obtain ⟨hc, e⟩ := q2 c rfl
          constructor
          · intro q
            have q3 : ∀ d ∈ bt hs c, b1h d = true := fun d hd => (fold_empty d (bt_alph W c hc e d hd)).mp (flatMap_empty.mp q d hd)
            have none_b1 : ∀ d ∈ bt hs c, b1h d = false ∨ hc.kind ≠ 2 := by
              intro d hd
              by_cases k2 : hc.kind = 2
              · left
                rw [bt_eq W e] at hd
                unfold make1 at hd
                rw [k2, if_neg (by decide), if_neg (by decide)] at hd
                obtain ⟨y, hy, hd2⟩ := List.mem_flatMap.mp hd
                have hy' : y ∈ alph := by
                  rcases List.mem_append.mp hy with hy | hy
                  · rcases List.mem_append.mp hy with hy | hy
                    · exact ((W.own e).2 y hy).1
                    · exact (optT_alph W e).1 y hy
                  · exact (optT_alph W e).2 y hy
                have : ∀ y ∈ alph, ∀ d ∈ pfold y, b1h d = false := by decide +kernel
                exact this y hy' d hd2
              · exact .inr k2
            show bt hs c = []
            cases hb : bt hs c with
            | nil => rfl
            | cons d r =>
              have hd : d ∈ bt hs c := by rw [hb]; exact .head _
              rcases none_b1 d hd with h4 | h4
              · rw [q3 d hd] at h4; cases h4
              · -- a header's or an element's text has a sign that is not of B.1
                exfalso
                have h5 : ∃ y ∈ bt hs c, b1h y = false := by
                  rw [bt_eq W e]
                  unfold make1
                  by_cases k0 : hc.kind = 0
                  · rw [if_pos k0]
                    split
                    · exact ⟨63, by simp, rfl⟩
                    · exact ⟨59, by simp, rfl⟩
                  · have k1 : hc.kind = 1 := by have := W.kind e; omega
                    rw [if_neg k0, if_pos k1]
                    exact ⟨60, by simp, rfl⟩
                obtain ⟨y, hy, hy2⟩ := h5
                rw [q3 y hy] at hy2; cases hy2
          · intro q
            rw [show optT hs (some c) = bt hs c from rfl] at q ⊢
            rw [q]; rfl
      rw [fm _ hl fun c e => let ⟨_, hc, e2, _⟩ := W.left hk e; ⟨hc, e2⟩, fm _ hr fun c e => let ⟨_, hc, e2, _⟩ := W.right hk e; ⟨hc, e2⟩]
theorem blankO_iff (W : WF hs) {k : Nat} {h : House} (hk : hs[k]? = some h) : (blankO hs h.left = true ↔ optT hs h.left = []) ∧ (blankO hs h.right = true ↔ optT hs h.right = []) := by
  constructor
  · cases e : h.left with
    | none => exact ⟨fun _ => rfl, fun _ => rfl⟩
    | some c => obtain ⟨_, hc, e2, _⟩ := W.left hk e; exact blank_iff W c hc e2
  · cases e : h.right with
    | none => exact ⟨fun _ => rfl, fun _ => rfl⟩
    | some c => obtain ⟨_, hc, e2, _⟩ := W.right hk e; exact blank_iff W c hc e2
end
end Mine
end

section
open PySem PySem.W PyProof.Rows PySem.Calls
set_option maxRecDepth 100000
set_option Elab.async false
set_option linter.unusedVariables false
namespace Mine
section
variable {hs : List House}
theorem mem_refL {k : Nat} : k ∈ refL hs ↔ ∃ m h, hs[m]? = some h ∧ ∃ c ∈ h.own, badS c = true ∧ climb hs c m = some k ∧ (hs[k]?.map (·.kind)) = some 0 := by
  unfold refL
  rw [List.mem_flatMap]
  constructor
  · rintro ⟨m, hm, q⟩
    cases e : hs[m]? with
    | none => rw [e] at q; cases q
    | some h =>
      rw [e] at q
      obtain ⟨c, hc, q⟩ := List.mem_flatMap.mp q
      refine ⟨m, h, e, c, hc, ?_⟩
      unfold refFrom at q
      cases hb : badS c with
      | false => rw [hb, if_neg (by decide)] at q; cases q
      | true =>
        rw [hb, if_pos rfl] at q
        cases hcl : climb hs c m with
        | none => rw [hcl] at q; cases q
        | some a =>
          rw [hcl] at q
          dsimp only at q
          split at q
          · rename_i h1
            rw [List.mem_singleton.mp q]
            exact ⟨rfl, rfl, h1⟩
          · cases q
  · rintro ⟨m, h, e, c, hc, hb, hcl, hk⟩
    refine ⟨m, List.mem_range.mpr (List.getElem?_eq_some_iff.mp e).1, ?_⟩
    rw [e]
    refine List.mem_flatMap.mpr ⟨c, hc, ?_⟩
    unfold refFrom
    rw [hb, if_pos rfl, hcl]
    dsimp only
    rw [if_pos hk]
    exact .head _
theorem in_esc127 : (127 : Nat) ∈ escSign 127 := by decide
theorem in_inputs_left {h : House} {x c : Nat} (e : h.left = some x) (hc : c ∈ bt hs x) : c ∈ inputs hs h := by
  unfold inputs; rw [e]; exact List.mem_append_right _ (List.mem_append_left _ hc)
theorem in_inputs_right {h : House} {x c : Nat} (e : h.right = some x) (hc : c ∈ bt hs x) : c ∈ inputs hs h := by
  unfold inputs; rw [e]; exact List.mem_append_right _ (List.mem_append_right _ hc)
theorem mem_all_inputs {h : House} {c : Nat} : c ∈ h.own ++ optT hs h.left ++ optT hs h.right ↔ c ∈ inputs hs h := by
  unfold inputs; rw [List.append_assoc]
theorem goes_out (W : WF hs) {m c : Nat} {h : House} (hm : hs[m]? = some h) (hb : badS c = true) (hp : passes h.kind c = true) (hc : c ∈ inputs hs h) : c ∈ bt hs m := by
  have ha := inputs_alph W hm c hc
  rw [bt_eq W hm]
  unfold make1
  unfold passes at hp
  simp only [Bool.or_eq_true, Bool.and_eq_true, beq_iff_eq] at hp
  rcases hp with h2 | ⟨h1, rfl⟩
  · rw [h2, if_neg (by decide), if_neg (by decide)]
    exact List.mem_flatMap.mpr ⟨c, mem_all_inputs.mpr hc, (bad_fold c ha c hb).mpr rfl⟩
  · rw [h1, if_neg (by decide), if_pos rfl]
    exact List.mem_append_left _ (List.mem_append_right _ (List.mem_flatMap.mpr ⟨127, mem_all_inputs.mpr hc, in_esc127⟩))
theorem climb_sound (W : WF hs) {c k : Nat} (hb : badS c = true) : ∀ m h, hs[m]? = some h → c ∈ inputs hs h → climb hs c m = some k → ∃ hk, hs[k]? = some hk ∧ c ∈ inputs hs hk := by
  intro m
  induction m using Nat.strongRecOn with
  | ind m ih =>
    intro h hm hc hcl
    cases hp : passes h.kind c with
    | false =>
      rw [climb_stop hm hp] at hcl
      cases hcl
      exact ⟨h, hm, hc⟩
    | true =>
      cases ha : h.above with
      | none => rw [climb_none hm hp ha] at hcl; cases hcl
      | some a =>
        obtain ⟨hlt, ha', e1, e2⟩ := W.above hm ha
        rw [climb_up W hm hp ha] at hcl
        have hout := goes_out W hm hb hp hc
        exact ih a hlt ha' e1 (e2.elim (fun e => in_inputs_left e hout) fun e => in_inputs_right e hout) hcl
theorem room_bad {r : Nat} (hr : badS r = false) {v : List Nat} (hv : ∀ c ∈ v, c ∈ alph) (hn : ∀ c ∈ v, badS c = false) : ∀ c ∈ room r v, badS c = false := by
  intro c hc
  unfold room at hc
  rcases List.mem_append.mp hc with h | h
  · rcases List.mem_cons.mp h with rfl | h
    · exact hr
    · rw [List.mem_singleton.mp h]; rfl
  · split at h
    · cases h
    · rcases List.mem_append.mp h with h | h
      · rcases List.mem_append.mp h with h | h
        · exact (by decide : ∀ c ∈ ([61, 34] : List Nat), badS c = false) c h
        · obtain ⟨d, hd, h⟩ := List.mem_flatMap.mp h
          cases hb : badS c with
          | false => rfl
          | true => rw [(bad_quote d (hv d hd) c hb).mp h, hn d hd] at hb; cases hb
      · rw [List.mem_singleton.mp h]; rfl
theorem comes_in (W : WF hs) {m c : Nat} {h : House} (hm : hs[m]? = some h) (hb : badS c = true) (hc : c ∈ bt hs m) : passes h.kind c = true ∧ c ∈ inputs hs h := by
  have hal := inputs_alph W hm
  rw [bt_eq W hm] at hc
  unfold make1 at hc
  by_cases h0 : h.kind = 0
  · exfalso
    rw [if_pos h0] at hc
    split at hc
    · rw [List.mem_singleton.mp hc] at hb; cases hb
    · rename_i hn
      have hn' : ∀ d ∈ inputs hs h, badS d = false := by
        intro d hd
        cases e : badS d with
        | false => rfl
        | true => exact absurd (List.any_eq_true.mpr ⟨d, hd, e⟩) hn
      obtain ⟨al, ar⟩ := optT_alph W hm
      have n1 : ∀ d ∈ optT hs h.left, badS d = false := fun d hd => hn' d (List.mem_append_right _ (List.mem_append_left _ hd))
      have n2 : ∀ d ∈ optT hs h.right, badS d = false := fun d hd => hn' d (List.mem_append_right _ (List.mem_append_right _ hd))
      have : badS c = false := by
        rcases List.mem_append.mp hc with q | q
        · rcases List.mem_append.mp q with q | q
          · rcases List.mem_append.mp q with q | q
            · rcases List.mem_append.mp q with q | q
              · exact hn' c (List.mem_append_left _ q)
              · exact (by decide : ∀ c ∈ ([59, 32] : List Nat), badS c = false) c q
            · exact room_bad (by decide) al n1 c q
          · exact (by decide : ∀ c ∈ ([59, 32] : List Nat), badS c = false) c q
        · exact room_bad (by decide) ar n2 c q
      rw [this] at hb; cases hb
  · by_cases h1 : h.kind = 1
    · rw [if_neg h0, if_pos h1] at hc
      rcases List.mem_append.mp hc with q | q
      · rcases List.mem_append.mp q with q | q
        · rw [List.mem_singleton.mp q] at hb; cases hb
        · obtain ⟨d, hd, q⟩ := List.mem_flatMap.mp q
          have hd' := mem_all_inputs.mp hd
          obtain ⟨e1, e2⟩ := (bad_esc d (hal d hd') c hb).mp q
          refine ⟨?_, e1 ▸ hd'⟩
          unfold passes; rw [h1, e2]; rfl
      · rw [List.mem_singleton.mp q] at hb; cases hb
    · have h2 : h.kind = 2 := kind_2 (W.kind hm) h0 h1
      rw [if_neg h0, if_neg h1] at hc
      obtain ⟨d, hd, q⟩ := List.mem_flatMap.mp hc
      have hd' := mem_all_inputs.mp hd
      have e1 := (bad_fold d (hal d hd') c hb).mp q
      refine ⟨?_, e1 ▸ hd'⟩
      unfold passes; rw [h2]; rfl
theorem climb_complete (W : WF hs) {c : Nat} (hb : badS c = true) : ∀ k h, hs[k]? = some h → c ∈ inputs hs h → ∃ m hm, hs[m]? = some hm ∧ c ∈ hm.own ∧ climb hs c m = climb hs c k := by
  refine down W fun k h hk hl hr hc => ?_
  unfold inputs at hc
  have side : ∀ x hx, hs[x]? = some hx → hx.above = some k → c ∈ bt hs x → (c ∈ inputs hs hx → ∃ m hm, hs[m]? = some hm ∧ c ∈ hm.own ∧ climb hs c m = climb hs c x) → ∃ m hm, hs[m]? = some hm ∧ c ∈ hm.own ∧ climb hs c m = climb hs c k := by
    intro x hx ex ea hcx ih
    obtain ⟨hp, hin⟩ := comes_in W ex hb hcx
    obtain ⟨m, hm, e1, e2, e3⟩ := ih hin
    exact ⟨m, hm, e1, e2, by rw [e3, climb_up W ex hp ea]⟩
  rcases List.mem_append.mp hc with q | q
  · exact ⟨k, h, hk, q, rfl⟩
  · rcases List.mem_append.mp q with q | q
    · cases e : h.left with
      | none => rw [e] at q; cases q
      | some x =>
        rw [e] at q
        obtain ⟨_, hx, ex, ea⟩ := W.left hk e
        exact side x hx ex ea q fun hin => hl x hx ex e hin
    · cases e : h.right with
      | none => rw [e] at q; cases q
      | some x =>
        rw [e] at q
        obtain ⟨_, hx, ex, ea⟩ := W.right hk e
        exact side x hx ex ea q fun hin => hr x hx ex e hin
theorem refuses (W : WF hs) {k : Nat} {h : House} (hk : hs[k]? = some h) : k ∈ refL hs ↔ h.kind = 0 ∧ (inputs hs h).any badS = true := by
  rw [mem_refL, List.any_eq_true]
  constructor
  · rintro ⟨m, hm, em, c, hc, hb, hcl, hk0⟩
    obtain ⟨h', e1, e2⟩ := climb_sound W hb m hm em (List.mem_append_left _ hc) hcl
    rw [hk] at e1
    cases e1
    rw [hk] at hk0
    exact ⟨Option.some.inj hk0, c, e2, hb⟩
  · rintro ⟨h0, c, hc, hb⟩
    obtain ⟨m, hm, e1, e2, e3⟩ := climb_complete W hb k h hk hc
    refine ⟨m, hm, e1, c, e2, hb, ?_, ?_⟩
    · rw [e3]
      refine climb_stop hk ?_
      unfold passes; rw [h0]; rfl
    · rw [hk]; exact congrArg some h0
/-- what a house says, told from outside -/
theorem dress_ref (W : WF hs) {k : Nat} {h : House} (hk : hs[k]? = some h) (hr : k ∈ refL hs) (i j e : Nat) (fold late : Bool) : dress i j e fold late (bt hs k) = [63] := by
  obtain ⟨h0, hb⟩ := (refuses W hk).mp hr
  rw [bt_eq W hk]
  unfold make1
  unfold inputs at hb
  rw [if_pos h0, if_pos hb]
  exact dress_plain _ (by decide)
noncomputable def roomD (i j e : Nat) (fold late : Bool) (c : Nat) (b : Bool) (v : List Nat) : List Nat :=
  [59, 32, c, 45] ++ (if b then [] else [61] ++ dress i j e fold late [34] ++ dress (i + 1) j e fold late v ++ dress i j e fold late [34])
theorem dress_room (i j e : Nat) (fold late : Bool) {c : Nat} (hc : (calm c && (pfold c == [c])) = true) {b : Bool} {v : List Nat} (hb : b = true ↔ v = []) : dress i j e fold late ([59, 32] ++ room c v) = roomD i j e fold late c b v := by
  unfold room roomD
  have hp : dress i j e fold late ([59, 32] ++ [c, 45]) = [59, 32, c, 45] := by
    refine dress_plain _ ?_
    simp only [List.cons_append, List.nil_append, List.all_cons, List.all_nil, hc]
    decide
  by_cases hv : v = []
  · rw [if_pos hv, if_pos (hb.mpr hv), List.append_nil, List.append_nil, hp]
  · have hb' : ¬ b = true := fun q => hv (hb.mp q)
    rw [if_neg hv, if_neg hb', ← List.append_assoc, dress_app, hp, dress_app, dress_app, dress_quote]
    congr 3
    show dress i j e fold late ([61] ++ [34]) = _
    rw [dress_app, dress_plain [61] (by decide)]
theorem dress_0 (W : WF hs) {k : Nat} {h : House} (hk : hs[k]? = some h) (h0 : h.kind = 0) (hr : k ∉ refL hs) (i j e : Nat) (fold late : Bool) :
    dress i j e fold late (bt hs k) = dress i j e fold late h.own ++ roomD i j e fold late 108 (blankO hs h.left) (optT hs h.left) ++ roomD i j e fold late 114 (blankO hs h.right) (optT hs h.right) := by
  rw [bt_eq W hk]
  unfold make1
  have hn : ¬ (h.own ++ (optT hs h.left ++ optT hs h.right)).any badS = true := fun q => hr ((refuses W hk).mpr ⟨h0, q⟩)
  rw [if_pos h0, if_neg hn]
  obtain ⟨bl, br⟩ := blankO_iff W hk
  rw [List.append_assoc (h.own ++ _ ++ _), List.append_assoc h.own, dress_app, dress_app, dress_room i j e fold late (by decide) bl, dress_room i j e fold late (by decide) br]
theorem dress_1 (W : WF hs) {k : Nat} {h : House} (hk : hs[k]? = some h) (h1 : h.kind = 1) (i j e : Nat) (fold late : Bool) :
    dress i j e fold late (bt hs k) = dress i j e fold late [60] ++ dress 0 (i + j) (e + 1) fold fold h.own ++ dress 0 (i + j) (e + 1) fold fold (optT hs h.left) ++ dress 0 (i + j) (e + 1) fold fold (optT hs h.right) ++ [62] := by
  rw [bt_eq W hk]
  unfold make1
  rw [h1, if_neg (by decide), if_pos rfl, dress_app, dress_app, dress_esc, dress_app, dress_app, dress_plain [62] (by decide)]
  simp only [List.append_assoc]
theorem dress_2 (W : WF hs) {k : Nat} {h : House} (hk : hs[k]? = some h) (h2 : h.kind = 2) (i j e : Nat) (fold late : Bool) :
    dress i j e fold late (bt hs k) = dress i j e true late h.own ++ dress i j e true late (optT hs h.left) ++ dress i j e true late (optT hs h.right) := by
  rw [bt_eq W hk]
  unfold make1
  rw [h2, if_neg (by decide), if_neg (by decide), dress_fold _ _ _ _ _ _ fun c hc => inputs_alph W hk c (mem_all_inputs.mp hc), dress_app, dress_app]
end
end Mine
end

section
open PySem PySem.W PyProof.Rows PySem.Calls
set_option maxRecDepth 100000
set_option Elab.async false
set_option linter.unusedVariables false
namespace Mine
theorem amps_len : ∀ e, (amps e).length = 4 * e
  | 0 => rfl
  | e + 1 => by show ([97, 109, 112, 59] ++ amps e).length = _; rw [List.length_append, amps_len e]; simp; omega
theorem nm_len (fold : Bool) (c : Nat) : (nm fold c).length ≤ 5 := by
  unfold nm
  repeat' split
  all_goals decide
theorem pow6 : ∀ n, n ≤ 6 → 2 ^ n ≤ 64 := by decide
theorem pfold_len (c : Nat) : (pfold c).length ≤ 3 := by
  unfold pfold
  repeat' split
  all_goals simp
theorem dsign_len {i j e : Nat} (h : i + j + e ≤ 6) (fold late : Bool) (c : Nat) : (dsign i j e fold late c).length ≤ 100 := by
  unfold dsign
  have h1 := pow6 (i + j) (by omega)
  split
  · rw [List.length_replicate]; omega
  · split
    · rw [List.length_append]
      have h2 : (if c = 34 then List.replicate ((2 ^ i - 1) * 2 ^ j) 92 else ([] : List Nat)).length ≤ 64 := by
        split
        · rw [List.length_replicate]
          have : (2 ^ i - 1) * 2 ^ j ≤ 2 ^ i * 2 ^ j := Nat.mul_le_mul_right _ (Nat.sub_le _ _)
          rw [← Nat.pow_add] at this
          omega
        · simp
      have h3 : (if e = 0 then [c] else 38 :: amps (e - 1) ++ nm late c).length ≤ 32 := by
        split
        · simp
        · rw [List.length_append, List.length_cons, amps_len]
          have := nm_len late c
          omega
      omega
    · have := pfold_len c
      split
      · omega
      · simp
theorem dress_len {i j e : Nat} (h : i + j + e ≤ 6) (fold late : Bool) : ∀ l : List Nat, (dress i j e fold late l).length ≤ 100 * l.length
  | [] => by simp [dress_nil]
  | c :: l => by
    have h1 := dress_len h fold late l
    have h2 := dsign_len h fold late c
    show (dsign i j e fold late c ++ dress i j e fold late l).length ≤ _
    rw [List.length_append, List.length_cons]
    omega
noncomputable def cap (n : Nat) : Nat := 640 * (2 ^ n - 1)
theorem cap_succ (n : Nat) : cap (n + 1) = 2 * cap n + 640 := by
  unfold cap
  obtain ⟨m, hm⟩ : ∃ m, 2 ^ n = m + 1 := ⟨2 ^ n - 1, (Nat.sub_add_cancel (Nat.pow_pos (by decide))).symm⟩
  have e : (m + 1) * 2 - 1 = m * 2 + 1 := by rw [Nat.succ_mul]; rfl
  rw [Nat.pow_succ, hm, e, Nat.add_sub_cancel, Nat.mul_add, ← Nat.mul_assoc, Nat.mul_comm (640 * m) 2]
theorem one_more (i j e : Nat) : i + 1 + j + e ≤ i + j + e + 1 := by rw [Nat.add_right_comm i 1 j, Nat.add_right_comm (i + j) 1 e]; exact Nat.le_refl _
theorem one_in (i j e : Nat) : 0 + (i + j) + (e + 1) ≤ i + j + e + 1 := by rw [Nat.zero_add]; exact Nat.le_refl _
theorem down_sub {x k c n : Nat} (h : x - k = n + 1) (hc : k < c) : x - c ≤ n := Nat.le_trans (Nat.sub_le_sub_left hc x) (Nat.le_of_eq (by rw [Nat.sub_succ, h]; rfl))
theorem cap_mono {a b : Nat} (h : a ≤ b) : cap a ≤ cap b := by
  exact Nat.mul_le_mul_left _ (Nat.sub_le_sub_right (Nat.pow_le_pow_right (by decide) h) 1)
section
variable {hs : List House}
theorem told_len (W : WF hs) : ∀ k h, hs[k]? = some h → ∀ i j e fold late, i + j + e + (hs.length - k) ≤ 6 → (dress i j e fold late (bt hs k)).length ≤ cap (hs.length - k) := by
  refine down W fun k h hk hl hr i j e fold late hn => ?_
  have hlt : k < hs.length := (List.getElem?_eq_some_iff.mp hk).1
  obtain ⟨n, hnk⟩ : ∃ n, hs.length - k = n + 1 := ⟨hs.length - k - 1, (Nat.sub_add_cancel (Nat.sub_pos_of_lt hlt)).symm⟩
  have hown := (W.own hk).1
  have h6 : i + j + e + 1 ≤ 6 := Nat.le_trans (Nat.add_le_add_left (hnk ▸ Nat.succ_le_succ (Nat.zero_le n)) _) hn
  have h5 : i + j + e ≤ 6 := Nat.le_of_succ_le h6
  have side : ∀ o, (∀ c hc, hs[c]? = some hc → o = some c → ∀ i j e fold late, i + j + e + (hs.length - c) ≤ 6 → (dress i j e fold late (bt hs c)).length ≤ cap (hs.length - c)) → (∀ c, o = some c → k < c ∧ ∃ hc, hs[c]? = some hc) →
      ∀ i' j' e' fold' late', i' + j' + e' ≤ i + j + e + 1 → (dress i' j' e' fold' late' (optT hs o)).length ≤ cap n := by
    intro o h1 h2 i' j' e' fold' late' hle
    cases o with
    | none => exact Nat.zero_le _
    | some c =>
      obtain ⟨hkc, hc, ec⟩ := h2 c rfl
      have hd := down_sub hnk hkc
      refine Nat.le_trans (h1 c hc ec rfl i' j' e' fold' late' (Nat.le_trans (Nat.add_le_add hle hd) (Nat.le_trans (Nat.le_of_eq (by rw [hnk, Nat.add_assoc (i + j + e), Nat.add_comm 1 n])) hn))) (cap_mono hd)
  have sl := side h.left hl fun c e => let ⟨a, hc, e2, _⟩ := W.left hk e; ⟨a, hc, e2⟩
  have sr := side h.right hr fun c e => let ⟨a, hc, e2, _⟩ := W.right hk e; ⟨a, hc, e2⟩
  have ho : ∀ i' j' e' fold' late', i' + j' + e' ≤ 6 → (dress i' j' e' fold' late' h.own).length ≤ 200 := fun i' j' e' fold' late' q => Nat.le_trans (dress_len q fold' late' h.own) (by omega)
  have h1 : ∀ i' j' e' fold' late' c, i' + j' + e' ≤ 6 → (dress i' j' e' fold' late' [c]).length ≤ 100 := fun i' j' e' fold' late' c q => dress_len q fold' late' [c]
  rw [hnk, cap_succ]
  by_cases hr : k ∈ refL hs
  · rw [dress_ref W hk hr]; simp
  · by_cases h0 : h.kind = 0
    · rw [dress_0 W hk h0 hr]
      have rl : ∀ c b v, (dress (i + 1) j e fold late v).length ≤ cap n → (roomD i j e fold late c b v).length ≤ cap n + 205 := by
        intro c b v hv
        unfold roomD
        have := h1 i j e fold late 34 h5
        rw [List.length_append]
        split
        · simp
        · simp only [List.length_append, List.length_cons, List.length_nil]; omega
      have a1 := ho i j e fold late h5
      have a2 := rl 108 (blankO hs h.left) _ (sl (i + 1) j e fold late (one_more i j e))
      have a3 := rl 114 (blankO hs h.right) _ (sr (i + 1) j e fold late (one_more i j e))
      rw [List.length_append, List.length_append]
      omega
    · by_cases h1' : h.kind = 1
      · rw [dress_1 W hk h1']
        have a0 := h1 i j e fold late 60 h5
        have a1 := ho 0 (i + j) (e + 1) fold fold (Nat.le_trans (one_in i j e) h6)
        have a2 := sl 0 (i + j) (e + 1) fold fold (one_in i j e)
        have a3 := sr 0 (i + j) (e + 1) fold fold (one_in i j e)
        simp only [List.length_append, List.length_cons, List.length_nil]
        omega
      · have h2 : h.kind = 2 := kind_2 (W.kind hk) h0 h1'
        rw [dress_2 W hk h2]
        have a1 := ho i j e true late h5
        have a2 := sl i j e true late (Nat.le_succ _)
        have a3 := sr i j e true late (Nat.le_succ _)
        simp only [List.length_append]
        omega
theorem bt_len (W : WF hs) (hn : hs.length = 6) {k : Nat} {h : House} (hk : hs[k]? = some h) : (bt hs k).length ≤ cap (6 - k) := by
  have := told_len W k h hk 0 0 0 false false (by omega)
  rw [dress_id, hn] at this
  exact this
theorem cap6 : cap 6 = 40320 := by decide
theorem optT_len (W : WF hs) (hn : hs.length = 6) {k : Nat} {h : House} (hk : hs[k]? = some h) : (optT hs h.left).length ≤ 40320 ∧ (optT hs h.right).length ≤ 40320 := by
  constructor
  · cases e : h.left with
    | none => exact Nat.zero_le _
    | some c =>
      obtain ⟨_, hc, e2, _⟩ := W.left hk e
      exact Nat.le_trans (bt_len W hn e2) (by rw [← cap6]; exact cap_mono (by omega))
  · cases e : h.right with
    | none => exact Nat.zero_le _
    | some c =>
      obtain ⟨_, hc, e2, _⟩ := W.right hk e
      exact Nat.le_trans (bt_len W hn e2) (by rw [← cap6]; exact cap_mono (by omega))
end
end Mine
end

section
open PySem PySem.W PyProof.Rows PySem.Calls
set_option maxRecDepth 100000
set_option Elab.async false
set_option linter.unusedVariables false
set_option maxHeartbeats 4000000
namespace Mine
local macro_rules | `(tactic| walk_at "no such key") => `(tactic| skip)
theorem add_txt (a b : List Nat) : txt a ++ txt b = txt (a ++ b) := by
  show (⟨a.toArray ++ b.toArray⟩ : Str) = ⟨(a ++ b).toArray⟩
  simp
theorem txt_beq (a b : List Nat) : (txt a == txt b) = (a == b) := by
  by_cases h : a = b
  · subst h; simp
  · have h2 : txt a ≠ txt b := fun e => h (by have := congrArg (fun x : Str => x.cps.toList) e; simpa [txt] using this)
    rw [beq_eq_false_iff_ne.mpr h, beq_eq_false_iff_ne.mpr h2]
theorem sign_eq {c d : Nat} {y : Str} (hy : y = txt [d]) : ((⟨#[c]⟩ : Str) == y) = decide (c = d) := by
  rw [hy]
  have := txt_beq [c] [d]
  rw [show (⟨#[c]⟩ : Str) = txt [c] from rfl, this]
  by_cases h : c = d
  · simp [h]
  · simp [h]
noncomputable def namesI : Bool → List (Str × Str)
  | false => [(Str.ofString "&", Str.ofString "amp;"), (Str.ofString "<", Str.ofString "lt;"), (Str.ofString "\"", Str.ofString "quot;"), (Str.ofString "\t", Str.ofString "#x9;"), (Str.ofString "\n", Str.ofString "#xA;"), (Str.ofString "\x0d", Str.ofString "#xD;")]
  | true => [(Str.ofString "&", Str.ofString "amp;"), (Str.ofString "<", Str.ofString "lt;"), (Str.ofString "\"", Str.ofString "quot;"), (Str.ofString "\t", Str.ofString "#x9;"), (Str.ofString "\n", Str.ofString "#xa;"), (Str.ofString "\x0d", Str.ofString "#xd;")]
noncomputable def foldsI : List (Str × Str) := [(Str.ofString "\u00ad", Str.ofString ""), (Str.ofString "\ufe0f", Str.ofString ""), (Str.ofString "A", Str.ofString "a"), (Str.ofString "\u00df", Str.ofString "ss"), (Str.ofString "\ufb03", Str.ofString "ffi"), (Str.ofString "𝐀", Str.ofString "a"), (Str.ofString "\u2109", Str.ofString "°f")]
/-- the names of the frame -/
noncomputable abbrev mD (x : Str) (tx : Tok) (p : Str) (tp : Tok) (D1 D2 : Addr) (i j e : Int) (ti tj te : Tok) (fold : Bool) (f : Str → Option Value) : Str → Option Value := fun y =>
  if y = Str.ofString "page" then some (.str p tp) else if y = Str.ofString "names" then some (.ref D1) else if y = Str.ofString "folds" then some (.ref D2) else if y = Str.ofString "i" then some (.int i ti) else if y = Str.ofString "j" then some (.int j tj)
  else if y = Str.ofString "e" then some (.int e te) else if y = Str.ofString "fold" then some (.bool fold) else if y = Str.ofString "text" then some (.str x tx) else f y
theorem fr_D {g h : Heap} {L : Addr} {x : Str} {tx : Tok} {p : Str} {tp : Tok} {D1 D2 : Addr} {i j e : Int} {ti tj te : Tok} {fold : Bool} {G : Str → Option Value} (F : Fr g L h G) (e1 : G (Str.ofString "page") = some (.str p tp)) (e2 : G (Str.ofString "names") = some (.ref D1)) (e3 : G (Str.ofString "folds") = some (.ref D2))
    (e4 : G (Str.ofString "i") = some (.int i ti)) (e5 : G (Str.ofString "j") = some (.int j tj)) (e6 : G (Str.ofString "e") = some (.int e te)) (e7 : G (Str.ofString "fold") = some (.bool fold)) (e8 : G (Str.ofString "text") = some (.str x tx)) : Fr g L h (mD x tx p tp D1 D2 i j e ti tj te fold G) := by
  have e : mD x tx p tp D1 D2 i j e ti tj te fold G = G := by
    funext y
    unfold mD
    by_cases a1 : y = Str.ofString "page"
    · rw [if_pos a1, a1, e1]
    rw [if_neg a1]
    by_cases a1 : y = Str.ofString "names"
    · rw [if_pos a1, a1, e2]
    rw [if_neg a1]
    by_cases a1 : y = Str.ofString "folds"
    · rw [if_pos a1, a1, e3]
    rw [if_neg a1]
    by_cases a1 : y = Str.ofString "i"
    · rw [if_pos a1, a1, e4]
    rw [if_neg a1]
    by_cases a1 : y = Str.ofString "j"
    · rw [if_pos a1, a1, e5]
    rw [if_neg a1]
    by_cases a1 : y = Str.ofString "e"
    · rw [if_pos a1, a1, e6]
    rw [if_neg a1]
    by_cases a1 : y = Str.ofString "fold"
    · rw [if_pos a1, a1, e7]
    rw [if_neg a1]
    by_cases a1 : y = Str.ofString "text"
    · rw [if_pos a1, a1, e8]
    rw [if_neg a1]
  rw [e]; exact F
noncomputable def inNames (c : Nat) : Bool := special c
theorem names_get : ∀ c ∈ alph, ∀ late, tabGet (namesI late) ⟨#[c]⟩ = if special c then some (txt (nm late c)) else none := by decide +kernel
theorem folds_get : ∀ c ∈ alph, c ≠ 68 → calm c = true → (tabGet foldsI ⟨#[c]⟩).getD ⟨#[c]⟩ = txt (pfold c) := by decide +kernel
theorem gen_toks {M : Model} {A : Around} {α : Type} {t : Sem α} {Q : α → Shared → Prop} {E : Value → Shared → Prop} {s : Shared} (h : ∀ k, wpAny M A t Q E { s with toks := k }) : wpAny M A t Q E s := h s.toks
theorem dress_snoc {i j e n c : Nat} {fold late : Bool} {l : List Nat} (h : l[n]? = some c) : dress i j e fold late (l.take (n + 1)) = dress i j e fold late (l.take n) ++ dsign i j e fold late c := by
  rw [List.take_add_one, h, dress_app]
  show _ ++ (dsign i j e fold late c ++ []) = _
  rw [List.append_nil]
theorem foldl_app (l : List Nat) : ∀ (n : Nat) (a : Array Nat), (List.replicate n l.toArray).foldl (· ++ ·) a = a ++ (List.replicate n l).flatten.toArray
  | 0, a => by simp
  | n + 1, a => by
    rw [List.replicate_succ, List.foldl_cons, foldl_app l n, List.replicate_succ, List.flatten_cons]
    simp
theorem mul_txt (l : List Nat) (n : Nat) : Txt.mul (txt l) (n : Int) = txt (List.replicate n l).flatten := by
  unfold Txt.mul
  by_cases h0 : (n : Int) < 1
  · have : n = 0 := by omega
    subst this; rfl
  · rw [if_neg h0]
    by_cases h1 : ((n : Int) == 1 || (txt l).length == 0) = true
    · rw [if_pos h1]
      rcases Bool.or_eq_true_iff.mp h1 with h | h
      · have : n = 1 := by have := beq_iff_eq.mp h; omega
        subst this; simp [txt]
      · have : l = [] := List.length_eq_zero_iff.mp (by have := beq_iff_eq.mp h; rw [length_txt] at this; exact this)
        subst this; simp
    · rw [if_neg h1, Int.toNat_natCast]
      show (⟨(List.replicate n l.toArray).foldl (· ++ ·) #[]⟩ : Str) = _
      rw [foldl_app]; simp [txt]
theorem flat_one (c : Nat) : ∀ n, (List.replicate n [c]).flatten = List.replicate n c
  | 0 => rfl
  | n + 1 => by rw [List.replicate_succ, List.flatten_cons, flat_one c n]; rfl
theorem flat_amps : ∀ n, (List.replicate n [97, 109, 112, 59]).flatten = amps n
  | 0 => rfl
  | n + 1 => by rw [List.replicate_succ, List.flatten_cons, flat_amps n]; rfl
section
variable {prog : Program} {w : World} {A : Around} {E : Value → Shared → Prop} {s : Shared}
theorem mul_line {y : Str} {l : List Nat} {i : Int} {n : Nat} {t u : Tok} {Q : Value → Shared → Prop} (hy : y = txt l) (hl : l.length ≤ 16) (hi : i = (n : Int)) (hn : n ≤ 1048576)
    (h : ∀ t' k, Q (.str (txt (List.replicate n l).flatten) t') { s with toks := k }) : wpAny (model prog w) A (binaryOp .Mult (.str y t) (.int i u)) Q E s := by
  subst hy hi
  refine KXi.mul (n := l.length) rfl hl (i0 _) (Int.ofNat_le.mpr hn) fun t' k _ _ => ?_
  rw [mul_txt]
  exact h t' k
end
local macro_rules | `(tactic| walk_at "exec If") => `(tactic| (k_here; refine wpAny_If ?_))
local macro_rules | `(tactic| walk_at "exec For") => `(tactic| (k_here; refine for_anyF (by assumption) ?_ (by intro _; rfl) (by assumption)))
theorem dsign_sp {i j e : Nat} {fold late : Bool} {c : Nat} (h : c ≠ 92) (hs : special c = true) : dsign i j e fold late c = (if c = 34 then List.replicate ((2 ^ i - 1) * 2 ^ j) 92 else []) ++ (if e = 0 then [c] else 38 :: amps (e - 1) ++ nm late c) := by
  unfold dsign; rw [if_neg h, hs, if_pos rfl]
theorem sp_val {e : Nat} (he : ¬ e = 0) (late : Bool) (c : Nat) : Str.ofString "&" ++ Txt.mul (Str.ofString "amp;") ((e : Int) - 1) ++ txt (nm late c) = txt (38 :: amps (e - 1) ++ nm late c) := by
  rw [show Str.ofString "amp;" = txt [97, 109, 112, 59] by decide +kernel, show (e : Int) - 1 = ((e - 1 : Nat) : Int) by omega, mul_txt, flat_amps, show Str.ofString "&" = txt [38] by decide +kernel, add_txt, add_txt]
  rfl
theorem dress_loop {w : World} {A : Around} {g' : Heap} {L' : Addr} {cdv : Value} {news : List (Addr × Obj)} {s : Shared} {Q : Flow → Shared → Prop} {E : Value → Shared → Prop}
    {l : List Nat} {i j e : Nat} {fold late : Bool} {t ti tj te tp : Tok} {D1 D2 : Addr} {o1 o2 : Obj} {f : Str → Option Value} {m : Str → Option Value}
    (hE : PassesOwn (model Challenge.rw_un0048_01.row.prog w) A (envOf (Str.ofString "_law_dressed") (fnScope [21]) L' 297 cdv) E) (hh : A.handled = none)
    (hm : m = mD (txt l) t (txt []) tp D1 D2 i j e ti tj te fold f)
    (F : Fr g' L' s.heap m) (N : News g' L' s.heap news) (X : (heapK w.params).In g') (M1 : (D1, o1) ∈ news) (M2 : (D2, o2) ∈ news)
    (S1 : SDict Challenge.rw_un0048_01.row.prog w o1 D1 (namesI late)) (S2 : SDict Challenge.rw_un0048_01.row.prog w o2 D2 foldsI)
    (hl : l.length ≤ 2) (hla : ∀ c ∈ l, c ∈ alph ∧ c ≠ 68) (hij : i + j + e ≤ 6)
    (hret : ∀ tp h' tk' f, Fr g' L' h' (mD (txt l) t (txt (dress i j e fold late l)) tp D1 D2 i j e ti tj te fold f) → News g' L' h' news → Q .next { s with heap := h', toks := tk' }) :
    wpAny (model Challenge.rw_un0048_01.row.prog w) A (exec (((fnBody [21])[4]?).getD (.Pass default)) (envOf (Str.ofString "_law_dressed") (fnScope [21]) L' 297 cdv)) Q E s := by
  revert X; k_fill; intro X
  subst hm
  conv => arg 3; arg 1; whnf
  refine for_anyF F ?_ (by intro _; rfl) hE
  k_steps
  with_reducible rename Fr _ _ _ _ => F₂
  with_reducible rename News _ _ _ _ => N₂
  refine iterM_str (m₀ := _) (news := _) (fun n m₁ news₁ => ∃ tp f, m₁ = mD (txt l) t (txt (dress i j e fold late (l.take n))) tp D1 D2 i j e ti tj te fold f ∧ news₁ = news) hh F₂ N₂ ⟨_, _, rfl, rfl⟩ ?turn ?done
  case turn =>
    rintro n c u₁ m₁ news₁ h₂ tk₂ own hc ⟨tp, f, rfl, rfl⟩ hoff hsub _ F₃ N₃
    clear F₂ N₂
    have hcl : l[n]? = some c := by simpa [txt] using hc
    obtain ⟨hcs, hc68⟩ := hla c (List.mem_of_getElem? hcl)
    have hpl : (txt (dress i j e fold late (l.take n))).length ≤ 300 := by
      have h1 := dress_len hij fold late (l.take n)
      rw [List.length_take] at h1
      rw [length_txt]
      omega
    rw [dress_snoc hcl]
    generalize dress i j e fold late (l.take n) = p at hpl F₃ ⊢
    have hp1 := pow6 (i + j) (Nat.le_trans (Nat.le_add_right _ _) hij)
    have hp2 := pow6 i (Nat.le_trans (Nat.le_add_right _ _) (Nat.le_trans (Nat.le_add_right _ _) hij))
    have hp3 := pow6 j (Nat.le_trans (Nat.le_add_left _ _) (Nat.le_trans (Nat.le_add_right _ _) hij))
    k_steps
    · rename (_ == _) = true => h92
      rw [sign_eq (d := 92) (by decide +kernel)] at h92
      replace h92 := of_decide_eq_true h92
      subst h92
      refine mul_line (l := [92]) (n := 2 ^ (i + j)) (by decide +kernel) (by decide) (by rw [show ((i : Int) + (j : Int)).toNat = i + j from Int.toNat_natCast (i + j)]; simp) (Nat.le_trans hp1 (by decide)) ?_
      intro t' k
      rw [flat_one, ds92]
      have hz : (txt (List.replicate (2 ^ (i + j)) 92)).length ≤ 64 := by rw [length_txt, List.length_replicate]; exact hp1
      generalize List.replicate (2 ^ (i + j)) 92 = z at hz ⊢
      k_steps
      with_reducible rename Fr _ _ _ _ => F₇
      with_reducible rename News _ _ _ _ => N₇
      exact ⟨_, _, _, news₁, rfl, fr_D F₇ (congrArg (fun z => some (Value.str z _)) (add_txt _ _)) rfl rfl rfl rfl rfl rfl rfl, N₇, (fun p hp => by simpa using hoff p hp), _, _, rfl, rfl⟩
    · rename (_ == _) = false => h92
      rw [sign_eq (d := 92) (by decide +kernel)] at h92
      replace h92 := of_decide_eq_false h92
      with_reducible rename News _ _ _ _ => N₄
      have hnl : (txt (nm late c)).length ≤ 5 := by rw [length_txt]; exact nm_len late c
      have hsl : (⟨#[c]⟩ : Str).length = 1 := rfl
      refine in_sdict S1 (N₄ _ (List.mem_append_right own M1)).1 ?_
      have hget := names_get c hcs late
      rw [hget]
      cases hsp : special c with
      | true =>
        rw [if_pos rfl]
        dsimp only [Option.isSome_some]
        rw [hsp, if_pos rfl] at hget
        rw [dsign_sp h92 hsp]
        k_steps
        · rename (_ == _) = true => h34
          rw [sign_eq (d := 34) (by decide +kernel)] at h34
          replace h34 := of_decide_eq_true h34
          subst h34
          have hm : (2 ^ i - 1) * 2 ^ j ≤ 4096 := Nat.le_trans (Nat.mul_le_mul (Nat.le_trans (Nat.sub_le _ _) hp2) hp3) (by decide)
          refine mul_line (l := [92]) (n := (2 ^ i - 1) * 2 ^ j) (by decide +kernel) (by decide) ?_ (Nat.le_trans hm (by decide)) ?_
          · have h1 : 1 ≤ 2 ^ i := Nat.pow_pos (by decide)
            rw [Int.natCast_mul, Int.natCast_sub h1]
            simp
          intro t' k
          rw [flat_one, if_pos rfl]
          have hz : (txt (List.replicate ((2 ^ i - 1) * 2 ^ j) 92)).length ≤ 4096 := by rw [length_txt, List.length_replicate]; exact hm
          generalize List.replicate ((2 ^ i - 1) * 2 ^ j) 92 = z at hz ⊢
          k_steps
          · rename ((e : Nat) : Int) = 0 => he
            rw [if_pos (nat_of (b := 0) he)]
            with_reducible rename Fr _ _ _ _ => F₇
            with_reducible rename News _ _ _ _ => N₇
            exact ⟨_, _, _, news₁, rfl, fr_D F₇ (congrArg (fun z => some (Value.str z _)) (by rw [show Str.ofString "\"" = txt [34] by decide +kernel, add_txt, add_txt, List.append_assoc])) rfl rfl rfl rfl rfl rfl rfl, N₇, (fun p hp => by simpa using hoff p hp), _, _, rfl, rfl⟩
          · rename ((e : Nat) : Int) ≠ 0 => he
            have he' : ¬ e = 0 := nat_ne (b := 0) he
            rw [if_neg he']
            with_reducible rename News _ _ _ _ => N₅
            refine item_sdict S1 (N₅ _ (List.mem_append_right own M1)).1 hget ?_
            intro v
            k_steps
            with_reducible rename Fr _ _ _ _ => F₇
            with_reducible rename News _ _ _ _ => N₇
            exact ⟨_, _, _, news₁, rfl, fr_D F₇ (congrArg (fun z => some (Value.str z _)) (by rw [sp_val he', add_txt, add_txt, List.append_assoc])) rfl rfl rfl rfl rfl rfl rfl, N₇, (fun p hp => by simpa using hoff p hp), _, _, rfl, rfl⟩
        · rename ((e : Nat) : Int) = 0 => he
          rename (_ == _) = false => h34
          rw [sign_eq (d := 34) (by decide +kernel)] at h34
          replace h34 := of_decide_eq_false h34
          rw [if_neg h34, if_pos (nat_of (b := 0) he)]
          with_reducible rename Fr _ _ _ _ => F₇
          with_reducible rename News _ _ _ _ => N₇
          exact ⟨_, _, _, news₁, rfl, fr_D F₇ (congrArg (fun z => some (Value.str z _)) (by rw [show (⟨#[c]⟩ : Str) = txt [c] from rfl, add_txt]; rfl)) rfl rfl rfl rfl rfl rfl rfl, N₇, (fun p hp => by simpa using hoff p hp), _, _, rfl, rfl⟩
        · rename ((e : Nat) : Int) ≠ 0 => he
          rename (_ == _) = false => h34
          rw [sign_eq (d := 34) (by decide +kernel)] at h34
          replace h34 := of_decide_eq_false h34
          have he' : ¬ e = 0 := nat_ne (b := 0) he
          rw [if_neg h34, if_neg he']
          with_reducible rename News _ _ _ _ => N₅
          refine item_sdict S1 (N₅ _ (List.mem_append_right own M1)).1 hget ?_
          intro v
          k_steps
          with_reducible rename Fr _ _ _ _ => F₇
          with_reducible rename News _ _ _ _ => N₇
          exact ⟨_, _, _, news₁, rfl, fr_D F₇ (congrArg (fun z => some (Value.str z _)) (by rw [sp_val he', add_txt]; rfl)) rfl rfl rfl rfl rfl rfl rfl, N₇, (fun p hp => by simpa using hoff p hp), _, _, rfl, rfl⟩
      | false =>
        rw [if_neg (by decide)]
        dsimp only [Option.isSome_none]
        have hcalm : calm c = true := by unfold calm; rw [hsp]; simp [h92]
        rw [dsign_calm hcalm]
        k_steps
        · rename fold = true => hf
          with_reducible rename News _ _ _ _ => N₅
          refine getMethod_sdict S2 (N₅ _ (List.mem_append_right own M2)).1 ?_
          k_steps
          with_reducible rename News _ _ _ _ => N₆
          refine call_sget S2 (N₆ _ (List.mem_append_right own M2)).1 ?_
          intro v
          rw [folds_get c hcs hc68 hcalm, if_pos hf]
          have hpf : (txt (pfold c)).length ≤ 3 := by rw [length_txt]; exact pfold_len c
          generalize pfold c = z at hpf ⊢
          k_steps
          with_reducible rename Fr _ _ _ _ => F₇
          with_reducible rename News _ _ _ _ => N₇
          exact ⟨_, _, _, news₁, rfl, fr_D F₇ (congrArg (fun z => some (Value.str z _)) (add_txt _ _)) rfl rfl rfl rfl rfl rfl rfl, N₇, (fun p hp => by simpa using hoff p hp), _, _, rfl, rfl⟩
        · rename fold = false => hf
          rw [if_neg (by rw [hf]; decide)]
          with_reducible rename Fr _ _ _ _ => F₇
          with_reducible rename News _ _ _ _ => N₇
          exact ⟨_, _, _, news₁, rfl, fr_D F₇ (congrArg (fun z => some (Value.str z _)) (add_txt p [c])) rfl rfl rfl rfl rfl rfl rfl, N₇, (fun p hp => by simpa using hoff p hp), _, _, rfl, rfl⟩
  case done =>
    rintro h₂ tk₂ m₁ news₁ F₃ N₃ hoff ⟨tp, f, rfl, rfl⟩
    clear F₂ N₂
    have hz : l.take (txt l).cps.size = l := by
      show l.take l.length = l
      exact List.take_length
    rw [hz] at F₃
    k_steps
    exact hret _ _ _ _ (by assumption) (by assumption)
end Mine
end

section
open PySem PySem.W PyProof.Rows PySem.Calls
set_option maxRecDepth 100000
set_option Elab.async false
set_option linter.unusedVariables false
set_option maxHeartbeats 4000000
namespace Mine
theorem putS_late : putS (putS (namesI false) (Str.ofString "\n") (Str.ofString "#xa;")) (Str.ofString "\x0d") (Str.ofString "#xd;") = namesI true := by decide +kernel
local macro_rules | `(tactic| walk_at "exec For") => `(tactic| (k_here; refine of_held ?_))
local macro_rules | `(tactic| walk_at "setItem ref str") => `(tactic| (k_here; refine of_held ?_))
theorem dr_one {g h : Heap} {L D1 : Addr} {o1 : Obj} {news : List (Addr × Obj)} {P : Program} {w : World} {kvs1 : List (Str × Value)} {its : List (Str × Str)} (N : News g L h ((D1, o1) :: news))
    (lo1 : (D1 == sysModules) = false) (hd1 : o1.IsDictOf (strKind P w) kvs1) (s1 : SVs kvs1 its) : SDict P w o1 D1 its := ⟨lo1, _, hd1, s1⟩
theorem dr_old {g h : Heap} {L D1 D2 : Addr} {o1 o2 : Obj} {news : List (Addr × Obj)} {P : Program} {w : World} {kvs1 : List (Str × Value)} {its : List (Str × Str)} (N : News g L h ((D2, o2) :: (D1, o1) :: news))
    (lo1 : (D1 == sysModules) = false) (hd1 : o1.IsDictOf (strKind P w) kvs1) (s1 : SVs kvs1 its) : SDict P w o1 D1 its := ⟨lo1, _, hd1, s1⟩
theorem dr_two {g h : Heap} {L D1 D2 : Addr} {o1 o2 : Obj} {news : List (Addr × Obj)} {P : Program} {w : World} {kvs2 : List (Str × Value)} {its : List (Str × Str)} (N : News g L h ((D2, o2) :: (D1, o1) :: news))
    (lo2 : (D2 == sysModules) = false) (hd2 : o2.IsDictOf (strKind P w) kvs2) (s2 : SVs kvs2 its) : SDict P w o2 D2 its := ⟨lo2, _, hd2, s2⟩
theorem dressed {w : World} {mean : ExcName → Option Value} {mg mb : Str → Option Value}
    {dp un : Nat} {gd : Option (List Code)} {cn : Str} {cs : Scope} {a : Addr} {ccd : Value} {cl : List (Str × Addr)} {outer : List Env} {A₀ : Around} {base h₀ : Heap} {L : Addr} {m : Str → Option Value} {news : List (Addr × Obj)} {s : Shared} {Q E : Value → Shared → Prop}
    {l : List Nat} {i j e : Nat} {fold late : Bool} {t ti tj te tf tl : Tok}
    (B : Below A₀ base outer h₀) (F : Fr h₀ L s.heap m) (X : (heapK w.params).In h₀) (N : News h₀ L s.heap news) (T : Top vwT (looseW vwT looseT) mean mg mb h₀) (hk : cs.kind = .function)
    (hd : dp + 20 < recursionLimit) (hu : un + 100 < cLine) (hl : l.length ≤ 2) (hla : ∀ c ∈ l, c ∈ alph ∧ c ≠ 68) (hij : i + j + e ≤ 6)
    (hret : ∀ t h' tk', Fr h₀ L h' m → News h₀ L h' news → Q (.str (txt (dress i j e fold late l)) t) { s with heap := h', toks := tk' }) :
    wpAny (model Challenge.rw_un0048_01.row.prog w) (ktrTop dp un gd cn cs L a ccd cl outer) (call (.ref 297) [.str (txt l) t, .int (i : Int) ti, .int (j : Int) tj, .int (e : Int) te, .bool fold, .bool late]) Q E s := by
  revert X; k_fill; intro X
  refine wpAny_call ?_
  k_dflt (refine' code_def ?k1 ?k2 ?k3 ?k4 ?k5 ?kA ?kF ?kK ?k6 ?k7 ?k8 ?k9 ?kB ?_ ?c2 ?c3 ?c4 ?c5; (case kA => exact rfl); (case kF => exact rfl); (case kK => assumption); (case k1 => k_asm); (case k2 => k_asm); (case k3 => k_asm); (case k4 => k_asm); (case k5 => k_asm); (case k6 => k_is); (case k7 => k_is); (case k8 => first | exact fits0 hd | ktr_room); (case k9 => first | exact BindsTo.of_eq rfl | exact binds_K (by k_in) rfl (by k_is) rfl rfl rfl); (case c5 => decide); (case kB => exact locs rfl); (case c2 => exact rfl); (case c3 => exact rfl); (case c4 => exact rfl); k_whole; intro g' L' h' FG' F' N' B' X' T'; (try dsimp only); (try k_fold))
  conv => arg 3; arg 1; whnf
  k_steps
  · rename late = true => hlt
    subst hlt
    refine ⟨?_⟩
    with_reducible rename Fr _ _ _ _ => F₂
    with_reducible rename News _ _ _ _ => N₂
    have S1 : SDict Challenge.rw_un0048_01.row.prog w _ _ (namesI false) := dr_one N₂ (by assumption) (by assumption) (by exact ⟨rfl, ⟨_, rfl⟩, rfl, ⟨_, rfl⟩, rfl, ⟨_, rfl⟩, rfl, ⟨_, rfl⟩, rfl, ⟨_, rfl⟩, rfl, ⟨_, rfl⟩, trivial⟩)
    refine set_sdict F₂ N₂ (by assumption) S1 (by decide) ?_
    intro h₃ o₃ F₃ N₃ S3
    clear F₂ N₂ S1
    k_steps
    refine ⟨?_⟩
    with_reducible rename Fr _ _ _ _ => F₂
    with_reducible rename News _ _ _ _ => N₂
    refine set_sdict F₂ N₂ (by assumption) S3 (by decide) ?_
    intro h₄ o₄ F₄ N₄ S1
    clear F₂ N₂ S3
    rw [putS_late] at S1
    k_steps
    refine ⟨?_⟩
    with_reducible rename Fr _ _ _ _ => F₂
    with_reducible rename News _ _ _ _ => N₂
    have S2 : SDict Challenge.rw_un0048_01.row.prog w _ _ foldsI := dr_two N₂ (by assumption) (by assumption) (by exact ⟨rfl, ⟨_, rfl⟩, rfl, ⟨_, rfl⟩, rfl, ⟨_, rfl⟩, rfl, ⟨_, rfl⟩, rfl, ⟨_, rfl⟩, rfl, ⟨_, rfl⟩, rfl, ⟨_, rfl⟩, trivial⟩)
    refine dress_loop (by passes_own) rfl rfl (fr_D F₂ rfl rfl rfl rfl rfl rfl rfl rfl) N₂ (by assumption) (.tail _ (.head _)) (.head _) S1 S2 hl hla hij ?_
    intro tp h₅ tk₅ f F₅ N₅
    clear F₂ N₂
    k_steps
    with_reducible rename News _ _ _ _ => N₇
    exact hret _ _ _ (by assumption) (fun p hp => N₇ p (.tail _ (.tail _ hp)))
  · rename late = false => hlt
    subst hlt
    refine ⟨?_⟩
    with_reducible rename Fr _ _ _ _ => F₂
    with_reducible rename News _ _ _ _ => N₂
    have S2 : SDict Challenge.rw_un0048_01.row.prog w _ _ foldsI := dr_two N₂ (by assumption) (by assumption) (by exact ⟨rfl, ⟨_, rfl⟩, rfl, ⟨_, rfl⟩, rfl, ⟨_, rfl⟩, rfl, ⟨_, rfl⟩, rfl, ⟨_, rfl⟩, rfl, ⟨_, rfl⟩, rfl, ⟨_, rfl⟩, trivial⟩)
    have S1 : SDict Challenge.rw_un0048_01.row.prog w _ _ (namesI false) := dr_old N₂ (by assumption) (by assumption) (by exact ⟨rfl, ⟨_, rfl⟩, rfl, ⟨_, rfl⟩, rfl, ⟨_, rfl⟩, rfl, ⟨_, rfl⟩, rfl, ⟨_, rfl⟩, rfl, ⟨_, rfl⟩, trivial⟩)
    refine dress_loop (by passes_own) rfl rfl (fr_D F₂ rfl rfl rfl rfl rfl rfl rfl rfl) N₂ (by assumption) (.tail _ (.head _)) (.head _) S1 S2 hl hla hij ?_
    intro tp h₃ tk₃ f F₃ N₃
    clear F₂ N₂
    k_steps
    with_reducible rename News _ _ _ _ => N₇
    exact hret _ _ _ (by assumption) (fun p hp => N₇ p (.tail _ (.tail _ hp)))
end Mine
end

section
open PySem PySem.W PyProof.Rows PySem.Calls
set_option maxRecDepth 100000
set_option Elab.async false
set_option linter.unusedVariables false
set_option maxHeartbeats 4000000
namespace Mine
local macro_rules | `(tactic| walk_at "no such key") => `(tactic| skip)
theorem repq1 (v : List Nat) : Txt.replace (txt v) (Str.ofString "\\") (Str.ofString "\\\\") = txt (sub1 92 [92, 92] v) := by
  rw [show Str.ofString "\\" = ⟨#[92]⟩ by decide +kernel, show Str.ofString "\\\\" = txt [92, 92] by decide +kernel, replace_txt]; rfl
theorem repq2 (v : List Nat) : Txt.replace (txt v) (Str.ofString "\"") (Str.ofString "\\\"") = txt (sub1 34 [92, 34] v) := by
  rw [show Str.ofString "\"" = ⟨#[34]⟩ by decide +kernel, show Str.ofString "\\\"" = txt [92, 34] by decide +kernel, replace_txt]; rfl
theorem quote_sub (v : List Nat) : sub1 34 [92, 34] (sub1 92 [92, 92] v) = v.flatMap quoteSign := by
  unfold sub1
  rw [List.flatMap_assoc]
  congr 1
  funext c
  unfold quoteSign
  by_cases h : c = 92
  · subst h; rfl
  · rw [if_neg h, if_neg h]
    by_cases h2 : c = 34
    · subst h2; rfl
    · rw [if_neg h2]; simp [h2]
theorem sub_len2 {c a b : Nat} : ∀ v : List Nat, (sub1 c [a, b] v).length ≤ 2 * v.length
  | [] => Nat.le_refl _
  | d :: v => by
    have h1 := sub_len2 (c := c) (a := a) (b := b) v
    show ((if d = c then [a, b] else [d]) ++ sub1 c [a, b] v).length ≤ _
    rw [List.length_append, List.length_cons]
    split
    · show 2 + _ ≤ _; omega
    · show 1 + _ ≤ _; omega
theorem param_eq (c : Nat) {v : List Nat} (h : v ≠ []) : Str.empty ++ txt [c, 45] ++ Str.ofString "=\"" ++ txt (v.flatMap quoteSign) ++ Str.ofString "\"" = txt (room c v) := by
  rw [show Str.empty = txt [] from rfl, show Str.ofString "=\"" = txt [61, 34] by decide +kernel, show Str.ofString "\"" = txt [34] by decide +kernel, add_txt, add_txt, add_txt, add_txt]
  unfold room
  rw [if_neg h]
  simp
local macro_rules | `(tactic| walk_at "exec If") => `(tactic| (k_here; refine wpAny_If ?_))
local macro_rules | `(tactic| walk_at "execs cons") => `(tactic| (k_here; (with_reducible refine wpAny_execs_cons ?_); (try dsimp only); (refine with_pos ?p ?_; (case p => first | assumption | exact Nat.succ_pos _); intro k0 hk0; try dsimp only)))
theorem fmt_param {w : World} {mean : ExcName → Option Value} {mg mb : Str → Option Value}
    {dp un : Nat} {gd : Option (List Code)} {cn : Str} {cs : Scope} {a : Addr} {ccd : Value} {cl : List (Str × Addr)} {outer : List Env} {A₀ : Around} {base h₀ : Heap} {L : Addr} {m : Str → Option Value} {news : List (Addr × Obj)} {s : Shared} {Q E : Value → Shared → Prop}
    {c : Nat} {v : List Nat} {tp tv : Tok}
    (B : Below A₀ base outer h₀) (F : Fr h₀ L s.heap m) (X : (heapK w.params).In h₀) (N : News h₀ L s.heap news) (T : Top vwT (looseW vwT looseT) mean mg mb h₀) (hk : cs.kind = .function)
    (hd : dp + 20 < recursionLimit) (hu : un + 100 < cLine) (hv : v.length ≤ 100000)
    (hret : ∀ t h' tk', Fr h₀ L h' m → News h₀ L h' news → Q (.str (txt (room c v)) t) { s with heap := h', toks := tk' }) :
    wpAny (model Challenge.rw_un0048_01.row.prog w) (ktrTop dp un gd cn cs L a ccd cl outer) (call (.ref 61) [.str (txt [c, 45]) tp, .str (txt v) tv]) Q E s := by
  have l0 : (txt v).length ≤ 1048576 := by rw [length_txt]; omega
  have l1 : (txt [c, 45]).length = 2 := rfl
  revert X; k_fill; intro X
  refine wpAny_call ?_
  k_dflt (refine' code_def ?k1 ?k2 ?k3 ?k4 ?k5 ?kA ?kF ?kK ?k6 ?k7 ?k8 ?k9 ?kB ?_ ?c2 ?c3 ?c4 ?c5; (case kA => exact rfl); (case kF => exact rfl); (case kK => assumption); (case k1 => k_asm); (case k2 => k_asm); (case k3 => k_asm); (case k4 => k_asm); (case k5 => k_asm); (case k6 => k_is); (case k7 => k_is); (case k8 => first | exact fits0 hd | ktr_room); (case k9 => first | exact BindsTo.of_eq rfl | exact binds_K (by k_in) rfl (by k_is) rfl rfl rfl); (case c5 => decide); (case kB => exact locs rfl); (case c2 => exact rfl); (case c3 => exact rfl); (case c4 => exact rfl); k_whole; intro g' L' h' FG' F' N' B' X' T'; (try dsimp only); (try k_fold))
  conv => arg 3; arg 1; whnf
  refine with_pos (show 0 < s.toks + 3 from Nat.succ_pos _) ?_
  intro k0 hk0
  dsimp only
  k_steps
  · refine replace_pos (Nat.succ_pos _) (Nat.pos_iff_ne_zero.mp (by assumption)) (Nat.succ_ne_zero _) (Nat.ne_of_lt (Nat.lt_succ_self _)) (by decide +kernel) l0 (by decide) ?_
    intro t1 k1 hk1
    rw [repq1]
    have l2 : (txt (sub1 92 [92, 92] v)).length ≤ 1048576 := by rw [length_txt]; have := sub_len2 (c := 92) (a := 92) (b := 92) v; omega
    k_steps
    refine replace_pos (Nat.succ_pos _) (Nat.pos_iff_ne_zero.mp (by assumption)) (Nat.succ_ne_zero _) (Nat.ne_of_lt (Nat.lt_succ_self _)) (by decide +kernel) l2 (by decide) ?_
    intro t2 k2 hk2
    rw [repq2, quote_sub]
    have l3 : (txt (v.flatMap quoteSign)).length ≤ 800000 := by
      rw [length_txt, ← quote_sub]
      have h1 := sub_len2 (c := 92) (a := 92) (b := 92) v
      have h2 := sub_len2 (c := 34) (a := 92) (b := 34) (sub1 92 [92, 92] v)
      omega
    k_steps
    rename 0 < ((txt v).length : Int) => hpos
    have hne : v ≠ [] := by rintro rfl; exact absurd hpos (by decide)
    rw [param_eq c hne]
    clear l0 l1 l2 l3
    with_reducible rename Fr _ _ _ _ => F₇
    with_reducible rename News _ _ _ _ => N₇
    exact hret _ _ _ F₇ N₇
  · rename ¬ 0 < ((txt v).length : Int) => hpos
    have hv0 : v = [] := List.length_eq_zero_iff.mp (by rw [length_txt] at hpos; omega)
    have e : txt [c, 45] = txt (room c v) := by rw [hv0]; rfl
    rw [e]
    exact hret _ _ _ (by assumption) (by assumption)
end Mine
end

section
open PySem PySem.W PyProof.Rows PySem.Calls
set_option maxRecDepth 100000
set_option Elab.async false
set_option linter.unusedVariables false
namespace Mine
theorem runs_toks {M : Model} {Γ : Ctx} {p : Pos} {t : Sem Fin} {fs : List Frame} {s s' : Shared} {e : End} (h : Runs M Γ p t fs s e s') : s.toks ≤ s'.toks := by
  induction h with
  | fresh _ ih => exact Nat.le_trans (Nat.le_succ _) ih
  | done | raise | yield => exact Nat.le_refl _
  | call _ _ h1 h2 | resumeFresh _ _ _ _ h1 h2 | resumeSuspended _ _ _ _ h1 h2 | segRet _ _ h1 h2 | segGen _ _ h1 h2 | segSuspGen _ _ _ _ h1 h2 => exact Nat.le_trans h1 h2
  | _ => assumption
theorem wp_toks {α : Type} {M : Model} {Γ : Ctx} {Q : α → Pos → Shared → Prop} {E : Value → Pos → Shared → Prop} {n : Nat} (t : Sem α) : ∀ (p : Pos) (s : Shared), n ≤ s.toks → Sem.wp M Γ t (fun a p s' => n ≤ s'.toks → Q a p s') E p s →
    Sem.wp M Γ t Q E p s := by
  induction t <;> intro p s hn h <;> unfold Sem.wp at h ⊢
  all_goals try exact h hn
  all_goals try exact h
  all_goals try (rename_i ih; exact ih _ _ _ hn h)
  all_goals try (rename_i ih; exact ih _ _ hn h)
  case load ih => obtain ⟨o, e, h⟩ := h; exact ⟨o, e, ih _ _ _ hn h⟩
  case update ih => exact ⟨h.1, ih _ _ _ hn h.2⟩
  case fresh ih => exact ih _ _ _ (Nat.le_succ_of_le hn) h
  case choose ih => exact ⟨h.1, ih _ _ _ hn h.2⟩
  case call ih =>
    obtain ⟨r, s', e, h⟩ := h
    exact ⟨r, s', e, ih _ _ _ (Nat.le_trans hn (runs_toks e)) h⟩
  case genState ih => obtain ⟨o, e, h⟩ := h; exact ⟨o, e, ih _ _ _ hn h⟩
  case resume ih =>
    obtain ⟨r, s', e, h⟩ := h
    refine ⟨r, s', e, ih _ _ _ (Nat.le_trans hn ?_) h⟩
    unfold Wakes at e
    split at e
    · exact e.elim
    · split at e
      · obtain ⟨e₁, s₁, x, _, _, rfl⟩ := e
        have z := runs_toks x; exact z
      · rw [e.2]; exact Nat.le_refl _
      · rw [e.2]; exact Nat.le_refl _
    · obtain ⟨e₁, s₁, x, _, _, rfl⟩ := e
      have z := runs_toks x; exact z
    all_goals first | (rw [e.2]; exact Nat.le_refl _) | skip
/-- the tokens never fall -/
theorem toks_up {α : Type} {M : Model} {A : Around} {t : Sem α} {Q : α → Shared → Prop} {E : Value → Shared → Prop} {s : Shared} (h : wpAny M A t (fun a s' => s.toks ≤ s'.toks → Q a s') E s) : wpAny M A t Q E s :=
  fun Γ p hΓ => wp_toks t p s (Nat.le_refl _) (h Γ p hΓ)
theorem pos_up {α : Type} {M : Model} {A : Around} {t : Sem α} {Q : α → Shared → Prop} {E : Value → Shared → Prop} {s : Shared} (hp : 0 < s.toks) (h : wpAny M A t (fun a s' => 0 < s'.toks → Q a s') E s) : wpAny M A t Q E s :=
  toks_up (wpAny_mono h (fun a s' k q => k (Nat.lt_of_lt_of_le hp q)) fun _ _ k => k)
end Mine
end

section
open PySem PySem.W PyProof.Rows PySem.Calls
set_option maxRecDepth 100000
set_option Elab.async false
set_option linter.unusedVariables false
namespace Mine
section
variable {prog : Program} {w : World} {K : Type} [DecidableEq K] {knd : KeyKind prog w K} {A : Around} {E : Value → Shared → Prop} {s : Shared} {env : Env} {h₀ : Heap} {xk xv : Str} {body : List Stmt} {Q : Flow → Shared → Prop}
/-- a loop over a dict's items with an invariant of the names and the ledger; the tokens are told -/
theorem iterM_items {vw d : Addr} {kvs : List (K × Value)} {m₀ : Str → Option Value} {news : List (Addr × Obj)} (J : Nat → (Str → Option Value) → List (Addr × Obj) → Prop)
    (hh : A.handled = none) (hxk : env.kindOf xk = some .local) (hxv : env.kindOf xv = some .local)
    (hp : (env.scope.kind == .class || (env.scope.kind == .module && env.locals != env.globals)) = false)
    (hvw : ∃ ov, s.heap.get? vw = some ov ∧ ov.cls = .type "dict_items" ∧ ov.data = .fields #[.ref d]) (hd : s.heap.DictOf knd d kvs) (hdL : d ≠ env.locals)
    (F : Fr h₀ env.locals s.heap m₀) (N : News h₀ env.locals s.heap news) (hj : J 0 m₀ news)
    (turn : ∀ i k v key m₁ news₁ h tk own, kvs[i]? = some (k, v) → knd.is k key = true → J i m₁ news₁ → 0 < tk → (∀ p ∈ news₁, p.1 ≠ s.heap.objs.size) → (∀ p ∈ own, p.1 = s.heap.objs.size ∨ p.1 = d) →
      Fr h₀ env.locals h (fun y => if y = xv then some v else if y = xk then some key else m₁ y) → News h₀ env.locals h (own ++ news₁) →
      wpAny (model prog w) A (execs body env) (TurnM h₀ env.locals [s.heap.objs.size] own (J (i + 1)) s Q) E { s with heap := h, toks := tk })
    (done : ∀ h' tk m' news', Fr h₀ env.locals h' m' → News h₀ env.locals h' news' → (∀ p ∈ news', p.1 ≠ s.heap.objs.size) → J kvs.length m' news' → Q .next { s with heap := h', toks := tk })
    (hE : PassesOwn (model prog w) A env E := by passes_own) :
    wpAny (model prog w) A (pyIter (.ref vw)) (fun it s₂ => PairLoopAt prog w A h₀ env xk xv body Q E it s₂) E s := by
  obtain ⟨ep, hat⟩ := hd.dictAt
  refine wpAny_pyIter_items (knd := knd) (d := d) (kvs := kvs) (ep := ep) hvw hat ?_
  intro pk pv pt x1
  have hdlt : d < s.heap.objs.size := hat.lt_size
  generalize hit0 : s.heap.objs.size = it at *
  have hiL : it ≠ env.locals := hit0 ▸ Nat.ne_of_gt F.ns.lt
  have hdi : d ≠ it := Nat.ne_of_lt hdlt
  have hin : h₀.get? it = none := hit0 ▸ next_is_new F
  have hLf : env.locals ∉ [it, d] := by
    intro hx
    rcases List.mem_cons.mp hx with e | hx
    · exact hiL e.symm
    · exact hdL (List.mem_singleton.mp hx).symm
  have oldNe : ∀ b o, h₀.get? b = some o → b ≠ it := fun b o e q => by rw [q, hin] at e; cases e
  refine codeAny_forLoop_any
    (fun n s' => ∃ h' tk m' news' i ok ov, s' = { s with heap := h', toks := tk } ∧ IsItemIter h' it d i kvs.length ep ok ov ∧ h'.DictAt knd d kvs ep ∧ Fr h₀ env.locals h' m' ∧ News h₀ env.locals h' news' ∧ (∀ p ∈ news', p.1 ≠ it) ∧ J i m' news' ∧ i ≤ kvs.length ∧
      n = kvs.length + 1 - i) ?_ (kvs.length + 1)
    ⟨_, s.toks, m₀, news, 0, .none, .none, rfl, by rw [← hit0]; exact Heap.get?_push_size _ rfl, hat.push _, F.push _, fun p hp => ⟨Heap.get?_push_of_some _ (N p hp).1, (N p hp).2⟩, fun p hp => hit0 ▸ Nat.ne_of_lt (Heap.lt_size (N p hp).1), hj, Nat.zero_le _, rfl⟩
  rintro n s' ⟨H, tk, m', news', i, ok, ov, rfl, hit', hm', F', N', hnw, hJ, hi, rfl⟩
  have hn' := F'.ns
  cases hv : kvs[i]? with
  | none =>
    have hsz : i = kvs.length := Nat.le_antisymm hi (by simpa using hv)
    refine wpAny_pyNext_items_end hh hit' hm' hv fun h₁ he₁ => wpAny_execs_nil ?_
    exact done h₁ tk m' news' ⟨hn'.extBut he₁ (Ne.symm hiL), fun b o e => he₁ b o (oldNe b o e) (F'.keep b o e), F'.above⟩
      (fun p hp => ⟨he₁ _ _ (hnw p hp) (N' p hp).1, (N' p hp).2⟩) hnw (hsz ▸ hJ)
  | some kv =>
    obtain ⟨k, v⟩ := kv
    have hlt : i < kvs.length := (List.getElem?_eq_some_iff.mp hv).1
    have hiH : it < H.objs.size := Heap.lt_size hit'
    have hLH : env.locals < H.objs.size := hn'.lt
    have hdH : d < H.objs.size := hm'.lt_size
    refine wpAny_pyNext_items_item hit' hm' hv fun key h₁ hkey heo ht₁ hz₁ hk₁ => ?_
    refine wpAny_letOwnedTupleGo_items heo fun h₂ he₂ hs₂ => ?_
    replace hs₂ : Heap.SameBut it h₁ h₂ := hs₂
    have ht₂ : h₂.IsTuple H.objs.size #[key, v] := ⟨_, (hs₂.2 _ (Nat.ne_of_gt hiH)).trans ht₁, rfl, _, rfl⟩
    have hz₂ : h₂.objs.size = H.objs.size + 1 := hs₂.1.trans hz₁
    refine wpAny_assign_Tuple hh ht₂ rfl rfl fun h₃ hx₃ => ?_
    replace hx₃ : Heap.ExtBut h₂.objs.size h₂ h₃ := hx₃
    have old₃ : ∀ b o, b < H.objs.size → h₂.get? b = some o → h₃.get? b = some o := fun b o hb x => hx₃ b o (by rw [hz₂]; exact Nat.ne_of_lt (Nat.lt_succ_of_lt hb)) x
    have up₃ : ∀ b o, b ≠ it → H.get? b = some o → h₃.get? b = some o := fun b o hb x => old₃ b o (Heap.lt_size x) (hs₂.extBut b o hb (hk₁ b o hb x))
    have F₃ : Fr h₀ env.locals h₃ m' := ⟨hn'.at fun o x => up₃ _ o (Ne.symm hiL) x, fun b o e => up₃ b o (oldNe b o e) (F'.keep b o e), F'.above⟩
    have N₃ : News h₀ env.locals h₃ news' := fun p hp => ⟨up₃ _ _ (hnw p hp) (N' p hp).1, (N' p hp).2⟩
    show wpAny _ _ (do holding [v] (assign (.Name xk pk) env key); do holding [] (assign (.Name xv pv) env v); pure ()) _ _ _
    refine wpAny_bind (wpAny_holding (wpAny_assign_Name (wpAny_storeName_local hxk F₃.ns (fun h₄ hn₄ hs₄ => ?_) hp)))
    replace hs₄ : Heap.SameBut env.locals h₃ h₄ := hs₄
    have F₄ := F₃.set hn₄ hs₄
    refine wpAny_bind (wpAny_holding (wpAny_assign_Name (wpAny_storeName_local hxv F₄.ns (fun h₅ hn₅ hs₅ => wpAny_pure ?_) hp)))
    replace hs₅ : Heap.SameBut env.locals h₄ h₅ := hs₅
    have F₅ := F₄.set hn₅ hs₅
    have N₅ : News h₀ env.locals h₅ news' := (N₃.set hs₄).set hs₅
    have up₅ : ∀ b o, b ≠ env.locals → b < H.objs.size → h₂.get? b = some o → h₅.get? b = some o := fun b o hbL hb x => hs₅.extBut b o hbL (hs₄.extBut b o hbL (old₃ b o hb x))
    have hm₂ : h₂.DictAt knd d kvs ep := (hm'.at fun o x => hk₁ d o hdi x).extBut hs₂.extBut hdi
    have hm₅ : h₅.DictAt knd d kvs ep := hm₂.at fun o x => up₅ d o hdL hdH x
    have hit₅ := up₅ it _ hiL hiH he₂
    refine wpAny_passesOwn hE ?_
    show wpAny _ _ _ _ _ ({ s with heap := h₅, toks := tk + 1 + 1 } : Shared)
    refine wpAny_mono (turn i k v key m' news' h₅ (tk + 1 + 1) (PyProof.Rows.ownOf h₀ [it, d] h₅) hv hkey hJ (Nat.succ_pos _) hnw (fun p hp => by
      rcases List.mem_cons.mp (ownOf_sub p hp) with e | e
      · exact .inl e
      · exact .inr (List.mem_singleton.mp e)) F₅ (fun p hp => (List.mem_append.mp hp).elim (news_ownOf hLf p) (N₅ p))) (fun f s₃ h₆ => ?_) fun _ _ x => x
    have keep₆ : ∀ {h₆ : Heap} {m₂ : Str → Option Value} {news₂ : List (Addr × Obj)}, Fr h₀ env.locals h₆ m₂ → News h₀ env.locals h₆ (ownOf h₀ [it, d] h₅ ++ news₂) → ∀ b ∈ [it, d], ∀ o, h₅.get? b = some o → h₆.get? b = some o := fun {h₆ m₂ news₂} F₆ N₆ b hb o e => by
      cases hn : h₀.get? b with
      | some o₀ =>
        have : o₀ = o := by have q := F₅.keep b o₀ hn; rw [e] at q; exact (Option.some.inj q).symm
        exact this ▸ F₆.keep b o₀ hn
      | none => exact (N₆ _ (List.mem_append_left _ (mem_ownOf hb hn e))).1
    have go : (∃ h' tk m₃ news₃, s₃ = { s with heap := h', toks := tk } ∧ Fr h₀ env.locals h' m₃ ∧ News h₀ env.locals h' (PyProof.Rows.ownOf h₀ [it, d] h₅ ++ news₃) ∧ (∀ p ∈ news₃, p.1 ∉ [it]) ∧ J (i + 1) m₃ news₃) →
        ∃ m, m < kvs.length + 1 - i ∧ (∃ h' tk m' news' i ok ov, s₃ = { s with heap := h', toks := tk } ∧ IsItemIter h' it d i kvs.length ep ok ov ∧ h'.DictAt knd d kvs ep ∧ Fr h₀ env.locals h' m' ∧ News h₀ env.locals h' news' ∧ (∀ p ∈ news', p.1 ≠ it) ∧ J i m' news' ∧ i ≤ kvs.length ∧
      m = kvs.length + 1 - i) := by
      rintro ⟨h₆', tk₆, m₂, news₂, rfl, F₆, N₆, ha₆, hJ₆⟩
      refine ⟨kvs.length + 1 - (i + 1), turn_lt hlt, h₆', tk₆, m₂, news₂, i + 1, key, v, rfl, keep₆ F₆ N₆ it (by simp) _ hit₅, hm₅.at fun o x => keep₆ F₆ N₆ d (by simp) o x, F₆, N₆.right, fun p hp e => ha₆ p hp (by rw [e]; exact .head _), hJ₆, hlt, rfl⟩
    cases f with
    | next => exact go h₆
    | cont => exact go h₆
    | brk => exact h₆
    | ret v => exact h₆
end
end Mine
end

section
open PySem PySem.W PyProof.Rows PySem.Calls
set_option maxRecDepth 100000
set_option Elab.async false
set_option linter.unusedVariables false
set_option maxHeartbeats 4000000
namespace Mine
local macro_rules | `(tactic| walk_at "leaving ref") => `(tactic| (k_here; first
  | (refine' leave_raiseS ?k1 ?k0 ?k2 ?k3 ?_; (case k0 => first | assumption | exact Heap.MadeExc.of (by assumption)); (case k2 => assumption); (case k1 => assumption); (case k3 => k_asm); k_whole; intro h' t' R' K' U'; clear K'; (try dsimp only at R' U' ⊢))
  | (refine' leave_onS ?k1 ?k2 ?k3 ?k4 ?_; (case k3 => assumption); (case k2 => assumption); (case k1 => assumption); (case k4 => assumption); k_whole; intro h' R' K' U'; clear K'; (try dsimp only at R' U' ⊢))))
theorem raised_sub {base G h : Heap} {l : List Env} {e t : Addr} {cls : Value} {vs : List Value} {led news : List (Addr × Obj)} (R : RaisedS base G l e cls t vs led h) (hs : ∀ q ∈ news, q ∈ led) : RaisedS base G l e cls t vs news h := by
  obtain ⟨⟨B, hB, k, hl, hfl, hnew⟩, htup⟩ := R
  exact ⟨⟨B, hB, k, fun q hq => hl q (hs q hq), hfl, hnew⟩, htup⟩
theorem mem_up2 {h₀ h : Heap} {L : Addr} {a b x : Addr × Obj} {rest : List (Addr × Obj)} (N : News h₀ L h (a :: b :: rest)) (q : x ∈ rest) : x ∈ a :: b :: rest := .tail _ (.tail _ q)
/-- the names of the frame, as they are bound -/
noncomputable abbrev mA (tb D : Addr) (nm own : Str) (tn t : Tok) (f : Str → Option Value) : Str → Option Value := fun y =>
  if y = Str.ofString "self" then some (.ref tb) else if y = Str.ofString "_name" then some (.str nm tn) else if y = Str.ofString "_value" then some (.str own t) else if y = Str.ofString "_params" then some (.ref D) else f y
theorem fr_A {g h : Heap} {L : Addr} {tb D : Addr} {nm own : Str} {tn t : Tok} {G : Str → Option Value} (F : Fr g L h G) (e1 : G (Str.ofString "self") = some (.ref tb)) (e2 : G (Str.ofString "_name") = some (.str nm tn)) (e3 : G (Str.ofString "_value") = some (.str own t))
    (e4 : G (Str.ofString "_params") = some (.ref D)) : ∃ f, Fr g L h (mA tb D nm own tn t f) := by
  have e : mA tb D nm own tn t G = G := by
    funext y
    unfold mA
    by_cases a1 : y = Str.ofString "self"
    · rw [if_pos a1, a1, e1]
    rw [if_neg a1]
    by_cases a1 : y = Str.ofString "_name"
    · rw [if_pos a1, a1, e2]
    rw [if_neg a1]
    by_cases a1 : y = Str.ofString "_value"
    · rw [if_pos a1, a1, e3]
    rw [if_neg a1]
    by_cases a1 : y = Str.ofString "_params"
    · rw [if_pos a1, a1, e4]
    rw [if_neg a1]
  exact ⟨G, by rw [e]; exact F⟩
/-- the names within the loop -/
noncomputable abbrev mB (tb P : Addr) (nm : Str) (tn : Tok) (f : Str → Option Value) : Str → Option Value := fun y =>
  if y = Str.ofString "parts" then some (.ref P) else if y = Str.ofString "self" then some (.ref tb) else if y = Str.ofString "_name" then some (.str nm tn) else f y
theorem fr_B {g h : Heap} {L : Addr} {tb P : Addr} {nm : Str} {tn : Tok} {G : Str → Option Value} (F : Fr g L h G) (e1 : G (Str.ofString "parts") = some (.ref P)) (e2 : G (Str.ofString "self") = some (.ref tb)) (e3 : G (Str.ofString "_name") = some (.str nm tn)) : Fr g L h (mB tb P nm tn G) := by
  have e : mB tb P nm tn G = G := by
    funext y
    unfold mB
    by_cases a1 : y = Str.ofString "parts"
    · rw [if_pos a1, a1, e1]
    rw [if_neg a1]
    by_cases a1 : y = Str.ofString "self"
    · rw [if_pos a1, a1, e2]
    rw [if_neg a1]
    by_cases a1 : y = Str.ofString "_name"
    · rw [if_pos a1, a1, e3]
    rw [if_neg a1]
  rw [e]; exact F
noncomputable def partsL (own one two : List Nat) (i : Nat) : List Str := ([txt own, txt (room 108 one), txt (room 114 two)] : List Str).take (i + 1)
theorem room_len (c : Nat) (v : List Nat) : (room c v).length ≤ 4 * v.length + 5 := by
  unfold room
  split
  · simp
  · have h : (v.flatMap quoteSign).length ≤ 4 * v.length := by
      rw [← quote_sub]
      have h1 := sub_len2 (c := 92) (a := 92) (b := 92) v
      have h2 := sub_len2 (c := 34) (a := 92) (b := 34) (sub1 92 [92, 92] v)
      omega
    rw [List.length_append, List.length_append, List.length_append]
    simp only [List.length_cons, List.length_nil]
    omega
theorem lt_allLt {d : Addr} : ∀ {l : List (Addr × Obj)}, AllLt d l → ∀ p ∈ l, p.1 < d := by
  intro l
  induction l with
  | nil => intro _ p hp; cases hp
  | cons q r ih => intro h p hp; rcases List.mem_cons.mp hp with rfl | hp; exact h.1; exact ih h.2 p hp
theorem add_start {g h : Heap} {L tb V P D' : Addr} {oD : Obj} {vs : Array Value} {n : Nat} {news : List (Addr × Obj)} {nm : Str} {tn : Tok} {G : Str → Option Value} (F : Fr g L h G)
    (N : News g L h ((V, { cls := .type "dict_items", data := .fields #[.ref D'] }) :: (P, listOf vs n) :: (D', oD) :: news)) (e1 : G (Str.ofString "parts") = some (.ref P)) (e2 : G (Str.ofString "self") = some (.ref tb)) (e3 : G (Str.ofString "_name") = some (.str nm tn))
    (q1 : P < V ∧ D' < V ∧ AllLt V news) (q2 : D' < P ∧ AllLt P news) :
    ∃ P' V' f, V' = V ∧ D' < P' ∧ P' < V' ∧ (∀ p ∈ news, p.1 < P') ∧ (∀ p ∈ news, p.1 < V') ∧ Fr g L h (mB tb P' nm tn f) ∧ News g L h ((P', listOf vs n) :: (V', { cls := .type "dict_items", data := .fields #[.ref D'] }) :: (D', oD) :: news) :=
  ⟨P, V, G, rfl, q2.1, q1.1, lt_allLt q2.2, lt_allLt q1.2.2, fr_B F e1 e2 e3, fun p hp => N p (by
    simp only [List.mem_cons] at hp ⊢
    rcases hp with h | h | h
    · exact .inr (.inl h)
    · exact .inl h
    · exact .inr (.inr h))⟩
theorem parts_join (own one two : List Nat) : Txt.join (Str.ofString "; ") (partsL own one two 2) = txt (own ++ [59, 32] ++ room 108 one ++ [59, 32] ++ room 114 two) := by
  show Builtin.Str.glued _ _ = _
  rw [StrLaws.glued_eq_join]
  show txt own ++ Str.ofString "; " ++ (txt (room 108 one) ++ Str.ofString "; " ++ txt (room 114 two)) = _
  rw [show Str.ofString "; " = txt [59, 32] by decide +kernel, add_txt, add_txt, add_txt, add_txt]
  simp only [List.append_assoc]
theorem strs_snoc {y : Str} {t : Tok} : ∀ {vs : List Value} {ys : List Str}, StrsAre vs ys → StrsAre (vs ++ [.str y t]) (ys ++ [y])
  | _, _, .nil => .cons _ _ .nil
  | _, _, .cons z u h => .cons z u (strs_snoc h)
theorem strs_push {y : Str} {t : Tok} {vs : Array Value} {ys : List Str} (h : StrsAre vs.toList ys) : StrsAre (vs.push (.str y t)).toList (ys ++ [y]) := by
  rw [Array.toList_push]; exact strs_snoc h
theorem add_turn {own one two : List Nat} {t1 t2 : Tok} {i : Nat} {kk : Str} {v : Value} (h1 : one.length ≤ 100000) (h2 : two.length ≤ 100000) (h : ([(Str.ofString "l_", .str (txt one) t1), (Str.ofString "r_", .str (txt two) t2)] : List (Str × Value))[i]? = some (kk, v)) :
    ∃ c x tx, kk = txt [c, 95] ∧ v = .str (txt x) tx ∧ x.length ≤ 100000 ∧ anyBad badN (txt [c, 95]).cps = false ∧ Txt.replace (txt [c, 95]) (Str.ofString "_") (Str.ofString "-") = txt [c, 45] ∧ partsL own one two (i + 1) = partsL own one two i ++ [txt (room c x)] ∧ ((i = 0 ∧ x = one) ∨ (i = 1 ∧ x = two)) := by
  rcases i with _ | _ | i
  · cases h
    exact ⟨108, one, t1, by decide +kernel, rfl, h1, by decide +kernel, by decide +kernel, rfl, .inl ⟨rfl, rfl⟩⟩
  · cases h
    exact ⟨114, two, t2, by decide +kernel, rfl, h2, by decide +kernel, by decide +kernel, rfl, .inr ⟨rfl, rfl⟩⟩
  · cases h
theorem add_led {g h : Heap} {L P V D' I : Addr} {oP oV oD : Obj} {ow news : List (Addr × Obj)} (q1 : D' < P) (q2 : P < V) (q3 : ∀ p ∈ news, p.1 < P) (hoff : ∀ p ∈ (P, oP) :: (V, oV) :: (D', oD) :: news, p.1 ≠ I) (hsub : ∀ p ∈ ow, p.1 = I ∨ p.1 = D')
    (N : News g L h (ow ++ (P, oP) :: (V, oV) :: (D', oD) :: news)) :
    News g L h ((P, oP) :: (ow ++ (V, oV) :: (D', oD) :: news)) ∧ (∀ p ∈ ow ++ (V, oV) :: (D', oD) :: news, p.1 ≠ P) ∧
      ∀ (h' : Heap) (oP' : Obj), News g L h' ((P, oP') :: (ow ++ (V, oV) :: (D', oD) :: news)) → News g L h' (ow ++ (P, oP') :: (V, oV) :: (D', oD) :: news) := by
  refine ⟨fun p hp => N p ?_, fun p hp e => ?_, fun h' oP' NN p hp => NN p ?_⟩
  · simp only [List.mem_cons, List.mem_append] at hp ⊢
    rcases hp with h | h | h
    · exact .inr (.inl h)
    · exact .inl h
    · exact .inr (.inr h)
  · rcases List.mem_append.mp hp with hp | hp
    · rcases hsub p hp with h | h
      · exact hoff (P, oP) (.head _) (e.symm.trans h)
      · exact Nat.lt_irrefl _ (e ▸ h ▸ q1)
    · rcases List.mem_cons.mp hp with rfl | hp
      · exact Nat.lt_irrefl _ (e ▸ q2)
      · rcases List.mem_cons.mp hp with rfl | hp
        · exact Nat.lt_irrefl _ (e ▸ q1)
        · exact Nat.lt_irrefl _ (e ▸ q3 p hp)
  · simp only [List.mem_cons, List.mem_append] at hp ⊢
    rcases hp with h | h | h
    · exact .inr (.inl h)
    · exact .inl h
    · exact .inr (.inr h)
theorem add_end {g h : Heap} {L D P V D' l : Addr} {oD oP oV oD' : Obj} {news : List (Addr × Obj)} (N : News g L h ((D, oD) :: (P, oP) :: (V, oV) :: (D', oD') :: news)) (h0 : l < D') (q1 : D' < P) (q2 : P < V) (q3 : P < D ∧ V < D ∧ D' < D ∧ AllLt D news) :
    D ≠ l ∧ P ≠ l ∧ V ≠ l ∧ D' ≠ l ∧ ∀ p ∈ news, p.1 < D :=
  ⟨Nat.ne_of_gt (Nat.lt_trans h0 q3.2.2.1), Nat.ne_of_gt (Nat.lt_trans h0 q1), Nat.ne_of_gt (Nat.lt_trans h0 (Nat.lt_trans q1 q2)), Nat.ne_of_gt h0, lt_allLt q3.2.2.2⟩
theorem drop3 {g h : Heap} {L : Addr} {a b c d : Addr × Obj} {r : List (Addr × Obj)} (N : News g L h (a :: b :: c :: d :: r)) : News g L h (a :: r) := fun p hp => N p (by
  rcases List.mem_cons.mp hp with h | h
  · rw [h]; exact .head _
  · exact .tail _ (.tail _ (.tail _ (.tail _ h))))
/-- what holds between the turns -/
noncomputable def AddJ (tb P V D' : Addr) (oD : Obj) (own one two : List Nat) (tn : Tok) (news : List (Addr × Obj)) (i : Nat) (m₁ : Str → Option Value) (news₁ : List (Addr × Obj)) : Prop :=
  ∃ f vs nn, m₁ = mB tb P (Str.ofString "N") tn f ∧ news₁ = (P, listOf vs nn) :: (V, { cls := .type "dict_items", data := .fields #[.ref D'] }) :: (D', oD) :: news ∧ StrsAre vs.toList (partsL own one two i) ∧ vs.size = i + 1 ∧
    (0 < i → anyBad badV (txt one).cps = false) ∧ (1 < i → anyBad badV (txt two).cps = false)
local macro_rules | `(tactic| walk_at "execs cons") => `(tactic| (k_here; (with_reducible refine wpAny_execs_cons ?_); (try dsimp only); (refine with_pos ?p ?_; (case p => first | assumption | exact Nat.succ_pos _); intro k0 hk0; try dsimp only)))
local macro_rules | `(tactic| walk_at "exec For Tuple Call") => `(tactic| (k_here; refine of_held ?_))
local macro_rules | `(tactic| walk_at "pyIter ref") => `(tactic| (k_here; refine of_held ?_))
theorem add_header_x {w : World} {mean : ExcName → Option Value} {mg mb : Str → Option Value}
    {dp un : Nat} {gd : Option (List Code)} {cn : Str} {cs : Scope} {a : Addr} {ccd : Value} {cl : List (Str × Addr)} {outer : List Env} {A₀ : Around} {base h₀ : Heap} {L : Addr} {m : Str → Option Value} {news : List (Addr × Obj)} {s : Shared} {Q E : Value → Shared → Prop}
    {own one two : List Nat} {t t1 t2 tn tl tr : Tok} {tb l dx : Addr} {k n : Nat} {u : Tok} {news' : Value → List (Addr × Obj)}
    (B : Below A₀ base outer h₀) (F : Fr h₀ L s.heap m) (X : (heapK w.params).In h₀) (N : News h₀ L s.heap news) (T : Top vwT (looseW vwT looseT) mean mg mb h₀) (hk : cs.kind = .function)
    (hd : dp + 40 < recursionLimit) (hu : un + 200 < cLine) (hl0 : own.length ≤ 2) (h1 : one.length ≤ 100000) (h2 : two.length ≤ 100000)
    (ht : (tb, instObj 184 dx) ∈ news) (hdx : (dx, dictOf [⟨PyData.keyHash w.params (Str.ofString "_headers"), .str (Str.ofString "_headers") u, .ref l⟩] k) ∈ news)
    (hl : (l, listOf #[] n) ∈ news)
    (hU : ∀ v, Upd l (listOf #[] n) (listOf #[v] (n + 1)) news (news' v))
    (hret : (anyBad badV (txt own).cps || anyBad badV (txt one).cps || anyBad badV (txt two).cps) = false → ∀ D u1 u2 h' tk', Fr h₀ L h' m → (∀ p ∈ news, p.1 < D) →
      News h₀ L h' ((D, ({ cls := .type "tuple", data := .seq #[.str (Str.ofString "N") u1, .str (txt (own ++ [59, 32] ++ room 108 one ++ [59, 32] ++ room 114 two)) u2] } : Obj)) :: news' (.ref D)) → Q .none { s with heap := h', toks := tk' })
    (hexc : (anyBad badV (txt own).cps || anyBad badV (txt one).cps || anyBad badV (txt two).cps) = true → ∀ e t vs g₂ h' tk', Fr h₀ L g₂ m → RaisedS base g₂ (envX cn cs L a ccd cl :: outer) e (.type "ValueError") t vs news h' → g₂.UpToSlots h' → E (.ref e) { s with heap := h', toks := tk' }) :
    wpAny (model Challenge.rw_un0048_01.row.prog w) (ktrTop dp un gd cn cs L a ccd cl outer) (call (.ref 181) [.ref tb, .str (Str.ofString "N") tn, .str (txt own) t] [(Str.ofString "l_", .str (txt one) t1), (Str.ofString "r_", .str (txt two) t2)]) Q E s := by
  revert X; k_fill; intro X
  refine wpAny_call ?_
  k_dflt (refine' kp_more ?k1 ?k2 ?k3 ?k4 ?k5 ?kA ?kF ?kK ?k6 ?k7 ?k8 ?kX ?kM ?kN ?kD ?kR ?kP ?kT ?kB ?_ ?c2 ?c3 ?c4 ?c5; (case kA => exact rfl); (case kF => exact rfl); (case kK => assumption); (case k1 => k_asm); (case k2 => k_asm); (case k3 => k_asm); (case k4 => k_asm); (case k5 => k_asm); (case k6 => k_is); (case k7 => k_is); (case k8 => first | exact fits0 hd | ktr_room); (case kX => kp_lit); (case kM => exact rfl); (case kN => exact rfl); (case kD => kp_flats); (case kR => exact rfl); (case kP => exact rfl); (case kT => exact fun _ => rfl); (case kB => exact fun _ => locs rfl); (case c5 => decide); (case c2 => exact rfl); (case c3 => exact rfl); (case c4 => exact rfl); k_whole; intro D' o' g' L' h' tk' l1 lo' hs' fs' FG' F' N' B' X' T'; (try k_lt l1); (try dsimp only); (try k_fold))
  conv => arg 3; arg 1; whnf
  obtain ⟨f, F₀⟩ := fr_A (tb := tb) (D := D') (nm := Str.ofString "N") (own := txt own) (tn := tn) (t := t) F' rfl rfl rfl rfl
  clear F'
  have z0 : (txt own).cps.size ≤ sizeLine := by rw [sizeLine_eq]; show own.length ≤ _; omega
  have z1 : (txt one).cps.size ≤ sizeLine := by rw [sizeLine_eq]; show one.length ≤ _; omega
  have z2 : (txt two).cps.size ≤ sizeLine := by rw [sizeLine_eq]; show two.length ≤ _; omega
  k_steps
  with_reducible rename News _ _ _ _ => N₀
  have ht₀ := mem_up2 N₀ ht
  have hdx₀ := mem_up2 N₀ hdx
  have hl₀ := mem_up2 N₀ hl
  k_steps
  refine conv_V B' (by assumption) X' (by assumption) T' rfl ?_ ?_ z0 ?_ ?_
  · first | exact fits_in hd (by decide) | ktr_room
  · first | exact fits3 hu (by decide) | ktr_units
  · intro b0 h₁ tk₁ F₁ N₁
    k_steps
    refine ⟨?_⟩
    with_reducible rename News _ _ _ _ => N₂
    with_reducible rename Fr _ _ _ _ => F₂
    refine For_pair_unrF F₂ ?_ (by intro _; rfl)
    k_steps
    refine ⟨?_⟩
    with_reducible rename News _ _ _ _ => N₃
    with_reducible rename Fr _ _ _ _ => F₃
    obtain ⟨P, V, f₁, rfl, q1, q2, q3, q4, F₄, N₄⟩ := add_start F₃ N₃ rfl rfl rfl (by assumption) (by assumption)
    clear F₂ N₂ F₃ N₃ ht₀ hdx₀ hl₀
    refine iterM_items (knd := strKind Challenge.rw_un0048_01.row.prog w) (kvs := [(Str.ofString "l_", .str (txt one) t1), (Str.ofString "r_", .str (txt two) t2)]) (d := D') (m₀ := _) (news := _)
      (AddJ tb P V D' o' own one two tn news) rfl rfl rfl rfl ⟨_, (N₄ _ (.tail _ (.head _))).1, rfl, rfl⟩ (Heap.dictOf_iff.mpr ⟨_, (N₄ _ (.tail _ (.tail _ (.head _)))).1, by assumption⟩) (N₄ _ (.tail _ (.tail _ (.head _)))).2.1 F₄ N₄
      ⟨f₁, _, _, rfl, rfl, .cons _ _ .nil, rfl, fun h => absurd h (by decide), fun h => absurd h (by decide)⟩ ?turn ?done
    case turn =>
      rintro i kk v key m₁ news₁ h₂ tk₂ ow hkv hkey ⟨f, vs, nn, rfl, rfl, hS, hsz, g1, g2⟩ htk hoff hsub F₅ N₅
      obtain ⟨tkey, rfl⟩ := Value.isStrOf_shape hkey
      obtain ⟨c, x, tx, rfl, rfl, hxl, hbadN, hrep, hparts, hix⟩ := add_turn (own := own) h1 h2 hkv
      obtain ⟨N₆, hne, back⟩ := add_led q1 q2 q3 hoff hsub N₅
      clear N₄ F₄ N₅ hkey
      have M1 : (tb, instObj 184 dx) ∈ (P, listOf vs nn) :: (ow ++ (V, ({ cls := .type "dict_items", data := .fields #[.ref D'] } : Obj)) :: (D', o') :: news) := .tail _ (List.mem_append_right _ (.tail _ (.tail _ ht)))
      have M2 : (dx, dictOf [⟨PyData.keyHash w.params (Str.ofString "_headers"), .str (Str.ofString "_headers") u, .ref l⟩] k) ∈ (P, listOf vs nn) :: (ow ++ (V, ({ cls := .type "dict_items", data := .fields #[.ref D'] } : Obj)) :: (D', o') :: news) := .tail _ (List.mem_append_right _ (.tail _ (.tail _ hdx)))
      have zx : (txt x).cps.size ≤ sizeLine := by rw [sizeLine_eq]; show x.length ≤ _; omega
      have zk : (txt [c, 95]).cps.size ≤ sizeLine := by rw [sizeLine_eq]; show 2 ≤ _; omega
      have hfr := room_len c x
      k_steps
      refine pos_up (by first | assumption | exact Nat.succ_pos _) ?_
      refine conv_N B' (by assumption) X' (by assumption) T' rfl ?_ ?_ zk ?_ (fun hb => absurd (hb.symm.trans hbadN) (by decide))
      · first | exact fits_in hd (by decide) | ktr_room
      · first | exact fits3 hu (by decide) | ktr_units
      intro _ h₃ tk₃ F₆ N₇ hp₃
      have hp₃ : 0 < tk₃ := hp₃
      k_steps
      refine pos_up (by first | assumption | exact Nat.succ_pos _) ?_
      refine conv_V B' (by assumption) X' (by assumption) T' rfl ?_ ?_ zx ?_ ?_
      · first | exact fits_in hd (by decide) | ktr_room
      · first | exact fits3 hu (by decide) | ktr_units
      · intro b1 h₄ tk₄ F₇ N₈ hp₄
        have hp₄ : 0 < tk₄ := hp₄
        k_steps
        refine replace_pos (Nat.succ_pos _) (Nat.pos_iff_ne_zero.mp (by assumption)) (Nat.succ_ne_zero _) (Nat.ne_of_lt (Nat.lt_succ_self _)) (by decide +kernel) (by show 2 ≤ _; omega) (by decide) ?_
        intro t7 k7 hk7
        rw [show Txt.replace (txt [c, 95]) (Str.ofString "_") (Str.ofString "-") = txt [c, 45] from hrep]
        k_steps
        refine fmt_param (c := c) (v := x) B' (by assumption) X' (by assumption) T' rfl ?_ ?_ hxl ?_
        · first | exact fits_in hd (by decide) | ktr_room
        · first | exact fits3 hu (by decide) | ktr_units
        intro t8 h₈ tk₈ F₈ N₉
        k_steps
        with_reducible rename Fr _ _ _ _ => F₉
        with_reducible rename News _ _ _ _ => N₁₀
        refine ⟨_, _, _, (P, listOf (vs.push (.str (txt (room c x)) t8)) (nn + 1)) :: (V, ({ cls := .type "dict_items", data := .fields #[.ref D'] } : Obj)) :: (D', o') :: news, rfl, fr_B F₉ rfl rfl rfl, back _ _ N₁₀, ?_, _, _, _, rfl, rfl, hparts ▸ strs_push hS, by rw [Array.size_push, hsz], ?_, ?_⟩
        · intro p hp hI
          have hI := List.mem_singleton.mp hI
          rcases List.mem_cons.mp hp with rfl | hp
          · exact hoff _ (.head _) hI
          · exact hoff p (.tail _ hp) hI
        · exact fun _ => hix.elim (fun h => h.2 ▸ b1) fun h => g1 (by rw [h.1]; decide)
        · exact fun h => hix.elim (fun q => absurd h (by rw [q.1]; decide)) fun q => q.2 ▸ b1
      · intro b1 e te vse g₂ h₁ tk₁ F₂ R' U'
        k_steps
        refine hexc ?_ _ _ _ _ _ _ (by assumption) (raised_sub (by assumption) ?_) (by assumption)
        · rcases hix with ⟨_, h⟩ | ⟨_, h⟩ <;> rw [h] at b1 <;> rw [b1] <;> simp
        · intro q hq
          exact .tail _ (List.mem_append_right _ (.tail _ (.tail _ hq)))
    case done =>
      rintro h₂ tk₂ m₁ news₁ F₅ N₅ hoff ⟨f, vs, nn, rfl, rfl, hS, hsz, g1, g2⟩
      have g1 := g1 (show 0 < 2 by decide)
      have g2 := g2 (show 1 < 2 by decide)
      clear N₄ F₄
      have M1 : (tb, instObj 184 dx) ∈ (P, listOf vs nn) :: (V, ({ cls := .type "dict_items", data := .fields #[.ref D'] } : Obj)) :: (D', o') :: news := .tail _ (.tail _ (.tail _ ht))
      have M2 : (dx, dictOf [⟨PyData.keyHash w.params (Str.ofString "_headers"), .str (Str.ofString "_headers") u, .ref l⟩] k) ∈ (P, listOf vs nn) :: (V, ({ cls := .type "dict_items", data := .fields #[.ref D'] } : Obj)) :: (D', o') :: news := .tail _ (.tail _ (.tail _ hdx))
      have M3 : (l, listOf #[] n) ∈ (P, listOf vs nn) :: (V, ({ cls := .type "dict_items", data := .fields #[.ref D'] } : Obj)) :: (D', o') :: news := .tail _ (.tail _ (.tail _ hl))
      k_steps
      refine conv_N B' (by assumption) X' (by assumption) T' rfl ?_ ?_ (by rw [sizeLine_eq]; decide) ?_ (fun hb => absurd hb (by decide +kernel))
      · first | exact fits_in hd (by decide) | ktr_room
      · first | exact fits3 hu (by decide) | ktr_units
      intro _ h₃ tk₃ F₆ N₇
      k_steps
      have r1 := room_len 108 one
      have r2 := room_len 114 two
      refine join_listW (ys := partsL own one two 2) ⟨_, (N₇ _ (.head _)).1, rfl, _, rfl⟩ hS (by decide) (by show own.length + ((room 108 one).length + ((room 114 two).length + 0)) + 3 ≤ _; omega) ?_
      intro t6 k6
      rw [parts_join]
      k_steps
      with_reducible rename Fr _ _ _ _ => F₇
      with_reducible rename News _ _ _ _ => N₈
      have h0 := l1 _ hl
      obtain ⟨e1, e2, e3, e4, hD⟩ := add_end (D := _) N₈ (l := l) h0 q1 q2 (by assumption)
      refine append_K F₇ N₈ (.tail e1 (.tail e2 (.tail e3 (.tail e4 (hU _))))) ?_ (by rw [sizeLine_eq]; exact Nat.zero_le _)
      intro h₆ F₈ N₉
      clear F₇ N₈
      k_steps
      with_reducible rename News _ _ _ _ => N₁₀
      exact hret (by rw [b0, g1, g2]; rfl) _ _ _ _ _ (by assumption) hD (drop3 N₁₀)
  · intro b0 e te vse g₂ h₁ tk₁ F₂ R' U'
    k_steps
    refine hexc (by rw [b0]; rfl) _ _ _ _ _ _ (by assumption) (raised_sub (by assumption) ?_) (by assumption)
    intro q hq
    exact .tail _ (.tail _ hq)
end Mine
end

section
open PySem PySem.W PyProof.Rows PySem.Calls
set_option maxRecDepth 100000
set_option Elab.async false
set_option linter.unusedVariables false
namespace Mine
noncomputable def slotOf (h : House) (r : Nat) : Option Nat := if r = 3 then h.left else h.right
noncomputable def setSlot (h : House) (r k : Nat) : House := if r = 3 then { h with left := some k } else { h with right := some k }
theorem setSlot_kind (h : House) (r k : Nat) : (setSlot h r k).kind = h.kind ∧ (setSlot h r k).own = h.own ∧ (setSlot h r k).above = h.above := by unfold setSlot; split <;> exact ⟨rfl, rfl, rfl⟩
theorem setSlot_left {h : House} {r k c : Nat} (e : (setSlot h r k).left = some c) : (r = 3 ∧ c = k) ∨ h.left = some c := by
  unfold setSlot at e
  split at e
  · rename_i hr; exact .inl ⟨hr, (Option.some.inj e).symm⟩
  · exact .inr e
theorem setSlot_right {h : House} {r k c : Nat} (e : (setSlot h r k).right = some c) : (r ≠ 3 ∧ c = k) ∨ h.right = some c := by
  unfold setSlot at e
  split at e
  · exact .inr e
  · rename_i hr; exact .inl ⟨hr, (Option.some.inj e).symm⟩
theorem setSlot_has (h : House) (r k : Nat) : (setSlot h r k).left = some k ∨ (setSlot h r k).right = some k := by
  unfold setSlot
  split
  · exact .inl rfl
  · exact .inr rfl
theorem setSlot_keeps {h : House} {r k x : Nat} (hs : slotOf h r = none) (e : h.left = some x ∨ h.right = some x) : (setSlot h r k).left = some x ∨ (setSlot h r k).right = some x := by
  unfold slotOf at hs
  unfold setSlot
  split
  · rename_i hr
    rw [if_pos hr] at hs
    rw [hs] at e
    rcases e with e | e
    · cases e
    · exact .inr e
  · rename_i hr
    rw [if_neg hr] at hs
    rw [hs] at e
    rcases e with e | e
    · exact .inl e
    · cases e
theorem setSlot_other {h : House} {r q k : Nat} (hr : r = 3 ∨ r = 4) (hq : q = 3 ∨ q = 4) (hne : q ≠ r) : slotOf (setSlot h r k) q = slotOf h q := by
  unfold slotOf setSlot
  rcases hr with rfl | rfl <;> rcases hq with rfl | rfl <;> first | exact absurd rfl hne | rfl
/-- houses in the making, with the free rooms -/
structure Grow (hs : List House) (fr : List (Nat × Nat)) : Prop where
  wf : WF hs
  free : ∀ p ∈ fr, p.1 < hs.length ∧ (p.2 = 3 ∨ p.2 = 4) ∧ ∀ h, hs[p.1]? = some h → slotOf h p.2 = none
  nodup : fr.Nodup
  cnt : fr.length = if hs.length = 0 then 0 else hs.length + 1
noncomputable def OwnOk (own : List Nat) : Prop := own.length ≤ 2 ∧ ∀ c ∈ own, c ∈ alph ∧ c ≠ 68
theorem grow_nil : Grow [] [] where
  wf := ⟨fun h => by simp at h, fun h => by simp at h, fun h => by simp at h, fun h => by simp at h, fun h => by simp at h⟩
  free := fun p hp => nomatch hp
  nodup := List.nodup_nil
  cnt := rfl
theorem grow_first {kind : Nat} {own : List Nat} (hk : kind < 3) (ho : OwnOk own) : Grow [(House.mk kind own none none none)] [(0, 3), (0, 4)] := by
  have one : ∀ {k : Nat} {h : House}, ([(House.mk kind own none none none)] : List House)[k]? = some h → h = (House.mk kind own none none none) := by
    intro k h e
    cases k with
    | zero => exact (Option.some.inj e).symm
    | succ k => simp at e
  refine ⟨⟨fun e => (by rw [one e]; exact hk), fun e => (by rw [one e]; exact ho), fun e q => (by rw [one e] at q; cases q), fun e q => (by rw [one e] at q; cases q), fun e q => (by rw [one e] at q; cases q)⟩, ?_, by decide, rfl⟩
  intro p hp
  simp only [List.mem_cons, List.not_mem_nil, or_false] at hp
  rcases hp with rfl | rfl
  · exact ⟨by simp, .inl rfl, fun h e => by rw [one e]; rfl⟩
  · exact ⟨by simp, .inr rfl, fun h e => by rw [one e]; rfl⟩
theorem grow_next {hs : List House} {fr : List (Nat × Nat)} (G : Grow hs fr) {j a r : Nat} (hj : fr[j]? = some (a, r)) {ha : House} (hha : hs[a]? = some ha) {kind : Nat} {own : List Nat} (hk : kind < 3) (ho : OwnOk own) :
    Grow ((hs ++ [(House.mk kind own (some a) none none)]).set a (setSlot ha r hs.length)) (fr.eraseIdx j ++ [(hs.length, 3), (hs.length, 4)]) := by
  have hm : (a, r) ∈ fr := List.mem_of_getElem? hj
  obtain ⟨halt, hr, hslot⟩ := G.free _ hm
  replace hslot : slotOf ha r = none := hslot ha hha
  dsimp only at halt hr hslot
  have get : ∀ x, ((hs ++ [(House.mk kind own (some a) none none)]).set a (setSlot ha r hs.length))[x]? = if a = x then some (setSlot ha r hs.length) else if x < hs.length then hs[x]? else if x = hs.length then some (House.mk kind own (some a) none none) else none := by
    intro x
    rw [List.getElem?_set]
    by_cases h1 : a = x
    · rw [if_pos h1, if_pos h1, if_pos (by rw [List.length_append]; omega)]
    · rw [if_neg h1, if_neg h1]
      by_cases h2 : x < hs.length
      · rw [if_pos h2, List.getElem?_append_left h2]
      · rw [if_neg h2, List.getElem?_append_right (by omega)]
        by_cases h3 : x = hs.length
        · rw [if_pos h3, h3, Nat.sub_self]; rfl
        · rw [if_neg h3]
          have : x - hs.length ≠ 0 := by omega
          cases hx : x - hs.length with
          | zero => exact absurd hx this
          | succ n => rfl
  have old : ∀ {x : Nat} {h : House}, x ≠ a → hs[x]? = some h → ((hs ++ [(House.mk kind own (some a) none none)]).set a (setSlot ha r hs.length))[x]? = some h := by
    intro x h h1 e
    rw [get, if_neg (Ne.symm h1), if_pos (List.getElem?_eq_some_iff.mp e).1, e]
  have hat : ((hs ++ [(House.mk kind own (some a) none none)]).set a (setSlot ha r hs.length))[a]? = some (setSlot ha r hs.length) := by rw [get, if_pos rfl]
  have hnew : ((hs ++ [(House.mk kind own (some a) none none)]).set a (setSlot ha r hs.length))[hs.length]? = some (House.mk kind own (some a) none none) := by
    rw [get, if_neg (by omega), if_neg (Nat.lt_irrefl _), if_pos rfl]
  have cases3 : ∀ {x : Nat} {h : House}, ((hs ++ [(House.mk kind own (some a) none none)]).set a (setSlot ha r hs.length))[x]? = some h → (x = a ∧ h = setSlot ha r hs.length) ∨ (x ≠ a ∧ x < hs.length ∧ hs[x]? = some h) ∨ (x = hs.length ∧ h = (House.mk kind own (some a) none none)) := by
    intro x h e
    rw [get] at e
    by_cases h1 : a = x
    · rw [if_pos h1] at e; exact .inl ⟨h1.symm, (Option.some.inj e).symm⟩
    · rw [if_neg h1] at e
      by_cases h2 : x < hs.length
      · rw [if_pos h2] at e; exact .inr (.inl ⟨Ne.symm h1, h2, e⟩)
      · rw [if_neg h2] at e
        by_cases h3 : x = hs.length
        · rw [if_pos h3] at e; exact .inr (.inr ⟨h3, (Option.some.inj e).symm⟩)
        · rw [if_neg h3] at e; cases e
  obtain ⟨s1, s2, s3⟩ := setSlot_kind ha r hs.length
  -- a house below, seen in the new list
  have child : ∀ {x c : Nat}, (x < c ∧ ∃ hc : House, hs[c]? = some hc ∧ hc.above = some x) → x < c ∧ ∃ hc : House, ((hs ++ [(House.mk kind own (some a) none none)]).set a (setSlot ha r hs.length))[c]? = some hc ∧ hc.above = some x := by
    rintro x c ⟨h1, hc, e1, e2⟩
    by_cases hca : c = a
    · subst hca
      rw [hha] at e1
      cases e1
      exact ⟨h1, _, hat, by rw [s3]; exact e2⟩
    · exact ⟨h1, hc, old hca e1, e2⟩
  have parent : ∀ {x b : Nat}, (b < x ∧ ∃ hb : House, hs[b]? = some hb ∧ (hb.left = some x ∨ hb.right = some x)) → b < x ∧ ∃ hb : House, ((hs ++ [(House.mk kind own (some a) none none)]).set a (setSlot ha r hs.length))[b]? = some hb ∧ (hb.left = some x ∨ hb.right = some x) := by
    rintro x b ⟨h1, hb, e1, e2⟩
    by_cases hba : b = a
    · subst hba
      rw [hha] at e1
      cases e1
      exact ⟨h1, _, hat, setSlot_keeps hslot e2⟩
    · exact ⟨h1, hb, old hba e1, e2⟩
  refine ⟨⟨?_, ?_, ?_, ?_, ?_⟩, ?_, ?_, ?_⟩
  · intro x h e
    rcases cases3 e with ⟨rfl, rfl⟩ | ⟨_, _, e1⟩ | ⟨_, rfl⟩
    · rw [s1]; exact G.wf.kind hha
    · exact G.wf.kind e1
    · exact hk
  · intro x h e
    rcases cases3 e with ⟨rfl, rfl⟩ | ⟨_, _, e1⟩ | ⟨_, rfl⟩
    · rw [s2]; exact G.wf.own hha
    · exact G.wf.own e1
    · exact ho
  · intro x h c e q
    rcases cases3 e with ⟨rfl, rfl⟩ | ⟨_, _, e1⟩ | ⟨_, rfl⟩
    · rcases setSlot_left q with ⟨_, rfl⟩ | q
      · exact ⟨halt, _, hnew, rfl⟩
      · exact child (G.wf.left hha q)
    · exact child (G.wf.left e1 q)
    · cases q
  · intro x h c e q
    rcases cases3 e with ⟨rfl, rfl⟩ | ⟨_, _, e1⟩ | ⟨_, rfl⟩
    · rcases setSlot_right q with ⟨_, rfl⟩ | q
      · exact ⟨halt, _, hnew, rfl⟩
      · exact child (G.wf.right hha q)
    · exact child (G.wf.right e1 q)
    · cases q
  · intro x h b e q
    rcases cases3 e with ⟨rfl, rfl⟩ | ⟨_, _, e1⟩ | ⟨rfl, rfl⟩
    · rw [s3] at q
      exact parent (G.wf.above hha q)
    · exact parent (G.wf.above e1 q)
    · cases q
      exact ⟨halt, _, hat, setSlot_has ha r _⟩
  · intro p hp
    rcases List.mem_append.mp hp with hp | hp
    · have hp' : p ∈ fr := List.mem_of_mem_eraseIdx hp
      have hpne : p ≠ (a, r) := by
        rintro rfl
        obtain ⟨i, hi, e⟩ := List.mem_eraseIdx_iff_getElem.mp hp
        obtain ⟨e1, e2⟩ := e
        obtain ⟨hjl, e3⟩ := List.getElem?_eq_some_iff.mp hj
        exact e1 ((List.getElem_inj G.nodup).mp (e2.trans e3.symm))
      obtain ⟨q1, q2, q3⟩ := G.free p hp'
      refine ⟨by rw [List.length_set, List.length_append]; omega, q2, fun h e => ?_⟩
      rcases cases3 e with ⟨h1, rfl⟩ | ⟨_, _, e1⟩ | ⟨h1, _⟩
      · rw [setSlot_other hr q2 (fun h2 => hpne (Prod.ext h1 h2))]
        exact q3 ha (by rw [h1]; exact hha)
      · exact q3 h e1
      · omega
    · simp only [List.mem_cons, List.not_mem_nil, or_false] at hp
      have hl : hs.length < ((hs ++ [(House.mk kind own (some a) none none)]).set a (setSlot ha r hs.length)).length := by rw [List.length_set, List.length_append]; exact Nat.lt_succ_self _
      rcases hp with rfl | rfl
      · exact ⟨hl, .inl rfl, fun h e => by rw [hnew] at e; cases e; rfl⟩
      · exact ⟨hl, .inr rfl, fun h e => by rw [hnew] at e; cases e; rfl⟩
  · rw [List.nodup_append]
    refine ⟨G.nodup.sublist (List.eraseIdx_sublist ..), by simp, ?_⟩
    intro p hp q hq e
    have h1 := (G.free p (List.mem_of_mem_eraseIdx hp)).1
    subst e
    simp only [List.mem_cons, List.not_mem_nil, or_false] at hq
    rcases hq with rfl | rfl <;> exact Nat.lt_irrefl _ h1
  · have h0 : hs.length ≠ 0 := by omega
    have hc := G.cnt
    rw [if_neg h0] at hc
    have hjl := (List.getElem?_eq_some_iff.mp hj).1
    rw [List.length_append, List.length_eraseIdx, if_pos hjl, List.length_set, List.length_append, if_neg (by simp)]
    simp only [List.length_cons, List.length_nil]
    omega
theorem sg16_ok : ∀ a ∈ sg16, ∀ b ∈ sg16, (a ++ b).length ≤ 2 ∧ ∀ c ∈ a ++ b, c ∈ alph ∧ c ≠ 68 := by decide +kernel
end Mine
end

section
open PySem PySem.W PyProof.Rows PySem.Calls
set_option maxRecDepth 100000
set_option Elab.async false
set_option linter.unusedVariables false
set_option maxHeartbeats 4000000
namespace Mine
noncomputable def optV (o : Option Nat) (v : Value) : Prop := match o with | none => v = .none | some a => ∃ t, v = .int (a : Int) t
/-- the object of a house -/
noncomputable def HouseObj (h : House) (o : Obj) : Prop := ∃ k t u va vl vr n, o = listOf #[.int (h.kind : Int) t, .str (txt h.own) u, va, vl, vr] n ∧ k = 0 ∧ optV h.above va ∧ optV h.left vl ∧ optV h.right vr
/-- the ledger holds the houses -/
structure HAt (news : List (Addr × Obj)) (hs : List House) (D : Addr) : Prop where
  ex : ∃ (as : List Addr) (n : Nat), as.length = hs.length ∧ (D, listOf (as.map Value.ref).toArray n) ∈ news ∧ ∀ (k : Nat) (h : House) (b : Addr), hs[k]? = some h → as[k]? = some b → ∃ o, (b, o) ∈ news ∧ HouseObj h o
theorem HAt.sub {news news' : List (Addr × Obj)} {hs : List House} {D : Addr} (H : HAt news hs D) (h : ∀ p ∈ news, p ∈ news') : HAt news' hs D := by
  obtain ⟨as, n, a, b, c⟩ := H.ex
  exact ⟨as, n, a, h _ b, fun k hh x e1 e2 => let ⟨o, m, z⟩ := c k hh x e1 e2; ⟨o, h _ m, z⟩⟩
theorem blank_pz : ∀ c ∈ alph, (!!(Builtin.Str.occurrences (Str.ofString "\u00ad\ufe0f") ⟨#[c]⟩ 0 (Str.ofString "\u00ad\ufe0f").length 1).isEmpty) = !b1h c := by decide +kernel
theorem blank_own {own : List Nat} (ho : ∀ c ∈ own, c ∈ alph) {ys : List Value}
    (hc : CarriedAll ys (((signs (txt own)).filter fun a => !!(Builtin.Str.occurrences (Str.ofString "\u00ad\ufe0f") a 0 (Str.ofString "\u00ad\ufe0f").length 1).isEmpty).map PyData.str)) : ys.isEmpty = own.all b1h := by
  have hl := hc.length_eq
  rw [List.length_map] at hl
  have e : ((signs (txt own)).filter fun a => !!(Builtin.Str.occurrences (Str.ofString "\u00ad\ufe0f") a 0 (Str.ofString "\u00ad\ufe0f").length 1).isEmpty) = (own.filter fun c => !b1h c).map fun c => ⟨#[c]⟩ := by
    show ((own.map fun n => (⟨#[n]⟩ : Str)).filter _) = _
    clear hc hl
    induction own with
    | nil => rfl
    | cons c r ih =>
      rw [List.map_cons, List.filter_cons, List.filter_cons, ih fun d hd => ho d (.tail _ hd), blank_pz c (ho c (.head _))]
      split <;> rfl
  rw [e, List.length_map] at hl
  clear e hc
  have h2 : ys.isEmpty = (own.filter fun c => !b1h c).isEmpty := by
    rw [Bool.eq_iff_iff, List.isEmpty_iff, List.isEmpty_iff, ← List.length_eq_zero_iff, ← List.length_eq_zero_iff, hl]
  rw [h2, Bool.eq_iff_iff, List.isEmpty_iff, List.filter_eq_nil_iff, List.all_eq_true]
  simp
theorem ne_nil {prog : Program} {w : World} {A : Around} {E : Value → Shared → Prop} {s : Shared} {l b : Addr} {ys : List Value} {Q : Value → Shared → Prop} (hl : s.heap.IsList l ys.toArray) (hb : s.heap.IsList b #[]) (hu : A.units < cLine) (h : Q (.bool (!ys.isEmpty)) s) :
    wpAny (model prog w) A (compareOp .NotEq (.ref l) (.ref b)) Q E s := by
  cases ys with
  | nil => exact SeqAt.RcNeAt.lists (e := fun _ => true) hl hb rfl hu (fun j h1 => absurd h1 (Nat.not_lt_zero _)) prog w E Q h
  | cons x r => exact SeqAt.RcNeAt.lists_lengths hl hb (by simp) hu prog w E Q h
theorem blank_drop {g h : Heap} {L : Addr} {a b : Addr × Obj} {r : List (Addr × Obj)} (N : News g L h (a :: b :: r)) : News g L h r := fun p hp => N p (.tail _ (.tail _ hp))
theorem kidB {k c M n : Nat} (hn : n = 6) (hc : c < n) (hkc : k < c) (hkM : 6 - k ≤ M) : c < 6 ∧ 6 - c ≤ M - 1 := by omega
theorem kid_lt {k M : Nat} (hk6 : k < 6) (hkM : 6 - k ≤ M) : M - 1 < M := by omega
theorem fitsM {n a M c : Nat} (h : n + a + M < c) (hM : M - 1 < M) : n + 1 + a + (M - 1) < c := by omega
theorem fitsU {n a M c : Nat} (h : n + a + 20 * M < c) (hM : M - 1 < M) (ha : 3 ≤ 20 := by decide) : n + 3 + a + 20 * (M - 1) < c := by omega
noncomputable def BlankOk (hs : List House) (M : Nat) : Prop := ∀ {w : World} {mean : ExcName → Option Value} {mg mb : Str → Option Value}
    {dp un : Nat} {gd : Option (List Code)} {cn : Str} {cs : Scope} {a : Addr} {ccd : Value} {cl : List (Str × Addr)} {outer : List Env} {A₀ : Around} {base h₀ : Heap} {L : Addr} {m : Str → Option Value} {news : List (Addr × Obj)} {s : Shared} {Q E : Value → Shared → Prop}
    {o : Option Nat} {v : Value} {D : Addr}
    (B : Below A₀ base outer h₀) (F : Fr h₀ L s.heap m) (X : (heapK w.params).In h₀) (N : News h₀ L s.heap news) (T : Top vwT (looseW vwT looseT) mean mg mb h₀) (hk : cs.kind = .function)
    (hd : dp + 10 + M < recursionLimit) (hu : un + 100 + 20 * M < cLine) (hM : ∀ k, o = some k → k < 6 ∧ 6 - k ≤ M) (hv : optV o v) (H : HAt news hs D)
    (hret : ∀ h' tk', Fr h₀ L h' m → News h₀ L h' news → Q (.bool (blankO hs o)) { s with heap := h', toks := tk' }),
    wpAny (model Challenge.rw_un0048_01.row.prog w) (ktrTop dp un gd cn cs L a ccd cl outer) (call (.ref 290) [.ref D, v]) Q E s
theorem blank_step {hs : List House} (W : WF hs) (hn : hs.length = 6) {M : Nat} (ih : ∀ M', M' < M → BlankOk hs M') {w : World} {mean : ExcName → Option Value} {mg mb : Str → Option Value}
    {dp un : Nat} {gd : Option (List Code)} {cn : Str} {cs : Scope} {a : Addr} {ccd : Value} {cl : List (Str × Addr)} {outer : List Env} {A₀ : Around} {base h₀ : Heap} {L : Addr} {m : Str → Option Value} {news : List (Addr × Obj)} {s : Shared} {Q E : Value → Shared → Prop}
    {o : Option Nat} {v : Value} {D : Addr}
    (B : Below A₀ base outer h₀) (F : Fr h₀ L s.heap m) (X : (heapK w.params).In h₀) (N : News h₀ L s.heap news) (T : Top vwT (looseW vwT looseT) mean mg mb h₀) (hk : cs.kind = .function)
    (hd : dp + 10 + M < recursionLimit) (hu : un + 100 + 20 * M < cLine) (hM : ∀ k, o = some k → k < 6 ∧ 6 - k ≤ M) (hv : optV o v) (H : HAt news hs D)
    (hret : ∀ h' tk', Fr h₀ L h' m → News h₀ L h' news → Q (.bool (blankO hs o)) { s with heap := h', toks := tk' }) :
    wpAny (model Challenge.rw_un0048_01.row.prog w) (ktrTop dp un gd cn cs L a ccd cl outer) (call (.ref 290) [.ref D, v]) Q E s := by
  revert X; k_fill; intro X
  refine wpAny_call ?_
  k_dflt (refine' code_def ?k1 ?k2 ?k3 ?k4 ?k5 ?kA ?kF ?kK ?k6 ?k7 ?k8 ?k9 ?kB ?_ ?c2 ?c3 ?c4 ?c5; (case kA => exact rfl); (case kF => exact rfl); (case kK => assumption); (case k1 => k_asm); (case k2 => k_asm); (case k3 => k_asm); (case k4 => k_asm); (case k5 => k_asm); (case k6 => k_is); (case k7 => k_is); (case k8 => first | exact fits0 hd | ktr_room); (case k9 => first | exact BindsTo.of_eq rfl | exact binds_K (by k_in) rfl (by k_is) rfl rfl rfl); (case c5 => decide); (case kB => exact locs rfl); (case c2 => exact rfl); (case c3 => exact rfl); (case c4 => exact rfl); k_whole; intro g' L' h' FG' F' N' B' X' T'; (try dsimp only); (try k_fold))
  conv => arg 3; arg 1; whnf
  cases o with
  | none =>
    cases hv
    k_steps
    exact hret _ _ (by assumption) (by assumption)
  | some k =>
    obtain ⟨t, rfl⟩ := hv
    obtain ⟨hk6, hkM⟩ := hM k rfl
    obtain ⟨as, n, hal, hDm, hcs⟩ := H.ex
    have hkl : k < hs.length := lt_eq hk6 hn
    have hkh := List.getElem?_eq_getElem hkl
    have hka : k < as.length := lt_eq hkl hal
    obtain ⟨o, hom, kk, th, uh, va, vl, vr, nh, rfl, _, hva, hvl, hvr⟩ := hcs k hs[k] as[k] hkh (List.getElem?_eq_getElem hka)
    generalize hs[k] = h at hkh hom hva hvl hvr
    k_steps
    have hget : (as.map Value.ref)[((k : Nat) : Int).toNat]? = some (.ref as[k]) := by simp [hka]
    refine item_litK (vs := as.map Value.ref) (v := .ref as[k]) ⟨_, (N' _ hDm).1, rfl, n, rfl⟩ (i0 _) (i6 hk6) hget ?_
    generalize as[k] = b at hom
    have hol : (txt h.own).length ≤ 2 := (W.own hkh).1
    have hbe := blank_eq W hkh
    have hkl2 : ∀ c, h.left = some c → c < 6 ∧ 6 - c ≤ M - 1 := fun c e =>
      let ⟨q1, hc, q2, _⟩ := W.left hkh e
      kidB hn (List.getElem?_eq_some_iff.mp q2).1 q1 hkM
    have hkr2 : ∀ c, h.right = some c → c < 6 ∧ 6 - c ≤ M - 1 := fun c e =>
      let ⟨q1, hc, q2, _⟩ := W.right hkh e
      kidB hn (List.getElem?_eq_some_iff.mp q2).1 q1 hkM
    have hM1 : M - 1 < M := kid_lt hk6 hkM
    k_steps
    · rename ¬ (_ : Int) = 2 => hne
      have e : blankO hs (some k) = false := by
        show blank hs k = false
        rw [hbe, show (h.kind == 2) = false from beq_eq_false_iff_ne.mpr (nat_ne (b := 2) hne)]; rfl
      rw [e] at hret
      exact hret _ _ (by assumption) (by assumption)
    · rename CarriedAll _ _ => hca
      with_reducible rename News _ _ _ _ => N₂
      have hnil := blank_own (fun c hc => ((W.own hkh).2 c hc).1) hca
      refine ne_nil (News.isList N₂ (.tail _ (.head _))) (News.isList N₂ (.head _)) ?_ ?_
      · first | exact fits3 hu (by decide) | ktr_units
      rw [hnil]
      cases hb : h.own.all b1h with
      | false =>
        k_steps
        have e : blankO hs (some k) = false := by
          show blank hs k = false
          rw [hbe, hb, Bool.and_false, Bool.false_and, Bool.false_and]
        rw [e] at hret
        exact hret _ _ (by assumption) (blank_drop (by assumption))
      | true =>
        rename ((_ : Nat) : Int) = 2 => h2
        have e : blankO hs (some k) = (blankO hs h.left && blankO hs h.right) := by
          show blank hs k = _
          rw [hbe, hb, show (h.kind == 2) = true from beq_iff_eq.mpr (by omega), Bool.and_true, Bool.true_and]
        rw [e] at hret
        k_steps
        refine ih (M - 1) hM1 (o := h.left) (v := vl) B' (by assumption) X' (by assumption) T' rfl ?_ ?_ hkl2 hvl (H.sub (fun p hp => .tail _ (.tail _ hp))) ?_
        · exact fitsM hd hM1
        · exact fitsU hu hM1
        intro h₄ tk₄ F₄ N₄
        cases hl : blankO hs h.left with
        | false =>
          rw [hl] at hret
          k_steps
          exact hret _ _ (by assumption) (blank_drop (by assumption))
        | true =>
          rw [hl, Bool.true_and] at hret
          k_steps
          refine ih (M - 1) hM1 (o := h.right) (v := vr) B' (by assumption) X' (by assumption) T' rfl ?_ ?_ hkr2 hvr (H.sub (fun p hp => .tail _ (.tail _ hp))) ?_
          · exact fitsM hd hM1
          · exact fitsU hu hM1
          intro h₅ tk₅ F₅ N₅
          k_steps
          exact hret _ _ (by assumption) (blank_drop (by assumption))
theorem blank_ok {hs : List House} (W : WF hs) (hn : hs.length = 6) : ∀ M, BlankOk hs M := by
  intro M
  induction M using Nat.strongRecOn with
  | ind M ih => intro w mean mg mb dp un gd cn cs a ccd cl outer A₀ base h₀ L m news s Q E o v D B F X N T hk hd hu hM hv H hret; exact blank_step W hn ih B F X N T hk hd hu hM hv H hret
end Mine
end

section
open PySem PySem.W PyProof.Rows PySem.Calls
set_option maxRecDepth 100000
set_option Elab.async false
set_option linter.unusedVariables false
set_option maxHeartbeats 4000000
namespace Mine
/-- the ledger holds the houses that refuse -/
structure RAt (news : List (Addr × Obj)) (hs : List House) (R : Addr) : Prop where
  ex : ∃ (rv : List Value) (n : Nat), (R, listOf rv.toArray n) ∈ news ∧ IntsAre rv ((refL hs).map Int.ofNat)
theorem RAt.sub {news news' : List (Addr × Obj)} {hs : List House} {R : Addr} (H : RAt news hs R) (h : ∀ p ∈ news, p ∈ news') : RAt news' hs R := by
  obtain ⟨rv, n, a, b⟩ := H.ex
  exact ⟨rv, n, h _ a, b⟩
theorem in_ref {hs : List House} (k : Nat) : (((refL hs).map Int.ofNat).any fun x => x == (k : Int)) = decide (k ∈ refL hs) := by
  rw [Bool.eq_iff_iff, List.any_eq_true, decide_eq_true_iff]
  constructor
  · rintro ⟨x, hx, e⟩
    obtain ⟨a, ha, rfl⟩ := List.mem_map.mp hx
    have e2 := beq_iff_eq.mp e
    have : a = k := Int.ofNat.inj e2
    exact this ▸ ha
  · exact fun h => ⟨_, List.mem_map_of_mem h, beq_self_eq_true _⟩
theorem int_nat {n m : Nat} (h : (n : Int) = (m : Int)) : n = m := Int.ofNat.inj h
theorem kind2 {n : Nat} (h3 : n < 3) (h0 : ¬ (n : Int) = 0) (h1 : ¬ (n : Int) = 1) : n = 2 := by omega
theorem kidG {s S k c M : Nat} (hij : s + (6 - k) ≤ 6) (hkM : 6 - k ≤ M) (hc : c < 6 ∧ k < c) (hS : S ≤ s + 1) : c < 6 ∧ S + (6 - c) ≤ 6 ∧ 6 - c ≤ M - 1 := by omega
theorem kid1 {i j e k c M : Nat} (hij : i + j + e + (6 - k) ≤ 6) (hkM : 6 - k ≤ M) (hc : c < 6 ∧ k < c) : c < 6 ∧ i + 1 + j + e + (6 - c) ≤ 6 ∧ 6 - c ≤ M - 1 := kidG hij hkM hc (one_more i j e)
theorem kid2 {i j e k c M : Nat} (hij : i + j + e + (6 - k) ≤ 6) (hkM : 6 - k ≤ M) (hc : c < 6 ∧ k < c) : c < 6 ∧ 0 + (i + j) + (e + 1) + (6 - c) ≤ 6 ∧ 6 - c ≤ M - 1 := kidG hij hkM hc (one_in i j e)
theorem kid3 {i j e k c M : Nat} (hij : i + j + e + (6 - k) ≤ 6) (hkM : 6 - k ≤ M) (hc : c < 6 ∧ k < c) : c < 6 ∧ i + j + e + (6 - c) ≤ 6 ∧ 6 - c ≤ M - 1 := kidG hij hkM hc (Nat.le_succ _)
theorem kid2a {i j e k : Nat} (hk6 : k < 6) (hij : i + j + e + (6 - k) ≤ 6) : 0 + (i + j) + (e + 1) ≤ 6 := by omega
theorem kidM {k c M : Nat} (hkM : 6 - k ≤ M) (hc : c < 6 ∧ k < c) : c < 6 ∧ 6 - c ≤ M := by omega
theorem fitsB {n a b M c : Nat} (h : n + a + M < c) (hb : 1 + b ≤ a) : n + 1 + b + M < c := by omega
theorem fitsBU {n a b M c : Nat} (h : n + a + 20 * M < c) (hb : 3 + b ≤ a) : n + 3 + b + 20 * M < c := by omega
theorem told_opt {hs : List House} (W : WF hs) (hn : hs.length = 6) {o : Option Nat} {i j e : Nat} {fold late : Bool} {M : Nat} (h : ∀ c, o = some c → c < 6 ∧ i + j + e + (6 - c) ≤ 6 ∧ 6 - c ≤ M) : (txt (dress i j e fold late (optT hs o))).length ≤ 40320 := by
  cases o with
  | none => exact Nat.zero_le _
  | some c =>
    obtain ⟨h1, h2, _⟩ := h c rfl
    have hl : c < hs.length := lt_eq h1 hn
    have h3 := told_len W c hs[c] (List.getElem?_eq_getElem hl) i j e fold late (by rw [hn]; exact h2)
    refine Nat.le_trans h3 (Nat.le_trans (cap_mono (show hs.length - c ≤ 6 from Nat.le_trans (Nat.sub_le _ _) (Nat.le_of_eq hn))) ?_)
    rw [cap6]
    exact Nat.le_refl _
/-- the names of _law_told's frame -/
noncomputable abbrev mT (D R : Addr) (i j e : Int) (ti tj te : Tok) (fold late : Bool) (mk : Str) (tm : Tok) (pg : Str) (tp : Tok) (f : Str → Option Value) : Str → Option Value := fun y =>
  if y = Str.ofString "houses" then some (.ref D) else if y = Str.ofString "refused" then some (.ref R) else if y = Str.ofString "i" then some (.int i ti) else if y = Str.ofString "j" then some (.int j tj) else if y = Str.ofString "e" then some (.int e te) else if y = Str.ofString "fold" then some (.bool fold) else if y = Str.ofString "late" then some (.bool late) else if y = Str.ofString "mark" then some (.str mk tm) else if y = Str.ofString "page" then some (.str pg tp) else f y
theorem fr_T {g h : Heap} {L : Addr} {D R : Addr} {i j e : Int} {ti tj te : Tok} {fold late : Bool} {mk : Str} {tm : Tok} {pg : Str} {tp : Tok} {G : Str → Option Value} (F : Fr g L h G) (e1 : G (Str.ofString "houses") = some (.ref D)) (e2 : G (Str.ofString "refused") = some (.ref R)) (e3 : G (Str.ofString "i") = some (.int i ti)) (e4 : G (Str.ofString "j") = some (.int j tj)) (e5 : G (Str.ofString "e") = some (.int e te)) (e6 : G (Str.ofString "fold") = some (.bool fold)) (e7 : G (Str.ofString "late") = some (.bool late)) (e8 : G (Str.ofString "mark") = some (.str mk tm)) (e9 : G (Str.ofString "page") = some (.str pg tp)) : Fr g L h (mT D R i j e ti tj te fold late mk tm pg tp G) := by
  have e : mT D R i j e ti tj te fold late mk tm pg tp G = G := by
    funext y
    unfold mT
    by_cases a1 : y = Str.ofString "houses"
    · rw [if_pos a1, a1, e1]
    rw [if_neg a1]
    by_cases a1 : y = Str.ofString "refused"
    · rw [if_pos a1, a1, e2]
    rw [if_neg a1]
    by_cases a1 : y = Str.ofString "i"
    · rw [if_pos a1, a1, e3]
    rw [if_neg a1]
    by_cases a1 : y = Str.ofString "j"
    · rw [if_pos a1, a1, e4]
    rw [if_neg a1]
    by_cases a1 : y = Str.ofString "e"
    · rw [if_pos a1, a1, e5]
    rw [if_neg a1]
    by_cases a1 : y = Str.ofString "fold"
    · rw [if_pos a1, a1, e6]
    rw [if_neg a1]
    by_cases a1 : y = Str.ofString "late"
    · rw [if_pos a1, a1, e7]
    rw [if_neg a1]
    by_cases a1 : y = Str.ofString "mark"
    · rw [if_pos a1, a1, e8]
    rw [if_neg a1]
    by_cases a1 : y = Str.ofString "page"
    · rw [if_pos a1, a1, e9]
    rw [if_neg a1]
  rw [e]; exact F
noncomputable abbrev tupV (x : Str) (t : Tok) (v : Value) : Obj := { cls := .type "tuple", data := .seq #[.str x t, v] }
theorem told_start {g h : Heap} {L P a b : Addr} {na nb : Str} {ta tb : Tok} {va vb : Value} {news : List (Addr × Obj)} {D R : Addr} {i j e : Int} {ti tj te : Tok} {fold late : Bool} {mk : Str} {tm : Tok} {pg : Str} {tp : Tok} {G : Str → Option Value} (F : Fr g L h G)
    (N : News g L h ((P, listOf #[.ref a, .ref b] 0) :: (b, tupV nb tb vb) :: (a, tupV na ta va) :: news))
    (e1 : G (Str.ofString "houses") = some (.ref D)) (e2 : G (Str.ofString "refused") = some (.ref R)) (e3 : G (Str.ofString "i") = some (.int i ti)) (e4 : G (Str.ofString "j") = some (.int j tj)) (e5 : G (Str.ofString "e") = some (.int e te)) (e6 : G (Str.ofString "fold") = some (.bool fold)) (e7 : G (Str.ofString "late") = some (.bool late)) (e8 : G (Str.ofString "mark") = some (.str mk tm)) (e9 : G (Str.ofString "page") = some (.str pg tp)) :
    ∃ P' a' b' ta' tb' f, P' = P ∧ Fr g L h (mT D R i j e ti tj te fold late mk tm pg tp f) ∧ News g L h ((P', listOf #[.ref a', .ref b'] 0) :: (b', tupV nb tb' vb) :: (a', tupV na ta' va) :: news) :=
  ⟨P, a, b, ta, tb, G, rfl, fr_T F e1 e2 e3 e4 e5 e6 e7 e8 e9, N⟩
/-- the page after so many rooms -/
noncomputable def pgL (hs : List House) (h : House) (i j e : Nat) (fold late : Bool) : Nat → List Nat
  | 0 => dress i j e fold late h.own
  | 1 => dress i j e fold late h.own ++ roomD i j e fold late 108 (blankO hs h.left) (optT hs h.left)
  | _ => dress i j e fold late h.own ++ roomD i j e fold late 108 (blankO hs h.left) (optT hs h.left) ++ roomD i j e fold late 114 (blankO hs h.right) (optT hs h.right)
theorem roomD_len {i j e : Nat} {fold late : Bool} {c : Nat} {b : Bool} {v : List Nat} (L0 : (txt (dress i j e fold late [34])).length ≤ 200) (L2 : (txt (dress (i + 1) j e fold late v)).length ≤ 40320) : (roomD i j e fold late c b v).length ≤ 41000 := by
  rw [length_txt] at L0 L2
  unfold roomD
  split
  · simp
  · simp only [List.length_append, List.length_cons, List.length_nil]
    omega
theorem told_turn {hs : List House} {h : House} {k i j e : Nat} {fold late : Bool} {vl vr v : Value} {P a1 a2 : Addr} {u1 u2 : Tok} {news : List (Addr × Obj)} {x : Nat} (L0 : (txt (dress i j e fold late [34])).length ≤ 200) (L1 : (txt (dress i j e fold late h.own)).length ≤ 200)
    (L2 : (txt (dress (i + 1) j e fold late (optT hs h.left))).length ≤ 40320) (L3 : (txt (dress (i + 1) j e fold late (optT hs h.right))).length ≤ 40320) (hvl : optV h.left vl) (hvr : optV h.right vr) (hl : ∀ c, h.left = some c → c < 6 ∧ k < c) (hr : ∀ c, h.right = some c → c < 6 ∧ k < c)
    (hv : (#[.ref a1, .ref a2] : Array Value)[x]? = some v) :
    ∃ c oi vi ut ad, v = .ref ad ∧ (ad, tupV (txt [59, 32, c, 45]) ut vi) ∈ (P, listOf #[.ref a1, .ref a2] 0) :: (a2, tupV (Str.ofString "; r-") u2 vr) :: (a1, tupV (Str.ofString "; l-") u1 vl) :: news ∧ optV oi vi ∧ (∀ c, oi = some c → c < 6 ∧ k < c) ∧
      pgL hs h i j e fold late (x + 1) = pgL hs h i j e fold late x ++ roomD i j e fold late c (blankO hs oi) (optT hs oi) ∧ (txt (pgL hs h i j e fold late x)).length ≤ 100000 ∧ (txt (dress (i + 1) j e fold late (optT hs oi))).length ≤ 40320 := by
  rcases x with _ | _ | x
  · cases hv
    exact ⟨108, h.left, vl, u1, a1, rfl, .tail _ (.tail _ (.head _)), hvl, hl, rfl, Nat.le_trans L1 (by decide), L2⟩
  · cases hv
    refine ⟨114, h.right, vr, u2, a2, rfl, .tail _ (.head _), hvr, hr, rfl, ?_, L3⟩
    have h1 := roomD_len (c := 108) (b := blankO hs h.left) L0 L2
    rw [length_txt] at L1 ⊢
    show (_ ++ _ : List Nat).length ≤ _
    rw [List.length_append]
    omega
  · simp at hv
local macro_rules | `(tactic| walk_at "exec For Tuple List cons nil") => `(tactic| (k_here; refine of_held ?_))
noncomputable def ToldOk (hs : List House) (M : Nat) : Prop := ∀ {w : World} {mean : ExcName → Option Value} {mg mb : Str → Option Value}
    {dp un : Nat} {gd : Option (List Code)} {cn : Str} {cs : Scope} {a : Addr} {ccd : Value} {cl : List (Str × Addr)} {outer : List Env} {A₀ : Around} {base h₀ : Heap} {L : Addr} {m : Str → Option Value} {news : List (Addr × Obj)} {s : Shared} {Q E : Value → Shared → Prop}
    {o : Option Nat} {v : Value} {D R : Addr} {i j e : Nat} {fold late : Bool} {ti tj te : Tok}
    (B : Below A₀ base outer h₀) (F : Fr h₀ L s.heap m) (X : (heapK w.params).In h₀) (N : News h₀ L s.heap news) (T : Top vwT (looseW vwT looseT) mean mg mb h₀) (hk : cs.kind = .function)
    (hd : dp + 40 + M < recursionLimit) (hu : un + 400 + 20 * M < cLine) (hM : ∀ k, o = some k → k < 6 ∧ i + j + e + (6 - k) ≤ 6 ∧ 6 - k ≤ M) (hv : optV o v) (H : HAt news hs D) (HR : RAt news hs R)
    (hret : ∀ t h' tk', Fr h₀ L h' m → News h₀ L h' news → Q (.str (txt (dress i j e fold late (optT hs o))) t) { s with heap := h', toks := tk' }),
    wpAny (model Challenge.rw_un0048_01.row.prog w) (ktrTop dp un gd cn cs L a ccd cl outer) (call (.ref 304) [.ref D, .ref R, v, .int (i : Int) ti, .int (j : Int) tj, .int (e : Int) te, .bool fold, .bool late]) Q E s
theorem told_step {hs : List House} (W : WF hs) (hn : hs.length = 6) {M : Nat} (ih : ∀ M', M' < M → ToldOk hs M') {w : World} {mean : ExcName → Option Value} {mg mb : Str → Option Value}
    {dp un : Nat} {gd : Option (List Code)} {cn : Str} {cs : Scope} {a : Addr} {ccd : Value} {cl : List (Str × Addr)} {outer : List Env} {A₀ : Around} {base h₀ : Heap} {L : Addr} {m : Str → Option Value} {news : List (Addr × Obj)} {s : Shared} {Q E : Value → Shared → Prop}
    {o : Option Nat} {v : Value} {D R : Addr} {i j e : Nat} {fold late : Bool} {ti tj te : Tok}
    (B : Below A₀ base outer h₀) (F : Fr h₀ L s.heap m) (X : (heapK w.params).In h₀) (N : News h₀ L s.heap news) (T : Top vwT (looseW vwT looseT) mean mg mb h₀) (hk : cs.kind = .function)
    (hd : dp + 40 + M < recursionLimit) (hu : un + 400 + 20 * M < cLine) (hM : ∀ k, o = some k → k < 6 ∧ i + j + e + (6 - k) ≤ 6 ∧ 6 - k ≤ M) (hv : optV o v) (H : HAt news hs D) (HR : RAt news hs R)
    (hret : ∀ t h' tk', Fr h₀ L h' m → News h₀ L h' news → Q (.str (txt (dress i j e fold late (optT hs o))) t) { s with heap := h', toks := tk' }) :
    wpAny (model Challenge.rw_un0048_01.row.prog w) (ktrTop dp un gd cn cs L a ccd cl outer) (call (.ref 304) [.ref D, .ref R, v, .int (i : Int) ti, .int (j : Int) tj, .int (e : Int) te, .bool fold, .bool late]) Q E s := by
  revert X; k_fill; intro X
  refine wpAny_call ?_
  k_dflt (refine' code_def ?k1 ?k2 ?k3 ?k4 ?k5 ?kA ?kF ?kK ?k6 ?k7 ?k8 ?k9 ?kB ?_ ?c2 ?c3 ?c4 ?c5; (case kA => exact rfl); (case kF => exact rfl); (case kK => assumption); (case k1 => k_asm); (case k2 => k_asm); (case k3 => k_asm); (case k4 => k_asm); (case k5 => k_asm); (case k6 => k_is); (case k7 => k_is); (case k8 => first | exact fits0 hd | ktr_room); (case k9 => first | exact BindsTo.of_eq rfl | exact binds_K (by k_in) rfl (by k_is) rfl rfl rfl); (case c5 => decide); (case kB => exact locs rfl); (case c2 => exact rfl); (case c3 => exact rfl); (case c4 => exact rfl); k_whole; intro g' L' h' FG' F' N' B' X' T'; (try dsimp only); (try k_fold))
  conv => arg 3; arg 1; whnf
  cases o with
  | none =>
    cases hv
    k_steps
    exact hret _ _ _ (by assumption) (by assumption)
  | some k =>
    obtain ⟨t, rfl⟩ := hv
    obtain ⟨hk6, hij, hkM⟩ := hM k rfl
    obtain ⟨as, n, hal, hDm, hcs⟩ := H.ex
    obtain ⟨rv, rn, hRm, hri⟩ := HR.ex
    have hkl : k < hs.length := lt_eq hk6 hn
    have hkh := List.getElem?_eq_getElem hkl
    have hka : k < as.length := lt_eq hkl hal
    obtain ⟨o, hom, kk, th, uh, va, vl, vr, nh, rfl, _, hva, hvl, hvr⟩ := hcs k hs[k] as[k] hkh (List.getElem?_eq_getElem hka)
    generalize hs[k] = h at hkh hom hva hvl hvr
    have hkl2 : ∀ c, h.left = some c → c < 6 ∧ k < c := fun c e =>
      let ⟨q1, hc, q2, _⟩ := W.left hkh e
      ⟨hn ▸ (List.getElem?_eq_some_iff.mp q2).1, q1⟩
    have hkr2 : ∀ c, h.right = some c → c < 6 ∧ k < c := fun c e =>
      let ⟨q1, hc, q2, _⟩ := W.right hkh e
      ⟨hn ▸ (List.getElem?_eq_some_iff.mp q2).1, q1⟩
    have hM1 : M - 1 < M := kid_lt hk6 hkM
    have hd0 : dp + 40 < recursionLimit := fits0 hd
    have hu0 : un + 400 < cLine := fits0 hu
    have hij0 : i + j + e ≤ 6 := Nat.le_trans (Nat.le_add_right _ _) hij
    have hol : (txt h.own).length ≤ 2 := (W.own hkh).1
    k_steps
    refine in_list_ints (News.isList N' hRm) hri ?_
    rw [in_ref]
    by_cases hr : k ∈ refL hs
    · rw [decide_eq_true hr]
      k_steps
      have e0 : dress i j e fold late (optT hs (some k)) = [63] := dress_ref W hkh hr i j e fold late
      rw [e0] at hret
      exact hret _ _ _ (by assumption) (by assumption)
    rw [decide_eq_false hr]
    k_steps
    with_reducible rename News _ _ _ _ => N₂
    have hget : (as.map Value.ref)[((k : Nat) : Int).toNat]? = some (.ref as[k]) := by simp [hka]
    refine item_litK (vs := as.map Value.ref) (v := .ref as[k]) ⟨_, (N₂ _ hDm).1, rfl, n, rfl⟩ (i0 _) (i6 hk6) hget ?_
    generalize as[k] = b at hom
    have hown : ∀ c ∈ h.own, c ∈ alph ∧ c ≠ 68 := (W.own hkh).2
    have hol2 : h.own.length ≤ 2 := (W.own hkh).1
    have hkd := W.kind hkh
    k_steps
    · rename ((_ : Nat) : Int) = 0 => hk0
      have e0 : dress i j e fold late (optT hs (some k)) = _ := dress_0 W hkh (int_nat (m := 0) hk0) hr i j e fold late
      rw [e0] at hret
      have L0 : (txt (dress i j e fold late [34])).length ≤ 200 := Nat.le_trans (dress_len hij0 _ _ _) (by decide)
      have L1 : (txt (dress i j e fold late h.own)).length ≤ 200 := Nat.le_trans (dress_len hij0 _ _ _) (Nat.mul_le_mul_left 100 hol2)
      have L2 : (txt (dress (i + 1) j e fold late (optT hs h.left))).length ≤ 40320 := told_opt W hn (fun c e2 => kid1 hij hkM (hkl2 c e2))
      have L3 : (txt (dress (i + 1) j e fold late (optT hs h.right))).length ≤ 40320 := told_opt W hn (fun c e2 => kid1 hij hkM (hkr2 c e2))
      refine dressed (tf := 0) (tl := 0) (l := h.own) B' (by assumption) X' (by assumption) T' rfl ?_ ?_ hol2 hown hij0 ?_
      · exact fits_in hd0 (by decide)
      · exact fits3 hu0 (by decide)
      intro t4 h₄ tk₄ F₄ N₄
      k_steps
      refine dressed (tf := 0) (tl := 0) (l := [34]) B' (by assumption) X' (by assumption) T' rfl ?_ ?_ (by decide) (by decide) hij0 ?_
      · exact fits_in hd0 (by decide)
      · exact fits3 hu0 (by decide)
      intro t3 h₃ tk₃ F₃ N₃
      k_steps
      refine ⟨?_⟩
      with_reducible rename Fr _ _ _ _ => F₅
      refine for_anyF F₅ ?_ (by intro _; rfl)
      k_steps
      with_reducible rename Fr _ _ _ _ => F₆
      with_reducible rename News _ _ _ _ => N₆
      obtain ⟨P, a1, a2, u1, u2, f, rfl, F₇, N₇⟩ := told_start (D := D) (R := R) (i := i) (j := j) (e := e) F₆ N₆ rfl rfl rfl rfl rfl rfl rfl rfl rfl
      clear F₆ N₆
      have hme1 : ∀ p ∈ news, p ∈ (P, listOf #[.ref a1, .ref a2] 0) :: (a2, tupV (Str.ofString "; r-") u2 vr) :: (a1, tupV (Str.ofString "; l-") u1 vl) :: news := fun p hp => .tail _ (.tail _ (.tail _ hp))
      refine iterM_list (vs := #[.ref a1, .ref a2]) (m₀ := _) (news := _)
        (fun x m₁ news₁ => ∃ tp f, m₁ = mT D R (i : Int) (j : Int) (e : Int) ti tj te fold late (txt (dress i j e fold late [34])) t3 (txt (pgL hs h i j e fold late x)) tp f ∧ news₁ = (P, listOf #[.ref a1, .ref a2] 0) :: (a2, tupV (Str.ofString "; r-") u2 vr) :: (a1, tupV (Str.ofString "; l-") u1 vl) :: news)
        rfl (News.isList N₇ (.head _)) (N₇ _ (.head _)).2.1 F₇ N₇ ⟨_, _, rfl, rfl⟩ ?turn ?done
      case turn =>
        rintro x v m₁ news₁ h₇ tk₇ own hv ⟨tp, f, rfl, rfl⟩ hoff hsub F₈ N₈
        clear F₇ N₇
        obtain ⟨c, oi, vi, ut, ad, rfl, Mt, hoi, hco, hpg, hpl, Li⟩ := told_turn (hs := hs) (news := news) (P := P) (u1 := u1) (u2 := u2) L0 L1 L2 L3 hvl hvr hkl2 hkr2 hv
        have Mt2 := List.mem_append_right own Mt
        have hnm : (txt [59, 32, c, 45]).length ≤ 4 := Nat.le_refl _
        have hM2 : ∀ p ∈ news, p ∈ own ++ (P, listOf #[.ref a1, .ref a2] 0) :: (a2, tupV (Str.ofString "; r-") u2 vr) :: (a1, tupV (Str.ofString "; l-") u1 vl) :: news := fun p hp => List.mem_append_right own (hme1 p hp)
        k_steps
        refine blank_ok W hn M (o := oi) (v := vi) B' (by assumption) X' (by assumption) T' rfl ?_ ?_ (fun q e2 => kidM hkM (hco q e2)) hoi (H.sub hM2) ?_
        · exact fitsB hd (by decide)
        · exact fitsBU hu (by decide)
        intro h₈ tk₈ F₉ N₉
        cases hbo : blankO hs oi with
        | true =>
          k_steps
          with_reducible rename Fr _ _ _ _ => F₁₀
          with_reducible rename News _ _ _ _ => N₁₀
          exact ⟨_, _, _, (P, listOf #[.ref a1, .ref a2] 0) :: (a2, tupV (Str.ofString "; r-") u2 vr) :: (a1, tupV (Str.ofString "; l-") u1 vl) :: news, rfl, fr_T F₁₀ rfl rfl rfl rfl rfl rfl rfl rfl (congrArg (fun z => some (Value.str z _)) (by rw [hpg, hbo, add_txt]; unfold roomD; rw [if_pos rfl, List.append_nil])), N₁₀, (fun p hp => by simpa using hoff p hp), _, _, rfl, rfl⟩
        | false =>
          k_steps
          refine ih (M - 1) hM1 (o := oi) (v := vi) (i := i + 1) B' (by assumption) X' (by assumption) T' rfl ?_ ?_ (fun q e2 => kid1 hij hkM (hco q e2)) hoi (H.sub hM2) (HR.sub hM2) ?_
          · exact fitsM hd hM1
          · exact fitsU hu hM1
          intro t9 h₉ tk₉ F₁₀ N₁₀
          k_steps
          with_reducible rename Fr _ _ _ _ => F₁₁
          with_reducible rename News _ _ _ _ => N₁₁
          exact ⟨_, _, _, (P, listOf #[.ref a1, .ref a2] 0) :: (a2, tupV (Str.ofString "; r-") u2 vr) :: (a1, tupV (Str.ofString "; l-") u1 vl) :: news, rfl, fr_T F₁₁ rfl rfl rfl rfl rfl rfl rfl rfl (congrArg (fun z => some (Value.str z _)) (by
            rw [hpg, hbo, show Str.ofString "=" = txt [61] by decide +kernel, add_txt, add_txt, add_txt, add_txt, add_txt]
            unfold roomD
            rw [if_neg (by decide)]
            simp only [List.append_assoc])), N₁₁, (fun p hp => by simpa using hoff p hp), _, _, rfl, rfl⟩
      case done =>
        rintro h₇ tk₇ m₁ news₁ F₈ N₈ hoff ⟨tp, f, rfl, rfl⟩
        clear F₇ N₇
        k_steps
        exact hret _ _ _ (by assumption) (fun p hp => (by assumption : News _ _ _ (_ :: _ :: _ :: _)) p (hme1 p hp))
    · rename ((_ : Nat) : Int) = 1 => hk1
      have e0 : dress i j e fold late (optT hs (some k)) = _ := dress_1 W hkh (int_nat (m := 1) hk1) i j e fold late
      rw [e0] at hret
      have L0 : (txt (dress i j e fold late [60])).length ≤ 200 := Nat.le_trans (dress_len hij0 _ _ _) (by decide)
      have L1 : (txt (dress 0 (i + j) (e + 1) fold fold h.own)).length ≤ 200 := Nat.le_trans (dress_len (kid2a hk6 hij) _ _ _) (Nat.mul_le_mul_left 100 hol2)
      have L2 : (txt (dress 0 (i + j) (e + 1) fold fold (optT hs h.left))).length ≤ 40320 := told_opt W hn (fun c e2 => kid2 hij hkM (hkl2 c e2))
      have L3 : (txt (dress 0 (i + j) (e + 1) fold fold (optT hs h.right))).length ≤ 40320 := told_opt W hn (fun c e2 => kid2 hij hkM (hkr2 c e2))
      refine dressed (tf := 0) (tl := 0) (l := [60]) B' (by assumption) X' (by assumption) T' rfl ?_ ?_ (by decide) (by decide) hij0 ?_
      · exact fits_in hd0 (by decide)
      · exact fits3 hu0 (by decide)
      intro t3 h₃ tk₃ F₃ N₃
      k_steps
      refine dressed (tf := 0) (tl := 0) (l := h.own) (i := 0) (j := i + j) (e := e + 1) B' (by assumption) X' (by assumption) T' rfl ?_ ?_ hol2 hown (kid2a hk6 hij) ?_
      · exact fits_in hd0 (by decide)
      · exact fits3 hu0 (by decide)
      intro t4 h₄ tk₄ F₄ N₄
      k_steps
      refine ih (M - 1) hM1 (o := h.left) (v := vl) (i := 0) (j := i + j) (e := e + 1) B' (by assumption) X' (by assumption) T' rfl ?_ ?_ (fun c e2 => kid2 hij hkM (hkl2 c e2)) hvl H HR ?_
      · exact fitsM hd hM1
      · exact fitsU hu hM1
      intro t5 h₅ tk₅ F₅ N₅
      k_steps
      refine ih (M - 1) hM1 (o := h.right) (v := vr) (i := 0) (j := i + j) (e := e + 1) B' (by assumption) X' (by assumption) T' rfl ?_ ?_ (fun c e2 => kid2 hij hkM (hkr2 c e2)) hvr H HR ?_
      · exact fitsM hd hM1
      · exact fitsU hu hM1
      intro t6 h₆ tk₆ F₆ N₆
      k_steps
      rw [add_txt, add_txt, add_txt, show Str.ofString ">" = txt [62] by decide +kernel, add_txt]
      exact hret _ _ _ (by assumption) (by assumption)
    · rename ¬ ((_ : Nat) : Int) = 1 => hk1
      rename ¬ ((_ : Nat) : Int) = 0 => hk0
      have e0 : dress i j e fold late (optT hs (some k)) = _ := dress_2 W hkh (kind2 hkd hk0 hk1) i j e fold late
      rw [e0] at hret
      have L1 : (txt (dress i j e true late h.own)).length ≤ 200 := Nat.le_trans (dress_len hij0 _ _ _) (Nat.mul_le_mul_left 100 hol2)
      have L2 : (txt (dress i j e true late (optT hs h.left))).length ≤ 40320 := told_opt W hn (fun c e2 => kid3 hij hkM (hkl2 c e2))
      have L3 : (txt (dress i j e true late (optT hs h.right))).length ≤ 40320 := told_opt W hn (fun c e2 => kid3 hij hkM (hkr2 c e2))
      refine dressed (tf := 0) (tl := 0) (l := h.own) B' (by assumption) X' (by assumption) T' rfl ?_ ?_ hol2 hown hij0 ?_
      · exact fits_in hd0 (by decide)
      · exact fits3 hu0 (by decide)
      intro t4 h₄ tk₄ F₄ N₄
      k_steps
      refine ih (M - 1) hM1 (o := h.left) (v := vl) B' (by assumption) X' (by assumption) T' rfl ?_ ?_ (fun c e2 => kid3 hij hkM (hkl2 c e2)) hvl H HR ?_
      · exact fitsM hd hM1
      · exact fitsU hu hM1
      intro t5 h₅ tk₅ F₅ N₅
      k_steps
      refine ih (M - 1) hM1 (o := h.right) (v := vr) B' (by assumption) X' (by assumption) T' rfl ?_ ?_ (fun c e2 => kid3 hij hkM (hkr2 c e2)) hvr H HR ?_
      · exact fitsM hd hM1
      · exact fitsU hu hM1
      intro t6 h₆ tk₆ F₆ N₆
      k_steps
      rw [add_txt, add_txt]
      exact hret _ _ _ (by assumption) (by assumption)
theorem told_ok {hs : List House} (W : WF hs) (hn : hs.length = 6) : ∀ M, ToldOk hs M := by
  intro M
  induction M using Nat.strongRecOn with
  | ind M ih => intro w mean mg mb dp un gd cn cs a ccd cl outer A₀ base h₀ L m news s Q E o v D R i j e fold late ti tj te B F X N T hk hd hu hM hv H HR hret; exact told_step W hn ih B F X N T hk hd hu hM hv H HR hret
end Mine
end

section
open PySem PySem.W PyProof.Rows PySem.Calls
set_option maxRecDepth 100000
set_option Elab.async false
set_option linter.unusedVariables false
namespace Mine
section
variable {prog : Program} {w : World} {A : Around} {E : Value → Shared → Prop} {s : Shared} {env : Env} {h₀ : Heap} {Q : Flow → Shared → Prop}
/-- a loop over a range with an invariant of the names and the ledger -/
theorem iterM_range {y : Str} {yp : Pos} {body : List Stmt} {r : Addr} {a b c : Int} {t u v : Tok} {n : Nat} {m₀ : Str → Option Value} {news : List (Addr × Obj)} (J : Nat → (Str → Option Value) → List (Addr × Obj) → Prop)
    (hh : A.handled = none) (hr : IsRange s.heap r a b c t u v) (hsm : Builtin.Range.small a b c = true) (hn : Builtin.Range.rangeSize a b c = (n : Int)) (F : Fr h₀ env.locals s.heap m₀) (N : News h₀ env.locals s.heap news) (hj : J 0 m₀ news)
    (turn : ∀ i t v m₁ news₁ h tk own, i < n → v = a + (i : Nat) * c → J i m₁ news₁ → (∀ p ∈ news₁, p.1 ≠ s.heap.objs.size) → (∀ p ∈ own, p.1 = s.heap.objs.size) → Fr h₀ env.locals h m₁ → News h₀ env.locals h (own ++ news₁) →
      wpAny (model prog w) A (assign (.Name y yp) env (.int v t)) (fun _ s₃ => wpAny (model prog w) A (execs body env) (TurnM h₀ env.locals [s.heap.objs.size] own (J (i + 1)) s Q) E s₃) E { s with heap := h, toks := tk })
    (done : ∀ h' tk m' news', Fr h₀ env.locals h' m' → News h₀ env.locals h' news' → (∀ p ∈ news', p.1 ≠ s.heap.objs.size) → J n m' news' → Q .next { s with heap := h', toks := tk }) :
    wpAny (model prog w) A (pyIter (.ref r)) (fun it s₂ => LoopM prog w A h₀ env (.Name y yp) body Q E it s₂) E s := by
  refine wpAny_pyIter_range hr hsm ?_
  have W := Walks.range (prog := prog) (w := w) hh s.heap.objs.size a c n
  have hst : IsRangeIter (s.heap.push { cls := .type "range_iterator", data := .fields #[rawInt a, rawInt (Builtin.Range.rangeSize a b c), rawInt c] }) s.heap.objs.size (a + ((0 : Nat) : Int) * c) ((n : Int) - ((0 : Nat) : Int)) c := by
    have e1 : a + ((0 : Nat) : Int) * c = a := by simp
    have e2 : (n : Int) - ((0 : Nat) : Int) = Builtin.Range.rangeSize a b c := by rw [hn]; simp
    rw [e1, e2]
    exact Heap.get?_push_size _ rfl
  refine ⟨_, _, _, n, _, _, m₀, news, J, rfl, W, ?_, ?_, ?_, hst, F.push _, (fun p hp => ⟨Heap.get?_push_of_some _ (N p hp).1, (N p hp).2⟩), ?_, hj, ?_, ?_⟩
  · intro hm
    exact absurd F.ns.lt ((List.mem_singleton.mp hm) ▸ Nat.lt_irrefl _)
  · intro b hb
    rw [List.mem_singleton.mp hb]
    exact next_is_new F
  · intro p hp hI
    exact absurd (Heap.lt_size (N p hp).1) ((List.mem_singleton.mp hI) ▸ Nat.lt_irrefl _)
  · intro i s' v Q' hst hq
    exact wpAny_pure hq
  · intro i v m₁ news₁ h tk own hi hP _ _ hJ hoff hsub F₁ N₁
    obtain ⟨t, rfl⟩ := hP
    exact turn i t _ m₁ news₁ h tk own hi rfl hJ (fun p hp e => hoff p hp (by rw [e]; exact List.mem_singleton_self _)) (fun p hp => List.mem_singleton.mp (hsub p hp)) F₁ N₁
  · intro h' tk m' news' F₁ N₁ hoff hJ
    exact done h' tk m' news' F₁ N₁ (fun p hp e => hoff p hp (by rw [e]; exact List.mem_singleton_self _)) hJ
end
end Mine
end

section
open PySem PySem.W PyProof.Rows PySem.Calls
set_option maxRecDepth 100000
set_option Elab.async false
set_option linter.unusedVariables false
namespace Mine
section
variable {prog : Program} {w : World} {A : Around} {E : Value → Shared → Prop} {s : Shared} {env : Env} {Q : Flow → Shared → Prop} {test : Expr} {body : List Stmt} {pos : Pos}
/-- what a turn of a while loop leaves -/
noncomputable def TurnW (I : Nat → Shared → Prop) (n : Nat) (Q : Flow → Shared → Prop) (f : Flow) (s₃ : Shared) : Prop :=
  match f with
  | .next | .cont => ∃ k, k < n ∧ I k s₃
  | .brk => Q .next s₃
  | .ret v => Q (.ret v) s₃
theorem while_G (I : Nat → Shared → Prop) (n : Nat) (h0 : I n s)
    (turn : ∀ n s, I n s → wpAny (model prog w) A (isTrue test env (eval test env)) (fun b s₂ => if b then wpAny (model prog w) A (execs body env) (TurnW I n Q) E s₂ else Q .next s₂) E s)
    (hE : PassesOwn (model prog w) A env E := by passes_own) :
    wpAny (model prog w) A (exec (.While test body [] pos) env) Q E s := by
  refine wpAny_While (codeAny_whileLoop I (fun n s hI => ?_) n h0)
  refine wpAny_passesOwn hE (wpAny_mono (turn n s hI) (fun b s₂ h₂ => ?_) fun _ _ e => e)
  cases b with
  | true =>
    refine wpAny_passesOwn hE (wpAny_mono h₂ (fun f s₃ h₃ => ?_) fun _ _ e => e)
    cases f <;> exact h₃
  | false => exact wpAny_execs_nil h₂
end
end Mine
end

section
open PySem PySem.W PyProof.Rows PySem.Calls
set_option maxRecDepth 100000
set_option Elab.async false
set_option linter.unusedVariables false
set_option maxHeartbeats 4000000
namespace Mine
noncomputable def refK (hs : List House) (x : Nat) : List Nat := (List.range x).flatMap fun k => match hs[k]? with | some h => h.own.flatMap (refFrom hs k) | none => []
theorem refK_all (hs : List House) : refK hs hs.length = refL hs := rfl
theorem refK_succ {hs : List House} {x : Nat} {h : House} (hx : hs[x]? = some h) : refK hs (x + 1) = refK hs x ++ h.own.flatMap (refFrom hs x) := by
  unfold refK
  rw [List.range_succ, List.flatMap_append, List.flatMap_singleton, hx]
noncomputable abbrev mH (D R : Addr) (f : Str → Option Value) : Str → Option Value := fun y =>
  if y = Str.ofString "houses" then some (.ref D) else if y = Str.ofString "refused" then some (.ref R) else f y
theorem fr_H {g h : Heap} {L D R : Addr} {G : Str → Option Value} (F : Fr g L h G) (e1 : G (Str.ofString "houses") = some (.ref D)) (e2 : G (Str.ofString "refused") = some (.ref R)) : Fr g L h (mH D R G) := by
  have e : mH D R G = G := by
    funext y
    unfold mH
    by_cases a1 : y = Str.ofString "houses"
    · rw [if_pos a1, a1, e1]
    rw [if_neg a1]
    by_cases a1 : y = Str.ofString "refused"
    · rw [if_pos a1, a1, e2]
    rw [if_neg a1]
  rw [e]; exact F
noncomputable abbrev mR (D R : Addr) (k : Int) (tk : Tok) (f : Str → Option Value) : Str → Option Value := fun y =>
  if y = Str.ofString "houses" then some (.ref D) else if y = Str.ofString "refused" then some (.ref R) else if y = Str.ofString "k" then some (.int k tk) else f y
theorem fr_R {g h : Heap} {L : Addr} {D R : Addr} {k : Int} {tk : Tok} {G : Str → Option Value} (F : Fr g L h G) (e1 : G (Str.ofString "houses") = some (.ref D)) (e2 : G (Str.ofString "refused") = some (.ref R)) (e3 : G (Str.ofString "k") = some (.int k tk)) : Fr g L h (mR D R k tk G) := by
  have e : mR D R k tk G = G := by
    funext y
    unfold mR
    by_cases a1 : y = Str.ofString "houses"
    · rw [if_pos a1, a1, e1]
    rw [if_neg a1]
    by_cases a1 : y = Str.ofString "refused"
    · rw [if_pos a1, a1, e2]
    rw [if_neg a1]
    by_cases a1 : y = Str.ofString "k"
    · rw [if_pos a1, a1, e3]
    rw [if_neg a1]
  rw [e]; exact F
noncomputable abbrev mW (D R : Addr) (k : Int) (tk : Tok) (c : Str) (ts : Tok) (v : Value) (f : Str → Option Value) : Str → Option Value := fun y =>
  if y = Str.ofString "houses" then some (.ref D) else if y = Str.ofString "refused" then some (.ref R) else if y = Str.ofString "k" then some (.int k tk) else if y = Str.ofString "sign" then some (.str c ts) else if y = Str.ofString "at" then some v else f y
theorem fr_W {g h : Heap} {L : Addr} {D R : Addr} {k : Int} {tk : Tok} {c : Str} {ts : Tok} {v : Value} {G : Str → Option Value} (F : Fr g L h G) (e1 : G (Str.ofString "houses") = some (.ref D)) (e2 : G (Str.ofString "refused") = some (.ref R)) (e3 : G (Str.ofString "k") = some (.int k tk)) (e4 : G (Str.ofString "sign") = some (.str c ts)) (e5 : G (Str.ofString "at") = some v) : Fr g L h (mW D R k tk c ts v G) := by
  have e : mW D R k tk c ts v G = G := by
    funext y
    unfold mW
    by_cases a1 : y = Str.ofString "houses"
    · rw [if_pos a1, a1, e1]
    rw [if_neg a1]
    by_cases a1 : y = Str.ofString "refused"
    · rw [if_pos a1, a1, e2]
    rw [if_neg a1]
    by_cases a1 : y = Str.ofString "k"
    · rw [if_pos a1, a1, e3]
    rw [if_neg a1]
    by_cases a1 : y = Str.ofString "sign"
    · rw [if_pos a1, a1, e4]
    rw [if_neg a1]
    by_cases a1 : y = Str.ofString "at"
    · rw [if_pos a1, a1, e5]
    rw [if_neg a1]
  rw [e]; exact F
noncomputable def climbO (hs : List House) (c : Nat) : Option Nat → Option Nat
  | none => none
  | some x => climb hs c x
theorem bad_in : ∀ c ∈ alph, (!(Builtin.Str.occurrences (Str.ofString "\n\x0d\x7f") ⟨#[c]⟩ 0 (Str.ofString "\n\x0d\x7f").length 1).isEmpty) = badS c := by decide +kernel
theorem ref_led {g h : Heap} {L R I : Addr} {oR : Obj} {ow news : List (Addr × Obj)} (q : ∀ p ∈ news, p.1 ≠ R) (hoff : ∀ p ∈ (R, oR) :: news, p.1 ≠ I) (hsub : ∀ p ∈ ow, p.1 = I) (N : News g L h (ow ++ (R, oR) :: news)) :
    News g L h ((R, oR) :: (ow ++ news)) ∧ (∀ p ∈ ow ++ news, p.1 ≠ R) ∧ ∀ (h' : Heap) (o' : Obj), News g L h' ((R, o') :: (ow ++ news)) → News g L h' (ow ++ (R, o') :: news) := by
  refine ⟨fun p hp => N p ?_, fun p hp e => ?_, fun h' o' NN p hp => NN p ?_⟩
  · simp only [List.mem_cons, List.mem_append] at hp ⊢
    rcases hp with h | h | h
    · exact .inr (.inl h)
    · exact .inl h
    · exact .inr (.inr h)
  · rcases List.mem_append.mp hp with hp | hp
    · exact hoff (R, oR) (.head _) (e.symm.trans (hsub p hp))
    · exact q p hp e
  · simp only [List.mem_cons, List.mem_append] at hp ⊢
    rcases hp with h | h | h
    · exact .inr (.inl h)
    · exact .inl h
    · exact .inr (.inr h)
/-- what holds between the turns over the houses, and within one -/
noncomputable def RefJ (hs : List House) (D R : Addr) (base : List (Addr × Obj)) (l : List Nat) (n : Nat) (mm : (Str → Option Value) → Str → Option Value) (m₁ : Str → Option Value) (news₁ : List (Addr × Obj)) : Prop :=
  ∃ f vs rn, m₁ = mm f ∧ news₁ = (R, listOf vs rn) :: base ∧ IntsAre vs.toList (l.map Int.ofNat) ∧ vs.size ≤ n
theorem ref_take {hs : List House} {x i c : Nat} {own : List Nat} (h : own[i]? = some c) : refK hs x ++ (own.take (i + 1)).flatMap (refFrom hs x) = refK hs x ++ (own.take i).flatMap (refFrom hs x) ++ refFrom hs x c := by
  rw [List.take_add_one, h, List.flatMap_append]
  simp
theorem item_led {prog : Program} {w : World} {A : Around} {E : Value → Shared → Prop} {s : Shared} {h₀ : Heap} {L : Addr} {news : List (Addr × Obj)} {value slice : PySem.Expr} {l : Addr} {vs : Array Value} {n : Nat} {k : Int} {u : Tok} {v : Value} {Q : Value → Shared → Prop}
    (N : News h₀ L s.heap news) (hm : (l, listOf vs n) ∈ news) (hx : vs.toList[k.toNat]? = some v) (h0 : 0 ≤ k) (h1 : k < 2 ^ 63) (h : Q v s)
    (hs : subscripted slice false (.ref l) (.int k u) = operate [.ref l, .int k u] (getItem (.ref l) (.int k u)) := by with_unfolding_all rfl) :
    wpAny (model prog w) A (subscriptTail value slice (.ref l) (.int k u)) Q E s := item_litK (vs := vs.toList) (News.isList N hm) h0 h1 hx h hs
noncomputable def measO : Option Nat → Nat
  | none => 0
  | some z => z + 1
theorem climb_meas {o : Option Nat} {y : Nat} (h : ∀ z, o = some z → z < y) : measO o < y + 1 := by
  cases o with
  | none => exact Nat.succ_pos _
  | some z => exact Nat.succ_lt_succ (h z rfl)
theorem climb_next {hs : List House} (W : WF hs) {c y : Nat} {h : House} (hy : hs[y]? = some h) (hp : passes h.kind c = true) : climbO hs c h.above = climb hs c y ∧ ∀ z, h.above = some z → z < y := by
  cases ha : h.above with
  | none => exact ⟨(climb_none hy hp ha).symm, fun z e => by cases e⟩
  | some a => exact ⟨(climb_up W hy hp ha).symm, fun z e => by cases e; exact (W.above hy ha).1⟩
theorem ref_start {g h : Heap} {L D R : Addr} {news : List (Addr × Obj)} {n : Nat} {G : Str → Option Value} (F : Fr g L h G) (N : News g L h ((R, listOf #[] n) :: news)) (q : ∀ p ∈ news, p.1 < R) (e1 : G (Str.ofString "houses") = some (.ref D)) (e2 : G (Str.ofString "refused") = some (.ref R)) :
    ∃ R' f, (∀ p ∈ news, p.1 < R') ∧ Fr g L h (mH D R' f) ∧ News g L h ((R', listOf #[] n) :: news) := ⟨R, G, q, fr_H F e1 e2, N⟩
local macro_rules | `(tactic| walk_at "subscriptTail") => `(tactic| (k_here; (with_reducible show wpAny _ _ (subscriptTail _ _ (Value.ref _) (Value.int _ _)) _ _ _); refine of_held ?_))
local macro_rules | `(tactic| walk_at "exec For Name Call cons nil") => `(tactic| (k_here; refine of_held ?_))
local macro_rules | `(tactic| walk_at "exec For Name Subscript cons nil") => `(tactic| (k_here; refine of_held ?_))
local macro_rules | `(tactic| walk_at "exec While BoolOp") => `(tactic| (k_here; refine of_held ?_))
theorem refused_any {hs : List House} (W : WF hs) (hn : hs.length = 6) {w : World} {mean : ExcName → Option Value} {mg mb : Str → Option Value}
    {dp un : Nat} {gd : Option (List Code)} {cn : Str} {cs : Scope} {a : Addr} {ccd : Value} {cl : List (Str × Addr)} {outer : List Env} {A₀ : Around} {base h₀ : Heap} {L : Addr} {m : Str → Option Value} {news : List (Addr × Obj)} {s : Shared} {Q E : Value → Shared → Prop}
    {D : Addr}
    (B : Below A₀ base outer h₀) (F : Fr h₀ L s.heap m) (X : (heapK w.params).In h₀) (N : News h₀ L s.heap news) (T : Top vwT (looseW vwT looseT) mean mg mb h₀) (hk : cs.kind = .function)
    (hd : dp + 20 < recursionLimit) (hu : un + 200 < cLine) (H : HAt news hs D)
    (hret : ∀ R (vs : Array Value) n h' tk', (∀ p ∈ news, p.1 < R) → IntsAre vs.toList ((refL hs).map Int.ofNat) → Fr h₀ L h' m → News h₀ L h' ((R, listOf vs n) :: news) → Q (.ref R) { s with heap := h', toks := tk' }) :
    wpAny (model Challenge.rw_un0048_01.row.prog w) (ktrTop dp un gd cn cs L a ccd cl outer) (call (.ref 285) [.ref D]) Q E s := by
  revert X; k_fill; intro X
  refine wpAny_call ?_
  k_dflt (refine' code_def ?k1 ?k2 ?k3 ?k4 ?k5 ?kA ?kF ?kK ?k6 ?k7 ?k8 ?k9 ?kB ?_ ?c2 ?c3 ?c4 ?c5; (case kA => exact rfl); (case kF => exact rfl); (case kK => assumption); (case k1 => k_asm); (case k2 => k_asm); (case k3 => k_asm); (case k4 => k_asm); (case k5 => k_asm); (case k6 => k_is); (case k7 => k_is); (case k8 => first | exact fits0 hd | ktr_room); (case k9 => first | exact BindsTo.of_eq rfl | exact binds_K (by k_in) rfl (by k_is) rfl rfl rfl); (case c5 => decide); (case kB => exact locs rfl); (case c2 => exact rfl); (case c3 => exact rfl); (case c4 => exact rfl); k_whole; intro g' L' h' FG' F' N' B' X' T'; (try dsimp only); (try k_fold))
  conv => arg 3; arg 1; whnf
  obtain ⟨as, n, hal, hDm, hcs⟩ := H.ex
  k_steps
  refine ⟨?_⟩
  with_reducible rename Fr _ _ _ _ => F₁
  with_reducible rename News _ _ _ _ => N₁
  obtain ⟨R, f, hlt, F₂, N₂⟩ := ref_start F₁ N₁ (by assumption) rfl rfl
  clear F₁ N₁
  refine for_anyF F₂ ?_ (by intro _; rfl)
  k_steps
  with_reducible rename News _ _ _ _ => N₃
  have hz : (as.map Value.ref).toArray.size = 6 := by simp [hal, hn]
  refine call_len_list (News.isList N₃ (.tail _ hDm)) (by rw [hz]; decide) ?_
  rw [hz]
  k_steps
  with_reducible rename Fr _ _ _ _ => F₄
  with_reducible rename News _ _ _ _ => N₄
  rename IsRange _ _ _ _ _ _ _ _ => hrg
  refine iterM_range (n := 6) (m₀ := _) (news := _) (fun x => RefJ hs D R news (refK hs x) (2 * x) (mH D R)) rfl hrg (by decide) (by decide) F₄ N₄ ⟨f, #[], 0, rfl, rfl, .nil, Nat.le_refl _⟩ ?turn ?done
  case turn =>
    rintro x t v m₁ news₁ h₅ tk₅ ow hx6 hv ⟨f, vs, rn, rfl, rfl, hI, hvs⟩ hoff hsub F₅ N₅
    have hv2 : v = (x : Int) := by rw [hv]; omega
    subst hv2
    clear F₄ N₄ hrg hv
    have hkl : x < hs.length := lt_eq hx6 hn
    have hkh := List.getElem?_eq_getElem hkl
    have hka : x < as.length := lt_eq hkl hal
    obtain ⟨o, hom, kk, th, uh, va, vl, vr, nh, rfl, _, hva, hvl, hvr⟩ := hcs x hs[x] as[x] hkh (List.getElem?_eq_getElem hka)
    generalize hs[x] = h at hkh hom hva hvl hvr
    obtain ⟨N₆, hne, back⟩ := ref_led (fun p hp => Nat.ne_of_lt (hlt p hp)) hoff hsub N₅
    clear N₅
    have hM : ∀ p ∈ news, p ∈ (R, listOf vs rn) :: (ow ++ news) := fun p hp => .tail _ (List.mem_append_right _ hp)
    have hol : (txt h.own).length ≤ 2 := (W.own hkh).1
    k_steps
    refine ⟨?_⟩
    with_reducible rename Fr _ _ _ _ => F₆
    refine for_anyF (fr_R F₆ rfl rfl rfl) ?_ (by intro _; rfl)
    k_steps
    with_reducible rename News _ _ _ _ => N₇
    have hget : (as.map Value.ref)[((x : Nat) : Int).toNat]? = some (.ref as[x]) := by simp [hka]
    refine ⟨?_⟩
    refine item_litK (vs := as.map Value.ref) (v := .ref as[x]) ⟨_, (N₇ _ (hM _ hDm)).1, rfl, n, rfl⟩ (i0 _) (i6 hx6) hget ?_
    generalize as[x] = b at hom
    have hom2 := hM _ hom
    k_steps
    with_reducible rename News _ _ _ _ => N₈
    with_reducible rename Fr _ _ _ _ => F₈
    refine ⟨?_⟩
    refine item_litK (vs := [.int (h.kind : Int) th, .str (txt h.own) uh, va, vl, vr]) (v := .str (txt h.own) uh) (News.isList N₈ hom2) (by decide) (by decide) rfl ?_
    refine iterM_str (m₀ := _) (news := _) (fun i => RefJ hs D R (ow ++ news) (refK hs x ++ (h.own.take i).flatMap (refFrom hs x)) (2 * x + i) (mR D R (x : Int) t)) rfl (fr_R F₈ rfl rfl rfl) N₈ ⟨_, vs, rn, rfl, rfl, by simpa using hI, hvs⟩ ?turn2 ?done2
    case turn2 =>
      rintro i c ts m₁ news₁ h₉ tk₉ ow2 hc ⟨f, vs, rn, rfl, rfl, hI, hvs⟩ hoff2 hsub2 _ F₉ N₉
      clear F₈ N₈ hom2 hM
      have hcl : h.own[i]? = some c := by simpa [txt] using hc
      obtain ⟨hcs2, hc68⟩ := (W.own hkh).2 c (List.mem_of_getElem? hcl)
      have hi2 : i < 2 := Nat.lt_of_lt_of_le (List.getElem?_eq_some_iff.mp hcl).1 (W.own hkh).1
      obtain ⟨N₁₂, hne2, back2⟩ := ref_led hne hoff2 hsub2 N₉
      clear N₉
      have hM : ∀ p ∈ news, p ∈ (R, listOf vs rn) :: (ow2 ++ (ow ++ news)) := fun p hp => .tail _ (List.mem_append_right _ (List.mem_append_right _ hp))
      have hDm2 := hM _ hDm
      have hoff3 : ∀ (vs' : Array Value) (rn' : Nat), ∀ p ∈ (R, listOf vs' rn') :: (ow ++ news), p.1 ∉ [_] := fun vs' rn' p hp hI => by
        rcases List.mem_cons.mp hp with rfl | hp
        · exact hoff2 _ (.head _) (List.mem_singleton.mp hI)
        · exact hoff2 p (.tail _ hp) (List.mem_singleton.mp hI)
      k_steps
      · rename (Builtin.Str.occurrences _ _ _ _ _).isEmpty = true => hno
        have hb : badS c = false := by rw [← bad_in c hcs2, hno]; rfl
        have er : refFrom hs x c = [] := by unfold refFrom; rw [hb]; rfl
        with_reducible rename Fr _ _ _ _ => F₁₀
        with_reducible rename News _ _ _ _ => N₁₀
        exact ⟨_, _, _, (R, listOf vs rn) :: (ow ++ news), rfl, fr_R F₁₀ rfl rfl rfl, back2 _ _ N₁₀, hoff3 _ _, _, vs, rn, rfl, rfl, by rw [ref_take hcl, er, List.append_nil]; exact hI, Nat.le_succ_of_le hvs⟩
      · rename (Builtin.Str.occurrences _ _ _ _ _).isEmpty = false => hyes
        have hb : badS c = true := by rw [← bad_in c hcs2, hyes]; rfl
        refine ⟨?_⟩
        with_reducible rename Fr _ _ _ _ => F₁₀
        with_reducible rename News _ _ _ _ => N₁₀
        refine wpAny_mono (Q := fun f s' => Held (f = .next ∧ ∃ h tk v G, s' = { s with heap := h, toks := tk } ∧ Fr g' L' h (mW D R (x : Int) t ⟨#[c]⟩ ts v G) ∧ News g' L' h ((R, listOf vs rn) :: (ow2 ++ (ow ++ news))) ∧ optV (climb hs c x) v ∧ ∀ y, climb hs c x = some y → y < 6))
          (while_G (fun n s' => ∃ h tk o v G, s' = { s with heap := h, toks := tk } ∧ Fr g' L' h (mW D R (x : Int) t ⟨#[c]⟩ ts v G) ∧ News g' L' h ((R, listOf vs rn) :: (ow2 ++ (ow ++ news))) ∧ optV o v ∧ climbO hs c o = climb hs c x ∧ (∀ y, o = some y → y < 6) ∧ n = measO o) (x + 1)
            ⟨_, _, some x, _, _, rfl, fr_W F₁₀ rfl rfl rfl rfl rfl, N₁₀, ⟨_, rfl⟩, rfl, (fun y e => by cases e; exact hx6), rfl⟩ ?turn3) ?post (fun _ _ e => e)
        case turn3 =>
          rintro n₀ s' ⟨h₁₁, tk₁₁, o, v, G, rfl, F₁₁, N₁₁, hov, hcl3, ho6, rfl⟩
          clear F₁₀ N₁₀ F₉ N₁₂
          cases o with
          | none =>
            cases hov
            k_steps
            with_reducible rename Fr _ _ _ _ => F₁₃
            with_reducible rename News _ _ _ _ => N₁₃
            exact ⟨rfl, _, _, _, _, rfl, F₁₃, N₁₃, by rw [← hcl3]; rfl, fun y e => by rw [← hcl3] at e; cases e⟩
          | some y =>
            obtain ⟨ty, rfl⟩ := hov
            have hy6 := ho6 y rfl
            have hyl : y < hs.length := lt_eq hy6 hn
            have hyh := List.getElem?_eq_getElem hyl
            have hya : y < as.length := lt_eq hyl hal
            obtain ⟨o2, hom3, kk2, th2, uh2, va2, vl2, vr2, nh2, rfl, _, hva2, hvl2, hvr2⟩ := hcs y hs[y] as[y] hyh (List.getElem?_eq_getElem hya)
            generalize hs[y] = h2 at hyh hom3 hva2 hvl2 hvr2
            have hget2 : (as.map Value.ref).toArray.toList[((y : Nat) : Int).toNat]? = some (.ref as[y]) := by simp [hya]
            generalize as[y] = b2 at hom3 hget2
            have hom4 := hM _ hom3
            k_steps
            refine ⟨?_⟩
            refine item_led (by assumption) hDm2 hget2 (i0 _) (i6 hy6) ?_
            k_steps
            refine ⟨?_⟩
            refine item_led (by assumption) hom4 rfl (by decide) (by decide) ?_
            k_steps
            · rename ((_ : Nat) : Int) = 2 => hk2
              refine ⟨?_⟩
              refine item_led (by assumption) hDm2 hget2 (i0 _) (i6 hy6) ?_
              k_steps
              refine ⟨?_⟩
              refine item_led (by assumption) hom4 rfl (by decide) (by decide) ?_
              k_steps
              have hp : passes h2.kind c = true := by unfold passes; rw [nat_of (b := 2) hk2]; rfl
              obtain ⟨u1, u2⟩ := climb_next W hyh hp
              with_reducible rename Fr _ _ _ _ => F₁₃
              with_reducible rename News _ _ _ _ => N₁₃
              exact ⟨_, climb_meas u2, _, _, h2.above, va2, _, rfl, fr_W F₁₃ rfl rfl rfl rfl rfl, N₁₃, hva2, u1.trans hcl3, fun z e => Nat.lt_trans (u2 z e) hy6, rfl⟩
            · rename ((_ : Nat) : Int) ≠ 2 => hk2
              refine ⟨?_⟩
              refine item_led (by assumption) hDm2 hget2 (i0 _) (i6 hy6) ?_
              k_steps
              refine ⟨?_⟩
              refine item_led (by assumption) hom4 rfl (by decide) (by decide) ?_
              k_steps
              · rename (_ == _) = true => h7
                rename ((_ : Nat) : Int) = 1 => hk1
                rw [sign_eq (d := 127) (by decide +kernel)] at h7
                replace h7 := of_decide_eq_true h7
                refine ⟨?_⟩
                refine item_led (by assumption) hDm2 hget2 (i0 _) (i6 hy6) ?_
                k_steps
                refine ⟨?_⟩
                refine item_led (by assumption) hom4 rfl (by decide) (by decide) ?_
                k_steps
                have hp : passes h2.kind c = true := by unfold passes; rw [nat_of (b := 1) hk1, h7]; rfl
                obtain ⟨u1, u2⟩ := climb_next W hyh hp
                with_reducible rename Fr _ _ _ _ => F₁₃
                with_reducible rename News _ _ _ _ => N₁₃
                exact ⟨_, climb_meas u2, _, _, h2.above, va2, _, rfl, fr_W F₁₃ rfl rfl rfl rfl rfl, N₁₃, hva2, u1.trans hcl3, fun z e => Nat.lt_trans (u2 z e) hy6, rfl⟩
              · rename (_ == _) = false => h7
                rename ((_ : Nat) : Int) = 1 => hk1
                rw [sign_eq (d := 127) (by decide +kernel)] at h7
                replace h7 := of_decide_eq_false h7
                have hp : passes h2.kind c = false := by unfold passes; rw [nat_of (b := 1) hk1, show (c == 127) = false from beq_eq_false_iff_ne.mpr h7]; rfl
                have hce : climb hs c x = some y := hcl3.symm.trans (climb_stop hyh hp)
                with_reducible rename Fr _ _ _ _ => F₁₃
                with_reducible rename News _ _ _ _ => N₁₃
                exact ⟨rfl, _, _, _, _, rfl, F₁₃, N₁₃, by rw [hce]; exact ⟨_, rfl⟩, fun z e => by rw [hce] at e; cases e; exact hy6⟩
              · rename ((_ : Nat) : Int) ≠ 1 => hk1
                have hp : passes h2.kind c = false := by unfold passes; rw [show (h2.kind == 2) = false from beq_eq_false_iff_ne.mpr (nat_ne (b := 2) hk2), show (h2.kind == 1) = false from beq_eq_false_iff_ne.mpr (nat_ne (b := 1) hk1)]; rfl
                have hce : climb hs c x = some y := hcl3.symm.trans (climb_stop hyh hp)
                with_reducible rename Fr _ _ _ _ => F₁₃
                with_reducible rename News _ _ _ _ => N₁₃
                exact ⟨rfl, _, _, _, _, rfl, F₁₃, N₁₃, by rw [hce]; exact ⟨_, rfl⟩, fun z e => by rw [hce] at e; cases e; exact hy6⟩
        case post =>
          rintro f s' ⟨rfl, h₁₁, tk₁₁, v, G, rfl, F₁₁, N₁₁, hov, ho6⟩
          clear F₁₀ N₁₀ F₉ N₁₂
          dsimp only
          cases hco : climb hs c x with
          | none =>
            rw [hco] at hov
            cases hov
            have er : refFrom hs x c = [] := by unfold refFrom; rw [hb, hco]; rfl
            k_steps
            with_reducible rename Fr _ _ _ _ => F₁₀
            with_reducible rename News _ _ _ _ => N₁₀
            exact ⟨_, _, _, (R, listOf vs rn) :: (ow ++ news), rfl, fr_R F₁₀ rfl rfl rfl, back2 _ _ N₁₀, hoff3 _ _, _, vs, rn, rfl, rfl, by rw [ref_take hcl, er, List.append_nil]; exact hI, Nat.le_succ_of_le hvs⟩
          | some y =>
            rw [hco] at hov
            obtain ⟨ty, rfl⟩ := hov
            have hy6 := ho6 y hco
            have hyl : y < hs.length := lt_eq hy6 hn
            have hyh := List.getElem?_eq_getElem hyl
            have hya : y < as.length := lt_eq hyl hal
            obtain ⟨o2, hom3, kk2, th2, uh2, va2, vl2, vr2, nh2, rfl, _, hva2, hvl2, hvr2⟩ := hcs y hs[y] as[y] hyh (List.getElem?_eq_getElem hya)
            generalize hs[y] = h2 at hyh hom3 hva2 hvl2 hvr2
            have hget2 : (as.map Value.ref).toArray.toList[((y : Nat) : Int).toNat]? = some (.ref as[y]) := by simp [hya]
            generalize as[y] = b2 at hom3 hget2
            have hom4 := hM _ hom3
            have hrf : refFrom hs x c = if h2.kind = 0 then [y] else [] := by
              unfold refFrom
              rw [hb, hco, if_pos rfl]
              dsimp only
              rw [hyh]
              simp
            k_steps
            refine ⟨?_⟩
            refine item_led (by assumption) hDm2 hget2 (i0 _) (i6 hy6) ?_
            k_steps
            refine ⟨?_⟩
            refine item_led (by assumption) hom4 rfl (by decide) (by decide) ?_
            k_steps
            · rename ((_ : Nat) : Int) = 0 => hk0
              rw [if_pos (nat_of (b := 0) hk0)] at hrf
              with_reducible rename Fr _ _ _ _ => F₁₀
              with_reducible rename News _ _ _ _ => N₁₀
              exact ⟨_, _, _, (R, listOf (vs.push (.int (y : Int) ty)) (rn + 1)) :: (ow ++ news), rfl, fr_R F₁₀ rfl rfl rfl, back2 _ _ N₁₀, hoff3 _ _, _, _, _, rfl, rfl, by rw [ref_take hcl, hrf, List.map_append, Array.toList_push]; exact IntsAre.append hI (.cons _ _ .nil), by rw [Array.size_push]; exact Nat.succ_le_succ hvs⟩
            · rename ((_ : Nat) : Int) ≠ 0 => hk0
              rw [if_neg (nat_ne (b := 0) hk0)] at hrf
              with_reducible rename Fr _ _ _ _ => F₁₀
              with_reducible rename News _ _ _ _ => N₁₀
              exact ⟨_, _, _, (R, listOf vs rn) :: (ow ++ news), rfl, fr_R F₁₀ rfl rfl rfl, back2 _ _ N₁₀, hoff3 _ _, _, vs, rn, rfl, rfl, by rw [ref_take hcl, hrf, List.append_nil]; exact hI, Nat.le_succ_of_le hvs⟩
    case done2 =>
      rintro h₉ tk₉ m₁ news₁ F₉ N₉ hoff2 ⟨f, vs, rn, rfl, rfl, hI, hvs⟩
      clear F₈ N₈
      have e9 : h.own.take (txt h.own).cps.size = h.own := by
        show h.own.take h.own.length = _
        exact List.take_length
      rw [e9, ← refK_succ hkh] at hI
      have hol3 : (txt h.own).cps.size ≤ 2 := hol
      k_steps
      with_reducible rename Fr _ _ _ _ => F₁₀
      with_reducible rename News _ _ _ _ => N₁₀
      refine ⟨_, _, _, (R, listOf vs rn) :: news, rfl, fr_H F₁₀ rfl rfl, back _ _ N₁₀, fun p hp hI => ?_, _, vs, rn, rfl, rfl, hI, Nat.le_trans hvs (Nat.add_le_add_left hol3 _)⟩
      rcases List.mem_cons.mp hp with rfl | hp
      · exact hoff _ (.head _) (List.mem_singleton.mp hI)
      · exact hoff p (.tail _ hp) (List.mem_singleton.mp hI)
  case done =>
    rintro h₅ tk₅ m₁ news₁ F₅ N₅ hoff ⟨f, vs, rn, rfl, rfl, hI, hvs⟩
    clear F₄ N₄ hrg
    have e6 : refK hs 6 = refL hs := by rw [← hn]; exact refK_all hs
    rw [e6] at hI
    k_steps
    exact hret _ _ _ _ _ hlt hI (by assumption) (by assumption)
end Mine
end

section
open PySem PySem.W PyProof.Rows PySem.Calls
set_option maxRecDepth 100000
set_option Elab.async false
set_option linter.unusedVariables false
set_option maxHeartbeats 4000000
namespace Mine
theorem make_any {w : World} {mean : ExcName → Option Value} {mg mb : Str → Option Value}
    {dp un : Nat} {gd : Option (List Code)} {cn : Str} {cs : Scope} {a : Addr} {ccd : Value} {cl : List (Str × Addr)} {outer : List Env} {A₀ : Around} {base h₀ : Heap} {L : Addr} {m : Str → Option Value} {news : List (Addr × Obj)} {s : Shared} {Q E : Value → Shared → Prop}
    (B : Below A₀ base outer h₀) (F : Fr h₀ L s.heap m) (X : (heapK w.params).In h₀) (N : News h₀ L s.heap news) (T : Top vwT (looseW vwT looseT) mean mg mb h₀) (hk : cs.kind = .function)
    (hd : dp + 20 < recursionLimit) (hu : un + 100 < cLine)
    (hret : ∀ x dx l u k n h' tk', Fr h₀ L h' m → (∀ p ∈ news, p.1 < dx) → dx < x → x < l → News h₀ L h' ((l, listOf #[] n) :: (x, instObj 184 dx) :: (dx, dictOf [⟨PyData.keyHash w.params (Str.ofString "_headers"), .str (Str.ofString "_headers") u, .ref l⟩] k) :: news) → Q (.ref x) { s with heap := h', toks := tk' }) :
    wpAny (model Challenge.rw_un0048_01.row.prog w) (ktrTop dp un gd cn cs L a ccd cl outer) (call (.ref 184) []) Q E s := by
  revert X; k_fill; intro X
  k_dflt (refine' call_cls ?k1 ?k2 ?k3 ?k4 ?k5 ?k6 ?_; (case k1 => k_asm); (case k2 => k_asm); (case k3 => k_asm); (case k4 => k_is); (case k5 => k_is); (case k6 => k_is); k_whole; intro x' d' h' F' N' l1 l2; (try k_lt l1); (try k_lt2 l2); (try k_sweep))
  k_dflt (refine' code_def ?k1 ?k2 ?k3 ?k4 ?k5 ?kA ?kF ?kK ?k6 ?k7 ?k8 ?k9 ?kB ?_ ?c2 ?c3 ?c4 ?c5; (case kA => exact rfl); (case kF => exact rfl); (case kK => assumption); (case k1 => k_asm); (case k2 => k_asm); (case k3 => k_asm); (case k4 => k_asm); (case k5 => k_asm); (case k6 => k_is); (case k7 => k_is); (case k8 => first | exact fits0 hd | ktr_room); (case k9 => first | exact BindsTo.of_eq rfl | exact binds_K (by k_in) rfl (by k_is) rfl rfl rfl); (case c5 => decide); (case kB => exact locs rfl); (case c2 => exact rfl); (case c3 => exact rfl); (case c4 => exact rfl); k_whole; intro g' L' h' FG' F' N' B' X' T'; (try dsimp only); (try k_fold))
  conv => arg 3; arg 1; whnf
  k_steps
  refine for_any (h₀ := g') ?_ (by intro _; rfl)
  k_steps
  rename News _ _ _ _ => N₅
  rename Fr _ _ _ _ => F₅
  rename x' < _ ∧ _ => ll
  refine iterM_list (vs := #[]) (m₀ := _) (news := _)
      (fun i m₁ news₁ => ∃ l u k n, (∀ p ∈ news, p.1 < d') ∧ d' < x' ∧ x' < l ∧ news₁ = (l, listOf #[] n) :: (x', instObj 184 d') :: (d', dictOf [⟨PyData.keyHash w.params (Str.ofString "_headers"), .str (Str.ofString "_headers") u, .ref l⟩] k) :: news)
      rfl ⟨_, (N₅ _ (.head _)).1, rfl, 0, rfl⟩ (N₅ _ (.head _)).2.1 F₅ N₅ ⟨_, _, _, _, l1, l2, ll.1, rfl⟩ ?turn ?done
  case turn =>
    intro i v m₁ news₁ h tk own hv
    simp at hv
  case done =>
    rintro h₆ tk₆ m₆ news₆ F₆ N₆ _ ⟨l, u, k, n, a1, a2, a3, rfl⟩
    k_steps
    exact hret _ _ _ _ _ _ _ _ (by assumption) a1 a2 a3 (by assumption)
end Mine
end

section
open PySem PySem.W PyProof.Rows PySem.Calls
set_option maxRecDepth 100000
set_option Elab.async false
set_option linter.unusedVariables false
namespace Mine
section
variable {prog : Program} {w : World} {A : Around} {E : Value → Shared → Prop} {s : Shared} {env : Env} {Q : Flow → Shared → Prop} {iter : Expr} {body : List Stmt} {pos : Pos} {y : Str} {yp : Pos}
/-- what a turn leaves; the ground may have moved -/
noncomputable def TurnG (Bs : Heap → Prop) (L I : Addr) (o : Obj) (J : (Str → Option Value) → List (Addr × Obj) → Prop) (s₂ : Shared) (Q : Flow → Shared → Prop) (f : Flow) (s' : Shared) : Prop :=
  match f with
  | .ret v => Q (.ret v) s'
  | .brk => Q .next s'
  | _ => ∃ g h' tk m' news', s' = { s₂ with heap := h', toks := tk } ∧ Bs g ∧ Fr g L h' m' ∧ News g L h' ((I, o) :: news') ∧ (∀ p ∈ news', p.1 ≠ I) ∧ J m' news'
noncomputable def RangeG (Bs : Heap → Prop) (L I : Addr) (a c : Int) (n : Nat) (J : Nat → (Str → Option Value) → List (Addr × Obj) → Prop) (s₁ : Shared) (k : Nat) (s' : Shared) : Prop :=
  ∃ g h' tk m' news' i, s' = { s₁ with heap := h', toks := tk } ∧ Bs g ∧ IsRangeIter h' I (a + (i : Nat) * c) ((n : Int) - (i : Nat)) c ∧ Fr g L h' m' ∧ News g L h' news' ∧ (∀ p ∈ news', p.1 ≠ I) ∧ J i m' news' ∧ i ≤ n ∧ k = n + 1 - i
/-- a loop over a range whose turns may move the ground -/
noncomputable def LoopRangeG (prog : Program) (w : World) (A : Around) (env : Env) (y : Str) (yp : Pos) (body : List Stmt) (Q : Flow → Shared → Prop) (E : Value → Shared → Prop) (xv : Value) (s₁ : Shared) : Prop :=
  ∃ (r : Addr) (a b c : Int) (t u v : Tok) (n : Nat) (Bs : Heap → Prop) (g : Heap) (m : Str → Option Value) (news : List (Addr × Obj)) (J : Nat → (Str → Option Value) → List (Addr × Obj) → Prop),
    xv = .ref r ∧ IsRange s₁.heap r a b c t u v ∧ Builtin.Range.small a b c = true ∧ Builtin.Range.rangeSize a b c = (n : Int) ∧ Bs g ∧ Fr g env.locals s₁.heap m ∧ News g env.locals s₁.heap news ∧ J 0 m news ∧
    (∀ i t v g m₁ news₁ h tk o, i < n → v = a + (i : Nat) * c → Bs g → J i m₁ news₁ → (∀ p ∈ news₁, p.1 ≠ s₁.heap.objs.size) → Fr g env.locals h m₁ → News g env.locals h ((s₁.heap.objs.size, o) :: news₁) →
      wpAny (model prog w) A (assign (.Name y yp) env (.int v t)) (fun _ s₃ => wpAny (model prog w) A (execs body env) (TurnG Bs env.locals s₁.heap.objs.size o (J (i + 1)) s₁ Q) E s₃) E { s₁ with heap := h, toks := tk }) ∧
    ∀ g h' tk m' news', Bs g → Fr g env.locals h' m' → News g env.locals h' news' → (∀ p ∈ news', p.1 ≠ s₁.heap.objs.size) → J n m' news' → Q .next { s₁ with heap := h', toks := tk }
theorem for_rangeG (hh : A.handled = none) (h : wpAny (model prog w) A (eval iter env) (LoopRangeG prog w A env y yp body Q E) E s)
    (hs : ∀ x, foldedSetIterable iter env x = pure x)
    (hE : PassesOwn (model prog w) A env E := by passes_own) :
    wpAny (model prog w) A (exec (.For (.Name y yp) iter body [] pos) env) Q E s := by
  refine wpAny_For (wpAny_mono h (fun xv s₁ h₁ => ?_) fun _ _ e => e) hs
  obtain ⟨r, a, b, c, t, u, v, n, Bs, g, m, news, J, rfl, hr, hsm, hn, hB, F, N, h0, step, hR⟩ := h₁
  have hLI : env.locals < s₁.heap.objs.size := F.ns.lt
  generalize hI0 : s₁.heap.objs.size = I at *
  have W := Walks.range (prog := prog) (w := w) hh I a c n
  refine wpAny_pyIter_range hr hsm ?_
  rw [hI0]
  refine codeAny_forLoop_any (RangeG Bs env.locals I a c n J s₁) ?_ (n + 1) ⟨g, _, s₁.toks, m, news, 0, rfl, hB, ?_, F.push _, (fun p hp => ⟨Heap.get?_push_of_some _ (N p hp).1, (N p hp).2⟩), (fun p hp e => absurd (Heap.lt_size (N p hp).1) (e ▸ hI0 ▸ Nat.lt_irrefl _)), h0, Nat.zero_le _, rfl⟩
  case refine_2 =>
    have e1 : a + ((0 : Nat) : Int) * c = a := by simp
    have e2 : (n : Int) - ((0 : Nat) : Int) = Builtin.Range.rangeSize a b c := by rw [hn]; simp
    rw [e1, e2, ← hI0]
    exact Heap.get?_push_size _ rfl
  rintro k s' ⟨g', h', tk, m', news', i, rfl, hB', hst', F', N', hnw', hJ, hi, rfl⟩
  have kept : ∀ h₁ : Heap, (∀ b o, b ∉ [I] → h'.get? b = some o → h₁.get? b = some o) → Fr g' env.locals h₁ m' ∧ News g' env.locals h₁ news' := fun h₁ hk₁ =>
    ⟨⟨F'.ns.at' fun o e => hk₁ _ o (fun q => Nat.lt_irrefl _ ((List.mem_singleton.mp q) ▸ hLI)) e,
      fun b o e => hk₁ b o (fun q => Nat.lt_irrefl _ (Nat.lt_trans ((List.mem_singleton.mp q) ▸ Heap.lt_size e) (Nat.lt_of_le_of_lt F'.above hLI))) (F'.keep b o e), F'.above⟩,
     fun p hp => ⟨hk₁ _ _ (fun q => hnw' p hp (List.mem_singleton.mp q)) (N' p hp).1, (N' p hp).2⟩⟩
  by_cases hlt : i < n
  · refine W.item i _ _ _ hlt hst' fun v h₁ tk₁ hP hst₁ hk₁ => ?_
    obtain ⟨F₁, N₁⟩ := kept h₁ hk₁
    obtain ⟨tv, rfl⟩ := hP
    obtain ⟨oI, hoI⟩ : ∃ o, h₁.get? I = some o := ⟨_, hst₁⟩
    have hfree : g'.get? I = none := by
      cases hq : g'.get? I with
      | none => rfl
      | some o => exact absurd (Heap.lt_size hq) (Nat.not_lt_of_le (Nat.le_of_lt (Nat.lt_of_le_of_lt F'.above hLI)))
    refine wpAny_passesOwn hE (wpAny_pure ?_)
    refine wpAny_passesOwn hE (wpAny_mono (step i tv _ g' m' news' h₁ tk₁ oI hlt rfl hB' hJ hnw' F₁ (fun p hp => (List.mem_cons.mp hp).elim (fun e => e ▸ ⟨hoI, (fun q => Nat.ne_of_gt hLI q), hfree⟩) (N₁ p))) (fun _ s₃ h₃ => wpAny_passesOwn hE (wpAny_mono h₃ (fun f s₄ h₄ => ?_) fun _ _ e => e)) fun _ _ e => e)
    have go : ∀ f, f = .next ∨ f = .cont → TurnG Bs env.locals I oI (J (i + 1)) s₁ Q f s₄ → ∃ m, m < n + 1 - i ∧ RangeG Bs env.locals I a c n J s₁ m s₄ := by
      rintro f hf ht
      obtain ⟨g₃, h₃', tk₃, m₂, news₂, rfl, hB₃, F₃, N₃, ha₃, hJ₃⟩ : ∃ g h' tk m' news', s₄ = { s₁ with heap := h', toks := tk } ∧ Bs g ∧ Fr g env.locals h' m' ∧ News g env.locals h' ((I, oI) :: news') ∧ (∀ p ∈ news', p.1 ≠ I) ∧ J (i + 1) m' news' := by
        rcases hf with rfl | rfl <;> exact ht
      exact ⟨n + 1 - (i + 1), turn_lt hlt, g₃, h₃', tk₃, m₂, news₂, i + 1, rfl, hB₃, (N₃ _ (.head _)).1.trans (hoI.symm.trans hst₁), F₃, fun p hp => N₃ p (.tail _ hp), ha₃, hJ₃, hlt, rfl⟩
    cases f with
    | next => exact go _ (.inl rfl) h₄
    | cont => exact go _ (.inr rfl) h₄
    | brk => exact h₄
    | ret v => exact h₄
  · have hin : i = n := Nat.le_antisymm hi (Nat.not_lt.mp hlt)
    subst hin
    refine W.done _ _ _ hst' fun h₁ tk₁ hk₁ => wpAny_execs_nil ?_
    obtain ⟨F₁, N₁⟩ := kept h₁ hk₁
    exact hR g' h₁ tk₁ m' news' hB' F₁ N₁ hnw' hJ
end
end Mine
end

section
open PySem PySem.W PyProof.Rows PySem.Calls PyProof.V PySem.Spec
set_option maxRecDepth 100000
set_option Elab.async false
set_option linter.unusedVariables false
namespace Mine
section
variable {prog : Program} {w : World} {A₀ A : Around} {s : Shared} {base h₀ : Heap} {L : Addr} {m : Str → Option Value} {env : Env} {news : List (Addr × Obj)} {K : Frag} {p : Program} {loose : List Str} {mean : ExcName → Option Value} {mg mb : Str → Option Value}
    {R : Result → Shared → Prop} {qual : Str} {params : Arguments} {body : List Stmt} {scope : Scope} {dV kV doc pm cdv ct oc : Value} {an od : Option Addr} {osl : Array (Option Value)} {f : Addr} {args : Args} {binds : List (Str × Value)}
/-- a def that catches, called out of the outermost frame, whatever cells that frame has -/
theorem code_defSX (B : Below A₀ base [] h₀) (F : Fr h₀ L s.heap m) (X₀ : K.In h₀) (N : News h₀ L s.heap news) (T : Top p loose mean mg mb h₀) (hA : A.frames = some [env]) (hf : env.frame = some L) (hke : env.scope.kind = .function)
    (ho : K.lookup f = some ⟨oc, od, .func (fnOf qual qual params body scope dV kV doc pm an cdv ct), osl⟩) (hcd : codeIn K cdv qual = true) (hroom : A.depth < recursionLimit)
    (hbind : BindsTo s (fnOf qual qual params body scope dV kV doc pm an cdv ct) args binds) (hloc : ∀ y ∈ binds, scope.names.lookup y.1 = some .local)
    (h : ∀ g L' h₁, Fr h₀ L g m → Fr g L' h₁ (fun y => binds.reverse.lookup y) → News g L' h₁ news → Below A base [env] g → K.In g → Top p loose mean mg mb g → KtsDicts ([env].filterMap (·.frame)) g →
      wpAny (model prog w) (A.deeper (envOf qual scope L' f cdv)) (execs body (envOf qual scope L' f cdv))
        (fun fl s' => LeaveS0 ([env].filterMap (·.frame)) h₀ L m g R (match fl with | .ret v => v | _ => .none) s')
        (fun e s' => wpAny (model prog w) (A.deeper (envOf qual scope L' f cdv)) (leaving (envOf qual scope L' f cdv) e) (fun _ s'' => R (.error e) s'') (fun e' s'' => R (.error e') s'') s')
        { s with heap := h₁, toks := s.toks + binds.length })
    (hco : scope.isCoroutine = false) (hgen : scope.isGenerator = false) (hk : scope.kind = .function)
    (hcell : ∀ x ∈ scope.names, x.2 ≠ .cell) : codeAny (model prog w) A (.call (.ref f) args) R s := by
  have X := X₀.keeps F.keep
  have hfm : ([env].filterMap (·.frame)) = [L] := by rw [List.filterMap_cons, hf]; rfl
  refine codeAny_call_def (fd := fnOf qual qual params body scope dV kV doc pm an cdv ct) (body := body) (binds := binds) hroom (X _ _ ho) rfl (T.nolimit.keeps F.keep) (codeRec_of X hcd) rfl hbind hcell hloc (fun h₁ hns hk₁ => ?_) hco hgen hk
  obtain ⟨Fg, Bg, st, _⟩ := groundX (R := R) B F N hA hf hke
  refine wpAny_mono (h _ s.heap.objs.size h₁ Fg ⟨hns, fun b o e => hk₁ b o (of_hideAll _ e), Nat.le_of_eq (hideAll_size _ _)⟩
    (fun p hp => ⟨hk₁ _ _ (N p hp).1, Nat.ne_of_lt (Heap.lt_size (N p hp).1), hideAll_none _ (List.mem_map_of_mem hp)⟩) Bg (X₀.keeps st) (T.keeps st) (fun b hb => by
      rw [hfm] at hb
      obtain rfl := List.mem_singleton.mp hb
      obtain ⟨oL, es, ep, hLg, hLd, _⟩ := Fg.ns
      exact ⟨oL, es, ep, hLg, hLd⟩)) (fun fl s' hl => ?_) fun _ _ y => y
  rw [hfm] at hl
  obtain ⟨g', L', m', news', T', F', N', k⟩ := hl
  obtain ⟨oL, es, ep, hLg, hLd, hLk, hLf⟩ := Fg.ns
  obtain ⟨sl, hs⟩ := T'.up hLg
  have hLs := F'.keep _ _ hs
  refine k ⟨⟨_, es, ep, hLs, hLd, hLk, hLf⟩, fun b o e => F'.keep b o (T'.other b o (st b o e) fun q => ?_), F.above⟩ fun p hp => ⟨(N' p hp).1, fun q => ?_, ?_⟩
  · have hL0 := kts_self F
    rw [List.mem_singleton.mp q] at e
    rw [hL0] at e; cases e
  · have h2 := (N' p hp).2.2
    rw [q, hs] at h2; cases h2
  · cases q : h₀.get? p.1 with
    | none => rfl
    | some o =>
      obtain ⟨sl', hs'⟩ := T'.up (st _ _ q)
      have h2 := (N' p hp).2.2
      rw [hs'] at h2; cases h2
end
end Mine
end

section
open PySem PySem.W PyProof.Rows PySem.Calls PyProof.Rows.LCg PyProof.Rows.LCt
set_option maxRecDepth 100000
set_option Elab.async false
set_option linter.unusedVariables false
namespace Mine
section
variable {prog : Program} {w : World} {A : Around} {E : Value → Shared → Prop} {s : Shared} {h₀ : Heap} {L : Addr} {m : Str → Option Value} {env : Env} {ct elt iter : Expr} {x : Str} {px : Pos} {scope : Scope} {cl : List (Str × Addr)} {pos : Pos}
/-- a comprehension with a test over a text -/
noncomputable def SrcS (prog : Program) (w : World) (A : Around) (h₀ : Heap) (L : Addr) (m : Str → Option Value) (env : Env) (ct elt : Expr) (x : Str) (scope : Scope) (cl : List (Str × Addr)) (Q : Value → Shared → Prop) (xv : Value) (s₁ : Shared) : Prop :=
  ∃ (y : Str) (t : Tok) (news : List (Addr × Obj)), xv = .str y t ∧ Fr h₀ L s₁.heap m ∧ News h₀ L s₁.heap news ∧ y.cps.size ≤ sizeLine ∧
    ∀ g, CompRestT prog w A h₀ L m env ct elt x scope cl { s₁ with heap := g } (fun _ => True) (SignAt y) (FinE h₀ L m { s₁ with heap := g } Q) y.cps.size 0 [] news
theorem lc_str {Q : Value → Shared → Prop} (F₀ : Fr h₀ L s.heap m) (hh : A.handled = none)
    (hclos : closureFor scope env = pure cl) (hcell : ∀ y ∈ scope.names, y.2 ≠ .cell) (hkind : scope.kind = .function)
    (hnames : ∀ y ∈ scope.names, y.2 = .local → scope.names.lookup y.1 = some .local) (hx : scope.names.lookup x = some .local)
    (h : wpAny (model prog w) A (eval iter env) (SrcS prog w A h₀ L m env ct elt x scope cl Q) E s)
    (hs : ∀ x, foldedSetIterable iter env x = pure x := by intro _; rfl) :
    wpAny (model prog w) A (eval (.ListComp elt [⟨.Name x px, iter, [ct], 0⟩] scope pos) env) Q E s := by
  rw [eval_ListComp]
  refine wpAny_comprehension_free (use := none) rfl hs hclos hkind hnames (wpAny_mono h (fun xv s₁ h₁ => ?_) fun _ _ e => e)
  obtain ⟨y, t, news, rfl, F, N, hsz, R⟩ := h₁
  have fin : ∀ g, (∀ D C h tk m' ys news', Fr h₀ L h m → News h₀ L h ((D, lst ys) :: news') → Off1 D news' → h.Ns C m' → h₀.get? C = none → h₀.get? D = none → C ≠ L → D ≠ L → C ≠ D → (∀ p ∈ news', p.1 ≠ C) → FinE h₀ L m { s₁ with heap := g } Q ys news' →
      ∃ m'', h.Ns C m'' ∧ ∀ h'', Heap.SameBut C h h'' → Q (.ref D) { s₁ with heap := h'', toks := tk }) := by
    intro g D C h tk m' ys news' F' N' o1 hn hC₀ hD₀ hCL hDL hCD offC fin
    refine ⟨m', hn, fun h'' hs'' => fin D h'' tk (F'.change hs'' hCL hC₀) (fun p hp => ?_) o1⟩
    refine ⟨hs''.extBut _ _ ?_ (N' p hp).1, (N' p hp).2⟩
    rcases List.mem_cons.mp hp with rfl | hp
    · exact Ne.symm hCD
    · exact offC p hp
  have ist : ∀ {T : String} (i : Nat) (h h' : Heap) (o : Obj) (nw : List (Addr × Obj)), h.IsStrIter s₁.heap.objs.size T y t i → h.get? s₁.heap.objs.size = some o → h'.get? s₁.heap.objs.size = some o → (∀ b o, h₀.get? b = some o → h'.get? b = some o) → News h₀ L h' nw → True → h'.IsStrIter s₁.heap.objs.size T y t i := by
    intro T i h h' o nw st e1 e2 _ _ _
    obtain ⟨o', e3, r⟩ := st
    rw [e1] at e3
    cases e3
    exact ⟨o, e2, r⟩
  cases ha : y.cps.all (· < 128)
  · refine wpAny_pyIter_wide ha (block_T (Walks.strWide hh _ y t) hsz (fun i h st => let ⟨o, e, _⟩ := st; ⟨o, e⟩) ist hcell hkind hx ⟨_, Heap.get?_push_size _ rfl, rfl, rfl⟩ (fun b hb => ?_)
      (F.keeps fun _ _ e => Heap.get?_push_of_some _ e) (N.grown fun _ _ e => Heap.get?_push_of_some _ e) (Nat.ne_of_lt F.ns.lt) (next_is_new F) (fun p hp => Nat.ne_of_lt (Heap.lt_size (N p hp).1)) trivial (R _) (fin _))
    rw [List.mem_singleton.mp hb]
    show s₁.heap.objs.size < (s₁.heap.push _).objs.size
    rw [Heap.size_push]; exact Nat.lt_succ_self _
  · refine wpAny_pyIter_ascii ha (block_T (Walks.strAscii hh _ y t) hsz (fun i h st => let ⟨o, e, _⟩ := st; ⟨o, e⟩) ist hcell hkind hx ⟨_, Heap.get?_push_size _ rfl, rfl, rfl⟩ (fun b hb => ?_)
      (F.keeps fun _ _ e => Heap.get?_push_of_some _ e) (N.grown fun _ _ e => Heap.get?_push_of_some _ e) (Nat.ne_of_lt F.ns.lt) (next_is_new F) (fun p hp => Nat.ne_of_lt (Heap.lt_size (N p hp).1)) trivial (R _) (fin _))
    rw [List.mem_singleton.mp hb]
    show s₁.heap.objs.size < (s₁.heap.push _).objs.size
    rw [Heap.size_push]; exact Nat.lt_succ_self _
theorem snocS {y : Str} {t : Tok} : ∀ {vs : List Value} {ys : List Str}, StrsAre vs ys → StrsAre (vs ++ [.str y t]) (ys ++ [y])
  | _, _, .nil => .cons _ _ .nil
  | _, _, .cons z u h => .cons z u (snocS h)
/-- the turns of a comprehension over a text whose elements are texts -/
theorem rest_str {l : List Nat} {P : Nat → Value → Prop} {Fin : List Value → List (Addr × Obj) → Prop} {news : List (Addr × Obj)} (keep : Nat → Bool) (g : Nat → Str) (hP : ∀ i v, P i v → ∃ c t, l[i]? = some c ∧ v = .str ⟨#[c]⟩ t)
    (turn : ∀ c t I oI C oC D m₂ ys h tk (E' : Value → Shared → Prop), c ∈ l → NsObj oC m₂ → m₂ x = some (.str ⟨#[c]⟩ t) → Fr h₀ L h m → News h₀ L h ((I, oI) :: (C, oC) :: (D, lst ys) :: news) → Off3 I C D news → ((@Ne Nat I C) ∧ (@Ne Nat I D) ∧ (@Ne Nat C D)) →
      wpAny (model prog w) A (isTrue ct (compEnvC scope cl C env) (eval ct (compEnvC scope cl C env))) (fun b s' => if b = true then wpAny (model prog w) A (eval elt (compEnvC scope cl C env)) (CompEnd h₀ L m { s with heap := h, toks := tk } I oI C oC D (lst ys) (fun _ => True) (fun y news' => news' = news ∧ keep c = true ∧ ∃ t, y = .str (g c) t)) E' s'
        else CompEnd h₀ L m { s with heap := h, toks := tk } I oI C oC D (lst ys) (fun _ => True) (fun _ news' => news' = news ∧ keep c = false) Value.none s') E' { s with heap := h, toks := tk })
    (fin : ∀ ys, StrsAre ys ((l.filter keep).map g) → Fin ys news) : CompRestT prog w A h₀ L m env ct elt x scope cl s (fun _ => True) P Fin l.length 0 [] news := by
  have key : ∀ (j i : Nat) (ys : List Value), i + j = l.length → StrsAre ys (((l.take i).filter keep).map g) → CompRestT prog w A h₀ L m env ct elt x scope cl s (fun _ => True) P Fin j i ys news := by
    intro j
    induction j with
    | zero =>
      intro i ys hi hy
      have e : i = l.length := hi
      subst e
      rw [List.take_length] at hy
      exact CompRestT.zero (fin ys hy)
    | succ j ih =>
      intro i ys hi hy
      refine CompRestT.succ ?_
      intro v I oI C oC D m₂ h tk E' hv hC hx F N off ne
      obtain ⟨c, t, hc, rfl⟩ := hP i v hv
      have hs : ((l.take (i + 1)).filter keep).map g = ((l.take i).filter keep).map g ++ (if keep c then [g c] else []) := by
        rw [List.take_add_one, hc, List.filter_append, List.map_append]
        congr 1
        show (List.filter keep [c]).map g = _
        rw [List.filter_cons]
        split <;> rfl
      refine wpAny_mono (turn c t I oI C oC D m₂ ys h tk E' (List.mem_of_getElem? hc) hC hx F N off ne) (fun b s₂ hq => ?_) fun _ _ e => e
      cases b with
      | true =>
        rw [if_pos rfl] at hq ⊢
        refine wpAny_mono hq (fun y s₃ hr => ?_) fun _ _ e => e
        obtain ⟨h', tk', nw, e, F', N', off', hS, rfl, hk, t', rfl⟩ := hr
        refine ⟨h', tk', _, e, F', N', off', hS, ih (i + 1) _ (by omega) ?_⟩
        rw [hs, hk]
        exact snocS hy
      | false =>
        rw [if_neg Bool.false_ne_true] at hq ⊢
        obtain ⟨h', tk', nw, e, F', N', off', hS, rfl, hk⟩ := hq
        refine ⟨h', tk', _, e, F', N', off', hS, ih (i + 1) _ (by omega) ?_⟩
        rw [hs, hk]
        simpa using hy
  exact key l.length 0 [] (Nat.zero_add _) .nil
end
end Mine
end

section
open PySem PySem.W PyProof.Rows PySem.Calls
set_option maxRecDepth 100000
set_option Elab.async false
set_option linter.unusedVariables false
namespace Mine
noncomputable def keepC (c : Nat) : Bool := !b1List.contains (c : Int)
theorem fold_one : ∀ c ∈ alph, keepC c = true → b3Str c = txt (pfold c) := by decide +kernel
theorem fold_gone : ∀ c ∈ alph, keepC c = false → pfold c = [] := by decide +kernel
theorem join_txt : ∀ zs : List (List Nat), Txt.join (Str.ofString "") (zs.map txt) = txt zs.flatten
  | [] => rfl
  | [z] => by show txt z = txt [z].flatten; simp
  | z :: y :: r => by
    have ih := join_txt (y :: r)
    have e1 : Txt.join (Str.ofString "") (List.map txt (z :: y :: r)) = txt z ++ Str.ofString "" ++ Txt.join (Str.ofString "") (List.map txt (y :: r)) := by
      show Builtin.Str.glued _ _ = _ ++ Builtin.Str.glued _ _
      rw [StrLaws.glued_eq_join, StrLaws.glued_eq_join]; rfl
    rw [e1, ih]
    apply str_eq_of_lists
    rw [Str.cps_append, Str.cps_append]
    show (z.toArray ++ #[] ++ (y :: r).flatten.toArray).toList = (z :: y :: r).flatten.toArray.toList
    rw [List.flatten_cons (l := z), Array.append_empty]
    simp
theorem fold_keep : ∀ {l : List Nat}, (∀ c ∈ l, c ∈ alph) → (l.filter keepC).map b3Str = ((l.filter keepC).map pfold).map txt ∧ ((l.filter keepC).map pfold).flatten = l.flatMap pfold
  | [], _ => ⟨rfl, rfl⟩
  | c :: r, h => by
    obtain ⟨i1, i2⟩ := fold_keep (l := r) fun d hd => h d (.tail _ hd)
    have hc := h c (.head _)
    rw [List.filter_cons, List.flatMap_cons]
    cases hk : keepC c with
    | true => rw [if_pos rfl, List.map_cons, List.map_cons, List.map_cons, List.flatten_cons, i1, i2, fold_one c hc hk]; exact ⟨rfl, rfl⟩
    | false => rw [if_neg (by decide), fold_gone c hc hk, i1, i2]; exact ⟨rfl, rfl⟩
theorem join_fold {l : List Nat} (hl : ∀ c ∈ l, c ∈ alph) : Txt.join (Str.ofString "") ((l.filter keepC).map b3Str) = txt (l.flatMap pfold) := by
  obtain ⟨e1, e2⟩ := fold_keep hl
  rw [e1, join_txt, e2]
theorem fold_weight : ∀ {l : List Nat}, (∀ c ∈ l, c ∈ alph) → (((l.filter keepC).map b3Str).map (·.length)).sum + ((l.filter keepC).map b3Str).length ≤ 4 * l.length
  | [], _ => Nat.le_refl _
  | c :: r, h => by
    have ih := fold_weight (l := r) fun d hd => h d (.tail _ hd)
    rw [List.filter_cons, List.length_cons]
    cases hk : keepC c with
    | true =>
      rw [if_pos rfl, List.map_cons, List.map_cons, List.sum_cons, List.length_cons, fold_one c (h c (.head _)) hk, length_txt]
      have := pfold_len c
      omega
    | false =>
      rw [if_neg (by decide)]
      omega
theorem badV_alph : ∀ c ∈ alph, badV c = badS c := by decide +kernel
theorem badV_any {l : List Nat} (hl : ∀ c ∈ l, c ∈ alph) : anyBad badV (txt l).cps = l.any badS := by
  show l.any badV = l.any badS
  induction l with
  | nil => rfl
  | cons c r ih => rw [List.any_cons, List.any_cons, badV_alph c (hl c (.head _)), ih fun d hd => hl d (.tail _ hd)]
end Mine
end

section
open PySem PySem.W PyProof.Rows PySem.Calls
set_option maxRecDepth 100000
set_option Elab.async false
set_option linter.unusedVariables false
set_option maxHeartbeats 4000000
namespace Mine
noncomputable abbrev mU (D R : Addr) (f : Str → Option Value) : Str → Option Value := fun y =>
  if y = Str.ofString "houses" then some (.ref D) else if y = Str.ofString "texts" then some (.ref R) else f y
theorem fr_U {g h : Heap} {L : Addr} {D R : Addr} {G : Str → Option Value} (F : Fr g L h G) (e1 : G (Str.ofString "houses") = some (.ref D)) (e2 : G (Str.ofString "texts") = some (.ref R)) : Fr g L h (mU D R G) := by
  have e : mU D R G = G := by
    funext y
    unfold mU
    by_cases a1 : y = Str.ofString "houses"
    · rw [if_pos a1, a1, e1]
    rw [if_neg a1]
    by_cases a1 : y = Str.ofString "texts"
    · rw [if_pos a1, a1, e2]
    rw [if_neg a1]
  rw [e]; exact F
noncomputable def builtL (hs : List House) (x : Nat) : List Str := (List.range 6).map fun k => txt (if 6 - x ≤ k then bt hs k else [])
theorem built_at {hs : List House} {i c : Nat} (hc : c < 6) (h : 6 - i ≤ c) : (builtL hs i)[c]? = some (txt (bt hs c)) := by
  unfold builtL
  rw [List.getElem?_map, List.getElem?_range hc]
  show some (txt (if 6 - i ≤ c then bt hs c else [])) = _
  rw [if_pos h]
theorem built_set (hs : List House) {i k : Nat} (h : i + k = 5) : (builtL hs i).set k (txt (bt hs k)) = builtL hs (i + 1) := by
  rcases i with _ | _ | _ | _ | _ | _ | i
  · obtain rfl : k = 5 := Nat.add_left_cancel (n := 0) h
    rfl
  · obtain rfl : k = 4 := Nat.add_left_cancel (n := 1) h
    rfl
  · obtain rfl : k = 3 := Nat.add_left_cancel (n := 2) h
    rfl
  · obtain rfl : k = 2 := Nat.add_left_cancel (n := 3) h
    rfl
  · obtain rfl : k = 1 := Nat.add_left_cancel (n := 4) h
    rfl
  · obtain rfl : k = 0 := Nat.add_left_cancel (n := 5) h
    rfl
  · omega
theorem strs_at : ∀ {vs : List Value} {ys : List Str}, StrsAre vs ys → ∀ {i : Nat} {y : Str}, ys[i]? = some y → ∃ t, vs[i]? = some (.str y t)
  | _, _, .nil, i, y, h => by simp at h
  | _, _, .cons z u r, 0, y, h => by cases h; exact ⟨u, rfl⟩
  | _, _, .cons z u r, i + 1, y, h => strs_at r h
theorem strs_set {y : Str} {t : Tok} : ∀ {vs : List Value} {ys : List Str}, StrsAre vs ys → ∀ k, StrsAre (vs.set k (.str y t)) (ys.set k y)
  | _, _, .nil, k => .nil
  | _, _, .cons z u r, 0 => .cons _ _ r
  | _, _, .cons z u r, k + 1 => .cons _ _ (strs_set r k)
theorem setL_some : ∀ {l : List Value} {k : Nat} {v : Value}, k < l.length → ki_setL l k v = some (l.set k v)
  | x :: r, 0, v, _ => rfl
  | x :: r, k + 1, v, h => by
    unfold ki_setL
    rw [setL_some (Nat.lt_of_succ_lt_succ h)]
    rfl
theorem mono_toks {M : Model} {A : Around} {t : Sem Value} {x : Str} {Q : Value → Shared → Prop} {E : Value → Shared → Prop} {s : Shared} (h : wpAny M A t (fun v s' => Held (∃ u tk, v = .str x u ∧ s' = { s with toks := tk })) E s)
    (k : ∀ u tk, Q (.str x u) { s with toks := tk }) : wpAny M A t Q E s := wpAny_mono h (fun v s' q => by obtain ⟨⟨u, tk, e1, e2⟩⟩ := q; subst e1 e2; exact k u tk) fun _ _ e => e
/-- what the ground keeps -/
noncomputable def BuiltBs (w : World) (A₀ : Around) (base : Heap) (env : Env) (mean : ExcName → Option Value) (mg mb : Str → Option Value) (g' g : Heap) : Prop :=
  KtsTurn ([env].filterMap (·.frame)) g' g ∧ Below A₀ base [env] g ∧ (heapK w.params).In g ∧ Top vwT (looseW vwT looseT) mean mg mb g ∧ KtsDicts ([env].filterMap (·.frame)) g
theorem strs_len2 : ∀ {vs : List Value} {ys : List Str}, StrsAre vs ys → vs.length = ys.length
  | _, _, .nil => rfl
  | _, _, .cons _ _ h => by rw [List.length_cons, List.length_cons, strs_len2 h]
theorem led3 {g h : Heap} {L I R : Addr} {oI oR : Obj} {news : List (Addr × Obj)} (N : News g L h ((I, oI) :: (R, oR) :: news)) :
    ∃ led, News g L h led ∧ (R, oR) ∈ led ∧ (I, oI) ∈ led ∧ ∀ p ∈ news, p ∈ led :=
  ⟨_, N, .tail _ (.head _), .head _, fun p hp => .tail _ (.tail _ hp)⟩
theorem pull {g h : Heap} {L x : Addr} {o : Obj} {led : List (Addr × Obj)} (N : News g L h led) (hm : (x, o) ∈ led) : News g L h ((x, o) :: led.filter fun p => p.1 != x) := by
  intro p hp
  rcases List.mem_cons.mp hp with rfl | hp
  · exact N _ hm
  · exact N _ (List.mem_filter.mp hp).1
theorem in_pull {x : Addr} {led : List (Addr × Obj)} {p : Addr × Obj} (hp : p ∈ led) (h : p.1 ≠ x) : p ∈ led.filter fun p => p.1 != x := List.mem_filter.mpr ⟨hp, bne_iff_ne.mpr h⟩
theorem out_pull {x : Addr} {led : List (Addr × Obj)} {p : Addr × Obj} (hp : p ∈ led.filter fun p => p.1 != x) : p.1 ≠ x := bne_iff_ne.mp (List.mem_filter.mp hp).2
section
variable {prog : Program} {w : World} {A : Around} {E : Value → Shared → Prop} {s : Shared} {h₀ : Heap} {L R : Addr} {m : Str → Option Value} {led : List (Addr × Obj)} {vs : Array Value} {n k : Nat} {t : Tok} {v : Value} {Q : Unit → Shared → Prop}
theorem set_led (F : Fr h₀ L s.heap m) (N : News h₀ L s.heap led) (hm : (R, listOf vs n) ∈ led) (hk : k < vs.toList.length) (hk6 : k < 6)
    (h : ∀ h', Fr h₀ L h' m → News h₀ L h' ((R, listOf (vs.toList.set k v).toArray n) :: led.filter fun p => p.1 != R) → Q () { s with heap := h' }) : wpAny (model prog w) A (setItem (.ref R) (.int (k : Int) t) v) Q E s := by
  refine ki_set F (pull N hm) (Int.natCast_nonneg _) (by omega) (q := vs.toList.set k v) ?_ (Upd.head fun p hp => out_pull hp) h
  rw [Int.toNat_natCast]
  exact setL_some hk
end
theorem six_le {i k c : Nat} (h : i + k = 5) (h1 : k < c) : 6 - i ≤ c := by omega
theorem len3_le {a b c : List Nat} (h : a.length ≤ 2) (h1 : b.length ≤ 40320) (h2 : c.length ≤ 40320) : (a ++ b ++ c).length ≤ 100000 := by
  rw [List.length_append, List.length_append]
  exact Nat.le_trans (Nat.add_le_add (Nat.add_le_add h h1) h2) (by decide)
theorem built_turn {hs : List House} {Bs : Heap → Prop} {g h : Heap} {L I D R : Addr} {oI : Obj} {i k rn : Nat} {t : Tok} {vs : Array Value} {led news : List (Addr × Obj)} {G : Str → Option Value} {s₂ : Shared} {tk : Nat} {Q : Flow → Shared → Prop} {oR : Obj}
    (hik : i + k = 5) (hS : StrsAre vs.toList (builtL hs i)) (F : Fr g L h G) (e1 : G (Str.ofString "houses") = some (.ref D)) (e2 : G (Str.ofString "texts") = some (.ref R))
    (N : News g L h ((R, listOf (vs.toList.set k (.str (txt (bt hs k)) t)).toArray rn) :: led.filter fun p => p.1 != R)) (mI : (I, oI) ∈ led) (mN : ∀ p ∈ news, p ∈ led) (hoff : ∀ p ∈ (R, oR) :: news, p.1 ≠ I) (hlt : ∀ p ∈ news, p.1 < R) (hB : Bs g) :
    TurnG Bs L I oI (fun m₁ news₁ => ∃ f vs rn, m₁ = mU D R f ∧ news₁ = (R, listOf vs rn) :: news ∧ StrsAre vs.toList (builtL hs (i + 1))) s₂ Q .next { s₂ with heap := h, toks := tk } := by
  refine ⟨g, h, tk, _, (R, listOf (vs.toList.set k (.str (txt (bt hs k)) t)).toArray rn) :: news, rfl, hB, fr_U F e1 e2, fun p hp => N p ?_, fun p hp => ?_, _, _, _, rfl, rfl, ?_⟩
  · rcases List.mem_cons.mp hp with rfl | hp
    · exact .tail _ (in_pull mI (hoff _ (.head _)).symm)
    · rcases List.mem_cons.mp hp with rfl | hp
      · exact .head _
      · exact .tail _ (in_pull (mN p hp) (Nat.ne_of_lt (hlt p hp)))
  · rcases List.mem_cons.mp hp with rfl | hp
    · exact hoff (R, oR) (.head _)
    · exact hoff p (.tail _ hp)
  · rw [← built_set hs hik]
    exact strs_set hS k
theorem told_one {a : Addr} {y : Str} {dflt r : Value} (h : Told [(a, Str.ofString "N", y)] (Str.ofString "n") dflt r) : ∃ tv, r = .str y tv := by
  unfold Told at h
  rw [List.find?_cons, show (Txt.lower (Str.ofString "N") == Txt.lower (Str.ofString "n")) = true by decide +kernel] at h
  exact h
theorem bad_iff {h : House} {one two : List Nat} (ha : ∀ c ∈ h.own ++ (one ++ two), c ∈ alph) : (anyBad badV (txt h.own).cps || anyBad badV (txt one).cps || anyBad badV (txt two).cps) = (h.own ++ (one ++ two)).any badS := by
  have a0 : ∀ c ∈ h.own, c ∈ alph := fun c hc => ha c (List.mem_append_left _ hc)
  have a1 : ∀ c ∈ one, c ∈ alph := fun c hc => ha c (List.mem_append_right _ (List.mem_append_left _ hc))
  have a2 : ∀ c ∈ two, c ∈ alph := fun c hc => ha c (List.mem_append_right _ (List.mem_append_right _ hc))
  rw [badV_any a0, badV_any a1, badV_any a2, List.any_append, List.any_append, Bool.or_assoc]
theorem make_good {h : House} {one two : List Nat} (h0 : h.kind = 0) (hb : (h.own ++ (one ++ two)).any badS = false) : make1 h one two = h.own ++ [59, 32] ++ room 108 one ++ [59, 32] ++ room 114 two := by unfold make1; rw [if_pos h0, hb, if_neg (by decide)]
theorem make_bad {h : House} {one two : List Nat} (h0 : h.kind = 0) (hb : (h.own ++ (one ++ two)).any badS = true) : make1 h one two = [63] := by unfold make1; rw [if_pos h0, hb, if_pos rfl]
theorem make_esc {h : House} {one two : List Nat} (h1 : h.kind = 1) : make1 h one two = [60] ++ (h.own ++ one ++ two).flatMap escSign ++ [62] := by unfold make1; rw [h1, if_neg (by decide), if_pos rfl]
theorem make_fold {h : House} {one two : List Nat} (h2 : h.kind = 2) : make1 h one two = (h.own ++ one ++ two).flatMap pfold := by unfold make1; rw [h2, if_neg (by decide), if_neg (by decide)]
theorem built_start {hs : List House} {g h : Heap} {L a b D : Addr} {v : Tok} {n : Nat} {news : List (Addr × Obj)} {G : Str → Option Value} (F : Fr g L h G)
    (N : News g L h ((a, { cls := .type "list", data := .seq (List.foldl (fun x1 x2 => x1 ++ x2) #[] (List.replicate (if (#[.str (Str.ofString "") v] : Array Value).isEmpty = true then 0 else (6 : Int).toNat) #[.str (Str.ofString "") v])) }) :: (b, listOf #[.str (Str.ofString "") v] n) :: news))
    (q1 : ∀ p ∈ news, p.1 < a) (e1 : G (Str.ofString "houses") = some (.ref D)) (e2 : G (Str.ofString "texts") = some (.ref a)) :
    ∃ R vs k f, (∀ p ∈ news, p.1 < R) ∧ StrsAre vs.toList (builtL hs 0) ∧ Fr g L h (mU D R f) ∧ News g L h ((R, listOf vs k) :: news) := by
  refine ⟨a, #[.str (txt []) v, .str (txt []) v, .str (txt []) v, .str (txt []) v, .str (txt []) v, .str (txt []) v], 0, G, q1, .cons _ _ (.cons _ _ (.cons _ _ (.cons _ _ (.cons _ _ (.cons _ _ .nil))))), fr_U F e1 e2, fun p hp => ?_⟩
  rcases List.mem_cons.mp hp with rfl | hp
  · exact N _ (.head _)
  · exact N p (.tail _ (.tail _ hp))
local macro_rules | `(tactic| walk_at "subscriptTail") => `(tactic| (k_here; (with_reducible show wpAny _ _ (subscriptTail _ _ (Value.ref _) (Value.int _ _)) _ _ _); refine of_held ?_))
local macro_rules | `(tactic| walk_at "eval IfExp") => `(tactic| (k_here; refine of_held ?_))
local macro_rules | `(tactic| walk_at "eval ListComp") => `(tactic| (k_here; refine of_held ?_))
local macro_rules | `(tactic| walk_at "exec For Name Call cons nil") => `(tactic| (k_here; refine of_held ?_))
theorem built_any {hs : List House} (W : WF hs) (hn : hs.length = 6) {w : World} {mean : ExcName → Option Value} {mg mb : Str → Option Value}
    {dp un : Nat} {gd : Option (List Code)} {cn : Str} {cs : Scope} {a : Addr} {ccd : Value} {cl : List (Str × Addr)} {A₀ : Around} {base h₀ : Heap} {L : Addr} {m : Str → Option Value} {news : List (Addr × Obj)} {s : Shared} {Q E : Value → Shared → Prop}
    {D : Addr} {kvs : List (Int × Value)}
    (XB : (heapK w.params).In base) (TB : Top vwT (looseW vwT looseT) mean mg mb base) (sv : IsSV kvs b3Items) (hB : base.DictOf (intKind Challenge.rw_un0048_01.row.prog w) 207 kvs)
    (B : Below A₀ base [] h₀) (F : Fr h₀ L s.heap m) (X : (heapK w.params).In h₀) (N : News h₀ L s.heap news) (T : Top vwT (looseW vwT looseT) mean mg mb h₀) (hk : cs.kind = .function)
    (hd : dp + 80 < recursionLimit) (hu : un + 400 < cLine) (H : HAt news hs D)
    (hret : ∀ R (vs : Array Value) n h' tk', (∀ p ∈ news, p.1 < R) → StrsAre vs.toList (builtL hs 6) → Fr h₀ L h' m → News h₀ L h' ((R, listOf vs n) :: news) → Q (.ref R) { s with heap := h', toks := tk' }) :
    wpAny (model Challenge.rw_un0048_01.row.prog w) (ktrTop dp un gd cn cs L a ccd cl []) (call (.ref 278) [.ref D]) Q E s := by
  revert X; k_fill; intro X
  refine wpAny_call ?_
  k_dflt (refine' code_defSX ?k1 ?k2 ?k3 ?k4 ?k5 ?kA ?kf ?cK ?k6 ?k7 ?k8 ?k9 ?kB ?_ ?c2 ?c3 ?c4 ?c5; (case kA => exact rfl); (case kf => exact rfl); (case k2 => k_asm); (case k1 => k_asm); (case k3 => k_asm); (case k4 => k_asm); (case k5 => k_asm); (case k6 => k_is); (case k7 => k_is); (case k8 => first | exact fits0 hd | ktr_room); (case k9 => first | exact BindsTo.of_eq rfl | exact binds_K (by k_in) rfl (by k_is) rfl rfl rfl); (case kB => exact locs rfl); (case cK => assumption); (case c2 => exact rfl); (case c3 => exact rfl); (case c4 => exact rfl); (case c5 => decide); k_whole; intro g' L' h' FG' F' N' B' X' T' D'; (try dsimp only); (try k_fold))
  conv => arg 3; arg 1; whnf
  obtain ⟨as, n, hal, hDm, hcs⟩ := H.ex
  k_steps
  with_reducible rename News _ _ _ _ => N₃
  have hz : (as.map Value.ref).toArray.size = 6 := by simp [hal, hn]
  refine call_len_list (News.isList N₃ (.tail _ hDm)) (by rw [hz]; decide) ?_
  rw [hz]
  with_reducible rename News _ _ _ _ => N₄
  with_reducible rename Fr _ _ _ _ => F₄
  refine mul_list F₄ N₄ (N₄ _ (.head _)).1 (by decide) (by decide) (show 1 * 6 ≤ 2 ^ 24 by decide) ?_
  intro h₅ F₅ N₅
  have hq := fun (p : Addr × Obj) (hp : p ∈ news) => Heap.lt_size (N₄ p (.tail _ hp)).1
  clear F₄ N₄
  k_steps
  refine ⟨?_⟩
  with_reducible rename News _ _ _ _ => N₆
  with_reducible rename Fr _ _ _ _ => F₆
  obtain ⟨R, vs0, n0, f0, hlt, hS0, F₇, N₇⟩ := built_start (hs := hs) F₆ N₆ hq rfl rfl
  clear F₆ N₆
  refine for_rangeG rfl ?_ (by intro _; rfl)
  k_steps
  with_reducible rename News _ _ _ _ => N₈
  have hz2 : (as.map Value.ref).toArray.size = 6 := hz
  refine call_len_list (News.isList N₈ (.tail _ hDm)) (by rw [hz]; decide) ?_
  rw [hz]
  k_steps
  with_reducible rename Fr _ _ _ _ => F₈
  with_reducible rename News _ _ _ _ => N₈
  rename IsRange _ _ _ _ _ _ _ _ => hrg
  refine ⟨_, _, _, _, _, _, _, 6, BuiltBs w (ktrTop dp un gd cn cs L a ccd cl []) base (envX cn cs L a ccd cl) mean mg mb g', g', _, _, (fun i m₁ news₁ => ∃ f vs rn, m₁ = mU D R f ∧ news₁ = (R, listOf vs rn) :: news ∧ StrsAre vs.toList (builtL hs i)),
    rfl, hrg, by decide, by decide, ⟨KtsTurn.refl, B', X', T', D'⟩, F₈, N₈, ⟨_, _, _, rfl, rfl, hS0⟩, ?turn, ?done⟩
  case turn =>
    rintro i tv v g₁ m₁ news₁ h₂ tk₂ oI hi hv ⟨K₁, B₁, X₁, T₁, D₁⟩ ⟨f, vs, rn, rfl, rfl, hS⟩ hoff F₃ N₃
    obtain ⟨k, hik, hvk⟩ : ∃ k : Nat, i + k = 5 ∧ v = (k : Int) := ⟨5 - i, Nat.add_sub_cancel' (Nat.le_of_lt_succ hi), by rw [hv]; omega⟩
    have hk6 : k < 6 := Nat.lt_succ_of_le (hik ▸ Nat.le_add_left k i)
    subst hvk
    clear F₈ N₈ hrg hv hS0
    have hkl : k < hs.length := hn ▸ hk6
    have hkh := List.getElem?_eq_getElem hkl
    have hka : k < as.length := hal ▸ hkl
    obtain ⟨o, hom, kk, th, uh, va, vl, vr, nh, rfl, _, hva, hvl, hvr⟩ := hcs k hs[k] as[k] hkh (List.getElem?_eq_getElem hka)
    generalize hs[k] = h at hkh hom hva hvl hvr
    have hget : (as.map Value.ref).toArray.toList[((k : Nat) : Int).toNat]? = some (.ref as[k]) := by simp [hka]
    generalize as[k] = b at hom hget
    have hlen : vs.toList.length = 6 := by rw [strs_len2 hS]; rfl
    have hkid : ∀ c, k < c → c < 6 → ∃ t, vs.toList[((c : Nat) : Int).toNat]? = some (.str (txt (bt hs c)) t) := fun c h1 h2 => strs_at hS (built_at h2 (six_le hik h1))
    have hkl2 : ∀ c, h.left = some c → c < 6 ∧ k < c := fun c e =>
      let ⟨q1, hc, q2, _⟩ := W.left hkh e
      ⟨hn ▸ (List.getElem?_eq_some_iff.mp q2).1, q1⟩
    have hkr2 : ∀ c, h.right = some c → c < 6 ∧ k < c := fun c e =>
      let ⟨q1, hc, q2, _⟩ := W.right hkh e
      ⟨hn ▸ (List.getElem?_eq_some_iff.mp q2).1, q1⟩
    obtain ⟨led, N₄, mR, mI, mN⟩ := led3 N₃
    clear N₃
    have hDm2 := mN _ hDm
    have hom2 := mN _ hom
    k_steps
    refine ⟨?_⟩
    refine item_led (by assumption) hDm2 hget (i0 _) (i6 hk6) ?_
    k_steps
    refine ⟨?_⟩
    obtain ⟨L1, L2⟩ := optT_len W hn hkh
    have hbt := bt_eq W hkh
    have hal1 := inputs_alph W hkh
    have hol2 : h.own.length ≤ 2 := (W.own hkh).1
    unfold inputs at hal1
    obtain ⟨one, hone⟩ : ∃ one, optT hs h.left = one := ⟨_, rfl⟩
    obtain ⟨two, htwo⟩ : ∃ two, optT hs h.right = two := ⟨_, rfl⟩
    rw [hone] at L1 hbt hal1
    rw [htwo] at L2 hbt hal1
    refine mono_toks (x := txt one) ?_ ?_
    · refine wpAny_IfExp ?_
      cases hl : h.left with
      | none =>
        rw [hl] at hvl hone
        cases hvl
        k_steps
        exact ⟨⟨_, _, congrArg (Value.str · _) (by rw [← hone]; exact (show Str.ofString "" = txt [] by decide +kernel)), rfl⟩⟩
      | some c =>
        rw [hl] at hvl hone
        obtain ⟨tc, rfl⟩ := hvl
        obtain ⟨q1, q2⟩ := hkl2 c hl
        obtain ⟨tq, hq⟩ := hkid c q2 q1
        k_steps
        refine ⟨?_⟩
        refine item_led (by assumption) mR hq (i0 _) (i6 q1) ?_
        exact ⟨⟨_, _, congrArg (fun z => Value.str (txt z) _) hone, rfl⟩⟩
    intro u1 tk₁
    k_steps
    refine ⟨?_⟩
    refine mono_toks (x := txt two) ?_ ?_
    · refine wpAny_IfExp ?_
      cases hl : h.right with
      | none =>
        rw [hl] at hvr htwo
        cases hvr
        k_steps
        exact ⟨⟨_, _, congrArg (Value.str · _) (by rw [← htwo]; exact (show Str.ofString "" = txt [] by decide +kernel)), rfl⟩⟩
      | some c =>
        rw [hl] at hvr htwo
        obtain ⟨tc, rfl⟩ := hvr
        obtain ⟨q1, q2⟩ := hkr2 c hl
        obtain ⟨tq, hq⟩ := hkid c q2 q1
        k_steps
        refine ⟨?_⟩
        refine item_led (by assumption) mR hq (i0 _) (i6 q1) ?_
        exact ⟨⟨_, _, congrArg (fun z => Value.str (txt z) _) htwo, rfl⟩⟩
    intro u2 tk₂
    clear hone htwo hkid hkl2 hkr2 hcs hvl hvr hget hom hom2
    have M0 : (txt h.own).length ≤ 2 := hol2
    have M1 : (txt one).length ≤ 40320 := L1
    have M2 : (txt two).length ≤ 40320 := L2
    k_steps
    · rename ((_ : Nat) : Int) = 0 => hk0
      have hk0' : h.kind = 0 := nat_of (b := 0) hk0
      refine make_any B₁ (by assumption) X₁ (by assumption) T₁ rfl ?_ ?_ ?_
      · first | exact fits_in hd (by decide) | ktr_room
      · first | exact fits3 hu (by decide) | ktr_units
      intro x dx l u kd nl h₅ tk₅ F₅ a1 a2 a3 N₅
      k_steps
      refine add_header_x (own := h.own) (one := one) (two := two) (tl := 0) (tr := 0) (tb := x) (dx := dx) (l := l) (news' := fun v => (l, listOf #[v] (nl + 1)) :: (x, instObj 184 dx) :: (dx, dictOf [⟨PyData.keyHash w.params (Str.ofString "_headers"), .str (Str.ofString "_headers") u, .ref l⟩] kd) :: led)
        B₁ (by assumption) X₁ (by assumption) T₁ rfl ?_ ?_ hol2 (Nat.le_trans L1 (by decide)) (Nat.le_trans L2 (by decide)) (.tail _ (.head _)) (.tail _ (.tail _ (.head _))) (.head _) (fun v => Upd.head fun p hp => ?_) ?good ?bad
      · first | exact fits_in hd (by decide) | ktr_room
      · first | exact fits3 hu (by decide) | ktr_units
      · rcases List.mem_cons.mp hp with rfl | hp
        · exact Nat.ne_of_lt a3
        · rcases List.mem_cons.mp hp with rfl | hp
          · exact Nat.ne_of_lt (Nat.lt_trans a2 a3)
          · exact Nat.ne_of_lt (Nat.lt_trans (a1 p hp) (Nat.lt_trans a2 a3))
      case good =>
        intro hgood D2 u3 u4 h₆ tk₆ F₆ hD2 N₆
        rw [bad_iff hal1] at hgood
        rw [make_good hk0' hgood] at hbt
        rw [← hbt] at N₆
        k_steps
        refine get_tab (its := [(D2, Str.ofString "N", txt (bt hs k))]) (dflt := .str (Str.ofString "?") _) B₁ (by assumption) X₁ (by assumption) T₁ rfl ?_ ?_ (by decide) (.tail _ (.tail _ (.head _))) (.tail _ (.tail _ (.tail _ (.head _)))) (.tail _ (.head _)) ?_ ?_ ?_ (fun hb => absurd hb (by decide +kernel))
        · first | exact fits_in hd (by decide) | ktr_room
        · first | exact fits3 hu (by decide) | ktr_units
        · intro it hit
          rw [List.mem_singleton.mp hit]
          exact (by decide : (Str.ofString "N").length ≤ 1000)
        · intro it hit
          rw [List.mem_singleton.mp hit]
          exact ⟨u3, u4, .head _⟩
        intro _ r h₇ tk₇ hr F₇ N₇
        obtain ⟨tv, rfl⟩ := told_one hr
        have up : ∀ p ∈ led, p ∈ (D2, ({ cls := .type "tuple", data := .seq #[.str (Str.ofString "N") u3, .str (txt (bt hs k)) u4] } : Obj)) :: (l, listOf #[.ref D2] (nl + 1)) :: (x, instObj 184 dx) :: (dx, dictOf [⟨PyData.keyHash w.params (Str.ofString "_headers"), .str (Str.ofString "_headers") u, .ref l⟩] kd) :: led := fun p hp => .tail _ (.tail _ (.tail _ (.tail _ hp)))
        k_steps
        refine set_led (by assumption) (by assumption) (up _ mR) (by rw [hlen]; exact hk6) hk6 ?_
        intro h₆ F₆ N₆
        k_steps
        exact built_turn hik hS (by assumption) rfl rfl (by assumption) (up _ mI) (fun p hp => up p (mN p hp)) hoff hlt ⟨K₁, B₁, X₁, T₁, D₁⟩
      case bad =>
        intro hbad e te vse g₂ h₆ tk₆ F₆ R' U'
        rw [bad_iff hal1] at hbad
        rw [make_bad hk0' hbad] at hbt
        k_steps
        with_reducible rename KtsTurn _ _ _ => K₃
        with_reducible rename Below _ _ _ _ => B₃
        rename (heapK w.params).In _ => X₃
        with_reducible rename Top _ _ _ _ _ _ => T₃
        with_reducible rename KtsDicts _ _ => D₃
        clear K₁ B₁ X₁ T₁ D₁
        refine get_tab (its := []) (dflt := .str (Str.ofString "?") _) B₃ (by assumption) X₃ (by assumption) T₃ rfl ?_ ?_ (by decide) (.tail _ (.head _)) (.tail _ (.tail _ (.head _))) (.head _) (fun _ h => nomatch h) (fun _ h => nomatch h) ?_ (fun hb => absurd hb (by decide +kernel))
        · first | exact fits_in hd (by decide) | ktr_room
        · first | exact fits3 hu (by decide) | ktr_units
        intro _ r h₇ tk₇ hr F₇ N₇
        replace hr : r = _ := hr
        subst hr
        have up : ∀ p ∈ led, p ∈ (l, listOf #[] nl) :: (x, instObj 184 dx) :: (dx, dictOf [⟨PyData.keyHash w.params (Str.ofString "_headers"), .str (Str.ofString "_headers") u, .ref l⟩] kd) :: led := fun p hp => .tail _ (.tail _ (.tail _ hp))
        k_steps
        rw [show Str.ofString "?" = txt [63] by decide +kernel, ← hbt]
        refine set_led (by assumption) (by assumption) (up _ mR) (by rw [hlen]; exact hk6) hk6 ?_
        intro h₆ F₆ N₆
        k_steps
        exact built_turn hik hS (by assumption) rfl rfl (by assumption) (up _ mI) (fun p hp => up p (mN p hp)) hoff hlt ⟨K₃, B₃, X₃, T₃, D₃⟩
    · rename ((_ : Nat) : Int) = 1 => hk1
      have hk1' : h.kind = 1 := nat_of (b := 1) hk1
      rw [add_txt, add_txt]
      have hl3 : (h.own ++ one ++ two).length ≤ 100000 := len3_le hol2 L1 L2
      refine esc_txt (l := h.own ++ one ++ two) B₁ (by assumption) X₁ (by assumption) T₁ rfl ?_ ?_ hl3 ?_
      · first | exact fits_in hd (by decide) | ktr_room
      · first | exact fits3 hu (by decide) | ktr_units
      intro t₅ h₅ tk₅ F₅ N₅
      have hz5 : (txt ((h.own ++ one ++ two).flatMap escSign)).length ≤ 600000 := by rw [length_txt]; have := flatMap_len (f := escSign) (fun d => (e6_eq d) ▸ (e_len d).2.2.2.2.2) (h.own ++ one ++ two); omega
      rw [make_esc hk1'] at hbt
      generalize (h.own ++ one ++ two).flatMap escSign = z at hbt hz5 F₅ ⊢
      k_steps
      rw [show Str.ofString "<" = txt [60] by decide +kernel, show Str.ofString ">" = txt [62] by decide +kernel, add_txt, add_txt, ← hbt]
      refine set_led (by assumption) (by assumption) mR (by rw [hlen]; exact hk6) hk6 ?_
      intro h₆ F₆ N₆
      k_steps
      exact built_turn hik hS (by assumption) rfl rfl (by assumption) mI mN hoff hlt ⟨K₁, B₁, X₁, T₁, D₁⟩
    · rename ¬ ((_ : Nat) : Int) = 1 => hk1
      rename ¬ ((_ : Nat) : Int) = 0 => hk0
      have hk2' : h.kind = 2 := kind2 (W.kind hkh) hk0 hk1
      rw [make_fold hk2'] at hbt
      have hal2 : ∀ c ∈ h.own ++ one ++ two, c ∈ alph := fun c hc => hal1 c (by rw [← List.append_assoc]; exact hc)
      have hl3 : (h.own ++ one ++ two).length ≤ 100000 := len3_le hol2 L1 L2
      with_reducible rename Fr _ _ _ _ => F₅
      refine ⟨?_⟩
      refine lc_str F₅ rfl rfl (by decide +kernel) rfl (by decide +kernel) rfl ?_ (fun _ => rfl)
      k_steps
      rw [add_txt, add_txt]
      generalize h.own ++ one ++ two = z at *
      refine ⟨_, _, led, rfl, (by assumption), (by assumption), (by rw [sizeLine_eq]; show z.length ≤ _; omega), fun g => rest_str (l := z) keepC b3Str ?hP ?lturn ?lfin⟩
      case hP =>
        rintro j v ⟨c, t, hc, rfl⟩
        exact ⟨c, t, by simpa [txt] using hc, rfl⟩
      case lturn =>
        intro c t I oI C oC Dc m₂ ys h₆ tk₆ E' hcz hC hx F₆ N₆ off ne
        k_steps
        refine in_b1 B₁ (by assumption) X₁ (by assumption) T₁ rfl ?_ ?_ ?_
        · first | exact fits_in hd (by decide) | ktr_room
        · first | exact fits3 hu (by decide) | ktr_units
        intro h₇ tk₇ F₇ N₇
        cases hkc : b1List.contains (c : Int) with
        | true =>
          k_steps
          exact LCg.CompEnd.intro (by assumption) (by assumption) led (fun p h => h) off trivial ⟨rfl, by unfold keepC; rw [hkc]; rfl⟩
        | false =>
          k_steps
          refine map_b3 B₁ (by assumption) X₁ (by assumption) T₁ rfl ?_ ?_ sv (hB.at fun o e => B₁.stays _ _ e) ?_
          · first | exact fits_in hd (by decide) | ktr_room
          · first | exact fits3 hu (by decide) | ktr_units
          intro t₈ h₈ tk₈ F₈ N₈
          k_steps
          exact LCg.CompEnd.intro (by assumption) (by assumption) led (fun p h => h) off trivial ⟨rfl, by unfold keepC; rw [hkc]; rfl, _, rfl⟩
      case lfin =>
        intro ys hys D₅ h₈ tk₈ F₈ N₈ off₈
        refine spliced_none ?_
        dsimp only
        refine join_listW ⟨_, (N₈ _ (.head _)).1, rfl, _, rfl⟩ hys (by decide) (by have := fold_weight hal2; omega) ?_
        intro t₉ k₉
        rw [join_fold hal2, ← hbt]
        k_steps
        refine set_led (by assumption) (by assumption) (.tail _ mR) (by rw [hlen]; exact hk6) hk6 ?_
        intro h₆ F₆ N₆
        k_steps
        exact built_turn hik hS (by assumption) rfl rfl (by assumption) (.tail _ mI) (fun p hp => .tail _ (mN p hp)) hoff hlt ⟨K₁, B₁, X₁, T₁, D₁⟩
  case done =>
    rintro g₁ h₂ tk₂ m₁ news₁ ⟨K₁, B₁, X₁, T₁, D₁⟩ F₃ N₃ hoff ⟨f, vs, rn, rfl, rfl, hS⟩
    clear F₈ N₈ hrg hS0
    k_steps
    exact hret _ _ _ _ _ hlt hS (by assumption) (by assumption)
end Mine
end

section
open PySem PySem.W PyProof.Rows PySem.Calls
set_option maxRecDepth 100000
set_option Elab.async false
set_option linter.unusedVariables false
namespace Mine
/-- a ledger in which one object has changed -/
structure LedTo (x : Addr) (o : Obj) (led led' : List (Addr × Obj)) : Prop where
  has : (x, o) ∈ led'
  rest : ∀ p ∈ led, p.1 ≠ x → p ∈ led'
theorem led_to (x : Addr) (o : Obj) (led : List (Addr × Obj)) : LedTo x o led ((x, o) :: led.filter fun p => p.1 != x) := ⟨.head _, fun p hp h => .tail _ (in_pull hp h)⟩
theorem cut_at : ∀ {l : List Value} {k : Nat} {y : Value}, l[k]? = some y → kl_cut l k = some (l.take k, y, l.drop (k + 1))
  | [], _, _, h => by simp at h
  | x :: r, 0, y, h => by cases h; rfl
  | x :: r, k + 1, y, h => by
    unfold kl_cut
    rw [cut_at (l := r) (k := k) (y := y) h]
    rfl
section
variable {prog : Program} {w : World} {A : Around} {E : Value → Shared → Prop} {s : Shared} {h₀ : Heap} {L D : Addr} {m : Str → Option Value} {led : List (Addr × Obj)} {vs : Array Value} {n : Nat}
theorem append_led {x : Value} {Q : Value → Shared → Prop} (F : Fr h₀ L s.heap m) (N : News h₀ L s.heap led) (hm : (D, listOf vs n) ∈ led) (hz : vs.size ≤ sizeLine)
    (h : ∀ h' led', LedTo D (listOf (vs.push x) (n + 1)) led led' → Fr h₀ L h' m → News h₀ L h' led' → Q .none { s with heap := h' }) : wpAny (model prog w) A (call (.builtin "list.append") [.ref D, x]) Q E s :=
  append_K F (pull N hm) (Upd.head fun p hp => out_pull hp) (fun h' F' N' => h h' _ (led_to ..) F' N') hz
theorem set_ledA {k : Nat} {t : Tok} {v : Value} {Q : Unit → Shared → Prop} (F : Fr h₀ L s.heap m) (N : News h₀ L s.heap led) (hm : (D, listOf vs n) ∈ led) (hk : k < vs.toList.length) (hk6 : k < 6)
    (h : ∀ h' led', LedTo D (listOf (vs.toList.set k v).toArray n) led led' → Fr h₀ L h' m → News h₀ L h' led' → Q () { s with heap := h' }) : wpAny (model prog w) A (setItem (.ref D) (.int (k : Int) t) v) Q E s :=
  set_led F N hm hk hk6 fun h' F' N' => h h' _ (led_to ..) F' N'
theorem pop_led {fa : List Addr} {j : Nat} {u : Tok} {y : Addr} {Q : Value → Shared → Prop} (F : Fr h₀ L s.heap m) (N : News h₀ L s.heap led) (hm : (D, listOf (fa.map Value.ref).toArray n) ∈ led) (hy : fa[j]? = some y) (hz : fa.length ≤ 1000)
    (h : ∀ h' led', LedTo D (listOf ((fa.eraseIdx j).map Value.ref).toArray (n + 1)) led led' → Fr h₀ L h' m → News h₀ L h' led' → Q (.ref y) { s with heap := h' }) : wpAny (model prog w) A (call (.builtin "list.pop") [.ref D, .int (j : Int) u]) Q E s := by
  have hj : j < fa.length := (List.getElem?_eq_some_iff.mp hy).1
  have e1 : (fa.map Value.ref)[j]? = some (.ref y) := by rw [List.getElem?_map, hy]; rfl
  have e2 : ((fa.map Value.ref).take j ++ (fa.map Value.ref).drop (j + 1)) = (fa.eraseIdx j).map Value.ref := by
    rw [List.eraseIdx_eq_take_drop_succ, List.map_append, List.map_take, List.map_drop]
  refine kl_popAt F (pull N hm) (fitsIndex_of (Int.natCast_nonneg _) (by omega)) (seqIndex_of (Int.natCast_nonneg _) (by simp; exact hj)) (cut_at e1) (Upd.head fun p hp => out_pull hp) (by rw [sizeLine_eq]; show (fa.map Value.ref).length ≤ _; rw [List.length_map]; omega) fun h' F' N' => ?_
  replace N' : News h₀ L h' ((D, listOf ((fa.map Value.ref).take j ++ (fa.map Value.ref).drop (j + 1)).toArray (n + 1)) :: _) := N'
  rw [e2] at N'
  exact h h' _ (led_to ..) F' N'
end
end Mine
end

section
open PySem PySem.W PyProof.Rows PySem.Calls
set_option maxRecDepth 100000
set_option Elab.async false
set_option linter.unusedVariables false
namespace Mine
noncomputable abbrev tup2 (p : Nat × Nat) (t u : Tok) : Obj := { cls := .type "tuple", data := .seq #[.int (p.1 : Int) t, .int (p.2 : Int) u] }
/-- the ledger while the houses are built: the houses, the free rooms -/
structure HL (D Fa : Addr) (hs : List House) (fr : List (Nat × Nat)) (as fa : List Addr) (led : List (Addr × Obj)) : Prop where
  dm : ∃ n, (D, listOf (as.map Value.ref).toArray n) ∈ led
  fm : ∃ n, (Fa, listOf (fa.map Value.ref).toArray n) ∈ led
  hl : as.length = hs.length
  fl : fa.length = fr.length
  ho : ∀ (k : Nat) (h : House) (b : Addr), hs[k]? = some h → as[k]? = some b → ∃ o, (b, o) ∈ led ∧ HouseObj h o
  tp : ∀ (j : Nat) (p : Nat × Nat) (b : Addr), fr[j]? = some p → fa[j]? = some b → ∃ t u, (b, tup2 p t u) ∈ led
  nd : as.Nodup
  ag : ∀ b ∈ as, Fa < b
  fg : ∀ b ∈ fa, Fa < b
  df : D < Fa
section
variable {D Fa : Addr} {hs : List House} {fr : List (Nat × Nat)} {as fa : List Addr} {led led' : List (Addr × Obj)}
theorem HL.am (H : HL D Fa hs fr as fa led) {b : Addr} (hb : b ∈ as) : ∃ o, (b, o) ∈ led := by
  obtain ⟨k, hk, e⟩ := List.mem_iff_getElem.mp hb
  have hk2 : k < hs.length := H.hl ▸ hk
  obtain ⟨o, h1, _⟩ := H.ho k hs[k] b (List.getElem?_eq_getElem hk2) (by rw [List.getElem?_eq_getElem hk, e])
  exact ⟨o, h1⟩
theorem HL.tm (H : HL D Fa hs fr as fa led) {b : Addr} (hb : b ∈ fa) : ∃ o, (b, o) ∈ led := by
  obtain ⟨k, hk, e⟩ := List.mem_iff_getElem.mp hb
  have hk2 : k < fr.length := H.fl ▸ hk
  obtain ⟨t, u, h1⟩ := H.tp k fr[k] b (List.getElem?_eq_getElem hk2) (by rw [List.getElem?_eq_getElem hk, e])
  exact ⟨_, h1⟩
theorem snoc_at {α : Type} {l : List α} {x y : α} {k : Nat} (h : (l ++ [x])[k]? = some y) : l[k]? = some y ∨ (k = l.length ∧ y = x) := by
  rcases Nat.lt_or_ge k l.length with h1 | h1
  · rw [List.getElem?_append_left h1] at h; exact .inl h
  · rw [List.getElem?_append_right h1] at h
    cases hq : k - l.length with
    | zero => rw [hq] at h; exact .inr ⟨by omega, (Option.some.inj h).symm⟩
    | succ n => rw [hq] at h; simp at h
theorem at_lt {α : Type} {l : List α} {y : α} {k : Nat} (h : l[k]? = some y) : k < l.length := (List.getElem?_eq_some_iff.mp h).1
/-- a house is put at the end -/
theorem HL.house (H : HL D Fa hs fr as fa led) {b : Addr} {o : Obj} {h : House} {n : Nat} (hk : ∀ p ∈ led, p.1 ≠ D → p ∈ led') (hb : ∀ p ∈ led, p.1 < b) (ho : (b, o) ∈ led') (hho : HouseObj h o)
    (hD : (D, listOf ((as.map Value.ref).toArray.push (.ref b)) n) ∈ led') : HL D Fa (hs ++ [h]) fr (as ++ [b]) fa led' where
  dm := ⟨n, by simpa using hD⟩
  fm := let ⟨m, e⟩ := H.fm; ⟨m, hk _ e (Nat.ne_of_gt H.df)⟩
  hl := by rw [List.length_append, List.length_append, H.hl]; rfl
  fl := H.fl
  ho := fun k h' b' e1 e2 => by
    rcases snoc_at e1 with e1 | ⟨q1, rfl⟩
    · rcases snoc_at e2 with e2 | ⟨e2, _⟩
      · obtain ⟨o', m, q⟩ := H.ho k h' b' e1 e2
        exact ⟨o', hk _ m (Nat.ne_of_gt (Nat.lt_trans H.df (H.ag b' (List.mem_of_getElem? e2)))), q⟩
      · exact absurd (at_lt e1) (by rw [← H.hl, e2]; exact Nat.lt_irrefl _)
    · rcases snoc_at e2 with e2 | ⟨_, rfl⟩
      · exact absurd (at_lt e2) (by rw [H.hl, q1]; exact Nat.lt_irrefl _)
      · exact ⟨o, ho, hho⟩
  tp := fun j p b' e1 e2 => by
    obtain ⟨t, u, m⟩ := H.tp j p b' e1 e2
    exact ⟨t, u, hk _ m (Nat.ne_of_gt (Nat.lt_trans H.df (H.fg b' (List.mem_of_getElem? e2))))⟩
  nd := by
    rw [List.nodup_append]
    refine ⟨H.nd, by simp, fun x hx y hy e => ?_⟩
    rw [List.mem_singleton.mp hy] at e
    obtain ⟨o', m⟩ := H.am hx
    exact absurd (hb _ m) (by rw [e]; exact Nat.lt_irrefl _)
  ag := fun x hx => by
    rcases List.mem_append.mp hx with hx | hx
    · exact H.ag x hx
    · obtain ⟨m, e⟩ := H.fm
      rw [List.mem_singleton.mp hx]; exact hb _ e
  fg := H.fg
  df := H.df
/-- a room is put at the end -/
theorem HL.room (H : HL D Fa hs fr as fa led) {b : Addr} {p : Nat × Nat} {t u : Tok} {n : Nat} (hk : ∀ p ∈ led, p.1 ≠ Fa → p ∈ led') (hb : ∀ p ∈ led, p.1 < b) (ho : (b, tup2 p t u) ∈ led')
    (hD : (Fa, listOf ((fa.map Value.ref).toArray.push (.ref b)) n) ∈ led') : HL D Fa hs (fr ++ [p]) as (fa ++ [b]) led' where
  dm := let ⟨m, e⟩ := H.dm; ⟨m, hk _ e (Nat.ne_of_lt H.df)⟩
  fm := ⟨n, by simpa using hD⟩
  hl := H.hl
  fl := by rw [List.length_append, List.length_append, H.fl]; rfl
  ho := fun k h' b' e1 e2 => by
    obtain ⟨o', m, q⟩ := H.ho k h' b' e1 e2
    exact ⟨o', hk _ m (Nat.ne_of_gt (H.ag b' (List.mem_of_getElem? e2))), q⟩
  tp := fun j p' b' e1 e2 => by
    rcases snoc_at e1 with e1 | ⟨q1, rfl⟩
    · rcases snoc_at e2 with e2 | ⟨e2, _⟩
      · obtain ⟨t, u, m⟩ := H.tp j p' b' e1 e2
        exact ⟨t, u, hk _ m (Nat.ne_of_gt (H.fg b' (List.mem_of_getElem? e2)))⟩
      · exact absurd (at_lt e1) (by rw [← H.fl, e2]; exact Nat.lt_irrefl _)
    · rcases snoc_at e2 with e2 | ⟨_, rfl⟩
      · exact absurd (at_lt e2) (by rw [H.fl, q1]; exact Nat.lt_irrefl _)
      · exact ⟨t, u, ho⟩
  nd := H.nd
  ag := H.ag
  fg := fun x hx => by
    rcases List.mem_append.mp hx with hx | hx
    · exact H.fg x hx
    · obtain ⟨m, e⟩ := H.fm
      rw [List.mem_singleton.mp hx]; exact hb _ e
  df := H.df
/-- a room is taken -/
theorem HL.take (H : HL D Fa hs fr as fa led) {j n : Nat} (hk : ∀ p ∈ led, p.1 ≠ Fa → p ∈ led') (hD : (Fa, listOf ((fa.eraseIdx j).map Value.ref).toArray n) ∈ led') : HL D Fa hs (fr.eraseIdx j) as (fa.eraseIdx j) led' where
  dm := let ⟨m, e⟩ := H.dm; ⟨m, hk _ e (Nat.ne_of_lt H.df)⟩
  fm := ⟨n, hD⟩
  hl := H.hl
  fl := by rw [List.length_eraseIdx, List.length_eraseIdx, H.fl]
  ho := fun k h' b' e1 e2 => by
    obtain ⟨o', m, q⟩ := H.ho k h' b' e1 e2
    exact ⟨o', hk _ m (Nat.ne_of_gt (H.ag b' (List.mem_of_getElem? e2))), q⟩
  tp := fun i p' b' e1 e2 => by
    rw [List.getElem?_eraseIdx] at e1 e2
    by_cases hij : i < j
    · rw [if_pos hij] at e1 e2
      obtain ⟨t, u, m⟩ := H.tp _ p' b' e1 e2
      exact ⟨t, u, hk _ m (Nat.ne_of_gt (H.fg b' (List.mem_of_getElem? e2)))⟩
    · rw [if_neg hij] at e1 e2
      obtain ⟨t, u, m⟩ := H.tp _ p' b' e1 e2
      exact ⟨t, u, hk _ m (Nat.ne_of_gt (H.fg b' (List.mem_of_getElem? e2)))⟩
  nd := H.nd
  ag := H.ag
  fg := fun x hx => H.fg x (List.mem_of_mem_eraseIdx hx)
  df := H.df
/-- a house is changed -/
theorem HL.change {g h : Heap} {L : Addr} (N : News g L h led) (H : HL D Fa hs fr as fa led) {k : Nat} {b : Addr} {h₀ h₁ : House} {o : Obj} (hk : ∀ p ∈ led, p.1 ≠ b → p ∈ led') (e0 : hs[k]? = some h₀) (e : as[k]? = some b) (ho : (b, o) ∈ led') (hho : HouseObj h₁ o) : HL D Fa (hs.set k h₁) fr as fa led' := by
  have hbF := H.ag b (List.mem_of_getElem? e)
  obtain ⟨o₀, m₀, k0, t0, u0, va, vl, vr, n0, rfl, _⟩ := H.ho k h₀ b e0 e
  exact {
    dm := let ⟨m, e⟩ := H.dm; ⟨m, hk _ e (Nat.ne_of_lt (Nat.lt_trans H.df hbF))⟩
    fm := let ⟨m, e⟩ := H.fm; ⟨m, hk _ e (Nat.ne_of_lt hbF)⟩
    hl := by rw [List.length_set]; exact H.hl
    fl := H.fl
    ho := fun k' h' b' e1 e2 => by
      rw [List.getElem?_set] at e1
      by_cases hkk : k = k'
      · subst hkk
        rw [if_pos rfl, if_pos (at_lt e0)] at e1
        rw [e] at e2
        cases e2; cases e1
        exact ⟨o, ho, hho⟩
      · rw [if_neg hkk] at e1
        obtain ⟨o', m, q⟩ := H.ho k' h' b' e1 e2
        refine ⟨o', hk _ m fun hb => hkk ?_, q⟩
        replace hb : b' = b := hb
        obtain ⟨i1, x1⟩ := List.getElem?_eq_some_iff.mp e
        obtain ⟨i2, x2⟩ := List.getElem?_eq_some_iff.mp e2
        exact (List.getElem_inj H.nd).mp (x1.trans (hb ▸ x2.symm))
    tp := fun j p b' e1 e2 => by
      obtain ⟨t, u, m⟩ := H.tp j p b' e1 e2
      refine ⟨t, u, hk _ m fun hb => ?_⟩
      dsimp only at hb
      subst hb
      have := congrArg Obj.cls (Option.some.inj ((N _ m).1.symm.trans (N _ m₀).1))
      injection this with this
      exact absurd this (by decide)
    nd := H.nd
    ag := H.ag
    fg := H.fg
    df := H.df }
theorem HL.sub (H : HL D Fa hs fr as fa led) (hD : ∀ o, (D, o) ∈ led → (D, o) ∈ led') (hF : ∀ o, (Fa, o) ∈ led → (Fa, o) ∈ led') (ha : ∀ b ∈ as, ∀ o, (b, o) ∈ led → (b, o) ∈ led') (hf : ∀ b ∈ fa, ∀ o, (b, o) ∈ led → (b, o) ∈ led') : HL D Fa hs fr as fa led' where
  dm := let ⟨m, e⟩ := H.dm; ⟨m, hD _ e⟩
  fm := let ⟨m, e⟩ := H.fm; ⟨m, hF _ e⟩
  hl := H.hl
  fl := H.fl
  ho := fun k' h' b' e1 e2 => let ⟨o', m, q⟩ := H.ho k' h' b' e1 e2; ⟨o', ha _ (List.mem_of_getElem? e2) _ m, q⟩
  tp := fun j p b' e1 e2 => let ⟨t, u, m⟩ := H.tp j p b' e1 e2; ⟨t, u, hf _ (List.mem_of_getElem? e2) _ m⟩
  nd := H.nd
  ag := H.ag
  fg := H.fg
  df := H.df
theorem HL.hat (H : HL D Fa hs fr as fa led) : HAt led hs D := let ⟨n, e⟩ := H.dm; ⟨as, n, H.hl, e, H.ho⟩
end
end Mine
end

section
open PySem PySem.W PyProof.Rows PySem.Calls
set_option maxRecDepth 100000
set_option Elab.async false
set_option linter.unusedVariables false
namespace Mine
section
variable {prog : Program} {w : World} {A : Around} {E : Value → Shared → Prop} {s : Shared} {env : Env} {h₀ : Heap} {Q : Flow → Shared → Prop}
/-- a loop over pairs with an invariant of the names and the ledger; the ledger may grow -/
noncomputable def PairM (prog : Program) (w : World) (A : Around) (h₀ : Heap) (env : Env) (xi xc : Str) (body : List Stmt) (Q : Flow → Shared → Prop) (E : Value → Shared → Prop) (it : Value) (s₂ : Shared) : Prop :=
  ∃ (I : Addr) (fp wr : List Addr) (n : Nat) (Pt : Nat → Array Value → Prop) (St : Nat → Heap → Prop) (Mid : Nat → Addr → Heap → Prop) (P2 : Nat → Value → Value → Prop) (m : Str → Option Value) (news : List (Addr × Obj))
    (J : Nat → (Str → Option Value) → List (Addr × Obj) → Prop),
    it = .ref I ∧ WalksT prog w A I fp wr n Pt St Mid ∧ (∀ i vals, Pt i vals → ∃ v0 v1, vals = #[v0, v1] ∧ P2 i v0 v1) ∧ env.locals ∉ fp ∧ (∀ b ∈ wr, h₀.get? b = none) ∧ (∀ p ∈ news, p.1 ∉ wr) ∧ St 0 s₂.heap ∧ (∀ i h, St i h → ∀ b ∈ wr, ∃ o, h.get? b = some o) ∧
    Fr h₀ env.locals s₂.heap m ∧ News h₀ env.locals s₂.heap news ∧ J 0 m news ∧
    (∀ i v0 v1 m₁ news₁ h tk own, i < n → P2 i v0 v1 → J i m₁ news₁ → (∀ p ∈ news₁, p.1 ∉ wr) → (∀ p ∈ own, p.1 ∈ fp) → (∀ b ∈ wr, ∃ o, (b, o) ∈ own) →
      Fr h₀ env.locals h (fun y => if y = xc then some v1 else if y = xi then some v0 else m₁ y) → News h₀ env.locals h (own ++ news₁) →
      wpAny (model prog w) A (execs body env) (TurnM h₀ env.locals wr own (J (i + 1)) s₂ Q) E { s₂ with heap := h, toks := tk }) ∧
    ∀ h' tk m' news', Fr h₀ env.locals h' m' → News h₀ env.locals h' news' → (∀ p ∈ news', p.1 ∉ wr) → J n m' news' → Q .next { s₂ with heap := h', toks := tk }
theorem for_pairM {xi xc : Str} {pk pv pt pos : Pos} {x1 : Nat} {iter : Expr} {body : List Stmt} {m₀ : Str → Option Value} (F₀ : Fr h₀ env.locals s.heap m₀) (hh : A.handled = none) (hxi : env.kindOf xi = some .local) (hxc : env.kindOf xc = some .local)
    (hp : (env.scope.kind == .class || (env.scope.kind == .module && env.locals != env.globals)) = false)
    (h : wpAny (model prog w) A (eval iter env) (fun xv s₁ => wpAny (model prog w) A (pyIter xv) (fun it s₂ => PairM prog w A h₀ env xi xc body Q E it s₂) E s₁) E s)
    (hs : ∀ x, foldedSetIterable iter env x = pure x)
    (hE : PassesOwn (model prog w) A env E := by passes_own) :
    wpAny (model prog w) A (exec (.For (.Tuple [.Name xi pk, .Name xc pv] x1 pt) iter body [] pos) env) Q E s := by
  refine wpAny_For (wpAny_mono h (fun xv s₁ h₁ => wpAny_mono h₁ (fun it s₂ h₂ => ?_) fun _ _ e => e) fun _ _ e => e) hs
  obtain ⟨I, fp, wr, n, Pt, St, Mid, P2, m, news, J, rfl, W, h2, hLf, hwr, hnw, hst, hwo, F, N, h0, step, hR⟩ := h₂
  have hLw : env.locals ∉ wr := fun h => hLf (W.sub _ h)
  have old : ∀ b o, h₀.get? b = some o → b ∉ wr := fun b o e hb => by rw [hwr b hb] at e; cases e
  refine codeAny_forLoop_any
    (fun k s' => ∃ h' tk m' news' i, s' = { s₂ with heap := h', toks := tk } ∧ St i h' ∧ Fr h₀ env.locals h' m' ∧ News h₀ env.locals h' news' ∧ (∀ p ∈ news', p.1 ∉ wr) ∧ J i m' news' ∧ i ≤ n ∧ k = n + 1 - i) ?_ (n + 1)
    ⟨s₂.heap, s₂.toks, m, news, 0, rfl, hst, F, N, hnw, h0, Nat.zero_le _, rfl⟩
  rintro k s' ⟨g, tk, m', news', i, rfl, hst', F', N', hnw', hJ, hi, rfl⟩
  have kept : ∀ h₁ : Heap, (∀ b o, b ∉ wr → g.get? b = some o → h₁.get? b = some o) → Fr h₀ env.locals h₁ m' ∧ News h₀ env.locals h₁ news' := fun h₁ hk₁ =>
    ⟨⟨F'.ns.at' fun o e => hk₁ _ o hLw e, fun b o e => hk₁ b o (old b o e) (F'.keep b o e), F'.above⟩, fun p hp => ⟨hk₁ _ _ (hnw' p hp) (N' p hp).1, (N' p hp).2⟩⟩
  by_cases hlt : i < n
  · refine W.item i _ _ _ hlt hst' fun T vals h₁ tk₁ hPt _ hT hMid hk₁ => ?_
    obtain ⟨v0, v1, rfl, hP2⟩ := h2 i vals hPt
    refine wpAny_passesOwn hE ?_
    refine W.go _ x1 pt i T _ _ _ hMid fun h₂ hst₂ hk₂ => ?_
    refine wpAny_passesOwn hE ?_
    have ht₂ : h₂.IsTuple T #[v0, v1] := hT.at fun o e => hk₂ T o (W.apart i T h₁ hMid) e
    refine wpAny_assign_Tuple hh ht₂ rfl rfl fun h₃ hx₃ => ?_
    have hx₃ : Heap.ExtBut h₂.objs.size h₂ h₃ := hx₃
    have up₃ : ∀ b o, h₂.get? b = some o → h₃.get? b = some o := fun b o x => hx₃ b o (Nat.ne_of_lt (Heap.lt_size x)) x
    obtain ⟨F₃, N₃⟩ := kept h₃ fun b o hb x => up₃ b o (hk₂ b o hb (hk₁ b o hb x))
    show wpAny _ A (do holding [v1] (assign (.Name xi pk) env v0); do holding [] (assign (.Name xc pv) env v1); pure ()) _ _ _
    refine wpAny_bind (wpAny_holding (wpAny_assign_Name (wpAny_storeName_local hxi F₃.ns (fun h₄ hn₄ hs₄ => ?_) hp)))
    have hs₄ : Heap.SameBut env.locals h₃ h₄ := hs₄
    have F₄ := F₃.set hn₄ hs₄
    refine wpAny_bind (wpAny_holding (wpAny_assign_Name (wpAny_storeName_local hxc F₄.ns (fun h₅ hn₅ hs₅ => wpAny_pure ?_) hp)))
    have hs₅ : Heap.SameBut env.locals h₄ h₅ := hs₅
    have F₅ := F₄.set hn₅ hs₅
    have N₅ : News h₀ env.locals h₅ news' := (N₃.set hs₄).set hs₅
    have hst₅ : St (i + 1) h₅ := W.frame _ _ _ hst₂ fun b hb o e => hs₅.extBut b o (fun q => hLf (q ▸ hb)) (hs₄.extBut b o (fun q => hLf (q ▸ hb)) (up₃ b o e))
    refine wpAny_passesOwn hE (wpAny_mono (step i v0 v1 m' news' h₅ _ (ownOf h₀ fp h₅) hlt hP2 hJ hnw' ownOf_sub (fun b hb => let ⟨o, e⟩ := hwo _ _ hst₅ b hb; ⟨o, mem_ownOf (W.sub b hb) (hwr b hb) e⟩) F₅ (fun p hp => (List.mem_append.mp hp).elim (news_ownOf hLf p) (N₅ p))) (fun f s₄ h₄ => ?_) fun _ _ e => e)
    have go : (∃ h' tk m₃ news₃, s₄ = { s₂ with heap := h', toks := tk } ∧ Fr h₀ env.locals h' m₃ ∧ News h₀ env.locals h' (ownOf h₀ fp h₅ ++ news₃) ∧ (∀ p ∈ news₃, p.1 ∉ wr) ∧ J (i + 1) m₃ news₃) →
        ∃ m, m < n + 1 - i ∧ (∃ h' tk m' news' i, s₄ = { s₂ with heap := h', toks := tk } ∧ St i h' ∧ Fr h₀ env.locals h' m' ∧ News h₀ env.locals h' news' ∧ (∀ p ∈ news', p.1 ∉ wr) ∧ J i m' news' ∧ i ≤ n ∧ m = n + 1 - i) := by
      rintro ⟨h₃', tk₃, m₂, news₂, rfl, F₆, N₆, ha₃, hJ₃⟩
      refine ⟨n + 1 - (i + 1), turn_lt hlt, h₃', tk₃, m₂, news₂, i + 1, rfl, ?_, F₆, fun p hp => N₆ p (List.mem_append_right _ hp), ha₃, hJ₃, hlt, rfl⟩
      refine W.frame _ _ _ hst₅ fun b hb o e => ?_
      cases hn : h₀.get? b with
      | some o₀ =>
        have e2 := Option.some.inj ((F₅.keep b o₀ hn).symm.trans e)
        rw [← e2]
        exact F₆.keep b o₀ hn
      | none => exact (N₆ _ (List.mem_append_left _ (mem_ownOf hb hn e))).1
    cases f with
    | next => exact go h₄
    | cont => exact go h₄
    | brk => exact h₄
    | ret v => exact h₄
  · have hin : i = n := turn_end hi hlt
    subst hin
    refine W.done _ _ _ hst' fun h₁ tk₁ hk₁ => wpAny_execs_nil ?_
    obtain ⟨F₁, N₁⟩ := kept h₁ hk₁
    exact hR h₁ tk₁ m' news' F₁ N₁ hnw' hJ
theorem iterM_enumG {xi xc : Str} {body : List Stmt} {l : Addr} {vs : Array Value} {m₀ : Str → Option Value} {news : List (Addr × Obj)} (J : Nat → (Str → Option Value) → List (Addr × Obj) → Prop)
    (hh : A.handled = none) (hl : s.heap.IsList l vs) (hlL : l ≠ env.locals) (F : Fr h₀ env.locals s.heap m₀) (N : News h₀ env.locals s.heap news) (hj : J 0 m₀ news)
    (turn : ∀ i t v m₁ news₁ h tk own, vs[i]? = some v → J i m₁ news₁ → (∀ p ∈ news₁, p.1 ≠ s.heap.objs.size ∧ p.1 ≠ s.heap.objs.size + 1) → (∀ p ∈ own, p.1 = l ∨ p.1 = s.heap.objs.size ∨ p.1 = s.heap.objs.size + 1) → (∃ o, (s.heap.objs.size, o) ∈ own) → (∃ o, (s.heap.objs.size + 1, o) ∈ own) →
      Fr h₀ env.locals h (fun y => if y = xc then some v else if y = xi then some (.int i t) else m₁ y) → News h₀ env.locals h (own ++ news₁) →
      wpAny (model prog w) A (execs body env) (TurnM h₀ env.locals [s.heap.objs.size + 1, s.heap.objs.size] own (J (i + 1)) s Q) E { s with heap := h, toks := tk })
    (done : ∀ h' tk m' news', Fr h₀ env.locals h' m' → News h₀ env.locals h' news' → (∀ p ∈ news', p.1 ≠ s.heap.objs.size ∧ p.1 ≠ s.heap.objs.size + 1) → J vs.size m' news' → Q .next { s with heap := h', toks := tk }) :
    wpAny (model prog w) A (call (.type "enumerate") [.ref l]) (fun xv s₁ => wpAny (model prog w) A (pyIter xv) (fun it s₂ => PairM prog w A h₀ env xi xc body Q E it s₂) E s₁) E s := by
  obtain ⟨ol, hol, hol'⟩ := id hl
  have hlt : l < s.heap.objs.size := Heap.lt_size hol
  have hLs : env.locals < s.heap.objs.size := F.ns.lt
  have hab : h₀.objs.size ≤ env.locals := F.above
  have two : ∀ {news' : List (Addr × Obj)}, (∀ p ∈ news', p.1 ∉ [s.heap.objs.size + 1, s.heap.objs.size]) → ∀ p ∈ news', p.1 ≠ s.heap.objs.size ∧ p.1 ≠ s.heap.objs.size + 1 := fun h p hp =>
    ⟨fun e => h p hp (by rw [e]; exact .tail _ (.head _)), fun e => h p hp (by rw [e]; exact .head _)⟩
  refine call_enumerate_list hl fun h' he hit hsz hk => ?_
  have F' : Fr h₀ env.locals h' m₀ := ⟨F.ns.keeps hk, fun b o e => hk b o (F.keep b o e), F.above⟩
  have N' : News h₀ env.locals h' news := fun p hp => ⟨hk _ _ (N p hp).1, (N p hp).2⟩
  refine wpAny_pyIter_enum he ?_
  have W := WalksT.enumerate (prog := prog) (w := w) hh (s.heap.objs.size + 1) s.heap.objs.size l (Nat.succ_ne_self _) (Nat.ne_of_lt (Nat.lt_succ_of_lt hlt)) (Nat.ne_of_lt hlt) vs
  refine ⟨_, _, _, vs.size, _, _, _, fun i v0 v1 => vs[i]? = some v1 ∧ ∃ t, v0 = .int i t, m₀, news, J, rfl, W, ?_, ?_, ?_, ?_, ⟨⟨_, he⟩, hit, hl.at fun o e => hk l o e⟩, ?_, F', N', hj, ?_, ?_⟩
  · rintro i vals ⟨t, x, hx, rfl⟩
    exact ⟨_, _, rfl, hx, t, rfl⟩
  · intro hm
    rcases List.mem_cons.mp hm with e | hm
    · exact Nat.ne_of_lt (Nat.lt_succ_of_lt hLs) e
    · rcases List.mem_cons.mp hm with e | hm
      · exact Nat.ne_of_lt hLs e
      · exact hlL (List.mem_singleton.mp hm).symm
  · intro b hb
    rcases List.mem_cons.mp hb with rfl | hb
    · exact Heap.get?_none_of_le (Nat.le_trans hab (Nat.le_of_lt (Nat.lt_succ_of_lt hLs)))
    · rw [List.mem_singleton.mp hb]; exact Heap.get?_none_of_le (Nat.le_trans hab (Nat.le_of_lt hLs))
  · intro p hp hI
    have h1 := Heap.lt_size (N p hp).1
    rcases List.mem_cons.mp hI with e | hb
    · rw [e] at h1; exact absurd h1 (Nat.not_lt_of_le (Nat.le_succ _))
    · rw [List.mem_singleton.mp hb] at h1; exact absurd h1 (Nat.lt_irrefl _)
  · rintro i h ⟨⟨old, e1⟩, e2, _⟩ b hb
    rcases List.mem_cons.mp hb with rfl | hb
    · exact ⟨_, e1⟩
    · rw [List.mem_singleton.mp hb]
      obtain ⟨o, e3, _⟩ := e2
      exact ⟨o, e3⟩
  · rintro i v0 v1 m₁ news₁ h tk own hi ⟨hx, t, rfl⟩ hJ hoff hsub hown F₁ N₁
    refine turn i t v1 m₁ news₁ h tk own hx hJ (two hoff) (fun p hp => ?_) (hown _ (.tail _ (.head _))) (hown _ (.head _)) F₁ N₁
    rcases List.mem_cons.mp (hsub p hp) with e | hb
    · exact .inr (.inr e)
    · rcases List.mem_cons.mp hb with e | hb
      · exact .inr (.inl e)
      · exact .inl (List.mem_singleton.mp hb)
  · exact fun h' tk m' news' a b c d => done h' tk m' news' a b (two c) d
end
end Mine
end

section
open PySem PySem.W PyProof.Rows PySem.Calls
set_option maxRecDepth 100000
set_option Elab.async false
set_option linter.unusedVariables false
set_option maxHeartbeats 4000000
namespace Mine
/-- the cells after so many numbers -/
structure CellsOk (i : Nat) (cs : List Int) : Prop where
  len : cs.length = 6
  le : ∀ c ∈ cs, 0 ≤ c ∧ c ≤ 3000 + (i : Int) * 1000000000
noncomputable abbrev mE (C S D Fa : Addr) (f : Str → Option Value) : Str → Option Value := fun y =>
  if y = Str.ofString "cells" then some (.ref C) else if y = Str.ofString "signs" then some (.ref S) else if y = Str.ofString "houses" then some (.ref D) else if y = Str.ofString "free" then some (.ref Fa) else f y
theorem fr_E {g h : Heap} {L C S D Fa : Addr} {G : Str → Option Value} (F : Fr g L h G) (e1 : G (Str.ofString "cells") = some (.ref C)) (e2 : G (Str.ofString "signs") = some (.ref S)) (e3 : G (Str.ofString "houses") = some (.ref D)) (e4 : G (Str.ofString "free") = some (.ref Fa)) : Fr g L h (mE C S D Fa G) := by
  have e : mE C S D Fa G = G := by
    funext y
    unfold mE
    by_cases a1 : y = Str.ofString "cells"
    · rw [if_pos a1, a1, e1]
    rw [if_neg a1]
    by_cases a1 : y = Str.ofString "signs"
    · rw [if_pos a1, a1, e2]
    rw [if_neg a1]
    by_cases a1 : y = Str.ofString "houses"
    · rw [if_pos a1, a1, e3]
    rw [if_neg a1]
    by_cases a1 : y = Str.ofString "free"
    · rw [if_pos a1, a1, e4]
    rw [if_neg a1]
  rw [e]; exact F
theorem sg16_len : ∀ x ∈ sg16, x.length ≤ 1 := by decide
theorem sign_at {vs : List Value} (h : StrsAre vs (sg16.map txt)) (q : Int) : ∃ x t, x ∈ sg16 ∧ vs[(q.fmod 16).toNat]? = some (.str (txt x) t) ∧ 0 ≤ q.fmod 16 ∧ q.fmod 16 < 2 ^ 63 ∧ (txt x).length ≤ 1 := by
  rw [Int.fmod_eq_emod_of_nonneg _ (by decide)]
  have h0 : 0 ≤ q % 16 ∧ q % 16 < 16 := by omega
  have h1 : (q % 16).toNat < sg16.length := by show _ < 16; omega
  obtain ⟨t, e⟩ := strs_at h (i := (q % 16).toNat) (y := txt sg16[(q % 16).toNat]) (by rw [List.getElem?_map, List.getElem?_eq_getElem h1]; rfl)
  exact ⟨_, t, List.getElem_mem h1, e, h0.1, by omega, sg16_len _ (List.getElem_mem h1)⟩
theorem kept_ne {ow base news₁ : List (Addr × Obj)} {C D I : Addr} (hsub : ∀ p ∈ ow, p.1 = C ∨ p.1 = I ∨ p.1 = I + 1) (hoff : ∀ p ∈ news₁, p.1 ≠ I ∧ p.1 ≠ I + 1) (hC : C < D) (hb : ∀ p ∈ base, p.1 < D) {x : Addr} (hx : ∃ o, (x, o) ∈ news₁) (hD : D ≤ x) : ∀ p ∈ ow ++ base, p.1 ≠ x := by
  intro p hp e
  obtain ⟨o, ho⟩ := hx
  obtain ⟨h1, h2⟩ := hoff _ ho
  rcases List.mem_append.mp hp with hp | hp
  · rcases hsub p hp with h | h | h
    · exact absurd hC (Nat.not_lt_of_le (by rw [← h, e]; exact hD))
    · exact h1 (e.symm.trans h)
    · exact h2 (e.symm.trans h)
  · exact absurd (hb p hp) (Nat.not_lt_of_le (by rw [e]; exact hD))
/-- the frame, and the house's number -/
noncomputable abbrev mK (C S D Fa : Addr) (k : Int) (t : Tok) (f : Str → Option Value) : Str → Option Value := fun y => if y = Str.ofString "k" then some (.int k t) else mE C S D Fa f y
theorem fr_K {g h : Heap} {L C S D Fa : Addr} {k : Int} {t : Tok} {G : Str → Option Value} (F : Fr g L h G) (e0 : G (Str.ofString "k") = some (.int k t)) (e1 : G (Str.ofString "cells") = some (.ref C)) (e2 : G (Str.ofString "signs") = some (.ref S)) (e3 : G (Str.ofString "houses") = some (.ref D)) (e4 : G (Str.ofString "free") = some (.ref Fa)) : Fr g L h (mK C S D Fa k t G) := by
  have e : mK C S D Fa k t G = mE C S D Fa G := by
    funext y
    by_cases a1 : y = Str.ofString "k"
    · show (if y = Str.ofString "k" then some (.int k t) else mE C S D Fa G y) = _
      rw [if_pos a1, a1]
      exact e0.symm
    · show (if y = Str.ofString "k" then some (.int k t) else mE C S D Fa G y) = _
      rw [if_neg a1]
  rw [e]; exact fr_E F e1 e2 e3 e4
theorem set_snoc {hs : List House} {x y : House} : (hs ++ [x]).set hs.length y = hs ++ [y] := by simp
theorem snoc_get {α : Type} {l : List α} {x : α} {k : Nat} (h : k < l.length) : (l ++ [x])[k]? = l[k]? := List.getElem?_append_left h
theorem snoc_last {α : Type} {l : List α} {x : α} {k : Nat} (h : l.length = k) : (l ++ [x])[k]? = some x := by rw [← h]; simp
theorem ref_at {l : List Addr} {k : Nat} {b : Addr} (h : l[k]? = some b) : (l.map Value.ref).toArray.toList[((k : Nat) : Int).toNat]? = some (.ref b) := by
  rw [Int.toNat_natCast]
  show (l.map Value.ref)[k]? = _
  rw [List.getElem?_map, h]; rfl
theorem mod_at {q : Int} {n : Nat} (h : 0 < n) : ∃ j : Nat, j < n ∧ q.fmod (n : Int) = (j : Int) := by
  refine ⟨(q % (n : Int)).toNat, ?_, ?_⟩
  · have h1 := Int.emod_nonneg q (b := (n : Int)) (by omega)
    have h2 := Int.emod_lt_of_pos q (b := (n : Int)) (by omega)
    omega
  · rw [Int.fmod_eq_emod_of_nonneg _ (by omega)]
    have h1 := Int.emod_nonneg q (b := (n : Int)) (by omega)
    omega
local macro_rules | `(tactic| walk_at "subscriptTail") => `(tactic| (k_here; (with_reducible show wpAny _ _ (subscriptTail _ _ (Value.ref _) (Value.int _ _)) _ _ _); refine of_held ?_))
local macro_rules | `(tactic| walk_at "exec If") => `(tactic| (k_here; refine of_held ?_))
theorem houses_loop {w : World} {mean : ExcName → Option Value} {mg mb : Str → Option Value} {A : Around} {g' : Heap} {L' : Addr} {cdv : Value} {s : Shared} {Q : Flow → Shared → Prop} {E : Value → Shared → Prop}
    {C S D Fa : Addr} {cv sv : Array Value} {cs : List Int} {nC nS : Nat} {base : List (Addr × Obj)} {f m : Str → Option Value}
    (hE : PassesOwn (model Challenge.rw_un0048_01.row.prog w) A (envOf (Str.ofString "_law_houses") (fnScope [17]) L' 273 cdv) E) (hh : A.handled = none)
    (hm : m = mE C S D Fa f) (F : Fr g' L' s.heap m) (N : News g' L' s.heap ((Fa, listOf #[] 0) :: (D, listOf #[] 0) :: base)) (X : (heapK w.params).In g') (T : Top vwT (looseW vwT looseT) mean mg mb g')
    (mC : (C, listOf cv nC) ∈ base) (mS : (S, listOf sv nS) ∈ base) (hb : ∀ p ∈ base, p.1 < D) (df : D < Fa)
    (hc : CellsOk 24 cs) (hcv : IntsAre cv.toList cs) (hsv : StrsAre sv.toList (sg16.map txt))
    (hret : ∀ hs h' tk' f led, WF hs → hs.length = 6 → HAt led hs D → (∀ p ∈ base, p ∈ led) → Fr g' L' h' (mE C S D Fa f) → News g' L' h' led → Q .next { s with heap := h', toks := tk' }) :
    wpAny (model Challenge.rw_un0048_01.row.prog w) A (exec (((fnBody [17])[5]?).getD (.Pass default)) (envOf (Str.ofString "_law_houses") (fnScope [17]) L' 273 cdv)) Q E s := by
  revert X; k_fill; intro X
  subst hm
  conv => arg 3; arg 1; whnf
  refine for_pairM F hh rfl rfl rfl ?_ (by intro _; rfl) hE
  k_steps
  with_reducible rename Fr _ _ _ _ => F₂
  with_reducible rename News _ _ _ _ => N₂
  have hcvs : cv.size = 6 := by rw [← Array.length_toList, hcv.length, hc.len]
  have H0 : HL D Fa [] [] [] [] ((Fa, listOf #[] 0) :: (D, listOf #[] 0) :: base) := ⟨⟨0, .tail _ (.head _)⟩, ⟨0, .head _⟩, rfl, rfl, (fun k h b e => nomatch e), (fun k h b e => nomatch e), List.nodup_nil, (fun b hb => nomatch hb), (fun b hb => nomatch hb), df⟩
  refine iterM_enumG (m₀ := _) (news := (Fa, listOf #[] 0) :: (D, listOf #[] 0) :: base) (fun i m₁ news₁ => ∃ f hs fr as fa, m₁ = mE C S D Fa f ∧ Grow hs fr ∧ hs.length = i ∧ HL D Fa hs fr as fa news₁ ∧ ∀ p ∈ base, p ∈ news₁)
    hh (News.isList N₂ (.tail _ (.tail _ mC))) (N₂ _ (.tail _ (.tail _ mC))).2.1 F₂ N₂ ⟨_, [], [], [], [], rfl, grow_nil, rfl, H0, fun p hp => .tail _ (.tail _ hp)⟩ ?turn ?done
  case turn =>
    rintro i t v m₁ news₁ h₄ tk₄ ow hv ⟨f, hs, fr, as, fa, rfl, G, hsi, H, hbase⟩ hoff hsub ho1 ho2 F₄ N₄
    clear F₂ N₂
    obtain ⟨c, hci⟩ : ∃ c, cs[i]? = some c := ⟨_, List.getElem?_eq_getElem (by rw [hc.len, ← hcvs]; exact (Array.getElem?_eq_some_iff.mp hv).1)⟩
    have hix : i < cv.size := (Array.getElem?_eq_some_iff.mp hv).1
    obtain ⟨tc, hget⟩ := hcv.get i c hci
    obtain rfl : v = .int c tc := by
      rw [Array.getElem?_toList] at hget
      exact Option.some.inj (hv.symm.trans hget)
    obtain ⟨hc0, hc1⟩ := hc.le c (List.mem_of_getElem? hci)
    obtain ⟨led, hled, N₅⟩ : ∃ l, l = ow ++ news₁ ∧ News g' L' h₄ l := ⟨_, rfl, N₄⟩
    have up₀ : ∀ p ∈ news₁, p ∈ led := fun p hp => by rw [hled]; exact List.mem_append_right _ hp
    have upo : ∀ p ∈ ow, p ∈ led := fun p hp => by rw [hled]; exact List.mem_append_left _ hp
    have mS₁ : (S, listOf sv nS) ∈ led := up₀ _ (hbase _ mS)
    have H₁ : HL D Fa hs fr as fa led := H.sub (fun o e => up₀ _ e) (fun o e => up₀ _ e) (fun b _ o e => up₀ _ e) (fun b _ o e => up₀ _ e)
    obtain ⟨nD, mD⟩ := H₁.dm
    have hsz : (sg16.map txt).length = 16 := rfl
    clear N₄ hled hv hget hci
    k_steps
    obtain ⟨x1, t1, hx1, g1, b0, b1, z1⟩ := sign_at hsv (c.fdiv 3)
    refine ⟨?_⟩
    refine item_led (by assumption) mS₁ g1 b0 b1 ?_
    k_steps
    obtain ⟨x2, t2, hx2, g2, b2, b3, z2⟩ := sign_at hsv (c.fdiv 48)
    refine ⟨?_⟩
    refine item_led (by assumption) mS₁ g2 b2 b3 ?_
    k_steps
    have hfa : fa.length ≤ 1000 := by
      have h1 := G.cnt
      rw [H₁.fl, h1]
      split <;> omega
    have hi6 : i < 6 := by rw [← hcvs]; exact hix
    rename ∀ (p : Addr × Obj), p ∈ led → p.1 < _ => hb1
    with_reducible rename Fr _ _ _ _ => F₅
    with_reducible rename News _ _ _ _ => N₆
    rename_i t₅ k₅ a₅ b h₆
    clear a₅
    have hown : OwnOk (x1 ++ x2) := sg16_ok x1 hx1 x2 hx2
    rw [add_txt] at N₆
    obtain ⟨kd, hkd3, hkd⟩ := mod_at (q := c) (n := 3) (by decide)
    replace hkd : c.fmod 3 = (kd : Int) := hkd
    rw [hkd] at N₆
    refine append_led F₅ N₆ (.tail _ mD) (by rw [sizeLine_eq]; show (as.map Value.ref).length ≤ _; rw [List.length_map, H₁.hl, hsi]; omega) ?_
    intro h₇ led₁ T₁ F₇ N₇
    clear F₅ N₆
    have hKne := fun {x : Addr} => kept_ne (x := x) hsub hoff (hb _ mC) hb
    obtain ⟨nF, mF⟩ := H₁.fm
    have hK₁ : ∀ p ∈ ow ++ base, p ∈ led₁ := fun p hp => T₁.rest p (.tail _ ((List.mem_append.mp hp).elim (upo p) fun h => up₀ p (hbase p h))) (hKne (let ⟨n, e⟩ := H.dm; ⟨_, e⟩) (Nat.le_refl _) p hp)
    have hbD : D < b := hb1 _ mD
    have hbF : Fa < b := hb1 _ mF
    have H₂ := H₁.house (h := ⟨kd, x1 ++ x2, none, none, none⟩) (fun p hp hne => T₁.rest p (.tail _ hp) hne) hb1 (T₁.rest _ (.head _) (Nat.ne_of_gt hbD)) ⟨0, _, _, _, _, _, 0, rfl, rfl, rfl, rfl, rfl⟩ T₁.has
    have hKb : ∀ p ∈ ow ++ base, p.1 < b := fun p hp => hb1 p ((List.mem_append.mp hp).elim (upo p) fun h => up₀ p (hbase p h))
    obtain ⟨nF, mF⟩ := H₂.fm
    clear mS₁ mD T₁ g1 g2 z1 z2 b0 b1 b2 b3
    subst hsi
    k_steps
    refine ⟨?_⟩
    with_reducible rename Fr _ _ _ _ => F₈
    with_reducible rename News _ _ _ _ => N₈
    refine wpAny_mono (Q := fun fl s' => Held (fl = .next ∧ ∃ h tk hs' fr' fa' led' G', s' = { s with heap := h, toks := tk } ∧ Fr g' L' h (mK C S D Fa (hs.length : Int) t G') ∧ News g' L' h led' ∧ Grow hs' (fr' ++ [(hs.length, 3), (hs.length, 4)]) ∧ hs'.length = hs.length + 1 ∧
      HL D Fa hs' fr' (as ++ [b]) fa' led' ∧ (∀ y ∈ fa', y ∈ fa) ∧ fa'.length ≤ 1000 ∧ ∀ p ∈ ow ++ base, p ∈ led')) (wpAny_If ?iff) ?post (fun _ _ e => e)
    case iff =>
      k_steps
      · rename 0 < ((hs.length : Nat) : Int) => hpos
        have hn0 : hs.length ≠ 0 := by omega
        have hfr := G.cnt
        rw [if_neg hn0, ← H₁.fl] at hfr
        have hz : (List.map Value.ref fa).toArray.size = fa.length := by simp
        refine call_len_list (News.isList (by assumption) mF) (by rw [hz]; omega) ?_
        rw [hz]
        obtain ⟨j, hj, hje⟩ := mod_at (q := c.fdiv 768) (n := fa.length) (by rw [hfr]; exact Nat.succ_pos _)
        have hne0 : ((fa.length : Nat) : Int) ≠ 0 := by omega
        k_steps
        rw [hje]
        refine pop_led (by assumption) (by assumption) mF (List.getElem?_eq_getElem hj) hfa ?_
        intro h₉ led₂ T₂ F₉ N₉
        have hjr : j < fr.length := H₁.fl ▸ hj
        have hfj := List.getElem?_eq_getElem hjr
        obtain ⟨ta, tr, mt⟩ := H₂.tp j fr[j] fa[j] hfj (List.getElem?_eq_getElem hj)
        have hty := T₂.rest _ mt (Nat.ne_of_gt (H₂.fg _ (List.getElem_mem hj)))
        have H₃ := H₂.take T₂.rest T₂.has
        have hK₂ : ∀ p ∈ ow ++ base, p ∈ led₂ := fun p hp => T₂.rest p (hK₁ p hp) (hKne (let ⟨n, e⟩ := H.fm; ⟨_, e⟩) (Nat.le_of_lt df) p hp)
        generalize fr[j] = q at hfj hty
        generalize fa[j] = y at hty
        obtain ⟨a, r⟩ := q
        obtain ⟨ha6, hr, hslot⟩ := G.free _ (List.mem_of_getElem? hfj)
        dsimp only at ha6 hr hslot
        replace hty : (y, ({ cls := .type "tuple", data := .seq #[.int (a : Int) ta, .int (r : Int) tr] } : Obj)) ∈ led₂ := hty
        clear F₈ N₈ T₂ mt
        refine unpackN_ F₉ N₉ (News.isTup N₉ hty) hh rfl rfl ?_
        intro h₁₀ F₁₀ N₁₀
        clear F₉ N₉ hty
        obtain ⟨nD, mD⟩ := H₃.dm
        have hbi : (as ++ [b])[hs.length]? = some b := snoc_last H₁.hl
        have ehi : (hs ++ [House.mk kd (x1 ++ x2) none none none])[hs.length]? = some ⟨kd, x1 ++ x2, none, none, none⟩ := snoc_last rfl
        obtain ⟨o, mb, k0, tk0, uk0, va, vl, vr, n0, rfl, _, hva, hvl, hvr⟩ := H₃.ho _ _ _ ehi hbi
        cases hva; cases hvl; cases hvr
        k_steps
        refine ⟨?_⟩
        refine item_led (by assumption) mD (v := .ref b) (ref_at hbi) (i0 _) (i6 hi6) ?_
        k_steps
        refine set_ledA (k := 2) (by assumption) (by assumption) mb (show 2 < 5 by decide) (by decide) ?_
        intro h₁₁ led₃ T₃ F₁₁ N₁₁
        with_reducible rename News _ _ _ led₂ => N₁₂
        have H₄ := H₃.change N₁₂ (h₁ := ⟨kd, x1 ++ x2, some a, none, none⟩) T₃.rest ehi hbi T₃.has ⟨0, _, _, _, _, _, _, rfl, rfl, ⟨_, rfl⟩, rfl, rfl⟩
        rw [set_snoc] at H₄
        have hK₃ : ∀ p ∈ ow ++ base, p ∈ led₃ := fun p hp => T₃.rest p (hK₂ p hp) (Nat.ne_of_lt (hKb p hp))
        clear F₁₀ N₁₀ N₁₂ T₃ mb mD H₃
        obtain ⟨nD, mD⟩ := H₄.dm
        have haa : a < as.length := by rw [H₁.hl]; exact ha6
        have hba : (as ++ [b])[a]? = some as[a] := (snoc_get haa).trans (List.getElem?_eq_getElem haa)
        have eha0 := List.getElem?_eq_getElem ha6
        have eha : (hs ++ [House.mk kd (x1 ++ x2) (some a) none none])[a]? = some hs[a] := (snoc_get ha6).trans eha0
        obtain ⟨o, mb, k0, tk0, uk0, va, vl, vr, n0, rfl, _, hva, hvl, hvr⟩ := H₄.ho _ _ _ eha hba
        generalize hs[a] = ha at eha0 eha hva hvl hvr mb
        obtain ⟨oy, hy⟩ := H.am (List.getElem_mem haa)
        have hKa : ∀ p ∈ ow ++ base, p.1 ≠ as[a] := hKne ⟨oy, hy⟩ (Nat.le_of_lt (Nat.lt_trans df (H₁.ag _ (List.getElem_mem haa))))
        generalize as[a] = ba at hba mb hKa
        have hslot := hslot ha eha0
        k_steps
        refine ⟨?_⟩
        refine item_led (by assumption) mD (v := .ref ba) (ref_at hba) (i0 _) (i6 (Nat.lt_trans ha6 hi6)) ?_
        k_steps
        with_reducible rename Fr _ _ _ _ => F₁₂
        with_reducible rename News _ _ _ _ => N₁₃
        have hgr := grow_next G hfj eha0 (kind := kd) (own := x1 ++ x2) hkd3 hown
        have lens : ∀ h₁ : House, ((hs ++ [House.mk kd (x1 ++ x2) (some a) none none]).set a h₁).length = hs.length + 1 := fun h₁ => by rw [List.length_set, List.length_append]; rfl
        have fin : ∀ (led₄ : List (Addr × Obj)) (o : Obj), LedTo ba o led₃ led₄ → HouseObj (setSlot ha r hs.length) o → HL D Fa ((hs ++ [House.mk kd (x1 ++ x2) (some a) none none]).set a (setSlot ha r hs.length)) (fr.eraseIdx j) (as ++ [b]) (fa.eraseIdx j) led₄ ∧ ∀ p ∈ ow ++ base, p ∈ led₄ :=
          fun led₄ o T₄ ho => ⟨H₄.change N₁₃ T₄.rest eha hba T₄.has ho, fun p hp => T₄.rest p (hK₃ p hp) (hKa p hp)⟩
        have hfe : (fa.eraseIdx j).length ≤ 1000 := Nat.le_trans (List.length_eraseIdx_le ..) hfa
        rcases hr with rfl | rfl
        · refine set_ledA (k := 3) F₁₂ N₁₃ mb (show 3 < 5 by decide) (by decide) ?_
          intro h₁₃ led₄ T₄ F₁₃ N₁₄
          obtain ⟨H₅, hK₄⟩ := fin led₄ _ T₄ ⟨0, _, _, _, _, _, _, rfl, rfl, hva, ⟨_, rfl⟩, hvr⟩
          clear F₁₂ N₁₃ fin T₄
          k_steps
          exact ⟨rfl, _, _, _, _, _, _, _, rfl, fr_K (by assumption) rfl rfl rfl rfl rfl, (by assumption), hgr, lens _, H₅, fun y hy => List.mem_of_mem_eraseIdx hy, hfe, hK₄⟩
        · refine set_ledA (k := 4) F₁₂ N₁₃ mb (show 4 < 5 by decide) (by decide) ?_
          intro h₁₃ led₄ T₄ F₁₃ N₁₄
          obtain ⟨H₅, hK₄⟩ := fin led₄ _ T₄ ⟨0, _, _, _, _, _, _, rfl, rfl, hva, hvl, ⟨_, rfl⟩⟩
          clear F₁₂ N₁₃ fin T₄
          k_steps
          exact ⟨rfl, _, _, _, _, _, _, _, rfl, fr_K (by assumption) rfl rfl rfl rfl rfl, (by assumption), hgr, lens _, H₅, fun y hy => List.mem_of_mem_eraseIdx hy, hfe, hK₄⟩
      · rename ¬ 0 < ((hs.length : Nat) : Int) => hpos
        have hn0 : hs.length = 0 := by omega
        have hfr := G.cnt
        rw [if_pos hn0] at hfr
        obtain rfl : hs = [] := List.length_eq_zero_iff.mp hn0
        obtain rfl : fr = [] := List.length_eq_zero_iff.mp hfr
        exact ⟨rfl, h₇, _, _, [], fa, led₁, _, rfl, fr_K F₈ rfl rfl rfl rfl rfl, N₈, grow_first hkd3 hown, rfl, H₂, fun y hy => hy, hfa, hK₁⟩
    case post =>
      rintro fl s' ⟨⟨rfl, h₉, tk₉, hs', fr', fa', led', G', rfl, F₉, N₉, G₉, hl₉, H₉, hfs, hfl, hK₉⟩⟩
      clear F₈ N₈
      obtain ⟨nF', mF'⟩ := H₉.fm
      have hKF : ∀ p ∈ ow ++ base, p.1 ≠ Fa := hKne (let ⟨n, e⟩ := H.fm; ⟨_, e⟩) (Nat.le_of_lt df)
      have hla : ∀ l : List Addr, l.length ≤ 1002 → (l.map Value.ref).toArray.size ≤ sizeLine := fun l hl => by rw [sizeLine_eq]; show (l.map Value.ref).length ≤ _; rw [List.length_map]; omega
      k_steps
      rename ∀ (p : Addr × Obj), p ∈ led' → p.1 < _ => hb2
      with_reducible rename Fr _ _ _ _ => F₁₀
      with_reducible rename News _ _ _ _ => N₁₀
      rename_i y3 h₁₀
      refine append_led F₁₀ N₁₀ (.tail _ mF') (hla _ (Nat.le_trans hfl (by decide))) ?_
      intro h₁₁ led₃ T₃ F₁₁ N₁₁
      have hy3 : Fa < y3 := hb2 _ mF'
      have H₁₀ := H₉.room (p := (hs.length, 3)) (fun p hp hne => T₃.rest p (.tail _ hp) hne) hb2 (T₃.rest _ (.head _) (Nat.ne_of_gt hy3)) T₃.has
      have hK₁₀ : ∀ p ∈ ow ++ base, p ∈ led₃ := fun p hp => T₃.rest p (.tail _ (hK₉ p hp)) (hKF p hp)
      clear F₁₀ N₁₀ T₃
      obtain ⟨nF2, mF2⟩ := H₁₀.fm
      k_steps
      rename ∀ (p : Addr × Obj), p ∈ led₃ → p.1 < _ => hb3
      with_reducible rename Fr _ _ _ _ => F₁₂
      with_reducible rename News _ _ _ _ => N₁₂
      rename_i y4 h₁₂
      refine append_led F₁₂ N₁₂ (.tail _ mF2) (hla _ (by rw [List.length_append]; exact Nat.succ_le_succ (Nat.le_trans hfl (by decide)))) ?_
      intro h₁₃ led₄ T₄ F₁₃ N₁₃
      have hy4 : Fa < y4 := hb3 _ mF2
      have H₁₁ := H₁₀.room (p := (hs.length, 4)) (fun p hp hne => T₄.rest p (.tail _ hp) hne) hb3 (T₄.rest _ (.head _) (Nat.ne_of_gt hy4)) T₄.has
      have hK₁₁ : ∀ p ∈ ow ++ base, p ∈ led₄ := fun p hp => T₄.rest p (.tail _ (hK₁₀ p hp)) (hKF p hp)
      clear F₁₂ N₁₂ T₄
      k_steps
      with_reducible rename Fr _ _ _ _ => F₁₄
      with_reducible rename News _ _ _ _ => N₁₄
      have new : ∀ x : Addr, (∀ p ∈ ow ++ base, p.1 < x) → x ≠ s.heap.objs.size ∧ x ≠ s.heap.objs.size + 1 := fun x hx =>
        ⟨fun e => let ⟨o, h⟩ := ho1; absurd (hx _ (List.mem_append_left _ h)) (by rw [e]; exact Nat.lt_irrefl _), fun e => let ⟨o, h⟩ := ho2; absurd (hx _ (List.mem_append_left _ h)) (by rw [e]; exact Nat.lt_irrefl _)⟩
      have old : ∀ x : Addr, (∃ o, (x, o) ∈ news₁) → x ≠ s.heap.objs.size ∧ x ≠ s.heap.objs.size + 1 := fun x ⟨o, hx⟩ => hoff _ hx
      have inF : ∀ p ∈ led₄, p.1 ≠ s.heap.objs.size ∧ p.1 ≠ s.heap.objs.size + 1 → p ∈ led₄.filter fun p => p.1 != s.heap.objs.size && p.1 != s.heap.objs.size + 1 := fun p hp hne => List.mem_filter.mpr ⟨hp, by rw [Bool.and_eq_true, bne_iff_ne, bne_iff_ne]; exact hne⟩
      refine ⟨_, _, _, led₄.filter fun p => p.1 != s.heap.objs.size && p.1 != s.heap.objs.size + 1, rfl, fr_E F₁₄ rfl rfl rfl rfl, fun p hp => N₁₄ p ?_, fun p hp hI => ?_, _, hs', _, _, _, rfl, List.append_assoc fr' _ _ ▸ G₉, hl₉, H₁₁.sub ?_ ?_ ?_ ?_, ?_⟩
      · rcases List.mem_append.mp hp with hp | hp
        · exact hK₁₁ p (List.mem_append_left _ hp)
        · exact (List.mem_filter.mp hp).1
      · have h1 := (List.mem_filter.mp hp).2
        rw [Bool.and_eq_true, bne_iff_ne, bne_iff_ne] at h1
        rcases List.mem_cons.mp hI with e | hI
        · exact h1.2 e
        · exact h1.1 (List.mem_singleton.mp hI)
      · exact fun o e => inF _ e (old D (let ⟨n, e⟩ := H.dm; ⟨_, e⟩))
      · exact fun o e => inF _ e (old Fa (let ⟨n, e⟩ := H.fm; ⟨_, e⟩))
      · intro x hx o e
        rcases List.mem_append.mp hx with hx | hx
        · exact inF _ e (old x (H.am hx))
        · rw [List.mem_singleton.mp hx] at e ⊢
          exact inF _ e (new b hKb)
      · intro x hx o e
        rcases List.mem_append.mp hx with hx | hx
        · rcases List.mem_append.mp hx with hx | hx
          · exact inF _ e (old x (H.tm (hfs x hx)))
          · rw [List.mem_singleton.mp hx] at e ⊢
            exact inF _ e (new y3 fun p hp => hb2 p (hK₉ p hp))
        · rw [List.mem_singleton.mp hx] at e ⊢
          exact inF _ e (new y4 fun p hp => hb3 p (hK₁₀ p hp))
      · exact fun p hp => inF _ (hK₁₁ p (List.mem_append_right _ hp)) (old p.1 ⟨p.2, hbase p hp⟩)
  case done =>
    rintro h₄ tk₄ m₁ news₁ F₄ N₄ hoff ⟨f, hs, fr, as, fa, rfl, G, hsi, H, hbase⟩
    clear F₂ N₂
    exact hret hs _ _ f _ G.wf (hsi.trans hcvs) H.hat hbase F₄ N₄
end Mine
end

section
open PySem PySem.W PyProof.Rows PySem.Calls
set_option maxRecDepth 100000
set_option Elab.async false
set_option linter.unusedVariables false
set_option maxHeartbeats 4000000
namespace Mine
noncomputable abbrev mC (C : Addr) (f : Str → Option Value) : Str → Option Value := fun y => if y = Str.ofString "cells" then some (.ref C) else f y
theorem fr_C {g h : Heap} {L C : Addr} {G : Str → Option Value} (F : Fr g L h G) (e1 : G (Str.ofString "cells") = some (.ref C)) : Fr g L h (mC C G) := by
  have e : mC C G = G := by
    funext y
    unfold mC
    by_cases a1 : y = Str.ofString "cells"
    · rw [if_pos a1, a1, e1]
    rw [if_neg a1]
  rw [e]; exact F
theorem fmod_9 (n : Int) : 0 ≤ n.fmod (10 ^ Int.toNat 9) ∧ n.fmod (10 ^ Int.toNat 9) ≤ 1000000000 := by
  rw [Int.fmod_eq_emod_of_nonneg _ (by decide)]
  have e : (10 : Int) ^ Int.toNat 9 = 1000000000 := by decide
  rw [e]
  omega
theorem cells_set {i k : Nat} {cs : List Int} {c z : Int} (h : CellsOk i cs) (hk : cs[k]? = some c) (hz : 0 ≤ z ∧ z ≤ 1000000000) : CellsOk (i + 1) (cs.set k (c + z)) := by
  refine ⟨by rw [List.length_set]; exact h.len, fun d hd => ?_⟩
  rcases List.mem_or_eq_of_mem_set hd with hd | rfl
  · have := h.le d hd; omega
  · have := h.le c (List.mem_of_getElem? hk); omega
theorem ints_set {c : Int} {t : Tok} : ∀ {vs : List Value} {cs : List Int}, IntsAre vs cs → ∀ k, IntsAre (vs.set k (.int c t)) (cs.set k c)
  | _, _, .nil, k => .nil
  | _, _, .cons z u r, 0 => .cons _ _ r
  | _, _, .cons z u r, k + 1 => .cons _ _ (ints_set r k)
theorem ints_at : ∀ {vs : List Value} {ns : List Int}, IntsAre vs ns → ∀ {i : Nat} {v : Value}, vs[i]? = some v → ∃ n t, v = .int n t
  | _, _, .nil, i, v, h => by simp at h
  | _, _, .cons n t r, 0, v, h => ⟨n, t, (Option.some.inj h).symm⟩
  | _, _, .cons n t r, i + 1, v, h => ints_at r h
theorem fmod_6 (i : Nat) : ∃ k : Nat, k < 6 ∧ ((i : Nat) : Int).fmod 6 = (k : Int) := ⟨i % 6, Nat.mod_lt _ (by decide), by rw [Int.fmod_eq_emod_of_nonneg _ (by decide)]; omega⟩
theorem cells_start {g h : Heap} {L C Sl : Addr} {ws : Array Value} {t0 t1 t2 t3 t4 t5 : Tok} {news : List (Addr × Obj)} {G : Str → Option Value} (F : Fr g L h G)
    (N : News g L h ((Sl, listOf ws 0) :: (C, listOf #[.int 537 t0, .int 584 t1, .int 979 t2, .int 1635 t3, .int 29 t4, .int 2085 t5] 0) :: news)) (e1 : G (Str.ofString "cells") = some (.ref C)) (q : ∀ p ∈ news, p.1 < C) (q2 : C < Sl ∧ AllLt Sl news) :
    ∃ C' Sl' cs cv f, Sl' = Sl ∧ CellsOk 0 cs ∧ IntsAre cv.toList cs ∧ C' < Sl' ∧ (∀ p ∈ news, p.1 < C') ∧ Fr g L h (mC C' f) ∧ News g L h ((Sl', listOf ws 0) :: (C', listOf cv 0) :: news) :=
  ⟨C, Sl, [537, 584, 979, 1635, 29, 2085], _, G, rfl, ⟨rfl, by decide⟩, .cons _ _ (.cons _ _ (.cons _ _ (.cons _ _ (.cons _ _ (.cons _ _ .nil))))), q2.1, q, fr_C F e1, N⟩
theorem cells_turn {g h : Heap} {L C Sl I : Addr} {oS oC : Obj} {vs : Array Value} {led led' ow news : List (Addr × Obj)} (T : LedTo C (listOf vs 0) led led') (hled : led = ow ++ (Sl, oS) :: (C, oC) :: news) (hCn : ∀ p ∈ news, p.1 ≠ C) (hCS : C < Sl)
    (hoff : ∀ p ∈ (Sl, oS) :: (C, oC) :: news, p.1 ≠ I ∧ p.1 ≠ I + 1) (hsub : ∀ p ∈ ow, p.1 = Sl ∨ p.1 = I ∨ p.1 = I + 1) (N : News g L h led') :
    News g L h (ow ++ (Sl, oS) :: (C, listOf vs 0) :: news) ∧ ∀ p ∈ (Sl, oS) :: (C, listOf vs 0) :: news, p.1 ∉ [I + 1, I] := by
  obtain ⟨i1, i2⟩ := hoff (C, oC) (.tail _ (.head _))
  refine ⟨fun p hp => N p ?_, fun p hp hI => ?_⟩
  · rcases List.mem_append.mp hp with hp | hp
    · refine T.rest p (by rw [hled]; exact List.mem_append_left _ hp) fun e => ?_
      rcases hsub p hp with h | h | h
      · exact Nat.lt_irrefl _ ((e.symm.trans h) ▸ hCS)
      · exact i1 (e.symm.trans h)
      · exact i2 (e.symm.trans h)
    · rcases List.mem_cons.mp hp with rfl | hp
      · exact T.rest _ (by rw [hled]; exact List.mem_append_right _ (.head _)) (Nat.ne_of_gt hCS)
      · rcases List.mem_cons.mp hp with rfl | hp
        · exact T.has
        · exact T.rest p (by rw [hled]; exact List.mem_append_right _ (.tail _ (.tail _ hp))) (hCn p hp)
  · have key : p.1 ≠ I ∧ p.1 ≠ I + 1 := by
      rcases List.mem_cons.mp hp with rfl | hp
      · exact hoff _ (.head _)
      · rcases List.mem_cons.mp hp with rfl | hp
        · exact ⟨i1, i2⟩
        · exact hoff p (.tail _ (.tail _ hp))
    rcases List.mem_cons.mp hI with e | hI
    · exact key.2 e
    · exact key.1 (List.mem_singleton.mp hI)
theorem cells_le {i : Nat} {cs : List Int} (h : CellsOk i cs) (hi : i ≤ 24) : CellsOk 24 cs := ⟨h.len, fun c hc => by have := h.le c hc; omega⟩
theorem signs_eq : sg16.map txt = [Str.ofString "", Str.ofString "\\", Str.ofString "\"", Str.ofString "&", Str.ofString "<", Str.ofString "\t", Str.ofString "\n", Str.ofString "\x0d", Str.ofString "\x7f", Str.ofString "\u00ad", Str.ofString "\ufe0f", Str.ofString "A", Str.ofString "\u00df", Str.ofString "\ufb03", Str.ofString "𝐀", Str.ofString "\u2109"] := by decide +kernel
theorem houses_start {g h : Heap} {L C S Sl D Fa : Addr} {oF oD oC oSl : Obj} {sv : Array Value} {news : List (Addr × Obj)} {G : Str → Option Value} (F : Fr g L h G) (N : News g L h ((Fa, oF) :: (D, oD) :: (S, listOf sv 0) :: (Sl, oSl) :: (C, oC) :: news)) (e1 : G (Str.ofString "cells") = some (.ref C)) (e2 : G (Str.ofString "signs") = some (.ref S)) (e3 : G (Str.ofString "houses") = some (.ref D)) (e4 : G (Str.ofString "free") = some (.ref Fa))
    (q1 : AllLt D ((S, listOf sv 0) :: (Sl, oSl) :: (C, oC) :: news)) (q2 : AllLt Fa ((D, oD) :: (S, listOf sv 0) :: (Sl, oSl) :: (C, oC) :: news)) :
    ∃ C' S' D' Fa' f base, C' = C ∧ S' = S ∧ (C, oC) ∈ base ∧ (S, listOf sv 0) ∈ base ∧ (∀ p ∈ news, p ∈ base) ∧ (∀ p ∈ base, p.1 < D') ∧ D' < Fa' ∧ Fr g L h (mE C' S' D' Fa' f) ∧ News g L h ((Fa', oF) :: (D', oD) :: base) :=
  ⟨C, S, D, Fa, G, _, rfl, rfl, .tail _ (.tail _ (.head _)), .head _, fun p hp => .tail _ (.tail _ (.tail _ hp)), lt_allLt q1, q2.1, fr_E F e1 e2 e3 e4, N⟩
/-- a ledger with one object told apart -/
theorem led_of {g h : Heap} {L : Addr} {led : List (Addr × Obj)} (N : News g L h led) : ∃ l, l = led ∧ News g L h l := ⟨_, rfl, N⟩
local macro_rules | `(tactic| walk_at "exec For Tuple Call") => `(tactic| (k_here; refine of_held ?_))
theorem houses_any {w : World} {mean : ExcName → Option Value} {mg mb : Str → Option Value}
    {dp un : Nat} {gd : Option (List Code)} {cn : Str} {cs : Scope} {a : Addr} {ccd : Value} {cl : List (Str × Addr)} {outer : List Env} {A₀ : Around} {base h₀ : Heap} {L : Addr} {m : Str → Option Value} {news : List (Addr × Obj)} {s : Shared} {Q E : Value → Shared → Prop}
    {l : Addr} {vs : List Value} {ns : List Int}
    (B : Below A₀ base outer h₀) (F : Fr h₀ L s.heap m) (X : (heapK w.params).In h₀) (N : News h₀ L s.heap news) (T : Top vwT (looseW vwT looseT) mean mg mb h₀) (hk : cs.kind = .function)
    (hd : dp + 20 < recursionLimit) (hu : un + 200 < cLine) (hl : h₀.IsList l vs.toArray) (hi : IntsAre vs ns) (hn : ns.length ≤ 63)
    (hret : ∀ hs D news' h' tk', WF hs → hs.length = 6 → HAt news' hs D → (∀ p ∈ news, p ∈ news') → Fr h₀ L h' m → News h₀ L h' news' → Q (.ref D) { s with heap := h', toks := tk' }) :
    wpAny (model Challenge.rw_un0048_01.row.prog w) (ktrTop dp un gd cn cs L a ccd cl outer) (call (.ref 273) [.ref l]) Q E s := by
  revert X; k_fill; intro X
  refine wpAny_call ?_
  k_dflt (refine' code_def ?k1 ?k2 ?k3 ?k4 ?k5 ?kA ?kF ?kK ?k6 ?k7 ?k8 ?k9 ?kB ?_ ?c2 ?c3 ?c4 ?c5; (case kA => exact rfl); (case kF => exact rfl); (case kK => assumption); (case k1 => k_asm); (case k2 => k_asm); (case k3 => k_asm); (case k4 => k_asm); (case k5 => k_asm); (case k6 => k_is); (case k7 => k_is); (case k8 => first | exact fits0 hd | ktr_room); (case k9 => first | exact BindsTo.of_eq rfl | exact binds_K (by k_in) rfl (by k_is) rfl rfl rfl); (case c5 => decide); (case kB => exact locs rfl); (case c2 => exact rfl); (case c3 => exact rfl); (case c4 => exact rfl); k_whole; intro g' L' h' FG' F' N' B' X' T'; (try dsimp only); (try k_fold))
  conv => arg 3; arg 1; whnf
  have hl' : g'.IsList l vs.toArray := hl.at fun o e => FG'.keep _ _ e
  k_steps
  refine ⟨?_⟩
  with_reducible rename Fr _ _ _ _ => F₁
  refine for_pairM F₁ rfl rfl rfl rfl ?_ (by intro _; rfl)
  k_steps
  with_reducible rename Fr _ _ _ _ => F₂
  with_reducible rename News _ _ _ _ => N₂
  with_reducible rename IntsAre _ _ => hI
  obtain ⟨C, Sl, cs0, cv0, f0, rfl, hok0, hcv0, hCS, hlt, F₃, N₃⟩ := cells_start F₂ N₂ rfl (by assumption) (by assumption)
  clear F₂ N₂
  have hCn : ∀ p ∈ news, p.1 ≠ C := fun p hp => Nat.ne_of_lt (hlt p hp)
  refine iterM_enumG (m₀ := _) (news := _) (fun i m₁ news₁ => ∃ f cs cv, m₁ = mC C f ∧ news₁ = (Sl, listOf _ 0) :: (C, listOf cv 0) :: news ∧ CellsOk i cs ∧ IntsAre cv.toList cs)
    rfl (News.isList N₃ (.head _)) (N₃ _ (.head _)).2.1 F₃ N₃ ⟨f0, cs0, cv0, rfl, rfl, hok0, hcv0⟩ ?turn ?done
  case turn =>
    rintro i t v m₁ news₁ h₄ tk₄ ow hv ⟨f, cs, cv, rfl, rfl, hok, hcv⟩ hoff hsub _ _ F₄ N₄
    clear F₃ N₃ hok0 hcv0
    obtain ⟨n, tn, rfl⟩ : ∃ n tn, v = .int n tn := by
      exact ints_at hI (i := i) (by simpa using hv)
    obtain ⟨k, hk6, hki⟩ := fmod_6 i
    obtain ⟨c, hc⟩ : ∃ c, cs[k]? = some c := ⟨_, List.getElem?_eq_getElem (hok.len ▸ hk6)⟩
    obtain ⟨tc, hget⟩ := hcv.get k c hc
    obtain ⟨led, hled, N₅⟩ := led_of N₄
    clear N₄
    have hCm : (C, listOf cv 0) ∈ led := by rw [hled]; exact List.mem_append_right _ (.tail _ (.head _))
    have hcvl : cv.toList.length = 6 := by rw [hcv.length, hok.len]
    k_steps
    rw [hki, Int.toNat_natCast, show cs.getD k 0 = c by rw [List.getD_eq_getElem?_getD, hc]; rfl]
    refine set_ledA (by assumption) (by assumption) hCm (by rw [hcvl]; exact hk6) hk6 ?_
    intro h₅ led₅ T₅ F₅ N₆
    k_steps
    with_reducible rename Fr _ _ _ _ => F₇
    with_reducible rename News _ _ _ _ => N₇
    obtain ⟨N₈, o8⟩ := cells_turn T₅ hled hCn hCS hoff hsub N₇
    exact ⟨_, _, _, _, rfl, fr_C F₇ rfl, N₈, o8, _, _, _, rfl, rfl, cells_set hok hc (fmod_9 n), ints_set hcv k⟩
  case done =>
    rintro h₄ tk₄ m₁ news₁ F₄ N₄ hoff ⟨f, cs, cv, rfl, rfl, hok, hcv⟩
    clear F₃ N₃ hok0 hcv0
    k_steps
    refine ⟨?_⟩
    with_reducible rename Fr _ _ _ _ => F₅
    with_reducible rename News _ _ _ _ => N₅
    obtain ⟨C', S', D', Fa', f', ledb, rfl, rfl, mCb, mSb, hnb, hbD, hDF, F₆, N₆⟩ := houses_start F₅ N₅ rfl rfl rfl rfl (by assumption) (by assumption)
    clear F₅ N₅
    refine houses_loop (by passes_own) rfl rfl F₆ N₆ (by assumption) (by assumption) mCb mSb hbD hDF (cells_le hok ?le) hcv ?sv ?hr
    case le =>
      rw [List.size_toArray, hI.length]
      rename (List.take 24 ns).length = _ => hC'
      omega
    case sv =>
      rw [signs_eq]
      exact .cons _ _ (.cons _ _ (.cons _ _ (.cons _ _ (.cons _ _ (.cons _ _ (.cons _ _ (.cons _ _ (.cons _ _ (.cons _ _ (.cons _ _ (.cons _ _ (.cons _ _ (.cons _ _ (.cons _ _ (.cons _ _ .nil)))))))))))))))
    case hr =>
      intro hs h₇ tk₇ f₇ led₇ W hn6 H hbase F₇ N₇
      clear F₆ N₆
      k_steps
      exact hret hs _ led₇ _ _ W hn6 H (fun p hp => hbase p (hnb p hp)) (by assumption) (by assumption)
end Mine
end

section
open PySem PySem.W PyProof.Rows PySem.Calls
set_option maxRecDepth 100000
set_option Elab.async false
set_option linter.unusedVariables false
set_option maxHeartbeats 4000000
namespace Mine
/-- what stands around the law -/
noncomputable abbrev lawA (dp un : Nat) (gd : Option (List Code)) : Around := { handled := none, depth := dp, frames := some [], guards := gd, units := un }
noncomputable abbrev lawC (L : Addr) : List (Str × Addr) := cellsFrom (L + 1) (fnScope [23]).names []
theorem not_cell {g h : Heap} {L c b : Addr} {o o' : Obj} {led : List (Addr × Obj)} {v : Option Value} {xs : Array Value} {n : Nat} (N : News g L h led) (hc : (c, o) ∈ led) (hd : o.data = .cell v) (hb : (b, o') ∈ led) (hb2 : o'.data = .seq xs n) : b ≠ c := by
  intro e
  subst e
  obtain rfl : o = o' := Option.some.inj ((N _ hc).1.symm.trans (N _ hb).1)
  rw [hb2] at hd
  cases hd
theorem HAt.to {g h : Heap} {L c D : Addr} {o o' : Obj} {led led' : List (Addr × Obj)} {hs : List House} {v : Option Value} (H : HAt led hs D) (N : News g L h led) (hc : (c, o) ∈ led) (hd : o.data = .cell v) (T : LedTo c o' led led') : HAt led' hs D := by
  obtain ⟨as, n, a, b, e⟩ := H.ex
  refine ⟨as, n, a, T.rest _ b (not_cell N hc hd b rfl), fun k hh x e1 e2 => ?_⟩
  obtain ⟨ob, m, z⟩ := e k hh x e1 e2
  obtain ⟨k0, t0, u0, va, vl, vr, n0, rfl, _⟩ := id z
  exact ⟨_, T.rest _ m (not_cell N hc hd m rfl), z⟩
section
variable {M : Model} {A : Around} {E : Value → Shared → Prop} {s : Shared} {h₀ : Heap} {L : Addr} {m : Str → Option Value} {led : List (Addr × Obj)} {cn : Str} {cs : Scope} {a c : Addr} {ccd v : Value} {cl : List (Str × Addr)} {x : Str} {o : Obj} {v₀ : Option Value} {Q : Unit → Shared → Prop}
theorem store_led (F : Fr h₀ L s.heap m) (N : News h₀ L s.heap led) (hc : cl.lookup x = some c) (hm : (c, o) ∈ led) (hd : o.data = .cell v₀)
    (h : ∀ h' o' led', LedTo c o' led led' → Fr h₀ L h' m → News h₀ L h' led' → o'.data = .cell (some v) → Q () { s with heap := h' })
    (hk : cs.kind = .function := by rfl) (hx : (envX cn cs L a ccd cl).kindOf x = some .cell := by rfl) : wpAny M A (storeName (envX cn cs L a ccd cl) x v) Q E s :=
  storeX_C F (pull N hm) hc (UpdF.head fun p hp => out_pull hp) hd (fun h' o' F' N' d' => h h' o' _ (led_to ..) F' N' d') hk hx
end
section
variable {prog : Program} {w : World} {A : Around} {E : Value → Shared → Prop} {s : Shared} {h₀ : Heap} {L : Addr} {m : Str → Option Value} {env : Env}
/-- the turns of a comprehension whose elements are texts, told by their place -/
theorem rest_told {elt : Expr} {x : Str} {scope : Scope} {cl : List (Str × Addr)} {P : Nat → Value → Prop} {Fin : List Value → List (Addr × Obj) → Prop} {news : List (Addr × Obj)} (g : Nat → Str) (n : Nat)
    (turn : ∀ i v I oI C oC D m₂ ys h tk (E' : Value → Shared → Prop), i < n → P i v → LCg.NsObj oC m₂ → m₂ x = some v → Fr h₀ L h m → News h₀ L h ((I, oI) :: (C, oC) :: (D, LCg.lst ys) :: news) → LCg.Off3 I C D news →
      wpAny (model prog w) A (eval elt (compEnvC scope cl C env)) (LCg.CompEnd h₀ L m { s with heap := h, toks := tk } I oI C oC D (LCg.lst ys) (fun _ => True) (fun y news' => news' = news ∧ ∃ t, y = .str (g i) t)) E' { s with heap := h, toks := tk })
    (fin : ∀ ys, StrsAre ys ((List.range n).map g) → Fin ys news) : LCg.CompRest prog w A h₀ L m env elt x scope cl s (fun _ => True) P Fin n 0 [] news := by
  have key : ∀ (j i : Nat) (ys : List Value), i + j = n → StrsAre ys ((List.range i).map g) → LCg.CompRest prog w A h₀ L m env elt x scope cl s (fun _ => True) P Fin j i ys news := by
    intro j
    induction j with
    | zero =>
      intro i ys hi hy
      obtain rfl : i = n := hi
      exact LCg.CompRest.zero (fin ys hy)
    | succ j ih =>
      intro i ys hi hy
      refine LCg.CompRest.succ ?_
      intro v I oI C oC D m₂ h tk E' hv hC hx F N off ne
      refine wpAny_mono (turn i v I oI C oC D m₂ ys h tk E' (by omega) hv hC hx F N off) (fun y s₃ hr => ?_) fun _ _ e => e
      obtain ⟨h', tk', nw, e, F', N', off', hS, rfl, t', rfl⟩ := hr
      refine ⟨h', tk', _, e, F', N', off', hS, ih (i + 1) _ (by omega) ?_⟩
      rw [List.range_succ, List.map_append]
      exact snocS hy
  exact key n 0 [] (Nat.zero_add _) .nil
theorem eq_strs {l b : Addr} {as bs : Array Value} {ys : List Str} {Q : Value → Shared → Prop} (hl : s.heap.IsList l as) (hb : s.heap.IsList b bs) (ha : StrsAre as.toList ys) (hbs : StrsAre bs.toList ys) (hu : A.units + 20 < cLine) (h : Q (.bool true) s) : wpAny (model prog w) A (compareOp .Eq (.ref l) (.ref b)) Q E s := by
  have e1 : as.size = ys.length := by rw [← Array.length_toList]; exact strs_len2 ha
  have e2 : bs.size = ys.length := by rw [← Array.length_toList]; exact strs_len2 hbs
  refine PySem.SeqAt.eq_listAt (e := fun _ => true) hl hb (e1.trans e2.symm) (by omega) ?_ (by rw [show (List.range as.size).all (fun _ => true) = true by simp]; exact h)
  intro j j1 j2
  have hj : j < ys.length := by omega
  obtain ⟨t, x1⟩ := strs_at ha (List.getElem?_eq_getElem hj)
  obtain ⟨u, x2⟩ := strs_at hbs (List.getElem?_eq_getElem hj)
  have y1 : as[j] = .str ys[j] t := by rw [Array.getElem?_toList, Array.getElem?_eq_getElem j1] at x1; exact Option.some.inj x1
  have y2 : bs[j] = .str ys[j] u := by rw [Array.getElem?_toList, Array.getElem?_eq_getElem j2] at x2; exact Option.some.inj x2
  rw [y1, y2]
  have := PySem.SeqAt.EqAt.str_str (A := A.in1) (s := s) ys[j] t ys[j] u
  rw [beq_self_eq_true] at this
  exact this
end
theorem built_all (hs : List House) : builtL hs 6 = (List.range 6).map fun k => txt (bt hs k) := rfl
local macro_rules | `(tactic| walk_at "eval Name") => `(tactic| (k_here; (with_reducible first | show wpAny _ _ (eval (Expr.Name (Str.ofString "houses") _) (compEnvC _ _ _ _)) _ _ _ | show wpAny _ _ (eval (Expr.Name (Str.ofString "refused") _) (compEnvC _ _ _ _)) _ _ _); refine of_held ?_))
local macro_rules | `(tactic| walk_at "CompSrc") => `(tactic| (k_here; refine of_held ?_))
theorem law_body {w : World} {mean : ExcName → Option Value} {mg mb : Str → Option Value} {dp un : Nat} {gd : Option (List Code)} {fa l : Addr} {cdv : Value} {h₀ : Heap} {L : Addr} {vs : List Value} {ns : List Int} {kvs : List (Int × Value)} {s : Shared} {Q : Flow → Shared → Prop} {E : Value → Shared → Prop} {o1 o2 : Obj}
    (B : Below (lawA dp un gd) h₀ [] h₀) (F : Fr h₀ L s.heap (fun x => if x = Str.ofString "script" then some (.ref l) else none)) (X : (heapK w.params).In h₀) (N : News h₀ L s.heap [(L + 1 + 1, o2), (L + 1, o1)]) (d1 : o1.data = .cell none) (d2 : o2.data = .cell none) (T : Top vwT (looseW vwT looseT) mean mg mb h₀)
    (hd : dp + 200 < recursionLimit) (hu : un + 1000 < cLine) (hl : h₀.IsList l vs.toArray) (hi : IntsAre vs ns) (hn : ns.length ≤ 63) (sv : IsSV kvs b3Items) (hB : h₀.DictOf (intKind Challenge.rw_un0048_01.row.prog w) 207 kvs)
    (hret : ∀ m h' tk', Fr h₀ L h' m → Q (.ret (.bool true)) { s with heap := h', toks := tk' }) :
    wpAny (model Challenge.rw_un0048_01.row.prog w) ((lawA dp un gd).deeper (envX (Str.ofString "law") (fnScope [23]) L fa cdv (lawC L))) (execs (fnBody [23]) (envX (Str.ofString "law") (fnScope [23]) L fa cdv (lawC L))) Q E s := by
  revert X; k_fill; intro X
  have e : lawC L = [(Str.ofString "refused", L + 1 + 1), (Str.ofString "houses", L + 1)] := rfl
  rw [e]
  conv => arg 3; arg 1; whnf
  k_steps
  refine houses_any B F X N T rfl ?_ ?_ hl hi hn ?_
  · first | exact fits_in hd (by decide) | ktr_room
  · first | exact fits3 hu (by decide) | ktr_units
  intro hs D led h₁ tk₁ W hn6 H hnb F₁ N₁
  clear F N
  have c1 := hnb _ (.head _)
  have c2 := hnb _ (.tail _ (.head _))
  k_steps
  refine store_led (by assumption) (by assumption) rfl c2 d1 ?_
  intro h₂ o1' led₂ T₂ F₂ N₂ d1'
  have H₂ := H.to N₁ c2 d1 T₂
  have c1₂ := T₂.rest _ c1 (Nat.ne_of_gt (Nat.lt_succ_self _))
  have c2₂ := T₂.has
  clear F₁ N₁ T₂ H c1 c2 hnb
  k_steps
  refine refused_any W hn6 B (by assumption) X (by assumption) T rfl ?_ ?_ H₂ ?_
  · first | exact fits_in hd (by decide) | ktr_room
  · first | exact fits3 hu (by decide) | ktr_units
  intro R rv rn h₃ tk₃ hR hri F₃ N₃
  k_steps
  refine store_led (by assumption) (by assumption) rfl (.tail _ c1₂) d2 ?_
  intro h₄ o2' led₄ T₄ F₄ N₄ d2'
  have H₄ := (H₂.sub fun p hp => .tail _ hp).to N₃ (.tail _ c1₂) d2 T₄
  have hR₄ : RAt led₄ hs R := ⟨rv.toList, rn, T₄.rest _ (.head _) (Nat.ne_of_gt (hR _ c1₂)), hri⟩
  have c2₄ := T₄.rest _ (.tail _ c2₂) (Nat.ne_of_lt (Nat.lt_succ_self _))
  have c1₄ := T₄.has
  clear F₃ N₃ T₄ F₂ N₂ H₂ c1₂ c2₂
  obtain ⟨as, n, hal, hDm, _⟩ := H₄.ex
  k_steps
  have hz : (as.map Value.ref).toArray.size = 6 := by simp [hal, hn6]
  refine call_len_list (News.isList (by assumption) hDm) (by rw [hz]; decide) ?_
  rw [hz]
  k_steps
  refine ⟨?_⟩
  rename IsRange _ _ _ _ _ _ _ _ => hrg
  have hsm : Builtin.Range.small 0 ((6 : Nat) : Int) 1 = true := by decide
  refine LCg.CompSrc.range rfl (by assumption) (by assumption) hrg hsm (by decide : Builtin.Range.rangeSize 0 ((6 : Nat) : Int) 1 = ((6 : Nat) : Int)) (by decide) fun g => rest_told (fun k => txt (bt hs k)) 6 ?turn ?fin
  case turn =>
    rintro i v I oI C oC Dc m₂ ys h₅ tk₅ E' hi6 ⟨tv, rfl⟩ hC hx F₅ N₅ off
    rw [Int.zero_add] at hx
    k_steps
    refine ⟨?_⟩
    refine lcf_cell (o := o1') (c := L + 1) (by assumption) rfl (.tail _ (.tail _ (.tail _ c2₄))) d1' ?_ (by rfl) (by rfl)
    k_steps
    refine ⟨?_⟩
    refine lcf_cell (o := o2') (c := L + 1 + 1) (by assumption) rfl (.tail _ (.tail _ (.tail _ c1₄))) d2' ?_ (by rfl) (by rfl)
    k_steps
    refine told_ok W hn6 6 (o := some i) (i := 0) (j := 0) (e := 0) (fold := false) (late := false) B (by assumption) X (by assumption) T rfl ?_ ?_ (fun q e => by cases e; exact ⟨hi6, by omega, by omega⟩) ⟨_, rfl⟩ (H₄.sub fun p hp => .tail _ (.tail _ (.tail _ hp))) (hR₄.sub fun p hp => .tail _ (.tail _ (.tail _ hp))) ?_
    · first | exact fits_in hd (by decide) | ktr_room
    · first | exact fits3 hu (by decide) | ktr_units
    intro t₆ h₆ tk₆ F₆ N₆
    rw [show dress 0 0 0 false false (optT hs (some i)) = bt hs i from dress_id _]
    exact LCg.CompEnd.intro F₆ N₆ led₄ (fun p h => h) off trivial ⟨rfl, _, rfl⟩
  case fin =>
    intro ys hys Dt h₇ tk₇ F₇ N₇ o7
    have c2₇ : (L + 1, o1') ∈ (Dt, LCg.lst ys) :: led₄ := .tail _ c2₄
    with_reducible rename News _ _ _ (_ :: _) => N₈
    clear hrg hsm hz
    dsimp only
    walk1
    walk1
    walk1
    walk1
    walk1
    walk1
    walk1
    walk1
    walk1
    walk1
    refine built_any W hn6 X T sv hB B (by assumption) X (by assumption) T rfl ?_ ?_ (H₄.sub fun p hp => .tail _ hp) ?_
    · first | exact fits_in hd (by decide) | ktr_room
    · first | exact fits3 hu (by decide) | ktr_units
    intro Rb bv bn h₈ tk₈ hRb hbs F₈ N₉
    clear F₇ N₈
    walk1
    refine eq_strs (ys := builtL hs 6) (News.isList (by assumption) (.head _)) (News.isList (by assumption) (.tail _ (.head _))) hbs (by rw [built_all]; exact hys) ?_ ?_
    · ktr_units
    exact hret _ _ _ F₈
end Mine
end

open PySem PySem.W PyProof.Rows PySem.Calls
set_option Elab.async false
set_option maxRecDepth 100000
set_option maxHeartbeats 8000000
-- the joined text must make no twin of the program (10 MB of compiled file)
local macro_rules | `(tactic| k_qdec) => `(tactic| decide +kernel)
-- the law
theorem PySem.Challenge.cw_un0048_01_holds : PySem.Challenge.rw_un0048_01.Holds := by
  w_on
  refine ⟨Mine.said, ?_⟩
  refine Mine.holds01 (by rfl) (by rfl) (by rfl) Mine.said_row (by decide +kernel) ⟨rfl, rfl, rfl, rfl, rfl, by decide +kernel⟩ ?hw ?call
  case hw => w_witness2
  case call =>
    k_fill
    intro w s₀ s₁ mg mb G Y fa o pm cd doc dV kV ho hd hcd hD hmg hg args vals as hpre hlay hrd hwl hlo
    have KX := Y.K
    have KB1 := Y.b1
    have KB3 := Y.b3
    k_behind G ho hd hcd hD hmg hpre hlay hrd hwl hlo cd
    obtain ⟨kvs, sv, hB⟩ := KB3
    with_reducible rename Fr _ _ _ _ => F
    with_reducible rename News _ _ _ _ => N
    with_reducible rename IntsAre _ _ => hi
    with_reducible rename Heap.IsList _ _ _ => hL
    with_reducible rename Top _ _ _ _ _ _ => T
    rename ¬ (_ : Int) < _ => hn
    have e1 : Mine.vw = Mine.vwT := by first | rfl | decide +kernel
    have e2 : Mine.looseV = Mine.looseT := by unfold Mine.looseV; rfl
    have T2 := T
    rw [e1, e2] at T2
    rename _ = Data.cell _ => d1
    replace d1 : _ = Data.cell none := d1
    revert d1
    rename _ = Data.cell _ => d2
    replace d2 : _ = Data.cell none := d2
    intro d1
    replace F : Fr s₁.heap s₁.heap.objs.size _ (fun x => if x = Str.ofString "script" then some (.ref _) else none) := F
    refine wpAny_mono (Mine.law_body (s := { s₁ with heap := _, toks := _ }) (mean := ExcName.means s₀.heap) (mg := mg) (mb := mb) (dp := 1 + claimMargin) (un := 4) (gd := some []) (Q := fun f s' => f = .ret (.bool true) ∧ ∃ m h' tk', Fr s₁.heap s₁.heap.objs.size h' m ∧ s' = { s₁ with heap := h', toks := tk' }) (E := fun _ _ => False) (below_caller _) F KX N d1 d2 ?T ?hd ?hu hL hi ?hn sv hB ?hret) ?post ?exc
    case T => exact T2
    case hd => decide
    case hu => decide +kernel
    case hn => omega
    case hret =>
      intro m h' tk' F'
      exact ⟨rfl, m, h', tk', F', rfl⟩
    case exc => exact fun _ _ h => h.elim
    case post =>
      rintro f s' ⟨rfl, m, h', tk', F', rfl⟩
      exact goodW_bool F' hg (fun cls => rfl) (by first | rfl | with_unfolding_all rfl | (simp; done))

