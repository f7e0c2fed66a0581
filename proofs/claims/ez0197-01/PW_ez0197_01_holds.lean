import PyProof.Rows.All
import Wide.All
import OpenK.AllK
import Wide.FinOn
import Lean
import PySem.Challenge.RW_ez0197_01
set_option Elab.async false
set_option maxRecDepth 1000000
set_option maxHeartbeats 0
set_option linter.unusedVariables false
set_option linter.unusedSimpArgs false
-- part S1
namespace Mine
open PySem PySem.W PyProof.Rows

theorem owner_set_iterator : Manifest.owners.lookup (String.ofList ['r', 'o', 't', 'a', 'r', 'e', 't', 'i', '_', 't', 'e', 's'].reverse) = some Manifest.sig_set_iterator := by kernel_rfl
theorem slot_set_iterator_next : Slot "set_iterator" "__next__" "set_iterator.__next__" :=
  .of (owner := "set_iterator") (n := "__next__") (by rw [typeLookup_type, builtinLookup_eq_fast]; kernel_rfl) (by decide +kernel) (by decide +kernel) (by decide +kernel)
    (by first | exact .inl (by decide +kernel) | exact .inr (by decide +kernel)) (by rw [isSubtype_type]; kernel_rfl)
theorem entry_set_iterator_next : entryFor table "set_iterator.__next__" = some Builtin.«set_iterator.__next__» := entryFor_of_tree (by kernel_rfl)
theorem args_set_iterator_next_1 (a : Value) : argsOk "set_iterator.__next__" ⟨[a], []⟩ := by
  unfold argsOk; rw [signature?_of (id := "set_iterator.__next__") (n := ['_', '_', 't', 'x', 'e', 'n', '_', '_']) (o := ['r', 'o', 't', 'a', 'r', 'e', 't', 'i', '_', 't', 'e', 's']) (by kernel_rfl) owner_set_iterator]; kernel_rfl
theorem slot_set_iterator_iter : Slot "set_iterator" "__iter__" "set_iterator.__iter__" :=
  .of (owner := "set_iterator") (n := "__iter__") (by rw [typeLookup_type, builtinLookup_eq_fast]; kernel_rfl) (by decide +kernel) (by decide +kernel) (by decide +kernel)
    (by first | exact .inl (by decide +kernel) | exact .inr (by decide +kernel)) (by rw [isSubtype_type]; kernel_rfl)
theorem entry_set_iterator_iter : entryFor table "set_iterator.__iter__" = some Builtin.«dict_keyiterator.__iter__» :=
  entryFor_alias (id' := "dict_keyiterator.__iter__") (by rw [fastTable_eq_tree]; kernel_rfl) rfl (by decide +kernel) (by rw [fastTable_eq_tree]; kernel_rfl)
theorem args_set_iterator_iter_1 (a : Value) : argsOk "set_iterator.__iter__" ⟨[a], []⟩ := by
  unfold argsOk; rw [signature?_of (id := "set_iterator.__iter__") (n := ['_', '_', 'r', 'e', 't', 'i', '_', '_']) (o := ['r', 'o', 't', 'a', 'r', 'e', 't', 'i', '_', 't', 'e', 's']) (by kernel_rfl) owner_set_iterator]; kernel_rfl
theorem entry_set_iter : entryFor table "set.__iter__" = some Builtin.«frozenset.__iter__» :=
  entryFor_alias (id' := "frozenset.__iter__") (by rw [fastTable_eq_tree]; kernel_rfl) rfl (by decide +kernel) (by rw [fastTable_eq_tree]; kernel_rfl)
end Mine

-- part S2
namespace Mine
open PySem PySem.W PyProof.Rows

/-- the table after one more -/
def addT (st : Array (Int × Value) × SetTable) (h : Int) (x : Value) : Array (Int × Value) × SetTable :=
  match layNew st.2 st.1 h x with
  | (es, t, wd, _) => if (!wd && t.tooFull) = true then ((relayAll t es (SetTable.grown es.size)).1, (relayAll t es (SetTable.grown es.size)).2.1) else (es, t)
def tbl (led : Bool) : List (Int × Value) → Array (Int × Value) × SetTable
  | [] => (#[], .fresh 0 0 led)
  | p :: l => addT (tbl led l) p.1 p.2

theorem map_insertAt {α β : Type} (f : α → β) (xs : Array α) (p : Nat) (x : α) : (SetTable.insertAt xs p x).map f = SetTable.insertAt (xs.map f) p (f x) := by
  simp [SetTable.insertAt]
theorem layNew_nat (t : SetTable) (es es' : Array (Int × Value)) (h : Int) (x x' : Value) (e : es.map (·.1) = es'.map (·.1)) :
    (layNew t es h x).1.map (·.1) = (layNew t es' h x').1.map (·.1) ∧ (layNew t es h x).2 = (layNew t es' h x').2 := by
  have hs : es.size = es'.size := by simpa using congrArg Array.size e
  unfold layNew
  cases t.freeSlot h with
  | none => simp [e, hs]
  | some q =>
    obtain ⟨slot, wd⟩ := q
    dsimp only
    have h1 : (SetTable.insertAt es (t.put slot).2 (h, x)).map (·.1) = (SetTable.insertAt es' (t.put slot).2 (h, x')).map (·.1) := by
      rw [map_insertAt, map_insertAt, e]
    have h2 : (SetTable.insertAt es (t.put slot).2 (h, x)).size = (SetTable.insertAt es' (t.put slot).2 (h, x')).size := by simpa using congrArg Array.size h1
    exact ⟨h1, by rw [h2]⟩
theorem relayAll_nat (t : SetTable) (es es' : Array (Int × Value)) (n : Nat) (e : es.map (·.1) = es'.map (·.1)) :
    (relayAll t es n).1.map (·.1) = (relayAll t es' n).1.map (·.1) ∧ (relayAll t es n).2 = (relayAll t es' n).2 := by
  have hs : es.size = es'.size := by simpa using congrArg Array.size e
  have hg : ∀ (order : Array Nat), (order.filterMap (es[·]?)).map (·.1) = (order.filterMap (es'[·]?)).map (·.1) := by
    intro order
    rw [Array.map_filterMap, Array.map_filterMap]
    congr 1
    funext i
    have := congrArg (fun a => a[i]?) e
    simpa using this
  unfold relayAll
  rw [e]
  cases t.relaid (es'.map (·.1)) n with
  | none => simp [e, hs]
  | some q =>
    obtain ⟨t', order⟩ := q
    dsimp only
    have h2 : (order.filterMap (es[·]?)).size = (order.filterMap (es'[·]?)).size := by simpa using congrArg Array.size (hg order)
    rw [h2, hs]
    split
    · exact ⟨hg order, rfl⟩
    · exact ⟨e, rfl⟩
theorem addT_nat (st st' : Array (Int × Value) × SetTable) (h : Int) (x x' : Value) (e : st.1.map (·.1) = st'.1.map (·.1)) (e2 : st.2 = st'.2) :
    (addT st h x).1.map (·.1) = (addT st' h x').1.map (·.1) ∧ (addT st h x).2 = (addT st' h x').2 := by
  obtain ⟨es, t⟩ := st
  obtain ⟨es', t'⟩ := st'
  cases e2
  unfold addT
  dsimp only at e ⊢
  obtain ⟨h1, h2⟩ := layNew_nat t es es' h x x' e
  generalize layNew t es h x = L at h1 h2 ⊢
  generalize layNew t es' h x' = L' at h1 h2 ⊢
  obtain ⟨a, b, c, d⟩ := L
  obtain ⟨a', b', c', d'⟩ := L'
  cases h2
  dsimp only at h1 ⊢
  have hs : a.size = a'.size := by simpa using congrArg Array.size h1
  split
  · rw [hs]
    obtain ⟨r1, r2⟩ := relayAll_nat b a a' (SetTable.grown a'.size) h1
    exact ⟨r1, by rw [r2]⟩
  · exact ⟨h1, rfl⟩
theorem tbl_nat (led : Bool) : ∀ (l l' : List (Int × Value)), l.map (·.1) = l'.map (·.1) → (tbl led l).1.map (·.1) = (tbl led l').1.map (·.1) ∧ (tbl led l).2 = (tbl led l').2
  | [], [], _ => ⟨rfl, rfl⟩
  | p :: l, q :: l', e => by
    simp only [List.map_cons, List.cons.injEq] at e
    have ih := tbl_nat led l l' e.2
    unfold tbl
    rw [e.1]
    exact addT_nat _ _ _ _ _ ih.1 ih.2
theorem addT_perm (st : Array (Int × Value) × SetTable) (h : Int) (x : Value) : (addT st h x).1.toList.Perm (st.1.push (h, x)).toList := by
  unfold addT
  have hp := layNew_perm st.2 st.1 h x
  generalize layNew st.2 st.1 h x = L at hp ⊢
  obtain ⟨a, b, c, d⟩ := L
  dsimp only at hp ⊢
  split
  · exact (relayAll_perm _ _ _).trans hp
  · exact hp
theorem addT_fits (st : Array (Int × Value) × SetTable) (h : Int) (x : Value) : (addT st h x).2.fits (addT st h x).1.size = true := by
  unfold addT
  have hp := layNew_fits st.2 st.1 h x
  generalize layNew st.2 st.1 h x = L at hp ⊢
  obtain ⟨a, b, c, d⟩ := L
  dsimp only at hp ⊢
  split
  · exact relayAll_fits _ _ _
  · exact hp
theorem tbl_perm (led : Bool) : ∀ l : List (Int × Value), (tbl led l).1.toList.Perm l
  | [] => List.Perm.refl _
  | p :: l => by
    unfold tbl
    refine (addT_perm _ _ _).trans ?_
    rw [Array.toList_push]
    exact (List.perm_append_singleton _ _).trans (List.Perm.cons _ (tbl_perm led l))
theorem tbl_fits (led : Bool) (l : List (Int × Value)) : (tbl led l).2.fits (tbl led l).1.size = true := by
  cases l with
  | nil => rfl
  | cons p l => unfold tbl; exact addT_fits _ _ _

section
variable {prog : Program} {w : World} {A : Around} {E : Value → Shared → Prop} {s : Shared}

def ledOf (w : World) : Bool := !w.params.followText "set-order"
def mkL : List Int → List Tok → List (Int × Value) := List.zipWith fun k t => (hashInt k, .int k t)
theorem mkL_mem : ∀ {l : List Int} {ts : List Tok} {e : Int × Value}, e ∈ mkL l ts → ∃ k t, k ∈ l ∧ e = (hashInt k, .int k t)
  | [], _, _, h => by simp [mkL] at h
  | k :: l, [], _, h => by simp [mkL] at h
  | k :: l, t :: ts, e, h => by
    simp only [mkL, List.zipWith_cons_cons, List.mem_cons] at h
    rcases h with rfl | h
    · exact ⟨k, t, by simp, rfl⟩
    · obtain ⟨k', t', hk, he⟩ := mkL_mem (l := l) (ts := ts) h
      exact ⟨k', t', by simp [hk], he⟩
theorem mkL_has : ∀ {l : List Int} {ts : List Tok} {k : Int}, ts.length = l.length → k ∈ l → ∃ t, (hashInt k, Value.int k t) ∈ mkL l ts
  | [], _, _, _, h => by simp at h
  | k :: l, [], _, e, _ => by simp at e
  | k' :: l, t :: ts, k, e, h => by
    rcases List.mem_cons.mp h with rfl | h
    · exact ⟨t, by simp [mkL]⟩
    · obtain ⟨t', h'⟩ := mkL_has (l := l) (ts := ts) (by simpa using e) h
      exact ⟨t', by simp only [mkL, List.zipWith_cons_cons, List.mem_cons]; exact .inr h'⟩
theorem mkL_fst : ∀ {l : List Int} {ts : List Tok}, ts.length = l.length → (mkL l ts).map (·.1) = l.map hashInt
  | [], ts, e => by simp [mkL]
  | k :: l, [], e => by simp at e
  | k :: l, t :: ts, e => by
    simp only [mkL, List.zipWith_cons_cons, List.map_cons]
    rw [← mkL_fst (l := l) (ts := ts) (by simpa using e)]
    rfl
variable (w) in
/-- a set made by adding the ints l, the last first -/
def MadeSet (h : Heap) (a : Addr) (l : List Int) : Prop :=
  l.Nodup ∧ l.length < 1000 ∧ ∃ o ep ts, ts.length = l.length ∧ h.get? a = some o ∧ o.ExactSet ∧ o.data = .set (tbl (ledOf w) (mkL l ts)).1 ep (tbl (ledOf w) (mkL l ts)).2

theorem scanBound_val : scanBound = 4096 := rfl
theorem tbl_facts (led : Bool) {l : List Int} {ts : List Tok} (e : ts.length = l.length) (hl : l.length < 1000) :
    ElemsOf (intKind prog w) (tbl led (mkL l ts)).1.toList ∧ (∀ k, decide (k ∈ l) = true ↔ ∃ x ∈ (tbl led (mkL l ts)).1.toList, (intKind prog w).is k x.2 = true) ∧ (tbl led (mkL l ts)).1.size < scanBound ∧ (tbl led (mkL l ts)).1.size = l.length := by
  have hp := tbl_perm led (mkL l ts)
  have hz : (tbl led (mkL l ts)).1.size = l.length := by
    rw [← Array.length_toList, hp.length_eq]; simp [mkL, e]
  refine ⟨fun x hx => ?_, fun k => ?_, by rw [hz, scanBound_val]; omega, hz⟩
  · obtain ⟨k, t, hk, rfl⟩ := mkL_mem (hp.mem_iff.mp hx)
    exact ⟨⟨k, intKind_is _ _ _ _, rfl⟩, rfl⟩
  · rw [decide_eq_true_eq]
    constructor
    · intro hk
      obtain ⟨t, ht⟩ := mkL_has e hk
      exact ⟨_, hp.mem_iff.mpr ht, intKind_is _ _ _ _⟩
    · rintro ⟨x, hx, hi⟩
      obtain ⟨k', t, hk, rfl⟩ := mkL_mem (hp.mem_iff.mp hx)
      have := (intKind prog w).inj _ k k' hi (intKind_is _ _ _ _)
      rw [this]; exact hk
theorem MadeSet.setOf {h : Heap} {a : Addr} {l : List Int} (m : MadeSet w h a l) : h.SetOf (intKind prog w) a (fun k => decide (k ∈ l)) l.length := by
  obtain ⟨_, hl, o, ep, ts, e, ho, hex, hd⟩ := m
  obtain ⟨h1, h2, h3, h4⟩ := tbl_facts (prog := prog) (w := w) (ledOf w) e hl
  exact ⟨o, _, ep, _, ho, hex, hd, h1, h2, h3, tbl_fits _ _, h4⟩

theorem made_new {Q : Value → Shared → Prop} (h : ∀ o, MadeSet w (s.heap.push o) s.heap.objs.size [] → Q (.ref s.heap.objs.size) { s with heap := s.heap.push o }) : wpAny (model prog w) A (newSet (.type "set")) Q E s := by
  unfold newSet setsByText
  refine wpAny_bind (wpAny_bind (wpAny_askSetting (wpAny_pure ?_)))
  dsimp only
  simp only [newObj]
  refine wpAny_bind (wpAny_alloc (wpAny_pure (h _ ⟨List.nodup_nil, by decide, _, 0, [], rfl, Heap.get?_push_size _ rfl, ⟨rfl, rfl, rfl⟩, rfl⟩)))

theorem addTail_exact {g : Bool → Sem Unit} (hg : ∀ (b : Bool) (s₁ : Shared) (Q' : Unit → Shared → Prop), Q' () s₁ → wpAny (model prog w) A (g b) Q' E s₁)
    {a : Addr} {o : Obj} {es : Array (Int × Value)} {ep : Nat} {t : SetTable} (ho : s.heap.get? a = some o) (hex : o.ExactSet) (hd : o.data = .set es ep t)
    {es1 : Array (Int × Value)} {t2 : SetTable} (hb1 : es1.size < scanBound) {wasDummy : Bool} {R : Option Bool → Shared → Prop}
    (h : ∀ h' o' ep', Heap.SameBut a s.heap h' → h'.get? a = some o' → o'.ExactSet →
      o'.data = .set (if (!wasDummy && t2.tooFull) = true then ((relayAll t2 es1 (SetTable.grown es1.size)).1, (relayAll t2 es1 (SetTable.grown es1.size)).2.1) else (es1, t2)).1 ep' (if (!wasDummy && t2.tooFull) = true then ((relayAll t2 es1 (SetTable.grown es1.size)).1, (relayAll t2 es1 (SetTable.grown es1.size)).2.1) else (es1, t2)).2 → R (some true) { s with heap := h' }) :
    wpAny (model prog w) A (do
        storeSet a es1 t2
        if (!wasDummy && t2.tooFull) = true then do
            g (relayAll t2 es1 (SetTable.grown es1.size)).2.2
            storeSet a (relayAll t2 es1 (SetTable.grown es1.size)).1 (relayAll t2 es1 (SetTable.grown es1.size)).2.1
            pure (some true)
          else pure (some true)) R E s := by
  have put : ∀ {h : Heap} {o : Obj} {es : Array (Int × Value)} {ep : Nat} {t : SetTable} (es' : Array (Int × Value)) (t' : SetTable), h.get? a = some o → o.data = .set es ep t → (h.update a (Obj.putSet es' t')).get? a = some { o with data := .set es' (ep + 1) t' } := by
    intro h o es ep t es' t' ho hd
    have := Heap.get?_update_self (Obj.putSet es' t') ho (by rw [putSet_of es' t' hd]; rfl)
    rw [putSet_of es' t' hd] at this; exact this
  refine wpAny_bind (wpAny_storeSet_of ho hd ?_ (fits_of_scanBound hb1))
  have ho1 := put es1 t2 ho hd
  have hsb1 := Heap.SameBut.update s.heap a (Obj.putSet es1 t2)
  by_cases hc : (!wasDummy && t2.tooFull) = true
  · simp only [if_pos hc] at h ⊢
    have hp := relayAll_perm t2 es1 (SetTable.grown es1.size)
    have hsz : (relayAll t2 es1 (SetTable.grown es1.size)).1.size = es1.size := by rw [← Array.length_toList, hp.length_eq, Array.length_toList]
    refine wpAny_bind (hg _ _ _ ?_)
    refine wpAny_bind (wpAny_storeSet_of ho1 rfl ?_ (fits_of_scanBound (by rw [hsz]; exact hb1)))
    exact wpAny_pure (h _ _ _ (hsb1.trans (Heap.SameBut.update _ a _)) (put _ _ ho1 rfl) hex rfl)
  · simp only [if_neg hc] at h ⊢
    exact wpAny_pure (h _ _ _ hsb1 ho1 hex rfl)

theorem made_add {a : Addr} {l : List Int} {k : Int} {u : Tok} {Q : Value → Shared → Prop} (m : MadeSet w s.heap a l) (hl : l.length + 1 < 1000)
    (h : ∀ h', Heap.SameBut a s.heap h' → MadeSet w h' a (if l.contains k then l else k :: l) → Q .none { s with heap := h', toks := s.toks + 1 }) :
    wpAny (model prog w) A (call (.builtin "set.add") [.ref a, .int k u]) Q E s := by
  have hS := m.setOf (prog := prog)
  refine wpAny_call_entry F.slot_set_add hS.typeIs F.entry_set_add ?_ (F.args_set_add_2 _ _)
  unfold Builtin.«set.add» Builtin.Frozenset.oneOther
  simp only [List.isEmpty_nil, bind_assoc]
  unfold Builtin.Frozenset.addrOf setAdd
  refine wpAny_bind (wpAny_pure ?_)
  try dsimp only
  refine wpAny_bind (wpAny_pure ?_)
  try dsimp only
  refine wpAny_bind ?_
  refine wpAny_holding ?_
  refine wpAny_bind ((intKind prog w).pyHash (intKind_is _ _ k u) ?_)
  obtain ⟨hnd, hl1, o, ep, ts, e, ho, hex, hd⟩ := m
  obtain ⟨hel, hmem, hb, hz⟩ := tbl_facts (prog := prog) (w := w) (ledOf w) e hl1
  have hf := tbl_fits (ledOf w) (mkL l ts)
  have hkey := intKind_is prog w k u
  have hend : ∀ h', Heap.SameBut a s.heap h' → MadeSet w h' a (if l.contains k then l else k :: l) → wpAny (model prog w) A.in1 (ret Value.none) (fun fin s' => ∃ r, fin = .done (.ret r) ∧ Q r s') E { s with heap := h', toks := s.toks + 1 } :=
    fun h' hsb hm => wpAny_pure ⟨_, rfl, h h' hsb hm⟩
  unfold setAddHashed setAddHashedIn
  refine wpAny_holding (wpAny_bind (wpAny_setState_of ho hd hf ?_))
  dsimp only
  rw [byScan_of (knd := intKind prog w) rfl hb hel]
  simp only [↓reduceIte]
  unfold setAddByScan
  refine wpAny_bind ?_
  refine wpAny_bind (wpAny_rule ?_)
  refine wpAny_bind (wpAny_setScan_of (knd := intKind prog w) hkey ho hd hf hel ?_)
  cases hr : List.findIdx? (fun e => (intKind prog w).is k e.2) (tbl (ledOf w) (mkL l ts)).1.toList with
  | some j =>
    dsimp only
    obtain ⟨hj, hpj, _⟩ := List.findIdx?_eq_some_iff_getElem.mp hr
    have hSk : k ∈ l := by
      have := (hmem k).mpr ⟨(tbl (ledOf w) (mkL l ts)).1.toList[j], List.getElem_mem hj, hpj⟩
      simpa using this
    refine wpAny_pure (wpAny_pure ?_)
    have := hend s.heap (Heap.SameBut.refl a s.heap) (by rw [if_pos (by simpa using hSk)]; exact ⟨hnd, hl1, o, ep, ts, e, ho, hex, hd⟩)
    exact this
  | none =>
    dsimp only
    have hSk : k ∉ l := by
      intro hk
      obtain ⟨x, hx, hp⟩ := (hmem k).mp (by simpa using hk)
      have := List.findIdx?_eq_none_iff.mp hr x hx; rw [hp] at this; exact Bool.noConfusion this
    have hgw : ∀ (b : Bool) {s₁ : Shared} {Q' : Unit → Shared → Prop}, Q' () s₁ → wpAny (model prog w) A.in1 (match b with | true => rule "set.scan.the-table-gave-way" | false => pure ()) Q' E s₁ :=
      fun b s₁ Q' hq => by cases b <;> first | exact wpAny_pure hq | exact wpAny_rule hq
    have hperm := layNew_perm (tbl (ledOf w) (mkL l ts)).2 (tbl (ledOf w) (mkL l ts)).1 (hashInt k) (.int k u)
    have hmade : ∀ h' o' ep', Heap.SameBut a s.heap h' → h'.get? a = some o' → o'.ExactSet → o'.data = .set (addT (tbl (ledOf w) (mkL l ts)) (hashInt k) (.int k u)).1 ep' (addT (tbl (ledOf w) (mkL l ts)) (hashInt k) (.int k u)).2 →
        MadeSet w h' a (if l.contains k then l else k :: l) := by
      intro h' o' ep' _ ho' hex' hd'
      rw [if_neg (by simpa using hSk)]
      exact ⟨List.nodup_cons.mpr ⟨hSk, hnd⟩, by simpa using hl, o', ep', u :: ts, by simp [e], ho', hex', hd'⟩
    unfold addT at hmade
    rw [show (intKind prog w).hash k = hashInt k from rfl]
    generalize hL : layNew (tbl (ledOf w) (mkL l ts)).2 (tbl (ledOf w) (mkL l ts)).1 (hashInt k) (.int k u) = L at hperm hmade ⊢
    obtain ⟨es1, t1, wasDummy, gave⟩ := L
    dsimp only at hperm hmade ⊢
    rw [Array.toList_push] at hperm
    have hb1' : es1.size < scanBound := by rw [← Array.length_toList, hperm.length_eq, List.length_append, Array.length_toList, hz, scanBound_val]; simp; omega
    refine wpAny_bind (hgw _ ?_)
    have fin : ∀ (s₁ : Shared), s₁ = { s with toks := s.toks + 1 } → wpAny (model prog w) A.in1 (do
        storeSet a es1 t1
        if (!wasDummy && t1.tooFull) = true then do
            (match (relayAll t1 es1 (SetTable.grown es1.size)).2.2 with | true => rule "set.scan.the-table-gave-way" | false => pure ())
            storeSet a (relayAll t1 es1 (SetTable.grown es1.size)).1 (relayAll t1 es1 (SetTable.grown es1.size)).2.1
            pure (some true)
          else pure (some true)) (fun r s' => wpAny (model prog w) A.in1 (match r with | some added => pure added | none => setAddHashedIn a (.int k u) (hashInt k) 99999) (fun _ s'' => wpAny (model prog w) A.in1 (ret Value.none) (fun fin s' => ∃ r, fin = .done (.ret r) ∧ Q r s') E s'') E s') E s₁ := by
      rintro s₁ rfl
      refine addTail_exact (g := fun b => match b with | true => rule "set.scan.the-table-gave-way" | false => pure ()) (fun b s₁ Q' hq => hgw b hq) (s := { s with toks := s.toks + 1 }) ho hex hd hb1' fun h' o' ep' hsb ho' hex' hd' => ?_
      refine wpAny_pure (hend h' hsb (hmade h' o' ep' hsb ho' hex' ?_))
      exact hd'
    split
    · refine wpAny_bind ?_
      rw [hashByValue_scannable 8 (x := .int k u) rfl]
      refine wpAny_pure ?_
      simp only [plainKind, ↓reduceIte]
      exact fin _ rfl
    · refine wpAny_bind (wpAny_pure ?_)
      exact fin _ rfl
end
end Mine

-- part S3
namespace Mine
open PySem PySem.W PyProof.Rows

theorem eraseIdx_perm {α : Type} : ∀ (l : List α) (i : Nat) (x : α), l[i]? = some x → (x :: l.eraseIdx i).Perm l
  | [], i, x, h => by simp at h
  | y :: l, 0, x, h => by simp at h; subst h; simp
  | y :: l, i + 1, x, h => by
    simp at h
    rw [List.eraseIdx_cons_succ]
    exact (List.Perm.swap y x _).trans (List.Perm.cons y (eraseIdx_perm l i x h))
theorem pickOrder_go {α : Type} (next : Nat → Nat) : ∀ (fuel k : Nat) (left : List α) (out : Array α), left.length ≤ fuel → (pickOrder.go next fuel k left out).toList.Perm (out.toList ++ left)
  | 0, k, left, out, h => by
    have : left = [] := List.length_eq_zero_iff.mp (Nat.le_zero.mp h)
    subst this
    unfold pickOrder.go
    simp
  | fuel + 1, k, left, out, h => by
    unfold pickOrder.go
    cases hx : left[next k % left.length]? with
    | none =>
      have : left.length ≤ next k % left.length := List.getElem?_eq_none_iff.mp hx
      have h0 : left = [] := by
        cases left with
        | nil => rfl
        | cons y l => exact absurd (Nat.mod_lt (next k) (by simp : 0 < (y :: l).length)) (Nat.not_lt.mpr this)
      subst h0
      simp
    | some x =>
      dsimp only
      have hp := eraseIdx_perm left _ x hx
      have hlen : (left.eraseIdx (next k % left.length)).length ≤ fuel := by
        have := hp.length_eq
        simp at this
        omega
      refine (pickOrder_go next fuel (k + 1) _ (out.push x) hlen).trans ?_
      rw [Array.toList_push, List.append_assoc]
      exact List.Perm.append_left _ hp
theorem pickOrder_perm {α : Type} (next : Nat → Nat) (xs : Array α) : (pickOrder next xs).toList.Perm xs.toList := by
  unfold pickOrder
  exact (pickOrder_go next xs.size 0 xs.toList #[] (by simp)).trans (by simp)

def slotAt (t : SetTable) (i : Nat) : Nat := if i = 0 then 0 else t.place.getD (i - 1) 0 + 1
def fineT (t : SetTable) (n : Nat) : Bool := t.led && t.plain && (List.range (n + 1)).all fun i => SetTable.below t.place (slotAt t i) == i
def tblH (l : List Int) : SetTable := (tbl true (l.map fun k => (hashInt k, .none))).2
def setFine (l : List Int) : Bool := fineT (tblH l) l.length

section
variable (prog : Program) (w : World) (a : Addr)
structure SetWalk (es : Array (Int × Value)) (ep : Nat) (t : SetTable) (sl : Nat → Nat) (xs : List Value) : Prop where
  undrawn : ∀ (A : Around) (E : Value → Shared → Prop) (s : Shared) (Q : Bool → Shared → Prop) o, s.heap.get? a = some o → o.data = .set es ep t → Q false s → wpAny (model prog w) A (setDrawn a) Q E s
  next : ∀ (i : Nat) (A : Around) (E : Value → Shared → Prop) (s : Shared) (Q : Option (Value × Nat) → Shared → Prop) o, s.heap.get? a = some o → o.data = .set es ep t → i ≤ es.size →
    Q ((xs[i]?).map fun v => (v, sl (i + 1))) s → wpAny (model prog w) A (setNext a (sl i) i ep) Q E s
variable {prog w a}
theorem byText_ok {A : Around} {E : Value → Shared → Prop} {s : Shared} {Q : Bool → Shared → Prop} (h : Q (w.params.followText "set-order") s) : wpAny (model prog w) A setsByText Q E s := by
  unfold setsByText
  exact wpAny_bind (wpAny_askSetting (wpAny_pure h))

theorem setWalk_ok {h : Heap} {l : List Int} (m : MadeSet w h a l) (fine : setFine l = true) :
    ∃ es ep t sl xs o, h.get? a = some o ∧ o.ExactSet ∧ o.data = .set es ep t ∧ t.fits es.size = true ∧ es.size = l.length ∧ sl 0 = 0 ∧ (∃ l' : List Int, l'.Perm l ∧ xs.length = l'.length ∧ ∀ (i : Nat) (k : Int), l'[i]? = some k → ∃ t, xs[i]? = some (.int k t)) ∧ SetWalk prog w a es ep t sl xs := by
  obtain ⟨hnd, hl, o, ep, ts, e, ho, hex, hd⟩ := m
  obtain ⟨hel, hmem, hb, hz⟩ := tbl_facts (prog := prog) (w := w) (ledOf w) e hl
  have hf := tbl_fits (ledOf w) (mkL l ts)
  have hp := tbl_perm (ledOf w) (mkL l ts)
  have hT : (tbl (ledOf w) (mkL l ts)).2 = (tbl (ledOf w) (l.map fun k => (hashInt k, .none))).2 := (tbl_nat (ledOf w) _ _ (by rw [mkL_fst e]; simp)).2
  have asInts : ∀ ys : List (Int × Value), ys.Perm (mkL l ts) → ∃ l' : List Int, l'.Perm l ∧ (ys.map (·.2)).length = l'.length ∧ ∀ (i : Nat) (k : Int), l'[i]? = some k → ∃ t, (ys.map (·.2))[i]? = some (.int k t) := by
    intro ys hy
    have key : ∀ (x : Int × Value), x ∈ mkL l ts → ∃ t, x.2 = .int ((match x.2 with | .int k _ => k | _ => 0)) t := by
      intro x hx
      obtain ⟨k, t, _, rfl⟩ := mkL_mem hx
      exact ⟨t, rfl⟩
    refine ⟨ys.map fun x => (match x.2 with | .int k _ => k | _ => 0), ?_, by simp, ?_⟩
    · have h1 := hy.map (fun x : Int × Value => (match x.2 with | .int k _ => k | _ => 0))
      have h2 : (mkL l ts).map (fun x : Int × Value => (match x.2 with | .int k _ => k | _ => 0)) = l := by
        clear hy hp hT hf hel hmem hb hz hd hnd hl h1 key fine
        induction l generalizing ts with
        | nil => simp [mkL]
        | cons k l ih =>
          cases ts with
          | nil => simp at e
          | cons t ts =>
            simp only [mkL, List.zipWith_cons_cons, List.map_cons, List.cons.injEq, true_and]
            exact ih _ (by simpa using e)
      rw [h2] at h1; exact h1
    · intro i k hi
      rw [List.getElem?_map] at hi ⊢
      cases hx : ys[i]? with
      | none => rw [hx] at hi; cases hi
      | some x =>
        rw [hx] at hi
        obtain ⟨t, ht⟩ := key x (hy.mem_iff.mp (List.mem_of_getElem? hx))
        simp only [Option.map_some, Option.some.injEq] at hi ⊢
        exact ⟨t, by rw [ht, hi]⟩
  generalize hes : (tbl (ledOf w) (mkL l ts)).1 = es at *
  generalize ht : (tbl (ledOf w) (mkL l ts)).2 = t at *
  cases hbt : w.params.followText "set-order" with
  | true =>
    refine ⟨es, ep, t, fun _ => 0, (pickOrder (w.params.setOrder a ep) es).toList.map (·.2), o, ho, hex, hd, hf, hz, rfl, asInts _ ((pickOrder_perm _ _).trans hp), ⟨?_, ?_⟩⟩
    · intro A E s Q o ho hd hQ
      unfold setDrawn
      refine wpAny_bind (wpAny_setState_of ho hd hf ?_)
      dsimp only
      refine wpAny_bind (byText_ok ?_)
      rw [hbt]
      exact wpAny_pure hQ
    · intro i A E s Q o ho hd hi hQ
      unfold setNext
      refine wpAny_bind (wpAny_setState_of ho hd hf ?_)
      dsimp only
      refine wpAny_bind (byText_ok ?_)
      rw [hbt]
      simp only [if_true]
      rw [if_neg (by simp)]
      refine wpAny_bind ?_
      unfold setWalk
      refine wpAny_bind (wpAny_setState_of ho hd hf ?_)
      dsimp only
      refine wpAny_bind (byText_ok ?_)
      rw [hbt]
      simp only [if_true]
      refine wpAny_bind (wpAny_askSetting (wpAny_pure (wpAny_pure ?_)))
      have : (Option.map (fun e => (e.2, 0)) (pickOrder (w.params.setOrder a ep) es)[i]?) = (((pickOrder (w.params.setOrder a ep) es).toList.map (·.2))[i]?).map fun v => (v, 0) := by
        rw [List.getElem?_map, Option.map_map, Array.getElem?_toList]; rfl
      rw [← this] at hQ
      exact hQ
  | false =>
    have hled : ledOf w = true := by unfold ledOf; rw [hbt]; rfl
    rw [hled] at hT
    have hfine : fineT t es.size = true := by rw [hT, hz]; exact fine
    unfold fineT at hfine
    simp only [Bool.and_eq_true, List.all_eq_true, List.mem_range, beq_iff_eq] at hfine
    obtain ⟨⟨hl1, hpl⟩, hbel⟩ := hfine
    have hps : t.place.size = es.size := by
      simp only [SetTable.fits, Bool.and_eq_true, beq_iff_eq] at hf
      exact hf.1
    refine ⟨es, ep, t, slotAt t, es.toList.map (·.2), o, ho, hex, hd, hf, hz, rfl, asInts _ hp, ⟨?_, ?_⟩⟩
    · intro A E s Q o ho hd hQ
      unfold setDrawn
      refine wpAny_bind (wpAny_setState_of ho hd hf ?_)
      dsimp only
      refine wpAny_bind (byText_ok ?_)
      rw [hbt]
      refine wpAny_pure ?_
      have e1 : (!false && (!t.plain && decide (es.size > 1))) = false := by rw [hpl]; rfl
      show Q (!false && (!t.plain && decide (es.size > 1))) s
      rw [e1]; exact hQ
    · intro i A E s Q o ho hd hi hQ
      unfold setNext
      refine wpAny_bind (wpAny_setState_of ho hd hf ?_)
      dsimp only
      refine wpAny_bind (byText_ok ?_)
      rw [hbt]
      simp only [Bool.false_eq_true, if_false]
      show wpAny _ _ (if (!t.plain && decide (es.size > 1)) = true then _ else _) _ _ _
      rw [if_neg (by rw [hpl]; simp)]
      refine wpAny_bind ?_
      show wpAny _ _ (if (!t.led && !es.isEmpty) = true then _ else _) _ _ _
      rw [if_neg (by rw [hl1]; simp)]
      refine wpAny_pure (wpAny_pure ?_)
      rw [hbel i (by omega)]
      rcases Nat.lt_or_ge i es.size with hlt | hge
      · have h1 : es[i]? = some es[i] := Array.getElem?_eq_getElem hlt
        have h2 : t.place[i]? = some t.place[i] := Array.getElem?_eq_getElem (by omega)
        rw [h1, h2]
        rw [List.getElem?_map, Array.getElem?_toList, h1] at hQ
        have h3 : slotAt t (i + 1) = t.place[i] + 1 := by
          unfold slotAt
          rw [if_neg (by omega), Nat.add_sub_cancel, Array.getD_eq_getD_getElem?, h2]
          rfl
        rw [h3] at hQ
        exact hQ
      · have h1 : es[i]? = none := Array.getElem?_eq_none hge
        rw [h1]
        rw [List.getElem?_map, Array.getElem?_toList, h1] at hQ
        exact hQ
end
end Mine

-- part S4
namespace Mine
open PySem PySem.W PyProof.Rows

def IsSetIter (h : Heap) (I a : Addr) (slot i n ep : Nat) : Prop := ∃ o, h.get? I = some o ∧ o.cls = .type "set_iterator" ∧ o.data = .fields #[.int slot 0, .int i 0, .ref a, .int n 0, .int ep 0]
def IsSetAt (h : Heap) (a : Addr) (es : Array (Int × Value)) (ep : Nat) (t : SetTable) : Prop := ∃ o, h.get? a = some o ∧ o.ExactSet ∧ o.data = .set es ep t
theorem IsSetIter.typeIs {s : Shared} {I a : Addr} {slot i n ep : Nat} (x : IsSetIter s.heap I a slot i n ep) : s.TypeIs (.ref I) "set_iterator" := let ⟨o, ho, hc, _⟩ := x; ⟨o, ho, hc⟩
theorem IsSetIter.at {h h' : Heap} {I a : Addr} {slot i n ep : Nat} (x : IsSetIter h I a slot i n ep) (e : ∀ o, h.get? I = some o → h'.get? I = some o) : IsSetIter h' I a slot i n ep := let ⟨o, ho, r⟩ := x; ⟨o, e o ho, r⟩
theorem IsSetAt.at {h h' : Heap} {a : Addr} {es : Array (Int × Value)} {ep : Nat} {t : SetTable} (x : IsSetAt h a es ep t) (e : ∀ o, h.get? a = some o → h'.get? a = some o) : IsSetAt h' a es ep t := let ⟨o, ho, r⟩ := x; ⟨o, e o ho, r⟩

section
variable {prog : Program} {w : World} {A : Around} {E : Value → Shared → Prop} {s : Shared} {a I : Addr} {es : Array (Int × Value)} {ep : Nat} {t : SetTable} {sl : Nat → Nat} {xs : List Value}

theorem set_iter {Q : Value → Shared → Prop} (X : SetWalk prog w a es ep t sl xs) (h0 : sl 0 = 0) (hf : t.fits es.size = true) (hs : IsSetAt s.heap a es ep t)
    (hQ : Q (.ref s.heap.objs.size) { s with heap := s.heap.push { cls := .type "set_iterator", data := .fields #[.int (sl 0) 0, .int 0 0, .ref a, .int es.size 0, .int ep 0] } }) :
    wpAny (model prog w) A (pyIter (.ref a)) Q E s := by
  obtain ⟨o, ho, hex, hd⟩ := hs
  have hT : s.TypeIs (.ref a) "set" := ⟨o, ho, hex.1⟩
  refine wpAny_pyIter_slot hT F.slot_set_iter (wpAny_call_entry F.slot_set_iter hT entry_set_iter ?_ (F.args_set_iter_1 _))
  unfold Builtin.«frozenset.__iter__»
  refine wpAny_bind ?_
  unfold Builtin.Frozenset.slot0 slotArgs
  simp only [List.isEmpty_nil, Bool.not_true, Bool.false_eq_true, ↓reduceIte, List.length_nil, bne_self_eq_false]
  unfold Builtin.Frozenset.addrOf Builtin.Frozenset.sizeOf
  refine wpAny_bind (wpAny_pure ?_)
  refine wpAny_pure ?_
  refine wpAny_bind (wpAny_bind (wpAny_setEntries_of ho hd hf (wpAny_pure ?_)))
  refine wpAny_bind (X.undrawn _ _ _ _ o ho hd ?_)
  simp only [Bool.false_eq_true, if_false]
  refine wpAny_bind (wpAny_pure ?_)
  refine wpAny_bind (wpAny_setEpoch_of ho hd hf ?_)
  refine wpAny_bind (wpAny_newObj_type (wpAny_pure ⟨_, rfl, "set_iterator", _, ⟨_, Heap.get?_push_size _ rfl, rfl⟩, slot_set_iterator_next.lookup, ?_⟩))
  rw [h0] at hQ
  exact hQ
theorem set_self {Q : Value → Shared → Prop} {slot i n : Nat} (hit : IsSetIter s.heap I a slot i n ep) (h : Q (.ref I) s) : wpAny (model prog w) A (pyIter (.ref I)) Q E s := by
  refine wpAny_pyIter_slot hit.typeIs slot_set_iterator_iter (wpAny_call_entry slot_set_iterator_iter hit.typeIs entry_set_iterator_iter ?_ (args_set_iterator_iter_1 _))
  show wpAny _ _ (ret (.ref I)) _ _ s
  exact wpAny_pure ⟨_, rfl, "set_iterator", _, hit.typeIs, slot_set_iterator_next.lookup, h⟩

theorem set_next_item {Q : Option Value → Shared → Prop} {i : Nat} {v : Value} (X : SetWalk prog w a es ep t sl xs) (hf : t.fits es.size = true) (hs : IsSetAt s.heap a es ep t) (hit : IsSetIter s.heap I a (sl i) i es.size ep)
    (hi : i < es.size) (hx : xs[i]? = some v) (hQ : ∀ h', IsSetIter h' I a (sl (i + 1)) (i + 1) es.size ep → Heap.SameBut I s.heap h' → Q (some v) { s with heap := h' }) : wpAny (model prog w) A (pyNext (.ref I)) Q E s := by
  obtain ⟨o, ho, hc, hd⟩ := id hit
  obtain ⟨os, hos, hex, hds⟩ := hs
  unfold pyNext
  refine wpAny_bind (wpAny_attempt (wpAny_callSpecial?_slot (name := Str.ofString "__next__") hit.typeIs slot_set_iterator_next
    (wpAny_call_entry slot_set_iterator_next hit.typeIs entry_set_iterator_next ?_ (args_set_iterator_next_1 _))))
  unfold Builtin.«set_iterator.__next__»
  refine wpAny_bind ?_
  unfold slotArgs
  simp only [List.isEmpty_nil, Bool.not_true, Bool.false_eq_true, ↓reduceIte, List.length_nil, bne_self_eq_false]
  refine wpAny_pure ?_
  refine wpAny_bind (wpAny_fieldsOf ho hd ?_)
  dsimp only
  refine wpAny_bind (wpAny_setEntries_of hos hds hf ?_)
  rw [if_neg (by simp)]
  refine wpAny_bind (X.next i _ _ _ _ os hos hds (Nat.le_of_lt hi) ?_)
  rw [hx]
  dsimp only [Option.map]
  refine wpAny_bind (wpAny_setField ho hd (by simp) ?_)
  have g1 : (s.heap.update I (Obj.mapFields (·.setIfInBounds 0 (rawInt (sl (i + 1)))))).get? I = _ := Heap.get?_update_self _ ho (Obj.isFreed_of_fields (Obj.data_mapFields hd _))
  have d1 := Obj.data_mapFields hd (·.setIfInBounds 0 (rawInt (sl (i + 1))))
  refine wpAny_bind (wpAny_setField g1 d1 (by simp) ?_)
  have g2 := Heap.get?_update_self (Obj.mapFields (·.setIfInBounds 1 (rawInt ((i : Int) + 1)))) g1 (Obj.isFreed_of_fields (Obj.data_mapFields d1 _))
  have d2 := Obj.data_mapFields d1 (·.setIfInBounds 1 (rawInt ((i : Int) + 1)))
  refine wpAny_pure ⟨_, rfl, wpAny_pure (hQ _ ⟨_, g2, ?_, ?_⟩ ((Heap.SameBut.update ..).trans (Heap.SameBut.update ..)))⟩
  · exact (Obj.cls_mapFields ..).trans ((Obj.cls_mapFields ..).trans hc)
  · rw [d2]; simp [rawInt]

theorem set_next_end {Q : Option Value → Shared → Prop} (hh : A.handled = none) (X : SetWalk prog w a es ep t sl xs) (hf : t.fits es.size = true) (hs : IsSetAt s.heap a es ep t) (hit : IsSetIter s.heap I a (sl es.size) es.size es.size ep)
    (hx : xs[es.size]? = none) (hQ : ∀ h', Heap.ExtBut I s.heap h' → Q none { s with heap := h' }) : wpAny (model prog w) A (pyNext (.ref I)) Q E s := by
  obtain ⟨o, ho, hc, hd⟩ := id hit
  obtain ⟨os, hos, hex, hds⟩ := hs
  unfold pyNext
  refine wpAny_bind (wpAny_attempt (wpAny_callSpecial?_slot (name := Str.ofString "__next__") hit.typeIs slot_set_iterator_next
    (wpAny_call_entry slot_set_iterator_next hit.typeIs entry_set_iterator_next ?_ (args_set_iterator_next_1 _))))
  unfold Builtin.«set_iterator.__next__»
  refine wpAny_bind ?_
  unfold slotArgs
  simp only [List.isEmpty_nil, Bool.not_true, Bool.false_eq_true, ↓reduceIte, List.length_nil, bne_self_eq_false]
  refine wpAny_pure ?_
  refine wpAny_bind (wpAny_fieldsOf ho hd ?_)
  dsimp only
  refine wpAny_bind (wpAny_setEntries_of hos hds hf ?_)
  rw [if_neg (by simp)]
  refine wpAny_bind (X.next es.size _ _ _ _ os hos hds (Nat.le_refl _) ?_)
  rw [hx]
  dsimp only [Option.map]
  refine wpAny_bind (wpAny_setField ho hd (by simp) ?_)
  show wpAny _ _ (newExc (.type "StopIteration") [] >>= _) _ _ _
  refine wpAny_bind ?_
  simp only [newExc, newTuple]
  refine wpAny_bind (wpAny_newObj_type ?_ (by size_fits))
  refine wpAny_bind (m := firstArgMember _ _) (wpAny_of_eq (a := Value.none) (by first | rfl | (simp only [firstArgMember]; rfl)) ?_)
  refine wpAny_newObj_type ?_ (by size_fits)
  simp only [raiseNew]
  refine wpAny_bind (wpAny_handled ?_)
  rw [show A.in1.handled = none from hh]
  refine wpAny_bind (wpAny_pure (wpAny_throw ?_))
  refine wpAny_bind (wpAny_isInstance (T := "StopIteration") (b := true) ⟨_, Heap.get?_push_size _ rfl, rfl⟩ isSubtype_stop ?_)
  exact wpAny_pure (hQ _ (((Heap.SameBut.update ..).extBut.push _).push _))

theorem set_walks (hh : A.handled = none) (hne : a ≠ I) (X : SetWalk prog w a es ep t sl xs) (hf : t.fits es.size = true) (hxs : xs.length = es.size) :
    Walks prog w A I [I, a] [I] es.size (fun i v => xs[i]? = some v) (fun i h => IsSetIter h I a (sl i) i es.size ep ∧ IsSetAt h a es ep t) where
  sub := fun b hb => by simp at hb; simp [hb]
  frame := fun _ _ _ st hk => ⟨st.1.at fun o e => hk I (by simp) o e, st.2.at fun o e => hk a (by simp) o e⟩
  item := fun i s Q E hi st hQ => by
    refine set_next_item X hf st.2 st.1 hi (v := xs[i]) (by simp [hxs, hi]) fun h' hit' hs' => ?_
    exact hQ _ h' s.toks (by simp [hxs, hi]) ⟨hit', st.2.at fun o e => hs'.extBut a o hne e⟩ fun b o hb e => hs'.extBut b o (fun h => hb (by simp [h])) e
  done := fun s Q E st hQ => set_next_end hh X hf st.2 st.1 (by simp [hxs]) fun h' he' => hQ h' s.toks fun b o hb e => he' b o (fun h => hb (by simp [h])) e
  self := fun _ _ _ _ st hQ => set_self st.1 hQ
end
end Mine

-- part V1
namespace Mine
open PySem PySem.W PyProof.Rows

/-- values as trees -/
inductive PV where
  | any
  | none
  | bool (b : Bool)
  | int (i : Int)
  | flt (x : UInt64)
  | str (s : List Nat)
  | tup (l : List PV)
  | lst (l : List PV)
  | bag (l : List PV)
  | dct (ks : List Int) (vs : List PV)
  | set (made : Bool) (l : List Int)
  | graph (g : PV)
  | rng (a b : Int)

section
variable (prog : Program) (w : World) (C : Addr)

mutual
/-- the value bears the tree, by objects outside W -/
def VR (h : Heap) (W : List Addr) : PV → Value → Prop
  | .any, _ => True
  | .none, v => v = .none
  | .bool b, v => v = .bool b
  | .int i, v => ∃ t, v = .int i t
  | .flt x, v => ∃ t, t ≠ 0 ∧ v = .float x t
  | .str x, v => ∃ t, v = .str ⟨x.toArray⟩ t
  | .tup l, v => ∃ a vs, v = .ref a ∧ a ∉ W ∧ h.IsTuple a vs.toArray ∧ VRs h W l vs
  | .lst l, v => ∃ a vs, v = .ref a ∧ a ∉ W ∧ h.PlainList a vs.toArray ∧ VRs h W l vs
  | .bag l, v => ∃ (a : Addr) (vs vs' : List Value), v = .ref a ∧ a ∉ W ∧ h.PlainList a vs'.toArray ∧ vs'.Perm vs ∧ VRs h W l vs
  | .dct ks ps, v => ∃ a vs ep, v = .ref a ∧ a ∉ W ∧ h.DictAt (intKind prog w) a (ks.zip vs) ep ∧ ks.length = vs.length ∧ VRs h W ps vs ∧ (a == sysModules) = false
  | .set made l, v => ∃ a, v = .ref a ∧ a ∉ W ∧ l.Nodup ∧ h.SetOf (intKind prog w) a (fun k => decide (k ∈ l)) l.length ∧ (made = true → MadeSet w h a l)
  | .graph g, v => ∃ x o d mA ga, v = .ref x ∧ x ∉ W ∧ h.get? x = some o ∧ o.cls = .ref C ∧ (∀ c, o.data ≠ .cls c) ∧ o.dict = some d ∧ d ≠ x ∧ d ∉ W ∧ h.Ns1 d mA ∧ mA "_adj" = some (.ref ga) ∧ VR h W g (.ref ga)
  | .rng a b, v => ∃ x t u y, v = .ref x ∧ x ∉ W ∧ IsRange h x a b 1 t u y
def VRs (h : Heap) (W : List Addr) : List PV → List Value → Prop
  | [], vs => vs = []
  | p :: l, vs => ∃ v r, vs = v :: r ∧ VR h W p v ∧ VRs h W l r
end
variable {prog w C}

theorem setOf_at {h h' : Heap} {a : Addr} {S : Int → Bool} {n : Nat} (x : h.SetOf (intKind prog w) a S n) (e : ∀ o, h.get? a = some o → h'.get? a = some o) : h'.SetOf (intKind prog w) a S n :=
  let ⟨o, es, ep, t, ho, r⟩ := x; ⟨o, es, ep, t, e o ho, r⟩
theorem range_at {h h' : Heap} {r : Addr} {a b c : Int} {t u v : Tok} (x : IsRange h r a b c t u v) (e : ∀ o, h.get? r = some o → h'.get? r = some o) : IsRange h' r a b c t u v := e _ x

theorem MadeSet.at {h h' : Heap} {a : Addr} {l : List Int} (x : MadeSet w h a l) (e : ∀ o, h.get? a = some o → h'.get? a = some o) : MadeSet w h' a l := by
  obtain ⟨h1, h2, o, ep, ts, h3, ho, r⟩ := x
  exact ⟨h1, h2, o, ep, ts, h3, e o ho, r⟩
mutual
theorem VR.mono {h h' : Heap} {W W' : List Addr} (k : ∀ b o, b ∉ W → h.get? b = some o → h'.get? b = some o ∧ b ∉ W') : ∀ (p : PV) (v : Value), VR prog w C h W p v → VR prog w C h' W' p v
  | .any, _, _ => trivial
  | .none, _, H => H
  | .bool _, _, H => H
  | .int _, _, H => H
  | .flt _, _, H => H
  | .str _, _, H => H
  | .tup l, _, H => by
    obtain ⟨a, vs, e, ha, ⟨o, ho, r⟩, hl⟩ := H
    exact ⟨a, vs, e, (k a o ha ho).2, ⟨o, (k a o ha ho).1, r⟩, VRs.mono k l vs hl⟩
  | .lst l, _, H => by
    obtain ⟨a, vs, e, ha, ⟨n, ho⟩, hl⟩ := H
    exact ⟨a, vs, e, (k a _ ha ho).2, ⟨n, (k a _ ha ho).1⟩, VRs.mono k l vs hl⟩
  | .bag l, _, H => by
    obtain ⟨a, vs, vs', e, ha, ⟨n, ho⟩, hp, hl⟩ := H
    exact ⟨a, vs, vs', e, (k a _ ha ho).2, ⟨n, (k a _ ha ho).1⟩, hp, VRs.mono k l vs hl⟩
  | .dct ks ps, _, H => by
    obtain ⟨a, vs, ep, e, ha, hd, hn, hl, hs⟩ := H
    obtain ⟨o, es, ho, r⟩ := hd
    exact ⟨a, vs, ep, e, (k a _ ha ho).2, ⟨o, es, (k a _ ha ho).1, r⟩, hn, VRs.mono k ps vs hl, hs⟩
  | .set made l, _, H => by
    obtain ⟨a, e, ha, hn, ⟨o, es, ep, t, ho, r⟩, hm⟩ := H
    exact ⟨a, e, (k a _ ha ho).2, hn, ⟨o, es, ep, t, (k a _ ha ho).1, r⟩, fun q => (hm q).at fun o h => (k a o ha h).1⟩
  | .graph g, _, H => by
    obtain ⟨x, o, d, mA, ga, e, hx, ho, hc, hnc, hd, hne, hdW, hns, hA, hg⟩ := H
    have hd' : (∃ od, h.get? d = some od) := let ⟨od, _, _, q, _⟩ := hns; ⟨od, q⟩
    obtain ⟨od, hod⟩ := hd'
    exact ⟨x, o, d, mA, ga, e, (k x _ hx ho).2, (k x _ hx ho).1, hc, hnc, hd, hne, (k d _ hdW hod).2, hns.at fun o' h' => (k d o' hdW h').1, hA, VR.mono k g _ hg⟩
  | .rng a b, _, H => by
    obtain ⟨x, t, u, y, e, hx, hr⟩ := H
    exact ⟨x, t, u, y, e, (k x _ hx hr).2, (k x _ hx hr).1⟩
theorem VRs.mono {h h' : Heap} {W W' : List Addr} (k : ∀ b o, b ∉ W → h.get? b = some o → h'.get? b = some o ∧ b ∉ W') : ∀ (l : List PV) (vs : List Value), VRs prog w C h W l vs → VRs prog w C h' W' l vs
  | [], _, H => H
  | p :: l, _, H => by
    obtain ⟨v, r, e, hv, hr⟩ := H
    exact ⟨v, r, e, VR.mono k p v hv, VRs.mono k l r hr⟩
end
end
end Mine

-- part V2
namespace Mine
open PySem PySem.W PyProof.Rows

/-- names by number -/
def nmTab : List Str := (["script", "drawn", "size", "kind", "edges", "row", "place", "made", "good", "runs", "near", "v", "shapes", "named", "degrees", "threes", "shares", "ends", "total", "above", "below", "told", "laplace", "raised", "times",
  "k", "sign", "u", "G", "w", "three", "degree", "first", "second", "one", "line",
  "creation_sequence", "ccscopy", "cs", "dr", "ntri", "i", "typ", "seq", "dcur", "irun", "drun", "sym", "tri", "prevsym", "triseq", "degseq", "cseq", "deg", "max_size", "rd", "s1", "s2", "s3", "m", "rdi", "ds", "degi", "dj", "degj", "denom", "numer", "eiglist", "eig", "bigdeg", "n", "ind", "sum"] : List String).map Str.ofString
def nmS (i : Nat) : Str := nmTab.getD i "?"
/-- global callables by number -/
def fnTab : List Str := (["len", "range", "sum", "max", "int", "set", "uncompact", "threshold_graph", "triangles", "triangle_sequence", "cluster_sequence", "degree_sequence", "degree_correlation", "eigenvalues", "right_d_threshold_sequence", "left_d_threshold_sequence"] : List String).map Str.ofString
def fnm (i : Nat) : Str := fnTab.getD i "?"
def tyTab : List Str := (["str", "tuple", "int"] : List String).map Str.ofString
def tyn (i : Nat) : Str := tyTab.getD i "?"

/-- the callables' values -/
def fval (i : Nat) : Value := ([.builtin "len", .type "range", .builtin "sum", .builtin "max", .type "int", .type "set", .ref 647, .ref 655, .ref 662, .ref 669, .ref 676, .ref 683, .ref 688, .ref 695, .ref 702, .ref 709] : List Value).getD i .none
/-- the built-in names used -/
def bltTab : List (Str × Value) := (([("len", .builtin "len"), ("range", .type "range"), ("sum", .builtin "sum"), ("max", .builtin "max"), ("int", .type "int"), ("set", .type "set"), ("enumerate", .type "enumerate"), ("zip", .type "zip"),
  ("isinstance", .builtin "isinstance"), ("str", .type "str"), ("tuple", .type "tuple"), ("list", .type "list")] : List (String × Value)).map fun p => (Str.ofString p.1, p.2))

inductive RT where
  | nm (x : Nat) (p : Pos)
  | tp (x : Nat) (px : Pos) (y : Nat) (py : Pos) (k : Nat) (p : Pos)
mutual
inductive RE where
  | int (n : Int) (k : Nat) (p : Pos)
  | str (s : List Nat) (k : Nat) (p : Pos)
  | none (k : Nat) (p : Pos)
  | name (x : Nat) (p : Pos)
  | bin (op : Operator) (a b : RE) (p : Pos)
  | neg (a : RE) (p : Pos)
  | cmp (op : CmpOp) (a b : RE) (p : Pos)
  | bop (op : BoolOp) (es : List RE) (p : Pos)
  | ite (t a b : RE) (p : Pos)
  | sub (a i : RE) (p : Pos)
  | adj (a : RE) (p : Pos)
  | call (f : Nat) (es : List RE) (np p : Pos)
  | isi (e : RE) (ty : Nat) (np tp p : Pos)
  | count (a e : RE) (ap p : Pos)
  | list (es : List RE) (p : Pos)
  | tup (es : List RE) (k : Nat) (p : Pos)
  | lcomp (e : RE) (gs : List RG) (fr : List Nat) (sc : Scope) (p : Pos)
  | scomp (e : RE) (gs : List RG) (fr : List Nat) (sc : Scope) (p : Pos)
  | dcomp (k v : RE) (gs : List RG) (fr : List Nat) (sc : Scope) (p : Pos)
inductive RI where
  | ex (e : RE)
  | enum (e : RE) (np p : Pos)
  | zip (a b : RE) (np p : Pos)
inductive RG where
  | mk (t : RT) (it : RI) (ifs : List RE)
end

def RT.toE : RT → Expr
  | .nm x p => .Name (nmS x) p
  | .tp x px y py k p => .Tuple [.Name (nmS x) px, .Name (nmS y) py] k p
mutual
def RE.toE : RE → Expr
  | .int n k p => .Constant (.int n) k p
  | .str s k p => .Constant (.str ⟨s.toArray⟩) k p
  | .none k p => .Constant .none k p
  | .name x p => .Name (nmS x) p
  | .bin op a b p => .BinOp a.toE op b.toE p
  | .neg a p => .UnaryOp .USub a.toE p
  | .cmp op a b p => .Compare a.toE [op] [b.toE] p
  | .bop op es p => .BoolOp op (toEs es) p
  | .ite t a b p => .IfExp t.toE a.toE b.toE p
  | .sub a i p => .Subscript a.toE i.toE p
  | .adj a p => .Attribute a.toE "_adj" p
  | .call f es np p => .Call (.Name (fnm f) np) (toEs es) [] p
  | .isi e ty np tp p => .Call (.Name "isinstance" np) [e.toE, .Name (tyn ty) tp] [] p
  | .count a e ap p => .Call (.Attribute a.toE "count" ap) [e.toE] [] p
  | .list es p => .List (toEs es) p
  | .tup es k p => .Tuple (toEs es) k p
  | .lcomp e gs _ sc p => .ListComp e.toE (toGs gs) sc p
  | .scomp e gs _ sc p => .SetComp e.toE (toGs gs) sc p
  | .dcomp k v gs _ sc p => .DictComp k.toE v.toE (toGs gs) sc p
def toEs : List RE → List Expr
  | [] => []
  | e :: r => e.toE :: toEs r
def RI.toE : RI → Expr
  | .ex e => e.toE
  | .enum e np p => .Call (.Name "enumerate" np) [e.toE] [] p
  | .zip a b np p => .Call (.Name "zip" np) [a.toE, b.toE] [] p
def RG.toC : RG → Comprehension
  | .mk t it ifs => ⟨t.toE, it.toE, toEs ifs, 0⟩
def toGs : List RG → List Comprehension
  | [] => []
  | g :: r => g.toC :: toGs r
end

abbrev Rho := List (Nat × PV)
def look : Rho → Nat → Option PV
  | [], _ => none
  | (y, p) :: r, x => match Nat.beq y x with
    | true => some p
    | false => look r x

def truth : PV → Option Bool
  | .bool b => some b
  | .none => some false
  | .int i => some (i != 0)
  | .lst l => match decide (l.length ≤ 1000) with | true => some (!l.isEmpty) | false => none
  | _ => none

def allInt : List PV → Option (List Int)
  | [] => some []
  | .int i :: r => (allInt r).map (i :: ·)
  | _ => none
def smallI : Int → Bool
  | .ofNat n => Nat.blt n 1000000000
  | .negSucc n => Nat.blt n 999999999
theorem smallI_lt : ∀ {i : Int}, smallI i = true → -1000000000 < i ∧ i < 1000000000
  | .ofNat n, h => by
    have : n ≤ 999999999 := by simpa [smallI, Nat.blt] using h
    constructor <;> (show _ < _; simp only [Int.ofNat_eq_natCast]; omega)
  | .negSucc n, h => by
    have : n ≤ 999999998 := by simpa [smallI, Nat.blt] using h
    constructor <;> omega
/-- an index that is no less than nought -/
def ixI : Int → Bool
  | .ofNat n => Nat.blt n 1000000
  | .negSucc _ => false
theorem ixI_lt : ∀ {i : Int}, ixI i = true → 0 ≤ i ∧ i < 1000000
  | .ofNat n, h => by
    have : n ≤ 999999 := by simpa [ixI, Nat.blt] using h
    constructor <;> (simp only [Int.ofNat_eq_natCast]; omega)
  | .negSucc n, h => by cases h
def strsOf : List PV → Bool
  | [] => true
  | .str _ :: r => strsOf r
  | _ => false

def pbin (op : Operator) (x y : PV) : Option PV :=
  match op, x, y with
  | .Add, .int a, .int b => some (.int (a + b))
  | .Sub, .int a, .int b => some (.int (a - b))
  | .Mult, .int a, .int b => match smallI a && smallI b with | true => some (.int (a * b)) | false => none
  | .FloorDiv, .int a, .int b => match smallI b && b != 0 && b != -1 && decide (0 < b) with | true => some (.int (a.fdiv b)) | false => none
  | .Mod, .int a, .int b => match b != 0 with | true => some (.int (a.fmod b)) | false => none
  | .Pow, .int a, .int b => match decide (0 ≤ b) && decide (b ≤ 64) && smallI a with | true => some (.int (a ^ b.toNat)) | false => none
  | .Div, .int a, .int b => match b != 0 && !Float64.isInf (Float64.ofFrac (decide (a < 0) != decide (b < 0)) a.natAbs b.natAbs) with
    | true => some (.flt (Float64.ofFrac (decide (a < 0) != decide (b < 0)) a.natAbs b.natAbs))
    | false => none
  | .Add, .lst l, .lst r => match decide (l.length + r.length ≤ 1000) with | true => some (.lst (l ++ r)) | false => none
  | .Mult, .int a, .flt b => match !Float64.isInf (Float64.ofInt a) with | true => some (.flt (Float64.mul (Float64.ofInt a) b)) | false => none
  | .Add, .flt a, .flt b => some (.flt (Float64.add a b))
  | .Mult, .lst l, .int a => match decide (0 ≤ a) && decide (a ≤ 100) && decide (l.length = 1) with | true => some (.lst (List.replicate a.toNat l).flatten) | false => none
  | .Mult, .int a, .lst l => match decide (0 ≤ a) && decide (a ≤ 100) && decide (l.length = 1) with | true => some (.lst (List.replicate a.toNat l).flatten) | false => none
  | _, _, _ => none

def sames (f : PV → PV → Bool) : List PV → List PV → Bool
  | [], [] => true
  | p :: l, q :: r => f p q && sames f l r
  | _, _ => false
/-- surely equal -/
def same : Nat → PV → PV → Bool
  | 0, _, _ => false
  | n + 1, p, q => match p, q with
    | .int a, .int b => a == b
    | .flt a, .flt b => a == b && (Float64.cmp a b == some .eq)
    | .str a, .str b => a == b
    | .lst l, .lst r => sames (same n) l r
    | .dct ks l, .dct js r => ks == js && sames (same n) l r
    | .set _ l, .set _ r => l.length == r.length && l.all (fun x => r.contains x)
    | _, _ => false

def pcmp (op : CmpOp) (x y : PV) : Option PV :=
  match op, x, y with
  | .Eq, .int a, .int b => some (.bool (a == b))
  | .NotEq, .int a, .int b => some (.bool (a != b))
  | .Lt, .int a, .int b => some (.bool (decide (a < b)))
  | .LtE, .int a, .int b => some (.bool (decide (a ≤ b)))
  | .Gt, .int a, .int b => some (.bool (decide (b < a)))
  | .GtE, .int a, .int b => some (.bool (decide (b ≤ a)))
  | .Gt, .int a, .flt b => some (.bool (Float64.cmpInt b a == some .lt))
  | .Eq, .flt a, .int b => some (.bool (Float64.cmpInt a b == some .eq))
  | .Eq, .flt a, .flt b => some (.bool (Float64.cmp a b == some .eq))
  | .Eq, .str a, .str b => some (.bool (a == b))
  | .Eq, .lst l, .lst r => match same 6 (.lst l) (.lst r) with | true => some (.bool true) | false => none
  | .Eq, .dct ks l, .dct js r => match same 6 (.dct ks l) (.dct js r) with | true => some (.bool true) | false => none
  | .In, .int a, .set _ l => some (.bool (l.contains a))
  | _, _, _ => none

def assocI : List Int → List PV → Int → Option PV
  | k :: ks, v :: vs, i => match k == i with | true => some v | false => assocI ks vs i
  | _, _, _ => none
def pget (x i : PV) : Option PV :=
  match x, i with
  | .lst l, .int i => match ixI i with | true => l[i.toNat]? | false => none
  | .dct ks vs, .int i => assocI ks vs i
  | .str s, .int i => match ixI i with | true => (s[i.toNat]?).map fun c => .str [c] | false => none
  | _, _ => none

def upTo (a : Int) : Nat → List PV
  | 0 => []
  | n + 1 => .int a :: upTo (a + 1) n
def desc (b : Int) : List Int → Bool
  | [] => true
  | a :: l => decide (a < b) && desc a l
/-- the numbers below six, falling -/
def sub6 (l : List Int) : Bool := desc 6 l && l.all fun a => decide (0 ≤ a)
/-- what an iteration yields; true: in some order -/
def piter : PV → Option (List PV × Bool)
  | .lst l => some (l, false)
  | .bag l => some (l, true)
  | .dct ks _ => some (ks.map .int, false)
  | .set true l => match sub6 l with | true => some (l.map .int, true) | false => none
  | .rng a b => match smallI a && smallI b with | true => some (upTo a (b - a).toNat, false) | false => none
  | _ => none
def enumFrom (i : Int) : List PV → List PV
  | [] => []
  | p :: l => .tup [.int i, p] :: enumFrom (i + 1) l
def zipP : List PV → List PV → List PV
  | p :: l, q :: r => .tup [p, q] :: zipP l r
  | _, _ => []

def sumI (l : List Int) : Int := l.foldl (· + ·) 0
def addAll (acc : List Int) : List Int → List Int
  | [] => acc
  | a :: l => addAll (if acc.contains a then acc else a :: acc) l

def bindT : RT → PV → Rho → Option Rho
  | .nm x _, v, ρ => match look ρ x with
    | none => some ((x, v) :: ρ)
    | some _ => none
  | .tp x _ y _ _ _, .tup [p, q], ρ => match look ρ x with
    | none => match look ((x, p) :: ρ) y with
      | none => some ((y, q) :: (x, p) :: ρ)
      | some _ => none
    | some _ => none
  | _, _, _ => none

section
variable (F : Nat → List PV → Option PV) (rec : Rho → RE → Option PV)
def evs (ρ : Rho) : List RE → Option (List PV)
  | [] => some []
  | e :: r => match rec ρ e with
    | some v => match evs ρ r with
      | some vs => some (v :: vs)
      | none => none
    | none => none
def pand (ρ : Rho) : List RE → Option PV
  | [] => none
  | e :: r => match r with
    | [] => rec ρ e
    | _ :: _ => match rec ρ e with
      | some v => match truth v with
        | some true => pand ρ r
        | some false => some v
        | none => none
      | none => none
def por (ρ : Rho) : List RE → Option PV
  | [] => none
  | e :: r => match r with
    | [] => rec ρ e
    | _ :: _ => match rec ρ e with
      | some v => match truth v with
        | some false => por ρ r
        | some true => some v
        | none => none
      | none => none
def ptests (ρ : Rho) : List RE → Option Bool
  | [] => some true
  | e :: r => match rec ρ e with
    | some v => match truth v with
      | some true => ptests ρ r
      | some false => some false
      | none => none
    | none => none
def pitems (ρ : Rho) : RI → Option (List PV × Bool)
  | .ex e => match rec ρ e with
    | some v => piter v
    | none => none
  | .enum e _ _ => match rec ρ e with
    | some (.lst l) => some (enumFrom 0 l, false)
    | _ => none
  | .zip a b _ _ => match rec ρ a with
    | some (.lst l) => match rec ρ b with
      | some (.lst r) => match decide (l.length = r.length) with | true => some (zipP l r, false) | false => none
      | _ => none
    | _ => none
variable {α : Type} (emit : Rho → Option α)
/-- one level: over the items; k: what stands within -/
def plevel (t : RT) (ifs : List RE) (k : Rho → Option (List α × Bool)) : List PV → Rho → Option (List α × Bool)
  | [], _ => some ([], false)
  | v :: r, ρ => match bindT t v ρ with
    | some ρ' => match ptests rec ρ' ifs with
      | some true => match k ρ' with
        | some (o, b) => match plevel t ifs k r ρ with
          | some (o', b') => some (o ++ o', b || b')
          | none => none
        | none => none
      | some false => plevel t ifs k r ρ
      | none => none
    | none => none
def pwithin : List RG → Rho → Option (List α × Bool)
  | [], ρ => match emit ρ with
    | some a => some ([a], false)
    | none => none
  | .mk t it ifs :: gs, ρ => match pitems rec ρ it with
    | some (vs, b) => match plevel rec t ifs (pwithin gs) vs ρ with
      | some (o, b') => some (o, b || b')
      | none => none
    | none => none
def pcomp (fr : List Nat) : List RG → Rho → Option (List α × Bool)
  | [], _ => none
  | .mk t it ifs :: gs, ρ => match pitems rec ρ it with
    | some (vs, b) => match plevel rec t ifs (pwithin rec emit gs) vs (fr.filterMap fun x => (look ρ x).map fun v => (x, v)) with
      | some (o, b') => some (o, b || b')
      | none => none
    | none => none
end
def emitI (rec : Rho → RE → Option PV) (e : RE) (ρ : Rho) : Option Int := match rec ρ e with
  | some (.int i) => some i
  | _ => none
def emit2 (rec : Rho → RE → Option PV) (k v : RE) (ρ : Rho) : Option (Int × PV) := match rec ρ k with
  | some (.int i) => match rec ρ v with
    | some p => some (i, p)
    | none => none
  | _ => none
def distinct : List Int → Bool
  | [] => true
  | a :: l => !l.contains a && distinct l
def small (l : List α) : Bool := decide (l.length ≤ 1000)

def isStrB (s : List Nat) : PV → Bool := fun p => match p with
  | .str x => x == s
  | _ => false
def pevStep (F : Nat → List PV → Option PV) (rec : Rho → RE → Option PV) (ρ : Rho) : RE → Option PV
  | .int n _ _ => some (.int n)
  | .str s _ _ => some (.str s)
  | .none _ _ => some .none
  | .name x _ => look ρ x
  | .bin op a b _ => match rec ρ a with
    | some x => match rec ρ b with
      | some y => pbin op x y
      | none => none
    | none => none
  | .neg a _ => match rec ρ a with
    | some (.int i) => some (.int (-i))
    | _ => none
  | .cmp op a b _ => match rec ρ a with
    | some x => match rec ρ b with
      | some y => pcmp op x y
      | none => none
    | none => none
  | .bop .And es _ => pand rec ρ es
  | .bop .Or es _ => por rec ρ es
  | .ite t a b _ => match rec ρ t with
    | some v => match truth v with
      | some true => rec ρ a
      | some false => rec ρ b
      | none => none
    | none => none
  | .sub a i _ => match rec ρ a with
    | some x => match rec ρ i with
      | some y => pget x y
      | none => none
    | none => none
  | .adj a _ => match rec ρ a with
    | some (.graph g) => some g
    | _ => none
  | .call f es _ _ => match evs rec ρ es with
    | some vs => F f vs
    | none => none
  | .isi e ty _ _ _ => match rec ρ e with
    | some (.int _) => some (.bool (Nat.beq ty 2))
    | some (.str _) => some (.bool (Nat.beq ty 0))
    | some (.tup _) => some (.bool (Nat.beq ty 1))
    | _ => none
  | .count a e _ _ => match rec ρ a with
    | some (.lst l) => match rec ρ e with
      | some (.str s) => match strsOf l with
        | true => some (.int (l.countP (isStrB s)))
        | false => none
      | _ => none
    | _ => none
  | .list es _ => match evs rec ρ es with
    | some vs => match small vs with | true => some (.lst vs) | false => none
    | none => none
  | .tup es _ _ => match evs rec ρ es with
    | some vs => match small vs with | true => some (.tup vs) | false => none
    | none => none
  | .lcomp e gs fr _ _ => match pcomp rec (fun ρ' => rec ρ' e) fr gs ρ with
    | some (o, false) => match small o with | true => some (.lst o) | false => none
    | some (o, true) => match small o with | true => some (.bag o) | false => none
    | none => none
  | .scomp e gs fr _ _ => match pcomp rec (emitI rec e) fr gs ρ with
    | some (o, false) => match decide (o.length < 900) with | true => some (.set true (addAll [] o)) | false => none
    | _ => none
  | .dcomp k v gs fr _ _ => match pcomp rec (emit2 rec k v) fr gs ρ with
    | some (o, false) => match distinct (o.map (·.1)) && small o with
      | true => some (.dct (o.map (·.1)) (o.map (·.2)))
      | false => none
    | _ => none
def pev (F : Nat → List PV → Option PV) : Nat → Rho → RE → Option PV
  | 0, _, _ => none
  | n + 1, ρ, e => pevStep F (pev F n) ρ e
end Mine

-- part V3
namespace Mine
open PySem PySem.W PyProof.Rows

/-- s' is s grown; only objects of X may have turned -/
structure Ext (X : List Addr) (s s' : Shared) : Prop where
  gens : s'.gens = s.gens
  drawn : s'.drawn = s.drawn
  os : s'.os = s.os
  toks : s.toks ≤ s'.toks
  keep : ∀ b o, b ∉ X → s.heap.get? b = some o → s'.heap.get? b = some o
  size : s.heap.objs.size ≤ s'.heap.objs.size

theorem Ext.refl (X : List Addr) (s : Shared) : Ext X s s := ⟨rfl, rfl, rfl, Nat.le_refl _, fun _ _ _ e => e, Nat.le_refl _⟩
theorem Ext.trans {X : List Addr} {s s₁ s₂ : Shared} (a : Ext X s s₁) (b : Ext X s₁ s₂) : Ext X s s₂ :=
  ⟨b.gens.trans a.gens, b.drawn.trans a.drawn, b.os.trans a.os, Nat.le_trans a.toks b.toks, fun c o hc e => b.keep c o hc (a.keep c o hc e), Nat.le_trans a.size b.size⟩
theorem Ext.mono {X Y : List Addr} {s s' : Shared} (a : Ext X s s') (h : ∀ b ∈ X, b ∈ Y) : Ext Y s s' :=
  ⟨a.gens, a.drawn, a.os, a.toks, fun b o hb e => a.keep b o (fun q => hb (h b q)) e, a.size⟩
theorem Ext.mk' {X : List Addr} {s : Shared} {h' : Heap} {tk : Nat} (ht : s.toks ≤ tk) (hz : s.heap.objs.size ≤ h'.objs.size) (k : ∀ b o, b ∉ X → s.heap.get? b = some o → h'.get? b = some o) : Ext X s { s with heap := h', toks := tk } :=
  ⟨rfl, rfl, rfl, ht, k, hz⟩
theorem Ext.tok (s : Shared) (n : Nat) : Ext [] s { s with toks := s.toks + n } := ⟨rfl, rfl, rfl, Nat.le_add_right _ _, fun _ _ _ e => e, Nat.le_refl _⟩
theorem Ext.push (s : Shared) (o : Obj) : Ext [] s { s with heap := s.heap.push o } := Ext.mk' (Nat.le_refl _) (by rw [Heap.size_push]; exact Nat.le_succ _) fun _ _ _ e => Heap.get?_push_of_some o e
theorem Ext.sameBut {a : Addr} {s : Shared} {h' : Heap} {tk : Nat} (ht : s.toks ≤ tk) (hs : Heap.SameBut a s.heap h') : Ext [a] s { s with heap := h', toks := tk } :=
  ⟨rfl, rfl, rfl, ht, fun b o hb e => (hs.2 b (fun q => hb (by simp [q]))).trans e, Nat.le_of_eq hs.1.symm⟩
theorem fresh_none (h : Heap) : h.get? h.objs.size = none := by
  cases e : h.get? h.objs.size with
  | none => rfl
  | some o => exact absurd (Heap.lt_size e) (Nat.lt_irrefl _)

theorem runs_size {M : Model} {Γ : Ctx} {p : Pos} {t : Sem Fin} {fs : List Frame} {s s' : Shared} {e : End} (h : Runs M Γ p t fs s e s') : s.heap.objs.size ≤ s'.heap.objs.size := by
  induction h <;> (try simp only [Shared.setGen, Heap.size_after_update, Heap.size_push] at *) <;> omega
theorem wakes_size {M : Model} {Γ : Ctx} {p : Pos} {g : Nat} {r : Resume} {s s' : Shared} {res : GenResult} (h : Wakes M Γ p g r s res s') : s.heap.objs.size ≤ s'.heap.objs.size := by
  unfold Wakes at h
  split at h
  · exact h.elim
  · split at h
    · obtain ⟨e₁, s₁, hr, _, _, rfl⟩ := h; exact (runs_size hr : (s.setGen g .running).heap.objs.size ≤ s₁.heap.objs.size)
    · rw [h.2]; exact Nat.le_refl _
    · rw [h.2]; exact Nat.le_refl _
  · obtain ⟨e₁, s₁, hr, _, _, rfl⟩ := h; exact (runs_size hr : (s.setGen g .running).heap.objs.size ≤ s₁.heap.objs.size)
  · rw [h.2]; exact Nat.le_refl _
  · rw [h.2]; exact Nat.le_refl _
theorem wp_size {α : Type} (M : Model) (Γ : Ctx) (n : Nat) (t : Sem α) : ∀ (Q : α → Pos → Shared → Prop) (E : Value → Pos → Shared → Prop) (p : Pos) (s : Shared), n ≤ s.heap.objs.size → Sem.wp M Γ t Q E p s →
    Sem.wp M Γ t (fun a p' s' => n ≤ s'.heap.objs.size ∧ Q a p' s') (fun e p' s' => n ≤ s'.heap.objs.size ∧ E e p' s') p s := by
  induction t with
  | pure a => intro Q E p s hn h; exact ⟨hn, h⟩
  | raise e => intro Q E p s hn h; exact ⟨hn, h⟩
  | unsupported _ => intro Q E p s _ h; exact h
  | finish _ => intro Q E p s _ h; exact h
  | rule _ k ih => intro Q E p s hn h; exact ih () Q E p s hn h
  | «at» p' k ih => intro Q E p s hn h; exact ih () Q E p' s hn h
  | load a _ k ih => intro Q E p s hn h; obtain ⟨o, ho, h⟩ := h; exact ⟨o, ho, ih o Q E p s hn h⟩
  | update a _ f k ih => intro Q E p s hn h; exact ⟨h.1, ih () Q E p _ (by rw [Heap.size_after_update]; exact hn) h.2⟩
  | loadIfAlive a k ih => intro Q E p s hn h; exact ih _ Q E p s hn h
  | point _ k ih => intro Q E p s hn h; exact ih () Q E p s hn h
  | register _ _ => intro Q E p s _ h; exact h
  | alloc o k ih => intro Q E p s hn h; exact ih _ Q E p _ (by rw [Heap.size_push]; exact Nat.le_succ_of_le hn) h
  | fresh k ih => intro Q E p s hn h; exact ih _ Q E p _ hn h
  | ask k ih => intro Q E p s hn h; exact ih _ Q E p s hn h
  | choose src m k ih => intro Q E p s hn h; exact ⟨h.1, ih _ Q E p _ hn h.2⟩
  | os q _ k ih => intro Q E p s hn h; exact ih _ Q E p _ hn h
  | call c hd _ _ k ih => intro Q E p s hn h; obtain ⟨r, s', hr, h⟩ := h; exact ⟨r, s', hr, ih r Q E p s' (Nat.le_trans hn (runs_size hr)) h⟩
  | handled own k ih => intro Q E p s hn h; exact ih _ Q E p s hn h
  | genState g k ih => intro Q E p s hn h; obtain ⟨st, hs, h⟩ := h; exact ⟨st, hs, ih _ Q E p s hn h⟩
  | newGen c k ih => intro Q E p s hn h; exact ih _ Q E p _ hn h
  | resume g r _ k ih => intro Q E p s hn h; obtain ⟨res, s', hw, h⟩ := h; exact ⟨res, s', hw, ih res Q E p s' (Nat.le_trans hn (wakes_size hw)) h⟩
  | yield _ _ _ _ => intro Q E p s _ h; exact h
  | stack k ih => intro Q E p s hn h; exact ih _ Q E p s hn h
  | fork _ _ => intro Q E p s _ h; exact h
  | thread k ih => intro Q E p s hn h; exact ih _ Q E p s hn h
  | await _ _ _ _ _ => intro Q E p s _ h; exact h
theorem grown {α : Type} {M : Model} {A : Around} {s : Shared} {t : Sem α} {Q : α → Shared → Prop} {E : Value → Shared → Prop}
    (h : wpAny M A t (fun a s' => s.toks ≤ s'.toks → s.heap.objs.size ≤ s'.heap.objs.size → Q a s') E s) : wpAny M A t Q E s :=
  wpAny_with_toks (Nat.le_refl s.toks) <| wpAny_mono (Q := fun a s' => s.heap.objs.size ≤ s'.heap.objs.size ∧ (s.toks ≤ s'.toks → s.heap.objs.size ≤ s'.heap.objs.size → Q a s')) (E := fun e s' => s.heap.objs.size ≤ s'.heap.objs.size ∧ E e s')
    (fun Γ p hΓ => wp_size M Γ s.heap.objs.size t _ _ p s (Nat.le_refl _) (h Γ p hΓ)) (fun _ _ x ht => x.2 ht x.1) fun _ _ x _ => x.2

structure AOk (l : Nat) (A : Around) : Prop where
  handled : A.handled = none
  depth : A.depth + l < recursionLimit
  units : A.units + 8 * l + 8 < cLine
theorem AOk.room {l : Nat} {A : Around} (a : AOk l A) : A.depth < recursionLimit := Nat.lt_of_le_of_lt (Nat.le_add_right _ _) a.depth
theorem AOk.line {l : Nat} {A : Around} (a : AOk l A) : A.units < cLine := by have := a.units; omega
theorem AOk.down {l : Nat} {A : Around} (a : AOk (l + 1) A) : AOk l A := ⟨a.handled, by have := a.depth; omega, by have := a.units; omega⟩
theorem AOk.deeper {l : Nat} {A : Around} (a : AOk (l + 1) A) (env : Env) : AOk l (A.deeper env) :=
  ⟨a.handled, by have := a.depth; show A.depth + 1 + l < _; omega, by have := a.units; show A.units + 3 + 8 * l + 8 < _; omega⟩
theorem AOk.in1 {l : Nat} {A : Around} (a : AOk (l + 1) A) : AOk l A.in1 :=
  ⟨a.handled, by have := a.depth; show A.depth + l < _; omega, by have := a.units; show A.units + 1 + 8 * l + 8 < _; omega⟩

def cellish (k : Option NameKind) : Prop := k = some .cell ∨ k = some .free
structure EnvOk (sc : Scope) (env : Env) : Prop where
  fn : env.scope.kind = .function
  gl : env.globals = mainGlobals
  bt : env.builtins = builtinsNs
  loc : ∀ x, sc.names.lookup x = some .local → env.kindOf x = some .local
  glob : ∀ x, sc.names.lookup x = some .globalImplicit → env.kindOf x = some .globalImplicit
  cell : ∀ x, cellish (sc.names.lookup x) → cellish (env.kindOf x)
  apart : ∀ x y c, env.cells.lookup x = some c → env.cells.lookup y = some c → x = y
  has : ∀ x, cellish (sc.names.lookup x) → ∃ c, env.cells.lookup x = some c

/-- the names' places lie in W -/
def EnvIn (env : Env) (W : List Addr) : Prop := env.locals ∈ W ∧ ∀ y c, env.cells.lookup y = some c → c ∈ W
def EnvOff (env : Env) (X : List Addr) : Prop := env.locals ∉ X ∧ ∀ y c, env.cells.lookup y = some c → c ∉ X

def Look (s : Shared) (env : Env) (x : Str) (v : Value) : Prop :=
  (env.kindOf x = some .local ∧ ∃ m, s.heap.Ns env.locals m ∧ m x = some v) ∨
  (cellish (env.kindOf x) ∧ ∃ c, env.cells.lookup x = some c ∧ s.heap.IsCell c (some v))
theorem Look.keep {s s' : Shared} {env : Env} {x : Str} {v : Value} (H : Look s env x v) (k : ∀ b o, s.heap.get? b = some o → s'.heap.get? b = some o) : Look s' env x v := by
  rcases H with ⟨a, m, hn, hm⟩ | ⟨a, c, hc, hv⟩
  · exact .inl ⟨a, m, hn.keeps k, hm⟩
  · exact .inr ⟨a, c, hc, hv.keeps k⟩

theorem Look.off {s s' : Shared} {env : Env} {x : Str} {v : Value} {X : List Addr} (H : Look s env x v) (o : EnvOff env X) (k : ∀ b o, b ∉ X → s.heap.get? b = some o → s'.heap.get? b = some o) : Look s' env x v := by
  rcases H with ⟨a, m, hn, hm⟩ | ⟨a, c, hc, hv⟩
  · exact .inl ⟨a, m, hn.at' fun p e => k _ p o.1 e, hm⟩
  · obtain ⟨p, hp, hd⟩ := hv
    exact .inr ⟨a, c, hc, p, k _ p (o.2 x c hc) hp, hd⟩

section
variable {prog : Program} {w : World}
theorem nmS_ok (x : Nat) : (nmS x == Str.ofString "__debug__") = false ∧ (nmS x == ("__classdict__" : Str)) = false := by
  have h : ∀ y ∈ nmTab, (y == Str.ofString "__debug__") = false ∧ (y == ("__classdict__" : Str)) = false := by decide +kernel
  unfold nmS
  rw [List.getD_eq_getElem?_getD]
  cases e : nmTab[x]? with
  | none => exact (by decide +kernel)
  | some y => exact h y (List.mem_of_getElem? e)

theorem Look.load {s : Shared} {env : Env} {x : Nat} {v : Value} {A : Around} {E : Value → Shared → Prop} {Q : Value → Shared → Prop} {p : Pos} (fn : env.scope.kind = .function) (H : Look s env (nmS x) v) (h : Q v s) :
    wpAny (model prog w) A (eval (.Name (nmS x) p) env) Q E s := by
  refine wpAny_Name ?_ (nmS_ok x).1
  rcases H with ⟨a, m, hn, hm⟩ | ⟨a | a, c, hc, hv⟩
  · exact wpAny_loadName_local fn a hn hm h
  · exact wpAny_loadName_cell fn a hc hv h
  · exact wpAny_loadName_free fn a hc hv h (nmS_ok x).2
end

section
variable (prog : Program) (w : World) (C : Addr) (h₀ : Heap)

def RhoOk (s : Shared) (env : Env) (W : List Addr) (ρ : Rho) : Prop := ∀ x p, look ρ x = some p → ∃ v, Look s env (nmS x) v ∧ VR prog w C s.heap W p v

/-- the standing facts -/
structure Ok (l : Nat) (sc : Scope) (A : Around) (env : Env) (s : Shared) (W : List Addr) (ρ : Rho) : Prop where
  a : AOk l A
  e : EnvOk sc env
  old : ∀ b o, h₀.get? b = some o → s.heap.get? b = some o
  tk : 0 < s.toks
  live : ∀ b ∈ W, b < s.heap.objs.size
  base : ∀ b ∈ W, h₀.get? b = none
  inW : EnvIn env W
  sz : 1 < s.heap.objs.size
  rho : RhoOk prog w C s env W ρ

variable {prog w C h₀}
theorem VR.ext {s s' : Shared} {W : List Addr} {p : PV} {v : Value} (x : Ext [] s s') (H : VR prog w C s.heap W p v) : VR prog w C s'.heap W p v :=
  VR.mono (fun b o hb e => ⟨x.keep b o (by simp) e, hb⟩) p v H
theorem VRs.ext {s s' : Shared} {W : List Addr} {p : List PV} {v : List Value} (x : Ext [] s s') (H : VRs prog w C s.heap W p v) : VRs prog w C s'.heap W p v :=
  VRs.mono (fun b o hb e => ⟨x.keep b o (by simp) e, hb⟩) p v H
theorem RhoOk.ext {s s' : Shared} {env : Env} {W : List Addr} {ρ : Rho} (x : Ext [] s s') (H : RhoOk prog w C s env W ρ) : RhoOk prog w C s' env W ρ :=
  fun y p e => let ⟨v, h1, h2⟩ := H y p e; ⟨v, h1.keep fun b o e => x.keep b o (by simp) e, h2.ext x⟩
theorem Ok.ext {l : Nat} {sc : Scope} {A : Around} {env : Env} {s s' : Shared} {W : List Addr} {ρ : Rho} (H : Ok prog w C h₀ l sc A env s W ρ) (x : Ext [] s s') : Ok prog w C h₀ l sc A env s' W ρ :=
  ⟨H.a, H.e, fun b o e => x.keep b o (by simp) (H.old b o e), Nat.lt_of_lt_of_le H.tk x.toks, fun b hb => Nat.lt_of_lt_of_le (H.live b hb) x.size, H.base, H.inW, Nat.lt_of_lt_of_le H.sz x.size, H.rho.ext x⟩

variable (prog w C h₀) in
/-- an expression's evaluation: nothing old is turned -/
def Gives (A : Around) (env : Env) (s : Shared) (W : List Addr) (e : Expr) (p : PV) : Prop :=
  ∀ (E Q : Value → Shared → Prop), (∀ v s', Ext [] s s' → VR prog w C s'.heap W p v → Q v s') → wpAny (model prog w) A (eval e env) Q E s
end
end Mine

-- part V4
namespace Mine
open PySem PySem.W PyProof.Rows

section
variable {prog : Program} {w : World} {C : Addr} {h₀ : Heap}

theorem VRs.length {h : Heap} {W : List Addr} : ∀ {l : List PV} {vs : List Value}, VRs prog w C h W l vs → vs.length = l.length
  | [], _, H => by rw [show _ = [] from H]; rfl
  | p :: l, _, H => by
    obtain ⟨v, r, rfl, _, hr⟩ := H
    rw [List.length_cons, List.length_cons, VRs.length hr]
theorem VRs.get {h : Heap} {W : List Addr} : ∀ {l : List PV} {vs : List Value} {i : Nat} {p : PV}, VRs prog w C h W l vs → l[i]? = some p → ∃ v, vs[i]? = some v ∧ VR prog w C h W p v
  | [], _, _, _, _, e => by simp at e
  | q :: l, _, 0, p, H, e => by
    obtain ⟨v, r, rfl, hv, _⟩ := H
    simp at e; subst e
    exact ⟨v, rfl, hv⟩
  | q :: l, _, i + 1, p, H, e => by
    obtain ⟨v, r, rfl, _, hr⟩ := H
    simp at e
    obtain ⟨u, h1, h2⟩ := VRs.get hr e
    exact ⟨u, by simpa using h1, h2⟩
theorem VRs.append {h : Heap} {W : List Addr} : ∀ {l r : List PV} {vs us : List Value}, VRs prog w C h W l vs → VRs prog w C h W r us → VRs prog w C h W (l ++ r) (vs ++ us)
  | [], _, _, _, H, K => by rw [show _ = [] from H]; exact K
  | p :: l, r, _, us, H, K => by
    obtain ⟨v, t, rfl, hv, ht⟩ := H
    exact ⟨v, t ++ us, rfl, hv, VRs.append ht K⟩

theorem smallI_bits {a : Int} (h : smallI a = true) : Builtin.Int.intBits a ≤ 64 := by
  have h := smallI_lt h
  exact intBits_le_64 (by omega) (by omega)
theorem mulOk {a b : Int} (h : smallI a = true) (k : smallI b = true) : IntMulOk a b :=
  IntMulOk.of_bits (Nat.le_trans (smallI_bits h) (by decide)) (Nat.le_trans (smallI_bits k) (by decide))

theorem rep_foldl {α : Type} : ∀ (n : Nat) (xs : Array α) (acc : Array α), (List.foldl (fun x1 x2 => x1 ++ x2) acc (List.replicate n xs)) = acc ++ (List.replicate n xs.toList).flatten.toArray
  | 0, xs, acc => by simp
  | n + 1, xs, acc => by
    rw [List.replicate_succ, List.foldl_cons, rep_foldl n xs (acc ++ xs), List.replicate_succ, List.flatten_cons]
    apply Array.ext'
    simp
theorem VRs.rep {h : Heap} {W : List Addr} {l : List PV} {vs : List Value} (H : VRs prog w C h W l vs) : ∀ n : Nat, VRs prog w C h W (List.replicate n l).flatten (List.replicate n vs).flatten
  | 0 => rfl
  | n + 1 => by
    rw [List.replicate_succ, List.flatten_cons, List.replicate_succ, List.flatten_cons]
    exact VRs.append H (VRs.rep H n)

section
variable {A : Around} {E : Value → Shared → Prop} {s : Shared} {W : List Addr} {Q : Value → Shared → Prop}

theorem lst_new {l : List PV} {vs : List Value} (lv : ∀ b ∈ W, b < s.heap.objs.size) (H : VRs prog w C s.heap W l vs)
    (h : ∀ v s', Ext [] s s' → VR prog w C s'.heap W (.lst l) v → Q v s') : Q (.ref s.heap.objs.size) { s with heap := s.heap.push { cls := .type "list", data := .seq vs.toArray } } := by
  refine h _ _ (Ext.push _ _) ⟨_, vs, rfl, fun hm => Nat.lt_irrefl _ (lv _ hm), ⟨0, Heap.get?_push_size _ rfl⟩, VRs.ext (Ext.push _ _) H⟩

theorem mul_lst {l : Addr} {items : Array Value} {k : Nat} {x : Int} {u : Tok}
    (hl : s.heap.get? l = some { cls := .type "list", dict := none, data := .seq items k, slots := #[] })
    (hlo : -(2 ^ 63 : Int) ≤ x) (hhi : x < 2 ^ 63) (hsz : items.size * x.toNat ≤ 2 ^ 24)
    (h : Q (.ref s.heap.objs.size) { s with heap := s.heap.push { cls := .type "list", data := .seq (List.foldl (fun x1 x2 => x1 ++ x2) #[] (List.replicate (if items.isEmpty = true then 0 else x.toNat) items)) } }) :
    wpAny (model prog w) A (binaryOp .Mult (.ref l) (.int x u)) Q E s :=
  wpAny_binaryOp_repeat_ref (T := "list") (U := "int") (by decide) ⟨_, hl, rfl⟩ (fun s' => typeIs_int s' x u) noFill_list_mul F.fills_int_mul F.slot_int_rmul repeat_list F.slot_int_index.lookup
    (call_meets F.slot_int_rmul (typeIs_int s x u) F.entry_int_rmul (F.args_int_rmul_2 _ _) (int___rmul___int_list x u l items k)
      ⟨hl, rfl, ⟨_, hl, rfl⟩, call_meets F.slot_list_mul ⟨_, hl, rfl⟩ F.entry_list_mul (F.args_list_mul_2 _ _)
        (AutoListH.list___mul___list_int_3 l items k x u (by simp [Builtin.List.listFitsIndex]; omega) (by omega) (by simp [Builtin.List.listTooLong, sizeLine]; omega))
        ⟨hl, h⟩⟩)

theorem mul_ok {l : List PV} {a : Addr} {vs : List Value} {n : Int} {u : Tok} (lv : ∀ b ∈ W, b < s.heap.objs.size) (hp : s.heap.PlainList a vs.toArray) (H : VRs prog w C s.heap W l vs) (hl : l.length = 1) (h0 : 0 ≤ n) (h1 : n ≤ 100)
    (h : ∀ v s', Ext [] s s' → VR prog w C s'.heap W (.lst (List.replicate n.toNat l).flatten) v → Q v s') : wpAny (model prog w) A (binaryOp .Mult (.ref a) (.int n u)) Q E s := by
  obtain ⟨k, ho⟩ := hp
  have hv := H.length
  have hsz : vs.toArray.size = 1 := by simp [hv, hl]
  refine mul_lst ho (by omega) (by omega) (by rw [hsz]; omega) ?_
  have he : vs.toArray.isEmpty = false := by simp [Array.isEmpty, hv, hl]
  rw [he]
  simp only [Bool.false_eq_true, if_false]
  rw [rep_foldl]
  have e2 : (#[] ++ (List.replicate n.toNat vs.toArray.toList).flatten.toArray : Array Value) = (List.replicate n.toNat vs).flatten.toArray := by simp
  rw [e2]
  exact lst_new lv (VRs.rep H _) h
end
end
end Mine

-- part V5
namespace Mine
open PySem PySem.W PyProof.Rows

section
variable {prog : Program} {w : World} {C : Addr} {h₀ : Heap}
variable {A : Around} {E : Value → Shared → Prop} {s : Shared} {W : List Addr}

theorem mul_lst_r {l : Addr} {items : Array Value} {k : Nat} {x : Int} {u : Tok} {Q : Value → Shared → Prop}
    (hl : s.heap.get? l = some { cls := .type "list", dict := none, data := .seq items k, slots := #[] })
    (hlo : -(2 ^ 63 : Int) ≤ x) (hhi : x < 2 ^ 63) (hsz : items.size * x.toNat ≤ 2 ^ 24)
    (h : Q (.ref s.heap.objs.size) { s with heap := s.heap.push { cls := .type "list", data := .seq (List.foldl (fun x1 x2 => x1 ++ x2) #[] (List.replicate (if items.isEmpty = true then 0 else x.toNat) items)) } }) :
    wpAny (model prog w) A (binaryOp .Mult (.int x u) (.ref l)) Q E s :=
  lm_binaryOp_repeat_right (T := "list") (U := "int") (by decide) (fun s' => typeIs_int s' x u) ⟨_, hl, rfl⟩ F.fills_int_mul noFill_list_mul F.slot_int_mul lm_noRepeat_int repeat_list F.slot_int_index.lookup
    (call_meets F.slot_int_mul (typeIs_int s x u) F.entry_int_mul (F.args_int_mul_2 _ _) (int___mul___int_list x u l items k)
      ⟨hl, rfl, ⟨_, hl, rfl⟩, call_meets F.slot_list_mul ⟨_, hl, rfl⟩ F.entry_list_mul (F.args_list_mul_2 _ _)
        (AutoListH.list___mul___list_int_3 l items k x u (by simp [Builtin.List.listFitsIndex]; omega) (by omega) (by simp [Builtin.List.listTooLong, sizeLine]; omega))
        ⟨hl, h⟩⟩)
theorem mul_ok_r {l : List PV} {a : Addr} {vs : List Value} {n : Int} {u : Tok} {Q : Value → Shared → Prop} (lv : ∀ b ∈ W, b < s.heap.objs.size) (hp : s.heap.PlainList a vs.toArray) (H : VRs prog w C s.heap W l vs) (hl : l.length = 1) (h0 : 0 ≤ n) (h1 : n ≤ 100)
    (h : ∀ v s', Ext [] s s' → VR prog w C s'.heap W (.lst (List.replicate n.toNat l).flatten) v → Q v s') : wpAny (model prog w) A (binaryOp .Mult (.int n u) (.ref a)) Q E s := by
  obtain ⟨k, ho⟩ := hp
  have hv := H.length
  have hsz : vs.toArray.size = 1 := by simp [hv, hl]
  refine mul_lst_r ho (by omega) (by omega) (by rw [hsz]; omega) ?_
  have he : vs.toArray.isEmpty = false := by simp [Array.isEmpty, hv, hl]
  rw [he]
  simp only [Bool.false_eq_true, if_false]
  rw [rep_foldl]
  have e2 : (#[] ++ (List.replicate n.toNat vs.toArray.toList).flatten.toArray : Array Value) = (List.replicate n.toNat vs).flatten.toArray := by simp
  rw [e2]
  exact lst_new lv (VRs.rep H _) h

/-- an operation that gives a plain value and some tokens -/
theorem plain_out {Q : Value → Shared → Prop} {p : PV} {v : Value} {n : Nat} (h : ∀ v s', Ext [] s s' → VR prog w C s'.heap W p v → Q v s') (hv : VR prog w C s.heap W p v) : Q v { s with toks := s.toks + n } :=
  h _ _ (Ext.tok s n) hv

theorem bin_ok {Q : Value → Shared → Prop} {op : Operator} {x y z : PV} {a b : Value} (hop : pbin op x y = some z) (tk : 0 < s.toks) (lv : ∀ b ∈ W, b < s.heap.objs.size) (ha : VR prog w C s.heap W x a) (hb : VR prog w C s.heap W y b)
    (h : ∀ v s', Ext [] s s' → VR prog w C s'.heap W z v → Q v s') : wpAny (model prog w) A (binaryOp op a b) Q E s := by
  unfold pbin at hop
  split at hop
  · cases hop; obtain ⟨t, rfl⟩ := ha; obtain ⟨u, rfl⟩ := hb
    exact PyProof.Rows.add_int (plain_out h ⟨_, rfl⟩)
  · cases hop; obtain ⟨t, rfl⟩ := ha; obtain ⟨u, rfl⟩ := hb
    exact PyProof.Rows.sub_int (plain_out h ⟨_, rfl⟩)
  · split at hop
    · rename_i hq
      cases hop; obtain ⟨t, rfl⟩ := ha; obtain ⟨u, rfl⟩ := hb
      rw [Bool.and_eq_true] at hq
      exact PyProof.Rows.mul_int (plain_out h ⟨_, rfl⟩) (mulOk hq.1 hq.2)
    · cases hop
  · rename_i a b
    split at hop
    · rename_i hq
      cases hop; obtain ⟨t, rfl⟩ := ha; obtain ⟨u, rfl⟩ := hb
      simp only [Bool.and_eq_true, bne_iff_ne, ne_eq, decide_eq_true_eq] at hq
      refine PyProof.Rows.floordiv_int hq.1.1.2 (plain_out h ⟨_, rfl⟩) (.inl ?_)
      have hs := hq.1.1.1
      have hs := smallI_lt hs
      unfold Builtin.divisionGoesByPylong
      have : b.natAbs.log2 / 30 + 1 ≤ 300 := by
        have : b.natAbs.log2 < 64 := by
          rcases Nat.eq_zero_or_pos b.natAbs with hz | hz
          · rw [hz]; decide
          · exact (Nat.log2_lt (by omega)).mpr (by omega)
        omega
      simp only [Bool.and_eq_false_iff, decide_eq_false_iff_not]
      left
      split <;> omega
    · cases hop
  · split at hop
    · rename_i hq
      cases hop; obtain ⟨t, rfl⟩ := ha; obtain ⟨u, rfl⟩ := hb
      exact PyProof.Rows.mod_int' (by simpa using hq) (plain_out h ⟨_, rfl⟩)
    · cases hop
  · rename_i a b
    split at hop
    · rename_i hq
      cases hop; obtain ⟨t, rfl⟩ := ha; obtain ⟨u, rfl⟩ := hb
      simp only [Bool.and_eq_true, decide_eq_true_eq] at hq
      have hbits := smallI_bits hq.2
      refine PyProof.Rows.pow_int hq.1.1 ?_ (plain_out h ⟨_, rfl⟩)
      have h1 : ((Builtin.Int.intBits a : Nat) : Int) * b ≤ 64 * 64 := by
        have := Int.mul_le_mul (a := ((Builtin.Int.intBits a : Nat) : Int)) (b := b) (c := 64) (d := 64) (by omega) hq.1.2 hq.1.1 (by omega)
        omega
      omega
    · cases hop
  · split at hop
    · rename_i hq
      cases hop; obtain ⟨t, rfl⟩ := ha; obtain ⟨u, rfl⟩ := hb
      rw [Bool.and_eq_true] at hq
      refine PySem.AutoIntOps.truediv_2 (by simpa using hq.1) (by simpa using hq.2) ?_
      exact plain_out (n := 1) h ⟨s.toks, Nat.ne_of_gt tk, rfl⟩
    · cases hop
  · split at hop
    · rename_i hq
      cases hop
      obtain ⟨a', vs, rfl, ha1, ⟨n1, ha2⟩, ha3⟩ := ha
      obtain ⟨b', us, rfl, hb1, ⟨n2, hb2⟩, hb3⟩ := hb
      have h1 := ha3.length
      have h2 := hb3.length
      simp only [decide_eq_true_eq] at hq
      refine PySem.P.add_list (n := n1) (n2 := n2) ha2 hb2 ?_ (by rw [sizeLine_eq]; simp; omega)
      have := lst_new (Q := Q) lv (VRs.append ha3 hb3) h
      simpa using this
    · cases hop
  · split at hop
    · rename_i hq
      cases hop; obtain ⟨t, rfl⟩ := ha; obtain ⟨u, _, rfl⟩ := hb
      refine PySem.AutoFloatOpsIf.mul_if ?_
      rw [if_neg (by simpa using hq)]
      exact plain_out (n := 1) h ⟨s.toks, Nat.ne_of_gt tk, rfl⟩
    · cases hop
  · cases hop; obtain ⟨t, _, rfl⟩ := ha; obtain ⟨u, _, rfl⟩ := hb
    exact PyProof.Rows.add_float (plain_out (n := 1) h ⟨s.toks, Nat.ne_of_gt tk, rfl⟩)
  · split at hop
    · rename_i hq
      cases hop
      obtain ⟨a', vs, rfl, _, ha2, ha3⟩ := ha; obtain ⟨u, rfl⟩ := hb
      simp only [Bool.and_eq_true, decide_eq_true_eq] at hq
      exact mul_ok lv ha2 ha3 hq.2 hq.1.1 hq.1.2 h
    · cases hop
  · split at hop
    · rename_i hq
      cases hop
      obtain ⟨a', vs, rfl, _, hb2, hb3⟩ := hb; obtain ⟨u, rfl⟩ := ha
      simp only [Bool.and_eq_true, decide_eq_true_eq] at hq
      exact mul_ok_r lv hb2 hb3 hq.2 hq.1.1 hq.1.2 h
    · cases hop
  · cases hop

theorem truthy_ok {Q : Bool → Shared → Prop} {p : PV} {b : Bool} {v : Value} (hp : truth p = some b) (hv : VR prog w C s.heap W p v)
    (h : ∀ s', Ext [] s s' → Q b s') : wpAny (model prog w) A (truthy v) Q E s := by
  unfold truth at hp
  split at hp
  · cases hp; obtain rfl := hv; exact wpAny_truthy_bool (h _ (Ext.refl _ _))
  · cases hp; obtain rfl := hv; exact PyProof.Rows.truthy_none (h _ (Ext.refl _ _))
  · cases hp; obtain ⟨t, rfl⟩ := hv; exact PyProof.Rows.truthy_int (h _ (Ext.refl _ _))
  · rename_i l
    split at hp
    · rename_i hq
      cases hp
      obtain ⟨a, vs, rfl, _, h2, h3⟩ := hv
      have h1 := h3.length
      simp only [decide_eq_true_eq] at hq
      refine wpAny_truthy_list h2.isList (by simp; omega) ?_
      have e : (!vs.toArray.isEmpty) = !l.isEmpty := by
        congr 1
        cases l <;> cases vs <;> simp_all
      rw [e]
      exact h _ (Ext.tok s 2)
    · cases hp
  · cases hp
end
end Mine

-- part V6
namespace Mine
open PySem PySem.W PyProof.Rows

section
variable {prog : Program} {w : World} {C : Addr} {h₀ : Heap}
variable {A : Around} {E : Value → Shared → Prop} {s : Shared} {W : List Addr}

theorem assoc_ok {h : Heap} {W : List Addr} : ∀ {ks : List Int} {ps : List PV} {vs : List Value} {i : Int} {p : PV}, assocI ks ps i = some p → ks.length = vs.length → VRs prog w C h W ps vs →
    ∃ v, valueAt (ks.zip vs) i = some v ∧ VR prog w C h W p v
  | [], _, _, _, _, e, _, _ => by simp [assocI] at e
  | k :: ks, [], _, _, _, e, _, _ => by simp [assocI] at e
  | k :: ks, q :: ps, vs, i, p, e, hn, H => by
    obtain ⟨v, r, rfl, hv, hr⟩ := H
    unfold assocI at e
    rw [List.zip_cons_cons, valueAt, List.find?_cons]
    cases hk : k == i with
    | true =>
      rw [hk] at e
      cases e
      have : k = i := eq_of_beq hk
      simp [this, hv]
    | false =>
      rw [hk] at e
      have hne : ¬ k = i := by simpa using hk
      simp only [hne, decide_false]
      exact assoc_ok e (by simpa using hn) hr

/-- a list, a dict or a text at a place -/
theorem get_ok {Q : Value → Shared → Prop} {x i z : PV} {a b : Value} {value : Expr} {slice : RE} (hop : pget x i = some z) (ha : VR prog w C s.heap W x a) (hb : VR prog w C s.heap W i b)
    (h : ∀ v s', Ext [] s s' → VR prog w C s'.heap W z v → Q v s') : wpAny (model prog w) A (subscriptTail value slice.toE a b) Q E s := by
  have hs : ∀ o v, subscripted slice.toE false o v = operate [o, v] (getItem o v) := by
    intro o v
    cases slice <;> rfl
  unfold pget at hop
  split at hop
  · split at hop
    · rename_i hq
      obtain ⟨a', vs, rfl, ha1, ha2, ha3⟩ := ha; obtain ⟨u, rfl⟩ := hb
      have hq := ixI_lt hq
      obtain ⟨v, h1, h2⟩ := VRs.get ha3 hop
      exact tail_any ha2.isList.typeIs slot_list_getitem.lookup (wpAny_getItem_list (x := v) ha2.isList hq.1 (by omega) (by simpa using h1) (h _ _ (Ext.refl _ _) h2)) (hs _ _)
    · cases hop
  · obtain ⟨a', vs, ep, rfl, ha1, ha2, hn, ha3, _⟩ := ha; obtain ⟨u, rfl⟩ := hb
    obtain ⟨v, h1, h2⟩ := assoc_ok hop hn ha3
    have hm := ha2.dictOf.mapOf
    exact tail_any hm.typeIs slot_dict_getitem.lookup (wpAny_getItem_of (intKind_is _ _ _ _) hm h1 (h _ _ (Ext.tok s 1) h2)) (hs _ _)
  · rename_i x k
    split at hop
    · rename_i hq
      obtain ⟨t, rfl⟩ := ha; obtain ⟨u, rfl⟩ := hb
      have hq := ixI_lt hq
      cases hc : x[k.toNat]? with
      | none => rw [hc] at hop; cases hop
      | some c =>
        rw [hc] at hop; cases hop
        have hlt : k.toNat < x.length := (List.getElem?_eq_some_iff.mp hc).1
        refine tail_any (typeIs_str _ _ _) slot_str_getitem.lookup (PyProof.Rows.getItem_str (c := c) (by simp; omega) ?_ (h _ _ (Ext.tok s 1) ⟨_, rfl⟩)) (hs _ _)
        have hk : seqIndex? k x.length = some k.toNat := by
          unfold seqIndex?
          simp; omega
        show ((seqIndex? k x.toArray.size).bind fun y => x.toArray[y]?) = some c
        rw [List.size_toArray, hk]
        simpa using hc
    · cases hop
  · cases hop
end
end Mine

-- part V7
namespace Mine
open PySem PySem.W PyProof.Rows

def CanStore (s : Shared) (env : Env) (x : Str) : Prop :=
  (env.kindOf x = some .local ∧ ∃ m, s.heap.Ns env.locals m) ∨
  (cellish (env.kindOf x) ∧ ∃ c v, env.cells.lookup x = some c ∧ s.heap.IsCell c v)
/-- where a name is written -/
def wat (env : Env) (x : Str) : Addr := match env.kindOf x with
  | some .local => env.locals
  | _ => (env.cells.lookup x).getD 0

/-- a step that may bind names of T anew and write at X -/
structure Mv (env : Env) (T : List Str) (X : List Addr) (s s' : Shared) : Prop where
  ext : Ext X s s'
  look : ∀ x v, x ∉ T → Look s env x v → Look s' env x v
  can : ∀ x, CanStore s env x → CanStore s' env x
theorem Mv.trans {env : Env} {T : List Str} {X : List Addr} {s s₁ s₂ : Shared} (a : Mv env T X s s₁) (b : Mv env T X s₁ s₂) : Mv env T X s s₂ :=
  ⟨a.ext.trans b.ext, fun x v h k => b.look x v h (a.look x v h k), fun x h => b.can x (a.can x h)⟩
theorem Mv.mono {env : Env} {T T' : List Str} {X Y : List Addr} {s s' : Shared} (a : Mv env T X s s') (h : ∀ b ∈ X, b ∈ Y) (k : ∀ x ∈ T, x ∈ T') : Mv env T' Y s s' :=
  ⟨a.ext.mono h, fun x v hx l => a.look x v (fun q => hx (k x q)) l, a.can⟩
theorem CanStore.keep {s s' : Shared} {env : Env} {x : Str} (H : CanStore s env x) (k : ∀ b o, s.heap.get? b = some o → s'.heap.get? b = some o) : CanStore s' env x := by
  rcases H with ⟨a, m, hn⟩ | ⟨a, c, v, hc, hv⟩
  · exact .inl ⟨a, m, hn.keeps k⟩
  · exact .inr ⟨a, c, v, hc, hv.keeps k⟩
theorem CanStore.off {s s' : Shared} {env : Env} {x : Str} {X : List Addr} (H : CanStore s env x) (o : EnvOff env X) (k : ∀ b o, b ∉ X → s.heap.get? b = some o → s'.heap.get? b = some o) : CanStore s' env x := by
  rcases H with ⟨a, m, hn⟩ | ⟨a, c, v, hc, p, hp, hd⟩
  · exact .inl ⟨a, m, hn.at' fun p e => k _ p o.1 e⟩
  · exact .inr ⟨a, c, v, hc, p, k _ p (o.2 x c hc) hp, hd⟩
theorem Mv.off {env : Env} {T : List Str} {X : List Addr} {s s' : Shared} (x : Ext X s s') (o : EnvOff env X) : Mv env T X s s' :=
  ⟨x, fun _ _ _ l => l.off o x.keep, fun _ c => c.off o x.keep⟩
theorem CanStore.wat {s : Shared} {env : Env} {x : Str} (H : CanStore s env x) : wat env x = env.locals ∨ ∃ y c, env.cells.lookup y = some c ∧ wat env x = c := by
  rcases H with ⟨a, _⟩ | ⟨a, c, v, hc, _⟩
  · left; unfold Mine.wat; rw [a]
  · right
    refine ⟨x, c, hc, ?_⟩
    unfold Mine.wat
    rcases a with a | a <;> rw [a] <;> simp [hc]
theorem CanStore.watIn {s : Shared} {env : Env} {x : Str} {W : List Addr} (H : CanStore s env x) (o : EnvIn env W) : Mine.wat env x ∈ W := by
  rcases H.wat with e | ⟨y, c, hc, e⟩
  · rw [e]; exact o.1
  · rw [e]; exact o.2 y c hc
theorem CanStore.watOff {s : Shared} {env : Env} {x : Str} {W : List Addr} (H : CanStore s env x) (o : EnvOff env W) : Mine.wat env x ∉ W := by
  rcases H.wat with e | ⟨y, c, hc, e⟩
  · rw [e]; exact o.1
  · rw [e]; exact o.2 y c hc
theorem Mv.of_ext {env : Env} {T : List Str} {X : List Addr} {s s' : Shared} (x : Ext [] s s') : Mv env T X s s' :=
  ⟨x.mono (by simp), fun _ _ _ l => l.keep fun b o e => x.keep b o (by simp) e, fun _ c => c.keep fun b o e => x.keep b o (by simp) e⟩
theorem Mv.refl (env : Env) (T : List Str) (X : List Addr) (s : Shared) : Mv env T X s s := Mv.of_ext (Ext.refl _ _)

theorem Ns.uniq {h : Heap} {a : Addr} {m m' : Str → Option Value} (x : h.Ns a m) (y : h.Ns a m') (n : Str) : m n = m' n := by
  obtain ⟨o, es, ep, ho, hd, _, hm⟩ := x
  obtain ⟨o', es', ep', ho', hd', _, hm'⟩ := y
  rw [ho] at ho'; cases ho'
  rw [hd] at hd'; cases hd'
  rw [← hm, ← hm']
theorem cell_ne_ns {h : Heap} {a c : Addr} {m : Str → Option Value} {v : Option Value} (x : h.Ns a m) (y : h.IsCell c v) : c ≠ a := by
  rintro rfl
  obtain ⟨o, es, ep, ho, hd, _, hm⟩ := x
  obtain ⟨o', ho', hd'⟩ := y
  rw [ho] at ho'; cases ho'
  rw [hd] at hd'; cases hd'
theorem Ns.some_get {h : Heap} {a : Addr} {m : Str → Option Value} (x : h.Ns a m) : h.get? a ≠ none := by
  obtain ⟨o, es, ep, ho, _⟩ := x
  rw [ho]; exact Option.some_ne_none _
theorem cell_get {h : Heap} {c : Addr} {v : Option Value} (x : h.IsCell c v) : h.get? c ≠ none := by
  obtain ⟨o, ho, _⟩ := x
  rw [ho]; exact Option.some_ne_none _
theorem cellish_not_local {k : Option NameKind} (h : cellish k) (e : k = some .local) : False := by
  rcases h with h | h <;> rw [h] at e <;> cases e

section
variable {M : Model} {A : Around} {E : Value → Shared → Prop} {s : Shared} {env : Env}
theorem store_ok {sc : Scope} {y : Str} {u : Value} {Q : Unit → Shared → Prop} (e : EnvOk sc env) (c : CanStore s env y)
    (h : ∀ s', Mv env [y] [wat env y] s s' → Look s' env y u → Q () s') : wpAny M A (storeName env y u) Q E s := by
  rcases c with ⟨hk, m, hn⟩ | ⟨hk, c, v, hc, hv⟩
  · have hw : wat env y = env.locals := by unfold wat; rw [hk]
    refine wpAny_storeName_local hk hn (fun h' hn' hs => ?_) (by rw [e.fn]; rfl)
    refine h _ ⟨?_, fun x v hx l => ?_, fun x l => ?_⟩ (.inl ⟨hk, _, hn', by simp⟩)
    · rw [hw]; exact Ext.sameBut (Nat.le_succ _) hs
    · rcases l with ⟨a, m₁, hn₁, hm₁⟩ | ⟨a, c, hc, hv⟩
      · refine .inl ⟨a, _, hn', ?_⟩
        have hxy : x ≠ y := fun q => hx (by simp [q])
        simp only [hxy, if_false]
        rw [Ns.uniq hn hn₁]; exact hm₁
      · exact .inr ⟨a, c, hc, hv.sameBut hs (cell_ne_ns hn hv)⟩
    · rcases l with ⟨a, m₁, hn₁⟩ | ⟨a, c, v, hc, hv⟩
      · exact .inl ⟨a, _, hn'⟩
      · exact .inr ⟨a, c, v, hc, hv.sameBut hs (cell_ne_ns hn hv)⟩
  · have hw : wat env y = c := by
      unfold wat
      rcases hk with hk | hk <;> rw [hk] <;> simp [hc]
    have go : ∀ h', h'.IsCell c (some u) → Heap.SameBut c s.heap h' → Q () { s with heap := h' } := fun h' hc' hs => by
      refine h _ ⟨?_, fun x v' hx l => ?_, fun x l => ?_⟩ (.inr ⟨hk, c, hc, hc'⟩)
      · rw [hw]; exact Ext.sameBut (Nat.le_refl _) hs
      · rcases l with ⟨a, m₁, hn₁, hm₁⟩ | ⟨a, c₁, hc₁, hv₁⟩
        · exact .inl ⟨a, m₁, hn₁.sameBut hs (Ne.symm (cell_ne_ns hn₁ hv)), hm₁⟩
        · refine .inr ⟨a, c₁, hc₁, hv₁.sameBut hs ?_⟩
          rintro rfl
          exact hx (by simp [e.apart x y c₁ hc₁ hc])
      · rcases l with ⟨a, m₁, hn₁⟩ | ⟨a, c₁, v₁, hc₁, hv₁⟩
        · exact .inl ⟨a, m₁, hn₁.sameBut hs (Ne.symm (cell_ne_ns hn₁ hv))⟩
        · by_cases q : c₁ = c
          · subst q; exact .inr ⟨a, c₁, _, hc₁, hc'⟩
          · exact .inr ⟨a, c₁, v₁, hc₁, hv₁.sameBut hs q⟩
    rcases hk with hk | hk
    · exact wpAny_storeName_cell e.fn hk hc hv go
    · unfold storeName
      simp only [hk, e.fn]
      exact wpAny_bind (wpAny_cellOf hc (wpAny_cellSet hv go))
end

/-- the same, or the same up to order -/
def Sim {α : Type} (b : Bool) (o' o : List α) : Prop := match b with
  | true => o'.Perm o
  | false => o' = o
theorem Sim.perm {α : Type} {b : Bool} {o' o : List α} (h : Sim b o' o) : o'.Perm o := by
  cases b
  · rw [show o' = o from h]
  · exact h
theorem Sim.append {α : Type} {b b' : Bool} {o' o p' p : List α} (h : Sim b o' o) (k : Sim b' p' p) : Sim (b || b') (o' ++ p') (o ++ p) := by
  cases b
  · cases b'
    · rw [show o' = o from h, show p' = p from k]; rfl
    · rw [show o' = o from h]; exact List.Perm.append_left _ k
  · exact List.Perm.append h k.perm
theorem Sim.weak {α : Type} {b : Bool} {o' o : List α} (c : Bool) (h : Sim b o' o) : Sim (c || b) o' o := by
  cases c
  · exact h
  · exact h.perm

theorem plevel_perm {α : Type} {rec : Rho → RE → Option PV} {t : RT} {ifs : List RE} {k : Rho → Option (List α × Bool)} {ρ : Rho} {xs xs' : List PV} (hp : xs'.Perm xs) :
    ∀ {o : List α} {b : Bool}, plevel rec t ifs k xs ρ = some (o, b) → ∃ o', plevel rec t ifs k xs' ρ = some (o', b) ∧ o'.Perm o := by
  induction hp with
  | nil => intro o b h; exact ⟨o, h, List.Perm.refl _⟩
  | cons v hp ih =>
    rename_i l₁ l₂
    intro o b h
    unfold plevel at h ⊢
    cases h1 : bindT t v ρ with
    | none => rw [h1] at h; cases h
    | some ρ' =>
      rw [h1] at h
      dsimp only at h ⊢
      cases h2 : ptests rec ρ' ifs with
      | none => rw [h2] at h; cases h
      | some c =>
        rw [h2] at h
        cases c with
        | false => dsimp only at h ⊢; exact ih h
        | true =>
          dsimp only at h ⊢
          cases h3 : k ρ' with
          | none => rw [h3] at h; cases h
          | some q =>
            obtain ⟨o1, b1⟩ := q
            rw [h3] at h
            dsimp only at h ⊢
            cases h4 : plevel rec t ifs k l₂ ρ with
            | none => rw [h4] at h; cases h
            | some q =>
              obtain ⟨o2, b2⟩ := q
              rw [h4] at h
              cases h
              obtain ⟨o3, e3, p3⟩ := ih h4
              rw [e3]
              exact ⟨_, rfl, List.Perm.append_left _ p3⟩
  | swap u v l =>
    intro o b h
    unfold plevel at h ⊢
    unfold plevel at h ⊢
    cases h1 : bindT t u ρ with
    | none => rw [h1] at h; cases h
    | some ρ1 =>
      cases h2 : bindT t v ρ with
      | none =>
        rw [h1, h2] at h
        dsimp only at h
        exfalso
        revert h
        cases ptests rec ρ1 ifs with
        | none => intro h; cases h
        | some c => cases c with
          | false => intro h; cases h
          | true => cases k ρ1 with
            | none => intro h; cases h
            | some q => intro h; cases h
      | some ρ2 =>
        rw [h1, h2] at h
        dsimp only at h ⊢
        cases h3 : ptests rec ρ1 ifs with
        | none => rw [h3] at h; cases h
        | some c1 =>
          cases h4 : ptests rec ρ2 ifs with
          | none =>
            rw [h3, h4] at h
            cases c1 with
            | false => cases h
            | true => dsimp only at h; cases hk : k ρ1 with
              | none => rw [hk] at h; cases h
              | some q => rw [hk] at h; cases h
          | some c2 =>
            rw [h3, h4] at h
            cases c1 <;> cases c2 <;> dsimp only at h ⊢
            · exact ⟨o, h, List.Perm.refl _⟩
            · cases hk : k ρ2 with
              | none => rw [hk] at h; cases h
              | some q =>
                rw [hk] at h
                dsimp only at h ⊢
                exact ⟨o, h, List.Perm.refl _⟩
            · cases hk : k ρ1 with
              | none => rw [hk] at h; cases h
              | some q =>
                rw [hk] at h
                dsimp only at h ⊢
                exact ⟨o, h, List.Perm.refl _⟩
            · cases hk : k ρ1 with
              | none => rw [hk] at h; cases h
              | some q =>
                cases hk2 : k ρ2 with
                | none => rw [hk, hk2] at h; cases h
                | some q2 =>
                  rw [hk, hk2] at h
                  obtain ⟨o1, b1⟩ := q
                  obtain ⟨o2, b2⟩ := q2
                  dsimp only at h ⊢
                  cases hr : plevel rec t ifs k l ρ with
                  | none => rw [hr] at h; cases h
                  | some q =>
                    obtain ⟨o3, b3⟩ := q
                    rw [hr] at h
                    cases h
                    refine ⟨_, by rw [Bool.or_left_comm], ?_⟩
                    rw [← List.append_assoc, ← List.append_assoc]
                    exact List.Perm.append_right _ List.perm_append_comm
  | trans _ _ ih1 ih2 =>
    intro o b h
    obtain ⟨o', e', p'⟩ := ih2 h
    obtain ⟨o'', e'', p''⟩ := ih1 e'
    exact ⟨o'', e'', p''.trans p'⟩
end Mine

-- part V8
namespace Mine
open PySem PySem.W PyProof.Rows

theorem nmTab_ok : nmTab.Nodup ∧ ("?" : Str) ∉ nmTab := by decide +kernel
theorem nmS_inj {x y : Nat} (hx : x < nmTab.length) (e : nmS x = nmS y) : x = y := by
  unfold nmS at e
  rw [List.getD_eq_getElem?_getD, List.getD_eq_getElem?_getD, List.getElem?_eq_getElem hx] at e
  cases hy : nmTab[y]? with
  | none =>
    rw [hy] at e
    have e' : nmTab[x] = ("?" : Str) := by simpa using e
    exact absurd (e' ▸ List.getElem_mem hx) nmTab_ok.2
  | some z =>
    rw [hy] at e
    obtain ⟨hy', rfl⟩ := List.getElem?_eq_some_iff.mp hy
    exact (List.getElem_inj nmTab_ok.1).mp e

def RT.names : RT → List Nat
  | .nm x _ => [x]
  | .tp x _ y _ _ _ => [x, y]
def RT.strs (t : RT) : List Str := t.names.map nmS

section
variable {prog : Program} {w : World} {C : Addr} {h₀ : Heap}

theorem VR.mv {s s' : Shared} {X W : List Addr} {p : PV} {v : Value} (x : Ext X s s') (hX : ∀ b ∈ X, b ∈ W) (H : VR prog w C s.heap W p v) : VR prog w C s'.heap W p v :=
  VR.mono (fun b o hb e => ⟨x.keep b o (fun q => hb (hX b q)) e, hb⟩) p v H
theorem VRs.mv {s s' : Shared} {X W : List Addr} {p : List PV} {v : List Value} (x : Ext X s s') (hX : ∀ b ∈ X, b ∈ W) (H : VRs prog w C s.heap W p v) : VRs prog w C s'.heap W p v :=
  VRs.mono (fun b o hb e => ⟨x.keep b o (fun q => hb (hX b q)) e, hb⟩) p v H
theorem RhoOk.mv {s s' : Shared} {env : Env} {T : List Str} {X W : List Addr} {ρ : Rho} (m : Mv env T X s s') (hX : ∀ b ∈ X, b ∈ W) (hT : ∀ x p, look ρ x = some p → nmS x ∉ T) (H : RhoOk prog w C s env W ρ) : RhoOk prog w C s' env W ρ :=
  fun y p e => let ⟨v, h1, h2⟩ := H y p e; ⟨v, m.look _ _ (hT y p e) h1, h2.mv m.ext hX⟩
theorem Ok.mv {l : Nat} {sc : Scope} {A : Around} {env : Env} {s s' : Shared} {T : List Str} {X W : List Addr} {ρ : Rho} (H : Ok prog w C h₀ l sc A env s W ρ) (m : Mv env T X s s') (hX : ∀ b ∈ X, b ∈ W) (hT : ∀ x p, look ρ x = some p → nmS x ∉ T) :
    Ok prog w C h₀ l sc A env s' W ρ :=
  ⟨H.a, H.e, fun b o e => m.ext.keep b o (fun q => by rw [H.base b (hX b q)] at e; cases e) (H.old b o e), Nat.lt_of_lt_of_le H.tk m.ext.toks, fun b hb => Nat.lt_of_lt_of_le (H.live b hb) m.ext.size, H.base, H.inW, Nat.lt_of_lt_of_le H.sz m.ext.size, H.rho.mv m hX hT⟩

/-- the names of a target, bound -/
def Bound (s : Shared) (env : Env) (W : List Addr) : RT → PV → Prop := fun t p => match t, p with
  | .nm x _, p => ∃ v, Look s env (nmS x) v ∧ VR prog w C s.heap W p v
  | .tp x _ y _ _ _, .tup [p, q] => (∃ v, Look s env (nmS x) v ∧ VR prog w C s.heap W p v) ∧ (∃ v, Look s env (nmS y) v ∧ VR prog w C s.heap W q v)
  | _, _ => False
variable (prog w C) in
/-- a walk over the items xs; Xo: what may be written meanwhile by others -/
structure Wk (A : Around) (env : Env) (W : List Addr) (t : RT) (I : Addr) (wr Xo : List Addr) (xs : List PV) (St : Nat → Heap → Prop) : Prop where
  keep : ∀ i h h', St i h → (∀ b o, b ∉ Xo → h.get? b = some o → h'.get? b = some o) → St i h'
  turn : ∀ i p s (Q : Unit → Shared → Prop) (E : Value → Shared → Prop), xs[i]? = some p → St i s.heap → (∀ x ∈ t.names, CanStore s env (nmS x)) →
    (∀ s', Mv env t.strs (wr ++ t.names.map fun x => wat env (nmS x)) s s' → St (i + 1) s'.heap → Bound (prog := prog) (w := w) (C := C) s' env W t p → Q () s') →
    wpAny (model prog w) A (pyNext (.ref I)) (fun r s₁ => ∃ v, r = some v ∧ wpAny (model prog w) A (letOwnedTupleGo t.toE (.ref I) v) (fun _ s₂ => wpAny (model prog w) A (assign t.toE env v) Q E s₂) E s₁) E s
  done : ∀ s (Q : Option Value → Shared → Prop) (E : Value → Shared → Prop), St xs.length s.heap → (∀ s', Mv env [] wr s s' → Q none s') → wpAny (model prog w) A (pyNext (.ref I)) Q E s
  self : ∀ i s (Q E : Value → Shared → Prop), St i s.heap → Q (.ref I) s → wpAny (model prog w) A (pyIter (.ref I)) Q E s

def turnTree (e : Expr) (depth : Nat) (it acc : Value) (env : Env) (t : Expr) (ipos : Pos) (ifs : List Expr) (K : Sem Unit) : Sem Fin := do
  standAt ipos
  match ← pyNext it with
  | none => pure (.done .next)
  | some v =>
    letOwnedTupleGo t it v
    assign t env v
    let mut ok := true
    for c in ifs do
      if ok then ok ← isTrue c env (eval c env)
    if ok then K
    again (.compLoop e depth it acc env)

section
variable {A : Around} {R : Result → Shared → Prop}
theorem loopK {e : Expr} {depth : Nat} {it acc : Value} {env : Env} {t : Expr} {ipos : Pos} {ifs : List Expr} {K : Sem Unit} (hq : (Code.compLoop e depth it acc env).quiet = true)
    (hden : ∀ s Q E, wpAny (model prog w) A ((turnTree e depth it acc env t ipos ifs K).onRaise (fun x => do noteFrame x env; theTreesLotGoes x)) Q E s →
      wpAny (model prog w) (A.under (.compLoop e depth it acc env)) ((model prog w).den (.compLoop e depth it acc env)) Q E s)
    (I : Nat → Shared → Prop)
    (turn : ∀ n s, I n s → ∀ E' : Value → Shared → Prop, wpAny (model prog w) A (pyNext it) (fun r s₁ => match r with
      | none => R (.ok .next) s₁
      | some v => wpAny (model prog w) A (letOwnedTupleGo t it v) (fun _ s₂ => wpAny (model prog w) A (assign t env v) (fun _ s₃ =>
          wpAny (model prog w) A (forIn ifs true fun c r => if r = true then do let ok ← isTrue c env (eval c env); pure (ForInStep.yield ok) else pure (ForInStep.yield r)) (fun ok s₄ =>
            if ok = true then wpAny (model prog w) A K (fun _ s₅ => ∃ m, m < n ∧ I m s₅) E' s₄
            else ∃ m, m < n ∧ I m s₄) E' s₃) E' s₂) E' s₁) E' s)
    (n : Nat) {s : Shared} (h : I n s) : codeAny (model prog w) A (.compLoop e depth it acc env) R s := by
  refine codeAny_loop hq I (fun n s hI => hden _ _ _ ?_) n h
  refine wpAny_noted ?_
  unfold turnTree
  refine wpAny_bind (wpAny_standAt (wpAny_bind (wpAny_mono (turn n s hI _) (fun r s₁ h₁ => ?_) fun _ _ h' => h')))
  cases r with
  | none => exact wpAny_pure h₁
  | some v =>
    refine wpAny_bind (wpAny_mono h₁ (fun _ s₂ h₂ => ?_) fun _ _ h' => h')
    refine wpAny_bind (wpAny_mono h₂ (fun _ s₃ h₃ => wpAny_bind (wpAny_mono h₃ (fun ok s₄ h₄ => ?_) fun _ _ h' => h')) fun _ _ h' => h')
    cases ok with
    | false => exact wpAny_pure ⟨rfl, h₄⟩
    | true => exact wpAny_bind (wpAny_mono h₄ (fun _ s₅ h₅ => wpAny_pure ⟨rfl, h₅⟩) fun _ _ h' => h')
end
end
end Mine

-- part V9
namespace Mine
open PySem PySem.W PyProof.Rows

section
variable {prog : Program} {w : World} {C : Addr} {h₀ : Heap}

variable (prog w C h₀) in
/-- rec tells the truth of tests -/
def SoundB (sc : Scope) (l : Nat) (rec : Rho → RE → Option PV) (e : RE) : Prop :=
  ∀ A env s W ρ v b (Q : Bool → Shared → Prop) (E : Value → Shared → Prop), Ok prog w C h₀ l sc A env s W ρ → rec ρ e = some v → truth v = some b → (∀ s', Ext [] s s' → Q b s') →
    wpAny (model prog w) A (isTrue e.toE env (eval e.toE env)) Q E s
variable (prog w C h₀) in
def SoundV (sc : Scope) (l : Nat) (rec : Rho → RE → Option PV) (e : RE) : Prop :=
  ∀ A env s W ρ v, Ok prog w C h₀ l sc A env s W ρ → rec ρ e = some v → Gives prog w C A env s W e.toE v

theorem toEs_map : ∀ l : List RE, toEs l = l.map RE.toE
  | [] => rfl
  | e :: r => by rw [toEs, toEs_map r]; rfl

theorem tests_ok {sc : Scope} {l : Nat} {rec : Rho → RE → Option PV} {A : Around} {env : Env} {W : List Addr} {ρ : Rho} {E : Value → Shared → Prop} :
    ∀ {ifs : List RE} (_ : ∀ e ∈ ifs, SoundB prog w C h₀ sc l rec e) {s : Shared} {b : Bool} {Q : Bool → Shared → Prop} (_ : Ok prog w C h₀ l sc A env s W ρ) (_ : ptests rec ρ ifs = some b) (_ : ∀ s', Ext [] s s' → Q b s'),
      wpAny (model prog w) A (forIn (toEs ifs) true fun c r => if r = true then do let ok ← isTrue c env (eval c env); pure (ForInStep.yield ok) else pure (ForInStep.yield r)) Q E s
  | [], _, s, b, Q, _, hp, h => by
    cases hp
    simp only [toEs, List.forIn_nil]
    exact wpAny_pure (h _ (Ext.refl _ _))
  | e :: r, hs, s, b, Q, ok, hp, h => by
    have hf : ∀ (l : List Expr) s (Q : Bool → Shared → Prop), Q false s → wpAny (model prog w) A (forIn l false fun c r => if r = true then do let ok ← isTrue c env (eval c env); pure (ForInStep.yield ok) else pure (ForInStep.yield r)) Q E s := by
      intro l
      induction l with
      | nil => intro s Q h; simp only [List.forIn_nil]; exact wpAny_pure h
      | cons a l ih =>
        intro s Q h
        simp only [List.forIn_cons, Bool.false_eq_true, if_false, pure_bind]
        exact ih s Q h
    unfold ptests at hp
    cases h1 : rec ρ e with
    | none => rw [h1] at hp; cases hp
    | some v =>
      cases h2 : truth v with
      | none => rw [h1] at hp; dsimp only at hp; rw [h2] at hp; cases hp
      | some c =>
        rw [h1] at hp; dsimp only at hp; rw [h2] at hp
        simp only [toEs, List.forIn_cons, if_true, bind_assoc, pure_bind]
        refine wpAny_bind (hs e (by simp) A env s W ρ v c _ _ ok h1 h2 fun s' x => ?_)
        cases c with
        | false => cases hp; exact hf _ _ _ (h s' x)
        | true => exact tests_ok (fun e he => hs e (by simp [he])) (ok.ext x) hp fun s'' x' => h s'' (x.trans x')

theorem look_cons (x : Nat) (v : PV) (ρ : Rho) (z : Nat) : look ((x, v) :: ρ) z = if x = z then some v else look ρ z := by
  rw [look]
  cases h : Nat.beq x z with
  | true => rw [if_pos (Nat.eq_of_beq_eq_true h)]
  | false => rw [if_neg (Nat.ne_of_beq_eq_false h)]
theorem bindT_nm {x : Nat} {px : Pos} {v : PV} {ρ ρ' : Rho} (hb : bindT (.nm x px) v ρ = some ρ') : look ρ x = none ∧ ρ' = (x, v) :: ρ := by
  have e : bindT (.nm x px) v ρ = match look ρ x with | none => some ((x, v) :: ρ) | some _ => none := by cases v <;> rfl
  rw [e] at hb
  cases hl : look ρ x with
  | some q => rw [hl] at hb; cases hb
  | none => rw [hl] at hb; cases hb; exact ⟨rfl, rfl⟩
theorem bindT_tp {x y k : Nat} {px py pp : Pos} {v : PV} {ρ ρ' : Rho} (hb : bindT (.tp x px y py k pp) v ρ = some ρ') : ∃ p q, v = .tup [p, q] ∧ look ρ x = none ∧ look ((x, p) :: ρ) y = none ∧ ρ' = (y, q) :: (x, p) :: ρ := by
  cases v with
  | tup l =>
    cases l with
    | nil => cases hb
    | cons p l => cases l with
      | nil => cases hb
      | cons q l => cases l with
        | cons r l => cases hb
        | nil =>
          rw [bindT] at hb
          cases hl : look ρ x with
          | some q => rw [hl] at hb; cases hb
          | none =>
            rw [hl] at hb; dsimp only at hb
            cases hl2 : look ((x, p) :: ρ) y with
            | some q => rw [hl2] at hb; cases hb
            | none => rw [hl2] at hb; cases hb; exact ⟨p, q, rfl, rfl, hl2, rfl⟩
  | _ => cases hb

theorem bindT_rho {s : Shared} {env : Env} {W : List Addr} {t : RT} {p : PV} {ρ ρ' : Rho} (hb : bindT t p ρ = some ρ') (H : RhoOk prog w C s env W ρ) (B : Bound (prog := prog) (w := w) (C := C) s env W t p) : RhoOk prog w C s env W ρ' := by
  cases t with
  | nm x px =>
    obtain ⟨_, rfl⟩ := bindT_nm hb
    intro y q hy
    rw [look_cons] at hy
    by_cases h : x = y
    · rw [if_pos h] at hy; cases hy; subst h; exact B
    · rw [if_neg h] at hy; exact H y q hy
  | tp x px y py k pp =>
    obtain ⟨p, q, rfl, _, _, rfl⟩ := bindT_tp hb
    intro z u hz
    rw [look_cons, look_cons] at hz
    by_cases h : y = z
    · rw [if_pos h] at hz; cases hz; subst h; exact B.2
    · rw [if_neg h] at hz
      by_cases h' : x = z
      · rw [if_pos h'] at hz; cases hz; subst h'; exact B.1
      · rw [if_neg h'] at hz; exact H z u hz

theorem bindT_free {t : RT} {p : PV} {ρ ρ' : Rho} (hb : bindT t p ρ = some ρ') : ∀ x ∈ t.names, look ρ x = none := by
  cases t with
  | nm x px => intro y hy; simp [RT.names] at hy; rw [hy]; exact (bindT_nm hb).1
  | tp x px y py k pp =>
    obtain ⟨p, q, rfl, h1, h2, _⟩ := bindT_tp hb
    intro z hz
    simp [RT.names] at hz
    rcases hz with rfl | rfl
    · exact h1
    · rw [look_cons] at h2
      by_cases h : x = z
      · rw [if_pos h] at h2; cases h2
      · rw [if_neg h] at h2; exact h2
theorem bindT_old {t : RT} {p : PV} {ρ ρ' : Rho} (hb : bindT t p ρ = some ρ') (x : Nat) (q : PV) (hx : look ρ x = some q) : look ρ' x = some q := by
  cases t with
  | nm y px =>
    obtain ⟨h, rfl⟩ := bindT_nm hb
    rw [look_cons, if_neg (by rintro rfl; rw [h] at hx; cases hx)]; exact hx
  | tp y px z py k pp =>
    obtain ⟨p, q, rfl, h1, h2, rfl⟩ := bindT_tp hb
    rw [look_cons] at h2
    have hz : z ≠ x := by
      rintro rfl
      by_cases h : y = z
      · rw [if_pos h] at h2; cases h2
      · rw [if_neg h, hx] at h2; cases h2
    rw [look_cons, if_neg hz, look_cons, if_neg (by rintro rfl; rw [h1] at hx; cases hx)]; exact hx

/-- what a comprehension fills -/
structure Acc (α : Type) where
  rel : List Addr → List α → Shared → Prop
  D : Addr
  fin : List α → Prop
  keep : ∀ W W' outs s s', (∀ b o, b ∉ W → s.heap.get? b = some o → s'.heap.get? b = some o ∧ b ∉ W') → (∀ o, s.heap.get? D = some o → s'.heap.get? D = some o) → rel W outs s → rel W' outs s'
  sub : ∀ l r, fin (l ++ r) → fin l
  perm : ∀ l r, l.Perm r → fin l → fin r

theorem Acc.mv {α : Type} (a : Acc α) {W X : List Addr} {outs : List α} {s s' : Shared} (x : Ext X s s') (hX : ∀ b ∈ X, b ∈ W) (hD : a.D ∉ X) (H : a.rel W outs s) : a.rel W outs s' :=
  a.keep W W outs s s' (fun b o hb e => ⟨x.keep b o (fun q => hb (hX b q)) e, hb⟩) (fun o e => x.keep _ o hD e) H

theorem look_bound_ne {t : RT} {ρ : Rho} (hn : ∀ x ∈ t.names, x < nmTab.length ∧ look ρ x = none) : ∀ x p, look ρ x = some p → nmS x ∉ t.strs := by
  intro x p e hm
  obtain ⟨y, hy, he⟩ := List.mem_map.mp hm
  have := nmS_inj (hn y hy).1 he
  subst this
  rw [(hn y hy).2] at e; cases e

variable {α : Type}
theorem level_ok {sc : Scope} {l : Nat} {rec : Rho → RE → Option PV} {A : Around} {env : Env} {W : List Addr} {ρ : Rho} {t : RT} {ifs : List RE} {kev : Rho → Option (List α × Bool)} {xs : List PV}
    {I : Addr} {wr Xo : List Addr} {St : Nat → Heap → Prop} {Tin Tall : List Str} (acc : Acc α) {e : Expr} {depth : Nat} {ipos : Pos} {K : Sem Unit} {R : Result → Shared → Prop} {av : Value}
    (hq : (Code.compLoop e depth (.ref I) av env).quiet = true)
    (hden : ∀ s Q E, wpAny (model prog w) A ((turnTree e depth (.ref I) av env t.toE ipos (toEs ifs) K).onRaise (fun x => do noteFrame x env; theTreesLotGoes x)) Q E s →
      wpAny (model prog w) (A.under (.compLoop e depth (.ref I) av env)) ((model prog w).den (.compLoop e depth (.ref I) av env)) Q E s)
    (wk : Wk prog w C A env W t I wr Xo xs St)
    (hsub : ∀ b ∈ wr, b ∈ W) (hwt : ∀ x ∈ t.names, wat env (nmS x) ∈ W) (hXo : ∀ b ∈ Xo, b ∈ W) (hDw : acc.D ∉ wr) (hDt : ∀ x ∈ t.names, acc.D ≠ wat env (nmS x))
    (htn : ∀ x ∈ t.names, x < nmTab.length) (htall : ∀ y ∈ t.strs, y ∈ Tall) (hin : ∀ x p, look ρ x = some p → nmS x ∉ Tin)
    (htests : ∀ e ∈ ifs, SoundB prog w C h₀ sc l rec e)
    (hK : ∀ ρ' s outs o b (Q : Unit → Shared → Prop) (E : Value → Shared → Prop), Ok prog w C h₀ l sc A env s W ρ' → (∀ y ∈ Tall, CanStore s env y) → acc.rel W outs s → kev ρ' = some (o, b) → acc.fin (outs ++ o) → (∀ x p, look ρ x = some p → look ρ' x = some p) →
      (∀ s' o', Mv env Tin Xo s s' → acc.rel W (outs ++ o') s' → Sim b o' o → Q () s') → wpAny (model prog w) A K Q E s)
    {s : Shared} {outs o : List α} {b : Bool} (ok : Ok prog w C h₀ l sc A env s W ρ) (can : ∀ y ∈ Tall, CanStore s env y) (st : St 0 s.heap) (ac : acc.rel W outs s) (hp : plevel rec t ifs kev xs ρ = some (o, b)) (hfin : acc.fin (outs ++ o))
    (hR : ∀ s' o', Mv env (t.strs ++ Tin) (wr ++ (t.names.map fun x => wat env (nmS x)) ++ Xo) s s' → acc.rel W (outs ++ o') s' → Sim b o' o → R (.ok .next) s') :
    codeAny (model prog w) A (.compLoop e depth (.ref I) av env) R s := by
  refine loopK hq hden (fun n s' => ∃ i done done' bd rest br, n = xs.length + 1 - i ∧ i ≤ xs.length ∧ Mv env (t.strs ++ Tin) (wr ++ (t.names.map fun x => wat env (nmS x)) ++ Xo) s s' ∧ Ok prog w C h₀ l sc A env s' W ρ ∧ St i s'.heap ∧
    acc.rel W (outs ++ done') s' ∧ Sim bd done' done ∧ plevel rec t ifs kev (xs.drop i) ρ = some (rest, br) ∧ o = done ++ rest ∧ b = (bd || br)) ?_ (xs.length + 1)
    ⟨0, [], [], false, o, b, rfl, Nat.zero_le _, Mv.refl _ _ _ _, ok, st, by simpa using ac, rfl, by simpa using hp, rfl, by simp⟩
  rintro n s₁ ⟨i, done, done', bd, rest, br, rfl, hi, mv, ok₁, st₁, ac₁, sim₁, hp₁, rfl, rfl⟩ E'
  rcases Nat.lt_or_ge i xs.length with hlt | hge
  · rw [List.drop_eq_getElem_cons hlt] at hp₁
    unfold plevel at hp₁
    cases hb : bindT t xs[i] ρ with
    | none => rw [hb] at hp₁; cases hp₁
    | some ρ' =>
      rw [hb] at hp₁; (try dsimp only at hp₁)
      have hfree := bindT_free hb
      have can₁ : ∀ y ∈ Tall, CanStore s₁ env y := fun y hy => mv.can y (can y hy)
      have hXX : ∀ b ∈ wr ++ (t.names.map fun x => wat env (nmS x)), b ∈ W := by
        intro b hb
        rcases List.mem_append.mp hb with h | h
        · exact hsub b h
        · obtain ⟨x, hx, rfl⟩ := List.mem_map.mp h; exact hwt x hx
      have hDD : acc.D ∉ wr ++ (t.names.map fun x => wat env (nmS x)) := by
        intro hm
        rcases List.mem_append.mp hm with h | h
        · exact hDw h
        · obtain ⟨x, hx, e⟩ := List.mem_map.mp h; exact hDt x hx e.symm
      have hne := look_bound_ne (t := t) (ρ := ρ) fun x hx => ⟨htn x hx, hfree x hx⟩
      refine wpAny_mono (wk.turn i xs[i] s₁ (fun _ s₃ => Mv env t.strs (wr ++ t.names.map fun x => wat env (nmS x)) s₁ s₃ ∧ St (i + 1) s₃.heap ∧ Bound (prog := prog) (w := w) (C := C) s₃ env W t xs[i]) E' (by simp [hlt]) st₁ (fun x hx => can₁ _ (htall _ (List.mem_map.mpr ⟨x, hx, rfl⟩))) fun s' m st' bd => ⟨m, st', bd⟩) ?_ fun _ _ h => h
      rintro r s₂ ⟨v, rfl, h₂⟩
      refine wpAny_mono h₂ (fun _ s₃ h₃ => wpAny_mono h₃ (fun _ s₄ h₄ => ?_) fun _ _ h => h) fun _ _ h => h
      obtain ⟨m, st₄, bnd⟩ := h₄
      have ok₄ : Ok prog w C h₀ l sc A env s₄ W ρ := ok₁.mv m hXX hne
      have ok₄' : Ok prog w C h₀ l sc A env s₄ W ρ' := { ok₄ with rho := bindT_rho hb ok₄.rho bnd }
      have ac₄ : acc.rel W (outs ++ done') s₄ := acc.mv m.ext hXX hDD ac₁
      have mv₄ : Mv env (t.strs ++ Tin) (wr ++ (t.names.map fun x => wat env (nmS x)) ++ Xo) s s₄ := mv.trans (m.mono (fun b hb => by simp only [List.mem_append] at hb ⊢; exact .inl hb) (fun x hx => by simp [hx]))
      cases ht : ptests rec ρ' ifs with
      | none => rw [ht] at hp₁; cases hp₁
      | some c =>
        rw [ht] at hp₁; (try dsimp only at hp₁)
        refine tests_ok htests ok₄' ht fun s₅ x₅ => ?_
        have m₅ : Mv env [] [] s₄ s₅ := Mv.of_ext x₅
        have st₅ : St (i + 1) s₅.heap := wk.keep _ _ _ st₄ fun b o _ e => x₅.keep b o (by simp) e
        have ac₅ := acc.mv x₅ (by simp) (by simp) ac₄
        have mv₅ := mv₄.trans (m₅.mono (by simp) (by simp) : Mv env (t.strs ++ Tin) (wr ++ (t.names.map fun x => wat env (nmS x)) ++ Xo) s₄ s₅)
        cases c with
        | false =>
          (try dsimp only at hp₁)
          simp only [Bool.false_eq_true, if_false]
          exact ⟨xs.length + 1 - (i + 1), by omega, i + 1, done, done', bd, rest, br, rfl, hlt, mv₅, ok₄.ext x₅, st₅, ac₅, sim₁, hp₁, rfl, rfl⟩
        | true =>
          (try dsimp only at hp₁)
          cases hk : kev ρ' with
          | none => rw [hk] at hp₁; cases hp₁
          | some q =>
            obtain ⟨o₁, b₁⟩ := q
            rw [hk] at hp₁; (try dsimp only at hp₁)
            cases hr : plevel rec t ifs kev (xs.drop (i + 1)) ρ with
            | none => rw [hr] at hp₁; cases hp₁
            | some q =>
              obtain ⟨o₂, b₂⟩ := q
              rw [hr] at hp₁; cases hp₁
              simp only [if_true]
              have hf₁ : acc.fin ((outs ++ done') ++ o₁) := by
                refine acc.sub _ o₂ (acc.perm _ _ ?_ hfin)
                have := sim₁.perm
                simp only [List.append_assoc]
                exact List.Perm.append_left _ (List.Perm.append_right _ this.symm)
              refine hK ρ' s₅ _ o₁ b₁ _ _ (ok₄'.ext x₅) (fun y hy => m₅.can y (m.can y (can₁ y hy))) ac₅ hk hf₁ ?_ fun s₆ o' m₆ ac₆ sim₆ => ?_
              · exact bindT_old hb
              · refine ⟨xs.length + 1 - (i + 1), by omega, i + 1, done ++ o₁, done' ++ o', bd || b₁, o₂, b₂, rfl, hlt, mv₅.trans (m₆.mono (by intro b hb; simp [hb]) (by intro x hx; simp [hx])), ?_, ?_, ?_, sim₁.append sim₆, hr, by simp, by rw [Bool.or_assoc]⟩
                · exact (ok₄.ext x₅).mv m₆ hXo hin
                · exact wk.keep _ _ _ st₅ fun b o hb e => m₆.ext.keep b o hb e
                · simpa using ac₆
  · have hi' : i = xs.length := Nat.le_antisymm hi hge
    subst hi'
    rw [List.drop_length] at hp₁
    cases hp₁
    refine wpAny_mono (wk.done s₁ (fun r s₂ => r = none ∧ Mv env [] wr s₁ s₂) E' st₁ fun s' m => ⟨rfl, m⟩) ?_ fun _ _ h => h
    rintro r s₂ ⟨rfl, m⟩
    refine hR s₂ done' (mv.trans (m.mono (by intro b hb; simp [hb]) (by simp))) (acc.mv m.ext hsub hDw ac₁) ?_
    simpa using sim₁
end
end Mine

-- part V10
namespace Mine
open PySem PySem.W PyProof.Rows

section
variable {prog : Program} {w : World} {C : Addr} {h₀ : Heap}

/-- a walk that binds one name -/
theorem Wk.ofName {sc : Scope} {A : Around} {env : Env} {W : List Addr} {x : Nat} {px : Pos} {I : Addr} {fp wr Xo : List Addr} {xs : List PV} {P : Nat → Value → Prop} {St : Nat → Heap → Prop} {Tr : Heap → Prop}
    (e : EnvOk sc env) (inW : EnvIn env W) (off : EnvOff env fp) (Wl : Walks prog w A I fp wr xs.length P St) (hwr : ∀ b ∈ wr, b ∈ W) (hXo : ∀ b ∈ Xo, b ∈ W ∧ b ∉ fp)
    (hTr : ∀ h h', Tr h → (∀ b o, b ∉ W → h.get? b = some o → h'.get? b = some o) → Tr h')
    (hP : ∀ i h v p, xs[i]? = some p → Tr h → P i v → VR prog w C h W p v) :
    Wk prog w C A env W (.nm x px) I wr Xo xs (fun i h => St i h ∧ Tr h) where
  keep := fun i h h' st k => ⟨Wl.frame i h h' st.1 fun b hb o e => k b o (fun q => (hXo b q).2 hb) e, hTr h h' st.2 fun b o hb e => k b o (fun q => hb (hXo b q).1) e⟩
  turn := fun i p s Q E hx st can h => by
    have hi : i < xs.length := (List.getElem?_eq_some_iff.mp hx).1
    have offw : EnvOff env wr := ⟨fun q => off.1 (Wl.sub _ q), fun y c hc q => off.2 y c hc (Wl.sub _ q)⟩
    refine grown (Wl.item i s _ _ hi st.1 fun v h' tk hPv st' k htk hsz => ⟨v, rfl, wpAny_pure (wpAny_assign_Name ?_)⟩)
    have x₁ : Ext wr s { s with heap := h', toks := tk } := Ext.mk' htk hsz k
    have m₁ : Mv env [nmS x] wr s { s with heap := h', toks := tk } := Mv.off x₁ offw
    have tr' : Tr h' := hTr _ _ st.2 fun b o hb e => k b o (fun q => hb (hwr b q)) e
    have can₁ := m₁.can _ (can x (by simp [RT.names]))
    refine store_ok e can₁ fun s' m₂ lk => ?_
    have hw : ∀ b ∈ [wat env (nmS x)], b ∈ W := by intro b hb; simp at hb; rw [hb]; exact can₁.watIn inW
    have hwo : ∀ b ∈ fp, b ∉ [wat env (nmS x)] := by intro b hb q; simp at q; rw [q] at hb; exact can₁.watOff off hb
    refine h s' ?_ ⟨?_, ?_⟩ ⟨v, lk, (hP i h' v p hx tr' hPv).mv m₂.ext hw⟩
    · have := (m₁.mono (X := wr) (Y := wr ++ [wat env (nmS x)]) (T' := [nmS x]) (by intro b hb; simp [hb]) (by simp)).trans (m₂.mono (by intro b hb; simp at hb; simp [hb]) (by simp))
      exact this
    · exact Wl.frame _ _ _ st' fun b hb o e => m₂.ext.keep b o (hwo b hb) e
    · exact hTr _ _ tr' fun b o hb e => m₂.ext.keep b o (fun q => hb (hw b q)) e
  done := fun s Q E st h => by
    have offw : EnvOff env wr := ⟨fun q => off.1 (Wl.sub _ q), fun y c hc q => off.2 y c hc (Wl.sub _ q)⟩
    refine grown (Wl.done s _ _ st.1 fun h' tk k htk hsz => ?_)
    exact h _ (Mv.off (Ext.mk' htk hsz k) offw)
  self := fun i s Q E st h => Wl.self i s Q E st.1 h

/-- two names out of a tuple -/
theorem pair_ok {sc : Scope} {A : Around} {env : Env} {x y k : Nat} {px py pp : Pos} {Ta : Addr} {v₁ v₂ : Value} {s : Shared} {Q : Unit → Shared → Prop} {E : Value → Shared → Prop}
    (hh : A.handled = none) (hxy : nmS x ≠ nmS y) (e : EnvOk sc env) (cx : CanStore s env (nmS x)) (cy : CanStore s env (nmS y)) (hT : s.heap.IsTuple Ta #[v₁, v₂])
    (h : ∀ s', Mv env [nmS x, nmS y] [wat env (nmS x), wat env (nmS y)] s s' → Look s' env (nmS x) v₁ → Look s' env (nmS y) v₂ → Q () s') :
    wpAny (model prog w) A (assign (RT.toE (.tp x px y py k pp)) env (.ref Ta)) Q E s := by
  show wpAny _ _ (assign (.Tuple [.Name (nmS x) px, .Name (nmS y) py] k pp) env (.ref Ta)) _ _ _
  rw [arm_assign_Tuple]
  refine wpAny_bind (wpAny_standAt ?_)
  unfold unpack
  refine wpAny_bind (wpAny_holding (grown (wpAny_unpackItems_tuple hh hT (items := #[v₁, v₂]) fun h₃ hx₃ _ hsz => ?_)))
  have x₀ : Ext [] s { s with heap := h₃ } := Ext.mk' (Nat.le_refl _) hsz fun b o _ q => hx₃ b o (Nat.ne_of_lt (Heap.lt_size q)) q
  have m₀ : Mv env [nmS x, nmS y] [wat env (nmS x), wat env (nmS y)] s { s with heap := h₃ } := Mv.of_ext x₀
  refine wpAny_bind (wpAny_holding (wpAny_assign_Name (store_ok e (m₀.can _ cx) fun s₁ m₁ l₁ => ?_)))
  refine wpAny_bind (wpAny_holding (wpAny_assign_Name (store_ok e (m₁.can _ (m₀.can _ cy)) fun s₂ m₂ l₂ => wpAny_pure ?_)))
  exact h s₂ (m₀.trans ((m₁.mono (by simp) (by simp)).trans (m₂.mono (by simp) (by simp)))) (m₂.look _ _ (by simpa using hxy) l₁) l₂

/-- a walk that binds two names -/
theorem Wk.ofPair {sc : Scope} {A : Around} {env : Env} {W : List Addr} {x y k : Nat} {px py pp : Pos} {I : Addr} {fp wr Xo : List Addr} {xs : List PV} {P : Nat → Array Value → Prop} {St : Nat → Heap → Prop} {Mid : Nat → Addr → Heap → Prop} {Tr : Heap → Prop}
    (hh : A.handled = none) (hxy : nmS x ≠ nmS y) (e : EnvOk sc env) (inW : EnvIn env W) (off : EnvOff env fp) (Wl : WalksU prog w A I fp wr xs.length P St Mid) (hwr : ∀ b ∈ wr, b ∈ W) (hXo : ∀ b ∈ Xo, b ∈ W ∧ b ∉ fp)
    (hTr : ∀ h h', Tr h → (∀ b o, b ∉ W → h.get? b = some o → h'.get? b = some o) → Tr h')
    (hP : ∀ i h v p, xs[i]? = some p → Tr h → P i v → ∃ p₁ p₂ v₁ v₂, p = .tup [p₁, p₂] ∧ v = #[v₁, v₂] ∧ VR prog w C h W p₁ v₁ ∧ VR prog w C h W p₂ v₂) :
    Wk prog w C A env W (.tp x px y py k pp) I wr Xo xs (fun i h => St i h ∧ Tr h) where
  keep := fun i h h' st k => ⟨Wl.frame i h h' st.1 fun b hb o e => k b o (fun q => (hXo b q).2 hb) e, hTr h h' st.2 fun b o hb e => k b o (fun q => hb (hXo b q).1) e⟩
  turn := fun i p s Q E hx st can h => by
    have hi : i < xs.length := (List.getElem?_eq_some_iff.mp hx).1
    have offw : EnvOff env wr := ⟨fun q => off.1 (Wl.sub _ q), fun y c hc q => off.2 y c hc (Wl.sub _ q)⟩
    refine grown (Wl.item i s _ _ hi st.1 fun Ta vals h' tk hPv hT hm k htk hsz => ⟨_, rfl, grown (Wl.go _ _ _ i Ta _ _ _ hm fun h'' st' k₂ _ hsz₂ => ?_)⟩)
    have x₁ : Ext wr s { s with heap := h'', toks := tk } := Ext.mk' htk (Nat.le_trans hsz hsz₂) fun b o hb q => k₂ b o hb (k b o hb q)
    have hT' : h''.IsTuple Ta vals := hT.at fun o q => k₂ _ o (Wl.apart i Ta h' hm) q
    have tr' : Tr h'' := hTr _ _ st.2 fun b o hb q => x₁.keep b o (fun r => hb (hwr b r)) q
    obtain ⟨p₁, p₂, v₁, v₂, rfl, rfl, hv₁, hv₂⟩ := hP i h'' vals p hx tr' hPv
    have m₁ : Mv env [nmS x, nmS y] wr s { s with heap := h'', toks := tk } := Mv.off x₁ offw
    have cx := m₁.can _ (can x (by simp [RT.names]))
    have cy := m₁.can _ (can y (by simp [RT.names]))
    refine pair_ok hh hxy e cx cy hT' fun s' m₂ lx ly => ?_
    have hw : ∀ b ∈ [wat env (nmS x), wat env (nmS y)], b ∈ W := by intro b hb; simp at hb; rcases hb with rfl | rfl <;> first | exact cx.watIn inW | exact cy.watIn inW
    have hwo : ∀ b ∈ fp, b ∉ [wat env (nmS x), wat env (nmS y)] := by intro b hb q; simp at q; rcases q with rfl | rfl <;> first | exact cx.watOff off hb | exact cy.watOff off hb
    refine h s' ?_ ⟨?_, ?_⟩ ⟨⟨_, lx, hv₁.mv m₂.ext hw⟩, ⟨_, ly, hv₂.mv m₂.ext hw⟩⟩
    · exact (m₁.mono (Y := wr ++ [wat env (nmS x), wat env (nmS y)]) (T' := [nmS x, nmS y]) (by intro b hb; simp [hb]) (by simp)).trans (m₂.mono (by intro b hb; simp at hb; simp [hb]) (by simp))
    · exact Wl.frame _ _ _ st' fun b hb o q => m₂.ext.keep b o (hwo b hb) q
    · exact hTr _ _ tr' fun b o hb q => m₂.ext.keep b o (fun r => hb (hw b r)) q
  done := fun s Q E st h => by
    have offw : EnvOff env wr := ⟨fun q => off.1 (Wl.sub _ q), fun y c hc q => off.2 y c hc (Wl.sub _ q)⟩
    refine grown (Wl.done s _ _ st.1 fun h' tk k htk hsz => ?_)
    exact h _ (Mv.off (Ext.mk' htk hsz k) offw)
  self := fun i s Q E st h => Wl.self i s Q E st.1 h
end
end Mine

-- part V11
namespace Mine
open PySem PySem.W PyProof.Rows

def RT.isPair : RT → Bool
  | .nm _ _ => false
  | .tp _ _ _ _ _ _ => true
def RT.good : RT → Prop
  | .nm _ _ => True
  | .tp x _ y _ _ _ => nmS x ≠ nmS y
def pairsOnly : List PV → Prop := fun xs => ∀ p ∈ xs, ∃ a b, p = .tup [a, b]

section
variable {prog : Program} {w : World} {C : Addr}

variable (prog w C) in
/-- an iterator that stands ready -/
def Src (k : RT → Prop) (s' : Shared) (W : List Addr) (I : Addr) (wr : List Addr) (xs : List PV) : Prop :=
  ∀ (A' : Around) (env' : Env) (W' : List Addr) (t : RT) (Xo : List Addr) (sc' : Scope), A'.handled = none → k t → t.good → (t.isPair = true → pairsOnly xs) → EnvOk sc' env' → EnvIn env' W' → EnvOff env' wr →
    (∀ b ∈ wr, b ∈ W') → (∀ b ∈ Xo, b ∈ W' ∧ b ∉ wr) → (∀ b ∈ W', b < s'.heap.objs.size → b ∈ wr ∨ b ∈ W) →
    ∃ St, Wk prog w C A' env' W' t I wr Xo xs St ∧ ∀ h, (∀ b o, s'.heap.get? b = some o → h.get? b = some o) → St 0 h

theorem off_of {env' : Env} {W W' wr fp : List Addr} {n : Nat} (inW : EnvIn env' W') (off : EnvOff env' wr) (hW : ∀ b ∈ W', b < n → b ∈ wr ∨ b ∈ W) (hfp : ∀ b ∈ fp, b ∈ wr ∨ (b < n ∧ b ∉ W)) : EnvOff env' fp := by
  have go : ∀ b, b ∈ W' → b ∉ wr → b ∉ fp := fun b hb hw hf => by
    rcases hfp b hf with h | ⟨h1, h2⟩
    · exact hw h
    · rcases hW b hb h1 with h | h
      · exact hw h
      · exact h2 h
  exact ⟨go _ inW.1 off.1, fun y c hc => go _ (inW.2 y c hc) (off.2 y c hc)⟩
theorem xo_of {Xo W W' wr fp : List Addr} {n : Nat} (hXo : ∀ b ∈ Xo, b ∈ W' ∧ b ∉ wr) (hW : ∀ b ∈ W', b < n → b ∈ wr ∨ b ∈ W) (hfp : ∀ b ∈ fp, b ∈ wr ∨ (b < n ∧ b ∉ W)) : ∀ b ∈ Xo, b ∈ W' ∧ b ∉ fp := by
  intro b hb
  refine ⟨(hXo b hb).1, fun hf => ?_⟩
  rcases hfp b hf with h | ⟨h1, h2⟩
  · exact (hXo b hb).2 h
  · rcases hW b (hXo b hb).1 h1 with h | h
    · exact (hXo b hb).2 h
    · exact h2 h

/-- nothing to walk -/
theorem Wk.ofEmpty {A : Around} {env : Env} {W : List Addr} {t : RT} {I : Addr} {fp wr Xo : List Addr} {P : Nat → Value → Prop} {St : Nat → Heap → Prop}
    (off : EnvOff env fp) (Wl : Walks prog w A I fp wr 0 P St) (hXo : ∀ b ∈ Xo, b ∈ W ∧ b ∉ fp) : Wk prog w C A env W t I wr Xo [] St where
  keep := fun i h h' st k => Wl.frame i h h' st fun b hb o e => k b o (fun q => (hXo b q).2 hb) e
  turn := fun i p s Q E hx => by simp at hx
  done := fun s Q E st h => by
    have offw : EnvOff env wr := ⟨fun q => off.1 (Wl.sub _ q), fun y c hc q => off.2 y c hc (Wl.sub _ q)⟩
    refine grown (Wl.done s _ _ st fun h' tk k htk hsz => ?_)
    exact h _ (Mv.off (Ext.mk' htk hsz k) offw)
  self := fun i s Q E st h => Wl.self i s Q E st h

/-- numbers from a plain walk -/
theorem Src.ofNums {s' : Shared} {W : List Addr} {I : Addr} {fp wr : List Addr} {xs : List PV} {P : Nat → Value → Prop} {St : Nat → Heap → Prop}
    (Wl : ∀ A' : Around, A'.handled = none → Walks prog w A' I fp wr xs.length P St) (hfp : ∀ b ∈ fp, b ∈ wr ∨ (b < s'.heap.objs.size ∧ b ∉ W)) (st : St 0 s'.heap)
    (hn : ∀ p ∈ xs, ∃ k, p = .int k) (hP : ∀ i v p, xs[i]? = some p → P i v → ∃ k t, p = .int k ∧ v = .int k t) : Src prog w C (fun _ => True) s' W I wr xs := by
  intro A' env' W' t Xo sc' hh _ hg hpair e inW off hwr hXo hW
  have off' := off_of inW off hW hfp
  have hXo' := xo_of hXo hW hfp
  have st0 : ∀ h, (∀ b o, s'.heap.get? b = some o → h.get? b = some o) → St 0 h := fun h k => (Wl A' hh).frame 0 _ _ st fun b _ o q => k b o q
  cases t with
  | nm x px =>
    refine ⟨_, Wk.ofName (Tr := fun _ => True) e inW off' (Wl A' hh) hwr hXo' (fun _ _ _ _ => trivial) fun i h v p hx _ hv => ?_, fun h k => ⟨st0 h k, trivial⟩⟩
    obtain ⟨k, t, rfl, rfl⟩ := hP i v p hx hv
    exact ⟨t, rfl⟩
  | tp x px y py kk pp =>
    cases xs with
    | nil => exact ⟨_, Wk.ofEmpty off' (Wl A' hh) hXo', st0⟩
    | cons p xs =>
      obtain ⟨a, b, rfl⟩ := hpair rfl p (by simp)
      obtain ⟨k, hk⟩ := hn _ (by simp : PV.tup [a, b] ∈ PV.tup [a, b] :: xs)
      cases hk

theorem VRs.get' {h : Heap} {W : List Addr} {l : List PV} {vs : List Value} {i : Nat} {v : Value} (H : VRs prog w C h W l vs) (e : vs[i]? = some v) : ∃ p, l[i]? = some p ∧ VR prog w C h W p v := by
  have hl := H.length
  have hi : i < l.length := by rw [← hl]; exact (List.getElem?_eq_some_iff.mp e).1
  obtain ⟨u, h1, h2⟩ := VRs.get H (List.getElem?_eq_getElem hi)
  rw [e] at h1; cases h1
  exact ⟨_, List.getElem?_eq_getElem hi, h2⟩

def tupAt (vs : List Value) (j : Nat) : Addr := match vs[j]? with
  | some (.ref a) => a
  | _ => 0
def itemsAt (h : Heap) (a : Addr) : Array Value := match h.get? a with
  | some o => match o.data with
    | .seq items _ => items
    | _ => #[]
  | none => #[]
theorem itemsAt_tuple {h : Heap} {a : Addr} {items : Array Value} (x : h.IsTuple a items) : itemsAt h a = items := by
  obtain ⟨o, ho, _, k, hd⟩ := x
  unfold itemsAt
  rw [ho]; dsimp only; rw [hd]

/-- a list -/
theorem Src.list {s' : Shared} {W : List Addr} {I ax : Addr} {xs : List PV} {vs : List Value} (hne : ax ≠ I) (hax : ax ∉ W) (hI : I < s'.heap.objs.size) (hit : s'.heap.IsListIter I ax 0) (hl : s'.heap.IsList ax vs.toArray) (H : VRs prog w C s'.heap (I :: W) xs vs) :
    Src prog w C (fun _ => True) s' W I [I] xs := by
  intro A' env' W' t Xo sc' hh _ hg hpair e inW off hwr hXo hW
  have hlen := H.length
  have hax' : ax < s'.heap.objs.size := by obtain ⟨o, ho, _⟩ := hl; exact Heap.lt_size ho
  have mv : ∀ h : Heap, (∀ b o, s'.heap.get? b = some o → h.get? b = some o) → ∀ b o, b ∉ I :: W → s'.heap.get? b = some o → h.get? b = some o ∧ b ∉ W' := fun h k b o hb q =>
    ⟨k b o q, fun hw => by
      rcases hW b hw (Heap.lt_size q) with h1 | h1
      · simp at h1; exact hb (by simp [h1])
      · exact hb (by simp [h1])⟩
  cases t with
  | nm x px =>
    have hfp : ∀ b ∈ [I, ax], b ∈ [I] ∨ (b < s'.heap.objs.size ∧ b ∉ W) := by
      intro b hb
      rcases List.mem_cons.mp hb with rfl | hb
      · exact .inl (by simp)
      · rw [List.mem_singleton] at hb; subst hb; exact .inr ⟨hax', hax⟩
    have Wl := Walks.list (prog := prog) (w := w) hh I ax hne vs.toArray
    rw [List.size_toArray, hlen] at Wl
    refine ⟨_, Wk.ofName (Tr := fun h => VRs prog w C h W' xs vs) e inW (off_of inW off hW hfp) Wl hwr (xo_of hXo hW hfp) (fun h h' H k => VRs.mono (fun b o hb q => ⟨k b o hb q, hb⟩) _ _ H) (fun i h v p hx H hv => ?_),
      fun h k => ⟨⟨hit.at fun o q => k _ o q, hl.at fun o q => k _ o q⟩, VRs.mono (mv h k) _ _ H⟩⟩
    obtain ⟨u, h1, h2⟩ := VRs.get H hx
    have : vs.toArray[i]? = some v := hv
    rw [List.getElem?_toArray, h1] at this
    cases this; exact h2
  | tp x px y py kk pp =>
    have hps := hpair rfl
    have at' : ∀ j, j < vs.length → ∃ (p₁ p₂ : PV) (v₁ v₂ : Value), xs[j]? = some (.tup [p₁, p₂]) ∧ vs[j]? = some (.ref (tupAt vs j)) ∧ tupAt vs j ∉ I :: W ∧ s'.heap.IsTuple (tupAt vs j) #[v₁, v₂] ∧ itemsAt s'.heap (tupAt vs j) = #[v₁, v₂] ∧ VR prog w C s'.heap (I :: W) p₁ v₁ ∧ VR prog w C s'.heap (I :: W) p₂ v₂ := by
      intro j hj
      obtain ⟨p, hp, hv⟩ := VRs.get' H (List.getElem?_eq_getElem hj)
      obtain ⟨p₁, p₂, rfl⟩ := hps p (List.mem_of_getElem? hp)
      obtain ⟨Ta, us, e1, hT, hIs, hus⟩ := hv
      obtain ⟨v₁, r, rfl, hv₁, hr⟩ := hus
      obtain ⟨v₂, r', rfl, hv₂, hr'⟩ := hr
      have hr0 : r' = [] := hr'
      subst hr0
      have e2 : tupAt vs j = Ta := by unfold tupAt; rw [List.getElem?_eq_getElem hj, e1]
      rw [e2]
      exact ⟨p₁, p₂, v₁, v₂, hp, by rw [List.getElem?_eq_getElem hj, e1], hT, hIs, itemsAt_tuple hIs, hv₁, hv₂⟩
    have hTI : ∀ j, j < vs.toArray.size → tupAt vs j ≠ I := fun j hj => by
      obtain ⟨_, _, _, _, _, _, h1, _⟩ := at' j (by simpa using hj)
      intro q; exact h1 (by simp [q])
    have Wl := WalksU.listOfTuples (prog := prog) (w := w) hh I ax hne vs.toArray (tupAt vs) (fun j => itemsAt s'.heap (tupAt vs j)) (fun j hj => by
      obtain ⟨_, _, _, _, _, h1, _⟩ := at' j (by simpa using hj)
      simpa using h1) hTI
    have hfp : ∀ b ∈ I :: ax :: (List.range vs.toArray.size).map (tupAt vs), b ∈ [I] ∨ (b < s'.heap.objs.size ∧ b ∉ W) := by
      intro b hb
      rcases List.mem_cons.mp hb with rfl | hb
      · exact .inl (by simp)
      · rcases List.mem_cons.mp hb with rfl | hb
        · exact .inr ⟨hax', hax⟩
        · obtain ⟨j, hj, rfl⟩ := List.mem_map.mp hb
          obtain ⟨_, _, _, _, _, _, h1, ⟨o, ho, _⟩, _⟩ := at' j (by simpa using List.mem_range.mp hj)
          exact .inr ⟨Heap.lt_size ho, fun q => h1 (by simp [q])⟩
    have hn : vs.toArray.size = xs.length := by simpa using hlen
    have off' := off_of inW off hW hfp
    have hXo' := xo_of hXo hW hfp
    rw [hn] at Wl off' hXo'
    refine ⟨_, Wk.ofPair (Tr := fun h => ∀ (i : Nat) p, xs[i]? = some p → ∃ p₁ p₂ v₁ v₂, p = .tup [p₁, p₂] ∧ itemsAt s'.heap (tupAt vs i) = #[v₁, v₂] ∧ VR prog w C h W' p₁ v₁ ∧ VR prog w C h W' p₂ v₂) hh hg e inW off' Wl hwr hXo' ?_ ?_, fun h k => ⟨?_, ?_⟩⟩
    · intro h h' H k i p hp
      obtain ⟨p₁, p₂, v₁, v₂, h1, h2, h3, h4⟩ := H i p hp
      exact ⟨p₁, p₂, v₁, v₂, h1, h2, VR.mono (fun b o hb q => ⟨k b o hb q, hb⟩) _ _ h3, VR.mono (fun b o hb q => ⟨k b o hb q, hb⟩) _ _ h4⟩
    · intro i h v p hx H hv
      obtain ⟨p₁, p₂, v₁, v₂, h1, h2, h3, h4⟩ := H i p hx
      exact ⟨p₁, p₂, v₁, v₂, h1, hv.trans h2, h3, h4⟩
    · refine ⟨hit.at fun o q => k _ o q, hl.at fun o q => k _ o q, fun j hj => ?_⟩
      obtain ⟨_, _, v₁, v₂, _, _, _, h1, h2, _⟩ := at' j (by rw [hlen]; simpa using hj)
      rw [h2]; exact h1.at fun o q => k _ o q
    · intro i p hp
      have hi : i < vs.length := by rw [hlen]; exact (List.getElem?_eq_some_iff.mp hp).1
      obtain ⟨p₁, p₂, v₁, v₂, h0, _, _, _, h2, h3, h4⟩ := at' i hi
      rw [hp] at h0; cases h0
      exact ⟨p₁, p₂, v₁, v₂, rfl, h2, VR.mono (mv h k) _ _ h3, VR.mono (mv h k) _ _ h4⟩

end
end Mine

-- part V12
namespace Mine
open PySem PySem.W PyProof.Rows

def subs : Nat → List (List Int)
  | 0 => [[]]
  | b + 1 => subs b ++ (subs b).map ((b : Int) :: ·)
theorem subs_mem : ∀ (b : Nat) (l : List Int), desc b l = true → (l.all fun a => decide (0 ≤ a)) = true → l ∈ subs b
  | 0, [], _, _ => by simp [subs]
  | 0, a :: l, h, k => by
    simp only [desc, List.all_cons, Bool.and_eq_true, decide_eq_true_eq] at h k
    omega
  | b + 1, [], _, _ => List.mem_append_left _ (subs_mem b [] rfl rfl)
  | b + 1, a :: l, h, k => by
    have h0 := h
    simp only [desc, List.all_cons, Bool.and_eq_true, decide_eq_true_eq] at h k
    rcases Int.lt_or_eq_of_le (Int.le_of_lt_add_one (by simpa using h.1 : a < (b : Int) + 1)) with hlt | heq
    · refine List.mem_append_left _ (subs_mem b (a :: l) ?_ ?_)
      · simp only [desc, Bool.and_eq_true, decide_eq_true_eq]; exact ⟨hlt, h.2⟩
      · simp only [List.all_cons, Bool.and_eq_true, decide_eq_true_eq]; exact k
    · subst heq
      exact List.mem_append_right _ (List.mem_map.mpr ⟨l, subs_mem b l h.2 k.2, rfl⟩)
theorem sub6_fine {l : List Int} (h : sub6 l = true) : setFine l = true := by
  have all : ∀ l ∈ subs 6, setFine l = true := by decide +kernel
  unfold sub6 at h
  rw [Bool.and_eq_true] at h
  exact all l (subs_mem 6 l h.1 h.2)

section
variable {prog : Program} {w : World} {C : Addr}

theorem upTo_length : ∀ (n : Nat) (a : Int), (upTo a n).length = n
  | 0, _ => rfl
  | n + 1, a => by rw [upTo, List.length_cons, upTo_length n]
theorem upTo_get : ∀ (n : Nat) (a : Int) (i : Nat), i < n → (upTo a n)[i]? = some (.int (a + i))
  | 0, _, _, h => by omega
  | n + 1, a, 0, _ => by simp [upTo]
  | n + 1, a, i + 1, h => by
    rw [upTo, List.getElem?_cons_succ, upTo_get n (a + 1) i (by omega)]
    congr 2; push_cast; omega
theorem VRs.perm {h : Heap} {W : List Addr} {vs vs' : List Value} (hp : vs'.Perm vs) : ∀ {l : List PV}, VRs prog w C h W l vs → ∃ l', l'.Perm l ∧ VRs prog w C h W l' vs' := by
  induction hp with
  | nil => intro l H; exact ⟨l, List.Perm.refl _, H⟩
  | cons v hp ih =>
    intro l H
    cases l with
    | nil => exact absurd H (by simp [VRs])
    | cons p l =>
      obtain ⟨u, r, e, hu, hr⟩ := H
      cases e
      obtain ⟨l', h1, h2⟩ := ih hr
      exact ⟨p :: l', List.Perm.cons p h1, _, _, rfl, hu, h2⟩
  | swap u v r =>
    intro l H
    cases l with
    | nil => exact absurd H (by simp [VRs])
    | cons p l =>
      obtain ⟨u', r', e, hu, hr⟩ := H
      cases e
      cases l with
      | nil => exact absurd hr (by simp [VRs])
      | cons q l =>
        obtain ⟨v', r'', e, hv, hr'⟩ := hr
        cases e
        exact ⟨q :: p :: l, List.Perm.swap p q l, _, _, rfl, hv, _, _, rfl, hu, hr'⟩
  | trans _ _ ih1 ih2 =>
    intro l H
    obtain ⟨l', h1, h2⟩ := ih2 H
    obtain ⟨l'', h3, h4⟩ := ih1 h2
    exact ⟨l'', h3.trans h1, h4⟩

theorem iter_ok {A : Around} {E Q : Value → Shared → Prop} {s : Shared} {W : List Addr} {p : PV} {v : Value} {xs : List PV} {b : Bool} (hp : piter p = some (xs, b)) (lv : ∀ b ∈ W, b < s.heap.objs.size) (hv : VR prog w C s.heap W p v)
    (h : ∀ s' I wr xs', Ext [] s s' → Sim b xs' xs → (∀ b ∈ wr, s.heap.objs.size ≤ b ∧ b < s'.heap.objs.size) → Src prog w C (fun _ => True) s' W I wr xs' → Q (.ref I) s') : wpAny (model prog w) A (pyIter v) Q E s := by
  have hI : s.heap.objs.size ∉ W := fun q => Nat.lt_irrefl _ (lv _ q)
  have listCase : ∀ (a : Addr) (vs : List Value) (l : List PV), a ∉ W → s.heap.PlainList a vs.toArray → VRs prog w C s.heap W l vs → Sim b l xs → wpAny (model prog w) A (pyIter (.ref a)) Q E s := by
    intro a vs l ha hl H hs
    have hal : a < s.heap.objs.size := by obtain ⟨n, ho⟩ := hl; exact Heap.lt_size ho
    refine wpAny_pyIter_list hl.isList (h _ s.heap.objs.size [s.heap.objs.size] l (Ext.push _ _) hs ?_ ?_)
    · intro b hb; rw [List.mem_singleton] at hb; subst hb; exact ⟨Nat.le_refl _, by show _ < (Heap.push _ _).objs.size; rw [Heap.size_push]; exact Nat.lt_succ_self _⟩
    · refine Src.list (ax := a) (vs := vs) (Nat.ne_of_lt hal) ha (by show _ < (Heap.push _ _).objs.size; rw [Heap.size_push]; exact Nat.lt_succ_self _) ⟨_, Heap.get?_push_size _ rfl, rfl, rfl⟩ (hl.isList.at fun o q => Heap.get?_push_of_some _ q) ?_
      exact VRs.mono (fun c o hc q => ⟨Heap.get?_push_of_some _ q, fun hm => by
        rcases List.mem_cons.mp hm with rfl | hm
        · exact Nat.lt_irrefl _ (Heap.lt_size q)
        · exact hc hm⟩) _ _ H
  have one : ∀ o : Obj, ∀ b ∈ [s.heap.objs.size], s.heap.objs.size ≤ b ∧ b < ({ s with heap := s.heap.push o } : Shared).heap.objs.size := by
    intro o b hb; rw [List.mem_singleton] at hb; subst hb; exact ⟨Nat.le_refl _, by show _ < (Heap.push _ _).objs.size; rw [Heap.size_push]; exact Nat.lt_succ_self _⟩
  have two : ∀ (o : Obj) (a : Addr), a ∉ W → a < s.heap.objs.size → ∀ b ∈ [s.heap.objs.size, a], b ∈ [s.heap.objs.size] ∨ (b < ({ s with heap := s.heap.push o } : Shared).heap.objs.size ∧ b ∉ W) := by
    intro o a ha hal b hb
    rcases List.mem_cons.mp hb with rfl | hb
    · exact .inl (by simp)
    · rw [List.mem_singleton] at hb; subst hb; exact .inr ⟨by show _ < (Heap.push _ _).objs.size; rw [Heap.size_push]; exact Nat.lt_succ_of_lt hal, ha⟩
  unfold piter at hp
  split at hp
  · cases hp
    obtain ⟨a, vs, rfl, ha, hl, H⟩ := hv
    exact listCase a vs _ ha hl H rfl
  · cases hp
    obtain ⟨a, vs, vs', rfl, ha, hl, hpm, H⟩ := hv
    obtain ⟨l', h1, h2⟩ := VRs.perm hpm H
    exact listCase a vs' l' ha hl h2 h1
  · cases hp
    rename_i ks ps
    obtain ⟨a, vs, ep, rfl, ha, hd, hn, H, hsm⟩ := hv
    have hal : a < s.heap.objs.size := by obtain ⟨o, _, ho, _⟩ := hd; exact Heap.lt_size ho
    refine wpAny_pyIter_dict hsm hd (h _ s.heap.objs.size [s.heap.objs.size] _ (Ext.push _ _) rfl (one _) ?_)
    have hlen : (ks.zip vs).length = (ks.map PV.int).length := by simp [hn]
    refine Src.ofNums (fp := [s.heap.objs.size, a]) (P := fun i v => ∃ k x, (ks.zip vs)[i]? = some (k, x) ∧ (intKind prog w).is k v = true) (St := fun i h => h.IsKeyIter s.heap.objs.size a i (ks.zip vs).length ep ∧ h.DictAt (intKind prog w) a (ks.zip vs) ep) (fun A' hh => by rw [← hlen]; exact Walks.dictKeys hh _ a (Nat.ne_of_lt hal) (ks.zip vs) ep) (two _ a ha hal) ?_ ?_ ?_
    · exact ⟨⟨_, Heap.get?_push_size _ rfl, rfl, rfl⟩, hd.at' fun o q => Heap.get?_push_of_some _ q⟩
    · intro p hp
      obtain ⟨k, _, rfl⟩ := List.mem_map.mp hp
      exact ⟨k, rfl⟩
    · rintro i v p hx ⟨k, x, hk, hi⟩
      obtain ⟨t, rfl⟩ := Value.isInt_shape hi
      rw [List.getElem?_zip_eq_some] at hk
      rw [List.getElem?_map, hk.1] at hx
      cases hx
      exact ⟨k, t, rfl, rfl⟩
  · rename_i l
    split at hp
    · rename_i h6
      cases hp
      obtain ⟨a, rfl, ha, hnd, hS, hm⟩ := hv
      obtain ⟨es, ep, t, sl, ys, o, ho, hex, hd, hf, hz, h0, ⟨l', hpm, hlen, hys⟩, X⟩ := setWalk_ok (prog := prog) (hm rfl) (sub6_fine h6)
      have hal : a < s.heap.objs.size := Heap.lt_size ho
      have hyl : ys.length = es.size := by rw [hlen, hpm.length_eq, hz]
      refine set_iter X h0 hf ⟨o, ho, hex, hd⟩ (h _ s.heap.objs.size [s.heap.objs.size] (l'.map .int) (Ext.push _ _) (hpm.map _) (one _) ?_)
      have hl2 : es.size = (l'.map PV.int).length := by rw [← hyl, hlen]; simp
      refine Src.ofNums (fp := [s.heap.objs.size, a]) (P := fun i v => ys[i]? = some v) (St := fun i h => IsSetIter h s.heap.objs.size a (sl i) i es.size ep ∧ IsSetAt h a es ep t) (fun A' hh => by rw [← hl2]; exact set_walks hh (Nat.ne_of_lt hal) X hf hyl) (two _ a ha hal) ?_ ?_ ?_
      · exact ⟨⟨_, Heap.get?_push_size _ rfl, rfl, rfl⟩, ⟨o, Heap.get?_push_of_some _ ho, hex, hd⟩⟩
      · intro p hp
        obtain ⟨k, _, rfl⟩ := List.mem_map.mp hp
        exact ⟨k, rfl⟩
      · intro i v p hx hv
        rw [List.getElem?_map] at hx
        cases hk : l'[i]? with
        | none => rw [hk] at hx; cases hx
        | some k =>
          rw [hk] at hx; cases hx
          obtain ⟨t, ht⟩ := hys i k hk
          rw [ht] at hv; cases hv
          exact ⟨k, t, rfl, rfl⟩
    · cases hp
  · rename_i a b'
    split at hp
    · rename_i hq
      cases hp
      simp only [Bool.and_eq_true] at hq
      have hq := And.intro (smallI_lt hq.1) (smallI_lt hq.2)
      obtain ⟨r, t, u, y, rfl, hr, hR⟩ := hv
      refine wpAny_pyIter_range hR (small_one (by omega) (by omega) (by omega) (by omega)) (h _ s.heap.objs.size [s.heap.objs.size] _ (Ext.push _ _) rfl (one _) ?_)
      have hsz : Builtin.Range.rangeSize a b' 1 = ((b' - a).toNat : Int) := by rw [rangeSize_one]; split <;> omega
      refine Src.ofNums (fp := [s.heap.objs.size]) (P := fun i v => ∃ t, v = .int (a + i * 1) t) (fun A' hh => by rw [upTo_length]; exact Walks.range hh _ a 1 _) (fun b hb => .inl hb) ?_ ?_ ?_
      · have e1 : a + ((0 : Nat) : Int) * 1 = a := by simp
        have e2 : (((b' - a).toNat : Int) - ((0 : Nat) : Int)) = Builtin.Range.rangeSize a b' 1 := by rw [hsz]; simp
        rw [e1, e2]
        exact Heap.get?_push_size _ rfl
      · intro p hp
        obtain ⟨i, hi⟩ := List.getElem?_of_mem hp
        have hlt : i < (b' - a).toNat := by rw [← upTo_length (b' - a).toNat a]; exact (List.getElem?_eq_some_iff.mp hi).1
        rw [upTo_get _ _ _ hlt] at hi
        cases hi
        exact ⟨_, rfl⟩
      · rintro i v p hx ⟨t, rfl⟩
        have hlt : i < (b' - a).toNat := by rw [← upTo_length (b' - a).toNat a]; exact (List.getElem?_eq_some_iff.mp hx).1
        rw [upTo_get _ _ _ hlt] at hx
        cases hx
        exact ⟨a + i, t, rfl, by simp⟩
    · cases hp
  · cases hp
end
end Mine

-- part V13
namespace Mine
open PySem PySem.W PyProof.Rows

/-- what stands below -/
structure Base (h₀ : Heap) : Prop where
  g : ∃ m, h₀.Ns mainGlobals m ∧ (∀ p ∈ bltTab, m p.1 = none) ∧ (∀ f, 6 ≤ f → f < 16 → m (fnm f) = some (fval f))
  b : ∃ m, h₀.Ns builtinsNs m ∧ ∀ p ∈ bltTab, m p.1 = some p.2
  fn : ∀ f, 6 ≤ f → f < 16 → ∃ a o fd, fval f = .ref a ∧ h₀.get? a = some o ∧ o.data = .func fd
  booked : NoneBooked h₀

theorem not_debug : ∀ y ∈ bltTab.map (·.1) ++ fnTab, (y == Str.ofString "__debug__") = false := by decide +kernel
theorem fn_low : ∀ f, f < 6 → (fnm f, fval f) ∈ bltTab := by decide +kernel
theorem fn_mem : ∀ f, f < 16 → fnm f ∈ fnTab := by decide +kernel

section
variable {prog : Program} {w : World} {C : Addr} {h₀ : Heap}

/-- a callable's value, steady -/
def Steady (h₀ : Heap) (f : Value) : Prop := (∃ id, f = .builtin id) ∨ (∃ T, f = .type T) ∨ (∃ a o fd, f = .ref a ∧ h₀.get? a = some o ∧ o.data = .func fd)

theorem blt_ok {sc : Scope} {A : Around} {env : Env} {s : Shared} {x : Str} {v : Value} {p : Pos} {Q E : Value → Shared → Prop} (B : Base h₀) (e : EnvOk sc env) (old : ∀ b o, h₀.get? b = some o → s.heap.get? b = some o)
    (hm : (x, v) ∈ bltTab) (hs : sc.names.lookup x = some .globalImplicit) (h : Q v s) : wpAny (model prog w) A (eval (.Name x p) env) Q E s := by
  obtain ⟨mg, hg, hg0, _⟩ := B.g
  obtain ⟨mb, hb, hb0⟩ := B.b
  refine Calls.Name_function_global e.fn (e.glob x hs) (Calls.loadGlobal_builtin (mg := mg) (mb := mb) ?_ (hg0 _ hm) ?_ (hb0 _ hm) h) (not_debug x (List.mem_append_left _ (List.mem_map.mpr ⟨_, hm, rfl⟩)))
  · rw [e.gl]; exact hg.keeps old
  · rw [e.bt]; exact hb.keeps old
theorem fn_ok {sc : Scope} {A : Around} {env : Env} {s : Shared} {f : Nat} {p : Pos} {Q E : Value → Shared → Prop} (B : Base h₀) (e : EnvOk sc env) (old : ∀ b o, h₀.get? b = some o → s.heap.get? b = some o)
    (hf : f < 16) (hs : sc.names.lookup (fnm f) = some .globalImplicit) (h : Steady h₀ (fval f) → Q (fval f) s) : wpAny (model prog w) A (eval (.Name (fnm f) p) env) Q E s := by
  rcases Nat.lt_or_ge f 6 with hlo | hhi
  · refine blt_ok B e old (fn_low f hlo) hs (h ?_)
    rcases f with _ | _ | _ | _ | _ | _ | f
    · exact .inl ⟨_, rfl⟩
    · exact .inr (.inl ⟨_, rfl⟩)
    · exact .inl ⟨_, rfl⟩
    · exact .inl ⟨_, rfl⟩
    · exact .inr (.inl ⟨_, rfl⟩)
    · exact .inr (.inl ⟨_, rfl⟩)
    · omega
  · obtain ⟨mg, hg, _, hg1⟩ := B.g
    refine Calls.Name_function_global e.fn (e.glob _ hs) (Calls.loadGlobal_global (mg := mg) ?_ (hg1 f hhi hf) (h (.inr (.inr (B.fn f hhi hf))))) (not_debug _ (List.mem_append_right _ (fn_mem f hf)))
    rw [e.gl]; exact hg.keeps old

theorem starEach_toE (env : Env) : ∀ es : List RE, starEach (toEs es) env = es.map fun e => (false, eval e.toE env)
  | [] => rfl
  | e :: r => by
    rw [List.map_cons, ← starEach_toE env r]
    show starEach (e.toE :: toEs r) env = _
    cases e <;> rfl
theorem backTo_toE (env : Env) (pos : Pos) (es : List RE) : backTo pos (starEach (toEs es) env) = es.map fun e => (false, eval e.toE env) := by
  rw [starEach_toE]
  unfold backTo
  rw [List.map_map]
  rfl

/-- the arguments, one after the other -/
theorem evs_ok {sc : Scope} {l : Nat} {rec : Rho → RE → Option PV} {A : Around} {env : Env} {W : List Addr} {ρ : Rho} {E : Value → Shared → Prop} :
    ∀ {es : List RE} (_ : ∀ e ∈ es, SoundV prog w C h₀ sc l rec e) {s : Shared} {ps : List PV} {Q : List Value → Shared → Prop} (_ : Ok prog w C h₀ l sc A env s W ρ) (_ : evs rec ρ es = some ps) (_ : ∀ vs s', Ext [] s s' → VRs prog w C s'.heap W ps vs → Q vs s'),
      wpAny (model prog w) A (spliced (es.map fun e => (false, eval e.toE env))) Q E s
  | [], _, s, ps, Q, _, hp, h => by
    cases hp
    exact Calls.spliced_nil (h [] s (Ext.refl _ _) rfl)
  | e :: r, hs, s, ps, Q, ok, hp, h => by
    unfold evs at hp
    cases h1 : rec ρ e with
    | none => rw [h1] at hp; cases hp
    | some p =>
      cases h2 : evs rec ρ r with
      | none => rw [h1] at hp; (try dsimp only at hp); rw [h2] at hp; cases hp
      | some qs =>
        rw [h1] at hp; (try dsimp only at hp); rw [h2] at hp; cases hp
        refine Calls.spliced_cons (hs e (by simp) A env s W ρ p ok h1 _ _ fun v s₁ x₁ hv => ?_)
        refine evs_ok (fun e he => hs e (by simp [he])) (ok.ext x₁) h2 fun vs s₂ x₂ hvs => ?_
        exact h (v :: vs) s₂ (x₁.trans x₂) ⟨v, vs, rfl, hv.ext x₂, hvs⟩

theorem callWith_any {A : Around} {s : Shared} {f : Value} {pos : Pos} {x : Sem Value} {rest : List (Bool × Sem Value)} {Q E : Value → Shared → Prop} (st : Steady h₀ f) (hpl : rest.any (·.1) = false)
    (h : wpAny (model prog w) A (spliced ((false, x) :: rest)) (fun vs s₁ => (∀ b o, h₀.get? b = some o → s₁.heap.get? b = some o) ∧ wpAny (model prog w) A (call f vs) Q E s₁) E s) :
    wpAny (model prog w) A (callWith pos f [] ((false, x) :: rest) []) Q E s := by
  have hany : (((false, x) :: rest).any fun y => y.1) = false := by simpa using hpl
  rcases st with ⟨id, rfl⟩ | ⟨T, rfl⟩ | ⟨a, o, fd, rfl, ho, hd⟩
  · exact Calls.callWith_builtin hany (Calls.evalArgs_plain (wpAny_mono h (fun vs s₁ q => q.2) fun _ _ q => q))
  · exact PySem.callWith_type hany (Calls.evalArgs_plain (wpAny_mono h (fun vs s₁ q => q.2) fun _ _ q => q))
  · exact Calls.callWith_function (o := o) (fd := fd) (Calls.evalArgs_plain (wpAny_mono h (fun vs s₁ q => ⟨⟨q.1 a o ho, hd⟩, q.2⟩) fun _ _ q => q))

/-- a call of a named callable -/
theorem call_ok {sc : Scope} {l : Nat} {rec : Rho → RE → Option PV} {A : Around} {env : Env} {W : List Addr} {ρ : Rho} {E Q : Value → Shared → Prop} {s : Shared} {nm : Expr} {np pos : Pos} {x : Str} {f : Value} {e : RE} {es : List RE} {ps : List PV}
    (hnm : nm = .Name x np) (hload : ∀ (Q : Value → Shared → Prop), (Steady h₀ f → Q f s) → wpAny (model prog w) A (eval nm env) Q E s)
    (hs : ∀ e' ∈ e :: es, SoundV prog w C h₀ sc l rec e') (ok : Ok prog w C h₀ l sc A env s W ρ) (hp : evs rec ρ (e :: es) = some ps)
    (h : ∀ vs s', Ext [] s s' → VRs prog w C s'.heap W ps vs → wpAny (model prog w) A (call f vs) Q E s') : wpAny (model prog w) A (eval (.Call nm (toEs (e :: es)) [] pos) env) Q E s := by
  subst hnm
  refine wpAny_Call_NameR (hload _ fun st => ?_)
  rw [backTo_toE]
  refine callWith_any st ?_ ?_
  · simp
  · exact evs_ok hs ok hp fun vs s' x' hvs => ⟨fun b o q => x'.keep b o (by simp) (ok.old b o q), h vs s' x' hvs⟩
end
end Mine

-- part V14
namespace Mine
open PySem PySem.W PyProof.Rows

def RI.kind : RI → RT → Prop
  | .ex _ => fun _ => True
  | .enum _ _ _ => fun t => t.isPair = true
  | .zip _ _ _ _ => fun t => t.isPair = true

theorem enumFrom_length : ∀ (l : List PV) (a : Int), (enumFrom a l).length = l.length
  | [], _ => rfl
  | _ :: l, a => by rw [enumFrom, List.length_cons, List.length_cons, enumFrom_length l]
theorem enumFrom_get : ∀ (l : List PV) (a : Int) (i : Nat) (p : PV), (enumFrom a l)[i]? = some p → ∃ q, l[i]? = some q ∧ p = .tup [.int (a + i), q]
  | [], _, _, _, h => by simp [enumFrom] at h
  | q :: l, a, 0, p, h => by simp [enumFrom] at h; exact ⟨q, rfl, by rw [← h]; simp⟩
  | q :: l, a, i + 1, p, h => by
    rw [enumFrom, List.getElem?_cons_succ] at h
    obtain ⟨q', h1, h2⟩ := enumFrom_get l (a + 1) i p h
    refine ⟨q', by simpa using h1, ?_⟩
    rw [h2]; congr 3; push_cast; omega
theorem zipP_length : ∀ (l r : List PV), l.length = r.length → (zipP l r).length = l.length
  | [], _, _ => rfl
  | _ :: l, [], h => by simp at h
  | _ :: l, _ :: r, h => by rw [zipP, List.length_cons, List.length_cons, zipP_length l r (by simpa using h)]
theorem zipP_get : ∀ (l r : List PV) (i : Nat) (p : PV), (zipP l r)[i]? = some p → ∃ a b, l[i]? = some a ∧ r[i]? = some b ∧ p = .tup [a, b]
  | [], _, _, _, h => by simp [zipP] at h
  | _ :: l, [], _, _, h => by simp [zipP] at h
  | a :: l, b :: r, 0, p, h => by simp [zipP] at h; exact ⟨a, b, rfl, rfl, h.symm⟩
  | a :: l, b :: r, i + 1, p, h => by
    rw [zipP, List.getElem?_cons_succ] at h
    simpa using zipP_get l r i p h

section
variable {prog : Program} {w : World} {C : Addr} {h₀ : Heap}

theorem addr_lt {n k : Nat} (h : n + k < n) : False := by omega
theorem addr_ne {n j k : Nat} (h : j ≠ k) : n + j ≠ n + k := by omega
theorem addr_lt_ne {n a k : Nat} (h : a < n) : a ≠ n + k := by omega
theorem toWS {h h' : Heap} {W W' wr : List Addr} (k : ∀ b o, h.get? b = some o → h'.get? b = some o) (hW : ∀ b ∈ W', b < h.objs.size → b ∈ wr ∨ b ∈ W) : ∀ b o, b ∉ wr ++ W → h.get? b = some o → h'.get? b = some o ∧ b ∉ W' := fun b o hb q =>
  ⟨k b o q, fun hm => by
    rcases hW b hm (Heap.lt_size q) with h | h
    · exact hb (List.mem_append_left _ h)
    · exact hb (List.mem_append_right _ h)⟩

theorem enum_src {s s' : Shared} {W : List Addr} {a : Addr} {xs : List PV} {vs : List Value} (x : Ext [] s s') (hs : s'.heap.objs.size = s.heap.objs.size + 2)
    (he : IsEnum s'.heap (s.heap.objs.size + 1) s.heap.objs.size 0 .none) (hi : s'.heap.IsListIter s.heap.objs.size a 0) (ha : a ∉ W) (hl : s.heap.PlainList a vs.toArray) (H : VRs prog w C s.heap W xs vs) :
    Src prog w C (fun t => t.isPair = true) s' W (s.heap.objs.size + 1) [s.heap.objs.size + 1, s.heap.objs.size] (enumFrom 0 xs) := by
  intro A' env' W' t Xo sc' hh hk hg _ e inW off hwr hXo hW
  have hlen := H.length
  have hal : a < s.heap.objs.size := by obtain ⟨n, ho⟩ := hl; exact Heap.lt_size ho
  have hl' : s'.heap.IsList a vs.toArray := hl.isList.at fun o q => x.keep _ o (by simp) q
  cases t with
  | nm _ _ => cases hk
  | tp x' px y py kk pp =>
    have Wl := (WalksT.enumerate (prog := prog) (w := w) hh (s.heap.objs.size + 1) s.heap.objs.size a (Nat.succ_ne_self _) (Nat.ne_of_lt (Nat.lt_succ_of_lt hal)) (Nat.ne_of_lt hal) vs.toArray).toU
    have hn : vs.toArray.size = (enumFrom 0 xs).length := by rw [enumFrom_length, List.size_toArray, hlen]
    have hfp : ∀ b ∈ [s.heap.objs.size + 1, s.heap.objs.size, a], b ∈ [s.heap.objs.size + 1, s.heap.objs.size] ∨ (b < s'.heap.objs.size ∧ b ∉ W) := by
      intro b hb
      simp only [List.mem_cons, List.not_mem_nil, or_false] at hb ⊢
      rcases hb with rfl | rfl | rfl
      · exact .inl (.inl rfl)
      · exact .inl (.inr rfl)
      · exact .inr ⟨by rw [hs]; exact Nat.lt_add_right 2 hal, ha⟩
    have mv0 : ∀ b o, b ∉ W → s.heap.get? b = some o → s'.heap.get? b = some o ∧ b ∉ [s.heap.objs.size + 1, s.heap.objs.size] ++ W := fun b o hb q => ⟨x.keep b o (by simp) q, fun hm => by
      have := Heap.lt_size q
      simp only [List.mem_append, List.mem_cons, List.not_mem_nil, or_false] at hm
      rcases hm with (rfl | rfl) | hm
      · exact addr_lt this
      · exact Nat.lt_irrefl _ this
      · exact hb hm⟩
    have H' := VRs.mono mv0 _ _ H
    rw [hn] at Wl
    refine ⟨_, Wk.ofPair (Tr := fun h => VRs prog w C h W' xs vs) hh hg e inW (off_of inW off hW hfp) Wl hwr (xo_of hXo hW hfp) (fun h h' H k => VRs.mono (fun b o hb q => ⟨k b o hb q, hb⟩) _ _ H) ?_, fun h k => ⟨⟨⟨.none, k _ _ he⟩, hi.at fun o q => k _ o q, hl'.at fun o q => k _ o q⟩, VRs.mono (toWS k hW) _ _ H'⟩⟩
    rintro i h v p hx H ⟨t, u, hu, rfl⟩
    obtain ⟨q, hq, rfl⟩ := enumFrom_get _ _ _ _ hx
    obtain ⟨u', h1, h2⟩ := VRs.get H hq
    rw [List.getElem?_toArray, h1] at hu; cases hu
    exact ⟨_, _, _, _, rfl, rfl, ⟨t, by simp⟩, h2⟩

theorem zip_src {s s' : Shared} {W : List Addr} {a b : Addr} {xs ys : List PV} {vs us : List Value} (x : Ext [] s s') (hs : s'.heap.objs.size = s.heap.objs.size + 5) (lv : ∀ b ∈ W, b < s.heap.objs.size)
    (hz : IsZip s'.heap (s.heap.objs.size + 4) (s.heap.objs.size + 2) (s.heap.objs.size + 3) .none) (hTI : IsPair s'.heap (s.heap.objs.size + 2) (.ref s.heap.objs.size) (.ref (s.heap.objs.size + 1)))
    (hTO : IsPair s'.heap (s.heap.objs.size + 3) .none .none) (hi : s'.heap.IsListIter s.heap.objs.size a 0) (hj : s'.heap.IsListIter (s.heap.objs.size + 1) b 0) (ha : a ∉ W) (hb : b ∉ W) (hla : s.heap.PlainList a vs.toArray) (hlb : s.heap.PlainList b us.toArray)
    (H : VRs prog w C s.heap W xs vs) (K : VRs prog w C s.heap W ys us) (hxy : xs.length = ys.length) :
    Src prog w C (fun t => t.isPair = true) s' W (s.heap.objs.size + 4) [s.heap.objs.size + 4, s.heap.objs.size + 3, s.heap.objs.size, s.heap.objs.size + 1] (zipP xs ys) := by
  intro A' env' W' t Xo sc' hh hk hg _ e inW off hwr hXo hW
  have hlen := H.length
  have hlen2 := K.length
  have hal : a < s.heap.objs.size := by obtain ⟨n, ho⟩ := hla; exact Heap.lt_size ho
  have hbl : b < s.heap.objs.size := by obtain ⟨n, ho⟩ := hlb; exact Heap.lt_size ho
  have hla' : s'.heap.IsList a vs.toArray := hla.isList.at fun o q => x.keep _ o (by simp) q
  have hlb' : s'.heap.IsList b us.toArray := hlb.isList.at fun o q => x.keep _ o (by simp) q
  cases t with
  | nm _ _ => cases hk
  | tp x' px y py kk pp =>
    have D : ZipApart (s.heap.objs.size + 4) (s.heap.objs.size + 2) (s.heap.objs.size + 3) s.heap.objs.size (s.heap.objs.size + 1) a b := by
      refine ⟨addr_ne (by decide), addr_ne (by decide), Ne.symm (addr_ne (j := 4) (k := 0) (by decide)), addr_ne (by decide), addr_ne (by decide), addr_ne (j := 2) (k := 0) (by decide), addr_ne (by decide), addr_ne (j := 3) (k := 0) (by decide), addr_ne (by decide),
        addr_ne (j := 0) (k := 1) (by decide), addr_lt_ne hal, addr_lt_ne hal, addr_lt_ne (k := 0) hal, addr_lt_ne hal, addr_lt_ne hbl, addr_lt_ne hbl, addr_lt_ne (k := 0) hbl, addr_lt_ne hbl⟩
    have Wl := (WalksT.zip2 (prog := prog) (w := w) hh _ _ _ _ _ a b D vs.toArray us.toArray).toU
    have hn : min vs.toArray.size us.toArray.size = (zipP xs ys).length := by rw [zipP_length _ _ hxy, List.size_toArray, List.size_toArray, hlen, hlen2, hxy, Nat.min_self]
    have hfp : ∀ c ∈ [s.heap.objs.size + 4, s.heap.objs.size + 2, s.heap.objs.size + 3, s.heap.objs.size, s.heap.objs.size + 1, a, b], c ∈ [s.heap.objs.size + 4, s.heap.objs.size + 3, s.heap.objs.size, s.heap.objs.size + 1] ∨ (c < s'.heap.objs.size ∧ c ∉ W) := by
      intro c hc
      have hout : ∀ k, s.heap.objs.size + k ∉ W := fun k hm => addr_lt (lv _ hm)
      simp only [List.mem_cons, List.not_mem_nil, or_false] at hc ⊢
      rcases hc with rfl | rfl | rfl | rfl | rfl | rfl | rfl
      · exact .inl (.inl rfl)
      · exact .inr ⟨by rw [hs]; exact Nat.add_lt_add_left (by decide) _, hout 2⟩
      · exact .inl (.inr (.inl rfl))
      · exact .inl (.inr (.inr (.inl rfl)))
      · exact .inl (.inr (.inr (.inr rfl)))
      · exact .inr ⟨by rw [hs]; exact Nat.lt_add_right 5 hal, ha⟩
      · exact .inr ⟨by rw [hs]; exact Nat.lt_add_right 5 hbl, hb⟩
    have mv0 : ∀ c o, c ∉ W → s.heap.get? c = some o → s'.heap.get? c = some o ∧ c ∉ [s.heap.objs.size + 4, s.heap.objs.size + 3, s.heap.objs.size, s.heap.objs.size + 1] ++ W := fun c o hc q => ⟨x.keep c o (by simp) q, fun hm => by
      have := Heap.lt_size q
      simp only [List.mem_append, List.mem_cons, List.not_mem_nil, or_false] at hm
      rcases hm with (rfl | rfl | rfl | rfl) | hm
      · exact addr_lt this
      · exact addr_lt this
      · exact Nat.lt_irrefl _ this
      · exact addr_lt this
      · exact hc hm⟩
    have H' := VRs.mono mv0 _ _ H
    have K' := VRs.mono mv0 _ _ K
    rw [hn] at Wl
    refine ⟨_, Wk.ofPair (Tr := fun h => VRs prog w C h W' xs vs ∧ VRs prog w C h W' ys us) hh hg e inW (off_of inW off hW hfp) Wl hwr (xo_of hXo hW hfp) (fun h h' H k => ⟨VRs.mono (fun b o hb q => ⟨k b o hb q, hb⟩) _ _ H.1, VRs.mono (fun b o hb q => ⟨k b o hb q, hb⟩) _ _ H.2⟩) ?_,
      fun h k => ⟨⟨k _ _ hz, k _ _ hTI, ⟨_, _, k _ _ hTO⟩, hi.at fun o q => k _ o q, hj.at fun o q => k _ o q, hla'.at fun o q => k _ o q, hlb'.at fun o q => k _ o q⟩, VRs.mono (toWS k hW) _ _ H', VRs.mono (toWS k hW) _ _ K'⟩⟩
    rintro i h v p hx ⟨H, K⟩ ⟨t, u, ht, hu, rfl⟩
    obtain ⟨q, r, hq, hr, rfl⟩ := zipP_get _ _ _ _ hx
    obtain ⟨u', h1, h2⟩ := VRs.get H hq
    obtain ⟨u'', h3, h4⟩ := VRs.get K hr
    rw [List.getElem?_toArray, h1] at ht; cases ht
    rw [List.getElem?_toArray, h3] at hu; cases hu
    exact ⟨_, _, _, _, rfl, rfl, h2, h4⟩

def RI.subs : RI → List RE
  | .ex e => [e]
  | .enum e _ _ => [e]
  | .zip a b _ _ => [a, b]
def isGlob (sc : Scope) (x : Str) : Bool := match sc.names.lookup x with
  | some .globalImplicit => true
  | _ => false
theorem isGlob_ok {sc : Scope} {x : Str} (h : isGlob sc x = true) : sc.names.lookup x = some .globalImplicit := by
  unfold isGlob at h
  split at h
  · assumption
  · cases h
def RI.wf (sc : Scope) : RI → Bool
  | .ex _ => true
  | .enum _ _ _ => isGlob sc "enumerate"
  | .zip _ _ _ _ => isGlob sc "zip"

/-- an iterable's evaluation and its iterator -/
theorem items_ok {sc : Scope} {l : Nat} {rec : Rho → RE → Option PV} {A : Around} {env : Env} {W : List Addr} {ρ : Rho} {E Q : Value → Shared → Prop} {s : Shared} {it : RI} {xs : List PV} {b : Bool}
    (B : Base h₀) (wf : it.wf sc = true) (hs : ∀ e ∈ it.subs, SoundV prog w C h₀ sc l rec e) (ok : Ok prog w C h₀ l sc A env s W ρ) (hp : pitems rec ρ it = some (xs, b))
    (h : ∀ s' I wr xs', Ext [] s s' → Sim b xs' xs → (∀ b ∈ wr, s.heap.objs.size ≤ b ∧ b < s'.heap.objs.size) → Src prog w C it.kind s' W I wr xs' → Q (.ref I) s') :
    wpAny (model prog w) A (eval it.toE env) (fun xv s₁ => wpAny (model prog w) A (pyIter xv) Q E s₁) E s := by
  cases it with
  | ex e =>
    rw [pitems] at hp
    cases h1 : rec ρ e with
    | none => rw [h1] at hp; cases hp
    | some p =>
      rw [h1] at hp
      refine hs e (by simp [RI.subs]) A env s W ρ p ok h1 _ _ fun v s₁ x₁ hv => ?_
      refine iter_ok hp (ok.ext x₁).live hv fun s' I wr xs' x₂ sim hwr src => h s' I wr xs' (x₁.trans x₂) sim (fun b hb => ⟨Nat.le_trans x₁.size (hwr b hb).1, (hwr b hb).2⟩) src
  | enum e np p =>
    rw [pitems] at hp
    cases h1 : rec ρ e with
    | none => rw [h1] at hp; cases hp
    | some q =>
      rw [h1] at hp; (try dsimp only at hp)
      cases q with
      | lst l =>
        cases hp
        show wpAny _ _ (eval (.Call (.Name "enumerate" np) (toEs [e]) [] p) env) _ _ _
        refine call_ok (x := "enumerate") (f := .type "enumerate") (ps := [.lst l]) rfl (fun Q h => blt_ok B ok.e ok.old (v := .type "enumerate") (by decide +kernel) (isGlob_ok wf) (h (.inr (.inl ⟨_, rfl⟩))))
          (fun e' he => hs e' (by simpa [RI.subs] using he)) ok (by unfold evs; rw [h1]; rfl) fun vs s₁ x₁ hvs => ?_
        obtain ⟨v, r, rfl, ⟨a, us, rfl, ha, hl, H⟩, hr⟩ := hvs
        have hr0 : r = [] := hr
        subst hr0
        refine call_enumerate_list hl.isList fun h' he hi hsz hk => ?_
        have x₂ : Ext [] s₁ { s₁ with heap := h' } := Ext.mk' (Nat.le_refl _) (by show _ ≤ h'.objs.size; rw [hsz]; exact Nat.le_add_right _ _) fun b o _ q => hk b o q
        refine wpAny_pyIter_enum he (h _ _ [s₁.heap.objs.size + 1, s₁.heap.objs.size] (enumFrom 0 l) (x₁.trans x₂) rfl ?_ (enum_src x₂ hsz he hi ha hl H))
        intro b hb
        have := x₁.size
        simp only [List.mem_cons, List.not_mem_nil, or_false] at hb
        show _ ∧ b < h'.objs.size
        rw [hsz]
        rcases hb with rfl | rfl
        · exact ⟨Nat.le_trans this (Nat.le_add_right _ _), Nat.add_lt_add_left (by decide) _⟩
        · exact ⟨this, Nat.lt_add_of_pos_right (by decide)⟩
      | _ => cases hp
  | zip e₁ e₂ np p =>
    rw [pitems] at hp
    cases h1 : rec ρ e₁ with
    | none => rw [h1] at hp; cases hp
    | some q =>
      rw [h1] at hp; (try dsimp only at hp)
      cases q with
      | lst l =>
        (try dsimp only at hp)
        cases h2 : rec ρ e₂ with
        | none => rw [h2] at hp; cases hp
        | some q =>
          rw [h2] at hp; (try dsimp only at hp)
          cases q with
          | lst r =>
            (try dsimp only at hp)
            split at hp
            · rename_i hlr
              cases hp
              simp only [decide_eq_true_eq] at hlr
              show wpAny _ _ (eval (.Call (.Name "zip" np) (toEs [e₁, e₂]) [] p) env) _ _ _
              refine call_ok (x := "zip") (f := .type "zip") (ps := [.lst l, .lst r]) rfl (fun Q h => blt_ok B ok.e ok.old (v := .type "zip") (by decide +kernel) (isGlob_ok wf) (h (.inr (.inl ⟨_, rfl⟩))))
                (fun e' he => hs e' (by simpa [RI.subs] using he)) ok (by unfold evs; rw [h1]; dsimp only; unfold evs; rw [h2]; rfl) fun vs s₁ x₁ hvs => ?_
              obtain ⟨v, r', rfl, ⟨a, us, rfl, ha, hl, H⟩, hr⟩ := hvs
              obtain ⟨v', r'', rfl, ⟨a', us', rfl, ha', hl', H'⟩, hr'⟩ := hr
              have hr0 : r'' = [] := hr'
              subst hr0
              refine call_zip_2 hl.isList hl'.isList fun h' hz hTI hTO hi hj hsz hk => ?_
              have x₂ : Ext [] s₁ { s₁ with heap := h' } := Ext.mk' (Nat.le_refl _) (by show _ ≤ h'.objs.size; rw [hsz]; exact Nat.le_add_right _ _) fun b o _ q => hk b o q
              refine wpAny_pyIter_zip hz (h _ _ [s₁.heap.objs.size + 4, s₁.heap.objs.size + 3, s₁.heap.objs.size, s₁.heap.objs.size + 1] (zipP l r) (x₁.trans x₂) rfl ?_ (zip_src x₂ hsz (ok.ext x₁).live hz hTI hTO hi hj ha ha' hl hl' H H' hlr))
              intro b hb
              have := x₁.size
              simp only [List.mem_cons, List.not_mem_nil, or_false] at hb
              show _ ∧ b < h'.objs.size
              rw [hsz]
              rcases hb with rfl | rfl | rfl | rfl
              · exact ⟨Nat.le_trans this (Nat.le_add_right _ _), Nat.add_lt_add_left (by decide) _⟩
              · exact ⟨Nat.le_trans this (Nat.le_add_right _ _), Nat.add_lt_add_left (by decide) _⟩
              · exact ⟨this, Nat.lt_add_of_pos_right (by decide)⟩
              · exact ⟨Nat.le_trans this (Nat.le_add_right _ _), Nat.add_lt_add_left (by decide) _⟩
            · cases hp
          | _ => cases hp
      | _ => cases hp
end
end Mine

-- part V15
namespace Mine
open PySem PySem.W PyProof.Rows

def cellishB : Option NameKind → Bool
  | some .cell => true
  | some .free => true
  | _ => false
theorem cellishB_ok {k : Option NameKind} (h : cellishB k = true) : cellish k := by
  unfold cellishB at h
  split at h
  · exact .inl rfl
  · exact .inr rfl
  · cases h
def isLocalB : Option NameKind → Bool
  | some .local => true
  | _ => false
theorem isLocalB_ok {k : Option NameKind} (h : isLocalB k = true) : k = some .local := by
  unfold isLocalB at h
  split at h
  · rfl
  · cases h
def isCellB : Option NameKind → Bool
  | some .cell => true
  | _ => false
theorem isCellB_ok {k : Option NameKind} (h : isCellB k = true) : k = some .cell := by
  unfold isCellB at h
  split at h
  · rfl
  · cases h
def isFreeB : Option NameKind → Bool
  | some .free => true
  | _ => false
theorem isFreeB_ok {k : Option NameKind} (h : isFreeB k = true) : k = some .free := by
  unfold isFreeB at h
  split at h
  · rfl
  · cases h
def isFunB : ScopeKind → Bool
  | .function => true
  | _ => false
theorem isFunB_ok {k : ScopeKind} (h : isFunB k = true) : k = .function := by
  unfold isFunB at h
  split at h
  · rfl
  · cases h

def wfScope (sc sc' : Scope) (fr ts : List Nat) : Bool :=
  isFunB sc'.kind && isLocalB (sc'.names.lookup (Str.ofString ".0")) &&
  (sc'.names.all fun p => !isLocalB (some p.2) || isLocalB (sc'.names.lookup p.1)) &&
  (sc'.names.all fun p => !isFreeB (some p.2) || cellishB (sc.names.lookup p.1)) &&
  (fr.all fun x => isFreeB (sc'.names.lookup (nmS x)) && cellishB (sc.names.lookup (nmS x)) && sc'.names.all fun p => !(p.1 == nmS x) || !isCellB (some p.2)) &&
  (ts.all fun x => decide (x < nmTab.length) && (isLocalB (sc'.names.lookup (nmS x)) || isCellB (sc'.names.lookup (nmS x))) && !fr.contains x)

def closOf (env : Env) : List (Str × NameKind) → List (Str × Addr) → List (Str × Addr)
  | [], acc => acc
  | (n, k) :: r, acc => if k == .free then closOf env r ((n, (env.cells.lookup n).getD 0) :: acc) else closOf env r acc
theorem closureFor_ok {scope : Scope} {env : Env} (h : ∀ x ∈ scope.names, x.2 = .free → ∃ c, env.cells.lookup x.1 = some c) : closureFor scope env = pure (closOf env scope.names []) := by
  have go : ∀ (f : Str × NameKind → List (Str × Addr) → Sem (ForInStep (List (Str × Addr)))) (_ : ∀ n k r, f (n, k) r = if (k == .free) = true then (do let c ← cellOf env n; pure (ForInStep.yield ((n, c) :: r))) else pure (ForInStep.yield r))
      (names : List (Str × NameKind)) (acc : List (Str × Addr)), (∀ x ∈ names, x.2 = .free → ∃ c, env.cells.lookup x.1 = some c) → forIn names acc f = pure (closOf env names acc) := by
    intro f hf names
    induction names with
    | nil => intro acc _; rw [List.forIn_nil]; rfl
    | cons x r ih =>
      intro acc hx
      obtain ⟨n, k⟩ := x
      rw [List.forIn_cons, hf]
      unfold closOf
      cases hk : k == NameKind.free with
      | true =>
        obtain ⟨c, hc⟩ := hx (n, k) (by simp) (eq_of_beq hk)
        simp only [if_true, cellOf, hc, pure_bind]
        exact ih _ fun y hy => hx y (by simp [hy])
      | false =>
        simp only [Bool.false_eq_true, if_false, pure_bind]
        exact ih _ fun y hy => hx y (by simp [hy])
  simp only [closureFor]
  rw [go _ (fun n k r => rfl) scope.names [] h]
  rfl

theorem closOf_mem {env : Env} : ∀ {names : List (Str × NameKind)} {acc : List (Str × Addr)} {n : Str} {c : Addr}, (∀ x ∈ names, x.2 = .free → ∃ c, env.cells.lookup x.1 = some c) → (n, c) ∈ closOf env names acc → (n, c) ∈ acc ∨ env.cells.lookup n = some c
  | [], acc, n, c, _, h => .inl h
  | (m, k) :: r, acc, n, c, hx, h => by
    unfold closOf at h
    split at h
    · rename_i hk
      rcases closOf_mem (fun y hy => hx y (by simp [hy])) h with h1 | h1
      · rcases List.mem_cons.mp h1 with e | h1
        · obtain ⟨c', hc'⟩ := hx (m, k) (by simp) (eq_of_beq hk)
          cases e
          right; rw [hc']; rfl
        · exact .inl h1
      · exact .inr h1
    · exact closOf_mem (fun y hy => hx y (by simp [hy])) h
theorem closOf_acc {env : Env} : ∀ {names : List (Str × NameKind)} {acc : List (Str × Addr)} {x : Str × Addr}, x ∈ acc → x ∈ closOf env names acc
  | [], _, _, h => h
  | (m, k) :: r, acc, x, h => by
    unfold closOf
    split
    · exact closOf_acc (by simp [h])
    · exact closOf_acc h
theorem closOf_has {env : Env} : ∀ {names : List (Str × NameKind)} {acc : List (Str × Addr)} {n : Str}, (n, NameKind.free) ∈ names → ∃ c, (n, c) ∈ closOf env names acc
  | (m, k) :: r, acc, n, h => by
    unfold closOf
    rcases List.mem_cons.mp h with e | h
    · cases e
      exact ⟨(env.cells.lookup m).getD 0, closOf_acc (by simp)⟩
    · split
      · exact closOf_has h
      · exact closOf_has h
theorem cellsFrom_split : ∀ (names : List (Str × NameKind)) (k : Nat) (acc : List (Str × Addr)), cellsFrom k names acc = cellsFrom k names [] ++ acc
  | [], _, _ => rfl
  | (m, kd) :: r, k, acc => by
    unfold cellsFrom
    split
    · rw [cellsFrom_split r (k + 1) ((m, k) :: acc), cellsFrom_split r (k + 1) [(m, k)], List.append_assoc]; rfl
    · exact cellsFrom_split r k acc
theorem cellsFrom_mem : ∀ {names : List (Str × NameKind)} {k : Nat} {acc : List (Str × Addr)} {n : Str} {c : Addr}, (n, c) ∈ cellsFrom k names acc → (n, c) ∈ acc ∨ (n, NameKind.cell) ∈ names
  | [], _, _, _, _, h => .inl h
  | (m, kd) :: r, k, acc, n, c, h => by
    unfold cellsFrom at h
    split at h
    · rename_i hk
      rcases cellsFrom_mem h with h1 | h1
      · rcases List.mem_cons.mp h1 with e | h1
        · cases e; exact .inr (by rw [eq_of_beq hk]; simp)
        · exact .inl h1
      · exact .inr (by simp [h1])
    · rcases cellsFrom_mem h with h1 | h1
      · exact .inl h1
      · exact .inr (by simp [h1])
theorem cellsFrom_has : ∀ {names : List (Str × NameKind)} {k : Nat} {acc : List (Str × Addr)} {n : Str}, (n, NameKind.cell) ∈ names → ∃ c, (n, c) ∈ cellsFrom k names acc
  | (m, kd) :: r, k, acc, n, h => by
    unfold cellsFrom
    rcases List.mem_cons.mp h with e | h
    · cases e
      rw [if_pos (by rfl), cellsFrom_split]
      exact ⟨k, List.mem_append_right _ (by simp)⟩
    · split
      · exact cellsFrom_has h
      · exact cellsFrom_has h
theorem lookup_of_mem {α : Type} : ∀ {l : List (Str × α)} {n : Str} {c : α}, (n, c) ∈ l → ∃ c', l.lookup n = some c'
  | (k, v) :: r, n, c, h => by
    rw [List.lookup_cons]
    cases hb : n == k with
    | true => exact ⟨v, rfl⟩
    | false =>
      rcases List.mem_cons.mp h with e | h
      · cases e; simp at hb
      · exact lookup_of_mem h
theorem lookup_append {α : Type} : ∀ (l r : List (Str × α)) (n : Str), (l ++ r).lookup n = match l.lookup n with | some c => some c | none => r.lookup n
  | [], r, n => rfl
  | (k, v) :: l, r, n => by
    rw [List.cons_append, List.lookup_cons, List.lookup_cons]
    cases n == k with
    | true => rfl
    | false => exact lookup_append l r n
theorem pushCells_size : ∀ (names : List (Str × NameKind)) (h : Heap), h.objs.size ≤ (pushCells h names).objs.size
  | [], _ => Nat.le_refl _
  | (_, k) :: r, h => by
    unfold pushCells
    split
    · exact Nat.le_trans (by rw [Heap.size_push]; exact Nat.le_succ _) (pushCells_size r _)
    · exact pushCells_size r h
theorem lookup_relabel {env : Env} : ∀ {names : List (Str × NameKind)} {x : Str}, (names.map fun (n, k) => if (k == NameKind.free && env.scope.kind == .function && env.kindOf n == some .cell) then (n, NameKind.cell) else (n, k)).lookup x = match names.lookup x with
    | some k => some (if (k == NameKind.free && env.scope.kind == .function && env.kindOf x == some .cell) then .cell else k)
    | none => none
  | [], _ => rfl
  | (n, k) :: r, x => by
    have ih := @lookup_relabel env r x
    show List.lookup x ((if (k == NameKind.free && env.scope.kind == .function && env.kindOf n == some .cell) = true then (n, NameKind.cell) else (n, k)) :: _) = _
    cases hx : x == n with
    | true =>
      have hxn := eq_of_beq hx
      subst hxn
      split <;> simp_all
    | false =>
      split <;> (simp only [List.lookup_cons, hx]; exact ih)

def restrict (fr : List Nat) (ρ : Rho) : Rho := fr.filterMap fun x => (look ρ x).map fun v => (x, v)
theorem restrict_look : ∀ {fr : List Nat} {ρ : Rho} {x : Nat} {p : PV}, look (restrict fr ρ) x = some p → x ∈ fr ∧ look ρ x = some p
  | [], _, _, _, h => by simp [restrict, look] at h
  | y :: fr, ρ, x, p, h => by
    unfold restrict at h
    rw [List.filterMap_cons] at h
    cases hy : look ρ y with
    | none =>
      rw [hy] at h
      obtain ⟨h1, h2⟩ := restrict_look (fr := fr) h
      exact ⟨by simp [h1], h2⟩
    | some q =>
      rw [hy] at h
      simp only [Option.map_some] at h
      rw [look_cons] at h
      by_cases e : y = x
      · rw [if_pos e] at h; cases h; subst e; exact ⟨by simp, hy⟩
      · rw [if_neg e] at h
        obtain ⟨h1, h2⟩ := restrict_look (fr := fr) h
        exact ⟨by simp [h1], h2⟩

theorem wat_local {env : Env} {x : Str} (h : env.kindOf x = some .local) : wat env x = env.locals := by unfold wat; rw [h]
theorem wat_cell {env : Env} {x : Str} {c : Addr} (h : cellish (env.kindOf x)) (hc : env.cells.lookup x = some c) : wat env x = c := by
  unfold wat
  rcases h with h | h <;> rw [h] <;> simp [hc]

section
variable {prog : Program} {w : World} {C : Addr} {h₀ : Heap}

theorem cenv_ok {sc sc' : Scope} {fr ts : List Nat} {l : Nat} {A : Around} {env : Env} {s s₃ : Shared} {W New : List Addr} {ρ : Rho} {Q : Env → Shared → Prop} {E : Value → Shared → Prop} (wf : wfScope sc sc' fr ts = true)
    (ok : Ok prog w C h₀ l sc A env s W ρ) (x : Ext [] s s₃) (hNew : ∀ b ∈ New, s.heap.objs.size ≤ b ∧ b < s₃.heap.objs.size)
    (hQ : ∀ (cenv : Env) (s₄ : Shared) (own : List Addr), cenv.locals = s₃.heap.objs.size → Ext [] s₃ s₄ → (∀ b ∈ own, s₃.heap.objs.size < b ∧ b < s₄.heap.objs.size) → cenv.locals < s₄.heap.objs.size →
      Ok prog w C h₀ l sc' A { cenv with scope := relabel sc' env } s₄ (New ++ cenv.locals :: (own ++ W)) (restrict fr ρ) → (∀ y ∈ ts, CanStore s₄ { cenv with scope := relabel sc' env } (nmS y)) → EnvOff { cenv with scope := relabel sc' env } New →
      CanStore s₄ { cenv with scope := relabel sc' env } (Str.ofString ".0") → (∀ y ∈ ts, s₃.heap.objs.size ≤ wat { cenv with scope := relabel sc' env } (nmS y)) → Q cenv s₄) :
    wpAny (model prog w) A (newFunctionEnv sc' env.globals (closOf env sc'.names []) [] env.qual none .none (some env)) Q E s₃ := by
  unfold wfScope at wf
  simp only [Bool.and_eq_true, List.all_eq_true, Bool.or_eq_true, Bool.not_eq_true', decide_eq_true_eq] at wf
  obtain ⟨⟨⟨⟨⟨wk, w0⟩, wl⟩, wfree⟩, wfr⟩, wts⟩ := wf
  have hkind := isFunB_ok wk
  have hfree : ∀ x ∈ sc'.names, x.2 = .free → ∃ c, env.cells.lookup x.1 = some c := fun y hy e => by
    rcases wfree y hy with h | h
    · rw [e] at h; cases h
    · exact ok.e.has _ (cellishB_ok h)
  simp only [newFunctionEnv, Option.isSome_some, if_true]
  refine wpAny_bind (wpAny_alloc ?_)
  refine wpAny_bind (wpAny_layCells _ (fun name kind cells => by cases kind == NameKind.cell <;> simp) _ _ _ _ ?_)
  rw [List.forIn_nil]
  refine wpAny_bind (wpAny_pure (wpAny_pure ?_))
  rw [show ({ s₃ with heap := s₃.heap.push { cls := .type "dict", data := .dict #[] } } : Shared).heap.objs.size = s₃.heap.objs.size + 1 from Heap.size_push ..]
  rw [cellsFrom_split]
  have okc := cellsFrom_ok sc'.names (s₃.heap.push { cls := .type "dict", data := .dict #[] }) (s₃.heap.objs.size + 1) [] ⟨fun _ _ hm => (nomatch hm), List.Pairwise.nil⟩ (by rw [Heap.size_push]; exact Nat.le_refl _)
  rw [Heap.size_push] at okc
  generalize hown : cellsFrom (s₃.heap.objs.size + 1) sc'.names [] = own at okc ⊢
  have hownk : ∀ {n : Str} {c : Addr}, (n, c) ∈ own → (n, NameKind.cell) ∈ sc'.names := fun {n c} hm => by
    rw [← hown] at hm
    rcases cellsFrom_mem hm with h | h
    · cases h
    · exact h
  have hownh : ∀ {n : Str}, (n, NameKind.cell) ∈ sc'.names → ∃ c, (n, c) ∈ own := fun {n} hm => by rw [← hown]; exact cellsFrom_has hm
  have hcl : ∀ {n : Str} {c : Addr}, (n, c) ∈ closOf env sc'.names [] → env.cells.lookup n = some c := fun {n c} hm => by
    rcases closOf_mem hfree hm with h | h
    · cases h
    · exact h
  have x₄ : Ext [] s₃ { s₃ with heap := pushCells (s₃.heap.push { cls := .type "dict", data := .dict #[] }) sc'.names } :=
    Ext.mk' (Nat.le_refl _) (Nat.le_trans (by rw [Heap.size_push]; exact Nat.le_succ _) (pushCells_size _ _)) fun b o _ q => pushCells_keeps _ _ b o (Heap.get?_push_of_some _ q)
  have hns : (pushCells (s₃.heap.push { cls := .type "dict", data := .dict #[] }) sc'.names).Ns s₃.heap.objs.size fun _ => none := (Heap.Ns.new s₃.heap (.type "dict")).keeps (pushCells_keeps _ _)
  have hLlt : s₃.heap.objs.size < (pushCells (s₃.heap.push { cls := .type "dict", data := .dict #[] }) sc'.names).objs.size := hns.lt
  have hcellW : ∀ {n : Str} {c : Addr}, env.cells.lookup n = some c → c ∈ W ∧ c < s.heap.objs.size := fun {n c} h => ⟨ok.inW.2 n c h, ok.live c (ok.inW.2 n c h)⟩
  have hlt₃ : s.heap.objs.size ≤ s₃.heap.objs.size := x.size
  have hownlt : ∀ b ∈ own.map (·.2), s₃.heap.objs.size < b ∧ b < (pushCells (s₃.heap.push { cls := .type "dict", data := .dict #[] }) sc'.names).objs.size := by
    intro b hb
    obtain ⟨⟨n, c⟩, hm, rfl⟩ := List.mem_map.mp hb
    obtain ⟨h1, h2⟩ := okc.empty n c hm
    exact ⟨h2, h1.lt⟩
  have hlook : ∀ {n : Str} {c : Addr}, (own ++ closOf env sc'.names []).lookup n = some c → (n, c) ∈ own ∨ ((∀ c', (n, c') ∉ own) ∧ env.cells.lookup n = some c) := fun {n c} h => by
    rw [lookup_append] at h
    cases ho : own.lookup n with
    | some c' => rw [ho] at h; cases h; exact .inl (mem_of_lookup ho)
    | none =>
      rw [ho] at h
      refine .inr ⟨fun c' hm => ?_, hcl (mem_of_lookup h)⟩
      obtain ⟨c'', h''⟩ := lookup_of_mem hm
      rw [ho] at h''; cases h''
  have hcellWall : ∀ {n : Str} {c : Addr}, (own ++ closOf env sc'.names []).lookup n = some c → c ∈ own.map (·.2) ∨ c ∈ W := fun {n c} h => by
    rcases hlook h with h | ⟨_, h⟩
    · exact .inl (List.mem_map.mpr ⟨_, h, rfl⟩)
    · exact .inr (hcellW h).1
  refine hQ _ { s₃ with heap := pushCells (s₃.heap.push { cls := .type "dict", data := .dict #[] }) sc'.names } (own.map (·.2)) rfl x₄ hownlt hLlt ?_ ?_ ?_ (.inl ⟨lookup_relabel_local (isLocalB_ok w0), _, hns⟩) ?_
  · have hWnew : ∀ b ∈ New ++ s₃.heap.objs.size :: (own.map (·.2) ++ W), b ∈ W ∨ s.heap.objs.size ≤ b := by
      intro b hb
      simp only [List.mem_append, List.mem_cons] at hb
      rcases hb with hb | rfl | hb | hb
      · exact .inr (hNew b hb).1
      · exact .inr hlt₃
      · exact .inr (Nat.le_trans hlt₃ (Nat.le_of_lt (hownlt b hb).1))
      · exact .inl hb
    refine ⟨ok.a, ⟨?_, ok.e.gl, ok.e.bt, ?_, ?_, ?_, ?_, ?_⟩, fun b o q => (x.trans x₄).keep b o (by simp) (ok.old b o q), Nat.lt_of_lt_of_le ok.tk (x.trans x₄).toks, ?_, ?_, ⟨by simp, ?_⟩, Nat.lt_of_lt_of_le ok.sz (x.trans x₄).size, ?_⟩
    · exact hkind
    · intro y hy
      exact lookup_relabel_local hy
    · intro y hy
      show List.lookup y (List.map _ sc'.names) = _
      rw [lookup_relabel, hy]; rfl
    · intro y hy
      show cellish (List.lookup y (List.map _ sc'.names))
      rw [lookup_relabel]
      rcases hy with hy | hy
      · rw [hy]; exact .inl rfl
      · rw [hy]; dsimp only; split
        · exact .inl rfl
        · exact .inr rfl
    · intro y z c hy hz
      rcases hlook hy with hy | ⟨_, hy⟩ <;> rcases hlook hz with hz | ⟨_, hz⟩
      · exact name_of_addr okc.apart hy hz
      · exact absurd (hcellW hz).2 (Nat.not_lt.mpr (Nat.le_trans hlt₃ (Nat.le_trans (Nat.le_succ _) (okc.empty y c hy).2)))
      · exact absurd (hcellW hy).2 (Nat.not_lt.mpr (Nat.le_trans hlt₃ (Nat.le_trans (Nat.le_succ _) (okc.empty z c hz).2)))
      · exact ok.e.apart y z c hy hz
    · intro y hy
      rcases hy with hy | hy
      · obtain ⟨c, hc⟩ := hownh (mem_of_lookup hy)
        exact lookup_of_mem (List.mem_append_left _ hc)
      · obtain ⟨c, hc⟩ := closOf_has (env := env) (acc := []) (mem_of_lookup hy)
        exact lookup_of_mem (List.mem_append_right _ hc)
    · intro b hb
      simp only [List.mem_append, List.mem_cons] at hb
      rcases hb with hb | rfl | hb | hb
      · exact Nat.lt_of_lt_of_le (hNew b hb).2 x₄.size
      · exact hLlt
      · exact (hownlt b hb).2
      · exact Nat.lt_of_lt_of_le (ok.live b hb) (x.trans x₄).size
    · intro b hb
      rcases hWnew b hb with h | h
      · exact ok.base b h
      · cases e : h₀.get? b with
        | none => rfl
        | some o => exact absurd (Heap.lt_size (ok.old b o e)) (Nat.not_lt.mpr h)
    · intro y c h
      rcases hcellWall h with h | h
      · simp only [List.mem_append, List.mem_cons]; exact .inr (.inr (.inl h))
      · simp only [List.mem_append, List.mem_cons]; exact .inr (.inr (.inr h))
    · intro y p hy
      obtain ⟨hf, hl⟩ := restrict_look hy
      obtain ⟨v, lk, hv⟩ := ok.rho y p hl
      obtain ⟨⟨w1, w2⟩, w3⟩ := wfr y hf
      have hfr := isFreeB_ok w1
      refine ⟨v, .inr ⟨?_, ?_⟩, ?_⟩
      · show cellish (List.lookup _ (List.map _ sc'.names))
        rw [lookup_relabel, hfr]; dsimp only; split
        · exact .inl rfl
        · exact .inr rfl
      · rcases lk with ⟨a, _⟩ | ⟨_, c, hc, hcv⟩
        · exact absurd a fun q => cellish_not_local (ok.e.cell _ (cellishB_ok w2)) q
        · refine ⟨c, ?_, hcv.keeps fun b o q => (x.trans x₄).keep b o (by simp) q⟩
          show (own ++ closOf env sc'.names []).lookup (nmS y) = some c
          have hno : ∀ c', (nmS y, c') ∉ own := fun c' hm => by
            have := w3 _ (hownk hm)
            simp [isCellB] at this
          obtain ⟨c', hc'⟩ := closOf_has (env := env) (acc := []) (mem_of_lookup hfr)
          obtain ⟨c'', hc''⟩ := lookup_of_mem (List.mem_append_right own hc')
          rcases hlook hc'' with h | ⟨_, h⟩
          · exact absurd h (hno _)
          · rw [hc''] ; rw [hc] at h; exact h.symm
      · refine VR.mono (fun b o hb q => ⟨(x.trans x₄).keep b o (by simp) q, fun hm => ?_⟩) p v hv
        rcases hWnew b hm with h | h
        · exact hb h
        · exact absurd (Heap.lt_size q) (Nat.not_lt.mpr h)
  · intro y hy
    obtain ⟨⟨w1, w2⟩, w3⟩ := wts y hy
    rcases w2 with w2 | w2
    · exact .inl ⟨lookup_relabel_local (isLocalB_ok w2), _, hns⟩
    · have hce := isCellB_ok w2
      refine .inr ⟨?_, ?_⟩
      · show cellish (List.lookup _ (List.map _ sc'.names))
        rw [lookup_relabel, hce]; exact .inl rfl
      · obtain ⟨c, hc⟩ := hownh (mem_of_lookup hce)
        obtain ⟨c', hc'⟩ := lookup_of_mem (List.mem_append_left (closOf env sc'.names []) hc)
        rcases hlook hc' with h | ⟨h, _⟩
        · exact ⟨c', none, hc', (okc.empty _ _ h).1⟩
        · exact absurd hc (h c)
  · refine ⟨fun hm => Nat.lt_irrefl _ (hNew _ hm).2, fun y c h hm => ?_⟩
    rcases hlook h with h | ⟨_, h⟩
    · exact Nat.lt_irrefl _ (Nat.lt_of_lt_of_le (hNew _ hm).2 (Nat.le_of_lt (hownlt c (List.mem_map.mpr ⟨_, h, rfl⟩)).1))
    · exact Nat.lt_irrefl _ (Nat.lt_of_lt_of_le (hcellW h).2 (hNew _ hm).1)
  · intro y hy
    obtain ⟨⟨w1, w2⟩, w3⟩ := wts y hy
    rcases w2 with w2 | w2
    · refine Nat.le_of_eq (Eq.symm (Eq.trans (wat_local ?_) rfl))
      exact lookup_relabel_local (isLocalB_ok w2)
    · have hce := isCellB_ok w2
      obtain ⟨c, hc⟩ := hownh (mem_of_lookup hce)
      obtain ⟨c', hc'⟩ := lookup_of_mem (List.mem_append_left (closOf env sc'.names []) hc)
      rcases hlook hc' with h | ⟨h, _⟩
      · refine Nat.le_trans (Nat.le_of_lt (hownlt c' (List.mem_map.mpr ⟨_, h, rfl⟩)).1) (Nat.le_of_eq (Eq.symm (wat_cell ?_ hc')))
        show cellish (List.lookup _ (List.map _ sc'.names))
        rw [lookup_relabel, hce]; exact .inl rfl
      · exact absurd hc (h c)
end
end Mine

-- part V16
namespace Mine
open PySem PySem.W PyProof.Rows

theorem Ext.drop {X N : List Addr} {s s' : Shared} (x : Ext (N ++ X) s s') (h : ∀ b ∈ N, s.heap.objs.size ≤ b) : Ext X s s' :=
  ⟨x.gens, x.drawn, x.os, x.toks, fun b o hb e => x.keep b o (fun hm => by
    rcases List.mem_append.mp hm with q | q
    · exact Nat.lt_irrefl _ (Nat.lt_of_lt_of_le (Heap.lt_size e) (h b q))
    · exact hb q) e, x.size⟩
theorem Mv.drop {env : Env} {T : List Str} {X N : List Addr} {s s' : Shared} (m : Mv env T (N ++ X) s s') (h : ∀ b ∈ N, s.heap.objs.size ≤ b) : Mv env T X s s' := ⟨m.ext.drop h, m.look, m.can⟩

section
variable {α : Type} {rec : Rho → RE → Option PV} {t : RT} {ifs : List RE} {k : Rho → Option (List α × Bool)} {ρ : Rho}
theorem plevel_sim {b b' : Bool} {xs xs' : List PV} {o : List α} (hs : Sim b xs' xs) (h : plevel rec t ifs k xs ρ = some (o, b')) : ∃ o', plevel rec t ifs k xs' ρ = some (o', b') ∧ Sim b o' o := by
  cases b
  · exact ⟨o, by rw [show xs' = xs from hs]; exact h, rfl⟩
  · exact plevel_perm hs h
theorem plevel_pairs (ht : t.isPair = true) : ∀ {xs : List PV} {r : List α × Bool}, plevel rec t ifs k xs ρ = some r → pairsOnly xs
  | [], _, _ => fun p hp => by cases hp
  | v :: xs, r, h => by
    rw [plevel] at h
    cases hb : bindT t v ρ with
    | none => rw [hb] at h; cases h
    | some ρ' =>
      rw [hb] at h
      (try dsimp only at h)
      have hv : ∃ a b, v = .tup [a, b] := by
        cases t with
        | nm _ _ => cases ht
        | tp x px y py kk pp => obtain ⟨p, q, e, _⟩ := bindT_tp hb; exact ⟨p, q, e⟩
      have hrest : ∃ r', plevel rec t ifs k xs ρ = some r' := by
        cases h1 : ptests rec ρ' ifs with
        | none => rw [h1] at h; cases h
        | some c =>
          rw [h1] at h
          cases c with
          | false => exact ⟨r, h⟩
          | true =>
            (try dsimp only at h)
            cases h2 : k ρ' with
            | none => rw [h2] at h; cases h
            | some q =>
              obtain ⟨o1, b1⟩ := q
              rw [h2] at h
              (try dsimp only at h)
              cases h3 : plevel rec t ifs k xs ρ with
              | none => rw [h3] at h; cases h
              | some q => exact ⟨q, rfl⟩
      obtain ⟨r', h'⟩ := hrest
      intro p hp
      rcases List.mem_cons.mp hp with rfl | hp
      · exact hv
      · exact plevel_pairs ht h' p hp
end
theorem Sim.trans {α : Type} {b b' : Bool} {x y z : List α} (h : Sim b x y) (k : Sim b' y z) : Sim (b' || b) x z := by
  cases b'
  · rw [← show y = z from k]; exact h
  · exact List.Perm.trans h.perm k

/-- a comprehension begins: the iterator is asked for itself, or not -/
theorem compStart_ok {prog : Program} {w : World} {A : Around} {s : Shared} {e : Expr} {depth : Nat} {it acc : Value} {env : Env} {g : Comprehension} {R : Result → Shared → Prop} (hg : (clausesOf e)[depth]? = some g) (ha : g.is_async = 0)
    (hden : ∀ s Q E, wpAny (model prog w) A ((compStart e depth it acc env).onRaise (fun x => do noteFrame x env; standAt theWindowsPlace)) Q E s →
      wpAny (model prog w) (A.under (.compStart e depth it acc env)) ((model prog w).den (.compStart e depth it acc env)) Q E s)
    (hq : (Code.compLoop e depth it acc env).quiet = true)
    (hself : ∀ (Q E : Value → Shared → Prop), Q it s → wpAny (model prog w) A (pyIter it) Q E s) (h0 : codeAny (model prog w) A (.compLoop e depth it acc env) R s) :
    codeAny (model prog w) A (.compStart e depth it acc env) R s := by
  refine codeAny_of_tree (hden _ _ _ (wpAny_notedAt ?_))
  unfold compStart
  rw [hg]
  simp only [Option.elim_some, ha, bne_self_eq_false, Bool.false_eq_true, if_false]
  refine wpAny_bind (wpAny_askSetting ?_)
  split
  · exact wpAny_bind (wpAny_pure (wpAny_pure ⟨hq, h0⟩))
  · refine wpAny_bind (wpAny_rule (wpAny_bind (wpAny_standAt (wpAny_bind (hself _ _ (wpAny_pure ⟨hq, h0⟩))))))

section
variable {prog : Program} {w : World} {C : Addr} {h₀ : Heap} {α : Type}

theorem level_src {sc : Scope} {l : Nat} {rec : Rho → RE → Option PV} {A : Around} {env : Env} {W W₀ : List Addr} {ρ : Rho} {t : RT} {ifs : List RE} {kev : Rho → Option (List α × Bool)} {xs : List PV} {kd : RT → Prop} {s₂ : Shared}
    {I : Addr} {wr Xo : List Addr} {Tin Tall : List Str} (acc : Acc α) {e : Expr} {depth : Nat} {ipos : Pos} {K : Sem Unit} {R : Result → Shared → Prop} {av : Value} {g : Comprehension}
    (hg : (clausesOf e)[depth]? = some g) (ha : g.is_async = 0)
    (hdS : ∀ s Q E, wpAny (model prog w) A ((compStart e depth (.ref I) av env).onRaise (fun x => do noteFrame x env; standAt theWindowsPlace)) Q E s →
      wpAny (model prog w) (A.under (.compStart e depth (.ref I) av env)) ((model prog w).den (.compStart e depth (.ref I) av env)) Q E s)
    (hq : (Code.compLoop e depth (.ref I) av env).quiet = true)
    (hden : ∀ s Q E, wpAny (model prog w) A ((turnTree e depth (.ref I) av env t.toE ipos (toEs ifs) K).onRaise (fun x => do noteFrame x env; theTreesLotGoes x)) Q E s →
      wpAny (model prog w) (A.under (.compLoop e depth (.ref I) av env)) ((model prog w).den (.compLoop e depth (.ref I) av env)) Q E s)
    (src : Src prog w C kd s₂ W₀ I wr xs) (hkd : kd t) (tg : t.good) (htn : ∀ x ∈ t.names, x < nmTab.length)
    {s : Shared} (hkeep : ∀ b o, s₂.heap.get? b = some o → s.heap.get? b = some o) (hwr : ∀ b ∈ wr, b ∈ W) (hW : ∀ b ∈ W, b < s₂.heap.objs.size → b ∈ wr ∨ b ∈ W₀) (off : EnvOff env wr) (hXo : ∀ b ∈ Xo, b ∈ W ∧ b ∉ wr) (hD : acc.D ∉ wr) (offD : EnvOff env [acc.D])
    (htall : ∀ y ∈ t.strs, y ∈ Tall) (hin : ∀ x p, look ρ x = some p → nmS x ∉ Tin) (htests : ∀ e ∈ ifs, SoundB prog w C h₀ sc l rec e)
    (hK : ∀ ρ' s outs o b (Q : Unit → Shared → Prop) (E : Value → Shared → Prop), Ok prog w C h₀ l sc A env s W ρ' → (∀ y ∈ Tall, CanStore s env y) → acc.rel W outs s → kev ρ' = some (o, b) → acc.fin (outs ++ o) → (∀ x p, look ρ x = some p → look ρ' x = some p) →
      (∀ s' o', Mv env Tin Xo s s' → acc.rel W (outs ++ o') s' → Sim b o' o → Q () s') → wpAny (model prog w) A K Q E s)
    {outs o : List α} {b : Bool} (ok : Ok prog w C h₀ l sc A env s W ρ) (can : ∀ y ∈ Tall, CanStore s env y) (ac : acc.rel W outs s) (hp : plevel rec t ifs kev xs ρ = some (o, b)) (hfin : acc.fin (outs ++ o))
    (hR : ∀ s' o', Mv env (t.strs ++ Tin) (wr ++ (t.names.map fun x => wat env (nmS x)) ++ Xo) s s' → acc.rel W (outs ++ o') s' → Sim b o' o → R (.ok .next) s') :
    codeAny (model prog w) A (.compStart e depth (.ref I) av env) R s := by
  obtain ⟨St, wk, st0⟩ := src A env W t Xo sc ok.a.handled hkd tg (fun ht => plevel_pairs ht hp) ok.e ok.inW off hwr hXo hW
  have st := st0 s.heap hkeep
  refine compStart_ok hg ha hdS hq (fun Q E h => wk.self 0 s Q E st h) ?_
  refine level_ok acc hq hden wk hwr (fun x hx => (can _ (htall _ (List.mem_map.mpr ⟨x, hx, rfl⟩))).watIn ok.inW) (fun b hb => (hXo b hb).1) hD (fun x hx e => ?_) htn htall hin htests hK ok can st ac hp hfin hR
  exact (can _ (htall _ (List.mem_map.mpr ⟨x, hx, rfl⟩))).watOff offD (by simp [e])

variable (prog w C h₀) in
/-- what stands at the heart of a comprehension -/
def EmitOk (sc : Scope) (l : Nat) (acc : Acc α) (A : Around) (env : Env) (emit : Rho → Option α) (K : Sem Unit) : Prop :=
  ∀ W ρ s outs a (Q : Unit → Shared → Prop) (E : Value → Shared → Prop), Ok prog w C h₀ l sc A env s W ρ → acc.D ∈ W → EnvOff env [acc.D] → acc.rel W outs s → emit ρ = some a → acc.fin (outs ++ [a]) →
    (∀ s', Mv env [] [acc.D] s s' → acc.rel W (outs ++ [a]) s' → Q () s') → wpAny (model prog w) A K Q E s

theorem EmitOk.toK {sc : Scope} {l : Nat} {rec : Rho → RE → Option PV} {acc : Acc α} {A : Around} {env : Env} {emit : Rho → Option α} {K : Sem Unit} (H : EmitOk prog w C h₀ sc l acc A env emit K) {W : List Addr} {Tall : List Str} {ρ : Rho} (hD : acc.D ∈ W) (offD : EnvOff env [acc.D]) :
    ∀ ρ' s outs o b (Q : Unit → Shared → Prop) (E : Value → Shared → Prop), Ok prog w C h₀ l sc A env s W ρ' → (∀ y ∈ Tall, CanStore s env y) → acc.rel W outs s → pwithin rec emit [] ρ' = some (o, b) → acc.fin (outs ++ o) → (∀ x p, look ρ x = some p → look ρ' x = some p) →
      (∀ s' o', Mv env [] [acc.D] s s' → acc.rel W (outs ++ o') s' → Sim b o' o → Q () s') → wpAny (model prog w) A K Q E s := by
  intro ρ' s outs o b Q E ok _ ac hp hfin _ h
  rw [pwithin] at hp
  cases he : emit ρ' with
  | none => rw [he] at hp; cases hp
  | some a =>
    rw [he] at hp; cases hp
    exact H W ρ' s outs a Q E ok hD offD ac he hfin fun s' m r => h s' [a] m r rfl
end
end Mine

-- part V17
namespace Mine
open PySem PySem.W PyProof.Rows

theorem RI.folded (it : RI) (env : Env) (x : Value) : foldedSetIterable it.toE env x = pure x := by
  cases it with
  | ex e => cases e <;> rfl
  | enum _ _ _ => rfl
  | zip _ _ _ _ => rfl

section
variable {prog : Program} {w : World} {C : Addr} {h₀ : Heap} {α : Type}

theorem Ok.grow {l : Nat} {sc : Scope} {A : Around} {env : Env} {s s' : Shared} {W N : List Addr} {ρ : Rho} (H : Ok prog w C h₀ l sc A env s W ρ) (x : Ext [] s s') (hN : ∀ b ∈ N, s.heap.objs.size ≤ b ∧ b < s'.heap.objs.size) :
    Ok prog w C h₀ l sc A env s' (N ++ W) ρ where
  a := H.a
  e := H.e
  old := fun b o q => x.keep b o (by simp) (H.old b o q)
  tk := Nat.lt_of_lt_of_le H.tk x.toks
  live := fun b hb => by
    rcases List.mem_append.mp hb with h | h
    · exact (hN b h).2
    · exact Nat.lt_of_lt_of_le (H.live b h) x.size
  base := fun b hb => by
    rcases List.mem_append.mp hb with h | h
    · cases e : h₀.get? b with
      | none => rfl
      | some o => exact absurd (Heap.lt_size (H.old b o e)) (Nat.not_lt.mpr (hN b h).1)
    · exact H.base b h
  inW := ⟨List.mem_append_right _ H.inW.1, fun y c h => List.mem_append_right _ (H.inW.2 y c h)⟩
  sz := Nat.lt_of_lt_of_le H.sz x.size
  rho := fun y p e => let ⟨v, h1, h2⟩ := H.rho y p e; ⟨v, h1.keep fun b o q => x.keep b o (by simp) q, VR.mono (fun b o hb q => ⟨x.keep b o (by simp) q, fun hm => by
    rcases List.mem_append.mp hm with h | h
    · exact Nat.lt_irrefl _ (Nat.lt_of_lt_of_le (Heap.lt_size q) (hN b h).1)
    · exact hb h⟩) p v h2⟩
theorem Acc.grow {acc : Acc α} {s s' : Shared} {W N : List Addr} {outs : List α} (H : acc.rel W outs s) (x : Ext [] s s') (hN : ∀ b ∈ N, s.heap.objs.size ≤ b) : acc.rel (N ++ W) outs s' :=
  acc.keep _ _ _ _ _ (fun b o hb q => ⟨x.keep b o (by simp) q, fun hm => by
    rcases List.mem_append.mp hm with h | h
    · exact Nat.lt_irrefl _ (Nat.lt_of_lt_of_le (Heap.lt_size q) (hN b h))
    · exact hb h⟩) (fun o q => x.keep _ o (by simp) q) H
theorem EnvIn.off {env : Env} {W N : List Addr} {n : Nat} (h : EnvIn env W) (hW : ∀ b ∈ W, b < n) (hN : ∀ b ∈ N, n ≤ b) : EnvOff env N :=
  ⟨fun q => Nat.lt_irrefl _ (Nat.lt_of_lt_of_le (hW _ h.1) (hN _ q)), fun y c e q => Nat.lt_irrefl _ (Nat.lt_of_lt_of_le (hW _ (h.2 y c e)) (hN _ q))⟩

theorem inner_ok {sc : Scope} {l : Nat} {rec : Rho → RE → Option PV} {A : Around} {env : Env} {W : List Addr} {ρ : Rho} {t : RT} {it : RI} {ifs : List RE} {emit : Rho → Option α}
    {Tall : List Str} {acc : Acc α} {e : Expr} {av : Value} {g : Comprehension} {K : Sem Unit} (B : Base h₀)
    (hg : (clausesOf e)[1]? = some g) (ha : g.is_async = 0)
    (hdS : ∀ itv s Q E, wpAny (model prog w) A ((compStart e 1 itv av env).onRaise (fun x => do noteFrame x env; standAt theWindowsPlace)) Q E s →
      wpAny (model prog w) (A.under (.compStart e 1 itv av env)) ((model prog w).den (.compStart e 1 itv av env)) Q E s)
    (hq : ∀ itv, (Code.compLoop e 1 itv av env).quiet = true)
    (hden : ∀ I s Q E, wpAny (model prog w) A ((turnTree e 1 (.ref I) av env t.toE it.toE.pos (toEs ifs) K).onRaise (fun x => do noteFrame x env; theTreesLotGoes x)) Q E s →
      wpAny (model prog w) (A.under (.compLoop e 1 (.ref I) av env)) ((model prog w).den (.compLoop e 1 (.ref I) av env)) Q E s)
    (wfi : it.wf sc = true) (hkd : it.kind t) (tg : t.good) (htn : ∀ x ∈ t.names, x < nmTab.length) (htall : ∀ y ∈ t.strs, y ∈ Tall)
    (hsi : ∀ e ∈ it.subs, SoundV prog w C h₀ sc l rec e) (htests : ∀ e ∈ ifs, SoundB prog w C h₀ sc l rec e) (H : EmitOk prog w C h₀ sc l acc A env emit K) (hD : acc.D ∈ W) (offD : EnvOff env [acc.D]) :
    ∀ ρ' s outs o b (Q : Unit → Shared → Prop) (E : Value → Shared → Prop), Ok prog w C h₀ l sc A env s W ρ' → (∀ y ∈ Tall, CanStore s env y) → acc.rel W outs s → pwithin rec emit [.mk t it ifs] ρ' = some (o, b) → acc.fin (outs ++ o) → (∀ x p, look ρ x = some p → look ρ' x = some p) →
      (∀ s' o', Mv env t.strs ((t.names.map fun x => wat env (nmS x)) ++ [acc.D]) s s' → acc.rel W (outs ++ o') s' → Sim b o' o → Q () s') →
      wpAny (model prog w) A (do
        let x ← eval it.toE env
        standAt it.toE.pos
        let x ← foldedSetIterable it.toE env x
        let _ ← runOwn (.compStart e 1 (← holding [x] (pyIter x)) av env) env) Q E s := by
  intro ρ' s outs o b Q E ok can ac hp hfin _ h
  rw [pwithin] at hp
  cases hi : pitems rec ρ' it with
  | none => rw [hi] at hp; cases hp
  | some q =>
    obtain ⟨xs, b₁⟩ := q
    rw [hi] at hp; (try dsimp only at hp)
    cases hl : plevel rec t ifs (pwithin rec emit []) xs ρ' with
    | none => rw [hl] at hp; cases hp
    | some q =>
      obtain ⟨o₁, b₂⟩ := q
      rw [hl] at hp; cases hp
      refine wpAny_bind (wpAny_mono (items_ok (Q := fun itv s₂ => wpAny (model prog w) A (runOwn (.compStart e 1 itv av env) env >>= fun _ => pure ()) Q E s₂) B wfi hsi ok hi fun s₂ I wr xs' x₂ sim hwr src => ?_) (fun x s₁ h₁ => wpAny_bind (wpAny_standAt (wpAny_bind (wpAny_of_eq (it.folded env x) (wpAny_bind (wpAny_holding h₁)))))) fun _ _ q => q)
      have ok₂ := ok.grow x₂ hwr
      have ac₂ : acc.rel (wr ++ W) outs s₂ := Acc.grow ac x₂ fun b hb => (hwr b hb).1
      have offwr : EnvOff env wr := ok.inW.off ok.live fun b hb => (hwr b hb).1
      obtain ⟨o', hl', sim'⟩ := plevel_sim sim hl
      have hDwr : acc.D ∉ wr := fun q => Nat.lt_irrefl _ (Nat.lt_of_lt_of_le (ok.live _ hD) (hwr _ q).1)
      refine wpAny_bind (wpAny_runOwn ?_)
      show codeAny (model prog w) A _ _ _
      refine level_src (Xo := [acc.D]) (Tin := []) (Tall := Tall) acc hg ha (hdS _) (hq _) (hden I) src hkd tg htn (fun _ _ q => q) (fun b hb => List.mem_append_left _ hb) (fun b hb _ => List.mem_append.mp hb) offwr
        (fun b hb => by rw [List.mem_singleton] at hb; subst hb; exact ⟨List.mem_append_right _ hD, hDwr⟩) hDwr offD htall (fun _ _ _ q => by cases q) htests (H.toK (List.mem_append_right _ hD) offD) ok₂ (fun y hy => (Mv.of_ext (env := env) (T := []) (X := []) x₂).can y (can y hy)) ac₂ hl' (acc.perm _ _ (List.Perm.append_left _ sim'.perm.symm) hfin) fun s' o'' m r sm => ?_
      refine wpAny_pure (h s' o'' ?_ (acc.keep _ _ _ _ _ (fun b o hb q => ⟨q, fun hm => hb (List.mem_append_right _ hm)⟩) (fun o q => q) r) (Sim.trans sm sim'))
      have m' : Mv env t.strs (wr ++ ((t.names.map fun x => wat env (nmS x)) ++ [acc.D])) s s' := (Mv.of_ext x₂).trans (m.mono (by intro b hb; simpa [List.append_assoc] using hb) (by simp))
      exact m'.drop fun b hb => (hwr b hb).1
end
end Mine

-- part V18
namespace Mine
open PySem PySem.W PyProof.Rows

def noCatch (k : ScopeKind) : Prop := k = .function
theorem wf_names {sc sc' : Scope} {fr ts : List Nat} (wf : wfScope sc sc' fr ts = true) :
    sc'.kind = .function ∧ (∀ x ∈ sc'.names, x.2 = .local → sc'.names.lookup x.1 = some .local) ∧ (∀ x ∈ sc'.names, x.2 = .free → cellish (sc.names.lookup x.1)) ∧ (∀ x ∈ ts, x < nmTab.length ∧ x ∉ fr) ∧ sc'.names.lookup (Str.ofString ".0") = some .local := by
  unfold wfScope at wf
  simp only [Bool.and_eq_true, List.all_eq_true, Bool.or_eq_true, Bool.not_eq_true', decide_eq_true_eq] at wf
  obtain ⟨⟨⟨⟨⟨wk, w0⟩, wl⟩, wfree⟩, wfr⟩, wts⟩ := wf
  refine ⟨isFunB_ok wk, fun x hx e => ?_, fun x hx e => ?_, fun x hx => ⟨(wts x hx).1.1, ?_⟩, isLocalB_ok w0⟩
  · rcases wl x hx with h | h
    · rw [e] at h; cases h
    · exact isLocalB_ok h
  · rcases wfree x hx with h | h
    · rw [e] at h; cases h
    · exact cellishB_ok h
  · have := (wts x hx).2
    intro q
    rw [List.contains_iff_mem.mpr q] at this; cases this

section
variable {prog : Program} {w : World} {C : Addr} {h₀ : Heap} {α : Type}

variable (prog w) in
/-- a new accumulator -/
def NewOk (newAcc : Sem Value) (mk : Addr → Acc α) : Prop := (∀ D, (mk D).D = D) ∧ ∀ (A : Around) (s : Shared) (Q E : Value → Shared → Prop), 1 < s.heap.objs.size →
  (∀ s', Ext [] s s' → s'.heap.objs.size = s.heap.objs.size + 1 → (∀ W, (mk s.heap.objs.size).rel W [] s') → Q (.ref s.heap.objs.size) s') → wpAny (model prog w) A newAcc Q E s

/-- the whole of a comprehension, but for its level -/
theorem comp_core {sc sc' : Scope} {l : Nat} {rec : Rho → RE → Option PV} {A : Around} {env : Env} {s : Shared} {W : List Addr} {ρ : Rho} {E Q : Value → Shared → Prop} {e : Expr} {pos : Pos} {newAcc : Sem Value} {use : Option (Value → Sem Unit)}
    {it : RI} {t : RT} {ifs : List RE} {gs : List Comprehension} {fr ts : List Nat} {mk : Addr → Acc α} {kev : Rho → Option (List α × Bool)} {xs : List PV} {b₁ b₂ : Bool} {o : List α}
    (B : Base h₀) (hcl : clausesOf e = (RG.mk t it ifs).toC :: gs) (wf : wfScope sc sc' fr ts = true) (hnew : NewOk prog w newAcc mk) (wfi : it.wf sc = true) (hsi : ∀ e ∈ it.subs, SoundV prog w C h₀ sc l rec e)
    (ok : Ok prog w C h₀ l sc A env s W ρ) (hi : pitems rec ρ it = some (xs, b₁)) (hl : plevel rec t ifs kev xs (restrict fr ρ) = some (o, b₂)) (hfin : ∀ D, (mk D).fin o)
    (run : ∀ (cenv : Env) (s₂ s₄ : Shared) (I D : Addr) (wr W' : List Addr) (xs' : List PV) (o' : List α) (R : Result → Shared → Prop), Src prog w C it.kind s₂ W I wr xs' → Ok prog w C h₀ l sc' A cenv s₄ W' (restrict fr ρ) → (∀ b o, s₂.heap.get? b = some o → s₄.heap.get? b = some o) →
      (∀ b ∈ wr, b ∈ W') → D ∈ W' → D ∉ wr → (∀ b ∈ W', b < s₂.heap.objs.size → b ∈ wr ∨ b ∈ W) → EnvOff cenv wr → EnvOff cenv [D] → (∀ y ∈ ts, CanStore s₄ cenv (nmS y)) → (mk D).rel W' [] s₄ → plevel rec t ifs kev xs' (restrict fr ρ) = some (o', b₂) → (mk D).fin o' →
      (∀ s' o'' T, Mv cenv T (wr ++ (ts.map fun x => wat cenv (nmS x)) ++ [D]) s₄ s' → (mk D).rel W' o'' s' → Sim b₂ o'' o' → R (.ok .next) s') → codeAny (model prog w) A (.compStart e 0 (.ref I) (.ref D) cenv) R s₄)
    (hpost : ∀ D CL s' o', Ext [] s s' → s.heap.objs.size ≤ D → s.heap.objs.size ≤ CL → D ≠ CL → D < s'.heap.objs.size → CL < s'.heap.objs.size → (∃ m, s'.heap.Ns CL m) → (mk D).rel (CL :: W) o' s' → Sim (b₁ || b₂) o' o → compPost (model prog w) A E use Q (.ref D) CL (.ok .next) s') :
    wpAny (model prog w) A (comprehension e sc' env pos newAcc false (eval it.toE env) use) Q E s := by
  obtain ⟨hkind, hnames, hfree, htsf, w0'⟩ := wf_names wf
  have hclos : closureFor sc' env = pure (closOf env sc'.names []) := closureFor_ok fun x hx e => ok.e.has _ (hfree x hx e)
  refine wpAny_comprehension_free hcl (fun x => it.folded env x) hclos hkind hnames ?_
  refine items_ok (Q := fun itv s₂ => wpAny (model prog w) A newAcc (fun acc s₃ =>
      wpAny (model prog w) A (newFunctionEnv sc' env.globals (closOf env sc'.names []) [] env.qual none .none (some env)) (fun cenv s₄ =>
        codeAny (model prog w) A (.compStart e 0 itv acc { cenv with scope := relabel sc' env }) (compPost (model prog w) A E use Q acc cenv.locals) s₄) E s₃) E s₂) B wfi hsi ok hi fun s₂ I wr xs' x₂ sim hwr src => ?_
  obtain ⟨hDD, hn⟩ := hnew
  refine hn A s₂ _ E (Nat.lt_of_lt_of_le ok.sz x₂.size) fun s₃ x₃ hs₃ ac₃ => ?_
  generalize hD : s₂.heap.objs.size = D at hs₃ ac₃ ⊢
  have hDsz : s.heap.objs.size ≤ D := by rw [← hD]; exact x₂.size
  have hD₃ : D < s₃.heap.objs.size := by rw [hs₃]; exact Nat.lt_succ_self _
  have hNew : ∀ b ∈ wr ++ [D], s.heap.objs.size ≤ b ∧ b < s₃.heap.objs.size := by
    intro b hb
    rcases List.mem_append.mp hb with h | h
    · exact ⟨(hwr b h).1, Nat.lt_of_lt_of_le (hwr b h).2 x₃.size⟩
    · rw [List.mem_singleton] at h; subst h; exact ⟨hDsz, hD₃⟩
  have hDwr : D ∉ wr := fun q => by have := (hwr D q).2; rw [hD] at this; exact Nat.lt_irrefl _ this
  refine cenv_ok wf ok (x₂.trans x₃) hNew fun cenv s₄ own hloc x₄ hown hlt ok₄ can off hns hwat => ?_
  have hin : ∀ b ∈ wr, b ∈ wr ++ [D] ++ cenv.locals :: (own ++ W) := fun b hb => List.mem_append_left _ (List.mem_append_left _ hb)
  have hDin : D ∈ wr ++ [D] ++ cenv.locals :: (own ++ W) := List.mem_append_left _ (List.mem_append_right _ (by simp))
  obtain ⟨o', hl', sim'⟩ := plevel_sim sim hl
  have offs : ∀ N, (∀ b ∈ N, b ∈ wr ++ [D]) → EnvOff { cenv with scope := relabel sc' env } N := fun N h => ⟨fun q => off.1 (h _ q), fun y c hc q => off.2 y c hc (h _ q)⟩
  have hCL : D ≠ cenv.locals := by rw [hloc]; exact Nat.ne_of_lt hD₃
  refine run { cenv with scope := relabel sc' env } s₂ s₄ I D wr _ xs' o' _ src ok₄ (fun b o q => (x₃.trans x₄).keep b o (by simp) q) hin hDin hDwr ?_ (offs wr fun b hb => List.mem_append_left _ hb) (offs [D] fun b hb => List.mem_append_right _ hb) can
    ((mk D).keep _ _ _ _ _ (fun b o hb q => ⟨x₄.keep b o (by simp) q, hb⟩) (fun o q => x₄.keep _ o (by simp) q) (ac₃ _)) hl' ((mk D).perm _ _ sim'.perm.symm (hfin D)) fun s' o'' T m r sm => ?_
  · intro b hb hlt2
    rw [hD] at hlt2
    simp only [List.mem_append, List.mem_cons, List.not_mem_nil, or_false] at hb
    rcases hb with (hb | rfl) | rfl | hb | hb
    · exact .inl hb
    · exact absurd hlt2 (Nat.lt_irrefl _)
    · rw [hloc] at hlt2; exact absurd (Nat.lt_trans hlt2 hD₃) (Nat.lt_irrefl _)
    · exact absurd (Nat.lt_trans hlt2 (Nat.lt_trans hD₃ (hown b hb).1)) (Nat.lt_irrefl _)
    · exact .inr hb
  · have x₀ : Ext [] s s₄ := x₂.trans (x₃.trans x₄)
    have hX : ∀ b ∈ wr ++ (ts.map fun x => wat { cenv with scope := relabel sc' env } (nmS x)) ++ [D], s.heap.objs.size ≤ b := by
      intro b hb
      simp only [List.mem_append, List.mem_singleton] at hb
      rcases hb with (hb | hb) | rfl
      · exact (hwr b hb).1
      · obtain ⟨y, hy, rfl⟩ := List.mem_map.mp hb
        exact Nat.le_trans (x₂.trans x₃).size (hwat y hy)
      · exact hDsz
    have x₅ : Ext [] s s' := Ext.drop (N := wr ++ (ts.map fun x => wat { cenv with scope := relabel sc' env } (nmS x)) ++ [D]) (X := []) (by rw [List.append_nil]; exact (x₀.mono (by simp)).trans m.ext) hX
    have hns' : ∃ m, s'.heap.Ns cenv.locals m := by
      rcases m.can _ hns with ⟨_, h⟩ | ⟨h, _⟩
      · exact h
      · rcases hns with ⟨h', _⟩ | ⟨_, _⟩
        · exact absurd h' (fun q => cellish_not_local h q)
        · exact absurd h (fun q => cellish_not_local q (lookup_relabel_local w0'))
    have hsub : ∀ b ∈ cenv.locals :: W, b ∈ wr ++ [D] ++ cenv.locals :: (own ++ W) := by
      intro b hm
      rcases List.mem_cons.mp hm with rfl | hm
      · exact List.mem_append_right _ (by simp)
      · exact List.mem_append_right _ (by simp [hm])
    exact hpost D cenv.locals s' o'' x₅ hDsz (by rw [hloc]; exact (x₂.trans x₃).size) hCL (Nat.lt_of_lt_of_le hD₃ (Nat.le_trans x₄.size m.ext.size)) (Nat.lt_of_lt_of_le hlt m.ext.size) hns'
      ((mk D).keep _ _ o'' s' s' (fun b o hb q => ⟨q, fun hm => hb (hsub b hm)⟩) (fun o q => q) r) (Sim.trans sm sim')
end
end Mine

-- part V19
namespace Mine
open PySem PySem.W PyProof.Rows

section
variable {prog : Program} {w : World} {C : Addr} {h₀ : Heap}

theorem rel_step {s s' : Shared} {W X : List Addr} {l : List PV} {vs : List Value} (H : VRs prog w C s.heap W l vs) (x : Ext X s s') (hX : ∀ b ∈ X, b ∈ W) : VRs prog w C s'.heap W l vs := H.mv x hX

variable (prog w C) in
def accL (D : Addr) : Acc PV where
  rel := fun W outs s => ∃ vs, s.heap.PlainList D vs.toArray ∧ VRs prog w C s.heap W outs vs
  D := D
  fin := fun l => l.length ≤ 1000
  keep := by
    intro W W' outs s s' k kD h
    obtain ⟨vs, ⟨n, hp⟩, hv⟩ := h
    exact ⟨vs, ⟨n, kD _ hp⟩, VRs.mono k _ _ hv⟩
  sub := fun l r h => by rw [List.length_append] at h; omega
  perm := fun l r p h => by rw [← p.length_eq]; exact h
variable (w) in
def accS (D : Addr) : Acc Int where
  rel := fun _ outs s => MadeSet w s.heap D (addAll [] outs)
  D := D
  fin := fun l => l.length < 900
  keep := fun W W' outs s s' k kD h => h.at kD
  sub := fun l r h => by rw [List.length_append] at h; omega
  perm := fun l r p h => by rw [← p.length_eq]; exact h
variable (prog w C) in
def accD (D : Addr) : Acc (Int × PV) where
  rel := fun W outs s => ∃ vs, s.heap.DictOf (intKind prog w) D ((outs.map (·.1)).zip vs) ∧ outs.length = vs.length ∧ VRs prog w C s.heap W (outs.map (·.2)) vs
  D := D
  fin := fun l => (l.map (·.1)).Nodup ∧ l.length ≤ 1000
  keep := by
    intro W W' outs s s' k kD h
    obtain ⟨vs, hp, hl, hv⟩ := h
    exact ⟨vs, hp.at kD, hl, VRs.mono k _ _ hv⟩
  sub := fun l r h => ⟨by have := h.1; rw [List.map_append] at this; exact (List.nodup_append.mp this).1, by have := h.2; rw [List.length_append] at this; omega⟩
  perm := fun l r p h => ⟨(List.Perm.map (fun x : Int × PV => x.1) p).nodup_iff.mp h.1, by rw [← p.length_eq]; exact h.2⟩

theorem newL : NewOk prog w (newList []) (accL prog w C) := by
  refine ⟨fun _ => rfl, fun _ _ _ _ _ h => wpAny_newObj_type (h _ (Ext.push _ _) (Heap.size_push ..) fun _ => ⟨[], ⟨0, Heap.get?_push_size _ rfl⟩, rfl⟩)⟩
theorem newS : NewOk prog w (newSet (.type "set")) (accS w) :=
  ⟨fun _ => rfl, fun _ _ _ _ _ h => made_new fun _ m => h _ (Ext.push _ _) (Heap.size_push ..) fun _ => m⟩
theorem newD : NewOk prog w newDict (accD prog w C) :=
  ⟨fun _ => rfl, fun _ _ _ _ _ h => wpAny_newObj_type (h _ (Ext.push _ _) (Heap.size_push ..) fun _ => ⟨[], Heap.DictOf.new _, rfl, rfl⟩)⟩

theorem addAll_snoc : ∀ (l : List Int) (acc : List Int) (a : Int), addAll acc (l ++ [a]) = if (addAll acc l).contains a then addAll acc l else a :: addAll acc l
  | [], acc, a => rfl
  | b :: l, acc, a => by rw [List.cons_append, addAll, addAll_snoc l, addAll]
theorem addAll_length : ∀ (l : List Int) (acc : List Int), (addAll acc l).length ≤ acc.length + l.length
  | [], acc => Nat.le_refl _
  | b :: l, acc => by
    rw [addAll]
    refine Nat.le_trans (addAll_length l _) ?_
    split <;> simp <;> omega

theorem emitL {sc : Scope} {l : Nat} {rec : Rho → RE → Option PV} {A : Around} {env : Env} {D : Addr} {elt : RE} (hs : SoundV prog w C h₀ sc l rec elt) :
    EmitOk prog w C h₀ sc l (accL prog w C D) A env (fun ρ => rec ρ elt) (do let _ ← call (.builtin "list.append") [.ref D, ← eval elt.toE env]) := by
  intro W ρ s outs a Q E ok hD offD ⟨vs, hp, hv⟩ he hfin h
  refine wpAny_bind (hs A env s W ρ a ok he _ _ fun v s₁ x₁ hav => ?_)
  have hlen := hv.length
  have hfin' : (outs ++ [a]).length ≤ 1000 := hfin
  have hsz : vs.toArray.size ≤ sizeLine := by
    rw [List.length_append] at hfin'
    rw [sizeLine_eq, List.size_toArray, hlen]; omega
  refine wpAny_bind (wpAny_list_append_plain (hsz := hsz) (hp.at fun o q => x₁.keep _ o (by simp) q) fun h' hl' hs' => ?_)
  · have x₂ : Ext [D] s₁ { s₁ with heap := h' } := Ext.sameBut (Nat.le_refl _) hs'
    refine wpAny_pure (h _ ((Mv.of_ext x₁).trans (Mv.off x₂ offD)) ⟨vs ++ [v], by simpa using hl', ?_⟩)
    have hX : ∀ b ∈ [D], b ∈ W := fun b hb => by rw [List.mem_singleton] at hb; rw [hb]; exact hD
    exact VRs.append (rel_step (rel_step hv x₁ (by simp)) x₂ hX) ⟨v, [], rfl, hav.mv x₂ hX, rfl⟩

theorem emitS {sc : Scope} {l : Nat} {rec : Rho → RE → Option PV} {A : Around} {env : Env} {D : Addr} {elt : RE} {p : Pos} (hs : SoundV prog w C h₀ sc l rec elt) :
    EmitOk prog w C h₀ sc l (accS w D) A env (emitI rec elt) (do let v ← eval elt.toE env; standAt p; let _ ← call (.builtin "set.add") [.ref D, v]) := by
  intro W ρ s outs a Q E ok hD offD m he hfin h
  unfold emitI at he
  cases h1 : rec ρ elt with
  | none => rw [h1] at he; cases he
  | some q =>
    rw [h1] at he
    cases q with
    | int i =>
      cases he
      refine wpAny_bind (hs A env s W ρ _ ok h1 _ _ fun v s₁ x₁ hav => ?_)
      obtain ⟨t, rfl⟩ := hav
      refine wpAny_bind (wpAny_standAt ?_)
      have hfin' : (outs ++ [a]).length < 900 := hfin
      have hm : MadeSet w s₁.heap D (addAll [] outs) := MadeSet.at m fun o q => x₁.keep _ o (by simp) q
      refine wpAny_bind (made_add hm ?_ fun h' hs' m' => ?_)
      · have := addAll_length outs []
        rw [List.length_append] at hfin'
        simp at this hfin'
        omega
      · refine wpAny_pure (h _ ((Mv.of_ext x₁).trans (Mv.off (Ext.sameBut (Nat.le_succ _) hs') offD)) ?_)
        show MadeSet w h' D (addAll [] (outs ++ [a]))
        rw [addAll_snoc]; exact m'
    | _ => cases he

theorem zip_snoc {α β : Type} : ∀ (l : List α) (r : List β) (a : α) (b : β), l.length = r.length → (l ++ [a]).zip (r ++ [b]) = l.zip r ++ [(a, b)]
  | [], [], _, _, _ => rfl
  | x :: l, y :: r, a, b, h => by simp [zip_snoc l r a b (by simpa using h)]
theorem zip_fst {α β : Type} : ∀ {l : List α} {r : List β}, l.length = r.length → (l.zip r).map (·.1) = l
  | [], _, _ => by simp
  | x :: l, y :: r, h => by simp [zip_fst (l := l) (r := r) (by simpa using h)]

theorem emitD {sc : Scope} {l : Nat} {rec : Rho → RE → Option PV} {A : Around} {env : Env} {D : Addr} {k v : RE} {p : Pos} (hk : SoundV prog w C h₀ sc l rec k) (hv : SoundV prog w C h₀ sc l rec v) :
    EmitOk prog w C h₀ sc l (accD prog w C D) A env (emit2 rec k v) (do
        let kv ← eval k.toE env
        let vv ← holding [kv] (eval v.toE env)
        match Value.ref D with
        | .ref d => do
          standAt p
          holding [kv, vv] (dictSet d kv vv)
        | _ => unsupported "internal:dictcomp") := by
  intro W ρ s outs a Q E ok hD offD ⟨vs, hp, hl, hvs⟩ he hfin h
  unfold emit2 at he
  cases h1 : rec ρ k with
  | none => rw [h1] at he; cases he
  | some q =>
    rw [h1] at he
    cases q with
    | int i =>
      (try dsimp only at he)
      cases h2 : rec ρ v with
      | none => rw [h2] at he; cases he
      | some q =>
        rw [h2] at he; cases he
        refine wpAny_bind (hk A env s W ρ _ ok h1 _ _ fun kv s₁ x₁ hkv => ?_)
        obtain ⟨t, rfl⟩ := hkv
        refine wpAny_bind (wpAny_holding (hv A env s₁ W ρ _ (ok.ext x₁) h2 _ _ fun vv s₂ x₂ hvv => ?_))
        refine wpAny_bind (wpAny_standAt ?_)
        have hfin' : ((outs ++ [(i, q)]).map (·.1)).Nodup ∧ (outs ++ [(i, q)]).length ≤ 1000 := hfin
        have hX : ∀ b ∈ [D], b ∈ W := fun b hb => by rw [List.mem_singleton] at hb; rw [hb]; exact hD
        have hsz : ((outs.map (·.1)).zip vs).length ≤ sizeLine := by
          have e1 : (outs ++ [(i, q)]).length = outs.length + 1 := by simp
          have e2 := hfin'.2
          rw [sizeLine_eq, List.length_zip, List.length_map]; omega
        refine wpAny_holding (wpAny_dictSet_pairs (knd := intKind prog w) (hsz := hsz) (intKind_is _ _ i t) ((hp.at fun o q => x₁.keep _ o (by simp) q).at fun o q => x₂.keep _ o (by simp) q) fun h' hd' hs' => ?_)
        · have x₃ : Ext [D] s₂ { s₂ with heap := h', toks := s₂.toks + 1 } := Ext.sameBut (Nat.le_succ _) hs'
          have hz : (outs.map (·.1)).length = vs.length := by rw [List.length_map, hl]
          refine h _ (((Mv.of_ext x₁).trans (Mv.of_ext x₂)).trans (Mv.off x₃ offD)) ⟨vs ++ [vv], ?_, by simp [hl], ?_⟩
          · have hnew : ¬ ((outs.map (·.1)).zip vs).any (fun kv => decide (kv.1 = i)) = true := by
              intro hany
              obtain ⟨x, hx, e⟩ := List.any_eq_true.mp hany
              have h3 : i ∈ outs.map (·.1) := by
                have : x.1 ∈ ((outs.map (·.1)).zip vs).map (·.1) := List.mem_map.mpr ⟨x, hx, rfl⟩
                rw [zip_fst hz] at this
                rw [← of_decide_eq_true e]; exact this
              have h4 := hfin'.1
              rw [List.map_append] at h4
              exact (List.nodup_append.mp h4).2.2 i h3 i (by simp) rfl
            have e3 : stored ((outs.map (·.1)).zip vs) i vv = ((outs ++ [(i, q)]).map (·.1)).zip (vs ++ [vv]) := by
              unfold stored
              rw [if_neg hnew, List.map_append]
              exact (zip_snoc _ _ _ _ hz).symm
            rw [← e3]; exact hd'
          · rw [List.map_append]
            exact VRs.append (rel_step (rel_step (rel_step hvs x₁ (by simp)) x₂ (by simp)) x₃ hX) ⟨vv, [], rfl, hvv.mv x₃ hX, rfl⟩
    | _ => cases he
end
end Mine

-- part V20
namespace Mine
open PySem PySem.W PyProof.Rows

section
variable {prog : Program} {w : World} {C : Addr} {h₀ : Heap} {α : Type}

theorem comp1_ok {sc sc' : Scope} {l : Nat} {rec : Rho → RE → Option PV} {A : Around} {env : Env} {s : Shared} {W : List Addr} {ρ : Rho} {E Q : Value → Shared → Prop} {e : Expr} {pos : Pos} {newAcc : Sem Value} {use : Option (Value → Sem Unit)}
    {it : RI} {t : RT} {ifs : List RE} {fr : List Nat} {mk : Addr → Acc α} {emit : Rho → Option α} {b : Bool} {o : List α} {Kem : Value → Env → Sem Unit}
    (B : Base h₀) (hcl : clausesOf e = [(RG.mk t it ifs).toC]) (wf : wfScope sc sc' fr t.names = true) (hnew : NewOk prog w newAcc mk) (wfi : it.wf sc = true) (hkd : it.kind t) (tg : t.good)
    (hdS : ∀ itv av env s Q E, wpAny (model prog w) A ((compStart e 0 itv av env).onRaise (fun x => do noteFrame x env; standAt theWindowsPlace)) Q E s →
      wpAny (model prog w) (A.under (.compStart e 0 itv av env)) ((model prog w).den (.compStart e 0 itv av env)) Q E s)
    (hq : ∀ itv av env, (Code.compLoop e 0 itv av env).quiet = true)
    (hden : ∀ I av env s Q E, wpAny (model prog w) A ((turnTree e 0 (.ref I) av env t.toE it.toE.pos (toEs ifs) (Kem av env)).onRaise (fun x => do noteFrame x env; theTreesLotGoes x)) Q E s →
      wpAny (model prog w) (A.under (.compLoop e 0 (.ref I) av env)) ((model prog w).den (.compLoop e 0 (.ref I) av env)) Q E s)
    (hsi : ∀ e ∈ it.subs, SoundV prog w C h₀ sc l rec e) (htests : ∀ e ∈ ifs, SoundB prog w C h₀ sc' l rec e) (hem : ∀ D env, EmitOk prog w C h₀ sc' l (mk D) A env emit (Kem (.ref D) env))
    (ok : Ok prog w C h₀ l sc A env s W ρ) (hp : pcomp rec emit fr [.mk t it ifs] ρ = some (o, b)) (hfin : ∀ D, (mk D).fin o)
    (hpost : ∀ D CL s' o', Ext [] s s' → s.heap.objs.size ≤ D → s.heap.objs.size ≤ CL → D ≠ CL → D < s'.heap.objs.size → CL < s'.heap.objs.size → (∃ m, s'.heap.Ns CL m) → (mk D).rel (CL :: W) o' s' → Sim b o' o → compPost (model prog w) A E use Q (.ref D) CL (.ok .next) s') :
    wpAny (model prog w) A (comprehension e sc' env pos newAcc false (eval it.toE env) use) Q E s := by
  rw [pcomp] at hp
  cases hi : pitems rec ρ it with
  | none => rw [hi] at hp; cases hp
  | some q =>
    obtain ⟨xs, b₁⟩ := q
    rw [hi] at hp; (try dsimp only at hp)
    cases hl : plevel rec t ifs (pwithin rec emit []) xs (restrict fr ρ) with
    | none => unfold restrict at hl; rw [hl] at hp; cases hp
    | some q =>
      obtain ⟨o₁, b₂⟩ := q
      have hl' := hl
      unfold restrict at hl'
      rw [hl'] at hp; cases hp
      obtain ⟨_, _, _, htsf, _⟩ := wf_names wf
      refine comp_core B hcl wf hnew wfi hsi ok hi hl hfin (fun cenv s₂ s₄ I D wr W' xs' o' R src ok₄ hk hwr hD hDw hW off offD can ac hl₄ hf hR => ?_) hpost
      have hDe := hnew.1 D
      refine level_src (Xo := [D]) (Tin := []) (Tall := t.strs) (mk D) (g := (RG.mk t it ifs).toC) (by rw [hcl]; rfl) rfl (hdS _ _ _) (hq _ _ _) (hden _ _ _) src hkd tg (fun x hx => (htsf x hx).1) hk hwr hW off
        (fun b hb => by rw [List.mem_singleton] at hb; subst hb; exact ⟨hD, hDw⟩) (by rw [hDe]; exact hDw) (by rw [hDe]; exact offD) (fun _ h => h) (fun _ _ _ q => by cases q) htests ?_ ok₄ (fun y hy => ?_) ac hl₄ hf fun s' o'' m r sm => hR s' o'' _ m r sm
      · have := (hem D cenv).toK (rec := rec) (W := W') (Tall := t.strs) (ρ := restrict fr ρ) (by rw [hDe]; exact hD) (by rw [hDe]; exact offD)
        rw [hDe] at this
        exact this
      · obtain ⟨x, hx, rfl⟩ := List.mem_map.mp hy
        exact can x hx

theorem comp2_ok {sc sc' : Scope} {l : Nat} {rec : Rho → RE → Option PV} {A : Around} {env : Env} {s : Shared} {W : List Addr} {ρ : Rho} {E Q : Value → Shared → Prop} {e : Expr} {pos : Pos} {newAcc : Sem Value} {use : Option (Value → Sem Unit)}
    {it it₂ : RI} {t t₂ : RT} {ifs ifs₂ : List RE} {fr : List Nat} {mk : Addr → Acc α} {emit : Rho → Option α} {b : Bool} {o : List α} {Kem : Value → Env → Sem Unit}
    (B : Base h₀) (hcl : clausesOf e = [(RG.mk t it ifs).toC, (RG.mk t₂ it₂ ifs₂).toC]) (wf : wfScope sc sc' fr (t.names ++ t₂.names) = true) (hnew : NewOk prog w newAcc mk) (wfi : it.wf sc = true) (hkd : it.kind t) (tg : t.good) (wfi₂ : it₂.wf sc' = true) (hkd₂ : it₂.kind t₂) (tg₂ : t₂.good)
    (hdS : ∀ d itv av env s Q E, wpAny (model prog w) A ((compStart e d itv av env).onRaise (fun x => do noteFrame x env; standAt theWindowsPlace)) Q E s →
      wpAny (model prog w) (A.under (.compStart e d itv av env)) ((model prog w).den (.compStart e d itv av env)) Q E s)
    (hq : ∀ d itv av env, (Code.compLoop e d itv av env).quiet = true)
    (hden : ∀ I av env s Q E, wpAny (model prog w) A ((turnTree e 0 (.ref I) av env t.toE it.toE.pos (toEs ifs) (do
        let x ← eval it₂.toE env
        standAt it₂.toE.pos
        let x ← foldedSetIterable it₂.toE env x
        let _ ← runOwn (.compStart e 1 (← holding [x] (pyIter x)) av env) env)).onRaise (fun x => do noteFrame x env; theTreesLotGoes x)) Q E s →
      wpAny (model prog w) (A.under (.compLoop e 0 (.ref I) av env)) ((model prog w).den (.compLoop e 0 (.ref I) av env)) Q E s)
    (hden₂ : ∀ I av env s Q E, wpAny (model prog w) A ((turnTree e 1 (.ref I) av env t₂.toE it₂.toE.pos (toEs ifs₂) (Kem av env)).onRaise (fun x => do noteFrame x env; theTreesLotGoes x)) Q E s →
      wpAny (model prog w) (A.under (.compLoop e 1 (.ref I) av env)) ((model prog w).den (.compLoop e 1 (.ref I) av env)) Q E s)
    (hsi : ∀ e ∈ it.subs, SoundV prog w C h₀ sc l rec e) (htests : ∀ e ∈ ifs, SoundB prog w C h₀ sc' l rec e) (hsi₂ : ∀ e ∈ it₂.subs, SoundV prog w C h₀ sc' l rec e) (htests₂ : ∀ e ∈ ifs₂, SoundB prog w C h₀ sc' l rec e)
    (hem : ∀ D env, EmitOk prog w C h₀ sc' l (mk D) A env emit (Kem (.ref D) env))
    (ok : Ok prog w C h₀ l sc A env s W ρ) (hp : pcomp rec emit fr [.mk t it ifs, .mk t₂ it₂ ifs₂] ρ = some (o, b)) (hfin : ∀ D, (mk D).fin o)
    (hpost : ∀ D CL s' o', Ext [] s s' → s.heap.objs.size ≤ D → s.heap.objs.size ≤ CL → D ≠ CL → D < s'.heap.objs.size → CL < s'.heap.objs.size → (∃ m, s'.heap.Ns CL m) → (mk D).rel (CL :: W) o' s' → Sim b o' o → compPost (model prog w) A E use Q (.ref D) CL (.ok .next) s') :
    wpAny (model prog w) A (comprehension e sc' env pos newAcc false (eval it.toE env) use) Q E s := by
  rw [pcomp] at hp
  cases hi : pitems rec ρ it with
  | none => rw [hi] at hp; cases hp
  | some q =>
    obtain ⟨xs, b₁⟩ := q
    rw [hi] at hp; (try dsimp only at hp)
    cases hl : plevel rec t ifs (pwithin rec emit [.mk t₂ it₂ ifs₂]) xs (restrict fr ρ) with
    | none => unfold restrict at hl; rw [hl] at hp; cases hp
    | some q =>
      obtain ⟨o₁, b₂⟩ := q
      have hl' := hl
      unfold restrict at hl'
      rw [hl'] at hp; cases hp
      obtain ⟨_, _, _, htsf, _⟩ := wf_names wf
      refine comp_core B hcl wf hnew wfi hsi ok hi hl hfin (fun cenv s₂ s₄ I D wr W' xs' o' R src ok₄ hk hwr hD hDw hW off offD can ac hl₄ hf hR => ?_) hpost
      have hDe := hnew.1 D
      have can' : ∀ y ∈ t.strs ++ t₂.strs, CanStore s₄ cenv y := by
        intro y hy
        rcases List.mem_append.mp hy with hy | hy
        · obtain ⟨x, hx, rfl⟩ := List.mem_map.mp hy; exact can x (List.mem_append_left _ hx)
        · obtain ⟨x, hx, rfl⟩ := List.mem_map.mp hy; exact can x (List.mem_append_right _ hx)
      have watW : ∀ x ∈ t₂.names, wat cenv (nmS x) ∈ W' := fun x hx => (can x (List.mem_append_right _ hx)).watIn ok₄.inW
      have watO : ∀ x ∈ t₂.names, wat cenv (nmS x) ∉ wr := fun x hx => (can x (List.mem_append_right _ hx)).watOff off
      refine level_src (Xo := (t₂.names.map fun x => wat cenv (nmS x)) ++ [D]) (Tin := t₂.strs) (Tall := t.strs ++ t₂.strs) (mk D) (g := (RG.mk t it ifs).toC) (by rw [hcl]; rfl) rfl (hdS _ _ _ _) (hq _ _ _ _) (hden _ _ _) src hkd tg (fun x hx => (htsf x (List.mem_append_left _ hx)).1) hk hwr hW off
        (fun b hb => ?_) (by rw [hDe]; exact hDw) (by rw [hDe]; exact offD) (fun y hy => List.mem_append_left _ hy) (fun x p hx hm => ?_) htests ?_ ok₄ can' ac hl₄ hf fun s' o'' m r sm => hR s' o'' _ (m.mono (fun b hb => ?_) (fun _ h => h)) r sm
      · rcases List.mem_append.mp hb with hb | hb
        · obtain ⟨x, hx, rfl⟩ := List.mem_map.mp hb
          exact ⟨watW x hx, watO x hx⟩
        · rw [List.mem_singleton] at hb; subst hb; exact ⟨hD, hDw⟩
      · obtain ⟨y, hy, he⟩ := List.mem_map.mp hm
        have := nmS_inj (htsf y (List.mem_append_right _ hy)).1 he
        subst this
        exact (htsf y (List.mem_append_right _ hy)).2 (restrict_look hx).1
      · have := inner_ok (Tall := t.strs ++ t₂.strs) (ρ := restrict fr ρ) (acc := mk D) (e := e) (av := .ref D) (W := W') B (g := (RG.mk t₂ it₂ ifs₂).toC) (by rw [hcl]; rfl) rfl (fun itv => hdS 1 itv _ _) (fun itv => hq 1 itv _ _) (fun I => hden₂ I _ _) wfi₂ hkd₂ tg₂ (fun x hx => (htsf x (List.mem_append_right _ hx)).1) (fun y hy => List.mem_append_right _ hy) hsi₂ htests₂ (hem D cenv)
          (by rw [hDe]; exact hD) (by rw [hDe]; exact offD)
        rw [hDe] at this
        exact this
      · simp only [List.mem_append, List.mem_singleton, List.map_append] at hb ⊢
        rcases hb with (hb | hb) | (hb | hb)
        · exact .inl (.inl hb)
        · exact .inl (.inr (.inl hb))
        · exact .inl (.inr (.inr hb))
        · exact .inr hb
end
end Mine

-- part V21
namespace Mine
open PySem PySem.W PyProof.Rows

theorem entry_set_eq : entryFor table "set.__eq__" = some Builtin.«frozenset.__eq__» :=
  entryFor_alias (id' := "frozenset.__eq__") (by rw [fastTable_eq_tree]; kernel_rfl) rfl (by decide +kernel) (by rw [fastTable_eq_tree]; kernel_rfl)
theorem sub_set_set : isSubtype (.type "set") (.type "set") = pure true := by rw [isSubtype_type]; kernel_rfl
theorem sub_set_frozen : isSubtype (.type "set") (.type "frozenset") = pure false := by rw [isSubtype_type]; kernel_rfl

section
variable {prog : Program} {w : World} {A : Around} {E : Value → Shared → Prop} {s : Shared} {a b : Addr} {S S' : Int → Bool} {n : Nat}

theorem quiet_of {x : Value} (h : x.scannable = true) : Builtin.Frozenset.quietEq x = pure true := by
  cases x <;> first | rfl | (simp [Value.scannable] at h; done)

theorem subset_ok {nm : String} {Q : Bool → Shared → Prop} (ha : s.heap.SetOf (intKind prog w) a S n) (hb : s.heap.SetOf (intKind prog w) b S' n) (hs : ∀ k, S k = true → S' k = true) (h : Q true s) :
    wpAny (model prog w) A (Builtin.Frozenset.subsetOf nm a b) Q E s := by
  obtain ⟨o, es, ep, t, ho, hex, hd, hel, hmem, hsz, hf, hn⟩ := id ha
  obtain ⟨o', es', ep', t', ho', hex', hd', hel', hmem', hsz', hf', hn'⟩ := id hb
  unfold Builtin.Frozenset.subsetOf Builtin.Frozenset.sizeOf
  refine wpAny_bind (wpAny_bind (wpAny_setEntries_of ho hd hf (wpAny_pure ?_)))
  refine wpAny_bind (wpAny_bind (wpAny_setEntries_of ho' hd' hf' (wpAny_pure ?_)))
  rw [if_neg (by rw [hn, hn']; omega)]
  refine wpAny_bind (wpAny_setEpoch_of ho hd hf ?_)
  unfold Builtin.Frozenset.walkUnseen
  refine wpAny_bind (wpAny_bind (wpAny_setEntries_of ho hd hf ?_))
  refine wpAny_bind (wpAny_setEntries_of ho' hd' hf' ?_)
  refine wpAny_bind (wpAny_forIn_list _ (fun l b s' => (∀ x ∈ l, x.2.scannable = true) ∧ b = (none, ()) ∧ s' = s) _ ?_ ?_ _ _ ⟨?_, rfl, rfl⟩)
  · intro y rest c s₁ hI
    obtain ⟨h1, x⟩ := y
    obtain ⟨hx, hc, hs₁⟩ := hI
    rw [hs₁]
    dsimp only
    refine wpAny_bind (wpAny_of_eq (quiet_of (hx (h1, x) (by simp))) ?_)
    exact wpAny_pure ⟨fun y hy => hx y (by simp [hy]), rfl, rfl⟩
  · intro c s₁ hI
    rw [hI.2.1, hI.2.2]
    refine wpAny_pure ?_
    refine wpAny_bind (wpAny_forIn_list _ (fun l b s' => (∀ x ∈ l, x ∈ es.toList) ∧ b = (none, ()) ∧ s' = s) _ ?_ ?_ _ _ ⟨fun _ q => q, rfl, rfl⟩)
    · intro y rest c s₂ hI
      obtain ⟨h1, x⟩ := y
      obtain ⟨hx, hc, hs₁⟩ := hI
      rw [hs₁]
      dsimp only
      have hxe := hx (h1, x) (by simp)
      obtain ⟨⟨k, hk, hh⟩, hsc⟩ := hel _ hxe
      have hh1 : h1 = (intKind prog w).hash k := hh
      rw [hh1]
      refine wpAny_bind (wpAny_holding (wpAny_setFind_of hk hsc hb fun r hr => ?_))
      have hSk : S' k = true := hs k ((hmem k).mpr ⟨_, hxe, hk⟩)
      rw [hSk] at hr
      rw [if_neg (by cases r <;> simp_all)]
      unfold Builtin.Frozenset.unchanged
      refine wpAny_bind (wpAny_bind (wpAny_setEpoch_of ho hd hf ?_))
      rw [if_neg (by simp)]
      exact wpAny_pure (wpAny_pure ⟨fun y hy => hx y (by simp [hy]), rfl, rfl⟩)
    · intro c s₂ hI
      rw [hI.2.1, hI.2.2]
      exact wpAny_pure h
  · intro x hx
    rcases List.mem_append.mp hx with hx | hx
    · exact (hel x hx).2
    · exact (hel' x hx).2

theorem set_eq_ok {Q : Value → Shared → Prop} (ha : s.heap.SetOf (intKind prog w) a S n) (hb : s.heap.SetOf (intKind prog w) b S' n) (hs : ∀ k, S k = true → S' k = true) (hu : A.units < cLine) (h : Q (.bool true) s) :
    wpAny (model prog w) A (richCompare .Eq (.ref a) (.ref b)) Q E s := by
  refine wpAny_richCompare_same_room (ha.typeIs) (hb.typeIs) F.slot_set_eq (wpAny_call_entry F.slot_set_eq ha.typeIs entry_set_eq ?_ (F.args_set_eq_2 _ _)) hu
  obtain ⟨o, es, ep, t, ho, hex, hd, hel, hmem, hsz, hf, hn⟩ := id ha
  obtain ⟨o', es', ep', t', ho', hex', hd', hel', hmem', hsz', hf', hn'⟩ := id hb
  have hTa := ha.typeIs
  have hTb := hb.typeIs
  unfold Builtin.«frozenset.__eq__»
  refine wpAny_bind ?_
  unfold Builtin.Frozenset.slot1 slotArgs
  show wpAny _ _ (pure (Value.ref a, Value.ref b)) _ _ _
  refine wpAny_pure ?_
  dsimp only
  refine wpAny_bind ?_
  unfold Builtin.Frozenset.isAnySet
  refine wpAny_bind (wpAny_isInstance hTb sub_set_set ?_)
  refine wpAny_pure ?_
  simp only [Bool.not_true, Bool.false_eq_true, if_false]
  unfold Builtin.Frozenset.addrOf Builtin.Frozenset.sizeOf
  refine wpAny_bind (wpAny_pure ?_)
  refine wpAny_bind (wpAny_pure ?_)
  refine wpAny_bind (wpAny_bind (wpAny_setEntries_of ho hd hf (wpAny_pure ?_)))
  refine wpAny_bind (wpAny_bind (wpAny_setEntries_of ho' hd' hf' (wpAny_pure ?_)))
  refine wpAny_bind ?_
  rw [if_neg (by simp [hn, hn'])]
  refine wpAny_bind ?_
  refine wpAny_bind (wpAny_isInstance hTa sub_set_frozen ?_)
  refine wpAny_pure ?_
  simp only [Bool.false_eq_true, if_false]
  refine subset_ok ha hb hs ?_
  exact wpAny_pure ⟨_, rfl, (fun q => nomatch q), h⟩
end
end Mine

-- part V22
namespace Mine
open PySem PySem.W PyProof.Rows

theorem forIn_rng {m : Type → Type} [Monad m] [LawfulMonad m] {β : Type} (n : Nat) (b : β) (f : Nat → β → m (ForInStep β)) : (forIn [0:n] b f : m β) = forIn (List.range' 0 n) b f := by
  rw [Std.Legacy.Range.forIn_eq_forIn_range']
  simp [Std.Legacy.Range.size]

theorem sub_dict_dict : isSubtype (.type "dict") (.type "dict") = pure true := by rw [isSubtype_type]; kernel_rfl

section
variable {prog : Program} {w : World} {A : Around} {E : Value → Shared → Prop} {s : Shared} {a b : Addr} {ks : List Int} {vs us : List Value} {ep ep' : Nat}

theorem dict_eq_ok {Q : Value → Shared → Prop} (ha : s.heap.DictAt (intKind prog w) a (ks.zip vs) ep) (hb : s.heap.DictAt (intKind prog w) b (ks.zip us) ep') (hna : (a == sysModules) = false) (hnb : (b == sysModules) = false) (hu : A.units < cLine)
    (hl : ks.length = vs.length) (hl' : ks.length = us.length) (he : ∀ (i : Nat) v u, vs[i]? = some v → us[i]? = some u → ∀ (E : Value → Shared → Prop) (Q : Bool → Shared → Prop), Q true s → wpAny (model prog w) A.in1 (eqBool v u) Q E s)
    (h : Q (.bool true) s) : wpAny (model prog w) A (richCompare .Eq (.ref a) (.ref b)) Q E s := by
  have hTa := ha.dictOf.typeIs
  have hTb := hb.dictOf.typeIs
  refine wpAny_richCompare_same_room hTa hTb F.slot_dict_eq (wpAny_call_entry F.slot_dict_eq hTa F.entry_dict_eq ?_ (F.args_dict_eq_2 _ _)) hu
  obtain ⟨o, es, ho, hex, hd, hk, hp, hn⟩ := id ha
  obtain ⟨o', es', ho', hex', hd', hk', hp', hn'⟩ := id hb
  have hz : es.size = ks.length := by
    rw [← Array.length_toList, hp.length]; simp [hl]
  have hz' : es'.size = ks.length := by
    rw [← Array.length_toList, hp'.length]; simp [hl']
  unfold Builtin.«dict.__eq__»
  refine wpAny_bind ?_
  unfold Builtin.Dict.dictSlotArgs
  refine wpAny_bind (wpAny_notOrdered_dict hTa ?_)
  show wpAny _ _ (pure (Value.ref a, Value.ref b)) _ _ _
  refine wpAny_pure ?_
  refine wpAny_bind (wpAny_isInstance hTb sub_dict_dict ?_)
  simp only [Bool.not_true, Bool.false_eq_true, if_false]
  unfold Builtin.Dict.addrOf
  refine wpAny_bind (wpAny_pure ?_)
  refine wpAny_bind (wpAny_pure ?_)
  refine wpAny_bind ?_
  unfold Builtin.Dict.samePairs Builtin.Dict.showsAll
  rw [if_neg (by rw [hna]; exact Bool.false_ne_true), if_neg (by rw [hnb]; exact Bool.false_ne_true)]
  refine wpAny_bind (wpAny_pure (wpAny_bind (wpAny_pure ?_)))
  refine wpAny_bind (wpAny_dictEntries ho hd ?_)
  refine wpAny_bind (wpAny_dictEntries ho' hd' ?_)
  rw [if_neg (by simp [hz, hz'])]
  refine wpAny_bind (wpAny_dictEpoch ho hd ?_)
  rw [forIn_rng]
  refine wpAny_bind (wpAny_forIn_list _ (fun l b s' => (∀ i ∈ l, i < es.size) ∧ b = (none, ()) ∧ s' = s) _ ?_ ?_ _ _ ⟨?_, rfl, rfl⟩)
  · intro i rest c s₁ hI
    obtain ⟨hx, hc, hs₁⟩ := hI
    rw [hs₁]
    have hi : i < es.size := hx i (by simp)
    have hi' : i < es'.size := by rw [hz', ← hz]; exact hi
    refine wpAny_bind (wpAny_dictEntries ho hd ?_)
    rw [Array.getElem?_eq_getElem hi]
    dsimp only
    obtain ⟨k, hkk⟩ : ∃ k, ks[i]? = some k := ⟨ks[i]'(by omega), by simp⟩
    obtain ⟨v, hv⟩ : ∃ v, vs[i]? = some v := ⟨vs[i]'(by omega), by simp⟩
    obtain ⟨u, hu'⟩ : ∃ u, us[i]? = some u := ⟨us[i]'(by omega), by simp⟩
    have g1 := hp.get? (e := es[i]) (i := i) (k := k) (v := v) (by simp [hi]) (List.getElem?_zip_eq_some.mpr ⟨hkk, hv⟩)
    have g2 := hp'.get? (e := es'[i]) (i := i) (k := k) (v := u) (by simp [hi']) (List.getElem?_zip_eq_some.mpr ⟨hkk, hu'⟩)
    obtain ⟨k', hk1, hh⟩ := hk es[i] (Array.getElem_mem hi)
    have hkk' : k' = k := (intKind prog w).inj _ k' k hk1 g1.1
    subst hkk'
    rw [hh]
    have hfind : es'.findIdx? (fun e => (intKind prog w).is k' e.key) = some i := by
      rw [Array.findIdx?_eq_some_iff_getElem]
      refine ⟨hi', g2.1, fun j hj => ?_⟩
      have hj' : j < es'.size := Nat.lt_trans hj hi'
      obtain ⟨kj, hkj⟩ : ∃ k, ks[j]? = some k := ⟨ks[j]'(by omega), by simp⟩
      obtain ⟨uj, huj⟩ : ∃ u, us[j]? = some u := ⟨us[j]'(by omega), by simp⟩
      have g3 := hp'.get? (e := es'[j]) (i := j) (k := kj) (v := uj) (by simp [hj']) (List.getElem?_zip_eq_some.mpr ⟨hkj, huj⟩)
      cases hq : (intKind prog w).is k' es'[j].key with
      | false => simp
      | true =>
        exfalso
        have e1 := (intKind prog w).inj _ k' kj hq g3.1
        have hnd : ks.Nodup := by
          have := hn'
          rwa [zip_fst hl'] at this
        obtain ⟨hjl, hje⟩ := List.getElem?_eq_some_iff.mp hkj
        obtain ⟨hil, hie⟩ := List.getElem?_eq_some_iff.mp hkk
        have := (List.getElem_inj hnd (h₀ := hjl) (h₁ := hil)).mp (by rw [hje, hie, e1])
        omega
    refine wpAny_bind (wpAny_holding (wpAny_bind (wpAny_dictFind_of g1.1 ho' hd' hk' ?_)))
    rw [hfind]
    dsimp only
    refine wpAny_bind (wpAny_dictEntries ho' hd' ?_)
    rw [Array.getElem?_eq_getElem hi']
    dsimp only
    rw [g1.2, g2.2]
    refine wpAny_holding (he i v u hv hu' _ _ ?_)
    simp only [Bool.not_true, Bool.false_eq_true, if_false]
    refine wpAny_bind (wpAny_dictEpoch ho hd ?_)
    rw [if_neg (by simp)]
    exact wpAny_pure ⟨fun y hy => hx y (by simp [hy]), rfl, rfl⟩
  · intro c s₁ hI
    rw [hI.2.1, hI.2.2]
    refine wpAny_pure ?_
    exact wpAny_pure ⟨_, rfl, (fun q => nomatch q), h⟩
  · intro i hi
    simp at hi
    exact hi
end
end Mine

-- part V23
namespace Mine
open PySem PySem.W PyProof.Rows

section
variable {prog : Program} {w : World} {C : Addr} {A : Around} {E : Value → Shared → Prop} {s : Shared} {W W' : List Addr}

theorem eqBool_of_rc {a b : Addr} {Q : Bool → Shared → Prop} (h : wpAny (model prog w) A (richCompare .Eq (.ref a) (.ref b)) (fun v s' => v = .bool true ∧ s' = s) E s) (hQ : Q true s) :
    wpAny (model prog w) A (eqBool (.ref a) (.ref b)) Q E s := by
  unfold eqBool
  refine wpAny_holding ?_
  refine wpAny_ite_split (fun hab => ?_) (fun _ => ?_)
  · exact wpAny_bind (wpAny_rule (wpAny_pure hQ))
  · refine wpAny_bind (wpAny_mono h (fun v s' q => ?_) fun _ _ q => q)
    obtain ⟨rfl, rfl⟩ := q
    exact wpAny_truthy_bool hQ

theorem eqBool_flt {x : UInt64} {t u : Tok} {Q : Bool → Shared → Prop} (hb : NoneBooked s.heap) (ht : t ≠ 0) (hu : u ≠ 0) (hc : (Float64.cmp x x == some .eq) = true) (hQ : Q true s) :
    wpAny (model prog w) A (eqBool (.float x t) (.float x u)) Q E s := by
  have fin : wpAny (model prog w) A (do truthOfDropped (← richCompare .Eq (.float x t) (.float x u)) : Sem Bool) Q E s := by
    refine wpAny_bind ?_
    show wpAny _ _ (compareOp .Eq (.float x t) (.float x u)) _ _ _
    refine AutoFloatOps.eq_0 ?_
    rw [hc]
    exact wpAny_truthy_bool hQ
  unfold eqBool
  refine wpAny_holding ?_
  refine wpAny_ite_split (fun hab => ?_) (fun _ => ?_)
  · exact wpAny_bind (wpAny_rule (wpAny_pure hQ))
  · dsimp only
    have h0 : (t == 0 || u == 0) = false := by
      simp only [Bool.or_eq_false_iff, beq_eq_false_iff_ne]
      exact ⟨ht, hu⟩
    refine wpAny_bind ?_
    show wpAny _ _ (isSame.created (x == x && !Float64.isNaN x) t u) _ _ _
    unfold isSame.created
    refine wpAny_ite ?_
    split
    · rename_i h; rw [h0] at h; exact absurd h Bool.false_ne_true
    refine wpAny_ite ?_
    split
    · exact wpAny_pure (wpAny_pure hQ)
    refine wpAny_ite ?_
    split
    · exact wpAny_pure fin
    refine wpAny_bind (wpAny_sharingNotTold_none hb ?_)
    first | rw [if_neg Bool.false_ne_true] | simp only [Bool.false_eq_true, if_false]
    refine wpAny_bind (wpAny_sharingNotTold_none hb ?_)
    first | rw [if_neg Bool.false_ne_true] | simp only [Bool.false_eq_true, if_false]
    refine wpAny_bind (wpAny_rule (wpAny_bind (wpAny_askSetting (wpAny_pure ?_))))
    split
    · exact wpAny_pure hQ
    · exact fin

theorem sames_get {f : PV → PV → Bool} : ∀ {l r : List PV}, sames f l r = true → l.length = r.length ∧ ∀ (i : Nat) p q, l[i]? = some p → r[i]? = some q → f p q = true
  | [], [], _ => ⟨rfl, fun i p q h => by simp at h⟩
  | [], _ :: _, h => by simp [sames] at h
  | _ :: _, [], h => by simp [sames] at h
  | a :: l, b :: r, h => by
    simp only [sames, Bool.and_eq_true] at h
    obtain ⟨h1, h2⟩ := sames_get h.2
    refine ⟨by simp [h1], fun i p q hp hq => ?_⟩
    cases i with
    | zero => simp at hp hq; subst hp hq; exact h.1
    | succ i => exact h2 i p q (by simpa using hp) (by simpa using hq)

theorem dictAt_tr {prog' : Program} {w' : World} {h : Heap} {a : Addr} {kvs : List (Int × Value)} {ep : Nat} (x : h.DictAt (intKind prog w) a kvs ep) : h.DictAt (intKind prog' w') a kvs ep := by
  obtain ⟨o, es, h1, h2, h3, h4, h5, h6⟩ := x
  refine ⟨o, es, h1, h2, h3, h4, ?_, h6⟩
  clear h3 h4 h6
  generalize es.toList = l at h5 ⊢
  induction h5 with
  | nil => exact .nil
  | cons a b _ ih => exact .cons a b ih
theorem setOf_tr {prog' : Program} {w' : World} {h : Heap} {a : Addr} {S : Int → Bool} {n : Nat} (x : h.SetOf (intKind prog w) a S n) : h.SetOf (intKind prog' w') a S n := x
theorem same_ok (hb : NoneBooked s.heap) : ∀ (n : Nat) (p q : PV) (a b : Value) (A : Around) (prog' : Program) (w' : World) (E : Value → Shared → Prop) (Q : Bool → Shared → Prop), same n p q = true → VR prog w C s.heap W p a → VR prog w C s.heap W' q b → A.units + n < cLine → Q true s →
    wpAny (model prog' w') A (eqBool a b) Q E s
  | 0, _, _, _, _, _, _, _, _, _, h, _, _, _, _ => by simp [same] at h
  | n + 1, p, q, a, b, A, prog', w', E, Q, h, ha, hb', hu, hQ => by
    have hu0 : A.units < cLine := by omega
    have hu1 : A.in1.units + n < cLine := by show A.units + 1 + n < _; omega
    unfold same at h
    split at h
    · obtain ⟨t, rfl⟩ := ha; obtain ⟨u, rfl⟩ := hb'
      exact wpAny_eqBool_int (by rw [h]; exact hQ)
    · obtain ⟨t, ht, rfl⟩ := ha; obtain ⟨u, hu', rfl⟩ := hb'
      rw [Bool.and_eq_true] at h
      have e := eq_of_beq h.1
      subst e
      exact eqBool_flt hb ht hu' h.2 hQ
    · obtain ⟨t, rfl⟩ := ha; obtain ⟨u, rfl⟩ := hb'
      have e := eq_of_beq h
      subst e
      exact PyProof.Rows.eqBool_str (by rw [beq_self_eq_true]; exact hQ)
    · obtain ⟨l, vs, rfl, _, hl, H⟩ := ha
      obtain ⟨r, us, rfl, _, hr, K⟩ := hb'
      obtain ⟨h1, h2⟩ := sames_get h
      have e1 := H.length
      have e2 := K.length
      have e3 : vs.toArray.size = us.toArray.size := by simp [e1, e2, h1]
      refine eqBool_of_rc (SeqAt.RcAt.lists (e := fun _ => true) hl.isList hr.isList e3 hu0 (fun j hj1 hj2 prog'' w'' E Q hQ => ?_) prog' w' _ _ ⟨by simp, rfl⟩) hQ
      have hj1' : j < vs.length := by simpa using hj1
      have hj2' : j < us.length := by simpa using hj2
      obtain ⟨p, hp, hpv⟩ := VRs.get' H (List.getElem?_eq_getElem hj1')
      obtain ⟨q, hq, hqv⟩ := VRs.get' K (List.getElem?_eq_getElem hj2')
      exact same_ok hb n p q _ _ A.in1 prog'' w'' E Q (h2 j p q hp hq) (by simpa using hpv) (by simpa using hqv) hu1 hQ
    · obtain ⟨a', vs, ep, rfl, _, hd, hn, H, hsm⟩ := ha
      obtain ⟨b', us, ep', rfl, _, hd', hn', K, hsm'⟩ := hb'
      rw [Bool.and_eq_true] at h
      have e := eq_of_beq h.1
      subst e
      obtain ⟨h1, h2⟩ := sames_get h.2
      refine eqBool_of_rc (dict_eq_ok (dictAt_tr hd) (dictAt_tr hd') hsm hsm' hu0 hn hn' (fun i v u hv hu' E Q hQ => ?_) ⟨rfl, rfl⟩) hQ
      obtain ⟨p, hp, hpv⟩ := VRs.get' H hv
      obtain ⟨q, hq, hqv⟩ := VRs.get' K hu'
      exact same_ok hb n p q v u A.in1 prog' w' E Q (h2 i p q hp hq) hpv hqv hu1 hQ
    · rename_i m l m' r
      obtain ⟨a', rfl, _, hnd, hS, _⟩ := ha
      obtain ⟨b', rfl, _, hnd', hS', _⟩ := hb'
      rw [Bool.and_eq_true] at h
      have e := eq_of_beq h.1
      rw [← e] at hS'
      refine eqBool_of_rc (set_eq_ok (setOf_tr hS) (setOf_tr hS') (fun k hk => ?_) hu0 ⟨rfl, rfl⟩) hQ
      rw [decide_eq_true_eq] at hk ⊢
      have := List.all_eq_true.mp h.2 k hk
      simpa using this
    · cases h
end
end Mine

-- part V24
namespace Mine
open PySem PySem.W PyProof.Rows

section
variable {prog : Program} {w : World} {C : Addr} {A : Around} {E : Value → Shared → Prop} {s : Shared} {W : List Addr}

theorem cmp_ok {Q : Value → Shared → Prop} {op : CmpOp} {x y z : PV} {a b : Value} (hop : pcmp op x y = some z) (bk : NoneBooked s.heap) (hu : A.units + 8 < cLine) (ha : VR prog w C s.heap W x a) (hb : VR prog w C s.heap W y b)
    (h : ∀ v s', Ext [] s s' → VR prog w C s'.heap W z v → Q v s') : wpAny (model prog w) A (compareOp op a b) Q E s := by
  have plain : ∀ c : Bool, z = .bool c → Q (.bool c) s := fun c e => h _ _ (Ext.refl _ _) (by rw [e]; rfl)
  have hu0 : A.units < cLine := by omega
  unfold pcmp at hop
  split at hop
  · cases hop; obtain ⟨t, rfl⟩ := ha; obtain ⟨u, rfl⟩ := hb; exact PyProof.Rows.eq_int (plain _ rfl)
  · cases hop; obtain ⟨t, rfl⟩ := ha; obtain ⟨u, rfl⟩ := hb; exact PyProof.Rows.ne_int (plain _ rfl)
  · cases hop; obtain ⟨t, rfl⟩ := ha; obtain ⟨u, rfl⟩ := hb; exact PyProof.Rows.lt_int (plain _ rfl)
  · cases hop; obtain ⟨t, rfl⟩ := ha; obtain ⟨u, rfl⟩ := hb; exact PyProof.Rows.le_int (plain _ rfl)
  · cases hop; obtain ⟨t, rfl⟩ := ha; obtain ⟨u, rfl⟩ := hb; exact PyProof.Rows.gt_int (plain _ rfl)
  · cases hop; obtain ⟨t, rfl⟩ := ha; obtain ⟨u, rfl⟩ := hb; exact PyProof.Rows.ge_int (plain _ rfl)
  · cases hop; obtain ⟨t, rfl⟩ := ha; obtain ⟨u, _, rfl⟩ := hb; exact PyProof.Rows.gt_if (plain _ rfl)
  · cases hop; obtain ⟨t, _, rfl⟩ := ha; obtain ⟨u, rfl⟩ := hb; exact PyProof.Rows.eq_fi (plain _ rfl)
  · cases hop; obtain ⟨t, _, rfl⟩ := ha; obtain ⟨u, _, rfl⟩ := hb; exact AutoFloatOps.eq_0 (plain _ rfl)
  · cases hop; obtain ⟨t, rfl⟩ := ha; obtain ⟨u, rfl⟩ := hb; exact PySem.P.eq_str (plain _ rfl)
  · split at hop
    · rename_i hs
      cases hop
      obtain ⟨l, vs, rfl, _, hl, H⟩ := ha
      obtain ⟨r, us, rfl, _, hr, K⟩ := hb
      obtain ⟨h1, h2⟩ := sames_get hs
      have e1 := H.length
      have e2 := K.length
      have e3 : vs.toArray.size = us.toArray.size := by simp [e1, e2, h1]
      refine SeqAt.RcAt.lists (e := fun _ => true) hl.isList hr.isList e3 hu0 (fun j hj1 hj2 prog'' w'' E Q hQ => ?_) prog w E Q ?_
      · have hj1' : j < vs.length := by simpa using hj1
        have hj2' : j < us.length := by simpa using hj2
        obtain ⟨p, hp, hpv⟩ := VRs.get' H (List.getElem?_eq_getElem hj1')
        obtain ⟨q, hq, hqv⟩ := VRs.get' K (List.getElem?_eq_getElem hj2')
        exact same_ok bk 5 p q _ _ A.in1 prog'' w'' E Q (h2 j p q hp hq) (by simpa using hpv) (by simpa using hqv) (by show A.units + 1 + 5 < _; omega) hQ
      · have : ((List.range vs.toArray.size).all fun _ => true) = true := by simp
        rw [this]
        exact plain _ rfl
    · cases hop
  · split at hop
    · rename_i hs
      cases hop
      obtain ⟨a', vs, ep, rfl, _, hd, hn, H, hsm⟩ := ha
      obtain ⟨b', us, ep', rfl, _, hd', hn', K, hsm'⟩ := hb
      unfold same at hs
      (try dsimp only at hs)
      rw [Bool.and_eq_true] at hs
      have e := eq_of_beq hs.1
      subst e
      obtain ⟨h1, h2⟩ := sames_get hs.2
      refine dict_eq_ok hd hd' hsm hsm' hu0 hn hn' (fun i v u hv hu' E Q hQ => ?_) (plain _ rfl)
      obtain ⟨p, hp, hpv⟩ := VRs.get' H hv
      obtain ⟨q, hq, hqv⟩ := VRs.get' K hu'
      exact same_ok bk 5 p q v u A.in1 prog w E Q (h2 i p q hp hq) hpv hqv (by show A.units + 1 + 5 < _; omega) hQ
    · cases hop
  · cases hop; obtain ⟨t, rfl⟩ := ha
    obtain ⟨b', rfl, _, hnd, hS, _⟩ := hb
    rename_i k m l
    refine wpAny_inSet_of (knd := intKind prog w) (intKind_is _ _ _ t) rfl hS ?_
    refine h _ _ (Ext.tok s 1) ?_
    show Value.bool _ = Value.bool _
    congr 1
    rw [Bool.eq_iff_iff, decide_eq_true_eq, List.contains_iff_mem]
  · cases hop
end
end Mine

-- part V25
namespace Mine
open PySem PySem.W PyProof.Rows

def RT.kindB (it : RI) (t : RT) : Bool := match it with
  | .ex _ => true
  | _ => t.isPair
def RT.goodB : RT → Bool
  | .nm _ _ => true
  | .tp x _ y _ _ _ => decide (x < nmTab.length) && !(x == y)
theorem RT.kindB_ok {it : RI} {t : RT} (h : RT.kindB it t = true) : it.kind t := by
  cases it with
  | ex _ => trivial
  | enum _ _ _ => exact h
  | zip _ _ _ _ => exact h
theorem RT.goodB_ok {t : RT} (h : t.goodB = true) : t.good := by
  cases t with
  | nm _ _ => trivial
  | tp x px y py k p =>
    simp only [RT.goodB, Bool.and_eq_true, decide_eq_true_eq, Bool.not_eq_true', beq_eq_false_iff_ne] at h
    exact fun e => h.2 (nmS_inj h.1 e)

mutual
/-- the words stand as they must -/
def wfE (sc : Scope) : RE → Bool
  | .int _ _ _ => true
  | .str _ _ _ => true
  | .none _ _ => true
  | .name _ _ => true
  | .bin _ a b _ => wfE sc a && wfE sc b
  | .neg a _ => wfE sc a
  | .cmp _ a b _ => wfE sc a && wfE sc b
  | .bop _ es _ => wfEs sc es
  | .ite t a b _ => wfE sc t && wfE sc a && wfE sc b
  | .sub a i _ => wfE sc a && wfE sc i
  | .adj a _ => wfE sc a
  | .call f es _ _ => decide (f < 16) && isGlob sc (fnm f) && !es.isEmpty && wfEs sc es
  | .isi e ty _ _ _ => decide (ty < 3) && isGlob sc (Str.ofString "isinstance") && isGlob sc (tyn ty) && wfE sc e
  | .count a e ap p => (ap.endLine == p.line) && wfE sc a && wfE sc e
  | .list es _ => wfEs sc es
  | .tup es _ _ => wfEs sc es
  | .lcomp e gs fr sc' _ => wfShape sc sc' fr gs && wfGs sc sc' gs && wfE sc' e
  | .scomp e gs fr sc' _ => wfShape sc sc' fr gs && (gs.length == 1) && wfGs sc sc' gs && wfE sc' e
  | .dcomp k v gs fr sc' _ => wfShape sc sc' fr gs && (gs.length == 1) && wfGs sc sc' gs && wfE sc' k && wfE sc' v
def wfEs (sc : Scope) : List RE → Bool
  | [] => true
  | e :: r => wfE sc e && wfEs sc r
def wfI (sc : Scope) : RI → Bool
  | .ex e => wfE sc e
  | .enum e _ _ => isGlob sc "enumerate" && wfE sc e
  | .zip a b _ _ => isGlob sc "zip" && wfE sc a && wfE sc b
/-- the first iterable in sc, all else in sc' -/
def wfGs (sc sc' : Scope) : List RG → Bool
  | [] => true
  | .mk t it ifs :: gs => wfI sc it && RT.kindB it t && t.goodB && wfEs sc' ifs && wfGs sc' sc' gs
def wfShape (sc sc' : Scope) (fr : List Nat) : List RG → Bool
  | [.mk t _ _] => wfScope sc sc' fr t.names
  | [.mk t _ _, .mk t₂ _ _] => wfScope sc sc' fr (t.names ++ t₂.names)
  | _ => false
end
theorem wfEs_mem {sc : Scope} : ∀ {es : List RE}, wfEs sc es = true → ∀ e ∈ es, wfE sc e = true
  | [], _, e, h => by cases h
  | a :: r, h, e, he => by
    simp only [wfEs, Bool.and_eq_true] at h
    rcases List.mem_cons.mp he with rfl | he
    · exact h.1
    · exact wfEs_mem h.2 e he
theorem wfI_wf {sc : Scope} {it : RI} (h : wfI sc it = true) : it.wf sc = true ∧ ∀ e ∈ it.subs, wfE sc e = true := by
  cases it with
  | ex e => exact ⟨rfl, fun e' he => by simp [RI.subs] at he; rw [he]; exact h⟩
  | enum e _ _ =>
    simp only [wfI, Bool.and_eq_true] at h
    exact ⟨h.1, fun e' he => by simp [RI.subs] at he; rw [he]; exact h.2⟩
  | zip a b _ _ =>
    simp only [wfI, Bool.and_eq_true] at h
    exact ⟨h.1.1, fun e' he => by simp [RI.subs] at he; rcases he with rfl | rfl; exact h.1.2; exact h.2⟩

section
variable {prog : Program} {w : World} {C : Addr} {h₀ : Heap}

theorem VRs.permL {h : Heap} {W : List Addr} {o o' : List PV} (hp : o'.Perm o) : ∀ {vs' : List Value}, VRs prog w C h W o' vs' → ∃ vs, vs'.Perm vs ∧ VRs prog w C h W o vs := by
  induction hp with
  | nil => intro vs H; exact ⟨vs, List.Perm.refl _, H⟩
  | cons p hp ih =>
    intro vs H
    obtain ⟨u, r, rfl, hu, hr⟩ := H
    obtain ⟨vs, h1, h2⟩ := ih hr
    exact ⟨u :: vs, List.Perm.cons u h1, u, vs, rfl, hu, h2⟩
  | swap p q l =>
    intro vs H
    obtain ⟨u, r, rfl, hu, v, r', rfl, hv, hr⟩ := H
    exact ⟨v :: u :: r', List.Perm.swap v u r', v, u :: r', rfl, hv, u, r', rfl, hu, hr⟩
  | trans _ _ ih1 ih2 =>
    intro vs H
    obtain ⟨vs1, h1, h2⟩ := ih1 H
    obtain ⟨vs2, h3, h4⟩ := ih2 h2
    exact ⟨vs2, h1.trans h3, h4⟩

/-- the made list, once the names have gone -/
theorem post_list {s s' : Shared} {W : List Addr} {A : Around} {E Q : Value → Shared → Prop} {D CL : Addr} {o o' : List PV} {b : Bool} (x : Ext [] s s') (hD : s.heap.objs.size ≤ D) (hC : s.heap.objs.size ≤ CL) (hne : D ≠ CL)
    (lv : ∀ b ∈ W, b < s.heap.objs.size) (hns : ∃ m, s'.heap.Ns CL m) (r : (accL prog w C D).rel (CL :: W) o' s') (sm : Sim b o' o)
    (h : ∀ v s', Ext [] s s' → VR prog w C s'.heap W (match b with | false => .lst o | true => .bag o) v → Q v s') : compPost (model prog w) A E none Q (.ref D) CL (.ok .next) s' := by
  obtain ⟨m, hns⟩ := hns
  refine ⟨m, hns, fun h' hs => ?_⟩
  have x₂ : Ext [CL] s' { s' with heap := h' } := Ext.sameBut (Nat.le_refl _) hs
  have x₃ : Ext [] s { s' with heap := h' } := Ext.drop (N := [CL]) (X := []) (by rw [List.append_nil]; exact (x.mono (by simp)).trans x₂) (fun b hb => by rw [List.mem_singleton] at hb; rw [hb]; exact hC)
  obtain ⟨vs, ⟨n, hp⟩, hv⟩ := r
  have hp' : h'.PlainList D vs.toArray := ⟨n, x₂.keep D _ (by simpa using hne) hp⟩
  have hv' : VRs prog w C h' W o' vs := VRs.mono (fun b o hb q => ⟨x₂.keep b o (fun hm => hb (by rw [List.mem_singleton] at hm; simp [hm])) q, fun hm => hb (by simp [hm])⟩) _ _ hv
  have hDW : D ∉ W := fun hm => Nat.lt_irrefl _ (Nat.lt_of_lt_of_le (lv D hm) hD)
  refine h _ _ x₃ ?_
  cases b with
  | false => rw [← show o' = o from sm]; exact ⟨D, vs, rfl, hDW, hp', hv'⟩
  | true =>
    obtain ⟨us, h1, h2⟩ := VRs.permL (show o'.Perm o from sm) hv'
    exact ⟨D, us, vs, rfl, hDW, hp', h1, h2⟩

theorem addAll_nodup : ∀ (l acc : List Int), acc.Nodup → (addAll acc l).Nodup
  | [], _, h => h
  | a :: l, acc, h => by
    rw [addAll]
    refine addAll_nodup l _ ?_
    split
    · exact h
    · rename_i hc
      exact List.nodup_cons.mpr ⟨fun hm => hc (List.contains_iff_mem.mpr hm), h⟩
theorem post_set {s s' : Shared} {W : List Addr} {A : Around} {E Q : Value → Shared → Prop} {D CL : Addr} {o : List Int} (x : Ext [] s s') (hD : s.heap.objs.size ≤ D) (hC : s.heap.objs.size ≤ CL) (hne : D ≠ CL)
    (lv : ∀ b ∈ W, b < s.heap.objs.size) (hns : ∃ m, s'.heap.Ns CL m) (r : MadeSet w s'.heap D (addAll [] o))
    (h : ∀ v s', Ext [] s s' → VR prog w C s'.heap W (.set true (addAll [] o)) v → Q v s') : compPost (model prog w) A E none Q (.ref D) CL (.ok .next) s' := by
  obtain ⟨m, hns⟩ := hns
  refine ⟨m, hns, fun h' hs => ?_⟩
  have x₂ : Ext [CL] s' { s' with heap := h' } := Ext.sameBut (Nat.le_refl _) hs
  have x₃ : Ext [] s { s' with heap := h' } := Ext.drop (N := [CL]) (X := []) (by rw [List.append_nil]; exact (x.mono (by simp)).trans x₂) (fun b hb => by rw [List.mem_singleton] at hb; rw [hb]; exact hC)
  have r' : MadeSet w h' D (addAll [] o) := r.at fun o q => x₂.keep D o (by simpa using hne) q
  have hDW : D ∉ W := fun hm => Nat.lt_irrefl _ (Nat.lt_of_lt_of_le (lv D hm) hD)
  exact h _ _ x₃ ⟨D, rfl, hDW, addAll_nodup o [] List.nodup_nil, r'.setOf, fun _ => r'⟩
theorem post_dict {s s' : Shared} {W : List Addr} {A : Around} {E Q : Value → Shared → Prop} {D CL : Addr} {o : List (Int × PV)} (x : Ext [] s s') (hD : s.heap.objs.size ≤ D) (hC : s.heap.objs.size ≤ CL) (hne : D ≠ CL)
    (lv : ∀ b ∈ W, b < s.heap.objs.size) (sz : 1 < s.heap.objs.size) (hns : ∃ m, s'.heap.Ns CL m) (r : (accD prog w C D).rel (CL :: W) o s')
    (h : ∀ v s', Ext [] s s' → VR prog w C s'.heap W (.dct (o.map (·.1)) (o.map (·.2))) v → Q v s') : compPost (model prog w) A E none Q (.ref D) CL (.ok .next) s' := by
  obtain ⟨m, hns⟩ := hns
  refine ⟨m, hns, fun h' hs => ?_⟩
  have x₂ : Ext [CL] s' { s' with heap := h' } := Ext.sameBut (Nat.le_refl _) hs
  have x₃ : Ext [] s { s' with heap := h' } := Ext.drop (N := [CL]) (X := []) (by rw [List.append_nil]; exact (x.mono (by simp)).trans x₂) (fun b hb => by rw [List.mem_singleton] at hb; rw [hb]; exact hC)
  obtain ⟨vs, hp, hl, hv⟩ := r
  obtain ⟨ep, hp⟩ := (hp.at fun o q => x₂.keep D o (by simpa using hne) q : h'.DictOf (intKind prog w) D _).dictAt
  have hv' : VRs prog w C h' W (o.map (·.2)) vs := VRs.mono (fun b o hb q => ⟨x₂.keep b o (fun hm => hb (by rw [List.mem_singleton] at hm; simp [hm])) q, fun hm => hb (by simp [hm])⟩) _ _ hv
  have hDW : D ∉ W := fun hm => Nat.lt_irrefl _ (Nat.lt_of_lt_of_le (lv D hm) hD)
  refine h _ _ x₃ ⟨D, vs, ep, rfl, hDW, hp, by rw [List.length_map, hl], hv', ?_⟩
  cases e : D == sysModules with
  | false => rfl
  | true =>
    have := eq_of_beq e
    rw [this] at hD
    exact absurd hD (Nat.not_le.mpr sz)
end
end Mine

-- part V26
namespace Mine
open PySem PySem.W PyProof.Rows

/-- the class of graphs, below -/
def BaseC (h₀ : Heap) (C : Addr) : Prop := ∃ nm q N bs sn sub ab col dd k0 k1 k2 k3 k5 newId mN, h₀.get? C = some (excClassObj nm q C N bs [Value.type "object"] true sn sub ab col dd k0 k1 k2 k3 k5 newId) ∧ h₀.Ns N mN ∧
  mN (Str.ofString "__getattribute__") = none ∧ mN (Str.ofString "_adj") = none
theorem no_adj : typeLookup (Value.type "object") (Str.ofString "_adj") = pure none := by rw [typeLookup_type, builtinLookup_eq_fast]; kernel_rfl

structure OkH (h₀ : Heap) (l : Nat) (A : Around) (s : Shared) (W : List Addr) : Prop where
  a : AOk l A
  old : ∀ b o, h₀.get? b = some o → s.heap.get? b = some o
  tk : 0 < s.toks
  live : ∀ b ∈ W, b < s.heap.objs.size
  base : ∀ b ∈ W, h₀.get? b = none
  sz : 1 < s.heap.objs.size

section
variable {prog : Program} {w : World} {C : Addr} {h₀ : Heap}
theorem Ok.h {l : Nat} {sc : Scope} {A : Around} {env : Env} {s : Shared} {W : List Addr} {ρ : Rho} (H : Ok prog w C h₀ l sc A env s W ρ) : OkH h₀ l A s W := ⟨H.a, H.old, H.tk, H.live, H.base, H.sz⟩
theorem OkH.ext {l : Nat} {A : Around} {s s' : Shared} {W : List Addr} (H : OkH h₀ l A s W) (x : Ext [] s s') : OkH h₀ l A s' W :=
  ⟨H.a, fun b o q => x.keep b o (by simp) (H.old b o q), Nat.lt_of_lt_of_le H.tk x.toks, fun b hb => Nat.lt_of_lt_of_le (H.live b hb) x.size, H.base, Nat.lt_of_lt_of_le H.sz x.size⟩
theorem OkH.booked {l : Nat} {A : Around} {s : Shared} {W : List Addr} (H : OkH h₀ l A s W) (B : Base h₀) : NoneBooked s.heap := by
  obtain ⟨mc, h1, h2⟩ := B.booked
  exact ⟨mc, h1.keeps H.old, h2⟩
theorem OkH.units {l : Nat} {A : Around} {s : Shared} {W : List Addr} (H : OkH h₀ l A s W) : A.units + 8 < cLine := by have := H.a.units; omega

variable (prog w C h₀) in
/-- the callables answer as F says -/
def FnOk (l : Nat) (F : Nat → List PV → Option PV) : Prop := ∀ f ps p, F f ps = some p → f < 16 → ∀ (A : Around) (s : Shared) (W : List Addr) (vs : List Value) (Q E : Value → Shared → Prop), OkH h₀ l A s W → VRs prog w C s.heap W ps vs →
  (∀ v s', Ext [] s s' → VR prog w C s'.heap W p v → Q v s') → wpAny (model prog w) A (call (fval f) vs) Q E s

variable (prog w C h₀) in
def SoundR (l : Nat) (rec : Rho → RE → Option PV) : Prop := ∀ sc e, wfE sc e = true → SoundV prog w C h₀ sc l rec e ∧ SoundB prog w C h₀ sc l rec e

theorem behind_toE (op : CmpOp) (e : RE) : behindInMarks op e.toE = false := by cases e <;> rfl

theorem and_ok {sc : Scope} {l : Nat} {rec : Rho → RE → Option PV} {A : Around} {env : Env} {W : List Addr} {ρ : Rho} {E : Value → Shared → Prop} {p : Pos} :
    ∀ {es : List RE} (_ : ∀ e ∈ es, SoundV prog w C h₀ sc l rec e) {s : Shared} {z : PV} {Q : Value → Shared → Prop} (_ : Ok prog w C h₀ l sc A env s W ρ) (_ : pand rec ρ es = some z) (_ : ∀ v s', Ext [] s s' → VR prog w C s'.heap W z v → Q v s'),
      wpAny (model prog w) A (eval (.BoolOp .And (toEs es) p) env) Q E s
  | [], _, s, z, Q, _, hp, h => by cases hp
  | [e], hs, s, z, Q, ok, hp, h => by
    rw [pand] at hp
    exact PyProof.Rows.BoolOp_one (hs e (by simp) A env s W ρ z ok hp _ _ h)
  | e :: e' :: r, hs, s, z, Q, ok, hp, h => by
    rw [pand] at hp
    (try dsimp only at hp)
    cases h1 : rec ρ e with
    | none => rw [h1] at hp; cases hp
    | some v =>
      rw [h1] at hp; (try dsimp only at hp)
      cases h2 : truth v with
      | none => rw [h2] at hp; cases hp
      | some c =>
        rw [h2] at hp; (try dsimp only at hp)
        refine PyProof.Rows.BoolOp_and (hs e (by simp) A env s W ρ v ok h1 _ _ fun u s₁ x₁ hu => truthy_ok h2 hu fun s₂ x₂ => ?_)
        cases c with
        | true =>
          simp only [if_true]
          exact and_ok (fun e he => hs e (by simp [he])) ((ok.ext x₁).ext x₂) hp fun v s₃ x₃ hv => h v s₃ (x₁.trans (x₂.trans x₃)) hv
        | false =>
          simp only [Bool.false_eq_true, if_false]
          cases hp
          exact h u s₂ (x₁.trans x₂) (hu.ext x₂)
theorem or_ok {sc : Scope} {l : Nat} {rec : Rho → RE → Option PV} {A : Around} {env : Env} {W : List Addr} {ρ : Rho} {E : Value → Shared → Prop} {p : Pos} :
    ∀ {es : List RE} (_ : ∀ e ∈ es, SoundV prog w C h₀ sc l rec e) {s : Shared} {z : PV} {Q : Value → Shared → Prop} (_ : Ok prog w C h₀ l sc A env s W ρ) (_ : por rec ρ es = some z) (_ : ∀ v s', Ext [] s s' → VR prog w C s'.heap W z v → Q v s'),
      wpAny (model prog w) A (eval (.BoolOp .Or (toEs es) p) env) Q E s
  | [], _, s, z, Q, _, hp, h => by cases hp
  | [e], hs, s, z, Q, ok, hp, h => by
    rw [por] at hp
    exact PyProof.Rows.BoolOp_one (hs e (by simp) A env s W ρ z ok hp _ _ h)
  | e :: e' :: r, hs, s, z, Q, ok, hp, h => by
    rw [por] at hp
    (try dsimp only at hp)
    cases h1 : rec ρ e with
    | none => rw [h1] at hp; cases hp
    | some v =>
      rw [h1] at hp; (try dsimp only at hp)
      cases h2 : truth v with
      | none => rw [h2] at hp; cases hp
      | some c =>
        rw [h2] at hp; (try dsimp only at hp)
        refine PyProof.Rows.BoolOp_or (hs e (by simp) A env s W ρ v ok h1 _ _ fun u s₁ x₁ hu => truthy_ok h2 hu fun s₂ x₂ => ?_)
        cases c with
        | false =>
          simp only [Bool.false_eq_true, if_false]
          exact or_ok (fun e he => hs e (by simp [he])) ((ok.ext x₁).ext x₂) hp fun v s₃ x₃ hv => h v s₃ (x₁.trans (x₂.trans x₃)) hv
        | true =>
          simp only [if_true]
          cases hp
          exact h u s₂ (x₁.trans x₂) (hu.ext x₂)
/-- the same, asked for its truth -/
theorem andB_ok {sc : Scope} {l : Nat} {rec : Rho → RE → Option PV} {A : Around} {env : Env} {W : List Addr} {ρ : Rho} {E : Value → Shared → Prop} {p : Pos} {wh : Sem Value} :
    ∀ {es : List RE} (_ : ∀ e ∈ es, SoundB prog w C h₀ sc l rec e) {s : Shared} {z : PV} {b : Bool} {Q : Bool → Shared → Prop} (_ : Ok prog w C h₀ l sc A env s W ρ) (_ : pand rec ρ es = some z) (_ : truth z = some b) (_ : ∀ s', Ext [] s s' → Q b s'),
      wpAny (model prog w) A (isTrue (.BoolOp .And (toEs es) p) env wh) Q E s
  | [], _, s, z, b, Q, _, hp, _, h => by cases hp
  | [e], hs, s, z, b, Q, ok, hp, ht, h => by
    rw [pand] at hp
    refine PyProof.Rows.isTrue_and (hs e (by simp) A env s W ρ z b _ _ ok hp ht fun s₁ x₁ => ?_)
    cases b with
    | true => simp only [if_true]; exact PyProof.Rows.isTrue_and_nil (h s₁ x₁)
    | false => simp only [Bool.false_eq_true, if_false]; exact h s₁ x₁
  | e :: e' :: r, hs, s, z, b, Q, ok, hp, ht, h => by
    rw [pand] at hp
    (try dsimp only at hp)
    cases h1 : rec ρ e with
    | none => rw [h1] at hp; cases hp
    | some v =>
      rw [h1] at hp; (try dsimp only at hp)
      cases h2 : truth v with
      | none => rw [h2] at hp; cases hp
      | some c =>
        rw [h2] at hp; (try dsimp only at hp)
        refine PyProof.Rows.isTrue_and (hs e (by simp) A env s W ρ v c _ _ ok h1 h2 fun s₁ x₁ => ?_)
        cases c with
        | true =>
          simp only [if_true]
          exact andB_ok (fun e he => hs e (by simp [he])) (ok.ext x₁) hp ht fun s₃ x₃ => h s₃ (x₁.trans x₃)
        | false =>
          simp only [Bool.false_eq_true, if_false]
          cases hp
          rw [h2] at ht; cases ht
          exact h s₁ x₁
theorem orB_ok {sc : Scope} {l : Nat} {rec : Rho → RE → Option PV} {A : Around} {env : Env} {W : List Addr} {ρ : Rho} {E : Value → Shared → Prop} {p : Pos} {wh : Sem Value} :
    ∀ {es : List RE} (_ : ∀ e ∈ es, SoundB prog w C h₀ sc l rec e) {s : Shared} {z : PV} {b : Bool} {Q : Bool → Shared → Prop} (_ : Ok prog w C h₀ l sc A env s W ρ) (_ : por rec ρ es = some z) (_ : truth z = some b) (_ : ∀ s', Ext [] s s' → Q b s'),
      wpAny (model prog w) A (isTrue (.BoolOp .Or (toEs es) p) env wh) Q E s
  | [], _, s, z, b, Q, _, hp, _, h => by cases hp
  | [e], hs, s, z, b, Q, ok, hp, ht, h => by
    rw [por] at hp
    refine PyProof.Rows.isTrue_or (hs e (by simp) A env s W ρ z b _ _ ok hp ht fun s₁ x₁ => ?_)
    cases b with
    | true => simp only [if_true]; exact h s₁ x₁
    | false => simp only [Bool.false_eq_true, if_false]; exact PyProof.Rows.isTrue_or_nil (h s₁ x₁)
  | e :: e' :: r, hs, s, z, b, Q, ok, hp, ht, h => by
    rw [por] at hp
    (try dsimp only at hp)
    cases h1 : rec ρ e with
    | none => rw [h1] at hp; cases hp
    | some v =>
      rw [h1] at hp; (try dsimp only at hp)
      cases h2 : truth v with
      | none => rw [h2] at hp; cases hp
      | some c =>
        rw [h2] at hp; (try dsimp only at hp)
        refine PyProof.Rows.isTrue_or (hs e (by simp) A env s W ρ v c _ _ ok h1 h2 fun s₁ x₁ => ?_)
        cases c with
        | false =>
          simp only [Bool.false_eq_true, if_false]
          exact orB_ok (fun e he => hs e (by simp [he])) (ok.ext x₁) hp ht fun s₃ x₃ => h s₃ (x₁.trans x₃)
        | true =>
          simp only [if_true]
          cases hp
          rw [h2] at ht; cases ht
          exact h s₁ x₁
end
end Mine

-- part V27
namespace Mine
open PySem PySem.W PyProof.Rows

section
variable {prog : Program} {w : World} {C : Addr} {h₀ : Heap}

theorem small_le {α : Type} {o : List α} (h : small o = true) : o.length ≤ 1000 := by simpa [small] using h

def turnTree2 (e : Expr) (it acc : Value) (env : Env) (t : Expr) (ipos : Pos) (ifs : List Expr) (i₂ : Expr) : Sem Fin := do
  standAt ipos
  match ← pyNext it with
  | none => pure (.done .next)
  | some v =>
    letOwnedTupleGo t it v
    assign t env v
    let mut ok := true
    for c in ifs do
      if ok then ok ← isTrue c env (eval c env)
    if ok then
      let x ← eval i₂ env
      standAt i₂.pos
      let x ← foldedSetIterable i₂ env x
      let _ ← runOwn (.compStart e 1 (← holding [x] (pyIter x)) acc env) env
    again (.compLoop e 0 it acc env)
theorem turn2_eq (e : Expr) (it acc : Value) (env : Env) (t : Expr) (ipos : Pos) (ifs : List Expr) (i₂ : Expr) : turnTree e 0 it acc env t ipos ifs (do
      let x ← eval i₂ env
      standAt i₂.pos
      let x ← foldedSetIterable i₂ env x
      let _ ← runOwn (.compStart e 1 (← holding [x] (pyIter x)) acc env) env) = turnTree2 e it acc env t ipos ifs i₂ := by
  unfold turnTree turnTree2
  simp only [bind_assoc, pure_bind]
  all_goals rfl

theorem lcomp_run {sc sc' : Scope} {l : Nat} {rec : Rho → RE → Option PV} {A : Around} {env : Env} {s : Shared} {W : List Addr} {ρ : Rho} {E Q : Value → Shared → Prop} {e : RE} {gs : List RG} {fr : List Nat} {p pos : Pos} {o : List PV} {b : Bool} {use : Option (Value → Sem Unit)}
    (B : Base h₀) (ih : SoundR prog w C h₀ l rec) (wf : wfE sc (.lcomp e gs fr sc' p) = true) (ok : Ok prog w C h₀ l sc A env s W ρ) (hp : pcomp rec (fun ρ' => rec ρ' e) fr gs ρ = some (o, b)) (hsm : small o = true)
    (hpost : ∀ D CL s' o', Ext [] s s' → s.heap.objs.size ≤ D → s.heap.objs.size ≤ CL → D ≠ CL → D < s'.heap.objs.size → CL < s'.heap.objs.size → (∃ m, s'.heap.Ns CL m) → (accL prog w C D).rel (CL :: W) o' s' → Sim b o' o → compPost (model prog w) A E use Q (.ref D) CL (.ok .next) s') :
    wpAny (model prog w) A (comprehension (RE.lcomp e gs fr sc' p).toE sc' env pos (newList []) (firstAsync (toGs gs)) (firstIter (toGs gs) env) use) Q E s := by
  unfold wfE at wf
  simp only [Bool.and_eq_true] at wf
  obtain ⟨⟨w1, w2⟩, w3⟩ := wf
  cases gs with
  | nil => simp [wfShape] at w1
  | cons g gs =>
    obtain ⟨t, it, ifs⟩ := g
    cases gs with
    | nil =>
      simp only [wfShape] at w1
      simp only [wfGs, Bool.and_eq_true] at w2
      obtain ⟨⟨⟨⟨x1, x2⟩, x3⟩, x4⟩, _⟩ := w2
      obtain ⟨y1, y2⟩ := wfI_wf x1
      refine comp1_ok (t := t) (it := it) (ifs := ifs) (fr := fr) (mk := accL prog w C) (emit := fun ρ' => rec ρ' e) (Kem := fun av env => do let _ ← call (.builtin "list.append") [av, ← eval e.toE env]) B rfl w1 newL y1 (RT.kindB_ok x2) (RT.goodB_ok x3) (fun _ _ _ _ _ _ h => h) (fun _ _ _ => rfl) (fun _ _ _ _ _ _ h => h)
        (fun e' he => (ih sc e' (y2 e' he)).1) (fun e' he => (ih sc' e' (wfEs_mem x4 e' he)).2) (fun D env => emitL (ih sc' e w3).1) ok hp (fun D => small_le hsm) hpost
    | cons g gs =>
      obtain ⟨t₂, it₂, ifs₂⟩ := g
      cases gs with
      | cons _ _ => simp [wfShape] at w1
      | nil =>
        simp only [wfShape] at w1
        simp only [wfGs, Bool.and_eq_true] at w2
        obtain ⟨⟨⟨⟨x1, x2⟩, x3⟩, x4⟩, ⟨⟨⟨z1, z2⟩, z3⟩, z4⟩, _⟩ := w2
        obtain ⟨y1, y2⟩ := wfI_wf x1
        obtain ⟨u1, u2⟩ := wfI_wf z1
        refine comp2_ok (t := t) (it := it) (ifs := ifs) (t₂ := t₂) (it₂ := it₂) (ifs₂ := ifs₂) (fr := fr) (mk := accL prog w C) (emit := fun ρ' => rec ρ' e) (Kem := fun av env => do let _ ← call (.builtin "list.append") [av, ← eval e.toE env]) B rfl w1 newL y1 (RT.kindB_ok x2) (RT.goodB_ok x3) u1 (RT.kindB_ok z2) (RT.goodB_ok z3) (fun _ _ _ _ _ _ _ h => h) (fun _ _ _ _ => rfl) (fun _ _ _ _ _ _ h => by rw [turn2_eq] at h; exact h) (fun _ _ _ _ _ _ h => h)
          (fun e' he => (ih sc e' (y2 e' he)).1) (fun e' he => (ih sc' e' (wfEs_mem x4 e' he)).2) (fun e' he => (ih sc' e' (u2 e' he)).1) (fun e' he => (ih sc' e' (wfEs_mem z4 e' he)).2) (fun D env => emitL (ih sc' e w3).1) ok hp (fun D => small_le hsm) hpost

theorem scomp_run {sc sc' : Scope} {l : Nat} {rec : Rho → RE → Option PV} {A : Around} {env : Env} {s : Shared} {W : List Addr} {ρ : Rho} {E Q : Value → Shared → Prop} {e : RE} {gs : List RG} {fr : List Nat} {p pos : Pos} {o : List Int} {b : Bool} {use : Option (Value → Sem Unit)}
    (B : Base h₀) (ih : SoundR prog w C h₀ l rec) (wf : wfE sc (.scomp e gs fr sc' p) = true) (ok : Ok prog w C h₀ l sc A env s W ρ) (hp : pcomp rec (emitI rec e) fr gs ρ = some (o, b)) (hsm : o.length < 900)
    (hpost : ∀ D CL s' o', Ext [] s s' → s.heap.objs.size ≤ D → s.heap.objs.size ≤ CL → D ≠ CL → D < s'.heap.objs.size → CL < s'.heap.objs.size → (∃ m, s'.heap.Ns CL m) → (accS w D).rel (CL :: W) o' s' → Sim b o' o → compPost (model prog w) A E use Q (.ref D) CL (.ok .next) s') :
    wpAny (model prog w) A (comprehension (RE.scomp e gs fr sc' p).toE sc' env pos (newSet (.type "set")) (firstAsync (toGs gs)) (firstIter (toGs gs) env) use) Q E s := by
  unfold wfE at wf
  simp only [Bool.and_eq_true] at wf
  obtain ⟨⟨⟨w1, w0⟩, w2⟩, w3⟩ := wf
  cases gs with
  | nil => simp [wfShape] at w1
  | cons g gs =>
    obtain ⟨t, it, ifs⟩ := g
    cases gs with
    | nil =>
      simp only [wfShape] at w1
      simp only [wfGs, Bool.and_eq_true] at w2
      obtain ⟨⟨⟨⟨x1, x2⟩, x3⟩, x4⟩, _⟩ := w2
      obtain ⟨y1, y2⟩ := wfI_wf x1
      refine comp1_ok (t := t) (it := it) (ifs := ifs) (fr := fr) (mk := accS w) (emit := emitI rec e) (Kem := fun av env => do let v ← eval e.toE env; standAt e.toE.pos; let _ ← call (.builtin "set.add") [av, v]) B rfl w1 newS y1 (RT.kindB_ok x2) (RT.goodB_ok x3) (fun _ _ _ _ _ _ h => h) (fun _ _ _ => rfl) (fun _ _ _ _ _ _ h => h)
        (fun e' he => (ih sc e' (y2 e' he)).1) (fun e' he => (ih sc' e' (wfEs_mem x4 e' he)).2) (fun D env => emitS (ih sc' e w3).1) ok hp (fun D => hsm) hpost
    | cons g gs => simp at w0

theorem dcomp_run {sc sc' : Scope} {l : Nat} {rec : Rho → RE → Option PV} {A : Around} {env : Env} {s : Shared} {W : List Addr} {ρ : Rho} {E Q : Value → Shared → Prop} {k v : RE} {gs : List RG} {fr : List Nat} {p pos : Pos} {o : List (Int × PV)} {b : Bool} {use : Option (Value → Sem Unit)}
    (B : Base h₀) (ih : SoundR prog w C h₀ l rec) (wf : wfE sc (.dcomp k v gs fr sc' p) = true) (ok : Ok prog w C h₀ l sc A env s W ρ) (hp : pcomp rec (emit2 rec k v) fr gs ρ = some (o, b)) (hsm : (o.map (·.1)).Nodup ∧ o.length ≤ 1000)
    (hpost : ∀ D CL s' o', Ext [] s s' → s.heap.objs.size ≤ D → s.heap.objs.size ≤ CL → D ≠ CL → D < s'.heap.objs.size → CL < s'.heap.objs.size → (∃ m, s'.heap.Ns CL m) → (accD prog w C D).rel (CL :: W) o' s' → Sim b o' o → compPost (model prog w) A E use Q (.ref D) CL (.ok .next) s') :
    wpAny (model prog w) A (comprehension (RE.dcomp k v gs fr sc' p).toE sc' env pos newDict (firstAsync (toGs gs)) (firstIter (toGs gs) env) use) Q E s := by
  unfold wfE at wf
  simp only [Bool.and_eq_true] at wf
  obtain ⟨⟨⟨⟨w1, w0⟩, w2⟩, w3⟩, w4⟩ := wf
  cases gs with
  | nil => simp [wfShape] at w1
  | cons g gs =>
    obtain ⟨t, it, ifs⟩ := g
    cases gs with
    | nil =>
      simp only [wfShape] at w1
      simp only [wfGs, Bool.and_eq_true] at w2
      obtain ⟨⟨⟨⟨x1, x2⟩, x3⟩, x4⟩, _⟩ := w2
      obtain ⟨y1, y2⟩ := wfI_wf x1
      refine comp1_ok (t := t) (it := it) (ifs := ifs) (fr := fr) (mk := accD prog w C) (emit := emit2 rec k v) (Kem := fun av env => do
          let kv ← eval k.toE env
          let vv ← holding [kv] (eval v.toE env)
          match av with
          | .ref d => do
            standAt { k.toE.pos with endLine := v.toE.pos.endLine, endCol := v.toE.pos.endCol }
            holding [kv, vv] (dictSet d kv vv)
          | _ => unsupported "internal:dictcomp") B rfl w1 newD y1 (RT.kindB_ok x2) (RT.goodB_ok x3) (fun _ _ _ _ _ _ h => h) (fun _ _ _ => rfl) (fun _ _ _ _ _ _ h => h)
        (fun e' he => (ih sc e' (y2 e' he)).1) (fun e' he => (ih sc' e' (wfEs_mem x4 e' he)).2) (fun D env => emitD (ih sc' k w3).1 (ih sc' v w4).1) ok hp (fun D => hsm) hpost
    | cons g gs => simp at w0
end
end Mine

-- part V28
namespace Mine
open PySem PySem.W PyProof.Rows

section
variable {prog : Program} {w : World} {C : Addr} {h₀ : Heap}

theorem distinct_nodup : ∀ {l : List Int}, distinct l = true → l.Nodup
  | [], _ => List.nodup_nil
  | a :: l, h => by
    simp only [distinct, Bool.and_eq_true, Bool.not_eq_true'] at h
    refine List.nodup_cons.mpr ⟨fun hm => ?_, distinct_nodup h.2⟩
    rw [List.contains_iff_mem.mpr hm] at h
    cases h.1

theorem strsOf_are {h : Heap} {W : List Addr} : ∀ {l : List PV} {vs : List Value}, strsOf l = true → VRs prog w C h W l vs → ∃ ys : List Str, StrsAre vs ys ∧ l = ys.map fun y => .str y.cps.toList
  | [], _, _, H => by rw [show _ = [] from H]; exact ⟨[], .nil, rfl⟩
  | .str x :: l, _, hs, H => by
    obtain ⟨v, r, rfl, ⟨t, rfl⟩, hr⟩ := H
    obtain ⟨ys, h1, h2⟩ := strsOf_are (l := l) hs hr
    exact ⟨⟨x.toArray⟩ :: ys, .cons _ _ h1, by rw [h2]; rfl⟩
  | .any :: l, _, hs, _ | .none :: l, _, hs, _ | .bool _ :: l, _, hs, _ | .int _ :: l, _, hs, _ | .flt _ :: l, _, hs, _ | .tup _ :: l, _, hs, _ | .lst _ :: l, _, hs, _ | .bag _ :: l, _, hs, _ | .dct _ _ :: l, _, hs, _
  | .set _ _ :: l, _, hs, _ | .graph _ :: l, _, hs, _ | .rng _ _ :: l, _, hs, _ => by cases hs
theorem count_are (s : List Nat) : ∀ ys : List Str, Spec.countIn (.str ⟨s.toArray⟩) (ys.map .str) = ((ys.map fun y => PV.str y.cps.toList).countP (isStrB s) : Int)
  | [] => rfl
  | y :: ys => by
    rw [List.map_cons, List.map_cons, Spec.countIn, count_are s ys, List.countP_cons]
    have e : Spec.same (.str y) (.str ⟨s.toArray⟩) = (y.cps.toList == s) := by
      show (y == (⟨s.toArray⟩ : Str)) = _
      rw [Bool.eq_iff_iff, beq_iff_eq, beq_iff_eq]
      constructor
      · intro h; rw [h]
      · intro h; rw [← h]
    rw [e]
    show _ = ((_ + if (y.cps.toList == s) = true then 1 else 0 : Nat) : Int)
    split <;> push_cast <;> omega

theorem isi_ok {A : Around} {s : Shared} {W : List Addr} {E Q : Value → Shared → Prop} {p z : PV} {v : Value} {ty : Nat} (hty : ty < 3)
    (hp : (match p with | .int _ => some (PV.bool (Nat.beq ty 2)) | .str _ => some (.bool (Nat.beq ty 0)) | .tup _ => some (.bool (Nat.beq ty 1)) | _ => none) = some z) (hv : VR prog w C s.heap W p v)
    (h : ∀ v s', Ext [] s s' → VR prog w C s'.heap W z v → Q v s') : wpAny (model prog w) A (call (.builtin "isinstance") [v, ([.type "str", .type "tuple", .type "int"] : List Value).getD ty .none]) Q E s := by
  cases p with
  | int i =>
    cases hp; obtain ⟨t, rfl⟩ := hv
    rcases ty with _ | _ | _ | ty
    · exact IsiPair.int_str (h _ _ (Ext.tok s 1) rfl)
    · exact IsiPair.int_tuple (h _ _ (Ext.tok s 1) rfl)
    · exact IsiPair.int_int (h _ _ (Ext.refl _ s) rfl)
    · omega
  | str x =>
    cases hp; obtain ⟨t, rfl⟩ := hv
    rcases ty with _ | _ | _ | ty
    · exact IsiPair.str_str (h _ _ (Ext.refl _ s) rfl)
    · exact IsiPair.str_tuple (h _ _ (Ext.tok s 1) rfl)
    · exact IsiPair.str_int (h _ _ (Ext.tok s 1) rfl)
    · omega
  | tup l =>
    cases hp; obtain ⟨a, vs, rfl, _, hT, _⟩ := hv
    rcases ty with _ | _ | _ | ty
    · exact IsiPair.isTuple_str hT (fun _ _ q => q) (h _ _ (Ext.tok s 1) rfl)
    · exact IsiPair.isTuple_tuple hT (fun _ _ q => q) (h _ _ (Ext.refl _ s) rfl)
    · exact IsiPair.isTuple_int hT (fun _ _ q => q) (h _ _ (Ext.tok s 1) rfl)
    · omega
  | _ => cases hp

theorem adj_ok {A : Around} {s : Shared} {W : List Addr} {E Q : Value → Shared → Prop} {g : PV} {v : Value} {ex : Bool} (BC : BaseC h₀ C) (old : ∀ b o, h₀.get? b = some o → s.heap.get? b = some o) (hv : VR prog w C s.heap W (.graph g) v)
    (h : ∀ v s', Ext [] s s' → VR prog w C s'.heap W g v → Q v s') : wpAny (model prog w) A (getAttr v (Str.ofString "_adj") ex) Q E s := by
  obtain ⟨nm, q, N, bs, sn, sub, ab, col, dd, k0, k1, k2, k3, k5, newId, mN, hC, hN, hg, ha⟩ := BC
  obtain ⟨x, o, d, mA, ga, rfl, hx, ho, hc, hnc, hd, hne, hdW, hns, hA, hg'⟩ := hv
  exact load_attr (h := s.heap) (g := s.gens) (d := s.drawn) (t := s.toks) (os := s.os) (old _ _ hC) (hN.keeps old) hg ha no_adj ⟨o, ho, hc, hnc, .inr ⟨d, hd, hne, hns⟩⟩ hA rfl (h _ _ (Ext.tok s 1) hg')
end
end Mine

-- part V29
namespace Mine
open PySem PySem.W PyProof.Rows

theorem tyn_mem : ∀ ty, ty < 3 → (tyn ty, ([.type "str", .type "tuple", .type "int"] : List Value).getD ty .none) ∈ bltTab := by decide +kernel
theorem tyn_steady (h₀ : Heap) : ∀ ty, ty < 3 → Steady h₀ (([.type "str", .type "tuple", .type "int"] : List Value).getD ty .none) := by
  intro ty h
  rcases ty with _ | _ | _ | ty
  · exact .inr (.inl ⟨_, rfl⟩)
  · exact .inr (.inl ⟨_, rfl⟩)
  · exact .inr (.inl ⟨_, rfl⟩)
  · omega

theorem attr_base {sc : Scope} {a : RE} {attr : Str} {env : Env} {wh : Sem Value} (wf : wfE sc a = true) : attributeBase a.toE attr env wh = wh := by
  cases a with
  | call f es np p =>
    cases es with
    | nil => simp [wfE] at wf
    | cons e es => rfl
  | _ => rfl

section
variable {prog : Program} {w : World} {C : Addr} {h₀ : Heap}

theorem step_ok {l : Nat} {F : Nat → List PV → Option PV} {rec : Rho → RE → Option PV} (B : Base h₀) (BC : BaseC h₀ C) (HF : FnOk prog w C h₀ l F) (ih : SoundR prog w C h₀ l rec) {sc : Scope} {e : RE} (wf : wfE sc e = true) :
    SoundV prog w C h₀ sc l (pevStep F rec) e := by
  intro A env s W ρ p ok hp E Q h
  cases e with
  | int n k pos => rw [pevStep] at hp; cases hp; exact wpAny_Constant_int (h _ _ (Ext.tok s 1) ⟨_, rfl⟩)
  | str x k pos => rw [pevStep] at hp; cases hp; exact Calls.Constant_str (h _ _ (Ext.tok s 1) ⟨_, rfl⟩)
  | none k pos => rw [pevStep] at hp; cases hp; exact wpAny_Constant_none (h _ _ (Ext.refl _ s) rfl)
  | name x pos =>
    rw [pevStep] at hp
    obtain ⟨v, lk, hv⟩ := ok.rho x p hp
    exact lk.load ok.e.fn (h v s (Ext.refl _ s) hv)
  | bin op a b pos =>
    simp only [wfE, Bool.and_eq_true] at wf
    rw [pevStep] at hp
    cases h1 : rec ρ a with
    | none => rw [h1] at hp; cases hp
    | some x =>
      rw [h1] at hp; (try dsimp only at hp)
      cases h2 : rec ρ b with
      | none => rw [h2] at hp; cases hp
      | some y =>
        rw [h2] at hp; (try dsimp only at hp)
        refine wpAny_BinOp ((ih sc a wf.1).1 A env s W ρ x ok h1 _ _ fun v s₁ x₁ hv => (ih sc b wf.2).1 A env s₁ W ρ y (ok.ext x₁) h2 _ _ fun u s₂ x₂ hu => ?_)
        have ok₂ := (ok.ext x₁).ext x₂
        exact bin_ok hp ok₂.tk ok₂.live (hv.ext x₂) hu fun r s₃ x₃ hr => h r s₃ (x₁.trans (x₂.trans x₃)) hr
  | neg a pos =>
    rw [pevStep] at hp
    cases h1 : rec ρ a with
    | none => rw [h1] at hp; cases hp
    | some x =>
      rw [h1] at hp
      cases x with
      | int i =>
        cases hp
        refine PyProof.Rows.UnaryOp_ ((ih sc a wf).1 A env s W ρ _ ok h1 _ _ fun v s₁ x₁ hv => ?_)
        obtain ⟨t, rfl⟩ := hv
        exact PyProof.Rows.neg_int (h _ _ (x₁.trans (Ext.tok s₁ 1)) ⟨_, rfl⟩)
      | _ => cases hp
  | cmp op a b pos =>
    simp only [wfE, Bool.and_eq_true] at wf
    rw [pevStep] at hp
    cases h1 : rec ρ a with
    | none => rw [h1] at hp; cases hp
    | some x =>
      rw [h1] at hp; (try dsimp only at hp)
      cases h2 : rec ρ b with
      | none => rw [h2] at hp; cases hp
      | some y =>
        rw [h2] at hp; (try dsimp only at hp)
        refine wpAny_Compare1 ((ih sc a wf.1).1 A env s W ρ x ok h1 _ _ fun v s₁ x₁ hv => (ih sc b wf.2).1 A env s₁ W ρ y (ok.ext x₁) h2 _ _ fun u s₂ x₂ hu => ?_) (behind_toE op b)
        have ok₂ := ((ok.ext x₁).ext x₂).h
        exact cmp_ok hp (ok₂.booked B) ok₂.units (hv.ext x₂) hu fun r s₃ x₃ hr => h r s₃ (x₁.trans (x₂.trans x₃)) hr
  | bop op es pos =>
    cases op with
    | And => rw [pevStep] at hp; exact and_ok (fun e he => (ih sc e (wfEs_mem wf e he)).1) ok hp h
    | Or => rw [pevStep] at hp; exact or_ok (fun e he => (ih sc e (wfEs_mem wf e he)).1) ok hp h
  | ite t a b pos =>
    simp only [wfE, Bool.and_eq_true] at wf
    rw [pevStep] at hp
    cases h1 : rec ρ t with
    | none => rw [h1] at hp; cases hp
    | some x =>
      rw [h1] at hp; (try dsimp only at hp)
      cases h2 : truth x with
      | none => rw [h2] at hp; cases hp
      | some c =>
        rw [h2] at hp; (try dsimp only at hp)
        refine PyProof.Rows.IfExp_ ((ih sc t wf.1.1).2 A env s W ρ x c _ _ ok h1 h2 fun s₁ x₁ => ?_)
        cases c with
        | true => simp only [if_true]; exact (ih sc a wf.1.2).1 A env s₁ W ρ p (ok.ext x₁) hp _ _ fun v s₂ x₂ hv => h v s₂ (x₁.trans x₂) hv
        | false => simp only [Bool.false_eq_true, if_false]; exact (ih sc b wf.2).1 A env s₁ W ρ p (ok.ext x₁) hp _ _ fun v s₂ x₂ hv => h v s₂ (x₁.trans x₂) hv
  | sub a i pos =>
    simp only [wfE, Bool.and_eq_true] at wf
    rw [pevStep] at hp
    cases h1 : rec ρ a with
    | none => rw [h1] at hp; cases hp
    | some x =>
      rw [h1] at hp; (try dsimp only at hp)
      cases h2 : rec ρ i with
      | none => rw [h2] at hp; cases hp
      | some y =>
        rw [h2] at hp; (try dsimp only at hp)
        refine PyProof.Rows.Subscript_ ((ih sc a wf.1).1 A env s W ρ x ok h1 _ _ fun v s₁ x₁ hv => (ih sc i wf.2).1 A env s₁ W ρ y (ok.ext x₁) h2 _ _ fun u s₂ x₂ hu => ?_)
        exact get_ok hp (hv.ext x₂) hu fun r s₃ x₃ hr => h r s₃ (x₁.trans (x₂.trans x₃)) hr
  | adj a pos =>
    rw [pevStep] at hp
    cases h1 : rec ρ a with
    | none => rw [h1] at hp; cases hp
    | some x =>
      rw [h1] at hp
      cases x with
      | graph g =>
        cases hp
        refine PyProof.Rows.Attribute_any_ ((ih sc a wf).1 A env s W ρ _ ok h1 _ _ fun v s₁ x₁ hv => ?_) (by rw [arm_eval_Attribute, attr_base (a := a) wf])
        exact adj_ok BC (ok.ext x₁).old hv fun r s₂ x₂ hr => h r s₂ (x₁.trans x₂) hr
      | _ => cases hp
  | call f es np pos =>
    simp only [wfE, Bool.and_eq_true, decide_eq_true_eq, Bool.not_eq_true'] at wf
    obtain ⟨⟨⟨w1, w2⟩, w3⟩, w4⟩ := wf
    rw [pevStep] at hp
    cases es with
    | nil => cases w3
    | cons e es =>
      cases h1 : evs rec ρ (e :: es) with
      | none => rw [h1] at hp; cases hp
      | some ps =>
        rw [h1] at hp; (try dsimp only at hp)
        exact call_ok (x := fnm f) (f := fval f) rfl (fun Q hh => fn_ok B ok.e ok.old w1 (isGlob_ok w2) hh) (fun e' he => (ih sc e' (wfEs_mem w4 e' he)).1) ok h1 fun vs s₁ x₁ hvs =>
          HF f ps p hp w1 A s₁ W vs Q E (ok.ext x₁).h hvs fun v s₂ x₂ hv => h v s₂ (x₁.trans x₂) hv
  | isi e ty np tp pos =>
    simp only [wfE, Bool.and_eq_true, decide_eq_true_eq] at wf
    obtain ⟨⟨⟨w1, w2⟩, w3⟩, w4⟩ := wf
    rw [pevStep] at hp
    cases h1 : rec ρ e with
    | none => rw [h1] at hp; cases hp
    | some x =>
      rw [h1] at hp
      show wpAny _ _ (eval (.Call (.Name (Str.ofString "isinstance") np) [e.toE, .Name (tyn ty) tp] [] pos) env) _ _ _
      refine wpAny_Call_NameR (blt_ok B ok.e ok.old (v := .builtin "isinstance") (by decide +kernel) (isGlob_ok w2) ?_)
      have hse : backTo pos (starEach [e.toE, .Name (tyn ty) tp] env) = [(false, eval e.toE env), (false, eval (.Name (tyn ty) tp) env)] := by cases e <;> rfl
      rw [hse]
      refine callWith_any (h₀ := h₀) (.inl ⟨_, rfl⟩) rfl (Calls.spliced_cons ((ih sc e w4).1 A env s W ρ x ok h1 _ _ fun v s₁ x₁ hv => Calls.spliced_cons (blt_ok B ok.e (ok.ext x₁).old (tyn_mem ty w1) (isGlob_ok w3) (Calls.spliced_nil ⟨(ok.ext x₁).old, ?_⟩))))
      exact isi_ok w1 (by cases x <;> exact hp) hv fun r s₃ x₃ hr => h r s₃ (x₁.trans x₃) hr
  | count a e ap pos =>
    simp only [wfE, Bool.and_eq_true] at wf
    obtain ⟨⟨w1, w2⟩, w3⟩ := wf
    rw [pevStep] at hp
    cases h1 : rec ρ a with
    | none => rw [h1] at hp; cases hp
    | some x =>
      rw [h1] at hp
      cases x with
      | lst l =>
        (try dsimp only at hp)
        cases h2 : rec ρ e with
        | none => rw [h2] at hp; cases hp
        | some y =>
          rw [h2] at hp
          cases y with
          | str k =>
            (try dsimp only at hp)
            split at hp
            · rename_i hst
              cases hp
              refine wpAny_Call_method (T := "list") (id := "list.count") (attr_base w2) (by cases e <;> rfl) w1 PySem.F.plainAttrs_list PySem.F.slot_list_count PySem.F.type_list_count ((ih sc a w2).1 A env s W ρ _ ok h1 _ _ fun v s₁ x₁ hv => ?_)
              obtain ⟨la, vs, rfl, hla, hpl, H⟩ := hv
              refine ⟨hpl.isList.typeIs, fun b hb => ?_, ?_⟩
              · cases hb
                obtain ⟨n, ho⟩ := hpl
                exact ⟨_, ho, rfl⟩
              · have hse : backTo pos (starEach (toEs [e]) env) = [(false, eval e.toE env)] := backTo_toE env pos [e]
                show wpAny _ _ (callWith pos (.builtin "list.count") [Value.ref la] (backTo pos (starEach (toEs [e]) env)) []) _ _ _
                rw [hse]
                refine Calls.callWith_builtin rfl (Calls.evalArgs_plain (Calls.spliced_cons ((ih sc e w3).1 A env s₁ W ρ _ (ok.ext x₁) h2 _ _ fun u s₂ x₂ hu => Calls.spliced_nil ?_)))
                obtain ⟨t, rfl⟩ := hu
                obtain ⟨ys, h3, h4⟩ := strsOf_are hst (H.ext x₂)
                refine PyProof.Rows.count_list_strs ((hpl.isList).at fun o q => x₂.keep _ o (by simp) q) h3 (h _ _ (x₁.trans (x₂.trans (Ext.tok s₂ 1))) ⟨s₂.toks, ?_⟩)
                rw [count_are, h4]
            · cases hp
          | _ => cases hp
      | _ => cases hp
  | list es pos =>
    rw [pevStep] at hp
    cases h1 : evs rec ρ es with
    | none => rw [h1] at hp; cases hp
    | some ps =>
      rw [h1] at hp; (try dsimp only at hp)
      split at hp
      · rename_i hsm
        cases hp
        refine PyProof.Rows.List_ ?_
        rw [backTo_toE]
        refine evs_ok (fun e he => (ih sc e (wfEs_mem wf e he)).1) ok h1 fun vs s₁ x₁ hvs => ?_
        exact wpAny_newList (lst_new (ok.ext x₁).live hvs fun v s₂ x₂ hv => h v s₂ (x₁.trans x₂) hv) (by rw [hvs.length, sizeLine_eq]; have := small_le hsm; omega)
      · cases hp
  | tup es k pos =>
    rw [pevStep] at hp
    cases h1 : evs rec ρ es with
    | none => rw [h1] at hp; cases hp
    | some ps =>
      rw [h1] at hp; (try dsimp only at hp)
      split at hp
      · rename_i hsm
        cases hp
        refine PyProof.Rows.Tuple_ ?_
        rw [backTo_toE]
        refine evs_ok (fun e he => (ih sc e (wfEs_mem wf e he)).1) ok h1 fun vs s₁ x₁ hvs => ?_
        refine wpAny_newTuple (h _ _ (x₁.trans (Ext.push _ _)) ⟨_, vs, rfl, fun hm => Nat.lt_irrefl _ ((ok.ext x₁).live _ hm), ⟨_, Heap.get?_push_size _ rfl, rfl, _, rfl⟩, hvs.ext (Ext.push _ _)⟩) (by rw [hvs.length, sizeLine_eq]; have := small_le hsm; omega)
      · cases hp
  | lcomp e gs fr sc' pos =>
    rw [pevStep] at hp
    show wpAny _ _ (eval (.ListComp e.toE (toGs gs) sc' pos) env) _ _ _
    rw [eval_ListComp]
    cases h1 : pcomp rec (fun ρ' => rec ρ' e) fr gs ρ with
    | none => rw [h1] at hp; cases hp
    | some q =>
      obtain ⟨o, b⟩ := q
      rw [h1] at hp
      cases b with
      | false =>
        (try dsimp only at hp)
        split at hp
        · rename_i hsm
          cases hp
          exact lcomp_run B ih wf ok h1 hsm fun D CL s' o' x hD hC hne _ _ hns r sm => post_list x hD hC hne ok.live hns r sm h
        · cases hp
      | true =>
        (try dsimp only at hp)
        split at hp
        · rename_i hsm
          cases hp
          exact lcomp_run B ih wf ok h1 hsm fun D CL s' o' x hD hC hne _ _ hns r sm => post_list x hD hC hne ok.live hns r sm h
        · cases hp
  | scomp e gs fr sc' pos =>
    rw [pevStep] at hp
    show wpAny _ _ (eval (.SetComp e.toE (toGs gs) sc' pos) env) _ _ _
    rw [arm_eval_SetComp]
    cases h1 : pcomp rec (emitI rec e) fr gs ρ with
    | none => rw [h1] at hp; cases hp
    | some q =>
      obtain ⟨o, b⟩ := q
      rw [h1] at hp
      cases b with
      | true => cases hp
      | false =>
        (try dsimp only at hp)
        split at hp
        · rename_i hsm
          cases hp
          exact scomp_run B ih wf ok h1 (by simpa using hsm) fun D CL s' o' x hD hC hne _ _ hns r sm => by
            rw [show o' = o from sm] at r
            exact post_set x hD hC hne ok.live hns r h
        · cases hp
  | dcomp k v gs fr sc' pos =>
    rw [pevStep] at hp
    show wpAny _ _ (eval (.DictComp k.toE v.toE (toGs gs) sc' pos) env) _ _ _
    rw [arm_eval_DictComp]
    cases h1 : pcomp rec (emit2 rec k v) fr gs ρ with
    | none => rw [h1] at hp; cases hp
    | some q =>
      obtain ⟨o, b⟩ := q
      rw [h1] at hp
      cases b with
      | true => cases hp
      | false =>
        (try dsimp only at hp)
        split at hp
        · rename_i hsm
          cases hp
          rw [Bool.and_eq_true] at hsm
          exact dcomp_run B ih wf ok h1 ⟨distinct_nodup hsm.1, small_le hsm.2⟩ fun D CL s' o' x hD hC hne _ _ hns r sm => by
            rw [show o' = o from sm] at r
            exact post_dict x hD hC hne ok.live ok.sz hns r h
        · cases hp
end
end Mine

-- part V30
namespace Mine
open PySem PySem.W PyProof.Rows

section
variable {prog : Program} {w : World} {C : Addr} {h₀ : Heap}

theorem truth_plain {sc : Scope} {l : Nat} {rec : Rho → RE → Option PV} {e : RE} (hv : SoundV prog w C h₀ sc l rec e) (hx : ∀ (env : Env) (wh : Sem Value), isTrue e.toE env wh = (do
          let v ← wh
          standAt e.toE.pos
          holding [v] (truthy v))) : SoundB prog w C h₀ sc l rec e := by
  intro A env s W ρ v b Q E ok h1 h2 h
  refine PyProof.Rows.isTrue_plain (hv A env s W ρ v ok h1 _ _ fun u s₁ x₁ hu => truthy_ok h2 hu fun s₂ x₂ => h s₂ (x₁.trans x₂)) (hx env _)

theorem stepB_ok {l : Nat} {F : Nat → List PV → Option PV} {rec : Rho → RE → Option PV} (B : Base h₀) (BC : BaseC h₀ C) (HF : FnOk prog w C h₀ l F) (ih : SoundR prog w C h₀ l rec) {sc : Scope} {e : RE} (wf : wfE sc e = true) :
    SoundB prog w C h₀ sc l (pevStep F rec) e := by
  have hv := step_ok B BC HF ih wf
  cases e with
  | bop op es pos =>
    intro A env s W ρ v b Q E ok hp ht h
    cases op with
    | And => rw [pevStep] at hp; exact andB_ok (fun e he => (ih sc e (wfEs_mem wf e he)).2) ok hp ht h
    | Or => rw [pevStep] at hp; exact orB_ok (fun e he => (ih sc e (wfEs_mem wf e he)).2) ok hp ht h
  | ite t a b' pos =>
    intro A env s W ρ v b Q E ok hp ht h
    simp only [wfE, Bool.and_eq_true] at wf
    rw [pevStep] at hp
    cases h1 : rec ρ t with
    | none => rw [h1] at hp; cases hp
    | some x =>
      rw [h1] at hp; (try dsimp only at hp)
      cases h2 : truth x with
      | none => rw [h2] at hp; cases hp
      | some c =>
        rw [h2] at hp; (try dsimp only at hp)
        refine PyProof.Rows.isTrue_IfExp ((ih sc t wf.1.1).2 A env s W ρ x c _ _ ok h1 h2 fun s₁ x₁ => ?_)
        cases c with
        | true => simp only [if_true]; exact (ih sc a wf.1.2).2 A env s₁ W ρ v b _ _ (ok.ext x₁) hp ht fun s₂ x₂ => h s₂ (x₁.trans x₂)
        | false => simp only [Bool.false_eq_true, if_false]; exact (ih sc b' wf.2).2 A env s₁ W ρ v b _ _ (ok.ext x₁) hp ht fun s₂ x₂ => h s₂ (x₁.trans x₂)
  | cmp op a b' pos =>
    intro A env s W ρ p b Q E ok hp ht h
    simp only [wfE, Bool.and_eq_true] at wf
    rw [pevStep] at hp
    cases h1 : rec ρ a with
    | none => rw [h1] at hp; cases hp
    | some x =>
      rw [h1] at hp; (try dsimp only at hp)
      cases h2 : rec ρ b' with
      | none => rw [h2] at hp; cases hp
      | some y =>
        rw [h2] at hp; (try dsimp only at hp)
        refine wpAny_isTrue_Compare1 ((ih sc a wf.1).1 A env s W ρ x ok h1 _ _ fun v s₁ x₁ hv => (ih sc b' wf.2).1 A env s₁ W ρ y (ok.ext x₁) h2 _ _ fun u s₂ x₂ hu => ?_) (behind_toE op b')
        have ok₂ := ((ok.ext x₁).ext x₂).h
        exact cmp_ok hp (ok₂.booked B) ok₂.units (hv.ext x₂) hu fun r s₃ x₃ hr => truthy_ok ht hr fun s₄ x₄ => h s₄ (x₁.trans (x₂.trans (x₃.trans x₄)))
  | _ => exact truth_plain hv fun _ _ => rfl

/-- the evaluator is sound -/
theorem pev_sound {l : Nat} {F : Nat → List PV → Option PV} (B : Base h₀) (BC : BaseC h₀ C) (HF : FnOk prog w C h₀ l F) : ∀ n, SoundR prog w C h₀ l (pev F n)
  | 0 => fun sc e _ => ⟨fun A env s W ρ p _ hp => (nomatch hp), fun A env s W ρ v b Q E _ hp => (nomatch hp)⟩
  | n + 1 => fun sc e wf => ⟨step_ok B BC HF (pev_sound B BC HF n) wf, stepB_ok B BC HF (pev_sound B BC HF n) wf⟩
end
end Mine

-- part V31
namespace Mine
open PySem PySem.W PyProof.Rows

/-- what a frame alone holds and writes -/
inductive Own where
  | lst (l : List PV)
  | dct (ks : List Int) (vs : List PV)
abbrev Sig := List (Nat × Own)
def Own.tree : Own → PV
  | .lst l => .lst l
  | .dct ks vs => .dct ks vs

/-- statements -/
inductive RS where
  | asg (x : Nat) (px : Pos) (e : RE) (p : Pos)
  | asgC (x : Nat) (px : Pos) (e : RE) (p : Pos)
  | own (x : Nat) (px : Pos) (e : RE) (p : Pos)
  | ownD (x : Nat) (px dp p : Pos)
  | copy (x : Nat) (px : Pos) (y : RE) (slp sp p : Pos)
  | tup2 (x : Nat) (px : Pos) (y : Nat) (py : Pos) (k : Nat) (tp : Pos) (e : RE) (p : Pos)
  | aug (x : Nat) (px : Pos) (op : Operator) (e : RE) (p : Pos)
  | ifs (t : RE) (b o : List RS) (p : Pos)
  | whl (t : RE) (b : List RS) (p : Pos)
  | for_ (t : RT) (it : RI) (b : List RS) (p : Pos)
  | forO (x : Nat) (px : Pos) (y : Nat) (py : Pos) (b : List RS) (p : Pos)
  | ret (e : RE) (p : Pos)
  | retO (x : Nat) (px p : Pos)
  | app (x : Nat) (px ap : Pos) (e : RE) (cp p : Pos)
  | ext (x : Nat) (px ap : Pos) (y : Nat) (py yp yc : Pos) (z : Int) (zk : Nat) (zp : Pos) (c : RE) (bp cp p : Pos)
  | pop0 (x : Nat) (px ap : Pos) (z : Int) (zk : Nat) (zp cp p : Pos)
  | popA (y : Nat) (py : Pos) (x : Nat) (px ap cp p : Pos)
  | sort (x : Nat) (px ap cp p : Pos)
  | put (x : Nat) (px : Pos) (i e : RE) (sp p : Pos)
  | inc (x : Nat) (px : Pos) (i : RE) (op : Operator) (e : RE) (sp p : Pos)
  | cont (p : Pos)
  | raw (s : Stmt)

mutual
def RS.toS : RS → Stmt
  | .asg x px e p => .Assign [.Name (nmS x) px] e.toE p
  | .asgC x px e p => .Assign [.Name (nmS x) px] e.toE p
  | .own x px e p => .Assign [.Name (nmS x) px] e.toE p
  | .ownD x px dp p => .Assign [.Name (nmS x) px] (.Dict [] [] dp) p
  | .copy x px y slp sp p => .Assign [.Name (nmS x) px] (.Subscript y.toE (.Slice none none none slp) sp) p
  | .tup2 x px y py k tp e p => .Assign [.Tuple [.Name (nmS x) px, .Name (nmS y) py] k tp] e.toE p
  | .aug x px op e p => .AugAssign (.Name (nmS x) px) op e.toE p
  | .ifs t b o p => .If t.toE (toSs b) (toSs o) p
  | .whl t b p => .While t.toE (toSs b) [] p
  | .for_ t it b p => .For t.toE it.toE (toSs b) [] p
  | .forO x px y py b p => .For (.Name (nmS x) px) (.Name (nmS y) py) (toSs b) [] p
  | .ret e p => .Return (some e.toE) p
  | .retO x px p => .Return (some (.Name (nmS x) px)) p
  | .app x px ap e cp p => .Expr (.Call (.Attribute (.Name (nmS x) px) "append" ap) [e.toE] [] cp) p
  | .ext x px ap y py yp yc z zk zp c bp cp p =>
    .Expr (.Call (.Attribute (.Name (nmS x) px) "extend" ap) [.BinOp (.Call (.Attribute (.Name (nmS y) py) "pop" yp) [.Constant (.int z) zk zp] [] yc) .Mult c.toE bp] [] cp) p
  | .pop0 x px ap z zk zp cp p => .Expr (.Call (.Attribute (.Name (nmS x) px) "pop" ap) [.Constant (.int z) zk zp] [] cp) p
  | .popA y py x px ap cp p => .Assign [.Name (nmS y) py] (.Call (.Attribute (.Name (nmS x) px) "pop" ap) [] [] cp) p
  | .sort x px ap cp p => .Expr (.Call (.Attribute (.Name (nmS x) px) "sort" ap) [] [] cp) p
  | .put x px i e sp p => .Assign [.Subscript (.Name (nmS x) px) i.toE sp] e.toE p
  | .inc x px i op e sp p => .AugAssign (.Subscript (.Name (nmS x) px) i.toE sp) op e.toE p
  | .cont p => .Continue p
  | .raw s => s
def toSs : List RS → List Stmt
  | [] => []
  | s :: r => s.toS :: toSs r
end

inductive Fl where
  | next
  | cont
  | ret (p : PV)

def treesOf (σ : Sig) : Rho := σ.map fun p => (p.1, p.2.tree)
def lookO : Sig → Nat → Option Own
  | [], _ => none
  | (y, o) :: r, x => match Nat.beq y x with
    | true => some o
    | false => lookO r x
def setO : Sig → Nat → Own → Sig
  | [], _, _ => []
  | (y, o) :: r, x, o' => match Nat.beq y x with
    | true => (y, o') :: r
    | false => (y, o) :: setO r x o'
def delO : Sig → Nat → Sig
  | [], _ => []
  | (y, o) :: r, x => match Nat.beq y x with
    | true => r
    | false => (y, o) :: delO r x
def delR : Rho → Nat → Rho
  | [], _ => []
  | (y, p) :: r, x => match Nat.beq y x with
    | true => delR r x
    | false => (y, p) :: delR r x
/-- no heap in it -/
def scalar : PV → Bool
  | .none => true
  | .bool _ => true
  | .int _ => true
  | .flt _ => true
  | .str _ => true
  | _ => false

section
variable (F : Nat → List PV → Option PV)
/-- an expression's value: with the trees alone, or, a scalar, with the owned things as trees too -/
def evM (n : Nat) (ρ : Rho) (σ : Sig) (e : RE) : Option PV := match pev F n ρ e with
  | some p => some p
  | none => match pev F n (treesOf σ ++ ρ) e with
    | some p => match scalar p with
      | true => some p
      | false => none
    | none => none
def evT (n : Nat) (ρ : Rho) (σ : Sig) (e : RE) : Option Bool := match pev F n (treesOf σ ++ ρ) e with
  | some p => truth p
  | none => none

def paug (op : Operator) (x y : PV) : Option PV := match op, x, y with
  | .Add, .int a, .int b => some (.int (a + b))
  | .Sub, .int a, .int b => some (.int (a - b))
  | .Add, .flt a, .flt b => some (.flt (Float64.add a b))
  | _, _, _ => none
def insI (a : Int) : List Int → List Int
  | [] => [a]
  | b :: l => match decide (a ≤ b) with
    | true => a :: b :: l
    | false => b :: insI a l
def sortI : List Int → List Int
  | [] => []
  | a :: l => insI a (sortI l)
def putAt : List PV → Nat → PV → List PV
  | [], _, _ => []
  | _ :: l, 0, v => v :: l
  | a :: l, n + 1, v => a :: putAt l n v

/-- the place that an index means -/
def placeOf (len : Nat) (i : Int) : Option Nat := match decide (0 ≤ i) && decide (i < len) with
  | true => some i.toNat
  | false => match decide (i < 0) && decide (-(len : Int) ≤ i) with
    | true => some (i + len).toNat
    | false => none

/-- bound anew -/
def setT (t : RT) (v : PV) (ρ : Rho) : Option Rho := match t with
  | .nm x _ => some ((x, v) :: delR ρ x)
  | .tp x _ y _ _ _ => match v with
    | .tup [p, q] => some ((y, q) :: (x, p) :: delR (delR ρ x) y)
    | _ => none
def freeT (t : RT) (σ : Sig) : Bool := t.names.all fun x => (lookO σ x).isNone

def pairsB : List PV → Bool
  | [] => true
  | .tup [_, _] :: l => pairsB l
  | _ => false
def sameNm (σ σ' : Sig) : Bool := σ.map (·.1) == σ'.map (·.1)
mutual
def x1 : Nat → Rho → Sig → RS → Option (Rho × Sig × Fl)
  | 0, _, _, _ => none
  | n + 1, ρ, σ, s => match s with
    | .asg x _ e _ => match lookO σ x with
      | some _ => none
      | none => match evM F n ρ σ e with
        | some p => some ((x, p) :: delR ρ x, σ, .next)
        | none => none
    | .asgC x _ e _ => match lookO σ x with
      | some _ => none
      | none => match pev F n ρ e with
        | some p => some ((x, p) :: delR ρ x, σ, .next)
        | none => none
    | .own x _ e _ => match lookO σ x with
      | some _ => none
      | none => match pev F n ρ e with
        | some (.lst l) => match l.all scalar with
          | true => some (delR ρ x, (x, .lst l) :: σ, .next)
          | false => none
        | _ => none
    | .ownD x _ _ _ => match lookO σ x with
      | some _ => none
      | none => some (delR ρ x, (x, .dct [] []) :: σ, .next)
    | .copy x _ y _ _ _ => match lookO σ x with
      | some _ => none
      | none => match pev F n ρ y with
        | some (.lst l) => match small l && l.all scalar with
          | true => some (delR ρ x, (x, .lst l) :: σ, .next)
          | false => none
        | _ => none
    | .tup2 _ _ _ _ _ _ _ _ => none
    | .aug x _ op e _ => match look ρ x with
      | some p => match scalar p with
        | false => none
        | true => match evM F n ρ σ e with
          | some q => match scalar q with
            | false => none
            | true => match paug op p q with
              | some r => some ((x, r) :: delR ρ x, σ, .next)
              | none => none
          | none => none
      | none => none
    | .ifs t b o _ => match evT F n ρ σ t with
      | some true => xs n ρ σ b
      | some false => xs n ρ σ o
      | none => none
    | .whl t b _ => wl n ρ σ t b
    | .for_ t it b _ => match freeT t σ with
      | false => none
      | true => match pitems (pev F n) ρ it with
        | some (vs, false) => match !t.isPair || pairsB vs with
          | true => fl n ρ σ t b vs
          | false => none
        | _ => none
    | .forO x _ y _ b _ => match lookO σ x with
      | some _ => none
      | none => fo n ρ σ x y b 0
    | .ret e _ => match evM F n ρ σ e with
      | some p => some (ρ, σ, .ret p)
      | none => none
    | .retO x _ _ => match lookO σ x with
      | some o => some (ρ, σ, .ret o.tree)
      | none => none
    | .app x _ _ e _ _ => match lookO σ x with
      | some (.lst l) => match evM F n ρ σ e with
        | some p => match small l with
          | true => some (ρ, setO σ x (.lst (l ++ [p])), .next)
          | false => none
        | none => none
      | _ => none
    | .ext x _ _ y _ _ _ z _ _ c _ _ _ => match Nat.beq x y || z != 0 with
      | true => none
      | false => match lookO σ x with
        | some (.lst l) => match lookO σ y with
          | some (.lst (.int a :: r)) => match pev F n ρ c with
            | some (.lst [q]) => match decide (0 ≤ a) && decide (a ≤ 100) && small l && small r with
              | true => some (ρ, setO (setO σ y (.lst r)) x (.lst (l ++ List.replicate a.toNat q)), .next)
              | false => none
            | _ => none
          | _ => none
        | _ => none
    | .pop0 x _ _ z _ _ _ _ => match z != 0 with
      | true => none
      | false => match lookO σ x with
        | some (.lst (q :: r)) => match small (q :: r) with
          | true => some (ρ, setO σ x (.lst r), .next)
          | false => none
        | _ => none
    | .popA y _ x _ _ _ _ => match lookO σ y with
      | some _ => none
      | none => match lookO σ x with
        | some (.lst l) => match l.getLast? with
          | some q => match small l with
            | true => some ((y, q) :: delR ρ y, setO σ x (.lst l.dropLast), .next)
            | false => none
          | none => none
        | _ => none
    | .sort x _ _ _ _ => match lookO σ x with
      | some (.lst l) => match allInt l with
        | some is => match decide (l.length < 64) with
          | true => some (ρ, setO σ x (.lst ((sortI is).map .int)), .next)
          | false => none
        | none => none
      | _ => none
    | .put x _ i e _ _ => match evM F n ρ σ e with
      | some p => match evM F n ρ σ i with
        | some (.int j) => match lookO σ x with
          | some (.lst l) => match placeOf l.length j with
            | some k => match small l with
              | true => some (ρ, setO σ x (.lst (putAt l k p)), .next)
              | false => none
            | none => none
          | some (.dct ks vs) => match ks.contains j || !small ks with
            | true => none
            | false => some (ρ, setO σ x (.dct (ks ++ [j]) (vs ++ [p])), .next)
          | none => none
        | _ => none
      | none => none
    | .inc x _ i op e _ _ => match evM F n ρ σ i with
      | some (.int j) => match lookO σ x with
        | some (.lst l) => match placeOf l.length j with
          | some k => match l[k]? with
            | some p => match scalar p && small l with
              | false => none
              | true => match evM F n ρ σ e with
                | some q => match scalar q with
                  | false => none
                  | true => match paug op p q with
                    | some r => some (ρ, setO σ x (.lst (putAt l k r)), .next)
                    | none => none
                | none => none
            | none => none
          | none => none
        | _ => none
      | _ => none
    | .cont _ => some (ρ, σ, .cont)
    | .raw _ => none
def xs : Nat → Rho → Sig → List RS → Option (Rho × Sig × Fl)
  | 0, _, _, _ => none
  | _ + 1, ρ, σ, [] => some (ρ, σ, .next)
  | n + 1, ρ, σ, s :: r => match x1 n ρ σ s with
    | some (ρ', σ', .next) => xs n ρ' σ' r
    | some q => some q
    | none => none
def wl : Nat → Rho → Sig → RE → List RS → Option (Rho × Sig × Fl)
  | 0, _, _, _, _ => none
  | n + 1, ρ, σ, t, b => match evT F n ρ σ t with
    | some true => match xs n ρ σ b with
      | some (ρ', σ', .ret p) => some (ρ', σ', .ret p)
      | some (ρ', σ', _) => match sameNm σ σ' with
        | true => wl n ρ' σ' t b
        | false => none
      | none => none
    | some false => some (ρ, σ, .next)
    | none => none
def fl : Nat → Rho → Sig → RT → List RS → List PV → Option (Rho × Sig × Fl)
  | 0, _, _, _, _, _ => none
  | _ + 1, ρ, σ, _, _, [] => some (ρ, σ, .next)
  | n + 1, ρ, σ, t, b, v :: r => match setT t v ρ with
    | some ρ₁ => match xs n ρ₁ σ b with
      | some (ρ', σ', .ret p) => some (ρ', σ', .ret p)
      | some (ρ', σ', _) => match sameNm σ σ' with
        | true => fl n ρ' σ' t b r
        | false => none
      | none => none
    | none => none
def fo : Nat → Rho → Sig → Nat → Nat → List RS → Nat → Option (Rho × Sig × Fl)
  | 0, _, _, _, _, _, _ => none
  | n + 1, ρ, σ, x, y, b, i => match lookO σ y with
    | some (.lst l) => match l[i]? with
      | some v => match scalar v with
        | false => none
        | true => match xs n ((x, v) :: delR ρ x) σ b with
          | some (ρ', σ', .ret p) => some (ρ', σ', .ret p)
          | some (ρ', σ', _) => match sameNm σ σ' with
            | true => fo n ρ' σ' x y b (i + 1)
            | false => none
          | none => none
      | none => some (ρ, σ, .next)
    | _ => none
end
end
end Mine

-- part V32
namespace Mine
open PySem PySem.W PyProof.Rows

section
variable (prog : Program) (w : World) (C : Addr) (h₀ : Heap)

def OwnAt (h : Heap) (W : List Addr) : Own → Addr → Prop
  | .lst l, a => ∃ vs, h.PlainList a vs.toArray ∧ VRs prog w C h W l vs
  | .dct ks ps, a => ∃ vs, h.DictOf (intKind prog w) a (ks.zip vs) ∧ ks.length = vs.length ∧ VRs prog w C h W ps vs ∧ (a == sysModules) = false
def Owns (s : Shared) (env : Env) (W : List Addr) : Sig → List Addr → Prop
  | [], as => as = []
  | (x, o) :: σ, as => ∃ a r, as = a :: r ∧ Look s env (nmS x) (.ref a) ∧ OwnAt prog w C s.heap W o a ∧ Owns s env W σ r

/-- a frame's standing facts -/
structure Fm (l : Nat) (sc : Scope) (A : Around) (env : Env) (T : List Nat) (N : List Addr) (s : Shared) (ρ : Rho) (σ : Sig) (as : List Addr) : Prop where
  ok : Ok prog w C h₀ l sc A env s (N ++ as) ρ
  inN : EnvIn env N
  own : Owns prog w C s env (N ++ as) σ as
  nd : as.Nodup
  sep : ∀ a ∈ as, a ∉ N
  nm : ∀ x ∈ σ.map (·.1), x < nmTab.length ∧ look ρ x = none
  dup : (σ.map (·.1)).Nodup
  can : ∀ y ∈ T, CanStore s env (nmS y) ∧ y < nmTab.length
end

section
variable {prog : Program} {w : World} {C : Addr} {h₀ : Heap}

theorem OwnAt.mono {h h' : Heap} {W W' : List Addr} {o : Own} {a : Addr} (H : OwnAt prog w C h W o a) (k : ∀ b o, b ∉ W → h.get? b = some o → h'.get? b = some o ∧ b ∉ W') (ka : ∀ o, h.get? a = some o → h'.get? a = some o) : OwnAt prog w C h' W' o a := by
  cases o with
  | lst l => obtain ⟨vs, ⟨n, hp⟩, hv⟩ := H; exact ⟨vs, ⟨n, ka _ hp⟩, VRs.mono k _ _ hv⟩
  | dct ks ps => obtain ⟨vs, hd, hl, hv, hs⟩ := H; exact ⟨vs, hd.at ka, hl, VRs.mono k _ _ hv, hs⟩
theorem OwnAt.live {h : Heap} {W : List Addr} {o : Own} {a : Addr} (H : OwnAt prog w C h W o a) : a < h.objs.size := by
  cases o with
  | lst l => obtain ⟨vs, ⟨n, hp⟩, hv⟩ := H; exact Heap.lt_size hp
  | dct ks ps =>
    obtain ⟨vs, hd, hl, hv, hs⟩ := H
    obtain ⟨ep, hd⟩ := hd.dictAt
    obtain ⟨o, _, ho, _⟩ := hd
    exact Heap.lt_size ho
theorem OwnAt.tree {h : Heap} {W N : List Addr} {o : Own} {a : Addr} (H : OwnAt prog w C h W o a) (hN : ∀ b ∈ N, b ∈ W) (ha : a ∉ N) : VR prog w C h N o.tree (.ref a) := by
  cases o with
  | lst l =>
    obtain ⟨vs, hp, hv⟩ := H
    exact ⟨a, vs, rfl, ha, hp, VRs.mono (fun b o hb q => ⟨q, fun hm => hb (hN b hm)⟩) _ _ hv⟩
  | dct ks ps =>
    obtain ⟨vs, hd, hl, hv, hs⟩ := H
    obtain ⟨ep, hd⟩ := hd.dictAt
    exact ⟨a, vs, ep, rfl, ha, hd, hl, VRs.mono (fun b o hb q => ⟨q, fun hm => hb (hN b hm)⟩) _ _ hv, hs⟩

theorem Owns.length {s : Shared} {env : Env} {W : List Addr} : ∀ {σ : Sig} {as : List Addr}, Owns prog w C s env W σ as → as.length = σ.length
  | [], _, H => by rw [show _ = [] from H]; rfl
  | (x, o) :: σ, _, H => by obtain ⟨a, r, rfl, _, _, hr⟩ := H; rw [List.length_cons, List.length_cons, Owns.length hr]
/-- kept: names and contents -/
theorem Owns.keep {s s' : Shared} {env : Env} {W W' : List Addr} (k : ∀ b o, b ∉ W → s.heap.get? b = some o → s'.heap.get? b = some o ∧ b ∉ W') :
    ∀ {σ : Sig} {as : List Addr}, Owns prog w C s env W σ as → (∀ a ∈ as, ∀ o, s.heap.get? a = some o → s'.heap.get? a = some o) → (∀ x ∈ σ.map (·.1), ∀ v, Look s env (nmS x) v → Look s' env (nmS x) v) → Owns prog w C s' env W' σ as
  | [], _, H, _, _ => H
  | (x, o) :: σ, _, H, ka, kl => by
    obtain ⟨a, r, rfl, lk, oa, hr⟩ := H
    exact ⟨a, r, rfl, kl x (by simp) _ lk, oa.mono k (ka a (by simp)), Owns.keep k hr (fun b hb => ka b (by simp [hb])) (fun y hy => kl y (by simp only [List.map_cons, List.mem_cons]; exact .inr hy))⟩
theorem lookO_cons (y : Nat) (o : Own) (σ : Sig) (x : Nat) : lookO ((y, o) :: σ) x = if y = x then some o else lookO σ x := by
  rw [lookO]
  cases h : Nat.beq y x with
  | true => rw [if_pos (Nat.eq_of_beq_eq_true h)]
  | false => rw [if_neg (Nat.ne_of_beq_eq_false h)]
theorem lookO_mem : ∀ {σ : Sig} {x : Nat} {o : Own}, lookO σ x = some o → x ∈ σ.map (·.1)
  | [], _, _, h => by simp [lookO] at h
  | (y, o') :: σ, x, o, h => by
    rw [lookO_cons] at h
    by_cases e : y = x
    · simp [e]
    · rw [if_neg e] at h
      simp only [List.map_cons, List.mem_cons]
      exact .inr (lookO_mem h)
theorem lookO_none : ∀ {σ : Sig} {x : Nat}, lookO σ x = none → x ∉ σ.map (·.1)
  | [], _, _ => by simp
  | (y, o') :: σ, x, h => by
    rw [lookO_cons] at h
    by_cases e : y = x
    · rw [if_pos e] at h; cases h
    · rw [if_neg e] at h
      simp only [List.map_cons, List.mem_cons, not_or]
      exact ⟨fun q => e q.symm, lookO_none h⟩
theorem Owns.get {s : Shared} {env : Env} {W : List Addr} : ∀ {σ : Sig} {as : List Addr} {x : Nat} {o : Own}, Owns prog w C s env W σ as → lookO σ x = some o → ∃ a ∈ as, Look s env (nmS x) (.ref a) ∧ OwnAt prog w C s.heap W o a
  | [], _, _, _, _, h => by simp [lookO] at h
  | (y, o') :: σ, _, x, o, H, h => by
    obtain ⟨a, r, rfl, lk, oa, hr⟩ := H
    rw [lookO_cons] at h
    by_cases e : y = x
    · rw [if_pos e] at h; cases h; subst e; exact ⟨a, by simp, lk, oa⟩
    · rw [if_neg e] at h
      obtain ⟨b, hb, h1, h2⟩ := Owns.get hr h
      exact ⟨b, by simp [hb], h1, h2⟩
theorem setO_names : ∀ (σ : Sig) (x : Nat) (o : Own), (setO σ x o).map (·.1) = σ.map (·.1)
  | [], _, _ => rfl
  | (y, o') :: σ, x, o => by
    rw [setO]
    cases Nat.beq y x with
    | true => rfl
    | false => simp [setO_names σ x o]
theorem setO_cons (y : Nat) (o' : Own) (σ : Sig) (x : Nat) (o : Own) : setO ((y, o') :: σ) x o = if y = x then (y, o) :: σ else (y, o') :: setO σ x o := by
  rw [setO]
  cases h : Nat.beq y x with
  | true => rw [if_pos (Nat.eq_of_beq_eq_true h)]
  | false => rw [if_neg (Nat.ne_of_beq_eq_false h)]
theorem lookO_setO : ∀ {σ : Sig} {x y : Nat} {o : Own}, x ≠ y → lookO (setO σ x o) y = lookO σ y
  | [], _, _, _, _ => rfl
  | (z, o') :: σ, x, y, o, h => by
    rw [setO_cons]
    by_cases e : z = x
    · rw [if_pos e, lookO_cons, lookO_cons, if_neg (by rw [e]; exact h), if_neg (by rw [e]; exact h)]
    · rw [if_neg e, lookO_cons, lookO_cons, lookO_setO h]

/-- one owned thing's address, and how to write there -/
theorem Owns.at {s : Shared} {env : Env} {W : List Addr} : ∀ {σ : Sig} {as : List Addr} {x : Nat} {o : Own}, Owns prog w C s env W σ as → as.Nodup → lookO σ x = some o →
    ∃ a ∈ as, Look s env (nmS x) (.ref a) ∧ OwnAt prog w C s.heap W o a ∧
      ∀ (s' : Shared) (o' : Own), (∀ b o, b ∉ [a] → s.heap.get? b = some o → s'.heap.get? b = some o) → a ∈ W → (∀ y v, Look s env y v → Look s' env y v) → OwnAt prog w C s'.heap W o' a → Owns prog w C s' env W (setO σ x o') as
  | [], _, _, _, _, _, h => by simp [lookO] at h
  | (y, oy) :: σ, _, x, o, H, nd, h => by
    obtain ⟨a, r, rfl, lk, oa, hr⟩ := H
    obtain ⟨nd1, nd2⟩ := List.nodup_cons.mp nd
    rw [lookO_cons] at h
    by_cases e : y = x
    · rw [if_pos e] at h; cases h; subst e
      refine ⟨a, by simp, lk, oa, fun s' o' k haW kl h' => ?_⟩
      rw [setO_cons, if_pos rfl]
      refine ⟨a, r, rfl, kl _ _ lk, h', Owns.keep (fun b o hb q => ⟨k b o (fun hm => hb (by rw [List.mem_singleton] at hm; rw [hm]; exact haW)) q, hb⟩) hr (fun b hb o q => k b o (fun hm => nd1 (by rw [List.mem_singleton] at hm; rw [← hm]; exact hb)) q) fun x _ v l => kl _ _ l⟩
    · rw [if_neg e] at h
      obtain ⟨b, hb, h1, h2, h3⟩ := Owns.at hr nd2 h
      refine ⟨b, by simp [hb], h1, h2, fun s' o' k haW kl h' => ?_⟩
      rw [setO_cons, if_neg e]
      have hab : a ≠ b := fun q => nd1 (by rw [q]; exact hb)
      exact ⟨a, r, rfl, kl _ _ lk, oa.mono (fun c o hc q => ⟨k c o (fun hm => hc (by rw [List.mem_singleton] at hm; rw [hm]; exact haW)) q, hc⟩) (fun o q => k a o (by simpa using hab) q), h3 s' o' k haW kl h'⟩
end
end Mine

-- part V33
namespace Mine
open PySem PySem.W PyProof.Rows

theorem delR_look : ∀ (ρ : Rho) (x y : Nat), look (delR ρ x) y = if y = x then none else look ρ y
  | [], x, y => by simp [delR, look]
  | (z, p) :: ρ, x, y => by
    have ih := delR_look ρ x y
    rw [delR]
    cases h : Nat.beq z x with
    | true =>
      have e := Nat.eq_of_beq_eq_true h
      dsimp only
      rw [ih, look_cons]
      by_cases hy : y = x
      · rw [if_pos hy, if_pos hy]
      · rw [if_neg hy, if_neg hy, if_neg (by rw [e]; exact fun q => hy q.symm)]
    | false =>
      have e := Nat.ne_of_beq_eq_false h
      dsimp only
      rw [look_cons, look_cons, ih]
      by_cases hz : z = y
      · rw [if_pos hz, if_pos hz, if_neg (by rw [← hz]; exact e)]
      · rw [if_neg hz, if_neg hz]

theorem look_append : ∀ (a b : Rho) (x : Nat), look (a ++ b) x = match look a x with | some p => some p | none => look b x
  | [], b, x => rfl
  | (y, p) :: a, b, x => by
    rw [List.cons_append, look_cons, look_cons]
    by_cases h : y = x
    · rw [if_pos h, if_pos h]
    · rw [if_neg h, if_neg h]; exact look_append a b x
theorem look_trees : ∀ {σ : Sig} {x : Nat} {p : PV}, look (treesOf σ) x = some p → ∃ o, lookO σ x = some o ∧ p = o.tree
  | [], _, _, h => by simp [treesOf, look] at h
  | (y, o) :: σ, x, p, h => by
    show _
    have h' : look ((y, o.tree) :: treesOf σ) x = some p := h
    rw [look_cons] at h'
    rw [lookO_cons]
    by_cases e : y = x
    · rw [if_pos e] at h' ⊢; cases h'; exact ⟨o, rfl, rfl⟩
    · rw [if_neg e] at h' ⊢; exact look_trees h'

theorem Look.uniq {s : Shared} {env : Env} {x : Str} {v v' : Value} (a : Look s env x v) (b : Look s env x v') : v = v' := by
  rcases a with ⟨a1, m, hn, hm⟩ | ⟨a1, c, hc, o, ho, hd⟩ <;> rcases b with ⟨b1, m', hn', hm'⟩ | ⟨b1, c', hc', o', ho', hd'⟩
  · have := Ns.uniq hn hn' x
    rw [hm, hm'] at this; cases this; rfl
  · exact (cellish_not_local b1 a1).elim
  · exact (cellish_not_local a1 b1).elim
  · rw [hc] at hc'; cases hc'
    rw [ho] at ho'; cases ho'
    rw [hd] at hd'; cases hd'; rfl

section
variable {prog : Program} {w : World} {C : Addr} {h₀ : Heap}
variable {l : Nat} {sc : Scope} {A : Around} {env : Env} {T : List Nat} {N : List Addr} {s s' : Shared} {ρ : Rho} {σ : Sig} {as : List Addr}

theorem Fm.ext (H : Fm prog w C h₀ l sc A env T N s ρ σ as) (x : Ext [] s s') : Fm prog w C h₀ l sc A env T N s' ρ σ as where
  ok := H.ok.ext x
  inN := H.inN
  own := Owns.keep (fun b o hb q => ⟨x.keep b o (by simp) q, hb⟩) H.own (fun a _ o q => x.keep a o (by simp) q) fun y _ v lk => lk.keep fun b o q => x.keep b o (by simp) q
  nd := H.nd
  sep := H.sep
  nm := H.nm
  dup := H.dup
  can := fun y hy => ⟨(H.can y hy).1.keep fun b o q => x.keep b o (by simp) q, (H.can y hy).2⟩
/-- the owned things as trees -/
theorem Fm.ok2 (H : Fm prog w C h₀ l sc A env T N s ρ σ as) : Ok prog w C h₀ l sc A env s N (treesOf σ ++ ρ) where
  a := H.ok.a
  e := H.ok.e
  old := H.ok.old
  tk := H.ok.tk
  live := fun b hb => H.ok.live b (List.mem_append_left _ hb)
  base := fun b hb => H.ok.base b (List.mem_append_left _ hb)
  inW := H.inN
  sz := H.ok.sz
  rho := fun x p h => by
    rw [look_append] at h
    cases ht : look (treesOf σ) x with
    | some q =>
      rw [ht] at h; cases h
      obtain ⟨o, ho, rfl⟩ := look_trees ht
      obtain ⟨a, ha, lk, oa⟩ := H.own.get ho
      exact ⟨_, lk, oa.tree (fun b hb => List.mem_append_left _ hb) (H.sep a ha)⟩
    | none =>
      rw [ht] at h
      obtain ⟨v, lk, hv⟩ := H.ok.rho x p h
      exact ⟨v, lk, VR.mono (fun b o hb q => ⟨q, fun hm => hb (List.mem_append_left _ hm)⟩) _ _ hv⟩

theorem scalar_any {h h' : Heap} {W W' : List Addr} {p : PV} {v : Value} (hs : scalar p = true) (H : VR prog w C h W p v) : VR prog w C h' W' p v := by
  cases p with
  | none => exact H
  | bool b => exact H
  | int i => exact H
  | flt x => exact H
  | str x => exact H
  | _ => cases hs

theorem evM_ok {F : Nat → List PV → Option PV} {n : Nat} {e : RE} {p : PV} {E Q : Value → Shared → Prop} (SR : SoundR prog w C h₀ l (pev F n)) (wf : wfE sc e = true) (H : Fm prog w C h₀ l sc A env T N s ρ σ as) (hp : evM F n ρ σ e = some p)
    (h : ∀ v s', Ext [] s s' → VR prog w C s'.heap (N ++ as) p v → Q v s') : wpAny (model prog w) A (eval e.toE env) Q E s := by
  unfold evM at hp
  cases h1 : pev F n ρ e with
  | some q => rw [h1] at hp; cases hp; exact (SR sc e wf).1 A env s _ ρ p H.ok h1 _ _ h
  | none =>
    rw [h1] at hp; (try dsimp only at hp)
    cases h2 : pev F n (treesOf σ ++ ρ) e with
    | none => rw [h2] at hp; cases hp
    | some q =>
      rw [h2] at hp; (try dsimp only at hp)
      split at hp
      · rename_i hs
        cases hp
        exact (SR sc e wf).1 A env s _ _ p H.ok2 h2 _ _ fun v s' x hv => h v s' x (scalar_any hs hv)
      · cases hp
theorem evT_ok {F : Nat → List PV → Option PV} {n : Nat} {e : RE} {b : Bool} {E : Value → Shared → Prop} {Q : Bool → Shared → Prop} (SR : SoundR prog w C h₀ l (pev F n)) (wf : wfE sc e = true) (H : Fm prog w C h₀ l sc A env T N s ρ σ as) (hp : evT F n ρ σ e = some b)
    (h : ∀ s', Ext [] s s' → Q b s') : wpAny (model prog w) A (isTrue e.toE env (eval e.toE env)) Q E s := by
  unfold evT at hp
  cases h2 : pev F n (treesOf σ ++ ρ) e with
  | none => rw [h2] at hp; cases hp
  | some q => rw [h2] at hp; exact (SR sc e wf).2 A env s _ _ q b _ _ H.ok2 h2 hp h

/-- a name bound to a tree -/
theorem Fm.store {x : Nat} {p : PV} {v : Value} (H : Fm prog w C h₀ l sc A env T N s ρ σ as) (hx : x ∈ T) (ho : lookO σ x = none) (hv : VR prog w C s'.heap (N ++ as) p v) (m : Mv env [nmS x] [wat env (nmS x)] s s') (lk : Look s' env (nmS x) v) :
    Fm prog w C h₀ l sc A env T N s' ((x, p) :: delR ρ x) σ as := by
  obtain ⟨cx, hlt⟩ := H.can x hx
  have hw : ∀ b ∈ [wat env (nmS x)], b ∈ N := by intro b hb; rw [List.mem_singleton] at hb; rw [hb]; exact cx.watIn H.inN
  have hwW : ∀ b ∈ [wat env (nmS x)], b ∈ N ++ as := fun b hb => List.mem_append_left _ (hw b hb)
  have hne : ∀ y, y ≠ x → nmS y ∉ [nmS x] := fun y h q => by rw [List.mem_singleton] at q; exact h (nmS_inj hlt q.symm).symm
  have hasn : ∀ a ∈ as, a ∉ [wat env (nmS x)] := fun a ha q => H.sep a ha (hw a q)
  have hok : RhoOk prog w C s' env (N ++ as) ((x, p) :: delR ρ x) := by
    intro y q hy
    rw [look_cons] at hy
    by_cases e : x = y
    · rw [if_pos e] at hy; cases hy; subst e; exact ⟨v, lk, hv⟩
    · rw [if_neg e, delR_look, if_neg (fun q => e q.symm)] at hy
      obtain ⟨u, lu, hu⟩ := H.ok.rho y q hy
      exact ⟨u, m.look _ _ (hne y fun q => e q.symm) lu, hu.mv m.ext hwW⟩
  refine ⟨⟨H.ok.a, H.ok.e, fun b o q => m.ext.keep b o (fun hb => ?_) (H.ok.old b o q), Nat.lt_of_lt_of_le H.ok.tk m.ext.toks, fun b hb => Nat.lt_of_lt_of_le (H.ok.live b hb) m.ext.size, H.ok.base, H.ok.inW, Nat.lt_of_lt_of_le H.ok.sz m.ext.size, hok⟩, H.inN, ?_, H.nd, H.sep, ?_, H.dup, ?_⟩
  · rw [H.ok.base b (hwW b hb)] at q; cases q
  · refine Owns.keep (fun b o hb q => ⟨m.ext.keep b o (fun hm => hb (hwW b hm)) q, hb⟩) H.own (fun a ha o q => m.ext.keep a o (hasn a ha) q) fun y hy u lu => ?_
    refine m.look _ _ (hne y fun q => ?_) lu
    exact lookO_none ho (by rw [← q]; exact hy)
  · intro y hy
    refine ⟨(H.nm y hy).1, ?_⟩
    have hyx : x ≠ y := fun q => lookO_none ho (by rw [q]; exact hy)
    rw [look_cons, if_neg hyx, delR_look, if_neg (fun q => hyx q.symm)]
    exact (H.nm y hy).2
  · intro y hy
    exact ⟨m.can _ (H.can y hy).1, (H.can y hy).2⟩

/-- written at an owned thing -/
theorem Fm.write {x : Nat} {o : Own} (H : Fm prog w C h₀ l sc A env T N s ρ σ as) (ho : lookO σ x = some o) : ∃ a ∈ as, Look s env (nmS x) (.ref a) ∧ OwnAt prog w C s.heap (N ++ as) o a ∧
    ∀ (s' : Shared) (o' : Own), Ext [a] s s' → OwnAt prog w C s'.heap (N ++ as) o' a → Fm prog w C h₀ l sc A env T N s' ρ (setO σ x o') as := by
  obtain ⟨a, ha, lk, oa, wr⟩ := H.own.at H.nd ho
  refine ⟨a, ha, lk, oa, fun s' o' x' h' => ?_⟩
  have haW : a ∈ N ++ as := List.mem_append_right _ ha
  have hX : ∀ b ∈ [a], b ∈ N ++ as := fun b hb => by rw [List.mem_singleton] at hb; rw [hb]; exact haW
  have off : EnvOff env [a] := ⟨fun q => H.sep a ha (by rw [List.mem_singleton] at q; rw [← q]; exact H.inN.1), fun y c hc q => H.sep a ha (by rw [List.mem_singleton] at q; rw [← q]; exact H.inN.2 y c hc)⟩
  have m : Mv env [] [a] s s' := Mv.off x' off
  refine ⟨H.ok.mv m hX (fun _ _ _ q => by cases q), H.inN, wr s' o' x'.keep haW (fun y v lk => m.look y v (by simp) lk) h', H.nd, H.sep, ?_, ?_, ?_⟩
  · rw [setO_names]; exact H.nm
  · rw [setO_names]; exact H.dup
  · exact fun y hy => ⟨m.can _ (H.can y hy).1, (H.can y hy).2⟩

/-- a new owned thing, its name bound -/
theorem Fm.new {x : Nat} {o : Own} {a : Addr} (H : Fm prog w C h₀ l sc A env T N s ρ σ as) (hx : x ∈ T) (ho : lookO σ x = none) (ha : s.heap.objs.size ≤ a) (oa : OwnAt prog w C s'.heap (N ++ a :: as) o a)
    (m : Mv env [nmS x] [wat env (nmS x)] s s') (lk : Look s' env (nmS x) (.ref a)) :
    Fm prog w C h₀ l sc A env T N s' (delR ρ x) ((x, o) :: σ) (a :: as) := by
  obtain ⟨cx, hlt⟩ := H.can x hx
  have hw : ∀ b ∈ [wat env (nmS x)], b ∈ N := by intro b hb; rw [List.mem_singleton] at hb; rw [hb]; exact cx.watIn H.inN
  have hne : ∀ y, y ≠ x → nmS y ∉ [nmS x] := fun y h q => by rw [List.mem_singleton] at q; exact h (nmS_inj hlt q.symm).symm
  have hNlt : ∀ b ∈ N ++ as, b < s.heap.objs.size := H.ok.live
  have haN : a ∉ N := fun q => Nat.lt_irrefl _ (Nat.lt_of_lt_of_le (hNlt a (List.mem_append_left _ q)) ha)
  have haa : a ∉ as := fun q => Nat.lt_irrefl _ (Nat.lt_of_lt_of_le (hNlt a (List.mem_append_right _ q)) ha)
  have hwat : ∀ b ∈ as, b ∉ [wat env (nmS x)] := fun b hb q => H.sep b hb (hw b q)
  have kk : ∀ b o, b ∉ N ++ as → s.heap.get? b = some o → s'.heap.get? b = some o ∧ b ∉ N ++ a :: as := fun b o hb q => by
    refine ⟨m.ext.keep b o (fun hm => hb (List.mem_append_left _ (hw b hm))) q, fun hm => ?_⟩
    rcases List.mem_append.mp hm with h | h
    · exact hb (List.mem_append_left _ h)
    · rcases List.mem_cons.mp h with rfl | h
      · exact Nat.lt_irrefl _ (Nat.lt_of_lt_of_le (Heap.lt_size q) ha)
      · exact hb (List.mem_append_right _ h)
  refine ⟨⟨H.ok.a, H.ok.e, fun b o q => m.ext.keep b o (fun hb => ?_) (H.ok.old b o q), Nat.lt_of_lt_of_le H.ok.tk m.ext.toks, ?_, ?_, ⟨List.mem_append_left _ H.inN.1, fun y c hc => List.mem_append_left _ (H.inN.2 y c hc)⟩, Nat.lt_of_lt_of_le H.ok.sz m.ext.size, ?_⟩, H.inN, ?_, List.nodup_cons.mpr ⟨haa, H.nd⟩, ?_, ?_, ?_, ?_⟩
  · rw [H.ok.base b (List.mem_append_left _ (hw b hb))] at q; cases q
  · intro b hb
    rcases List.mem_append.mp hb with h | h
    · exact Nat.lt_of_lt_of_le (hNlt b (List.mem_append_left _ h)) m.ext.size
    · rcases List.mem_cons.mp h with rfl | h
      · exact oa.live
      · exact Nat.lt_of_lt_of_le (hNlt b (List.mem_append_right _ h)) m.ext.size
  · intro b hb
    rcases List.mem_append.mp hb with h | h
    · exact H.ok.base b (List.mem_append_left _ h)
    · rcases List.mem_cons.mp h with rfl | h
      · cases e : h₀.get? b with
        | none => rfl
        | some o => exact absurd (Heap.lt_size (H.ok.old b o e)) (Nat.not_lt.mpr ha)
      · exact H.ok.base b (List.mem_append_right _ h)
  · intro y q hy
    rw [delR_look] at hy
    by_cases e : y = x
    · rw [if_pos e] at hy; cases hy
    · rw [if_neg e] at hy
      obtain ⟨u, lu, hu⟩ := H.ok.rho y q hy
      exact ⟨u, m.look _ _ (hne y e) lu, VR.mono kk _ _ hu⟩
  · refine ⟨a, as, rfl, lk, oa, Owns.keep kk H.own (fun b hb o q => m.ext.keep b o (hwat b hb) q) fun y hy u lu => ?_⟩
    exact m.look _ _ (hne y fun q => lookO_none ho (by rw [← q]; exact hy)) lu
  · intro b hb
    rcases List.mem_cons.mp hb with rfl | hb
    · exact haN
    · exact H.sep b hb
  · intro y hy
    rcases List.mem_cons.mp hy with rfl | hy
    · exact ⟨hlt, by rw [delR_look, if_pos rfl]⟩
    · refine ⟨(H.nm y hy).1, ?_⟩
      rw [delR_look]
      split
      · rfl
      · exact (H.nm y hy).2
  · exact List.nodup_cons.mpr ⟨lookO_none ho, H.dup⟩
  · exact fun y hy => ⟨m.can _ (H.can y hy).1, (H.can y hy).2⟩

theorem flat_vrs {h h' : Heap} {W W' : List Addr} : ∀ {l : List PV} {vs : List Value}, l.all scalar = true → VRs prog w C h W l vs → VRs prog w C h' W' l vs
  | [], _, _, H => H
  | p :: l, _, hs, H => by
    obtain ⟨v, r, rfl, hv, hr⟩ := H
    simp only [List.all_cons, Bool.and_eq_true] at hs
    exact ⟨v, r, rfl, scalar_any hs.1 hv, flat_vrs hs.2 hr⟩
end
end Mine

-- part V34
namespace Mine
open PySem PySem.W PyProof.Rows

theorem mv_drop {env : Env} {T : List Str} {X N : List Addr} {s s' : Shared} (m : Mv env T (N ++ X) s s') (h : ∀ b ∈ N, s.heap.objs.size ≤ b) : Mv env T X s s' := m.drop h

section
variable {prog : Program} {w : World} {C : Addr} {h₀ : Heap}

theorem lcomp_assign {sc sc' : Scope} {l : Nat} {rec : Rho → RE → Option PV} {A : Around} {env : Env} {s : Shared} {W : List Addr} {ρ : Rho} {E : Value → Shared → Prop} {Q : Flow → Shared → Prop} {e : RE} {gs : List RG} {fr : List Nat} {pc p px : Pos} {o : List PV} {b : Bool} {x : Nat}
    (B : Base h₀) (ih : SoundR prog w C h₀ l rec) (wf : wfE sc (.lcomp e gs fr sc' pc) = true) (ok : Ok prog w C h₀ l sc A env s W ρ) (can : CanStore s env (nmS x)) (hp : pcomp rec (fun ρ' => rec ρ' e) fr gs ρ = some (o, b)) (hsm : small o = true)
    (h : ∀ s' D vs o', Mv env [nmS x] [wat env (nmS x)] s s' → Look s' env (nmS x) (.ref D) → s.heap.objs.size ≤ D → s'.heap.PlainList D vs.toArray → VRs prog w C s'.heap W o' vs → Sim b o' o → Q .next s') :
    wpAny (model prog w) A (exec (.Assign [.Name (nmS x) px] (RE.lcomp e gs fr sc' pc).toE p) env) Q E s := by
  have watlt : wat env (nmS x) < s.heap.objs.size := ok.live _ (can.watIn ok.inW)
  have watW : wat env (nmS x) ∈ W := can.watIn ok.inW
  -- the names gone: from s₂ to h'
  have fin : ∀ (D CL : Addr) (s₁ s₂ : Shared) (h' : Heap) (o' : List PV), Ext [] s s₁ → s.heap.objs.size ≤ D → s.heap.objs.size ≤ CL → D ≠ CL → (accL prog w C D).rel (CL :: W) o' s₁ → Sim b o' o → Mv env [nmS x] [wat env (nmS x)] s₁ s₂ → Look s₂ env (nmS x) (.ref D) → Heap.SameBut CL s₂.heap h' →
      Q .next { s₂ with heap := h' } := by
    intro D CL s₁ s₂ h' o' x₁ hD hC hne r sm m lk hs
    have x₃ : Ext [CL] s₂ { s₂ with heap := h' } := Ext.sameBut (Nat.le_refl _) hs
    have off : EnvOff env [CL] := ok.inW.off ok.live (fun b hb => by rw [List.mem_singleton] at hb; rw [hb]; exact hC)
    have m₃ : Mv env [nmS x] [CL] s₂ { s₂ with heap := h' } := Mv.off x₃ off
    have mall : Mv env [nmS x] ([CL] ++ [wat env (nmS x)]) s { s₂ with heap := h' } := ((Mv.of_ext x₁).trans (m.mono (by simp) (fun _ q => q))).trans (m₃.mono (by simp) (fun _ q => q))
    have hDne : D ∉ [wat env (nmS x)] ++ [CL] := fun q => by
      simp only [List.mem_append, List.mem_singleton] at q
      rcases q with q | q
      · rw [q] at hD; exact Nat.lt_irrefl _ (Nat.lt_of_lt_of_le watlt hD)
      · exact hne q
    have m12 : Ext ([wat env (nmS x)] ++ [CL]) s₁ { s₂ with heap := h' } := (m.ext.mono (by simp)).trans (x₃.mono (by simp))
    obtain ⟨vs, ⟨n, hp⟩, hv⟩ := r
    refine h _ D vs o' (mall.drop fun b hb => by rw [List.mem_singleton] at hb; rw [hb]; exact hC) (lk.off off x₃.keep) hD ⟨n, m12.keep D _ hDne hp⟩ (VRs.mono (fun b o hb q => ⟨m12.keep b o (fun hm => hb ?_) q, fun hm => hb (by simp [hm])⟩) _ _ hv) sm
    simp only [List.mem_append, List.mem_singleton] at hm
    rcases hm with rfl | rfl
    · simp [watW]
    · simp
  have hsw : swapsWith (RE.lcomp e gs fr sc' pc).toE (some (.Name (nmS x) px)) p.line env = pure (env.blockKind == .function && env.kindOf (nmS x) == some .local && px.line == pc.line
      && !(sc'.names.any fun (n, k) => n == nmS x && (k == .local || k == .cell))) := rfl
  cases hb : (env.blockKind == .function && env.kindOf (nmS x) == some .local && px.line == pc.line && !(sc'.names.any fun (n, k) => n == nmS x && (k == .local || k == .cell))) with
  | true =>
    rw [hb] at hsw
    rw [exec_Assign_Name_used _ _ _ _ hsw]
    refine wpAny_bind (wpAny_standAt (wpAny_bind ?_))
    show wpAny _ A (do let _ ← comprehension (RE.lcomp e gs fr sc' pc).toE sc' env _ (newList []) (firstAsync (toGs gs)) (firstIter (toGs gs) env) (some (assign (.Name (nmS x) px) env))) _ _ s
    refine wpAny_bind (wpAny_mono (lcomp_run (use := some (assign (.Name (nmS x) px) env)) (Q := fun _ s' => Q .next s') B ih wf ok hp hsm fun D CL s₁ o' x₁ hD hC hne _ hCl hns r sm => ?_) (fun _ s' hq => wpAny_pure (wpAny_pure hq)) fun _ _ q => q)
    obtain ⟨m₀, hns⟩ := hns
    have can₁ := can.keep fun b o q => x₁.keep b o (by simp) q
    refine wpAny_assign_Name (store_ok ok.e can₁ fun s₂ m lk => ?_)
    have hCw : CL ∉ [wat env (nmS x)] := fun q => by rw [List.mem_singleton] at q; rw [q] at hC; exact Nat.lt_irrefl _ (Nat.lt_of_lt_of_le watlt hC)
    exact ⟨m₀, hns.at' fun o q => m.ext.keep CL o hCw q, fun h' hs => fin D CL s₁ s₂ h' o' x₁ hD hC hne r sm m lk hs⟩
  | false =>
    rw [hb] at hsw
    refine wpAny_Assign_Name ?_ hsw
    show wpAny _ _ (eval (.ListComp e.toE (toGs gs) sc' pc) env) _ _ _
    rw [eval_ListComp]
    refine lcomp_run (use := none) B ih wf ok hp hsm fun D CL s₁ o' x₁ hD hC hne hDl _ hns r sm => ?_
    obtain ⟨m₀, hns⟩ := hns
    refine ⟨m₀, hns, fun h' hs => ?_⟩
    have x₂ : Ext [CL] s₁ { s₁ with heap := h' } := Ext.sameBut (Nat.le_refl _) hs
    have x₃ : Ext [] s { s₁ with heap := h' } := Ext.drop (N := [CL]) (X := []) (by rw [List.append_nil]; exact (x₁.mono (by simp)).trans x₂) (fun b hb => by rw [List.mem_singleton] at hb; rw [hb]; exact hC)
    obtain ⟨vs, ⟨n, hpl⟩, hv⟩ := r
    have can₁ := can.keep fun b o q => x₃.keep b o (by simp) q
    refine store_ok ok.e can₁ fun s₂ m lk => ?_
    have hDne : D ∉ [wat env (nmS x)] := fun q => by rw [List.mem_singleton] at q; rw [q] at hD; exact Nat.lt_irrefl _ (Nat.lt_of_lt_of_le watlt hD)
    have hv' : VRs prog w C h' W o' vs := VRs.mono (fun b o hb q => ⟨x₂.keep b o (fun hm => hb (by rw [List.mem_singleton] at hm; simp [hm])) q, fun hm => hb (by simp [hm])⟩) _ _ hv
    refine h s₂ D vs o' ((Mv.of_ext x₃).trans m) lk hD ⟨n, m.ext.keep D _ hDne (x₂.keep D _ (by simpa using hne) hpl)⟩ (hv'.mv m.ext fun b hb => by rw [List.mem_singleton] at hb; rw [hb]; exact watW) sm
end
end Mine

-- part V35
namespace Mine
open PySem PySem.W PyProof.Rows

def pl (env : Env) : List Addr := env.locals :: env.cells.filterMap fun p => env.cells.lookup p.1
theorem pl_in (env : Env) : EnvIn env (pl env) := ⟨by simp [pl], fun y c h => by
  have := mem_of_lookup h
  exact List.mem_cons_of_mem _ (List.mem_filterMap.mpr ⟨_, this, h⟩)⟩
theorem pl_sub {env : Env} {N : List Addr} (h : EnvIn env N) : ∀ b ∈ pl env, b ∈ N := by
  intro b hb
  rcases List.mem_cons.mp hb with rfl | hb
  · exact h.1
  · obtain ⟨p, _, hp⟩ := List.mem_filterMap.mp hb
    exact h.2 _ b hp

def isComp : RE → Bool
  | .lcomp _ _ _ _ _ => true
  | .scomp _ _ _ _ _ => true
  | .dcomp _ _ _ _ _ _ => true
  | _ => false
theorem noSwap {e : RE} (h : isComp e = false) (t : Option Expr) (k : Nat) (env : Env) : swapsWith e.toE t k env = pure false := by
  cases e <;> first | rfl | cases h
def lstOf (b : Bool) (o : List PV) : PV := match b with
  | false => .lst o
  | true => .bag o
theorem pbin_lst {x y : PV} {r : List PV} (h : pbin .Add x y = some (.lst r)) : ∃ a b, x = .lst a ∧ y = .lst b ∧ r = a ++ b ∧ a.length + b.length ≤ 1000 := by
  cases x <;> cases y <;> simp only [pbin] at h <;> (try (cases h; done))
  rename_i a b
  split at h
  · rename_i hq
    cases h
    exact ⟨a, b, rfl, rfl, rfl, by simpa using hq⟩
  · cases h
def isListy : RE → Bool
  | .list _ _ => true
  | .bin .Add _ _ _ => true
  | _ => false

section
variable (prog : Program) (w : World) (C : Addr) (h₀ : Heap)
def FlIs (N : List Addr) (s' : Shared) : Fl → Flow → Prop
  | .next, f => f = .next
  | .cont, f => f = .cont
  | .ret p, f => ∃ v, f = .ret v ∧ VR prog w C s'.heap N p v
def Post (l : Nat) (sc : Scope) (A : Around) (env : Env) (T : List Nat) (N : List Addr) (s : Shared) (as : List Addr) (ρ' : Rho) (σ' : Sig) (f : Fl) (Q : Flow → Shared → Prop) : Prop :=
  ∀ s' as' fl, Ext (pl env ++ as) s s' → Fm prog w C h₀ l sc A env T N s' ρ' σ' as' → (∃ pre, as' = pre ++ as ∧ ∀ a ∈ pre, s.heap.objs.size ≤ a) → FlIs prog w C N s' f fl → Q fl s'
end

section
variable {prog : Program} {w : World} {C : Addr} {h₀ : Heap}
variable {F : Nat → List PV → Option PV} {n : Nat} {l : Nat} {sc : Scope} {A : Around} {env : Env} {T : List Nat} {N : List Addr} {s : Shared} {ρ ρ' : Rho} {σ σ' : Sig} {as : List Addr} {f : Fl} {Q : Flow → Shared → Prop} {E : Value → Shared → Prop}

theorem mvExt {x : Nat} {s' : Shared} (H : Fm prog w C h₀ l sc A env T N s ρ σ as) (hx : x ∈ T) (m : Mv env [nmS x] [wat env (nmS x)] s s') : Ext (pl env ++ as) s s' :=
  m.ext.mono fun b hb => by rw [List.mem_singleton] at hb; rw [hb]; exact List.mem_append_left _ ((H.can x hx).1.watIn (pl_in env))

theorem asg_ok {x : Nat} {px p : Pos} {e : RE} {q : PV} (SR : SoundR prog w C h₀ l (pev F n)) (wf : wfE sc e = true) (hc : isComp e = false) (hx : x ∈ T) (ho : lookO σ x = none) (H : Fm prog w C h₀ l sc A env T N s ρ σ as) (hp : evM F n ρ σ e = some q)
    (P : Post prog w C h₀ l sc A env T N s as ((x, q) :: delR ρ x) σ .next Q) : wpAny (model prog w) A (exec (.Assign [.Name (nmS x) px] e.toE p) env) Q E s := by
  refine wpAny_Assign_Name (evM_ok SR wf H hp fun v s₁ x₁ hv => ?_) (noSwap hc _ _ _)
  have H₁ := H.ext x₁
  refine store_ok H₁.ok.e (H₁.can x hx).1 fun s₂ m lk => ?_
  have hW : ∀ b ∈ [wat env (nmS x)], b ∈ N ++ as := fun b hb => by rw [List.mem_singleton] at hb; rw [hb]; exact List.mem_append_left _ ((H₁.can x hx).1.watIn H.inN)
  exact P s₂ as .next ((x₁.mono (by simp)).trans (mvExt H₁ hx m)) (H₁.store hx ho (hv.mv m.ext hW) m lk) ⟨[], rfl, fun _ h => (nomatch h)⟩ rfl

theorem asgC_ok {x : Nat} {px p pc : Pos} {e : RE} {gs : List RG} {fr : List Nat} {sc' : Scope} {q : PV} (B : Base h₀) (SR : ∀ m, SoundR prog w C h₀ l (pev F m)) (wf : wfE sc (.lcomp e gs fr sc' pc) = true) (hx : x ∈ T) (ho : lookO σ x = none) (H : Fm prog w C h₀ l sc A env T N s ρ σ as)
    (hp : pev F n ρ (.lcomp e gs fr sc' pc) = some q) (P : Post prog w C h₀ l sc A env T N s as ((x, q) :: delR ρ x) σ .next Q) : wpAny (model prog w) A (exec (.Assign [.Name (nmS x) px] (RE.lcomp e gs fr sc' pc).toE p) env) Q E s := by
  cases n with
  | zero => cases hp
  | succ n =>
    rw [pev, pevStep] at hp
    cases h1 : pcomp (pev F n) (fun ρ' => pev F n ρ' e) fr gs ρ with
    | none => rw [h1] at hp; cases hp
    | some r =>
      obtain ⟨o, b⟩ := r
      rw [h1] at hp
      obtain ⟨hsm, rfl⟩ : small o = true ∧ q = lstOf b o := by
        cases b with
        | false =>
          (try dsimp only at hp)
          split at hp
          · rename_i hs; cases hp; exact ⟨hs, rfl⟩
          · cases hp
        | true =>
          (try dsimp only at hp)
          split at hp
          · rename_i hs; cases hp; exact ⟨hs, rfl⟩
          · cases hp
      refine lcomp_assign B (SR n) wf H.ok (H.can x hx).1 h1 hsm fun s' D vs o' m lk hD hpl hv sm => ?_
      have hDW : D ∉ N ++ as := fun q => Nat.lt_irrefl _ (Nat.lt_of_lt_of_le (H.ok.live D q) hD)
      refine P s' as .next (mvExt H hx m) (H.store hx ho ?_ m lk) ⟨[], rfl, fun _ h => (nomatch h)⟩ rfl
      cases b with
      | false => rw [← show o' = o from sm]; exact ⟨D, vs, rfl, hDW, hpl, hv⟩
      | true =>
        obtain ⟨us, h2, h3⟩ := VRs.permL (show o'.Perm o from sm) hv
        exact ⟨D, us, vs, rfl, hDW, hpl, h2, h3⟩

theorem own_new {x : Nat} {r : List PV} {vs : List Value} {a : Addr} {s₁ s₂ : Shared} (H : Fm prog w C h₀ l sc A env T N s ρ σ as) (hx : x ∈ T) (ho : lookO σ x = none) (hr : r.all scalar = true) (x₁ : Ext [] s s₁) (ha : s.heap.objs.size ≤ a) (hpl : s₁.heap.PlainList a vs.toArray)
    (hv : VRs prog w C s₁.heap (N ++ as) r vs) (m : Mv env [nmS x] [wat env (nmS x)] s₁ s₂) (lk : Look s₂ env (nmS x) (.ref a)) (P : Post prog w C h₀ l sc A env T N s as (delR ρ x) ((x, .lst r) :: σ) .next Q) : Q .next s₂ := by
  have hwlt : wat env (nmS x) < s.heap.objs.size := H.ok.live _ ((H.can x hx).1.watIn H.ok.inW)
  have hane : a ∉ [wat env (nmS x)] := fun q => by rw [List.mem_singleton] at q; rw [q] at ha; exact Nat.lt_irrefl _ (Nat.lt_of_lt_of_le hwlt ha)
  obtain ⟨k, hpl⟩ := hpl
  have mm : Mv env [nmS x] [wat env (nmS x)] s s₂ := (Mv.of_ext x₁).trans m
  exact P s₂ (a :: as) .next (mvExt H hx mm) (H.new hx ho ha ⟨vs, ⟨k, m.ext.keep a _ hane hpl⟩, flat_vrs hr hv⟩ mm lk) ⟨[a], rfl, fun b hb => by rw [List.mem_singleton] at hb; rw [hb]; exact ha⟩ rfl

/-- the value of a fresh list, and where it lies -/
theorem fresh_ok {e : RE} {r : List PV} {E' Q' : Value → Shared → Prop} (SR : ∀ m, SoundR prog w C h₀ l (pev F m)) {W : List Addr} (wf : wfE sc e = true) (hl : isListy e = true) (ok : Ok prog w C h₀ l sc A env s W ρ) (hp : pev F n ρ e = some (.lst r))
    (h : ∀ a vs s', Ext [] s s' → s.heap.objs.size ≤ a → s'.heap.PlainList a vs.toArray → VRs prog w C s'.heap W r vs → Q' (.ref a) s') : wpAny (model prog w) A (eval e.toE env) Q' E' s := by
  cases n with
  | zero => cases hp
  | succ n =>
    rw [pev] at hp
    cases e with
    | list es pos =>
      rw [pevStep] at hp
      cases h1 : evs (pev F n) ρ es with
      | none => rw [h1] at hp; cases hp
      | some ps =>
        rw [h1] at hp; (try dsimp only at hp)
        split at hp
        · rename_i hsm
          cases hp
          refine PyProof.Rows.List_ ?_
          rw [backTo_toE]
          refine evs_ok (fun e he => (SR n sc e (wfEs_mem wf e he)).1) ok h1 fun vs s₁ x₁ hvs => ?_
          refine wpAny_newList (h _ vs _ (x₁.trans (Ext.push _ _)) x₁.size ⟨0, Heap.get?_push_size _ rfl⟩ (hvs.ext (Ext.push _ _))) (by rw [hvs.length, sizeLine_eq]; have := small_le hsm; omega)
        · cases hp
    | bin op a b pos =>
      cases op with
      | Add =>
        simp only [wfE, Bool.and_eq_true] at wf
        rw [pevStep] at hp
        cases h1 : pev F n ρ a with
        | none => rw [h1] at hp; cases hp
        | some x =>
          rw [h1] at hp; (try dsimp only at hp)
          cases h2 : pev F n ρ b with
          | none => rw [h2] at hp; cases hp
          | some y =>
            rw [h2] at hp; (try dsimp only at hp)
            refine wpAny_BinOp ((SR n sc a wf.1).1 A env s W ρ x ok h1 _ _ fun v s₁ x₁ hv => (SR n sc b wf.2).1 A env s₁ W ρ y (ok.ext x₁) h2 _ _ fun u s₂ x₂ hu => ?_)
            obtain ⟨l₁, l₂, rfl, rfl, rfl, hlen⟩ := pbin_lst hp
            obtain ⟨a', vs, rfl, _, ⟨n1, ha2⟩, ha3⟩ := hv.ext x₂
            obtain ⟨b', us, rfl, _, ⟨n2, hb2⟩, hb3⟩ := hu
            have e1 := ha3.length
            have e2 := hb3.length
            refine PySem.P.add_list (n := n1) (n2 := n2) ha2 hb2 ?_ (by rw [sizeLine_eq]; simp; omega)
            have hpush : Ext [] s₂ { s₂ with heap := s₂.heap.push { cls := .type "list", data := .seq (vs ++ us).toArray } } := Ext.push _ _
            have := h s₂.heap.objs.size (vs ++ us) _ (x₁.trans (x₂.trans hpush)) (Nat.le_trans x₁.size x₂.size) ⟨0, Heap.get?_push_size _ rfl⟩ ((VRs.append ha3 hb3).ext hpush)
            simpa using this
      | _ => cases hl
    | _ => cases hl
end
end Mine

-- part V36
namespace Mine
open PySem PySem.W PyProof.Rows

section
variable {prog : Program} {w : World} {C : Addr} {h₀ : Heap}
variable {F : Nat → List PV → Option PV} {n : Nat} {l : Nat} {sc : Scope} {A : Around} {env : Env} {T : List Nat} {N : List Addr} {s : Shared} {ρ ρ' : Rho} {σ σ' : Sig} {as : List Addr} {f : Fl} {Q : Flow → Shared → Prop} {E : Value → Shared → Prop}

theorem ownL_ok {x : Nat} {px p : Pos} {e : RE} {r : List PV} (SR : ∀ m, SoundR prog w C h₀ l (pev F m)) (wf : wfE sc e = true) (hl : isListy e = true) (hx : x ∈ T) (ho : lookO σ x = none) (H : Fm prog w C h₀ l sc A env T N s ρ σ as) (hp : pev F n ρ e = some (.lst r)) (hr : r.all scalar = true)
    (P : Post prog w C h₀ l sc A env T N s as (delR ρ x) ((x, .lst r) :: σ) .next Q) : wpAny (model prog w) A (exec (.Assign [.Name (nmS x) px] e.toE p) env) Q E s := by
  refine wpAny_Assign_Name (fresh_ok SR wf hl H.ok hp fun a vs s₁ x₁ ha hpl hv => ?_) (noSwap (by cases e <;> first | rfl | cases hl) _ _ _)
  have H₁ := H.ext x₁
  exact store_ok H₁.ok.e (H₁.can x hx).1 fun s₂ m lk => own_new H hx ho hr x₁ ha hpl hv m lk P

theorem ownC_ok {x : Nat} {px p pc : Pos} {e : RE} {gs : List RG} {fr : List Nat} {sc' : Scope} {r : List PV} (B : Base h₀) (SR : ∀ m, SoundR prog w C h₀ l (pev F m)) (wf : wfE sc (.lcomp e gs fr sc' pc) = true) (hx : x ∈ T) (ho : lookO σ x = none) (H : Fm prog w C h₀ l sc A env T N s ρ σ as)
    (hp : pev F n ρ (.lcomp e gs fr sc' pc) = some (.lst r)) (hr : r.all scalar = true) (P : Post prog w C h₀ l sc A env T N s as (delR ρ x) ((x, .lst r) :: σ) .next Q) : wpAny (model prog w) A (exec (.Assign [.Name (nmS x) px] (RE.lcomp e gs fr sc' pc).toE p) env) Q E s := by
  cases n with
  | zero => cases hp
  | succ n =>
    rw [pev, pevStep] at hp
    cases h1 : pcomp (pev F n) (fun ρ' => pev F n ρ' e) fr gs ρ with
    | none => rw [h1] at hp; cases hp
    | some q =>
      obtain ⟨o, b⟩ := q
      rw [h1] at hp
      cases b with
      | true =>
        (try dsimp only at hp)
        split at hp
        · cases hp
        · cases hp
      | false =>
        (try dsimp only at hp)
        split at hp
        · rename_i hsm
          cases hp
          refine lcomp_assign B (SR n) wf H.ok (H.can x hx).1 h1 hsm fun s' D vs o' m lk hD hpl hv sm => ?_
          rw [show o' = r from sm] at hv
          exact P s' (D :: as) .next (mvExt H hx m) (H.new hx ho hD ⟨vs, hpl, flat_vrs hr hv⟩ m lk) ⟨[D], rfl, fun b hb => by rw [List.mem_singleton] at hb; rw [hb]; exact hD⟩ rfl
        · cases hp

theorem copy_ok {x y : Nat} {px py slp sp p : Pos} {r : List PV} (SR : ∀ m, SoundR prog w C h₀ l (pev F m)) (hx : x ∈ T) (ho : lookO σ x = none) (H : Fm prog w C h₀ l sc A env T N s ρ σ as) (hp : pev F n ρ (.name y py) = some (.lst r)) (hsm : small r = true) (hr : r.all scalar = true)
    (P : Post prog w C h₀ l sc A env T N s as (delR ρ x) ((x, .lst r) :: σ) .next Q) : wpAny (model prog w) A (exec (.Assign [.Name (nmS x) px] (.Subscript (RE.name y py).toE (.Slice none none none slp) sp) p) env) Q E s := by
  refine wpAny_Assign_Name (wpAny_Subscript_list_slice ((SR n sc (.name y py) rfl).1 A env s _ ρ _ H.ok hp _ _ fun v s₁ x₁ hv => ?_) (fun _ _ => rfl)) rfl
  obtain ⟨a, vs, rfl, _, hpl, hvs⟩ := hv
  rw [evalPart_none]
  refine wpAny_pure (wpAny_pure ⟨a, vs.toArray, none, none, rfl, hpl.isList, by rw [List.size_toArray, hvs.length, sizeLine_eq]; have := small_le hsm; omega, .none, .none, ?_⟩)
  rw [slicePick_all]
  have x₂ : Ext [] s₁ { s₁ with heap := (s₁.heap.push { cls := .type "slice", data := .fields #[.none, .none, .none] }).push { cls := .type "list", data := .seq vs.toArray } } := (Ext.push s₁ _).trans (Ext.push _ _)
  have H₂ := (H.ext x₁).ext x₂
  have hg : ((s₁.heap.push { cls := .type "slice", data := .fields #[.none, .none, .none] }).push { cls := .type "list", data := .seq vs.toArray }).get? (s₁.heap.push { cls := .type "slice", data := .fields #[.none, .none, .none] }).objs.size = _ := Heap.get?_push_size _ rfl
  rw [show (s₁.heap.push { cls := .type "slice", data := .fields #[.none, .none, .none] }).objs.size = s₁.heap.objs.size + 1 from Heap.size_push ..] at hg
  refine store_ok H₂.ok.e (H₂.can x hx).1 fun s₂ m lk => own_new H hx ho hr (x₁.trans x₂) (Nat.le_trans x₁.size (Nat.le_succ _)) ⟨0, hg⟩ (hvs.ext x₂) m lk P

theorem ownD_ok {x : Nat} {px dp p : Pos} (hx : x ∈ T) (ho : lookO σ x = none) (H : Fm prog w C h₀ l sc A env T N s ρ σ as)
    (P : Post prog w C h₀ l sc A env T N s as (delR ρ x) ((x, .dct [] []) :: σ) .next Q) : wpAny (model prog w) A (exec (.Assign [.Name (nmS x) px] (.Dict [] [] dp) p) env) Q E s := by
  refine wpAny_Assign_Name ?_ rfl
  rw [eval_Dict_empty]
  refine wpAny_bind (wpAny_standAt (wpAny_newObj_type ?_))
  have x₁ : Ext [] s { s with heap := s.heap.push { cls := .type "dict", data := .dict #[] } } := Ext.push _ _
  have H₁ := H.ext x₁
  refine store_ok H₁.ok.e (H₁.can x hx).1 fun s₂ m lk => ?_
  have hwlt : wat env (nmS x) < s.heap.objs.size := H.ok.live _ ((H.can x hx).1.watIn H.ok.inW)
  have hane : s.heap.objs.size ∉ [wat env (nmS x)] := fun q => by rw [List.mem_singleton] at q; rw [← q] at hwlt; exact Nat.lt_irrefl _ hwlt
  have hd : s₂.heap.DictOf (intKind prog w) s.heap.objs.size [] := (Heap.DictOf.new (knd := intKind prog w) s.heap).at fun o q => m.ext.keep _ o hane q
  have hsm : (s.heap.objs.size == sysModules) = false := by
    cases e : s.heap.objs.size == sysModules with
    | false => rfl
    | true => have := eq_of_beq e; have h2 := H.ok.sz; rw [this] at h2; exact absurd h2 (by decide)
  have mm : Mv env [nmS x] [wat env (nmS x)] s s₂ := (Mv.of_ext x₁).trans m
  exact P s₂ (s.heap.objs.size :: as) .next (mvExt H hx mm) (H.new hx ho (Nat.le_refl _) ⟨[], hd, rfl, rfl, hsm⟩ mm lk) ⟨[s.heap.objs.size], rfl, fun b hb => by rw [List.mem_singleton] at hb; rw [hb]; exact Nat.le_refl _⟩ rfl

theorem aug_op {A : Around} {op : Operator} {p q r : PV} {a b : Value} {W : List Addr} {Q E : Value → Shared → Prop} (hop : paug op p q = some r) (tk : 0 < s.toks) (ha : VR prog w C s.heap W p a) (hb : VR prog w C s.heap W q b)
    (h : ∀ v s', Ext [] s s' → VR prog w C s'.heap W r v → scalar r = true → Q v s') : wpAny (model prog w) A (inplaceOp op a b) Q E s := by
  unfold paug at hop
  split at hop
  · cases hop; obtain ⟨t, rfl⟩ := ha; obtain ⟨u, rfl⟩ := hb; exact PySem.P.iadd_int (h _ _ (Ext.tok s 1) ⟨_, rfl⟩ rfl)
  · cases hop; obtain ⟨t, rfl⟩ := ha; obtain ⟨u, rfl⟩ := hb; exact PySem.P.isub_int (h _ _ (Ext.tok s 1) ⟨_, rfl⟩ rfl)
  · cases hop; obtain ⟨t, _, rfl⟩ := ha; obtain ⟨u, _, rfl⟩ := hb; exact PyProof.Rows.iadd_float (h _ _ (Ext.tok s 1) ⟨s.toks, Nat.ne_of_gt tk, rfl⟩ rfl)
  · cases hop

theorem Look.loadN {s : Shared} {env : Env} {x : Nat} {v : Value} {A : Around} {E : Value → Shared → Prop} {Q : Value → Shared → Prop} (fn : env.scope.kind = .function) (H : Look s env (nmS x) v) (h : Q v s) :
    wpAny (model prog w) A (loadName env (nmS x)) Q E s := by
  rcases H with ⟨a, m, hn, hm⟩ | ⟨a | a, c, hc, hv⟩
  · exact wpAny_loadName_local fn a hn hm h
  · exact wpAny_loadName_cell fn a hc hv h
  · exact wpAny_loadName_free fn a hc hv h (nmS_ok x).2

theorem aug_ok {x : Nat} {px p : Pos} {op : Operator} {e : RE} {q₀ q r : PV} (SR : SoundR prog w C h₀ l (pev F n)) (wf : wfE sc e = true) (hx : x ∈ T) (hl : look ρ x = some q₀) (hs : scalar q₀ = true) (H : Fm prog w C h₀ l sc A env T N s ρ σ as) (hp : evM F n ρ σ e = some q) (hop : paug op q₀ q = some r)
    (P : Post prog w C h₀ l sc A env T N s as ((x, r) :: delR ρ x) σ .next Q) : wpAny (model prog w) A (exec (.AugAssign (.Name (nmS x) px) op e.toE p) env) Q E s := by
  obtain ⟨v₀, lk₀, hv₀⟩ := H.ok.rho x q₀ hl
  have ho : lookO σ x = none := by
    cases h : lookO σ x with
    | none => rfl
    | some o => have := (H.nm x (lookO_mem h)).2; rw [hl] at this; cases this
  refine wpAny_AugAssign_Name (Look.loadN H.ok.e.fn lk₀ (evM_ok SR wf H hp fun v s₁ x₁ hv => ?_))
  refine aug_op hop (H.ext x₁).ok.tk (scalar_any (W := N ++ as) (W' := N ++ as) hs hv₀) hv fun u s₂ x₂ hu _ => ?_
  have H₂ := (H.ext x₁).ext x₂
  refine store_ok H₂.ok.e (H₂.can x hx).1 fun s₃ m lk => ?_
  have hW : ∀ b ∈ [wat env (nmS x)], b ∈ N ++ as := fun b hb => by rw [List.mem_singleton] at hb; rw [hb]; exact List.mem_append_left _ ((H₂.can x hx).1.watIn H.inN)
  exact P s₃ as .next (((x₁.trans x₂).mono (by simp)).trans (mvExt H₂ hx m)) (H₂.store hx ho (hu.mv m.ext hW) m lk) ⟨[], rfl, fun _ h => (nomatch h)⟩ rfl

theorem ret_ok {p : Pos} {e : RE} {q : PV} (SR : SoundR prog w C h₀ l (pev F n)) (wf : wfE sc e = true) (H : Fm prog w C h₀ l sc A env T N s ρ σ as) (hp : evM F n ρ σ e = some q) (P : Post prog w C h₀ l sc A env T N s as ρ σ (.ret q) Q) :
    wpAny (model prog w) A (exec (.Return (some e.toE) p) env) Q E s := by
  refine wpAny_Return_some (evM_ok SR wf H hp fun v s₁ x₁ hv => ?_)
  exact P s₁ as (.ret v) (x₁.mono (by simp)) (H.ext x₁) ⟨[], rfl, fun _ h => (nomatch h)⟩ ⟨v, rfl, VR.mono (fun b o hb q => ⟨q, fun hm => hb (List.mem_append_left _ hm)⟩) _ _ hv⟩
theorem retO_ok {x : Nat} {px p : Pos} {o : Own} (H : Fm prog w C h₀ l sc A env T N s ρ σ as) (ho : lookO σ x = some o) (P : Post prog w C h₀ l sc A env T N s as ρ σ (.ret o.tree) Q) :
    wpAny (model prog w) A (exec (.Return (some (.Name (nmS x) px)) p) env) Q E s := by
  obtain ⟨a, ha, lk, oa⟩ := H.own.get ho
  refine wpAny_Return_some (lk.load H.ok.e.fn ?_)
  exact P s as (.ret (.ref a)) (Ext.refl _ _) H ⟨[], rfl, fun _ h => (nomatch h)⟩ ⟨_, rfl, oa.tree (fun b hb => List.mem_append_left _ hb) (H.sep a ha)⟩
theorem cont_ok {p : Pos} (H : Fm prog w C h₀ l sc A env T N s ρ σ as) (P : Post prog w C h₀ l sc A env T N s as ρ σ .cont Q) : wpAny (model prog w) A (exec (.Continue p) env) Q E s :=
  wpAny_Continue (P s as .cont (Ext.refl _ _) H ⟨[], rfl, fun _ h => (nomatch h)⟩ rfl)
end
end Mine

-- part V37
namespace Mine
open PySem PySem.W PyProof.Rows

theorem IntsL {prog : Program} {w : World} {C : Addr} {h : Heap} {W : List Addr} : ∀ {l : List PV} {is : List Int} {vs : List Value}, allInt l = some is → VRs prog w C h W l vs → IntsAre vs is
  | [], is, vs, h, H => by cases h; rw [show vs = [] from H]; exact .nil
  | .int i :: l, is, vs, h, H => by
    obtain ⟨v, r, rfl, ⟨t, rfl⟩, hr⟩ := H
    rw [allInt] at h
    cases h1 : allInt l with
    | none => rw [h1] at h; cases h
    | some js => rw [h1] at h; cases h; exact .cons _ _ (IntsL h1 hr)
  | .any :: l, _, _, h, _ | .none :: l, _, _, h, _ | .bool _ :: l, _, _, h, _ | .str _ :: l, _, _, h, _ | .flt _ :: l, _, _, h, _ | .tup _ :: l, _, _, h, _ | .lst _ :: l, _, _, h, _ | .bag _ :: l, _, _, h, _ | .dct _ _ :: l, _, _, h, _
  | .set _ _ :: l, _, _, h, _ | .graph _ :: l, _, _, h, _ | .rng _ _ :: l, _, _, h, _ => by cases h
theorem IntsV {prog : Program} {w : World} {C : Addr} {h : Heap} {W : List Addr} : ∀ {is : List Int} {vs : List Value}, IntsAre vs is → VRs prog w C h W (is.map .int) vs
  | _, _, .nil => rfl
  | _, _, .cons n t r => ⟨_, _, rfl, ⟨t, rfl⟩, IntsV r⟩
theorem insI_perm (a : Int) : ∀ l : List Int, (insI a l).Perm (a :: l)
  | [] => List.Perm.refl _
  | b :: l => by
    rw [insI]
    cases h : decide (a ≤ b) with
    | true => exact List.Perm.refl _
    | false => exact (List.Perm.cons b (insI_perm a l)).trans (List.Perm.swap a b l)
theorem sortI_perm : ∀ l : List Int, (sortI l).Perm l
  | [] => List.Perm.refl _
  | a :: l => (insI_perm a _).trans (List.Perm.cons a (sortI_perm l))
theorem insI_sorted (a : Int) : ∀ l : List Int, l.Pairwise (· ≤ ·) → (insI a l).Pairwise (· ≤ ·)
  | [], _ => by simp [insI]
  | b :: l, h => by
    rw [insI]
    obtain ⟨h1, h2⟩ := List.pairwise_cons.mp h
    cases hd : decide (a ≤ b) with
    | true =>
      have hab := of_decide_eq_true hd
      refine List.pairwise_cons.mpr ⟨fun x hx => ?_, h⟩
      rcases List.mem_cons.mp hx with rfl | hx
      · exact hab
      · exact Int.le_trans hab (h1 x hx)
    | false =>
      have hab := of_decide_eq_false hd
      refine List.pairwise_cons.mpr ⟨fun x hx => ?_, insI_sorted a l h2⟩
      rcases List.mem_cons.mp ((insI_perm a l).mem_iff.mp hx) with rfl | hx
      · omega
      · exact h1 x hx
theorem sortI_sorted : ∀ l : List Int, (sortI l).Pairwise (· ≤ ·)
  | [] => List.Pairwise.nil
  | a :: l => insI_sorted a _ (sortI_sorted l)

theorem putAt_get {prog : Program} {w : World} {C : Addr} {h : Heap} {W : List Addr} : ∀ {l : List PV} {vs : List Value} {k : Nat} {p : PV} {v : Value}, VRs prog w C h W l vs → VR prog w C h W p v → VRs prog w C h W (putAt l k p) (vs.set k v)
  | [], vs, k, p, v, H, _ => by rw [show vs = [] from H]; rfl
  | q :: l, vs, 0, p, v, H, hv => by
    obtain ⟨u, r, rfl, hu, hr⟩ := H
    exact ⟨v, r, rfl, hv, hr⟩
  | q :: l, vs, k + 1, p, v, H, hv => by
    obtain ⟨u, r, rfl, hu, hr⟩ := H
    exact ⟨u, r.set k v, rfl, hu, putAt_get hr hv⟩

section
variable {prog : Program} {w : World} {C : Addr} {h₀ : Heap}
variable {F : Nat → List PV → Option PV} {n : Nat} {l : Nat} {sc : Scope} {A : Around} {env : Env} {T : List Nat} {N : List Addr} {s : Shared} {ρ ρ' : Rho} {σ σ' : Sig} {as : List Addr} {f : Fl} {Q : Flow → Shared → Prop} {E : Value → Shared → Prop}

theorem not_inter (e : EnvOk sc env) : interactive env = false := by
  unfold interactive
  rw [e.fn]; rfl

/-- a write is within what a statement may turn -/
theorem same_set {x : Nat} {o : Own} : sameNm σ (setO σ x o) = true := by
  unfold sameNm
  rw [setO_names]; exact beq_self_eq_true _

theorem app_ok {x : Nat} {px ap cp p : Pos} {e : RE} {r : List PV} {q : PV} (hln : (ap.endLine == cp.line) = true) (SR : SoundR prog w C h₀ l (pev F n)) (wf : wfE sc e = true) (H : Fm prog w C h₀ l sc A env T N s ρ σ as) (ho : lookO σ x = some (.lst r)) (hp : evM F n ρ σ e = some q) (hsm : small r = true)
    (P : Post prog w C h₀ l sc A env T N s as ρ (setO σ x (.lst (r ++ [q]))) .next Q) : wpAny (model prog w) A (exec (.Expr (.Call (.Attribute (.Name (nmS x) px) "append" ap) [e.toE] [] cp) p) env) Q E s := by
  refine wpAny_Expr_any ?_ (not_inter H.ok.e) rfl
  obtain ⟨a₀, _, lk₀, oa₀⟩ := H.own.get ho
  refine wpAny_Call_method (T := "list") (id := "list.append") rfl (by cases e <;> rfl) hln PySem.F.plainAttrs_list PySem.F.slot_list_append PySem.F.type_list_append (lk₀.load H.ok.e.fn ?_)
  obtain ⟨vs₀, ⟨k₀, hpl₀⟩, _⟩ := oa₀
  refine ⟨⟨_, hpl₀, rfl⟩, fun b hb => by cases hb; exact ⟨_, hpl₀, rfl⟩, ?_⟩
  have hse : backTo cp (starEach (toEs [e]) env) = [(false, eval e.toE env)] := backTo_toE env cp [e]
  show wpAny _ _ (callWith cp (.builtin "list.append") [Value.ref a₀] (backTo cp (starEach (toEs [e]) env)) []) _ _ _
  rw [hse]
  refine Calls.callWith_builtin rfl (Calls.evalArgs_plain (Calls.spliced_cons (evM_ok SR wf H hp fun v s₁ x₁ hv => Calls.spliced_nil ?_)))
  have H₁ := H.ext x₁
  obtain ⟨a, ha, lk, ⟨vs, hpl, hvs⟩, wr⟩ := H₁.write ho
  have haa : a₀ = a := by
    have e1 := lk₀.keep fun b o q => x₁.keep b o (by simp) q
    have := Look.uniq e1 lk
    cases this; rfl
  subst haa
  have hsz : vs.toArray.size ≤ sizeLine := by rw [List.size_toArray, hvs.length, sizeLine_eq]; have := small_le hsm; omega
  refine wpAny_list_append_plain (hsz := hsz) hpl fun h' hl' hs' => ?_
  have x₂ : Ext [a₀] s₁ { s₁ with heap := h' } := Ext.sameBut (Nat.le_refl _) hs'
  have haW : ∀ b ∈ [a₀], b ∈ N ++ as := fun b hb => by rw [List.mem_singleton] at hb; rw [hb]; exact List.mem_append_right _ ha
  refine P _ as .next ((x₁.mono (by simp)).trans (x₂.mono fun b hb => by rw [List.mem_singleton] at hb; rw [hb]; exact List.mem_append_right _ ha)) (wr _ (.lst (r ++ [q])) x₂ ⟨vs ++ [v], by simpa using hl', VRs.append (hvs.mv x₂ haW) ⟨v, [], rfl, hv.mv x₂ haW, rfl⟩⟩) ⟨[], rfl, fun _ h => (nomatch h)⟩ rfl
end
end Mine

-- part V38
namespace Mine
open PySem PySem.W PyProof.Rows

theorem erase0 (v : Value) (r : List Value) : ((v :: r).toArray.eraseIdxIfInBounds 0) = r.toArray := by
  apply Array.ext'
  simp [Array.eraseIdxIfInBounds]
theorem eraseLast (vs : List Value) (h : 0 < vs.length) : (vs.toArray.eraseIdxIfInBounds (vs.toArray.size - 1)) = vs.dropLast.toArray := by
  apply Array.ext'
  simp [Array.eraseIdxIfInBounds]
  rw [if_pos (by omega)]
theorem VRs.dropLast {prog : Program} {w : World} {C : Addr} {h : Heap} {W : List Addr} : ∀ {l : List PV} {vs : List Value}, VRs prog w C h W l vs → VRs prog w C h W l.dropLast vs.dropLast
  | [], _, H => by rw [show _ = [] from H]; rfl
  | [p], _, H => by
    obtain ⟨v, r, rfl, hv, hr⟩ := H
    rw [show r = [] from hr]; rfl
  | p :: q :: l, _, H => by
    obtain ⟨v, r, rfl, hv, hr⟩ := H
    obtain ⟨u, r', rfl, hu, hr'⟩ := hr
    exact ⟨v, (u :: r').dropLast, rfl, hv, VRs.dropLast (l := q :: l) ⟨u, r', rfl, hu, hr'⟩⟩

section
variable {prog : Program} {w : World} {C : Addr} {h₀ : Heap}
variable {F : Nat → List PV → Option PV} {n : Nat} {l : Nat} {sc : Scope} {A : Around} {env : Env} {T : List Nat} {N : List Addr} {s : Shared} {ρ ρ' : Rho} {σ σ' : Sig} {as : List Addr} {f : Fl} {Q : Flow → Shared → Prop} {E : Value → Shared → Prop}

theorem upd_plain {h : Heap} {a : Addr} {items : Array Value} {k : Nat} (x : h.get? a = some { cls := .type "list", data := .seq items k }) (g : Array Value → Array Value) : (h.update a (Obj.mapSeq g)).PlainList a (g items) :=
  ⟨_, IsL.update x g⟩
theorem upd_ext {s : Shared} {a : Addr} (g : Obj → Obj) : Ext [a] s { s with heap := s.heap.update a g } := Ext.sameBut (Nat.le_refl _) (Heap.SameBut.update ..)

/-- x.pop(0), in whatever word -/
theorem pop0_eval {x : Nat} {px ap cp zp : Pos} {z : Int} {zk : Nat} {q : PV} {r : List PV} {Q' E' : Value → Shared → Prop} (hz : z = 0) (hln : (ap.endLine == cp.line) = true) (H : Fm prog w C h₀ l sc A env T N s ρ σ as) (ho : lookO σ x = some (.lst (q :: r))) (hsm : (q :: r).length ≤ 1001)
    (h : ∀ v s', Ext (pl env ++ as) s s' → Fm prog w C h₀ l sc A env T N s' ρ (setO σ x (.lst r)) as → VR prog w C s'.heap (N ++ as) q v → (∀ y u, Look s env y u → Look s' env y u) → Q' v s') :
    wpAny (model prog w) A (eval (.Call (.Attribute (.Name (nmS x) px) "pop" ap) [.Constant (.int z) zk zp] [] cp) env) Q' E' s := by
  subst hz
  obtain ⟨a₀, _, lk₀, oa₀⟩ := H.own.get ho
  refine wpAny_Call_method (T := "list") (id := "list.pop") rfl rfl hln PySem.F.plainAttrs_list PySem.F.slot_list_pop PySem.F.type_list_pop (lk₀.load H.ok.e.fn ?_)
  obtain ⟨vs₀, ⟨k₀, hpl₀⟩, _⟩ := oa₀
  refine ⟨⟨_, hpl₀, rfl⟩, fun b hb => by cases hb; exact ⟨_, hpl₀, rfl⟩, ?_⟩
  show wpAny _ _ (callWith cp (.builtin "list.pop") [Value.ref a₀] [(false, eval (.Constant (.int 0) zk zp) env)] []) _ _ _
  refine PySem.P.pop_at_list (wpAny_Constant_int ?_)
  have x₁ : Ext [] s { s with toks := s.toks + 1 } := Ext.tok s 1
  have H₁ := H.ext x₁
  obtain ⟨a, ha, lk, ⟨vs, ⟨k, hpl⟩, hvs⟩, wr⟩ := H₁.write ho
  have haa : a₀ = a := by
    have e1 := lk₀.keep fun b o q => x₁.keep b o (by simp) q
    have := Look.uniq e1 lk
    cases this; rfl
  subst haa
  have hlen := hvs.length
  obtain ⟨v, vs', rfl, hv, hvs'⟩ := hvs
  have haW : ∀ b ∈ [a₀], b ∈ N ++ as := fun b hb => by rw [List.mem_singleton] at hb; rw [hb]; exact List.mem_append_right _ ha
  refine ⟨(v :: vs').toArray, k, 0, _, 0, v, by rw [List.size_toArray, hlen, sizeLine_eq]; omega, rfl, hpl, by decide, ?_, by simp, ?_⟩
  · unfold seqIndex?
    simp
  · have x₂ : Ext [a₀] { s with toks := s.toks + 1 } { s with heap := s.heap.update a₀ (Obj.mapSeq fun xs => xs.eraseIdxIfInBounds 0), toks := s.toks + 1 } := upd_ext (s := { s with toks := s.toks + 1 }) _
    have hp2 := upd_plain hpl (fun xs => xs.eraseIdxIfInBounds 0)
    rw [erase0] at hp2
    have off : EnvOff env [a₀] := ⟨fun q => H.sep a₀ ha (by rw [List.mem_singleton] at q; rw [← q]; exact H.inN.1), fun y c hc q => H.sep a₀ ha (by rw [List.mem_singleton] at q; rw [← q]; exact H.inN.2 y c hc)⟩
    exact h v _ ((x₁.mono (by simp)).trans (x₂.mono fun b hb => by rw [List.mem_singleton] at hb; rw [hb]; exact List.mem_append_right _ ha)) (wr _ (.lst r) x₂ ⟨vs', hp2, hvs'.mv x₂ haW⟩) (hv.mv x₂ haW) fun y u lk => (lk.keep fun b o q => x₁.keep b o (by simp) q).off off x₂.keep

theorem pop0_ok {x : Nat} {px ap cp zp p : Pos} {z : Int} {zk : Nat} {q : PV} {r : List PV} (hz : z = 0) (hln : (ap.endLine == cp.line) = true) (H : Fm prog w C h₀ l sc A env T N s ρ σ as) (ho : lookO σ x = some (.lst (q :: r))) (hsm : (q :: r).length ≤ 1001)
    (P : Post prog w C h₀ l sc A env T N s as ρ (setO σ x (.lst r)) .next Q) : wpAny (model prog w) A (exec (.Expr (.Call (.Attribute (.Name (nmS x) px) "pop" ap) [.Constant (.int z) zk zp] [] cp) p) env) Q E s := by
  refine wpAny_Expr_any (pop0_eval hz hln H ho hsm fun v s' x' H' _ _ => ?_) (not_inter H.ok.e) rfl
  exact P s' as .next x' H' ⟨[], rfl, fun _ h => (nomatch h)⟩ rfl

theorem popA_ok {x y : Nat} {px py ap cp p : Pos} {q : PV} {r : List PV} (hln : (ap.endLine == cp.line) = true) (hy : y ∈ T) (hoy : lookO σ y = none) (H : Fm prog w C h₀ l sc A env T N s ρ σ as) (ho : lookO σ x = some (.lst r)) (hq : r.getLast? = some q) (hsm : r.length ≤ 1001)
    (P : Post prog w C h₀ l sc A env T N s as ((y, q) :: delR ρ y) (setO σ x (.lst r.dropLast)) .next Q) : wpAny (model prog w) A (exec (.Assign [.Name (nmS y) py] (.Call (.Attribute (.Name (nmS x) px) "pop" ap) [] [] cp) p) env) Q E s := by
  refine wpAny_Assign_Name ?_ rfl
  obtain ⟨a, ha, lk, ⟨vs, ⟨k, hpl⟩, hvs⟩, wr⟩ := H.write ho
  refine wpAny_Call_method (T := "list") (id := "list.pop") rfl rfl hln PySem.F.plainAttrs_list PySem.F.slot_list_pop PySem.F.type_list_pop (lk.load H.ok.e.fn ?_)
  refine ⟨⟨_, hpl, rfl⟩, fun b hb => by cases hb; exact ⟨_, hpl, rfl⟩, ?_⟩
  show wpAny _ _ (callWith cp (.builtin "list.pop") [Value.ref a] [] []) _ _ _
  have hlen := hvs.length
  have hpos : 0 < r.length := by cases r with
    | nil => cases hq
    | cons _ _ => simp
  have hqi : r[r.length - 1]? = some q := by rw [← List.getLast?_eq_getElem?]; exact hq
  obtain ⟨v, hv1, hv2⟩ := VRs.get hvs hqi
  have haW : ∀ b ∈ [a], b ∈ N ++ as := fun b hb => by rw [List.mem_singleton] at hb; rw [hb]; exact List.mem_append_right _ ha
  refine PySem.P.pop_list hpl (y := v) (by simpa [hlen] using hv1) ?_ (by rw [List.size_toArray, hlen, sizeLine_eq]; omega)
  have x₂ : Ext [a] s { s with heap := s.heap.update a (Obj.mapSeq fun xs => xs.eraseIdxIfInBounds (vs.toArray.size - 1)) } := upd_ext _
  have hp2 := upd_plain hpl (fun xs => xs.eraseIdxIfInBounds (vs.toArray.size - 1))
  rw [eraseLast vs (by omega)] at hp2
  have H₂ := wr _ (.lst r.dropLast) x₂ ⟨vs.dropLast, hp2, (hvs.mv x₂ haW).dropLast⟩
  have hoy₂ : lookO (setO σ x (.lst r.dropLast)) y = none := by
    rw [lookO_setO (fun e => by subst e; rw [ho] at hoy; cases hoy)]; exact hoy
  refine store_ok H₂.ok.e (H₂.can y hy).1 fun s₃ m lk₃ => ?_
  have hW : ∀ b ∈ [wat env (nmS y)], b ∈ N ++ as := fun b hb => by rw [List.mem_singleton] at hb; rw [hb]; exact List.mem_append_left _ ((H₂.can y hy).1.watIn H.inN)
  exact P s₃ as .next ((x₂.mono fun b hb => by rw [List.mem_singleton] at hb; rw [hb]; exact List.mem_append_right _ ha).trans (mvExt H₂ hy m)) (H₂.store hy hoy₂ ((hv2.mv x₂ haW).mv m.ext hW) m lk₃) ⟨[], rfl, fun _ h => (nomatch h)⟩ rfl

theorem sort_ok {x : Nat} {px ap cp p : Pos} {r : List PV} {is : List Int} (hln : (ap.endLine == cp.line) = true) (H : Fm prog w C h₀ l sc A env T N s ρ σ as) (ho : lookO σ x = some (.lst r)) (hi : allInt r = some is) (h64 : r.length < 64)
    (P : Post prog w C h₀ l sc A env T N s as ρ (setO σ x (.lst ((sortI is).map .int))) .next Q) : wpAny (model prog w) A (exec (.Expr (.Call (.Attribute (.Name (nmS x) px) "sort" ap) [] [] cp) p) env) Q E s := by
  refine wpAny_Expr_any ?_ (not_inter H.ok.e) rfl
  obtain ⟨a, ha, lk, ⟨vs, ⟨k, hpl⟩, hvs⟩, wr⟩ := H.write ho
  refine wpAny_Call_method (T := "list") (id := "list.sort") rfl rfl hln PySem.F.plainAttrs_list PySem.F.slot_list_sort PySem.F.type_list_sort (lk.load H.ok.e.fn ?_)
  refine ⟨⟨_, hpl, rfl⟩, fun b hb => by cases hb; exact ⟨_, hpl, rfl⟩, ?_⟩
  refine PyProof.Rows.callWith_method0 ?_
  have hlen := hvs.length
  refine wpAny_call_entry PySem.F.slot_list_sort ⟨_, hpl, rfl⟩ PySem.F.entry_list_sort (list_sort_tree (vs := vs) (n := k) hpl (IntsL hi hvs) (by omega) fun out ns' h1 h2 h3 => ⟨_, rfl, ?_⟩) (PySem.F.args_list_sort_1 _)
  have hns : ns' = sortI is := List.Perm.eq_of_pairwise (le := (· ≤ ·)) (fun a b _ _ h h' => Int.le_antisymm h h') h3 (sortI_sorted is) (h2.trans (sortI_perm is).symm)
  subst hns
  have hal : a < s.heap.objs.size := Heap.lt_size hpl
  have x₂ : Ext [a] s { s with heap := sortedHeap s.heap a vs out } := Ext.mk' (Nat.le_refl _) (by unfold sortedHeap; rw [Heap.size_after_update, Heap.size_push, Heap.size_push, Heap.size_after_update]; omega) fun b o hb q => by rw [sortedHeap_old (by simpa using hb) (Heap.lt_size q)]; exact q
  obtain ⟨k', hg⟩ := sortedHeap_at (out := out) (vs := vs) hpl
  refine P _ as .next (x₂.mono fun b hb => by rw [List.mem_singleton] at hb; rw [hb]; exact List.mem_append_right _ ha) (wr _ (.lst ((sortI is).map .int)) x₂ ⟨out.toList, ⟨k', by simpa using hg⟩, IntsV h1⟩) ⟨[], rfl, fun _ h => (nomatch h)⟩ rfl
end
end Mine

-- part V39
namespace Mine
open PySem PySem.W PyProof.Rows

theorem setIB (vs : List Value) (k : Nat) (v : Value) : (vs.toArray.setIfInBounds k v) = (vs.set k v).toArray := by
  apply Array.ext'
  simp

section
variable {prog : Program} {w : World} {C : Addr} {h₀ : Heap}
variable {F : Nat → List PV → Option PV} {n : Nat} {l : Nat} {sc : Scope} {A : Around} {env : Env} {T : List Nat} {N : List Addr} {s : Shared} {ρ ρ' : Rho} {σ σ' : Sig} {as : List Addr} {f : Fl} {Q : Flow → Shared → Prop} {E : Value → Shared → Prop}

theorem placeOf_some {len k : Nat} {j : Int} (h : placeOf len j = some k) : (0 ≤ j ∧ j < len ∧ k = j.toNat) ∨ (j < 0 ∧ -(len : Int) ≤ j ∧ k = (j + len).toNat) := by
  unfold placeOf at h
  split at h
  · rename_i hq
    simp only [Bool.and_eq_true, decide_eq_true_eq] at hq
    cases h; exact .inl ⟨hq.1, hq.2, rfl⟩
  · split at h
    · rename_i hq
      simp only [Bool.and_eq_true, decide_eq_true_eq] at hq
      cases h; exact .inr ⟨hq.1, hq.2, rfl⟩
    · cases h

/-- an owned list, written at a place -/
theorem set_ok {a : Addr} {vs : List Value} {r : List PV} {j : Int} {k m : Nat} {u : Tok} {v : Value} {Q' : Unit → Shared → Prop} (hpl : s.heap.get? a = some { cls := .type "list", data := .seq vs.toArray m }) (hlen : vs.length = r.length) (hk : placeOf r.length j = some k) (hz : r.length ≤ 100000)
    (h : Q' () { s with heap := s.heap.update a (Obj.mapSeq fun x => x.setIfInBounds k v) }) : wpAny (model prog w) A (setItem (.ref a) (.int j u) v) Q' E s := by
  rcases placeOf_some hk with ⟨h1, h2, rfl⟩ | ⟨h1, h2, rfl⟩
  · exact ki_setAt (n := m) (items := vs.toArray) hpl h1 (by omega) (by simp [hlen]; exact h2) h
  · refine ki_setBack (n := m) (items := vs.toArray) hpl h1 (by simp [hlen]; exact h2) (by omega) ?_
    rw [List.size_toArray, hlen]
    exact h

theorem putL_ok {x : Nat} {px sp p : Pos} {i e : RE} {r : List PV} {q : PV} {j : Int} {k : Nat} (SR : SoundR prog w C h₀ l (pev F n)) (wfi : wfE sc i = true) (wfe : wfE sc e = true) (H : Fm prog w C h₀ l sc A env T N s ρ σ as) (hpe : evM F n ρ σ e = some q) (hpi : evM F n ρ σ i = some (.int j))
    (ho : lookO σ x = some (.lst r)) (hk : placeOf r.length j = some k) (hz : r.length ≤ 100000)
    (P : Post prog w C h₀ l sc A env T N s as ρ (setO σ x (.lst (putAt r k q))) .next Q) : wpAny (model prog w) A (exec (.Assign [.Subscript (.Name (nmS x) px) i.toE sp] e.toE p) env) Q E s := by
  refine wpAny_Assign_Subscript (evM_ok SR wfe H hpe fun v s₁ x₁ hv => ?_) (by cases e <;> rfl)
  have H₁ := H.ext x₁
  obtain ⟨a, ha, lk, ⟨vs, ⟨m, hpl⟩, hvs⟩, wr⟩ := H₁.write ho
  refine lk.load H₁.ok.e.fn (evM_ok SR wfi H₁ hpi fun iv s₂ x₂ hiv => ?_)
  obtain ⟨t, rfl⟩ := hiv
  have haW : ∀ b ∈ [a], b ∈ N ++ as := fun b hb => by rw [List.mem_singleton] at hb; rw [hb]; exact List.mem_append_right _ ha
  have hpl₂ := x₂.keep a _ (by simp) hpl
  refine set_ok hpl₂ hvs.length hk hz ?_
  have x₃ : Ext [a] s₂ { s₂ with heap := s₂.heap.update a (Obj.mapSeq fun x => x.setIfInBounds k v) } := upd_ext _
  have hp2 := upd_plain hpl₂ (fun x => x.setIfInBounds k v)
  rw [setIB] at hp2
  have x₂₃ : Ext [a] s₁ { s₂ with heap := s₂.heap.update a (Obj.mapSeq fun x => x.setIfInBounds k v) } := (x₂.mono (by simp)).trans x₃
  refine P _ as .next ((x₁.mono (by simp)).trans (x₂₃.mono fun b hb => by rw [List.mem_singleton] at hb; rw [hb]; exact List.mem_append_right _ ha)) (wr _ _ x₂₃ ⟨vs.set k v, hp2, putAt_get (hvs.mv x₂₃ haW) (hv.mv x₂₃ haW)⟩) ⟨[], rfl, fun _ h => (nomatch h)⟩ rfl

theorem putD_ok {x : Nat} {px sp p : Pos} {i e : RE} {ks : List Int} {ps : List PV} {q : PV} {j : Int} (SR : SoundR prog w C h₀ l (pev F n)) (wfi : wfE sc i = true) (wfe : wfE sc e = true) (H : Fm prog w C h₀ l sc A env T N s ρ σ as) (hpe : evM F n ρ σ e = some q) (hpi : evM F n ρ σ i = some (.int j))
    (ho : lookO σ x = some (.dct ks ps)) (hk : ks.contains j = false) (hsm : small ks = true)
    (P : Post prog w C h₀ l sc A env T N s as ρ (setO σ x (.dct (ks ++ [j]) (ps ++ [q]))) .next Q) : wpAny (model prog w) A (exec (.Assign [.Subscript (.Name (nmS x) px) i.toE sp] e.toE p) env) Q E s := by
  refine wpAny_Assign_Subscript (evM_ok SR wfe H hpe fun v s₁ x₁ hv => ?_) (by cases e <;> rfl)
  have H₁ := H.ext x₁
  obtain ⟨a, ha, lk, ⟨vs, hd, hl, hvs, hsy⟩, wr⟩ := H₁.write ho
  refine lk.load H₁.ok.e.fn (evM_ok SR wfi H₁ hpi fun iv s₂ x₂ hiv => ?_)
  obtain ⟨t, rfl⟩ := hiv
  have haW : ∀ b ∈ [a], b ∈ N ++ as := fun b hb => by rw [List.mem_singleton] at hb; rw [hb]; exact List.mem_append_right _ ha
  have hsz : (ks.zip vs).length ≤ sizeLine := by
    have := small_le hsm
    rw [sizeLine_eq, List.length_zip]; omega
  refine wpAny_setItem_pairs (knd := intKind prog w) (hsz := hsz) (intKind_is _ _ j t) (hd.at fun o q => x₂.keep a o (by simp) q) fun h' hd' hs' => ?_
  have x₃ : Ext [a] s₂ { s₂ with heap := h', toks := s₂.toks + 1 } := Ext.sameBut (Nat.le_succ _) hs'
  have x₂₃ : Ext [a] s₁ { s₂ with heap := h', toks := s₂.toks + 1 } := (x₂.mono (by simp)).trans x₃
  have hst : stored (ks.zip vs) j v = (ks ++ [j]).zip (vs ++ [v]) := by
    unfold stored
    rw [if_neg, zip_snoc _ _ _ _ hl]
    intro hany
    obtain ⟨y, hy, e⟩ := List.any_eq_true.mp hany
    have h3 : j ∈ ks := by
      have : y.1 ∈ (ks.zip vs).map (·.1) := List.mem_map.mpr ⟨y, hy, rfl⟩
      rw [zip_fst hl] at this
      rw [← of_decide_eq_true e]; exact this
    rw [List.contains_iff_mem.mpr h3] at hk; cases hk
  rw [hst] at hd'
  refine P _ as .next ((x₁.mono (by simp)).trans (x₂₃.mono fun b hb => by rw [List.mem_singleton] at hb; rw [hb]; exact List.mem_append_right _ ha)) (wr _ (.dct (ks ++ [j]) (ps ++ [q])) x₂₃ ⟨vs ++ [v], hd', by simp [hl], VRs.append (hvs.mv x₂₃ haW) ⟨v, [], rfl, hv.mv x₂₃ haW, rfl⟩, hsy⟩) ⟨[], rfl, fun _ h => (nomatch h)⟩ rfl

theorem inc_ok {x : Nat} {px sp p : Pos} {i e : RE} {op : Operator} {r : List PV} {q₀ q q₁ : PV} {j : Int} {k : Nat} (SR : SoundR prog w C h₀ l (pev F n)) (wfi : wfE sc i = true) (wfe : wfE sc e = true) (H : Fm prog w C h₀ l sc A env T N s ρ σ as) (hpi : evM F n ρ σ i = some (.int j))
    (ho : lookO σ x = some (.lst r)) (hk : placeOf r.length j = some k) (hz : r.length ≤ 100000) (h0 : r[k]? = some q₀) (hs : scalar q₀ = true) (hpe : evM F n ρ σ e = some q) (hop : paug op q₀ q = some q₁)
    (P : Post prog w C h₀ l sc A env T N s as ρ (setO σ x (.lst (putAt r k q₁))) .next Q) : wpAny (model prog w) A (exec (.AugAssign (.Subscript (.Name (nmS x) px) i.toE sp) op e.toE p) env) Q E s := by
  obtain ⟨a, ha, lk, ⟨vs, ⟨m, hpl⟩, hvs⟩, wr⟩ := H.write ho
  refine PyProof.Rows.wpAny_AugAssign_Subscript_any (lk.load H.ok.e.fn (evM_ok SR wfi H hpi fun iv s₂ x₂ hiv => ?_)) (fun _ _ _ => by cases i <;> rfl)
  obtain ⟨t, rfl⟩ := hiv
  obtain ⟨v₀, hv1, hv2⟩ := VRs.get hvs h0
  have hpl₂ := x₂.keep a _ (by simp) hpl
  have H₂ := H.ext x₂
  have get : ∀ (Q' : Value → Shared → Prop), Q' v₀ s₂ → wpAny (model prog w) A (getItem (.ref a) (.int j t)) Q' E s₂ := by
    intro Q' hQ
    rcases placeOf_some hk with ⟨h1, h2, rfl⟩ | ⟨h1, h2, rfl⟩
    · exact wpAny_getItem_list (x := v₀) ⟨_, hpl₂, rfl, _, rfl⟩ h1 (by omega) (by simpa using hv1) hQ
    · exact wpAny_getItem_list_neg (x := v₀) ⟨_, hpl₂, rfl, _, rfl⟩ h1 (by rw [List.size_toArray, hvs.length]; exact h2) (by omega) (by rw [List.size_toArray, hvs.length]; simpa using hv1) hQ
  refine get _ (evM_ok SR wfe H₂ hpe fun v s₃ x₃ hv => aug_op hop (H₂.ext x₃).ok.tk (scalar_any (W := N ++ as) (W' := N ++ as) hs hv2) hv fun u s₄ x₄ hu _ => ?_)
  have haW : ∀ b ∈ [a], b ∈ N ++ as := fun b hb => by rw [List.mem_singleton] at hb; rw [hb]; exact List.mem_append_right _ ha
  have x₂₄ := x₂.trans (x₃.trans x₄)
  have hpl₄ := x₂₄.keep a _ (by simp) hpl
  refine set_ok hpl₄ hvs.length hk hz ?_
  have x₅ : Ext [a] s₄ { s₄ with heap := s₄.heap.update a (Obj.mapSeq fun x => x.setIfInBounds k u) } := upd_ext _
  have hp2 := upd_plain hpl₄ (fun x => x.setIfInBounds k u)
  rw [setIB] at hp2
  have xx : Ext [a] s { s₄ with heap := s₄.heap.update a (Obj.mapSeq fun x => x.setIfInBounds k u) } := (x₂₄.mono (by simp)).trans x₅
  refine P _ as .next (xx.mono fun b hb => by rw [List.mem_singleton] at hb; rw [hb]; exact List.mem_append_right _ ha) (wr _ _ xx ⟨vs.set k u, hp2, putAt_get (hvs.mv xx haW) (hu.mv x₅ haW)⟩) ⟨[], rfl, fun _ h => (nomatch h)⟩ rfl
end
end Mine

-- part V40
namespace Mine
open PySem PySem.W PyProof.Rows

theorem flat_rep {α : Type} (q : α) : ∀ n : Nat, (List.replicate n [q]).flatten = List.replicate n q
  | 0 => rfl
  | n + 1 => by rw [List.replicate_succ, List.flatten_cons, flat_rep q n, List.replicate_succ]; rfl

section
variable {prog : Program} {w : World} {C : Addr} {h₀ : Heap}
variable {F : Nat → List PV → Option PV} {n : Nat} {l : Nat} {sc : Scope} {A : Around} {env : Env} {T : List Nat} {N : List Addr} {s : Shared} {ρ ρ' : Rho} {σ σ' : Sig} {as : List Addr} {f : Fl} {Q : Flow → Shared → Prop} {E : Value → Shared → Prop}

theorem ext_ok {x y : Nat} {px ap py yp yc zp bp cp p : Pos} {z : Int} {zk : Nat} {c : RE} {r ry : List PV} {a : Int} {q : PV} (hz : z = 0) (hxy : x ≠ y) (hln : (ap.endLine == cp.line) = true) (hln2 : (yp.endLine == yc.line) = true) (SR : SoundR prog w C h₀ l (pev F n)) (wf : wfE sc c = true)
    (H : Fm prog w C h₀ l sc A env T N s ρ σ as) (ho : lookO σ x = some (.lst r)) (hoy : lookO σ y = some (.lst (.int a :: ry))) (hc : pev F n ρ c = some (.lst [q])) (h0 : 0 ≤ a) (h1 : a ≤ 100) (hsm : small r = true) (hsy : (PV.int a :: ry).length ≤ 1001)
    (P : Post prog w C h₀ l sc A env T N s as ρ (setO (setO σ y (.lst ry)) x (.lst (r ++ List.replicate a.toNat q))) .next Q) :
    wpAny (model prog w) A (exec (.Expr (.Call (.Attribute (.Name (nmS x) px) "extend" ap) [.BinOp (.Call (.Attribute (.Name (nmS y) py) "pop" yp) [.Constant (.int z) zk zp] [] yc) .Mult c.toE bp] [] cp) p) env) Q E s := by
  refine wpAny_Expr_any ?_ (not_inter H.ok.e) rfl
  obtain ⟨a₀, _, lk₀, oa₀⟩ := H.own.get ho
  refine wpAny_Call_method (T := "list") (id := "list.extend") rfl rfl hln PySem.F.plainAttrs_list PySem.F.slot_list_extend PySem.F.type_list_extend (lk₀.load H.ok.e.fn ?_)
  obtain ⟨vs₀, ⟨k₀, hpl₀⟩, _⟩ := oa₀
  refine ⟨⟨_, hpl₀, rfl⟩, fun b hb => by cases hb; exact ⟨_, hpl₀, rfl⟩, ?_⟩
  show wpAny _ _ (callWith cp (.builtin "list.extend") [Value.ref a₀] [(false, eval (.BinOp (.Call (.Attribute (.Name (nmS y) py) "pop" yp) [.Constant (.int z) zk zp] [] yc) .Mult c.toE bp) env)] []) _ _ _
  refine PySem.P.extend_list (wpAny_BinOp (pop0_eval hz hln2 H hoy hsy fun v s₁ x₁ H₁ hv kl => ?_))
  obtain ⟨t, rfl⟩ := hv
  refine (SR sc c wf).1 A env s₁ _ ρ _ H₁.ok hc _ _ fun u s₂ x₂ hu => ?_
  have H₂ := H₁.ext x₂
  refine bin_ok (x := .int a) (y := .lst [q]) (z := .lst (List.replicate a.toNat [q]).flatten) (by simp [pbin, h0, h1]) H₂.ok.tk H₂.ok.live ⟨t, rfl⟩ hu fun b s₃ x₃ hb => ?_
  rw [flat_rep] at hb
  have H₃ := H₂.ext x₃
  have ho₃ : lookO (setO σ y (.lst ry)) x = some (.lst r) := by rw [lookO_setO (fun e => hxy e.symm)]; exact ho
  obtain ⟨a', ha, lk, ⟨vs, ⟨k, hpl⟩, hvs⟩, wr⟩ := H₃.write ho₃
  obtain ⟨b', us, rfl, hbN, ⟨k2, hpb⟩, hus⟩ := hb
  -- the very list
  have haa : a₀ = a' := by
    have e1 := (kl _ _ lk₀).keep fun b o q => (x₂.trans x₃).keep b o (by simp) q
    have := Look.uniq e1 lk
    cases this; rfl
  subst haa
  have e1 := hvs.length
  have e2 := hus.length
  have hr := small_le hsm
  have hrep : (List.replicate a.toNat q).length ≤ 100 := by rw [List.length_replicate]; omega
  refine ⟨b', vs.toArray, us.toArray, k, k2, by rw [List.size_toArray, e1, sizeLine_eq]; omega, by rw [List.size_toArray, List.size_toArray, e1, e2, sizeLine_eq]; omega, ?_, rfl, hpl, hpb, ?_⟩
  · rw [List.size_toArray, List.size_toArray, e1, e2]
    simp only [Builtin.List.listTooLong, sizeLine_eq]
    simp
    intro _
    have := hrep
    simp at this
    omega
  · have x₄ : Ext [a₀] s₃ { s₃ with heap := s₃.heap.update a₀ (Obj.mapSeq fun xs => xs ++ us.toArray) } := upd_ext _
    have hp2 := upd_plain hpl (fun xs => xs ++ us.toArray)
    have hp3 : (s₃.heap.update a₀ (Obj.mapSeq fun xs => xs ++ us.toArray)).PlainList a₀ (vs ++ us).toArray := by simpa using hp2
    have haW : ∀ b ∈ [a₀], b ∈ N ++ as := fun b hb => by rw [List.mem_singleton] at hb; rw [hb]; exact List.mem_append_right _ ha
    refine P _ as .next (x₁.trans (((x₂.trans x₃).mono (by simp)).trans (x₄.mono fun b hb => by rw [List.mem_singleton] at hb; rw [hb]; exact List.mem_append_right _ ha))) (wr _ _ x₄ ⟨vs ++ us, hp3, VRs.append (hvs.mv x₄ haW) (hus.mv x₄ haW)⟩) ⟨[], rfl, fun _ h => (nomatch h)⟩ rfl
end
end Mine

-- part V41
namespace Mine
open PySem PySem.W PyProof.Rows

section
variable {prog : Program} {w : World} {C : Addr} {h₀ : Heap}
variable {l : Nat} {sc : Scope} {A : Around} {env : Env} {T : List Nat} {N M : List Addr} {s s' : Shared} {ρ ρ' : Rho} {σ σ' : Sig} {as : List Addr}

theorem Owns.sub {W W' : List Addr} (h : ∀ b ∈ W', b ∈ W) {σ : Sig} {as : List Addr} (H : Owns prog w C s env W σ as) : Owns prog w C s env W' σ as :=
  Owns.keep (fun b _ hb q => ⟨q, fun hm => hb (h b hm)⟩) H (fun _ _ _ q => q) fun _ _ _ lk => lk
/-- fewer addresses kept back -/
theorem Fm.less (H : Fm prog w C h₀ l sc A env T (M ++ N) s ρ σ as) (inN : EnvIn env N) : Fm prog w C h₀ l sc A env T N s ρ σ as := by
  have hs : ∀ b ∈ N ++ as, b ∈ M ++ N ++ as := fun b hb => by
    simp only [List.mem_append] at hb ⊢
    rcases hb with h | h
    · exact .inl (.inr h)
    · exact .inr h
  exact ⟨⟨H.ok.a, H.ok.e, H.ok.old, H.ok.tk, fun b hb => H.ok.live b (hs b hb), fun b hb => H.ok.base b (hs b hb), ⟨List.mem_append_left _ inN.1, fun y c h => List.mem_append_left _ (inN.2 y c h)⟩, H.ok.sz,
    fun x p e => let ⟨v, lk, hv⟩ := H.ok.rho x p e; ⟨v, lk, VR.mono (fun b _ hb q => ⟨q, fun hm => hb (hs b hm)⟩) _ _ hv⟩⟩, inN, H.own.sub hs, H.nd, fun a ha hm => H.sep a ha (List.mem_append_right _ hm), H.nm, H.dup, H.can⟩
/-- fresh addresses kept back as well -/
theorem Fm.more (H : Fm prog w C h₀ l sc A env T N s ρ σ as) (x : Ext [] s s') (hM : ∀ b ∈ M, s.heap.objs.size ≤ b ∧ b < s'.heap.objs.size) : Fm prog w C h₀ l sc A env T (M ++ N) s' ρ σ as := by
  have k : ∀ b o, b ∉ N ++ as → s.heap.get? b = some o → s'.heap.get? b = some o ∧ b ∉ M ++ N ++ as := fun b o hb q => ⟨x.keep b o (by simp) q, fun hm => by
    rw [List.append_assoc] at hm
    rcases List.mem_append.mp hm with h | h
    · exact Nat.lt_irrefl _ (Nat.lt_of_lt_of_le (Heap.lt_size q) (hM b h).1)
    · exact hb h⟩
  have ok := H.ok.grow x hM
  rw [← List.append_assoc] at ok
  have asl : ∀ a ∈ as, a < s.heap.objs.size := fun a ha => H.ok.live a (List.mem_append_right _ ha)
  refine ⟨ok, ⟨List.mem_append_right _ H.inN.1, fun y c h => List.mem_append_right _ (H.inN.2 y c h)⟩, Owns.keep k H.own (fun a _ o q => x.keep a o (by simp) q) (fun y _ v lk => lk.keep fun b o q => x.keep b o (by simp) q), H.nd, fun a ha hm => ?_, H.nm, H.dup, fun y hy => ⟨(H.can y hy).1.keep fun b o q => x.keep b o (by simp) q, (H.can y hy).2⟩⟩
  rcases List.mem_append.mp hm with h | h
  · exact Nat.lt_irrefl _ (Nat.lt_of_lt_of_le (asl a ha) (hM a h).1)
  · exact H.sep a ha h

/-- the names of a target bound anew -/
theorem Fm.bind {t : RT} {p : PV} {X : List Addr} (H : Fm prog w C h₀ l sc A env T N s ρ σ as) (ht : ∀ x ∈ t.names, x ∈ T) (hf : freeT t σ = true) (hp : setT t p ρ = some ρ') (m : Mv env t.strs X s s') (hX : ∀ b ∈ X, b ∈ N) (bd : Bound (prog := prog) (w := w) (C := C) s' env (N ++ as) t p) :
    Fm prog w C h₀ l sc A env T N s' ρ' σ as := by
  have hXW : ∀ b ∈ X, b ∈ N ++ as := fun b hb => List.mem_append_left _ (hX b hb)
  have hno : ∀ x ∈ t.names, lookO σ x = none := fun x hx => by
    have := List.all_eq_true.mp hf x hx
    exact Option.isNone_iff_eq_none.mp this
  have hne : ∀ y, y ∉ t.names → nmS y ∉ t.strs := fun y hy hm => by
    obtain ⟨x, hx, e⟩ := List.mem_map.mp hm
    exact hy (by rw [← nmS_inj (H.can x (ht x hx)).2 e]; exact hx)
  -- the trees
  have hρ : (∀ y, y ∉ t.names → look ρ' y = look ρ y) ∧ ∀ y q, y ∈ t.names → look ρ' y = some q → ∃ v, Look s' env (nmS y) v ∧ VR prog w C s'.heap (N ++ as) q v := by
    cases t with
    | nm x px =>
      cases hp
      refine ⟨fun y hy => ?_, fun y q hy hq => ?_⟩
      · have : x ≠ y := fun e => hy (by simp [RT.names, e])
        rw [look_cons, if_neg this, delR_look, if_neg fun e => this e.symm]
      · simp only [RT.names, List.mem_singleton] at hy
        subst hy
        rw [look_cons, if_pos rfl] at hq; cases hq
        exact bd
    | tp x px y py k pp =>
      unfold setT at hp
      (try dsimp only at hp)
      split at hp
      · rename_i a b
        cases hp
        refine ⟨fun z hz => ?_, fun z q hz hq => ?_⟩
        · simp only [RT.names, List.mem_cons, List.not_mem_nil, or_false, not_or] at hz
          rw [look_cons, if_neg (fun e => hz.2 e.symm), look_cons, if_neg (fun e => hz.1 e.symm), delR_look, if_neg hz.2, delR_look, if_neg hz.1]
        · simp only [RT.names, List.mem_cons, List.not_mem_nil, or_false] at hz
          rw [look_cons] at hq
          by_cases e : y = z
          · rw [if_pos e] at hq; cases hq; subst e; exact bd.2
          · rw [if_neg e, look_cons] at hq
            rcases hz with rfl | rfl
            · rw [if_pos rfl] at hq; cases hq; exact bd.1
            · exact absurd rfl e
      · cases hp
  refine ⟨⟨H.ok.a, H.ok.e, fun b o q => m.ext.keep b o (fun hb => ?_) (H.ok.old b o q), Nat.lt_of_lt_of_le H.ok.tk m.ext.toks, fun b hb => Nat.lt_of_lt_of_le (H.ok.live b hb) m.ext.size, H.ok.base, H.ok.inW, Nat.lt_of_lt_of_le H.ok.sz m.ext.size, ?_⟩, H.inN, ?_, H.nd, H.sep, ?_, H.dup, fun y hy => ⟨m.can _ (H.can y hy).1, (H.can y hy).2⟩⟩
  · rw [H.ok.base b (hXW b hb)] at q; cases q
  · intro y q hy
    by_cases e : y ∈ t.names
    · exact hρ.2 y q e hy
    · rw [hρ.1 y e] at hy
      obtain ⟨u, lu, hu⟩ := H.ok.rho y q hy
      exact ⟨u, m.look _ _ (hne y e) lu, hu.mv m.ext hXW⟩
  · refine Owns.keep (fun b o hb q => ⟨m.ext.keep b o (fun hm => hb (hXW b hm)) q, hb⟩) H.own (fun a ha o q => m.ext.keep a o (fun hm => H.sep a ha (hX a hm)) q) fun y hy u lu => m.look _ _ (hne y fun e => ?_) lu
    exact lookO_none (hno y e) hy
  · intro y hy
    have e : y ∉ t.names := fun e => lookO_none (hno y e) hy
    rw [hρ.1 y e]
    exact H.nm y hy
end
end Mine

-- part V42
namespace Mine
open PySem PySem.W PyProof.Rows

def isLcomp : RE → Bool
  | .lcomp _ _ _ _ _ => true
  | _ => false
def isName : RE → Bool
  | .name _ _ => true
  | _ => false
mutual
def wfS (sc : Scope) (T : List Nat) : RS → Bool
  | .asg x _ e _ => T.contains x && wfE sc e && !isComp e
  | .asgC x _ e _ => T.contains x && wfE sc e && isLcomp e
  | .own x _ e _ => T.contains x && wfE sc e && (isListy e || isLcomp e)
  | .ownD x _ _ _ => T.contains x
  | .copy x _ y _ _ _ => T.contains x && isName y
  | .tup2 _ _ _ _ _ _ _ _ => false
  | .aug x _ _ e _ => T.contains x && wfE sc e
  | .ifs t b o _ => wfE sc t && wfSs sc T b && wfSs sc T o
  | .whl t b _ => wfE sc t && wfSs sc T b
  | .for_ t it b _ => (t.names.all T.contains) && wfI sc it && RT.kindB it t && t.goodB && wfSs sc T b
  | .forO x _ _ _ b _ => T.contains x && wfSs sc T b
  | .ret e _ => wfE sc e
  | .retO _ _ _ => true
  | .app _ _ ap e cp _ => (ap.endLine == cp.line) && wfE sc e
  | .ext _ _ ap _ _ yp yc _ _ _ c _ cp _ => (ap.endLine == cp.line) && (yp.endLine == yc.line) && wfE sc c
  | .pop0 _ _ ap _ _ _ cp _ => ap.endLine == cp.line
  | .popA y _ _ _ ap cp _ => T.contains y && (ap.endLine == cp.line)
  | .sort _ _ ap cp _ => ap.endLine == cp.line
  | .put _ _ i e _ _ => wfE sc i && wfE sc e
  | .inc _ _ i _ e _ _ => wfE sc i && wfE sc e
  | .cont _ => true
  | .raw _ => true
def wfSs (sc : Scope) (T : List Nat) : List RS → Bool
  | [] => true
  | s :: r => wfS sc T s && wfSs sc T r
end

section
variable {prog : Program} {w : World} {C : Addr} {h₀ : Heap}
variable {F : Nat → List PV → Option PV} {n : Nat} {l : Nat} {sc : Scope} {A : Around} {env : Env} {T : List Nat} {N : List Addr} {s s₁ : Shared} {ρ ρ' ρ₁ : Rho} {σ σ' σ₁ : Sig} {as as₁ : List Addr} {f : Fl} {Q : Flow → Shared → Prop} {E : Value → Shared → Prop}

theorem Post.from (P : Post prog w C h₀ l sc A env T N s as ρ' σ' f Q) (x : Ext (pl env ++ as) s s₁) (ha : ∃ pre, as₁ = pre ++ as ∧ ∀ a ∈ pre, s.heap.objs.size ≤ a) : Post prog w C h₀ l sc A env T N s₁ as₁ ρ' σ' f Q := by
  intro s' as' fl x' H' ⟨pre', h1, h2⟩ hf
  obtain ⟨pre, rfl, h3⟩ := ha
  refine P s' as' fl ?_ H' ⟨pre' ++ pre, by rw [h1, List.append_assoc], fun a ha => ?_⟩ hf
  · have : Ext (pre ++ (pl env ++ as)) s s' := (x.mono fun b hb => List.mem_append_right _ hb).trans (x'.mono fun b hb => by
      simp only [List.mem_append] at hb ⊢
      rcases hb with h | h | h
      · exact .inr (.inl h)
      · exact .inl h
      · exact .inr (.inr h))
    exact this.drop h3
  · rcases List.mem_append.mp ha with h | h
    · exact Nat.le_trans x.size (h2 a h)
    · exact h3 a h
/-- the same number of owned things: the same addresses -/
theorem same_as (H₁ : Fm prog w C h₀ l sc A env T N s₁ ρ₁ σ₁ as₁) (H : Fm prog w C h₀ l sc A env T N s ρ σ as) (hs : sameNm σ σ₁ = true) (ha : ∃ pre, as₁ = pre ++ as ∧ ∀ a ∈ pre, s.heap.objs.size ≤ a) : as₁ = as := by
  obtain ⟨pre, rfl, _⟩ := ha
  have e1 := H₁.own.length
  have e2 := H.own.length
  have e3 : σ.length = σ₁.length := by
    have := congrArg List.length (eq_of_beq (show (σ.map (·.1) == σ₁.map (·.1)) = true from hs))
    simpa using this
  rw [List.length_append] at e1
  have : pre.length = 0 := by omega
  rw [List.length_eq_zero_iff.mp this]; rfl

variable (prog w C h₀ F l sc T) in
def SXs (n : Nat) : Prop := ∀ ss, wfSs sc T ss = true → ∀ ρ σ ρ' σ' f (A : Around) (env : Env) (N : List Addr) (s : Shared) (as : List Addr) (Q : Flow → Shared → Prop) (E : Value → Shared → Prop), xs F n ρ σ ss = some (ρ', σ', f) → Fm prog w C h₀ l sc A env T N s ρ σ as →
  Post prog w C h₀ l sc A env T N s as ρ' σ' f Q → wpAny (model prog w) A (execs (toSs ss) env) Q E s

theorem whl_ok {t : RE} {b : List RS} {p : Pos} {k : Nat} (SR : ∀ m, SoundR prog w C h₀ l (pev F m)) (IH : ∀ m, m < k → SXs prog w C h₀ F l sc T m) (wt : wfE sc t = true) (wb : wfSs sc T b = true) (hp : wl F k ρ σ t b = some (ρ', σ', f)) (H : Fm prog w C h₀ l sc A env T N s ρ σ as)
    (P : Post prog w C h₀ l sc A env T N s as ρ' σ' f Q) : wpAny (model prog w) A (exec (.While t.toE (toSs b) [] p) env) Q E s := by
  refine wpAny_While (codeAny_whileLoop (fun j s₁ => ∃ ρ₁ σ₁, j ≤ k ∧ wl F j ρ₁ σ₁ t b = some (ρ', σ', f) ∧ Fm prog w C h₀ l sc A env T N s₁ ρ₁ σ₁ as ∧ Ext (pl env ++ as) s s₁) ?_ k ⟨ρ, σ, Nat.le_refl _, hp, H, Ext.refl _ _⟩)
  rintro j s₁ ⟨ρ₁, σ₁, hj, hw, H₁, x₁⟩
  have P₁ := P.from x₁ ⟨[], rfl, fun _ h => (nomatch h)⟩
  cases j with
  | zero => cases hw
  | succ j =>
    rw [wl] at hw
    cases ht : evT F j ρ₁ σ₁ t with
    | none => rw [ht] at hw; cases hw
    | some c =>
      rw [ht] at hw
      refine evT_ok (SR j) wt H₁ ht fun s₂ x₂ => ?_
      have H₂ := H₁.ext x₂
      cases c with
      | false =>
        cases hw
        simp only [Bool.false_eq_true, if_false]
        exact wpAny_execs_nil (P₁ s₂ as .next (x₂.mono (by simp)) H₂ ⟨[], rfl, fun _ h => (nomatch h)⟩ rfl)
      | true =>
        (try dsimp only at hw)
        simp only [if_true]
        cases hx : xs F j ρ₁ σ₁ b with
        | none => rw [hx] at hw; cases hw
        | some q =>
          obtain ⟨ρ₂, σ₂, f₂⟩ := q
          rw [hx] at hw
          refine IH j (by omega) b wb ρ₁ σ₁ ρ₂ σ₂ f₂ A env N s₂ as _ _ hx H₂ fun s₃ as₃ fl x₃ H₃ ha hf => ?_
          cases f₂ with
          | ret r =>
            cases hw
            obtain ⟨v, rfl, hv⟩ := hf
            obtain ⟨pre, e1, e2⟩ := ha
            exact P₁ s₃ as₃ (.ret v) ((x₂.mono (by simp)).trans x₃) H₃ ⟨pre, e1, fun a h => Nat.le_trans x₂.size (e2 a h)⟩ ⟨v, rfl, hv⟩
          | next =>
            (try dsimp only at hw)
            split at hw
            · rename_i hsn
              have e := same_as H₃ H₂ hsn ha
              subst e
              rw [show fl = Flow.next from hf]
              exact ⟨j, Nat.lt_succ_self _, ρ₂, σ₂, by omega, hw, H₃, x₁.trans ((x₂.mono (by simp)).trans x₃)⟩
            · cases hw
          | cont =>
            (try dsimp only at hw)
            split at hw
            · rename_i hsn
              have e := same_as H₃ H₂ hsn ha
              subst e
              rw [show fl = Flow.cont from hf]
              exact ⟨j, Nat.lt_succ_self _, ρ₂, σ₂, by omega, hw, H₃, x₁.trans ((x₂.mono (by simp)).trans x₃)⟩
            · cases hw
end
end Mine

-- part V43
namespace Mine
open PySem PySem.W PyProof.Rows

theorem pairsB_ok : ∀ {l : List PV}, pairsB l = true → pairsOnly l
  | [], _ => fun p hp => by cases hp
  | .tup [a, b] :: l, h => fun p hp => by
    rcases List.mem_cons.mp hp with rfl | hp
    · exact ⟨a, b, rfl⟩
    · exact pairsB_ok (l := l) h p hp
  | .tup [] :: l, h | .tup [_] :: l, h | .tup (_ :: _ :: _ :: _) :: l, h => by cases h
  | .any :: l, h | .none :: l, h | .bool _ :: l, h | .int _ :: l, h | .flt _ :: l, h | .str _ :: l, h | .lst _ :: l, h | .bag _ :: l, h | .dct _ _ :: l, h
  | .set _ _ :: l, h | .graph _ :: l, h | .rng _ _ :: l, h => by cases h
theorem freeT_same {t : RT} {σ σ' : Sig} (hs : sameNm σ σ' = true) (h : freeT t σ = true) : freeT t σ' = true := by
  have e : σ.map (·.1) = σ'.map (·.1) := eq_of_beq (show (σ.map (·.1) == σ'.map (·.1)) = true from hs)
  unfold freeT at h ⊢
  rw [List.all_eq_true] at h ⊢
  intro x hx
  have h1 := lookO_none (Option.isNone_iff_eq_none.mp (h x hx))
  cases h2 : lookO σ' x with
  | none => rfl
  | some o => exact absurd (lookO_mem h2) (by rw [← e]; exact h1)

section
variable {prog : Program} {w : World} {C : Addr} {h₀ : Heap}
variable {F : Nat → List PV → Option PV} {n : Nat} {l : Nat} {sc : Scope} {A : Around} {env : Env} {T : List Nat} {N : List Addr} {s s₁ : Shared} {ρ ρ' ρ₁ : Rho} {σ σ' σ₁ : Sig} {as as₁ : List Addr} {f : Fl} {Q : Flow → Shared → Prop} {E : Value → Shared → Prop}

theorem flIs_less {M : List Addr} {fl : Flow} (h : FlIs prog w C (M ++ N) s f fl) : FlIs prog w C N s f fl := by
  cases f with
  | next => exact h
  | cont => exact h
  | ret p => obtain ⟨v, e, hv⟩ := h; exact ⟨v, e, VR.mono (fun b _ hb q => ⟨q, fun hm => hb (List.mem_append_right _ hm)⟩) _ _ hv⟩

theorem for_ok {t : RT} {it : RI} {b : List RS} {p : Pos} {k m : Nat} {vs : List PV} (B : Base h₀) (SR : SoundR prog w C h₀ l (pev F m)) (IH : ∀ m, m < k → SXs prog w C h₀ F l sc T m) (ht : ∀ x ∈ t.names, x ∈ T) (wi : wfI sc it = true) (kb : RT.kindB it t = true) (tg : t.goodB = true) (wb : wfSs sc T b = true)
    (hfr : freeT t σ = true) (hi : pitems (pev F m) ρ it = some (vs, false)) (hpr : t.isPair = true → pairsOnly vs) (hp : fl F k ρ σ t b vs = some (ρ', σ', f)) (H : Fm prog w C h₀ l sc A env T N s ρ σ as)
    (P : Post prog w C h₀ l sc A env T N s as ρ' σ' f Q) : wpAny (model prog w) A (exec (.For t.toE it.toE (toSs b) [] p) env) Q E s := by
  obtain ⟨wi1, wi2⟩ := wfI_wf wi
  refine wpAny_For (items_ok (Q := fun itv s₂ => codeAny (model prog w) A (.forLoop t.toE itv (toSs b) [] env) (fun r s' => match r with | .ok f => Q f s' | .error e => cameBackBy (model prog w) A env E e s') s₂) B wi1 (fun e he => (SR sc e (wi2 e he)).1) H.ok hi fun s₂ I wr xs' x₂ sim hwr src => ?_) (fun x => it.folded env x)
  have hxs : xs' = vs := sim
  subst hxs
  have H₂ : Fm prog w C h₀ l sc A env T (wr ++ N) s₂ ρ σ as := H.more x₂ hwr
  have offwr : EnvOff env wr := H.ok.inW.off H.ok.live fun b hb => (hwr b hb).1
  have hold : ∀ b ∈ N ++ as, b ∉ wr := fun b hb q => Nat.lt_irrefl _ (Nat.lt_of_lt_of_le (H.ok.live b hb) (hwr b q).1)
  obtain ⟨St, wk, st0⟩ := src A env (wr ++ N ++ as) t (pl env ++ as) sc H.ok.a.handled (RT.kindB_ok kb) (RT.goodB_ok tg) hpr H.ok.e H₂.ok.inW offwr (fun b hb => List.mem_append_left _ (List.mem_append_left _ hb))
    (fun b hb => by
      rcases List.mem_append.mp hb with h | h
      · exact ⟨List.mem_append_left _ (List.mem_append_right _ (pl_sub H.inN b h)), hold b (List.mem_append_left _ (pl_sub H.inN b h))⟩
      · exact ⟨List.mem_append_right _ h, hold b (List.mem_append_right _ h)⟩)
    (fun b hb _ => by
      rw [List.append_assoc] at hb
      exact List.mem_append.mp hb)
  refine codeAny_forLoop_any (fun j s₁ => ∃ i ρ₁ σ₁ m, j = xs'.length + 1 - i ∧ i ≤ xs'.length ∧ m ≤ k ∧ fl F m ρ₁ σ₁ t b (xs'.drop i) = some (ρ', σ', f) ∧ Fm prog w C h₀ l sc A env T (wr ++ N) s₁ ρ₁ σ₁ as ∧ St i s₁.heap ∧ freeT t σ₁ = true ∧ Ext (wr ++ (pl env ++ as)) s₂ s₁) ?_ (xs'.length + 1)
    ⟨0, ρ, σ, k, rfl, Nat.zero_le _, Nat.le_refl _, by simpa using hp, H₂, st0 _ fun _ _ q => q, hfr, Ext.refl _ _⟩
  rintro j s₁ ⟨i, ρ₁, σ₁, m, rfl, hil, hm, hfl, H₁, st₁, hf₁, x₁⟩
  have fin : ∀ (s₃ : Shared) (as₃ : List Addr) (fl : Flow), Ext (wr ++ (pl env ++ as)) s₁ s₃ → Fm prog w C h₀ l sc A env T (wr ++ N) s₃ ρ' σ' as₃ → (∃ pre, as₃ = pre ++ as ∧ ∀ a ∈ pre, s₁.heap.objs.size ≤ a) → FlIs prog w C (wr ++ N) s₃ f fl → Q fl s₃ := by
    intro s₃ as₃ fl x₃ H₃ ⟨pre, e1, e2⟩ hfl
    refine P s₃ as₃ fl (Ext.drop (N := wr) (((x₂.mono (by simp)).trans x₁).trans x₃) fun b hb => (hwr b hb).1) (H₃.less H.inN) ⟨pre, e1, fun a h => Nat.le_trans (Nat.le_trans x₂.size x₁.size) (e2 a h)⟩ (flIs_less hfl)
  cases m with
  | zero => cases hfl
  | succ m =>
    rcases Nat.lt_or_ge i xs'.length with hlt | hge
    · rw [List.drop_eq_getElem_cons hlt, fl] at hfl
      cases hst : setT t xs'[i] ρ₁ with
      | none => rw [hst] at hfl; cases hfl
      | some ρ₂ =>
        rw [hst] at hfl
        (try dsimp only at hfl)
        cases hx : xs F m ρ₂ σ₁ b with
        | none => rw [hx] at hfl; cases hfl
        | some q =>
          obtain ⟨ρ₃, σ₃, f₃⟩ := q
          rw [hx] at hfl
          refine wpAny_mono (wk.turn i xs'[i] s₁ (fun _ s₃ => Mv env t.strs (wr ++ t.names.map fun x => wat env (nmS x)) s₁ s₃ ∧ St (i + 1) s₃.heap ∧ Bound (prog := prog) (w := w) (C := C) s₃ env (wr ++ N ++ as) t xs'[i]) _ (by simp [hlt]) st₁ (fun x hx => (H₁.can x (ht x hx)).1) fun s' m st' bd => ⟨m, st', bd⟩) ?_ fun _ _ h => h
          rintro r s₄ ⟨v, rfl, h₄⟩
          refine wpAny_mono h₄ (fun _ s₅ h₅ => wpAny_mono h₅ (fun _ s₆ h₆ => ?_) fun _ _ h => h) fun _ _ h => h
          obtain ⟨mv, st₆, bd⟩ := h₆
          have hwat : ∀ b ∈ t.names.map fun x => wat env (nmS x), b ∈ pl env := fun b hb => by
            obtain ⟨x, hx, rfl⟩ := List.mem_map.mp hb
            exact (H₁.can x (ht x hx)).1.watIn (pl_in env)
          have hX : ∀ b ∈ wr ++ t.names.map fun x => wat env (nmS x), b ∈ wr ++ N := fun b hb => by
            rcases List.mem_append.mp hb with h | h
            · exact List.mem_append_left _ h
            · exact List.mem_append_right _ (pl_sub H.inN b (hwat b h))
          have H₆ := H₁.bind ht hf₁ hst mv hX bd
          have x₆ : Ext (wr ++ (pl env ++ as)) s₁ s₆ := mv.ext.mono fun b hb => by
            rcases List.mem_append.mp hb with h | h
            · exact List.mem_append_left _ h
            · exact List.mem_append_right _ (List.mem_append_left _ (hwat b h))
          refine IH m (by omega) b wb ρ₂ σ₁ ρ₃ σ₃ f₃ A env (wr ++ N) s₆ as _ _ hx H₆ fun s₇ as₇ fl x₇ H₇ ha hf => ?_
          have x₇' : Ext (wr ++ (pl env ++ as)) s₆ s₇ := x₇.mono fun b hb => List.mem_append_right _ hb
          cases f₃ with
          | ret r =>
            cases hfl
            obtain ⟨v, rfl, hv⟩ := hf
            obtain ⟨pre, e1, e2⟩ := ha
            exact fin s₇ as₇ (.ret v) (x₆.trans x₇') H₇ ⟨pre, e1, fun a h => Nat.le_trans x₆.size (e2 a h)⟩ ⟨v, rfl, hv⟩
          | next =>
            (try dsimp only at hfl)
            split at hfl
            · rename_i hsn
              have e := same_as H₇ H₆ hsn ha
              subst e
              rw [show fl = Flow.next from hf]
              exact ⟨xs'.length + 1 - (i + 1), by omega, i + 1, ρ₃, σ₃, m, rfl, hlt, by omega, hfl, H₇, wk.keep _ _ _ st₆ fun b o hb q => x₇.keep b o hb q, freeT_same hsn hf₁, x₁.trans (x₆.trans x₇')⟩
            · cases hfl
          | cont =>
            (try dsimp only at hfl)
            split at hfl
            · rename_i hsn
              have e := same_as H₇ H₆ hsn ha
              subst e
              rw [show fl = Flow.cont from hf]
              exact ⟨xs'.length + 1 - (i + 1), by omega, i + 1, ρ₃, σ₃, m, rfl, hlt, by omega, hfl, H₇, wk.keep _ _ _ st₆ fun b o hb q => x₇.keep b o hb q, freeT_same hsn hf₁, x₁.trans (x₆.trans x₇')⟩
            · cases hfl
    · have hi' : i = xs'.length := Nat.le_antisymm hil hge
      subst hi'
      rw [List.drop_length, fl] at hfl
      cases hfl
      refine wpAny_mono (wk.done s₁ (fun r s₃ => r = none ∧ Mv env [] wr s₁ s₃) _ st₁ fun s' m => ⟨rfl, m⟩) ?_ fun _ _ h => h
      rintro r s₃ ⟨rfl, mv⟩
      refine wpAny_execs_nil (fin s₃ as .next (mv.ext.mono fun b hb => List.mem_append_left _ hb) ?_ ⟨[], rfl, fun _ h => (nomatch h)⟩ rfl)
      have hb0 : Bound (prog := prog) (w := w) (C := C) s₃ env (wr ++ N ++ as) t .none ∨ True := .inr trivial
      -- only the iterator has turned
      have hX : ∀ b ∈ wr, b ∈ wr ++ N ++ as := fun b hb => List.mem_append_left _ (List.mem_append_left _ hb)
      refine ⟨H₁.ok.mv mv hX (fun _ _ _ q => by cases q), H₁.inN, Owns.keep (fun b o hb q => ⟨mv.ext.keep b o (fun hm => hb (hX b hm)) q, hb⟩) H₁.own (fun a ha o q => mv.ext.keep a o (fun hm => H₁.sep a ha (List.mem_append_left _ hm)) q) (fun y _ u lu => mv.look _ _ (by simp) lu), H₁.nd, H₁.sep, H₁.nm, H₁.dup, fun y hy => ⟨mv.can _ (H₁.can y hy).1, (H₁.can y hy).2⟩⟩
end
end Mine

-- part V44
namespace Mine
open PySem PySem.W PyProof.Rows

/-- the address under a name, by place -/
def adrOf : List Nat → List Addr → Nat → Option Addr
  | y :: ys, a :: as, x => if y = x then some a else adrOf ys as x
  | _, _, _ => none

section
variable {prog : Program} {w : World} {C : Addr} {h₀ : Heap}
variable {F : Nat → List PV → Option PV} {n : Nat} {l : Nat} {sc : Scope} {A : Around} {env : Env} {T : List Nat} {N : List Addr} {s s₁ : Shared} {ρ ρ' ρ₁ : Rho} {σ σ' σ₁ : Sig} {as as₁ : List Addr} {f : Fl} {Q : Flow → Shared → Prop} {E : Value → Shared → Prop}

theorem Owns.adr {s : Shared} {env : Env} {W : List Addr} : ∀ {σ : Sig} {as : List Addr} {x : Nat} {o : Own}, Owns prog w C s env W σ as → lookO σ x = some o → ∃ a ∈ as, adrOf (σ.map (·.1)) as x = some a ∧ Look s env (nmS x) (.ref a) ∧ OwnAt prog w C s.heap W o a
  | [], _, _, _, _, h => by simp [lookO] at h
  | (y, o') :: σ, _, x, o, H, h => by
    obtain ⟨a, r, rfl, lk, oa, hr⟩ := H
    rw [lookO_cons] at h
    by_cases e : y = x
    · rw [if_pos e] at h; cases h; subst e; exact ⟨a, by simp, by simp [adrOf], lk, oa⟩
    · rw [if_neg e] at h
      obtain ⟨b, hb, h0, h1, h2⟩ := Owns.adr hr h
      exact ⟨b, by simp [hb], by simp only [List.map_cons, adrOf, if_neg e]; exact h0, h1, h2⟩

theorem forO_ok {x y : Nat} {px py : Pos} {b : List RS} {p : Pos} {k : Nat} (IH : ∀ m, m < k → SXs prog w C h₀ F l sc T m) (hx : x ∈ T) (wb : wfSs sc T b = true) (hno : lookO σ x = none) (hp : fo F k ρ σ x y b 0 = some (ρ', σ', f)) (H : Fm prog w C h₀ l sc A env T N s ρ σ as)
    (P : Post prog w C h₀ l sc A env T N s as ρ' σ' f Q) : wpAny (model prog w) A (exec (.For (.Name (nmS x) px) (.Name (nmS y) py) (toSs b) [] p) env) Q E s := by
  have hoy : ∃ r, lookO σ y = some (.lst r) := by
    cases k with
    | zero => cases hp
    | succ k =>
      rw [fo] at hp
      cases h : lookO σ y with
      | none => rw [h] at hp; cases hp
      | some o =>
        cases o with
        | lst r => exact ⟨r, rfl⟩
        | dct _ _ => rw [h] at hp; cases hp
  obtain ⟨r₀, hoy⟩ := hoy
  obtain ⟨a, ha, hadr, lk, ⟨vs₀, hpl₀, _⟩⟩ := H.own.adr hoy
  refine wpAny_For (lk.load H.ok.e.fn (wpAny_pyIter_list hpl₀.isList ?_)) (fun _ => rfl)
  generalize hI : s.heap.objs.size = I
  have x₂ : Ext [] s { s with heap := s.heap.push { cls := .type "list_iterator", data := .fields #[.ref a, .int 0 0] } } := Ext.push _ _
  have hM : ∀ c ∈ [I], s.heap.objs.size ≤ c ∧ c < ({ s with heap := s.heap.push { cls := .type "list_iterator", data := .fields #[.ref a, .int 0 0] } } : Shared).heap.objs.size := by
    intro c hc; rw [List.mem_singleton] at hc; rw [hc]
    exact ⟨Nat.le_of_eq hI, by show I < (Heap.push _ _).objs.size; rw [Heap.size_push, hI]; exact Nat.lt_succ_self _⟩
  have H₂ : Fm prog w C h₀ l sc A env T ([I] ++ N) _ ρ σ as := H.more x₂ hM
  have hit₀ : ({ s with heap := s.heap.push { cls := .type "list_iterator", data := .fields #[.ref a, .int 0 0] } } : Shared).heap.IsListIter I a 0 := ⟨_, by rw [← hI]; exact Heap.get?_push_size _ rfl, rfl, rfl⟩
  have haI : a ≠ I := fun e => by have := H.ok.live a (List.mem_append_right _ ha); rw [hI, e] at this; exact Nat.lt_irrefl _ this
  have offI : EnvOff env [I] := H.ok.inW.off H.ok.live fun c hc => by rw [List.mem_singleton] at hc; rw [hc]; exact Nat.le_of_eq hI
  generalize ({ s with heap := s.heap.push { cls := .type "list_iterator", data := .fields #[.ref a, .int 0 0] } } : Shared) = s₂ at x₂ hM H₂ hit₀ ⊢
  refine codeAny_forLoop_any (fun j s₁ => ∃ i ρ₁ σ₁, j ≤ k ∧ fo F j ρ₁ σ₁ x y b i = some (ρ', σ', f) ∧ Fm prog w C h₀ l sc A env T ([I] ++ N) s₁ ρ₁ σ₁ as ∧ s₁.heap.IsListIter I a i ∧ sameNm σ σ₁ = true ∧ Ext ([I] ++ (pl env ++ as)) s₂ s₁) ?_ k
    ⟨0, ρ, σ, Nat.le_refl _, hp, H₂, hit₀, beq_self_eq_true _, Ext.refl _ _⟩
  rintro j s₁ ⟨i, ρ₁, σ₁, hj, hfo, H₁, hit₁, hsn₁, x₁⟩
  have fin : ∀ (s₃ : Shared) (as₃ : List Addr) (fl : Flow), Ext ([I] ++ (pl env ++ as)) s₁ s₃ → Fm prog w C h₀ l sc A env T ([I] ++ N) s₃ ρ' σ' as₃ → (∃ pre, as₃ = pre ++ as ∧ ∀ a ∈ pre, s₁.heap.objs.size ≤ a) → FlIs prog w C ([I] ++ N) s₃ f fl → Q fl s₃ := by
    intro s₃ as₃ fl x₃ H₃ ⟨pre, e1, e2⟩ hfl
    refine P s₃ as₃ fl (Ext.drop (N := [I]) (((x₂.mono (by simp)).trans x₁).trans x₃) fun b hb => (hM b hb).1) (H₃.less H.inN) ⟨pre, e1, fun a h => Nat.le_trans (Nat.le_trans x₂.size x₁.size) (e2 a h)⟩ (flIs_less hfl)
  cases j with
  | zero => cases hfo
  | succ j =>
    rw [fo] at hfo
    cases ho : lookO σ₁ y with
    | none => rw [ho] at hfo; cases hfo
    | some o =>
      cases o with
      | dct _ _ => rw [ho] at hfo; cases hfo
      | lst r =>
        rw [ho] at hfo
        (try dsimp only at hfo)
        obtain ⟨a', ha', hadr', lk', ⟨vs, hpl, hvs⟩⟩ := H₁.own.adr ho
        have hnm : σ.map (·.1) = σ₁.map (·.1) := eq_of_beq (show (σ.map (·.1) == σ₁.map (·.1)) = true from hsn₁)
        have haa : a' = a := by rw [← hnm, hadr] at hadr'; cases hadr'; rfl
        subst haa
        have hxo : lookO σ₁ x = none := by
          cases h : lookO σ₁ x with
          | none => rfl
          | some o => exact absurd (lookO_mem h) (by rw [← hnm]; exact lookO_none hno)
        cases hi : r[i]? with
        | none =>
          rw [hi] at hfo; cases hfo
          have hge : vs.toArray[i]? = none := by
            have h1 := List.getElem?_eq_none_iff.mp hi
            rw [List.getElem?_toArray]
            exact List.getElem?_eq_none (by rw [hvs.length]; exact h1)
          refine grown (wpAny_pyNext_list_end H.ok.a.handled hit₁ hpl.isList hge fun h' he' _ hsz => ?_)
          have x₃ : Ext [I] s₁ { s₁ with heap := h' } := Ext.mk' (Nat.le_refl _) hsz fun c o hc q => he' c o (by simpa using hc) q
          have mv : Mv env [] [I] s₁ { s₁ with heap := h' } := Mv.off x₃ offI
          have hX : ∀ c ∈ [I], c ∈ [I] ++ N ++ as := fun c hc => List.mem_append_left _ (List.mem_append_left _ hc)
          exact wpAny_execs_nil (fin _ as .next (x₃.mono fun c hc => List.mem_append_left _ hc) ⟨H₁.ok.mv mv hX (fun _ _ _ q => by cases q), H₁.inN, Owns.keep (fun c o hc q => ⟨mv.ext.keep c o (fun hm => hc (hX c hm)) q, hc⟩) H₁.own (fun c hc o q => mv.ext.keep c o (fun hm => H₁.sep c hc (List.mem_append_left _ hm)) q) (fun _ _ u lu => mv.look _ _ (by simp) lu), H₁.nd, H₁.sep, H₁.nm, H₁.dup, fun z hz => ⟨mv.can _ (H₁.can z hz).1, (H₁.can z hz).2⟩⟩ ⟨[], rfl, fun _ h => (nomatch h)⟩ rfl)
        | some q =>
          rw [hi] at hfo
          (try dsimp only at hfo)
          split at hfo
          · cases hfo
          · rename_i hsc
            obtain ⟨v, hv1, hv2⟩ := VRs.get hvs hi
            refine wpAny_pyNext_list_item hit₁ hpl.isList (x := v) (by simpa using hv1) fun h' hit' hs' => ?_
            have x₃ : Ext [I] s₁ { s₁ with heap := h' } := Ext.sameBut (Nat.le_refl _) hs'
            have mv₁ : Mv env [nmS x] [I] s₁ { s₁ with heap := h' } := Mv.off x₃ offI
            refine wpAny_pure (wpAny_assign_Name ?_)
            have can₁ := mv₁.can _ (H₁.can x hx).1
            refine store_ok H₁.ok.e can₁ fun s₄ mv₂ lk₄ => ?_
            have hwatN : wat env (nmS x) ∈ N := can₁.watIn H.inN
            have mv : Mv env (RT.strs (.nm x px)) ([I] ++ [wat env (nmS x)]) s₁ s₄ := (mv₁.mono (fun c hc => List.mem_append_left _ hc) (by simp [RT.strs, RT.names])).trans (mv₂.mono (fun c hc => List.mem_append_right _ hc) (by simp [RT.strs, RT.names]))
            have hX : ∀ c ∈ [I] ++ [wat env (nmS x)], c ∈ [I] ++ N := fun c hc => by
              rcases List.mem_append.mp hc with h | h
              · exact List.mem_append_left _ h
              · rw [List.mem_singleton] at h; rw [h]; exact List.mem_append_right _ hwatN
            have H₄ : Fm prog w C h₀ l sc A env T ([I] ++ N) s₄ ((x, q) :: delR ρ₁ x) σ₁ as := H₁.bind (t := .nm x px) (p := q) (fun z hz => by simp [RT.names] at hz; rw [hz]; exact hx) (by simp [freeT, RT.names, hxo]) rfl mv hX ⟨v, lk₄, scalar_any hsc hv2⟩
            have hwI : wat env (nmS x) ≠ I := fun e => can₁.watOff offI (by simp [e])
            have hit₄ : s₄.heap.IsListIter I a' (i + 1) := hit'.at fun o q => mv₂.ext.keep I o (by simpa using hwI.symm) q
            have x₄ : Ext ([I] ++ (pl env ++ as)) s₁ s₄ := mv.ext.mono fun c hc => by
              rcases List.mem_append.mp hc with h | h
              · exact List.mem_append_left _ h
              · rw [List.mem_singleton] at h; rw [h]; exact List.mem_append_right _ (List.mem_append_left _ (can₁.watIn (pl_in env)))
            cases hxs : xs F j ((x, q) :: delR ρ₁ x) σ₁ b with
            | none => rw [hxs] at hfo; cases hfo
            | some z =>
              obtain ⟨ρ₃, σ₃, f₃⟩ := z
              rw [hxs] at hfo
              refine IH j (by omega) b wb _ σ₁ ρ₃ σ₃ f₃ A env ([I] ++ N) s₄ as _ _ hxs H₄ fun s₇ as₇ fl x₇ H₇ hag hf => ?_
              have x₇' : Ext ([I] ++ (pl env ++ as)) s₄ s₇ := x₇.mono fun c hc => List.mem_append_right _ hc
              have hIn : I ∉ pl env ++ as := fun hm => by
                rcases List.mem_append.mp hm with h | h
                · have := H.ok.live I (List.mem_append_left _ (pl_sub H.inN I h)); rw [hI] at this; exact Nat.lt_irrefl _ this
                · have := H.ok.live I (List.mem_append_right _ h); rw [hI] at this; exact Nat.lt_irrefl _ this
              have hit₇ : s₇.heap.IsListIter I a' (i + 1) := hit₄.at fun o q => x₇.keep I o hIn q
              cases f₃ with
              | ret rr =>
                cases hfo
                obtain ⟨u, rfl, hu⟩ := hf
                obtain ⟨pre, e1, e2⟩ := hag
                exact fin s₇ as₇ (.ret u) (x₄.trans x₇') H₇ ⟨pre, e1, fun c h => Nat.le_trans x₄.size (e2 c h)⟩ ⟨u, rfl, hu⟩
              | next =>
                (try dsimp only at hfo)
                split at hfo
                · rename_i hsn
                  have e := same_as H₇ H₄ hsn hag
                  subst e
                  rw [show fl = Flow.next from hf]
                  refine ⟨j, Nat.lt_succ_self _, i + 1, ρ₃, σ₃, by omega, hfo, H₇, hit₇, ?_, x₁.trans (x₄.trans x₇')⟩
                  have e2 : σ₁.map (·.1) = σ₃.map (·.1) := eq_of_beq (show (σ₁.map (·.1) == σ₃.map (·.1)) = true from hsn)
                  unfold sameNm; rw [hnm, e2]; exact beq_self_eq_true _
                · cases hfo
              | cont =>
                (try dsimp only at hfo)
                split at hfo
                · rename_i hsn
                  have e := same_as H₇ H₄ hsn hag
                  subst e
                  rw [show fl = Flow.cont from hf]
                  refine ⟨j, Nat.lt_succ_self _, i + 1, ρ₃, σ₃, by omega, hfo, H₇, hit₇, ?_, x₁.trans (x₄.trans x₇')⟩
                  have e2 : σ₁.map (·.1) = σ₃.map (·.1) := eq_of_beq (show (σ₁.map (·.1) == σ₃.map (·.1)) = true from hsn)
                  unfold sameNm; rw [hnm, e2]; exact beq_self_eq_true _
                · cases hfo
end
end Mine

-- part V45
namespace Mine
open PySem PySem.W PyProof.Rows

section
variable {prog : Program} {w : World} {C : Addr} {h₀ : Heap}
variable {F : Nat → List PV → Option PV} {n : Nat} {l : Nat} {sc : Scope} {A : Around} {env : Env} {T : List Nat} {N : List Addr} {s s₁ : Shared} {ρ ρ' ρ₁ : Rho} {σ σ' σ₁ : Sig} {as as₁ : List Addr} {f : Fl} {Q : Flow → Shared → Prop} {E : Value → Shared → Prop}

theorem isNone_ok {o : Option Own} {α : Type} {k : α} {r : α} (h : (match o with | some _ => none | none => some k) = some r) : o = none ∧ k = r := by
  cases o with
  | none => cases h; exact ⟨rfl, rfl⟩
  | some _ => cases h

theorem x1_ok (B : Base h₀) (SR : ∀ m, SoundR prog w C h₀ l (pev F m)) (IH : ∀ m, m ≤ n → SXs prog w C h₀ F l sc T m) {st : RS} (wf : wfS sc T st = true) (hp : x1 F (n + 1) ρ σ st = some (ρ', σ', f)) (H : Fm prog w C h₀ l sc A env T N s ρ σ as)
    (P : Post prog w C h₀ l sc A env T N s as ρ' σ' f Q) : wpAny (model prog w) A (exec st.toS env) Q E s := by
  have inT : ∀ {x : Nat}, T.contains x = true → x ∈ T := fun h => List.contains_iff_mem.mp h
  cases st with
  | asg x px e p =>
    simp only [wfS, Bool.and_eq_true, Bool.not_eq_true'] at wf
    rw [x1] at hp; (try dsimp only at hp)
    cases ho : lookO σ x with
    | some o => rw [ho] at hp; cases hp
    | none =>
      rw [ho] at hp; (try dsimp only at hp)
      cases he : evM F n ρ σ e with
      | none => rw [he] at hp; cases hp
      | some q => rw [he] at hp; cases hp; exact asg_ok (SR n) wf.1.2 wf.2 (inT wf.1.1) ho H he P
  | asgC x px e p =>
    simp only [wfS, Bool.and_eq_true] at wf
    rw [x1] at hp; (try dsimp only at hp)
    cases ho : lookO σ x with
    | some o => rw [ho] at hp; cases hp
    | none =>
      rw [ho] at hp; (try dsimp only at hp)
      cases he : pev F n ρ e with
      | none => rw [he] at hp; cases hp
      | some q =>
        rw [he] at hp; cases hp
        cases e with
        | lcomp e gs fr sc' pc => exact asgC_ok B SR wf.1.2 (inT wf.1.1) ho H he P
        | _ => cases wf.2
  | own x px e p =>
    simp only [wfS, Bool.and_eq_true, Bool.or_eq_true] at wf
    rw [x1] at hp; (try dsimp only at hp)
    cases ho : lookO σ x with
    | some o => rw [ho] at hp; cases hp
    | none =>
      rw [ho] at hp; (try dsimp only at hp)
      cases he : pev F n ρ e with
      | none => rw [he] at hp; cases hp
      | some q =>
        rw [he] at hp
        cases q with
        | lst r =>
          (try dsimp only at hp)
          split at hp
          · rename_i hr
            cases hp
            rcases wf.2 with h | h
            · exact ownL_ok SR wf.1.2 h (inT wf.1.1) ho H he hr P
            · cases e with
              | lcomp e gs fr sc' pc => exact ownC_ok B SR wf.1.2 (inT wf.1.1) ho H he hr P
              | _ => cases h
          · cases hp
        | _ => cases hp
  | ownD x px dp p =>
    rw [x1] at hp; (try dsimp only at hp)
    cases ho : lookO σ x with
    | some o => rw [ho] at hp; cases hp
    | none => rw [ho] at hp; cases hp; exact ownD_ok (inT wf) ho H P
  | copy x px y slp sp p =>
    simp only [wfS, Bool.and_eq_true] at wf
    rw [x1] at hp; (try dsimp only at hp)
    cases ho : lookO σ x with
    | some o => rw [ho] at hp; cases hp
    | none =>
      rw [ho] at hp; (try dsimp only at hp)
      cases he : pev F n ρ y with
      | none => rw [he] at hp; cases hp
      | some q =>
        rw [he] at hp
        cases q with
        | lst r =>
          (try dsimp only at hp)
          split at hp
          · rename_i hr
            cases hp
            rw [Bool.and_eq_true] at hr
            cases y with
            | name y py => exact copy_ok SR (inT wf.1) ho H he hr.1 hr.2 P
            | _ => cases wf.2
          · cases hp
        | _ => cases hp
  | tup2 x px y py k tp e p => cases wf
  | aug x px op e p =>
    simp only [wfS, Bool.and_eq_true] at wf
    rw [x1] at hp; (try dsimp only at hp)
    cases hl : look ρ x with
    | none => rw [hl] at hp; cases hp
    | some q₀ =>
      rw [hl] at hp; (try dsimp only at hp)
      split at hp
      · cases hp
      · rename_i hs
        cases he : evM F n ρ σ e with
        | none => rw [he] at hp; cases hp
        | some q =>
          rw [he] at hp; (try dsimp only at hp)
          split at hp
          · cases hp
          · cases hop : paug op q₀ q with
            | none => rw [hop] at hp; cases hp
            | some r => rw [hop] at hp; cases hp; exact aug_ok (SR n) wf.2 (inT wf.1) hl hs H he hop P
  | ifs t b o p =>
    simp only [wfS, Bool.and_eq_true] at wf
    rw [x1] at hp; (try dsimp only at hp)
    cases ht : evT F n ρ σ t with
    | none => rw [ht] at hp; cases hp
    | some c =>
      rw [ht] at hp
      refine wpAny_If (evT_ok (SR n) wf.1.1 H ht fun s₁ x₁ => ?_)
      have P₁ := P.from (x₁.mono (by simp) : Ext (pl env ++ as) s s₁) ⟨[], rfl, fun _ h => (nomatch h)⟩
      cases c with
      | true => simp only [if_true]; exact IH n (Nat.le_refl _) b wf.1.2 ρ σ ρ' σ' f A env N s₁ as _ _ hp (H.ext x₁) P₁
      | false => simp only [Bool.false_eq_true, if_false]; exact IH n (Nat.le_refl _) o wf.2 ρ σ ρ' σ' f A env N s₁ as _ _ hp (H.ext x₁) P₁
  | whl t b p =>
    simp only [wfS, Bool.and_eq_true] at wf
    rw [x1] at hp
    exact whl_ok SR (fun m hm => IH m (by omega)) wf.1 wf.2 hp H P
  | for_ t it b p =>
    simp only [wfS, Bool.and_eq_true] at wf
    obtain ⟨⟨⟨⟨w1, w2⟩, w3⟩, w4⟩, w5⟩ := wf
    rw [x1] at hp; (try dsimp only at hp)
    split at hp
    · cases hp
    · rename_i hfr
      cases hi : pitems (pev F n) ρ it with
      | none => rw [hi] at hp; cases hp
      | some q =>
        obtain ⟨vs, bb⟩ := q
        rw [hi] at hp
        cases bb with
        | true => cases hp
        | false =>
          (try dsimp only at hp)
          split at hp
          · rename_i hpr
            refine for_ok B (SR n) (fun m hm => IH m (by omega)) (fun x hx => inT (List.all_eq_true.mp w1 x hx)) w2 w3 w4 w5 hfr hi (fun ht => ?_) hp H P
            rw [ht] at hpr
            exact pairsB_ok hpr
          · cases hp
  | forO x px y py b p =>
    simp only [wfS, Bool.and_eq_true] at wf
    rw [x1] at hp; (try dsimp only at hp)
    cases ho : lookO σ x with
    | some o => rw [ho] at hp; cases hp
    | none => rw [ho] at hp; exact forO_ok (fun m hm => IH m (by omega)) (inT wf.1) wf.2 ho hp H P
  | ret e p =>
    rw [x1] at hp; (try dsimp only at hp)
    cases he : evM F n ρ σ e with
    | none => rw [he] at hp; cases hp
    | some q => rw [he] at hp; cases hp; exact ret_ok (SR n) wf H he P
  | retO x px p =>
    rw [x1] at hp; (try dsimp only at hp)
    cases ho : lookO σ x with
    | none => rw [ho] at hp; cases hp
    | some o => rw [ho] at hp; cases hp; exact retO_ok H ho P
  | app x px ap e cp p =>
    simp only [wfS, Bool.and_eq_true] at wf
    rw [x1] at hp; (try dsimp only at hp)
    cases ho : lookO σ x with
    | none => rw [ho] at hp; cases hp
    | some o =>
      rw [ho] at hp
      cases o with
      | dct _ _ => cases hp
      | lst r =>
        (try dsimp only at hp)
        cases he : evM F n ρ σ e with
        | none => rw [he] at hp; cases hp
        | some q =>
          rw [he] at hp; (try dsimp only at hp)
          split at hp
          · rename_i hsm
            cases hp
            exact app_ok wf.1 (SR n) wf.2 H ho he hsm P
          · cases hp
  | ext x px ap y py yp yc z zk zp c bp cp p =>
    simp only [wfS, Bool.and_eq_true] at wf
    rw [x1] at hp; (try dsimp only at hp)
    split at hp
    · cases hp
    · rename_i hxy
      simp only [Bool.or_eq_false_iff, bne_eq_false_iff_eq] at hxy
      cases ho : lookO σ x with
      | none => rw [ho] at hp; cases hp
      | some o =>
        rw [ho] at hp
        cases o with
        | dct _ _ => cases hp
        | lst r =>
          (try dsimp only at hp)
          cases hoy : lookO σ y with
          | none => rw [hoy] at hp; cases hp
          | some oy =>
            rw [hoy] at hp
            cases oy with
            | dct _ _ => cases hp
            | lst ry =>
              cases ry with
              | nil => cases hp
              | cons q₀ ry =>
                cases q₀ with
                | int a =>
                  (try dsimp only at hp)
                  cases hc : pev F n ρ c with
                  | none => rw [hc] at hp; cases hp
                  | some pc =>
                    rw [hc] at hp
                    cases pc with
                    | lst lc =>
                      cases lc with
                      | nil => cases hp
                      | cons q lc =>
                        cases lc with
                        | cons _ _ => cases hp
                        | nil =>
                          (try dsimp only at hp)
                          split at hp
                          · rename_i hq
                            cases hp
                            simp only [Bool.and_eq_true, decide_eq_true_eq] at hq
                            have hsy := small_le hq.2
                            exact ext_ok hxy.2 (Nat.ne_of_beq_eq_false hxy.1) wf.1.1 wf.1.2 (SR n) wf.2 H ho hoy hc hq.1.1.1 hq.1.1.2 hq.1.2 (by simp; omega) P
                          · cases hp
                    | _ => cases hp
                | _ => cases hp
  | pop0 x px ap z zk zp cp p =>
    rw [x1] at hp; (try dsimp only at hp)
    split at hp
    · cases hp
    · rename_i hz
      cases ho : lookO σ x with
      | none => rw [ho] at hp; cases hp
      | some o =>
        rw [ho] at hp
        cases o with
        | dct _ _ => cases hp
        | lst r =>
          cases r with
          | nil => cases hp
          | cons q r =>
            (try dsimp only at hp)
            split at hp
            · rename_i hsm
              cases hp
              exact pop0_ok (bne_eq_false_iff_eq.mp hz) wf H ho (by have := small_le hsm; omega) P
            · cases hp
  | popA y py x px ap cp p =>
    simp only [wfS, Bool.and_eq_true] at wf
    rw [x1] at hp; (try dsimp only at hp)
    cases hoy : lookO σ y with
    | some o => rw [hoy] at hp; cases hp
    | none =>
      rw [hoy] at hp; (try dsimp only at hp)
      cases ho : lookO σ x with
      | none => rw [ho] at hp; cases hp
      | some o =>
        rw [ho] at hp
        cases o with
        | dct _ _ => cases hp
        | lst r =>
          (try dsimp only at hp)
          cases hq : r.getLast? with
          | none => rw [hq] at hp; cases hp
          | some q =>
            rw [hq] at hp; (try dsimp only at hp)
            split at hp
            · rename_i hsm
              cases hp
              exact popA_ok wf.2 (inT wf.1) hoy H ho hq (by have := small_le hsm; omega) P
            · cases hp
  | sort x px ap cp p =>
    rw [x1] at hp; (try dsimp only at hp)
    cases ho : lookO σ x with
    | none => rw [ho] at hp; cases hp
    | some o =>
      rw [ho] at hp
      cases o with
      | dct _ _ => cases hp
      | lst r =>
        (try dsimp only at hp)
        cases hi : allInt r with
        | none => rw [hi] at hp; cases hp
        | some is =>
          rw [hi] at hp; (try dsimp only at hp)
          split at hp
          · rename_i h64
            cases hp
            exact sort_ok wf H ho hi (of_decide_eq_true h64) P
          · cases hp
  | put x px i e sp p =>
    simp only [wfS, Bool.and_eq_true] at wf
    rw [x1] at hp; (try dsimp only at hp)
    cases he : evM F n ρ σ e with
    | none => rw [he] at hp; cases hp
    | some q =>
      rw [he] at hp; (try dsimp only at hp)
      cases hi : evM F n ρ σ i with
      | none => rw [hi] at hp; cases hp
      | some pi =>
        rw [hi] at hp
        cases pi with
        | int j =>
          (try dsimp only at hp)
          cases ho : lookO σ x with
          | none => rw [ho] at hp; cases hp
          | some o =>
            rw [ho] at hp
            cases o with
            | lst r =>
              (try dsimp only at hp)
              cases hk : placeOf r.length j with
              | none => rw [hk] at hp; cases hp
              | some k =>
                rw [hk] at hp; (try dsimp only at hp)
                split at hp
                · rename_i hsm
                  cases hp
                  exact putL_ok (SR n) wf.1 wf.2 H he hi ho hk (by have := small_le hsm; omega) P
                · cases hp
            | dct ks ps =>
              (try dsimp only at hp)
              split at hp
              · cases hp
              · rename_i hk
                cases hp
                simp only [Bool.or_eq_false_iff, Bool.not_eq_false'] at hk
                exact putD_ok (SR n) wf.1 wf.2 H he hi ho hk.1 hk.2 P
        | _ => cases hp
  | inc x px i op e sp p =>
    simp only [wfS, Bool.and_eq_true] at wf
    rw [x1] at hp; (try dsimp only at hp)
    cases hi : evM F n ρ σ i with
    | none => rw [hi] at hp; cases hp
    | some pi =>
      rw [hi] at hp
      cases pi with
      | int j =>
        (try dsimp only at hp)
        cases ho : lookO σ x with
        | none => rw [ho] at hp; cases hp
        | some o =>
          rw [ho] at hp
          cases o with
          | dct _ _ => cases hp
          | lst r =>
            (try dsimp only at hp)
            cases hk : placeOf r.length j with
            | none => rw [hk] at hp; cases hp
            | some k =>
              rw [hk] at hp; (try dsimp only at hp)
              cases hr : r[k]? with
              | none => rw [hr] at hp; cases hp
              | some q₀ =>
                rw [hr] at hp; (try dsimp only at hp)
                split at hp
                · cases hp
                · rename_i hs
                  rw [Bool.and_eq_true] at hs
                  cases he : evM F n ρ σ e with
                  | none => rw [he] at hp; cases hp
                  | some q =>
                    rw [he] at hp; (try dsimp only at hp)
                    split at hp
                    · cases hp
                    · cases hop : paug op q₀ q with
                      | none => rw [hop] at hp; cases hp
                      | some q₁ =>
                        rw [hop] at hp; cases hp
                        exact inc_ok (SR n) wf.1 wf.2 H hi ho hk (by have := small_le hs.2; omega) hr hs.1 he hop P
      | _ => cases hp
  | cont p => rw [x1] at hp; cases hp; exact cont_ok H P
  | raw st => rw [x1] at hp; cases hp

/-- the evaluator of statements is sound -/
theorem xs_sound (B : Base h₀) (SR : ∀ m, SoundR prog w C h₀ l (pev F m)) : ∀ n, SXs prog w C h₀ F l sc T n := by
  intro n
  induction n using Nat.strongRecOn with
  | _ n IH =>
    intro ss wf ρ σ ρ' σ' f A env N s as Q E hp H P
    cases n with
    | zero => cases hp
    | succ n =>
      cases ss with
      | nil =>
        rw [xs] at hp; cases hp
        exact wpAny_execs_nil (P s as .next (Ext.refl _ _) H ⟨[], rfl, fun _ h => (nomatch h)⟩ rfl)
      | cons st r =>
        simp only [wfSs, Bool.and_eq_true] at wf
        rw [xs] at hp
        cases n with
        | zero => rw [x1] at hp; cases hp
        | succ n =>
          cases h1 : x1 F (n + 1) ρ σ st with
          | none => rw [h1] at hp; cases hp
          | some q =>
            obtain ⟨ρ₁, σ₁, f₁⟩ := q
            rw [h1] at hp
            refine wpAny_execs_cons (x1_ok B SR (fun m hm => IH m (by omega)) wf.1 h1 H fun s₁ as₁ fl x₁ H₁ ha hf => ?_)
            cases f₁ with
            | next =>
              rw [show fl = Flow.next from hf]
              exact IH (n + 1) (Nat.lt_succ_self _) r wf.2 ρ₁ σ₁ ρ' σ' f A env N s₁ as₁ _ _ hp H₁ (P.from x₁ ha)
            | cont =>
              cases hp
              rw [show fl = Flow.cont from hf]
              exact P s₁ as₁ .cont x₁ H₁ ha rfl
            | ret p =>
              cases hp
              obtain ⟨v, rfl, hv⟩ := hf
              exact P s₁ as₁ (.ret v) x₁ H₁ ha ⟨v, rfl, hv⟩
end
end Mine

-- part V46
namespace Mine
open PySem PySem.W PyProof.Rows

/-- a def's scope: no cells; the names of T and the parameters are local -/
def scB (sc : Scope) (ps T : List Nat) : Bool :=
  sc.kind == .function && !sc.isCoroutine && !sc.isGenerator && sc.names.all (fun x => x.2 == .local || x.2 == .globalImplicit) && T.all (fun y => sc.names.lookup (nmS y) == some .local && decide (y < nmTab.length)) && ps.all (fun y => sc.names.lookup (nmS y) == some .local && decide (y < nmTab.length))

/-- a def of the text -/
structure DefAt (h₀ : Heap) (v : Value) (ps T : List Nat) (sc : Scope) (b : List Stmt) : Prop where
  wf : scB sc ps T = true
  lim : h₀.NoLimit
  at_ : ∃ a o fd, v = .ref a ∧ h₀.get? a = some o ∧ o.data = .func fd ∧ h₀.CodeRec fd.code fd.qualname ∧ fd.body = .stmts b ∧ fd.scope = sc ∧ fd.globals = mainGlobals ∧ fd.builtins = builtinsNs ∧ fd.closure = [] ∧
    ∀ vals : List Value, vals.length = ps.length → bindArgs fd ⟨vals, []⟩ = pure ((ps.map nmS).zip vals)

theorem lookup_kind {sc : Scope} {x : Str} {k : NameKind} (h : sc.names.lookup x = some k) : (x, k) ∈ sc.names := mem_of_lookup h
theorem kindEq {k j : NameKind} (h : (k == j) = true) : k = j := by cases k <;> cases j <;> first | rfl | cases h
theorem kindOEq {k j : Option NameKind} (h : (k == j) = true) : k = j := by
  cases k with
  | none => cases j with
    | none => rfl
    | some _ => cases h
  | some a => cases j with
    | none => cases h
    | some b => rw [kindEq (show (a == b) = true from h)]
theorem scKindEq {k : ScopeKind} (h : (k == ScopeKind.function) = true) : k = .function := by cases k <;> first | rfl | cases h
structure ScOk (sc : Scope) (ps T : List Nat) : Prop where
  fn : sc.kind = .function
  co : sc.isCoroutine = false
  gen : sc.isGenerator = false
  names : ∀ x ∈ sc.names, x.2 = .local ∨ x.2 = .globalImplicit
  T : ∀ y ∈ T, sc.names.lookup (nmS y) = some .local ∧ y < nmTab.length
  ps : ∀ y ∈ ps, sc.names.lookup (nmS y) = some .local ∧ y < nmTab.length
theorem scB_ok {sc : Scope} {ps T : List Nat} (h : scB sc ps T = true) : ScOk sc ps T := by
  unfold scB at h
  simp only [Bool.and_eq_true, List.all_eq_true, Bool.not_eq_true', decide_eq_true_eq, Bool.or_eq_true] at h
  obtain ⟨⟨⟨⟨⟨h1, h2⟩, h3⟩, h4⟩, h5⟩, h6⟩ := h
  exact ⟨scKindEq h1, h2, h3, fun x hx => (h4 x hx).imp kindEq kindEq, fun y hy => ⟨kindOEq (h5 y hy).1, (h5 y hy).2⟩, fun y hy => ⟨kindOEq (h6 y hy).1, (h6 y hy).2⟩⟩
theorem ScOk.noCell {sc : Scope} {ps T : List Nat} (h : ScOk sc ps T) (x : Str) : ¬ cellish (sc.names.lookup x) := by
  rintro (e | e) <;> rcases h.names _ (mem_of_lookup e) with q | q <;> cases q

theorem envOk_call {fd : FuncData} {L a : Addr} {ps T : List Nat} (h : ScOk fd.scope ps T) (hg : fd.globals = mainGlobals) (hb : fd.builtins = builtinsNs) (hc : fd.closure = []) : EnvOk fd.scope (callEnv fd L a) := by
  refine ⟨h.fn, hg, hb, fun x e => e, fun x e => e, fun x e => e, fun x y c e => ?_, fun x e => absurd e (h.noCell x)⟩
  have : (callEnv fd L a).cells = [] := hc
  rw [this] at e; cases e

section
variable {prog : Program} {w : World} {C : Addr} {h₀ : Heap}

/-- the parameters' values -/
def Binds (prog : Program) (w : World) (C : Addr) (h : Heap) (W : List Addr) (ps : List Nat) (args : List PV) (vals : List Value) : Prop :=
  ∀ x p, look (ps.zip args) x = some p → ∃ v, ((ps.map nmS).zip vals).reverse.lookup (nmS x) = some v ∧ VR prog w C h W p v
theorem binds1 {h : Heap} {W : List Addr} {x : Nat} {p : PV} {v : Value} (hv : VR prog w C h W p v) : Binds prog w C h W [x] [p] [v] := by
  intro y q hq
  rw [show [x].zip [p] = [(x, p)] from rfl, look_cons] at hq
  by_cases e : x = y
  · rw [if_pos e] at hq; cases hq; subst e
    exact ⟨v, by simp, hv⟩
  · rw [if_neg e] at hq; cases hq
theorem binds2 {h : Heap} {W : List Addr} {x y : Nat} {p q : PV} {v u : Value} (hxy : (nmS x == nmS y) = false) (hv : VR prog w C h W p v) (hu : VR prog w C h W q u) : Binds prog w C h W [x, y] [p, q] [v, u] := by
  intro z r hr
  rw [show [x, y].zip [p, q] = [(x, p), (y, q)] from rfl, look_cons] at hr
  by_cases e : x = z
  · rw [if_pos e] at hr; cases hr; subst e
    refine ⟨v, ?_, hv⟩
    show List.lookup _ [(nmS y, u), (nmS x, v)] = _
    rw [List.lookup_cons, hxy, List.lookup_cons]; simp
  · rw [if_neg e, look_cons] at hr
    by_cases e' : y = z
    · rw [if_pos e'] at hr; cases hr; subst e'
      exact ⟨u, by simp, hu⟩
    · rw [if_neg e'] at hr; cases hr

/-- a call of a def: the frame stands -/
theorem frame_ok {l : Nat} {ps T : List Nat} {sc : Scope} {b : List Stmt} {v : Value} {A : Around} {s : Shared} {W : List Addr} {args : List PV} {vals : List Value} {Q E : Value → Shared → Prop}
    (B : Base h₀) (D : DefAt h₀ v ps T sc b) (ok : OkH h₀ (l + 1) A s W) (hl : vals.length = ps.length) (hb : Binds prog w C s.heap W ps args vals)
    (h : ∀ env s₁, Ext [] s s₁ → pl env = [env.locals] → s.heap.objs.size ≤ env.locals → Fm prog w C h₀ l sc (A.deeper env) env T (env.locals :: W) s₁ (ps.zip args) [] [] →
      ∃ R : Flow → Shared → Prop, (∀ E', wpAny (model prog w) (A.deeper env) (execs b env) R E' s₁) ∧ ∀ f s', R f s' → ∃ u, f = .ret u ∧ Q u s') : wpAny (model prog w) A (call v vals) Q E s := by
  obtain ⟨hs, hlim, a, o, fd, rfl, ho, hd, hcr, hbody, hsc, hg, hbt, hcl, hbind⟩ := D
  subst hsc
  have S := scB_ok hs
  refine wpAny_call (codeAny_call_plain ok.a.room (ok.old a o ho) hd (hlim.keeps ok.old) (hcr.keeps ok.old) hbody (hbind vals hl) (fun x hx => ?_) (fun x hx => ?_) (fun h₁ hns keep => ?_) S.co S.gen S.fn)
  · rcases S.names x hx with e | e <;> rw [e] <;> decide
  · have := (List.of_mem_zip (show (x.1, x.2) ∈ (ps.map nmS).zip vals from hx)).1
    obtain ⟨y, hy, e⟩ := List.mem_map.mp this
    rw [← e]; exact (S.ps y hy).1
  · have hlt : s.heap.objs.size < h₁.objs.size := hns.lt
    have x₁ : Ext [] s { s with heap := h₁, toks := s.toks + ((ps.map nmS).zip vals).length } := Ext.mk' (Nat.le_add_right _ _) (Nat.le_of_lt hlt) fun b o _ q => keep b o q
    have okh := ok.ext x₁
    have hno : ∀ c, (callEnv fd s.heap.objs.size a).cells.lookup c = none := fun c => by
      have : (callEnv fd s.heap.objs.size a).cells = [] := hcl
      rw [this]; rfl
    have hpl : pl (callEnv fd s.heap.objs.size a) = [s.heap.objs.size] := by
      have : (callEnv fd s.heap.objs.size a).cells = [] := hcl
      unfold pl; rw [this]; rfl
    have hW : ∀ b ∈ s.heap.objs.size :: W, b < h₁.objs.size ∧ h₀.get? b = none := fun b hb' => by
      rcases List.mem_cons.mp hb' with rfl | hb'
      · refine ⟨hlt, ?_⟩
        cases e : h₀.get? s.heap.objs.size with
        | none => rfl
        | some o' => exact absurd (Heap.lt_size (ok.old _ _ e)) (Nat.lt_irrefl _)
      · exact ⟨okh.live b hb', ok.base b hb'⟩
    have inN : EnvIn (callEnv fd s.heap.objs.size a) (s.heap.objs.size :: W) := ⟨by simp [callEnv, newEnv], fun y c e => by rw [hno] at e; cases e⟩
    have F₀ : Fm prog w C h₀ l fd.scope (A.deeper (callEnv fd s.heap.objs.size a)) (callEnv fd s.heap.objs.size a) T (s.heap.objs.size :: W) { s with heap := h₁, toks := s.toks + ((ps.map nmS).zip vals).length } (ps.zip args) [] [] := by
      refine ⟨⟨ok.a.deeper _, envOk_call S hg hbt hcl, okh.old, okh.tk, fun b hb' => (hW b (by simpa using hb')).1, fun b hb' => (hW b (by simpa using hb')).2, ⟨List.mem_append_left _ inN.1, fun y c e => List.mem_append_left _ (inN.2 y c e)⟩, okh.sz, fun x p hx => ?_⟩, inN, rfl, List.nodup_nil, fun _ h => (nomatch h), fun _ h => (nomatch h), List.nodup_nil, fun y hy => ⟨.inl ⟨(S.T y hy).1, _, hns⟩, (S.T y hy).2⟩⟩
      obtain ⟨v, hv1, hv2⟩ := hb x p hx
      refine ⟨v, .inl ⟨?_, _, hns, hv1⟩, VR.mono (fun b o hb' q => ⟨keep b o q, fun hm => ?_⟩) p v hv2⟩
      · have hx' : x ∈ ps := by
          have : ∀ (ps : List Nat) (args : List PV), look (ps.zip args) x = some p → x ∈ ps := by
            intro ps
            induction ps with
            | nil => intro args h; simp [look] at h
            | cons y r ih =>
              intro args h
              cases args with
              | nil => simp [look] at h
              | cons q qs =>
                rw [List.zip_cons_cons, look_cons] at h
                by_cases e : y = x
                · simp [e]
                · rw [if_neg e] at h; simp [ih qs h]
          exact this ps args hx
        exact (S.ps x hx').1
      · rw [List.append_nil] at hm
        rcases List.mem_cons.mp hm with rfl | hm
        · exact Nat.lt_irrefl _ (Heap.lt_size q)
        · exact hb' hm
    obtain ⟨R, hR, hq⟩ := h _ _ x₁ hpl (Nat.le_refl _) F₀
    refine wpAny_mono (hR _) (fun f s' hf => ?_) fun _ _ e => e
    obtain ⟨u, rfl, hu⟩ := hq f s' hf
    exact hu

/-- a call of a def whose body the evaluator runs -/
theorem def_ok {l n : Nat} {F : Nat → List PV → Option PV} {ps T : List Nat} {sc : Scope} {b : List RS} {v : Value} {A : Around} {s : Shared} {W : List Addr} {args : List PV} {vals : List Value} {Q E : Value → Shared → Prop} {p : PV} {ρ' : Rho} {σ' : Sig}
    (B : Base h₀) (SR : ∀ m, SoundR prog w C h₀ l (pev F m)) (D : DefAt h₀ v ps T sc (toSs b)) (wf : wfSs sc T b = true) (ok : OkH h₀ (l + 1) A s W) (hl : vals.length = ps.length) (hb : Binds prog w C s.heap W ps args vals)
    (hp : xs F n (ps.zip args) [] b = some (ρ', σ', .ret p)) (h : ∀ v s', Ext [] s s' → VR prog w C s'.heap W p v → Q v s') : wpAny (model prog w) A (call v vals) Q E s := by
  refine frame_ok B D ok hl hb fun env s₁ x₁ hpl hL F₀ => ⟨fun f s' => ∃ u, f = .ret u ∧ Q u s', fun E' => ?_, fun f s' q => q⟩
  refine xs_sound (T := T) B SR n b wf _ _ _ _ _ _ _ _ _ _ _ _ hp F₀ fun s' as' fl x' _ _ hf => ?_
  obtain ⟨u, rfl, hu⟩ := hf
  refine ⟨u, rfl, h u s' ?_ (VR.mono (fun b o hb' q => ⟨q, fun hm => hb' (List.mem_cons_of_mem _ hm)⟩) p u hu)⟩
  have : Ext ([env.locals] ++ []) s s' := (x₁.mono (by simp)).trans (by rw [hpl, List.append_nil] at x'; exact x')
  exact this.drop fun b hb => by rw [List.mem_singleton] at hb; rw [hb]; exact hL
end
end Mine

-- part V47
namespace Mine
open PySem PySem.W PyProof.Rows

section
variable {prog : Program} {w : World} {C : Addr} {h₀ : Heap}
variable {F : Nat → List PV → Option PV} {l : Nat} {sc : Scope} {A : Around} {env : Env} {T : List Nat} {N : List Addr} {Q : Flow → Shared → Prop} {E : Value → Shared → Prop}

/-- some statements, then the others -/
theorem xs_part (B : Base h₀) (SR : ∀ m, SoundR prog w C h₀ l (pev F m)) {r : List Stmt} : ∀ {b : List RS} {n : Nat} {ρ ρ' : Rho} {σ σ' : Sig} {s : Shared} {as : List Addr}, wfSs sc T b = true → xs F n ρ σ b = some (ρ', σ', .next) → Fm prog w C h₀ l sc A env T N s ρ σ as →
    (∀ s' as', Ext (pl env ++ as) s s' → Fm prog w C h₀ l sc A env T N s' ρ' σ' as' → (∃ pre, as' = pre ++ as ∧ ∀ a ∈ pre, s.heap.objs.size ≤ a) → wpAny (model prog w) A (execs r env) Q E s') → wpAny (model prog w) A (execs (toSs b ++ r) env) Q E s
  | [], n, ρ, ρ', σ, σ', s, as, _, hp, H, h => by
    cases n with
    | zero => cases hp
    | succ n => rw [xs] at hp; cases hp; exact h s as (Ext.refl _ _) H ⟨[], rfl, fun _ h => (nomatch h)⟩
  | st :: b, n, ρ, ρ', σ, σ', s, as, wf, hp, H, h => by
    simp only [wfSs, Bool.and_eq_true] at wf
    cases n with
    | zero => cases hp
    | succ n =>
      rw [xs] at hp
      cases n with
      | zero => rw [x1] at hp; cases hp
      | succ n =>
        cases h1 : x1 F (n + 1) ρ σ st with
        | none => rw [h1] at hp; cases hp
        | some q =>
          obtain ⟨ρ₁, σ₁, f₁⟩ := q
          rw [h1] at hp
          refine wpAny_execs_cons (x1_ok B SR (fun m _ => xs_sound B SR m) wf.1 h1 H fun s₁ as₁ fl x₁ H₁ ha hf => ?_)
          cases f₁ with
          | next =>
            rw [show fl = Flow.next from hf]
            refine xs_part B SR wf.2 hp H₁ fun s₂ as₂ x₂ H₂ ha₂ => ?_
            have P : Post prog w C h₀ l sc A env T N s as ρ' σ' .next (fun _ s' => ∃ as', Ext (pl env ++ as) s s' ∧ Fm prog w C h₀ l sc A env T N s' ρ' σ' as' ∧ (∃ pre, as' = pre ++ as ∧ ∀ a ∈ pre, s.heap.objs.size ≤ a)) :=
              fun s' as' fl' x' H' ha' _ => ⟨as', x', H', ha'⟩
            have P₁ := P.from x₁ ha
            have e := P₁ s₂ as₂ .next x₂ H₂ ha₂ rfl
            obtain ⟨as', e1, e2, e3⟩ := e
            exact h s₂ as' e1 e2 e3
          | cont => cases hp
          | ret p => cases hp

/-- a def that gives back a list of its own -/
theorem defO_ok {n : Nat} {ps : List Nat} {b : List RS} {x : Nat} {px p : Pos} {v : Value} {s : Shared} {W : List Addr} {args : List PV} {vals : List Value} {Q : Value → Shared → Prop} {ρ' : Rho} {σ' : Sig} {r : List PV}
    (B : Base h₀) (SR : ∀ m, SoundR prog w C h₀ l (pev F m)) (D : DefAt h₀ v ps T sc (toSs b ++ [.Return (some (.Name (nmS x) px)) p])) (wf : wfSs sc T b = true) (ok : OkH h₀ (l + 1) A s W) (hl : vals.length = ps.length) (hb : Binds prog w C s.heap W ps args vals)
    (hp : xs F n (ps.zip args) [] b = some (ρ', σ', .next)) (ho : lookO σ' x = some (.lst r)) (h : ∀ a vs s', Ext [] s s' → s.heap.objs.size ≤ a → s'.heap.PlainList a vs.toArray → VRs prog w C s'.heap W r vs → Q (.ref a) s') : wpAny (model prog w) A (call v vals) Q E s := by
  refine frame_ok B D ok hl hb fun env s₁ x₁ hpl hL F₀ => ⟨fun f s' => ∃ u, f = .ret u ∧ Q u s', fun E' => ?_, fun f s' q => q⟩
  refine xs_part B SR wf hp F₀ fun s' as' x' H' ha => ?_
  obtain ⟨a, hm, lk, vs, hpls, hvs⟩ := H'.own.get ho
  refine wpAny_execs_cons (wpAny_Return_some (lk.load H'.ok.e.fn ?_))
  refine ⟨_, rfl, h a vs s' ?_ ?_ hpls (VRs.mono (fun b o hb' q => ⟨q, fun hm => hb' (List.mem_append_left _ (List.mem_cons_of_mem _ hm))⟩) _ _ hvs)⟩
  · have : Ext ([env.locals] ++ []) s s' := (x₁.mono (by simp)).trans (by rw [hpl, List.append_nil] at x'; exact x')
    exact this.drop fun b hb => by rw [List.mem_singleton] at hb; rw [hb]; exact hL
  · obtain ⟨pre, rfl, hpre⟩ := ha
    rw [List.append_nil] at hm
    exact Nat.le_trans x₁.size (hpre a hm)
end
end Mine

-- part V48
namespace Mine
open PySem PySem.W PyProof.Rows

section
variable {prog : Program} {w : World} {C : Addr} {h₀ : Heap} {A : Around} {E Q : Value → Shared → Prop} {s : Shared} {W : List Addr}

theorem VRs.permR {h : Heap} {W : List Addr} {vs us : List Value} (hp : vs.Perm us) : ∀ {o : List PV}, VRs prog w C h W o us → ∃ o', o'.Perm o ∧ VRs prog w C h W o' vs := by
  induction hp with
  | nil => intro o H; exact ⟨o, List.Perm.refl _, H⟩
  | cons v hp ih =>
    intro o H
    cases o with
    | nil => cases H
    | cons p o =>
      obtain ⟨u, r, e, hu, hr⟩ := H
      cases e
      obtain ⟨o', h1, h2⟩ := ih hr
      exact ⟨p :: o', List.Perm.cons p h1, v, _, rfl, hu, h2⟩
  | swap v u l =>
    intro o H
    cases o with
    | nil => cases H
    | cons p o =>
      obtain ⟨v', r, e, hv, hr⟩ := H
      cases e
      cases o with
      | nil => cases hr
      | cons q o =>
        obtain ⟨u', r', e', hu, hr'⟩ := hr
        cases e'
        exact ⟨q :: p :: o, List.Perm.swap p q o, u, _, rfl, hu, v, _, rfl, hv, hr'⟩
  | trans _ _ ih1 ih2 =>
    intro o H
    obtain ⟨o1, h1, h2⟩ := ih2 H
    obtain ⟨o2, h3, h4⟩ := ih1 h2
    exact ⟨o2, h3.trans h1, h4⟩

theorem len_ok {n : Nat} {a : Addr} {items : Array Value} (hl : s.heap.IsList a items) (hn : items.size = n) (hz : n ≤ 100000) (h : ∀ v s', Ext [] s s' → VR prog w C s'.heap W (.int n) v → Q v s') : wpAny (model prog w) A (call (.builtin "len") [.ref a]) Q E s :=
  Calls.call_len_list hl (by omega) (h _ _ (Ext.tok s 2) ⟨_, by rw [hn]⟩)

theorem ints_items {h : Heap} : ∀ {l : List PV} {is : List Int} {vs : List Value}, allInt l = some is → VRs prog w C h W l vs → ∃ xs : List (Int × Tok), vs = xs.map (fun p => .int p.1 p.2) ∧ xs.map (·.1) = is
  | [], is, vs, hi, H => by cases hi; exact ⟨[], H, rfl⟩
  | p :: l, is, vs, hi, H => by
    cases p with
    | int i =>
      rw [allInt] at hi
      cases h1 : allInt l with
      | none => rw [h1] at hi; cases hi
      | some js =>
        rw [h1] at hi; cases hi
        obtain ⟨v, r, rfl, ⟨t, rfl⟩, hr⟩ := H
        obtain ⟨xs, rfl, rfl⟩ := ints_items h1 hr
        exact ⟨(i, t) :: xs, rfl, rfl⟩
    | _ => simp [allInt] at hi

theorem foldl_sum (l : List Int) : ∀ a : Int, l.foldl (· + ·) a = a + l.sum := by
  induction l with
  | nil => intro a; simp
  | cons b l ih => intro a; rw [List.foldl_cons, ih, List.sum_cons, Int.add_assoc]
theorem sumI_sum (l : List Int) : sumI l = l.sum := by rw [sumI, foldl_sum, Int.zero_add]
theorem sum_perm {l r : List Int} (h : l.Perm r) : l.sum = r.sum := by
  induction h with
  | nil => rfl
  | cons a _ ih => rw [List.sum_cons, List.sum_cons, ih]
  | swap a b l => rw [List.sum_cons, List.sum_cons, List.sum_cons, List.sum_cons]; omega
  | trans _ _ h1 h2 => exact h1.trans h2
theorem allInt_perm {l r : List PV} (h : l.Perm r) : ∀ {is : List Int}, allInt r = some is → ∃ js, allInt l = some js ∧ js.Perm is := by
  induction h with
  | nil => intro is e; exact ⟨is, e, List.Perm.refl _⟩
  | @cons p l₁ l₂ _ ih =>
    intro is e
    cases p with
    | int i =>
      rw [allInt] at e
      cases h1 : allInt l₂ with
      | none => rw [h1] at e; cases e
      | some ks =>
        rw [h1] at e; cases e
        obtain ⟨js, e1, e2⟩ := ih h1
        exact ⟨i :: js, by rw [allInt, e1]; rfl, List.Perm.cons i e2⟩
    | _ => simp [allInt] at e
  | swap p q l =>
    intro is e
    cases p with
    | int i =>
      rw [allInt] at e
      cases q with
      | int j =>
        rw [allInt] at e
        cases h1 : allInt l with
        | none => rw [h1] at e; cases e
        | some ks => rw [h1] at e; cases e; exact ⟨j :: i :: ks, by rw [allInt, allInt, h1]; rfl, List.Perm.swap i j ks⟩
      | _ => simp [allInt] at e
    | _ => simp [allInt] at e
  | trans _ _ ih1 ih2 =>
    intro is e
    obtain ⟨js, e1, e2⟩ := ih2 e
    obtain ⟨ks, e3, e4⟩ := ih1 e1
    exact ⟨ks, e3, e4.trans e2⟩

theorem sum_ints {a : Addr} {xs : List (Int × Tok)} (hh : A.handled = none) (hl : s.heap.IsList a (intItems xs.toArray)) (h : ∀ v s', Ext [] s s' → VR prog w C s'.heap W (.int (xs.map (·.1)).sum) v → Q v s') :
    wpAny (model prog w) A (call (.builtin "sum") [.ref a]) Q E s := by
  refine grown (call_sum_walkG (iter_intList hl fun s₂ e st hfp hlI => ?_))
  subst e
  refine ⟨_, _, _, _, _, _, numAt xs.toArray, rfl, Walks.list (A := A.in1) (by exact hh) _ a hlI (intItems xs.toArray), st, hfp, (fun _ _ => intItems_at), fun h' tk t' hk ht hz => ?_⟩
  refine h _ _ (Ext.mk' ht hz fun b o _ q => old_kept hk b o q) ⟨t', ?_⟩
  rw [preSum_eq]
  have : (intItems xs.toArray).size = (xs.map (·.1)).length := by simp [intItems]
  rw [this]
  congr 1
  exact congrArg List.sum (List.take_length (l := xs.map (·.1)))

theorem items_eq (xs : List (Int × Tok)) : (xs.map fun p => Value.int p.1 p.2).toArray = intItems xs.toArray := by
  unfold intItems
  apply Array.ext'
  simp
theorem sum_lst {l : List PV} {is : List Int} {v : Value} (hh : A.handled = none) (hi : allInt l = some is) (H : VR prog w C s.heap W (.lst l) v) (h : ∀ v s', Ext [] s s' → VR prog w C s'.heap W (.int (sumI is)) v → Q v s') :
    wpAny (model prog w) A (call (.builtin "sum") [v]) Q E s := by
  obtain ⟨a, vs, rfl, _, hpl, hv⟩ := H
  obtain ⟨xs, rfl, rfl⟩ := ints_items hi hv
  rw [sumI_sum] at h
  refine sum_ints hh ?_ h
  rw [← items_eq]; exact hpl.isList
theorem sum_bag {l : List PV} {is : List Int} {v : Value} (hh : A.handled = none) (hi : allInt l = some is) (H : VR prog w C s.heap W (.bag l) v) (h : ∀ v s', Ext [] s s' → VR prog w C s'.heap W (.int (sumI is)) v → Q v s') :
    wpAny (model prog w) A (call (.builtin "sum") [v]) Q E s := by
  obtain ⟨a, vs, vs', rfl, ha, hpl, hp, hv⟩ := H
  obtain ⟨o', h1, h2⟩ := VRs.permR hp hv
  obtain ⟨js, e1, e2⟩ := allInt_perm h1 hi
  refine sum_lst hh e1 ⟨a, vs', rfl, ha, hpl, h2⟩ ?_
  rw [sumI_sum, sum_perm e2, ← sumI_sum]; exact h
end
end Mine

-- part V49
namespace Mine
open PySem PySem.W PyProof.Rows

theorem sub_dict_set : isSubtype (.type "dict") (.type "set") = pure false := by rw [isSubtype_type]; kernel_rfl
theorem sub_dict_frozenset : isSubtype (.type "dict") (.type "frozenset") = pure false := by rw [isSubtype_type]; kernel_rfl

section
variable {prog : Program} {w : World} {C : Addr} {h₀ : Heap} {A : Around} {E : Value → Shared → Prop} {s : Shared} {W : List Addr}

def freshSet (led : Bool) : Obj := { cls := .type "set", dict := none, data := .set #[] 0 (.fresh 0 0 led) }
theorem freshSet_of {h : Heap} {a : Addr} {led : Bool} (ho : h.get? a = some (freshSet led)) : h.SetOf (intKind prog w) a (fun _ => false) 0 :=
  (setObjOf_fresh (knd := intKind prog w) led).setOf ho (by unfold scanBound; omega)

theorem relay_fresh {a : Addr} {led : Bool} {m : Nat} {Q : Unit → Shared → Prop} (ho : s.heap.get? a = some (freshSet led)) (hz : ¬ SetTable.sizeAbove m > sizeLine) (hl : ∃ t', (SetTable.fresh 0 0 led).relaid #[] m = some (t', #[]) ∧ t'.fits 0 = true)
    (h : ∀ h', Heap.SameBut a s.heap h' → h'.SetOf (intKind prog w) a (fun _ => false) 0 → Q () { s with heap := h' }) : wpAny (model prog w) A (setRelay a m) Q E s := by
  obtain ⟨t', hl, hf⟩ := hl
  unfold setRelay
  refine wpAny_bind (wpAny_setState_of ho rfl rfl ?_)
  dsimp only
  rw [if_neg hz]
  show wpAny _ _ (_ >>= _) _ _ _
  have e : (Array.map (fun x : Int × Value => x.1) #[]) = (#[] : Array Int) := by simp
  rw [e, hl]
  refine wpAny_bind ?_
  show wpAny _ _ (pure (#[], t')) _ _ _
  refine wpAny_pure ?_
  dsimp only
  obtain ⟨_, hS⟩ := SetOf_store (knd := intKind prog w) (es' := #[]) (t' := t') (S' := fun _ => false) ho ⟨rfl, rfl, rfl⟩ rfl (fun e he => by simp at he) (fun k => by simp) (by decide) hf
  exact wpAny_storeSet_of ho rfl (h _ (Heap.SameBut.update s.heap a _) hS) (by decide +kernel)

theorem room_ok {a : Addr} {led : Bool} {n : Nat} {Q : Unit → Shared → Prop} (hn : n ≤ 6) (ho : s.heap.get? a = some (freshSet led))
    (h : ∀ h', Heap.SameBut a s.heap h' → h'.SetOf (intKind prog w) a (fun _ => false) 0 → Q () { s with heap := h' }) : wpAny (model prog w) A (setRoomFor a n) Q E s := by
  unfold setRoomFor
  refine wpAny_bind (wpAny_setState_of ho rfl rfl ?_)
  have h0 : Q () s := h s.heap (Heap.SameBut.refl a s.heap) (freshSet_of ho)
  have hc : n = 0 ∨ n = 1 ∨ n = 2 ∨ n = 3 ∨ n = 4 ∨ n = 5 ∨ n = 6 := by omega
  rcases hc with rfl | rfl | rfl | rfl | rfl | rfl | rfl
  · exact wpAny_pure h0
  · exact wpAny_pure h0
  · exact wpAny_pure h0
  · exact wpAny_pure h0
  · exact wpAny_pure h0
  · exact relay_fresh (m := 10) ho (by decide +kernel) (by cases led <;> exact ⟨_, rfl, rfl⟩) h
  · exact relay_fresh (m := 12) ho (by decide +kernel) (by cases led <;> exact ⟨_, rfl, rfl⟩) h

theorem update_dict {a d : Addr} {led : Bool} {kvs : List (Int × Value)} {ep : Nat} {Q : Unit → Shared → Prop} (hda : d ≠ a) (hs : (d == sysModules) = false) (hd : s.heap.DictAt (intKind prog w) d kvs ep) (hn : kvs.length ≤ 6) (ho : s.heap.get? a = some (freshSet led))
    (h : ∀ h', Heap.SameBut a s.heap h' → h'.SetOf (intKind prog w) a (fun k => decide (k ∈ kvs.map (·.1))) kvs.length → Q () { s with heap := h' }) : wpAny (model prog w) A (Builtin.Frozenset.updateFrom "set.__init__" a (.ref d)) Q E s := by
  obtain ⟨od, es, hod, hcd, hdd, hk, hp, hnd⟩ := hd
  have hlen : kvs.length = es.size := by rw [← hp.length]; simp
  have hsd := sub_dict_set
  have hfd := sub_dict_frozenset
  have hT : s.TypeIs (.ref d) "dict" := ⟨od, hod, hcd.1⟩
  unfold Builtin.Frozenset.updateFrom Builtin.Frozenset.isAnySet
  generalize hDE : dictEpoch = DE
  wp_walk
  subst hDE
  rw [hdd]
  refine wpAny_pure ?_
  have hod' : s.heap.get? d = some od := hod
  refine wpAny_bind (wpAny_dictEntries hod' hdd ?_)
  refine wpAny_bind (room_ok (by rw [← hlen]; exact hn) ho fun h₁ hs₁ hS₁ => ?_)
  have hod₁ : h₁.get? d = some od := (hs₁.2 d hda).trans hod
  refine wpAny_bind (wpAny_dictEntries hod₁ hdd ?_)
  refine wpAny_bind ?_
  rw [Std.Legacy.Range.forIn_eq_forIn_range']
  simp only [Std.Legacy.Range.size, Nat.sub_zero, Nat.add_sub_cancel, Nat.div_one]
  refine wpAny_forIn_list _
    (fun rest _ s' => ∃ h' i, s' = { s with heap := h' } ∧ rest = List.range' i (es.size - i) ∧ i ≤ es.size ∧ h'.SetOf (intKind prog w) a (fun k => decide (k ∈ (kvs.take i).map (·.1))) i ∧ h'.get? d = some od ∧ Heap.SameBut a s.heap h')
    _ ?_ ?_ _ _ ⟨h₁, 0, rfl, by simp, Nat.zero_le _, by simpa using hS₁, hod₁, hs₁⟩
  · rintro x rest b s' ⟨h', i, rfl, hr, hi, hS, hoo', hs'⟩
    have hlt : i < es.size := by
      rcases Nat.lt_or_ge i es.size with h | h
      · exact h
      · rw [Nat.sub_eq_zero_of_le h] at hr; simp at hr
    obtain ⟨rfl, hrest⟩ : x = i ∧ rest = List.range' (i + 1) (es.size - (i + 1)) := by
      have e : es.size - i = (es.size - (i + 1)) + 1 := by omega
      rw [e, List.range'_succ] at hr
      injection hr with h1 h2
      exact ⟨h1, h2⟩
    refine wpAny_bind (wpAny_dictEntries hoo' hdd ?_)
    rw [Array.getElem?_eq_getElem hlt]
    have hltk : x < kvs.length := by rw [hlen]; exact hlt
    obtain ⟨kv, hkv⟩ : ∃ kv, kvs[x]? = some kv := ⟨kvs[x], List.getElem?_eq_getElem hltk⟩
    obtain ⟨k, v⟩ := kv
    obtain ⟨hkey, hval⟩ := hp.get? (e := es[x]) (by simp [hlt]) hkv
    obtain ⟨k', hkey', hhash⟩ := hk es[x] (Array.getElem_mem hlt)
    obtain rfl : k' = k := (intKind prog w).inj _ _ _ hkey' hkey
    show wpAny _ _ (holding [es[x].key] (setAddHashed a es[x].key es[x].hash) >>= _) _ _ _
    rw [hhash]
    have hsc : es[x].key.scannable = true := by obtain ⟨t, e⟩ := Value.isInt_shape hkey; rw [e]; rfl
    have hnot : decide (k' ∈ (kvs.take x).map (·.1)) = false := by
      rw [decide_eq_false_iff_not, List.map_take]
      intro hm
      have hg : (kvs.map (·.1))[x]? = some k' := by rw [List.getElem?_map, hkv]; rfl
      obtain ⟨j, hj, e⟩ := List.mem_iff_getElem.mp hm
      rw [List.length_take] at hj
      have hjx : j < x := by omega
      rw [List.getElem_take] at e
      have hx' : x < (kvs.map (·.1)).length := by rw [List.length_map]; exact hltk
      have e2 : (kvs.map (·.1))[x] = k' := by
        have := List.getElem?_eq_getElem hx'
        rw [hg] at this; exact (Option.some.inj this).symm
      have := List.pairwise_iff_getElem.mp hnd j x (by omega) hx' hjx
      exact this (e.trans e2.symm)
    refine wpAny_bind (wpAny_holding (wpAny_setAddHashed_of (knd := intKind prog w) hkey hsc hS (by have h1 : scanBound = 4096 := rfl; omega) fun h'' hs'' hS'' => ?_))
    rw [hnot] at hS''
    have hoo'' : h''.get? d = some od := (hs''.2 d hda).trans hoo'
    refine wpAny_bind (wpAny_dictEpoch hoo'' hdd ?_)
    rw [if_neg (by simp)]
    refine wpAny_pure ⟨h'', x + 1, rfl, hrest, hlt, SetOf_congr hS'' (fun y => ?_) (by simp), hoo'', hs'.trans hs''⟩
    rw [List.take_add_one, hkv]
    simp only [Option.toList_some, List.map_append, List.map_cons, List.map_nil, List.mem_append, List.mem_singleton]
    rw [Bool.decide_or]
  · rintro b s' ⟨h', i, rfl, hr, hi, hS, hoo', hs'⟩
    have hin : i = es.size := by
      rcases Nat.lt_or_ge i es.size with h | h
      · have e : es.size - i = (es.size - (i + 1)) + 1 := by omega
        rw [e, List.range'_succ] at hr; exact nomatch hr
      · exact Nat.le_antisymm hi h
    rw [hin, ← hlen, List.take_length] at hS
    exact wpAny_pure (h h' hs' hS)
end
end Mine

-- part V50
namespace Mine
open PySem PySem.W PyProof.Rows

section
variable {prog : Program} {w : World} {C : Addr} {h₀ : Heap} {A : Around} {E : Value → Shared → Prop} {s : Shared} {W : List Addr}

set_option maxHeartbeats 3200000 in
theorem set_dict {d : Addr} {kvs : List (Int × Value)} {ep : Nat} {Q : Value → Shared → Prop} (hs : (d == sysModules) = false) (hd : s.heap.DictAt (intKind prog w) d kvs ep) (hn : kvs.length ≤ 6)
    (h : ∀ h', h'.SetOf (intKind prog w) s.heap.objs.size (fun k => decide (k ∈ kvs.map (·.1))) kvs.length → (∀ b o, s.heap.get? b = some o → h'.get? b = some o) → Q (.ref s.heap.objs.size) { s with heap := h' }) :
    wpAny (model prog w) A (call (.type "set") [.ref d]) Q E s := by
  obtain ⟨c, tl, hmro⟩ := PySem.F.called_set.mro
  have hmade := PySem.F.called_set.made
  have hsub := PySem.F.called_set.sub
  refine wpAny_call (codeAny_of_tree ?_)
  show wpAny _ _ (callAny (.type "set") _) _ _ _
  refine wpAny_pure ⟨Code.quiet_builtin _ (by decide +kernel), codeAny_builtin PySem.F.entry_type_call ?_⟩
  rw [Around.under_plain (weight_type_call_type "set" [.ref d] []) rfl]
  have h1 := PySem.F.called_set.notType
  have h2 := PySem.F.called_set.canCreate
  have hct := PySem.F.typeCall_set_1 (.ref d)
  repeat (any_goals (first | assumption | wp_step))
  refine codeAny_mono (code_set_new_1 (.ref d) (E := E) (Q₁ := fun obj s₁ => ∃ led : Bool, obj = .ref s.heap.objs.size ∧ s₁ = { s with heap := s.heap.push (freshSet led) }) fun led => ⟨led, rfl, rfl⟩) fun r s₁ hr => ?_
  cases r with
  | error e => exact hr
  | ok fl =>
    cases fl with
    | ret obj =>
      obtain ⟨led, rfl, rfl⟩ := hr
      have hS : (s.heap.push (freshSet led)).get? s.heap.objs.size = some (freshSet led) := Heap.get?_push_size _ rfl
      have hT : Shared.TypeIs { s with heap := s.heap.push (freshSet led) } (.ref s.heap.objs.size) "set" := ⟨_, hS, rfl⟩
      have hli := PySem.F.called_set.init.lookup
      have hbi := PySem.F.called_set.init.bind (.ref s.heap.objs.size)
      repeat (any_goals (first | assumption | wp_step))
      refine codeAny_mono (codeAny_call_builtin (R := wants (fun r s₂ => r = .none ∧ ∃ h', s₂ = { s with heap := h' } ∧
          h'.SetOf (intKind prog w) s.heap.objs.size (fun k => decide (k ∈ kvs.map (·.1))) kvs.length ∧
          (∀ b o, s.heap.get? b = some o → h'.get? b = some o)) E) PySem.F.called_set.init.plain PySem.F.entry_set_init (check_set_init_1 hT ?_)) fun r₂ s₂ hr₂ => ?_
      · have hdl : d < s.heap.objs.size := let ⟨_, _, e, _⟩ := hd; Heap.lt_size e
        have hd' : (s.heap.push (freshSet led)).DictAt (intKind prog w) d kvs ep := let ⟨o, es, e, r⟩ := hd; ⟨o, es, Heap.get?_push_of_some _ e, r⟩
        unfold Builtin.«set.__init__» noKeywords
        generalize hPI : Builtin.Frozenset.updateFrom = PI
        wp_walk
        subst hPI
        refine update_dict (led := led) (Nat.ne_of_lt hdl) hs hd' hn hS fun h' hs' hS' => ?_
        wp_walk
        refine ⟨rfl, h', rfl, hS', fun b o e => (hs'.2 b (Nat.ne_of_lt (Heap.lt_size e))).trans (Heap.get?_push_of_some _ e)⟩
      · cases r₂ with
        | error e => exact hr₂
        | ok fl₂ =>
          cases fl₂ with
          | ret r =>
            obtain ⟨rfl, h', rfl, hS', hk'⟩ := hr₂
            repeat (any_goals (first | assumption | wp_step))
            exact h _ hS' hk'
          | _ => exact hr₂.elim
    | _ => exact hr.elim
end
end Mine

-- part V51
namespace Mine
open PySem PySem.W PyProof.Rows

def lenOf (n : Nat) : Option PV := match decide (n ≤ 100000) with
  | true => some (.int n)
  | false => none
def sumOf (l : List PV) : Option PV := match allInt l with
  | some is => some (.int (sumI is))
  | none => none
def setOf6 (ks : List Int) : Option PV := match decide (ks.length ≤ 6) with
  | true => some (.set false ks)
  | false => none
/-- the callables that are built in -/
def F0 : Nat → List PV → Option PV
  | 0, [.lst l] => lenOf l.length
  | 0, [.bag l] => lenOf l.length
  | 0, [.set _ l] => some (.int l.length)
  | 1, [.int n] => some (.rng 0 n)
  | 1, [.int a, .int b] => some (.rng a b)
  | 2, [.lst l] => sumOf l
  | 2, [.bag l] => sumOf l
  | 3, [.int a, .int b] => some (.int (if b > a then b else a))
  | 4, [.bool b] => some (.int (if b then 1 else 0))
  | 5, [.dct ks _] => setOf6 ks
  | _, _ => none

section
variable {prog : Program} {w : World} {C : Addr} {h₀ : Heap}

theorem VRs.one {h : Heap} {W : List Addr} {p : PV} {vs : List Value} (H : VRs prog w C h W [p] vs) : ∃ v, vs = [v] ∧ VR prog w C h W p v := by
  obtain ⟨v, r, rfl, hv, hr⟩ := H
  exact ⟨v, by rw [show r = [] from hr], hv⟩
theorem VRs.two {h : Heap} {W : List Addr} {p q : PV} {vs : List Value} (H : VRs prog w C h W [p, q] vs) : ∃ v u, vs = [v, u] ∧ VR prog w C h W p v ∧ VR prog w C h W q u := by
  obtain ⟨v, r, rfl, hv, hr⟩ := H
  obtain ⟨u, rfl, hu⟩ := VRs.one hr
  exact ⟨v, u, rfl, hv, hu⟩

theorem lenOf_ok {n : Nat} {p : PV} (h : lenOf n = some p) : n ≤ 100000 ∧ p = .int n := by
  unfold lenOf at h
  split at h
  · rename_i hd; cases h; exact ⟨by simpa using hd, rfl⟩
  · cases h
theorem sumOf_ok {l : List PV} {p : PV} (h : sumOf l = some p) : ∃ is, allInt l = some is ∧ p = .int (sumI is) := by
  unfold sumOf at h
  split at h
  · rename_i is hi; cases h; exact ⟨is, hi, rfl⟩
  · cases h
theorem setOf6_ok {ks : List Int} {p : PV} (h : setOf6 ks = some p) : ks.length ≤ 6 ∧ p = .set false ks := by
  unfold setOf6 at h
  split at h
  · rename_i hd; cases h; exact ⟨by simpa using hd, rfl⟩
  · cases h

theorem f0_ok {l : Nat} : FnOk prog w C h₀ l F0 := by
  intro f ps p hp hf A s W vs Q E ok hv h
  have nw : s.heap.objs.size ∉ W := fun hm => Nat.lt_irrefl _ (ok.live _ hm)
  unfold F0 at hp
  split at hp
  · obtain ⟨hz, rfl⟩ := lenOf_ok hp
    obtain ⟨v, rfl, a, us, rfl, _, hpl, hus⟩ := VRs.one hv
    exact len_ok hpl.isList (by rw [List.size_toArray, hus.length]) hz h
  · obtain ⟨hz, rfl⟩ := lenOf_ok hp
    obtain ⟨v, rfl, a, us, us', rfl, _, hpl, hpm, hus⟩ := VRs.one hv
    exact len_ok hpl.isList (by rw [List.size_toArray, hpm.length_eq, hus.length]) hz h
  · cases hp
    obtain ⟨v, rfl, a, rfl, _, _, hso, _⟩ := VRs.one hv
    obtain ⟨o, es, ep, t, ho, hex, hd, _, _, hb, hft, hn⟩ := hso
    have hb' : es.size < 4096 := hb
    exact call_len_set ho hex hd hft (by omega) (h _ _ (Ext.tok s 2) ⟨_, by rw [hn]⟩)
  · cases hp
    obtain ⟨v, rfl, t, rfl⟩ := VRs.one hv
    refine call_range_1 (h _ _ ((Ext.push s _).trans (Ext.tok _ 2)) ⟨_, _, _, _, rfl, nw, Heap.get?_push_size _ rfl⟩)
  · cases hp
    obtain ⟨v, u, rfl, ⟨t, rfl⟩, ⟨t', rfl⟩⟩ := VRs.two hv
    refine call_range_2 (h _ _ ((Ext.push s _).trans (Ext.tok _ 1)) ⟨_, _, _, _, rfl, nw, Heap.get?_push_size _ rfl⟩)
  · obtain ⟨is, hi, rfl⟩ := sumOf_ok hp
    obtain ⟨v, rfl, hv'⟩ := VRs.one hv
    exact sum_lst ok.a.handled hi hv' h
  · obtain ⟨is, hi, rfl⟩ := sumOf_ok hp
    obtain ⟨v, rfl, hv'⟩ := VRs.one hv
    exact sum_bag ok.a.handled hi hv' h
  · cases hp
    obtain ⟨v, u, rfl, ⟨t, rfl⟩, ⟨t', rfl⟩⟩ := VRs.two hv
    refine grown (max_two_ints ok.a.handled fun h' tk hk ht hz => h _ _ (Ext.mk' ht hz fun b o _ q => hk b o q) ?_)
    split <;> exact ⟨_, rfl⟩
  · cases hp
    obtain ⟨v, rfl, e⟩ := VRs.one hv
    rw [show v = _ from e]
    exact call_int_bool (h _ _ (Ext.tok s 1) ⟨_, rfl⟩)
  · obtain ⟨hz, rfl⟩ := setOf6_ok hp
    obtain ⟨v, rfl, a, us, ep, rfl, ha, hd, hl, hus, hs⟩ := VRs.one hv
    have hm := hd
    have hnd : ∀ {kvs : List (Int × Value)}, s.heap.DictAt (intKind prog w) a kvs ep → (kvs.map (·.1)).Nodup := fun x => let ⟨_, _, _, _, _, _, _, e⟩ := x; e
    have hk := hnd hd
    rw [List.map_fst_zip (by rw [hl]; exact Nat.le_refl _)] at hk
    refine grown (set_dict hs hd (by rw [List.length_zip]; omega) fun h' hS hkeep ht hz2 => ?_)
    rw [List.map_fst_zip (by rw [hl]; exact Nat.le_refl _)] at hS
    refine h _ _ (Ext.mk' (Nat.le_refl _) hz2 fun b o _ q => hkeep b o q) ⟨_, rfl, nw, hk, ?_, fun q => (nomatch q)⟩
    rw [List.length_zip, ← hl, Nat.min_self] at hS
    exact hS
  · cases hp
end
end Mine

-- part V52
namespace Mine
open PySem PySem.W PyProof.Rows

section
variable {prog : Program} {w : World} {A : Around} {E : Value → Shared → Prop} {s : Shared} {env : Env} {Q : Value → Shared → Prop}

/-- a method call: the receiver, the method, then the call -/
theorem Call_meth {o : Expr} {name : Str} {apos pos : Pos} {args : List Expr} {trees : List (Bool × Sem Value)}
    (hbase : attributeBase o name env (eval o env) = eval o env)
    (hfew : methodCallForm (args.length + ([] : List Keyword).length) (backTo pos (starEach args env)) (backToKw pos (keywordEach [] env)) = true)
    (hline : (apos.endLine == pos.line) = true) (htrees : backTo pos (starEach args env) = trees)
    (h : wpAny (model prog w) A (eval o env) (fun ov s₁ => ∀ pl, wpAny (model prog w) A (getMethod ov name pl) (fun fs s₂ => wpAny (model prog w) A (callWith pos fs.1 fs.2 trees []) Q E s₂) E s₁) E s) :
    wpAny (model prog w) A (eval (.Call (.Attribute o name apos) args [] pos) env) Q E s := by
  subst htrees
  rw [arm_eval_Call, hbase]
  refine wpAny_bind (wpAny_mono h (fun ov s₁ h₁ => ?_) fun _ _ e => e)
  refine wpAny_bind (wpAny_standAt ?_)
  have hpos : methodCallPos true o env apos pos = pure pos := by unfold methodCallPos; simp [hline]
  unfold methodCall
  rw [hfew]
  refine wpAny_bind (wpAny_holding (wpAny_mono (h₁ _) (fun fs s₂ h₂ => ?_) fun _ _ e => e))
  exact wpAny_bind (wpAny_of_eq hpos h₂)
theorem Call_meth0 {o : Expr} {name : Str} {apos pos : Pos} (hbase : attributeBase o name env (eval o env) = eval o env) (hline : (apos.endLine == pos.line) = true)
    (h : wpAny (model prog w) A (eval o env) (fun ov s₁ => ∀ pl, wpAny (model prog w) A (getMethod ov name pl) (fun fs s₂ => wpAny (model prog w) A (callWith pos fs.1 fs.2 [] []) Q E s₂) E s₁) E s) :
    wpAny (model prog w) A (eval (.Call (.Attribute o name apos) [] [] pos) env) Q E s := Call_meth hbase rfl hline rfl h
theorem Call_meth1 {o e : Expr} {name : Str} {apos pos : Pos} (hbase : attributeBase o name env (eval o env) = eval o env) (hline : (apos.endLine == pos.line) = true) (htrees : backTo pos (starEach [e] env) = [(false, eval e env)])
    (h : wpAny (model prog w) A (eval o env) (fun ov s₁ => ∀ pl, wpAny (model prog w) A (getMethod ov name pl) (fun fs s₂ => wpAny (model prog w) A (callWith pos fs.1 fs.2 [(false, eval e env)] []) Q E s₂) E s₁) E s) :
    wpAny (model prog w) A (eval (.Call (.Attribute o name apos) [e] [] pos) env) Q E s := Call_meth hbase (by rw [htrees]; rfl) hline htrees h
theorem Call_meth2 {o e f : Expr} {name : Str} {apos pos : Pos} (hbase : attributeBase o name env (eval o env) = eval o env) (hline : (apos.endLine == pos.line) = true) (htrees : backTo pos (starEach [e, f] env) = [(false, eval e env), (false, eval f env)])
    (h : wpAny (model prog w) A (eval o env) (fun ov s₁ => ∀ pl, wpAny (model prog w) A (getMethod ov name pl) (fun fs s₂ => wpAny (model prog w) A (callWith pos fs.1 fs.2 [(false, eval e env), (false, eval f env)] []) Q E s₂) E s₁) E s) :
    wpAny (model prog w) A (eval (.Call (.Attribute o name apos) [e, f] [] pos) env) Q E s := Call_meth hbase (by rw [htrees]; rfl) hline htrees h

/-- a function object of the text -/
structure FnAt (h₀ : Heap) (a : Addr) (fd : FuncData) (body : List Stmt) : Prop where
  obj : ∃ o, h₀.get? a = some o ∧ o.cls = .type "function" ∧ o.data = .func fd
  code : h₀.CodeRec fd.code fd.qualname
  body : fd.body = .stmts body
  gl : fd.globals = mainGlobals
  bt : fd.builtins = builtinsNs
  clo : fd.closure = []
  lim : h₀.NoLimit
  co : fd.scope.isCoroutine = false
  gen : fd.scope.isGenerator = false
  fn : fd.scope.kind = .function
  cells : ∀ x ∈ fd.scope.names, x.2 ≠ .cell

/-- a call of a function object, whatever its binding does -/
theorem call_fn {h₀ : Heap} {l : Nat} {a : Addr} {fd : FuncData} {body : List Stmt} {vals : List Value} (D : FnAt h₀ a fd body) (ha : AOk (l + 1) A) (old : ∀ b o, h₀.get? b = some o → s.heap.get? b = some o)
    (hbind : wpAny (model prog w) A.in1 (bindArgs fd ⟨vals, []⟩) (fun binds s₁ => Ext [] s s₁ ∧ (∀ x ∈ binds, fd.scope.names.lookup x.1 = some .local) ∧
      ∀ s₂, Ext [] s₁ s₂ → s₂.heap.Ns s₁.heap.objs.size (fun x => binds.reverse.lookup x) → ∃ R : Flow → Shared → Prop,
        (∀ E', wpAny (model prog w) (A.deeper (callEnv fd s₁.heap.objs.size a)) (execs body (callEnv fd s₁.heap.objs.size a)) R E' s₂) ∧ ∀ f s', R f s' → Q (match f with | .ret v => v | _ => .none) s') E s) :
    wpAny (model prog w) A (call (.ref a) vals) Q E s := by
  obtain ⟨o, ho, _, hd⟩ := D.obj
  refine wpAny_call (codeAny_call_function ha.room (old a o ho) hd D.co D.gen D.body (D.code.keeps old) (wpAny_mono hbind (fun binds s₁ hb => ?_) fun e s' he => he))
  obtain ⟨x₁, hloc, hr⟩ := hb
  rw [D.clo]
  refine wpAny_newFunctionEnv D.cells hloc (fun h' hns hsb => ?_) D.fn
  have hkeep : ∀ b o, s₁.heap.get? b = some o → h'.get? b = some o := fun b o e => (hsb.2 b (Nat.ne_of_lt (Heap.lt_size e))).trans (Heap.get?_push_of_some _ e)
  have x₂ : Ext [] s₁ { s₁ with heap := h', toks := s₁.toks + binds.length } := Ext.mk' (Nat.le_add_right _ _) (Nat.le_of_lt hns.lt) fun b o _ e => hkeep b o e
  refine ⟨D.lim.keeps fun b o e => (x₁.trans x₂).keep b o (by simp) (old b o e), ?_⟩
  obtain ⟨R, hR, hq⟩ := hr _ x₂ hns
  have e : newEnv fd.scope s₁.heap.objs.size fd.globals [] (fd.qualname ++ ".<locals>.") (some a) fd.code none fd.builtins = callEnv fd s₁.heap.objs.size a := by unfold callEnv; rw [D.clo]
  rw [e]
  exact codeAny_func (wpAny_mono (hR _) (fun f s' hf => hq f s' hf) fun _ _ he => he)

/-- the class of graphs, below -/
structure GC (h₀ : Heap) (C : Addr) (mN : Str → Option Value) : Prop where
  obj : ∃ nm q N bs sn sub col dd k0 k1 k2 k3 k5 newId, ObjNewFacts newId ∧ h₀.get? C = some (excClassObj nm q C N bs [.type "object"] true sn sub false col dd k0 k1 k2 k3 k5 newId) ∧ h₀.Ns N mN
  no : ∀ x ∈ (["__getattribute__", "__getattr__", "__setattr__", "_adj", "_node", "graph"] : List String).map Str.ofString, mN x = none

theorem gload {h₀ : Heap} {C x : Addr} {mN mA : Str → Option Value} {name : Str} {v : Value} {ex : Bool} (G : GC h₀ C mN) (old : ∀ b o, h₀.get? b = some o → s.heap.get? b = some o) (hx : s.heap.Inst x C mA)
    (hno : mN name = none) (hob : typeLookup (.type "object") name = pure none) (hv : mA name = some v) (hh : handedOut v = pure v) (h : Q v { s with toks := s.toks + 1 }) : wpAny (model prog w) A (getAttr (.ref x) name ex) Q E s := by
  obtain ⟨nm, q, N, bs, sn, sub, col, dd, k0, k1, k2, k3, k5, newId, _, hC, hN⟩ := G.obj
  exact load_attr (h := s.heap) (g := s.gens) (d := s.drawn) (t := s.toks) (os := s.os) (old _ _ hC) (hN.keeps old) (G.no _ (by simp)) hno hob hx hv hh h
theorem gmeth {h₀ : Heap} {C x f : Addr} {mN mA : Str → Option Value} {name : Str} {fd : FuncData} {body : List Stmt} {pl : Sem Bool} {Q : Value × List Value → Shared → Prop} {y : Option Value} (G : GC h₀ C mN) (D : FnAt h₀ f fd body) (old : ∀ b o, h₀.get? b = some o → s.heap.get? b = some o) (hx : s.heap.Inst x C mA)
    (hm : mN name = some (.ref f)) (hob : typeLookup (.type "object") name = pure y) (hA : mA name = none) (h : Q (.ref f, [.ref x]) s) : wpAny (model prog w) A (getMethod (.ref x) name pl) Q E s := by
  obtain ⟨nm, q, N, bs, sn, sub, col, dd, k0, k1, k2, k3, k5, newId, _, hC, hN⟩ := G.obj
  obtain ⟨o, ho, hc, _⟩ := D.obj
  exact method_of (h := s.heap) (g := s.gens) (d := s.drawn) (t := s.toks) (os := s.os) (old _ _ hC) (hN.keeps old) (G.no _ (by simp)) (G.no _ (by simp)) hm (old _ _ ho) hc hob hx hA h
end
end Mine

-- part V53
namespace Mine
open PySem PySem.W PyProof.Rows

def emptyDict : Obj := { cls := .type "dict", data := .dict #[] }
/-- a binding that ends with a dict for the other keywords -/
def Kw (t : Sem (List (Str × Value))) (b : List (Str × Value)) (n : Str) : Prop := t = (alloc { cls := .type "dict", data := .dict #[] } >>= fun d => pure (b ++ [(n, .ref d)]))

/-- a binding, the text's own things standing (the defaults lie on the heap) -/
def Bnd (h₀ : Heap) (t : Sem (List (Str × Value))) (b : List (Str × Value)) : Prop := ∀ (prog : Program) (w : World) (A : Around) (E : Value → Shared → Prop) (s : Shared) (Q : List (Str × Value) → Shared → Prop),
  (∀ a o, h₀.get? a = some o → s.heap.get? a = some o) → Q b s → wpAny (model prog w) A t Q E s
def KwD (h₀ : Heap) (t : Sem (List (Str × Value))) (b : List (Str × Value)) (n : Str) : Prop := ∀ (prog : Program) (w : World) (A : Around) (E : Value → Shared → Prop) (s : Shared) (Q : List (Str × Value) → Shared → Prop),
  (∀ a o, h₀.get? a = some o → s.heap.get? a = some o) → Q (b ++ [(n, .ref s.heap.objs.size)]) { s with heap := s.heap.push emptyDict } → wpAny (model prog w) A t Q E s

/-- a frame of the text's own -/
structure Fe (env : Env) (xs gs : List Str) : Prop where
  fn : env.scope.kind = .function
  gl : env.globals = mainGlobals
  bt : env.builtins = builtinsNs
  loc : ∀ x ∈ xs, env.kindOf x = some .local
  glob : ∀ x ∈ gs, env.kindOf x = some .globalImplicit
/-- the same of a def -/
def FeB (sc : Scope) (xs gs : List Str) : Prop := (∀ x ∈ xs, sc.names.lookup x = some .local) ∧ ∀ x ∈ gs, sc.names.lookup x = some .globalImplicit

theorem Fe.of {h₀ : Heap} {a L : Addr} {fd : FuncData} {body : List Stmt} {xs gs : List Str} (D : FnAt h₀ a fd body) (B : FeB fd.scope xs gs) : Fe (callEnv fd L a) xs gs :=
  ⟨D.fn, D.gl, D.bt, B.1, B.2⟩
theorem Fe.inter {env : Env} {xs gs : List Str} (F : Fe env xs gs) : interactive env = false := by
  unfold interactive; rw [F.fn]; rfl

section
variable {prog : Program} {w : World} {C : Addr} {h₀ : Heap} {A : Around} {E : Value → Shared → Prop} {s : Shared} {env : Env} {xs gs : List Str} {m : Str → Option Value}

theorem kw_ok {t : Sem (List (Str × Value))} {b : List (Str × Value)} {n : Str} {Q : List (Str × Value) → Shared → Prop} (k : Kw t b n) (h : Q (b ++ [(n, .ref s.heap.objs.size)]) { s with heap := s.heap.push emptyDict }) : wpAny (model prog w) A t Q E s := by
  rw [show t = _ from k]
  exact wpAny_bind (wpAny_alloc (wpAny_pure h))

theorem lname {x : Str} {p : Pos} {v : Value} {Q : Value → Shared → Prop} (F : Fe env xs gs) (hn : s.heap.Ns env.locals m) (hx : x ∈ xs) (hv : m x = some v) (hd : (x == ("__debug__" : Str)) = false) (h : Q v s) : wpAny (model prog w) A (eval (.Name x p) env) Q E s :=
  wpAny_Name (wpAny_loadName_local F.fn (F.loc x hx) hn hv h) hd
theorem lstore {x : Str} {v : Value} {Q : Unit → Shared → Prop} (F : Fe env xs gs) (hn : s.heap.Ns env.locals m) (hx : x ∈ xs)
    (h : ∀ s', Ext [env.locals] s s' → s'.heap.Ns env.locals (fun y => if y = x then some v else m y) → Q () s') : wpAny (model prog w) A (storeName env x v) Q E s :=
  wpAny_storeName_local (F.loc x hx) hn (fun h' hn' hs => h _ (Ext.sameBut (Nat.le_succ _) hs) hn') (by rw [F.fn]; rfl)

/-- `return {}` -/
theorem factory_ok {l : Nat} {f : Addr} {fd : FuncData} {p1 p2 : Pos} {x : Value} {n : Str} {Q : Value → Shared → Prop} (D : FnAt h₀ f fd [.Return (some (.Dict [] [] p1)) p2]) (hb : bindArgs fd ⟨[x], []⟩ = pure [(n, x)]) (hn : fd.scope.names.lookup n = some .local)
    (ha : AOk (l + 1) A) (old : ∀ b o, h₀.get? b = some o → s.heap.get? b = some o) (h : ∀ a s', Ext [] s s' → s.heap.objs.size ≤ a → s'.heap.get? a = some emptyDict → Q (.ref a) s') : wpAny (model prog w) A (call (.ref f) [x]) Q E s := by
  refine call_fn D ha old ?_
  rw [hb]
  refine wpAny_pure ⟨Ext.refl _ _, fun y hy => ?_, fun s₂ x₂ hns => ⟨fun fl s' => ∃ u, fl = .ret u ∧ Q u s', fun E' => ?_, fun f s' ⟨u, e, hq⟩ => by subst e; exact hq⟩⟩
  · rw [List.mem_singleton] at hy; rw [hy]; exact hn
  · refine wpAny_execs_cons (wpAny_Return_some ?_)
    rw [eval_Dict_empty]
    refine wpAny_bind (wpAny_standAt (wpAny_newObj_type ?_))
    exact ⟨_, rfl, h _ _ (x₂.trans (Ext.push _ _)) x₂.size (Heap.get?_push_size _ rfl)⟩

theorem empty_dictOf {h : Heap} {a : Addr} (e : h.get? a = some emptyDict) : h.DictOf (intKind prog w) a [] :=
  ⟨_, #[], 0, e, ⟨rfl, rfl, rfl⟩, rfl, fun e he => by simp at he, .nil, List.nodup_nil⟩

/-- d.update(o), both empty -/
theorem update_empty {d o : Addr} {Q : Value → Shared → Prop} (hdo : d ≠ o) (ho : (o == sysModules) = false) (hd : s.heap.DictOf (intKind prog w) d []) (hod : s.heap.DictOf (intKind prog w) o [])
    (h : ∀ s', Ext [d] s s' → s'.heap.DictOf (intKind prog w) d [] → Q .none s') : wpAny (model prog w) A (call (.builtin "dict.update") [.ref d, .ref o]) Q E s :=
  call_meetsIn PySem.F.slot_dict_update hd.typeIs PySem.F.entry_dict_update (PySem.F.args_dict_update_2 _ _) (meets_dict_update (intKind prog w) d o hdo ho)
    ⟨[], [], hd, hod, Nat.zero_le _, fun h' hm _ hs => h _ (Ext.sameBut (Nat.le_refl _) hs) hm⟩
end
end Mine

-- part V54
namespace Mine
open PySem PySem.W PyProof.Rows

section
variable {prog : Program} {w : World} {C : Addr} {h₀ : Heap} {A : Around} {E : Value → Shared → Prop} {s : Shared} {env : Env} {xs gs : List Str} {m : Str → Option Value}

theorem pop_empty {d : Addr} {x : Str} {t : Tok} {v : Value} {Q : Value → Shared → Prop} (hds : (d == sysModules) = false) (hd : s.heap.DictOf (PySem.strKind prog w) d []) (h : Q v { s with toks := s.toks + 1 }) :
    wpAny (model prog w) A (call (.builtin "dict.pop") [.ref d, .str x t, v]) Q E s := by
  have hm : MeetsIn prog w (Builtin.«dict.pop» ⟨[.ref d, .str x t, v], []⟩) (fun _ R s => s.heap.DictOf (PySem.strKind prog w) d [] ∧ R (.ok (.ret v)) { s with toks := s.toks + 1 }) :=
    .of_wp fun A R s ⟨hm, h⟩ => by
      unfold Builtin.«dict.pop»
      refine wpAny_bind ?_
      unfold Builtin.Dict.keyAndDefault
      refine wpAny_bind (wpAny_notOrdered_dict hm.typeIs ?_)
      show wpAny _ _ (pure (d, Value.str x t, some v)) _ _ s
      refine wpAny_pure ?_
      have hpart : (keyPart (.str x t)).isSome = true := rfl
      simp only [hpart, if_true]
      refine wpAny_bind (wpAny_pure ?_)
      simp only [Bool.false_eq_true, if_false]
      refine wpAny_bind (wpAny_takeOut_pairs_none (knd := PySem.strKind prog w) (k := x) (show Value.isStrOf x (.str x t) = true by simp [Value.isStrOf]) hm rfl ?_)
      simp only [Option.isNone_none, if_true]
      refine wpAny_bind ?_
      unfold Builtin.Dict.missedRemoval
      rw [if_neg (by rw [hds]; exact Bool.false_ne_true)]
      refine wpAny_pure ?_
      exact wpAny_bind (wpAny_rule (wpAny_pure ⟨v, rfl, h⟩))
  exact call_meetsIn PySem.F.slot_dict_pop hd.typeIs PySem.F.entry_dict_pop (PySem.F.args_dict_pop_3 _ _ _) hm ⟨hd, h⟩
end
end Mine

-- part V55
namespace Mine
open PySem PySem.W PyProof.Rows

/-- what is dead stays dead -/
def Dead (h h' : Heap) : Prop := ∀ b, b < h.objs.size → h.get? b = none → h'.get? b = none
theorem Dead.refl (h : Heap) : Dead h h := fun _ _ e => e
theorem Dead.trans {h h₁ h₂ : Heap} (z : h.objs.size ≤ h₁.objs.size) (a : Dead h h₁) (b : Dead h₁ h₂) : Dead h h₂ := fun c hc e => b c (Nat.lt_of_lt_of_le hc z) (a c hc e)
theorem Dead.push (h : Heap) (o : Obj) : Dead h (h.push o) := by
  intro b hb e
  unfold Heap.push Heap.get? at *
  simp only [Array.getElem?_push]
  rw [if_neg (Nat.ne_of_lt hb)]
  exact e
theorem Dead.update {h : Heap} {a : Addr} {f : Obj → Obj} (ha : (h.get? a).isSome) : Dead h (h.update a f) := by
  intro b hb e
  have hab : a ≠ b := fun q => by rw [q, e] at ha; cases ha
  exact (Heap.get?_update_other _ _ hab).trans e
theorem runs_dead {M : Model} {Γ : Ctx} {p : Pos} {t : Sem Fin} {fs : List Frame} {s s' : Shared} {e : End} (h : Runs M Γ p t fs s e s') : Dead s.heap s'.heap := by
  induction h <;> (try exact Dead.refl _) <;> (try assumption)
  case update ha _ ih => exact (Dead.update ha).trans (Nat.le_of_eq (Heap.size_after_update ..).symm) ih
  case alloc ih => exact (Dead.push _ _).trans (by rw [Heap.size_push]; exact Nat.le_succ _) ih
  case call h1 _ ih1 ih2 => exact ih1.trans (runs_size h1) ih2
  case resumeFresh h1 _ _ ih1 ih2 => exact Dead.trans (h := (Shared.setGen _ _ _).heap) (runs_size h1) ih1 ih2
  case resumeSuspended h1 _ _ ih1 ih2 => exact Dead.trans (h := (Shared.setGen _ _ _).heap) (runs_size h1) ih1 ih2
  case segRet h1 _ ih1 ih2 => exact ih1.trans (runs_size h1) ih2
  case segGen h1 _ ih1 ih2 => exact ih1.trans (runs_size h1) ih2
  case segSuspGen h1 _ _ ih1 ih2 => exact ih1.trans (runs_size h1) ih2
theorem wakes_dead {M : Model} {Γ : Ctx} {p : Pos} {g : Nat} {r : Resume} {s s' : Shared} {res : GenResult} (h : Wakes M Γ p g r s res s') : Dead s.heap s'.heap := by
  unfold Wakes at h
  split at h
  · exact h.elim
  · split at h
    · obtain ⟨e₁, s₁, hr, _, _, rfl⟩ := h; exact (runs_dead hr : Dead (s.setGen g .running).heap s₁.heap)
    · rw [h.2]; exact Dead.refl _
    · rw [h.2]; exact Dead.refl _
  · obtain ⟨e₁, s₁, hr, _, _, rfl⟩ := h; exact (runs_dead hr : Dead (s.setGen g .running).heap s₁.heap)
  · rw [h.2]; exact Dead.refl _
  · rw [h.2]; exact Dead.refl _
theorem wp_dead {α : Type} (M : Model) (Γ : Ctx) (h₀ : Heap) (t : Sem α) : ∀ (Q : α → Pos → Shared → Prop) (E : Value → Pos → Shared → Prop) (p : Pos) (s : Shared), h₀.objs.size ≤ s.heap.objs.size → Dead h₀ s.heap → Sem.wp M Γ t Q E p s →
    Sem.wp M Γ t (fun a p' s' => Dead h₀ s'.heap ∧ Q a p' s') E p s := by
  induction t with
  | pure a => intro Q E p s _ hn h; exact ⟨hn, h⟩
  | raise e => intro Q E p s _ hn h; exact h
  | unsupported _ => intro Q E p s _ _ h; exact h
  | finish _ => intro Q E p s _ _ h; exact h
  | rule _ k ih => intro Q E p s hz hn h; exact ih () Q E p s hz hn h
  | «at» p' k ih => intro Q E p s hz hn h; exact ih () Q E p' s hz hn h
  | load a _ k ih => intro Q E p s hz hn h; obtain ⟨o, ho, h⟩ := h; exact ⟨o, ho, ih o Q E p s hz hn h⟩
  | update a _ f k ih => intro Q E p s hz hn h; exact ⟨h.1, ih () Q E p _ (by rw [Heap.size_after_update]; exact hz) (hn.trans hz (Dead.update h.1)) h.2⟩
  | loadIfAlive a k ih => intro Q E p s hz hn h; exact ih _ Q E p s hz hn h
  | point _ k ih => intro Q E p s hz hn h; exact ih () Q E p s hz hn h
  | register _ _ => intro Q E p s _ _ h; exact h
  | alloc o k ih => intro Q E p s hz hn h; exact ih _ Q E p _ (by rw [Heap.size_push]; exact Nat.le_succ_of_le hz) (hn.trans hz (Dead.push _ _)) h
  | fresh k ih => intro Q E p s hz hn h; exact ih _ Q E p _ hz hn h
  | ask k ih => intro Q E p s hz hn h; exact ih _ Q E p s hz hn h
  | choose src m k ih => intro Q E p s hz hn h; exact ⟨h.1, ih _ Q E p _ hz hn h.2⟩
  | os q _ k ih => intro Q E p s hz hn h; exact ih _ Q E p _ hz hn h
  | call c hd _ _ k ih => intro Q E p s hz hn h; obtain ⟨r, s', hr, h⟩ := h; exact ⟨r, s', hr, ih r Q E p s' (Nat.le_trans hz (runs_size hr)) (hn.trans hz (runs_dead hr)) h⟩
  | handled own k ih => intro Q E p s hz hn h; exact ih _ Q E p s hz hn h
  | genState g k ih => intro Q E p s hz hn h; obtain ⟨st, hs, h⟩ := h; exact ⟨st, hs, ih _ Q E p s hz hn h⟩
  | newGen c k ih => intro Q E p s hz hn h; exact ih _ Q E p _ hz hn h
  | resume g r _ k ih => intro Q E p s hz hn h; obtain ⟨res, s', hw, h⟩ := h; exact ⟨res, s', hw, ih res Q E p s' (Nat.le_trans hz (wakes_size hw)) (hn.trans hz (wakes_dead hw)) h⟩
  | yield _ _ _ _ => intro Q E p s _ _ h; exact h
  | stack k ih => intro Q E p s hz hn h; exact ih _ Q E p s hz hn h
  | fork _ _ => intro Q E p s _ _ h; exact h
  | thread k ih => intro Q E p s hz hn h; exact ih _ Q E p s hz hn h
  | await _ _ _ _ _ => intro Q E p s _ _ h; exact h
theorem kept_dead {α : Type} {M : Model} {A : Around} {s : Shared} {t : Sem α} {Q : α → Shared → Prop} {E : Value → Shared → Prop}
    (h : wpAny M A t (fun a s' => Dead s.heap s'.heap → Q a s') E s) : wpAny M A t Q E s :=
  wpAny_mono (Q := fun a s' => Dead s.heap s'.heap ∧ (Dead s.heap s'.heap → Q a s')) (E := E) (fun Γ p hΓ => wp_dead M Γ s.heap t _ _ p s (Nat.le_refl _) (Dead.refl _) (h Γ p hΓ)) (fun _ _ x => x.2 x.1) fun _ _ x => x
end Mine

-- part V56
namespace Mine
open PySem PySem.W PyProof.Rows

def gmA (gg gn ga : Addr) : Str → Option Value := fun y => if y = Str.ofString "_adj" then some (.ref ga) else if y = Str.ofString "_node" then some (.ref gn) else if y = Str.ofString "graph" then some (.ref gg) else none
abbrev Gr := List (Int × List Int)
def keysG (G : Gr) : List Int := G.map (·.1)

theorem valueAt_zip_none {ks : List Int} {vs : List Value} {k : Int} (h : k ∉ ks) : valueAt (ks.zip vs) k = none := by
  unfold valueAt
  rw [Option.map_eq_none_iff, List.find?_eq_none]
  intro p hp
  have := (List.of_mem_zip (show (p.1, p.2) ∈ ks.zip vs from hp)).1
  simp only [decide_eq_true_eq]
  exact fun e => h (by rw [← e]; exact this)
theorem valueAt_zip_some : ∀ {ks : List Int} {vs : List Value} {k : Int}, ks.length = vs.length → k ∈ ks → ∃ (i : Nat) (v : Value), ks[i]? = some k ∧ vs[i]? = some v ∧ valueAt (ks.zip vs) k = some v
  | [], _, _, _, h => by simp at h
  | a :: ks, [], _, e, _ => by simp at e
  | a :: ks, v :: vs, k, e, h => by
    by_cases q : a = k
    · subst q
      exact ⟨0, v, rfl, rfl, by simp [valueAt]⟩
    · have hk : k ∈ ks := by rcases List.mem_cons.mp h with r | r; exact absurd r.symm q; exact r
      obtain ⟨i, u, h1, h2, h3⟩ := valueAt_zip_some (ks := ks) (vs := vs) (by simpa using e) hk
      refine ⟨i + 1, u, by simpa using h1, by simpa using h2, ?_⟩
      unfold valueAt at h3 ⊢
      rw [List.zip_cons_cons, List.find?_cons_of_neg (by simpa using q)]
      exact h3
theorem zip_end {α β : Type} : ∀ {ks : List α} {vs : List β} (k : α) (v : β), ks.length = vs.length → (ks ++ [k]).zip (vs ++ [v]) = ks.zip vs ++ [(k, v)]
  | [], [], _, _, _ => rfl
  | [], _ :: _, _, _, e => by simp at e
  | _ :: _, [], _, _, e => by simp at e
  | a :: ks, b :: vs, k, v, e => by
    simp only [List.cons_append, List.zip_cons_cons]
    rw [zip_end k v (by simpa using e)]
theorem stored_zip_new {ks : List Int} {vs : List Value} {k : Int} {v : Value} (e : ks.length = vs.length) (h : k ∉ ks) : stored (ks.zip vs) k v = (ks ++ [k]).zip (vs ++ [v]) := by
  unfold stored
  rw [if_neg, zip_end k v e]
  intro hany
  obtain ⟨y, hy, q⟩ := List.any_eq_true.mp hany
  have := (List.of_mem_zip (show (y.1, y.2) ∈ ks.zip vs from hy)).1
  rw [decide_eq_true_eq] at q
  exact h (by rw [← q]; exact this)

section
variable (prog : Program) (w : World) (C : Addr)
/-- a graph on the heap -/
structure GAt (h : Heap) (x d gg gn ga : Addr) (as ls : List Addr) (G : Gr) : Prop where
  inst : ∃ o, h.get? x = some o ∧ o.cls = .ref C ∧ (∀ c, o.data ≠ .cls c) ∧ o.dict = some d ∧ h.Ns1 d (gmA gg gn ga)
  gr : ∃ kvs, h.DictOf (PySem.strKind prog w) gg kvs ∧ ∀ p ∈ kvs, p.1 = Str.ofString "name"
  nodes : ∃ vs : List Value, h.DictOf (intKind prog w) gn ((keysG G).zip vs) ∧ vs.length = G.length ∧ ∀ v ∈ vs, ∃ e ∈ ls, v = .ref e
  adj : h.DictOf (intKind prog w) ga ((keysG G).zip (as.map Value.ref))
  len : as.length = G.length
  inner : ∀ (i : Nat) (p : Int × List Int) (a : Addr), G[i]? = some p → as[i]? = some a → ∃ vs : List Value, h.DictOf (intKind prog w) a (p.2.zip vs) ∧ vs.length = p.2.length ∧ ∀ v ∈ vs, ∃ e ∈ ls, v = .ref e
  leaf : ∀ e ∈ ls, h.DictOf (intKind prog w) e []
  nd : (x :: d :: gg :: gn :: ga :: as).Nodup
  lf : ∀ e ∈ ls, e ∉ x :: d :: gg :: gn :: ga :: as
end
def rl (x d gg gn ga : Addr) (as ls : List Addr) : List Addr := x :: d :: gg :: gn :: ga :: (as ++ ls)

section
variable {prog : Program} {w : World} {C : Addr}
theorem GAt.keep {h h' : Heap} {x d gg gn ga : Addr} {as ls : List Addr} {G : Gr} (H : GAt prog w C h x d gg gn ga as ls G) (k : ∀ b ∈ rl x d gg gn ga as ls, ∀ o, h.get? b = some o → h'.get? b = some o) : GAt prog w C h' x d gg gn ga as ls G := by
  have ka : ∀ a ∈ as, ∀ o, h.get? a = some o → h'.get? a = some o := fun a ha => k a (by simp [rl, ha])
  have kl : ∀ a ∈ ls, ∀ o, h.get? a = some o → h'.get? a = some o := fun a ha => k a (by simp [rl, ha])
  refine ⟨?_, ?_, ?_, H.adj.at (k ga (by simp [rl])), H.len, ?_, fun e he => (H.leaf e he).at (kl e he), H.nd, H.lf⟩
  · obtain ⟨o, h1, h2, h3, h4, h5⟩ := H.inst
    exact ⟨o, k x (by simp [rl]) o h1, h2, h3, h4, h5.at (k d (by simp [rl]))⟩
  · obtain ⟨kvs, h1, h2⟩ := H.gr
    exact ⟨kvs, h1.at (k gg (by simp [rl])), h2⟩
  · obtain ⟨vs, h1, h2, h3⟩ := H.nodes
    exact ⟨vs, h1.at (k gn (by simp [rl])), h2, h3⟩
  · intro i p a h1 h2
    obtain ⟨vs, h3, h4, h5⟩ := H.inner i p a h1 h2
    exact ⟨vs, h3.at (ka a (List.mem_of_getElem? h2)), h4, h5⟩
theorem GAt.ofInst {h : Heap} {x d gg gn ga : Addr} {as ls : List Addr} {G : Gr} (H : GAt prog w C h x d gg gn ga as ls G) : h.Inst x C (gmA gg gn ga) := by
  obtain ⟨o, h1, h2, h3, h4, h5⟩ := H.inst
  refine ⟨o, h1, h2, h3, .inr ⟨d, h4, fun e => ?_, h5⟩⟩
  have := H.nd
  rw [e] at this
  simp at this
end
end Mine

-- part V57
namespace Mine
open PySem PySem.W PyProof.Rows

def topB : List Stmt := PySem.Challenge.pw_ez0197_01.main.body
def fnB (i : Nat) : List Stmt := match topB[i]? with | some (.FunctionDef _ _ b _ _ _ _ _ _ _) => b | _ => []
def clB (i : Nat) : List Stmt := match topB[i]? with | some (.ClassDef _ _ _ b _ _ _ _ _ _ _) => b | _ => []
def mtB (i : Nat) : List Stmt := match (clB 14)[i]? with | some (.FunctionDef _ _ b _ _ _ _ _ _ _) => b | _ => []

theorem AOk.under_new {l : Nat} {A : Around} (a : AOk (l + 1) A) (C : Addr) : AOk l (A.under (.builtin "type.__call__" ⟨[.ref C], []⟩)) := by
  refine ⟨?_, ?_, ?_⟩
  · have := a.handled
    obtain ⟨hd, d, fr, gs, u⟩ := A
    exact this
  · have h1 := a.depth
    have h2 : (Code.builtin "type.__call__" ⟨[.ref C], []⟩).weight = 1 := by rfl
    have h3 : (A.under (.builtin "type.__call__" ⟨[.ref C], []⟩)).depth = A.depth + (Code.builtin "type.__call__" ⟨[.ref C], []⟩).weight := by obtain ⟨hd, d, fr, gs, u⟩ := A; rfl
    omega
  · have h1 := a.units
    have h2 : (Code.builtin "type.__call__" ⟨[.ref C], []⟩).cUnits = 1 := by rfl
    have h3 : (A.under (.builtin "type.__call__" ⟨[.ref C], []⟩)).units = A.units + (Code.builtin "type.__call__" ⟨[.ref C], []⟩).cUnits := by obtain ⟨hd, d, fr, gs, u⟩ := A; rfl
    omega

/-- an object of a class and its dict -/
def IAt (C : Addr) (h : Heap) (x d : Addr) (mA : Str → Option Value) : Prop := h.Inst x C mA ∧ ∀ o, h.get? x = some o → o.dict = some d

theorem IAt.keep {C x d : Addr} {h h' : Heap} {mA : Str → Option Value} (I : IAt C h x d mA) (kx : ∀ o, h.get? x = some o → h'.get? x = some o) (kd : ∀ o, h.get? d = some o → h'.get? d = some o) : IAt C h' x d mA := by
  obtain ⟨⟨o, hx, hc, hnc, hr⟩, hd⟩ := I
  have e := hd o hx
  rcases hr with ⟨e', _⟩ | ⟨d', e', hne, hns⟩
  · rw [e] at e'; cases e'
  · rw [e] at e'; cases e'
    exact ⟨⟨o, kx o hx, hc, hnc, .inr ⟨d, e, hne, hns.at kd⟩⟩, fun o' h' => by rw [kx o hx] at h'; cases h'; exact e⟩
theorem IAt.live {C x d : Addr} {h : Heap} {mA : Str → Option Value} (I : IAt C h x d mA) : x < h.objs.size ∧ d < h.objs.size ∧ d ≠ x := by
  obtain ⟨⟨o, hx, hc, hnc, hr⟩, hd⟩ := I
  have e := hd o hx
  rcases hr with ⟨e', _⟩ | ⟨d', e', hne, hns⟩
  · rw [e] at e'; cases e'
  · rw [e] at e'; cases e'
    exact ⟨Heap.lt_size hx, hns.lt, hne⟩

section
variable {prog : Program} {w : World} {C : Addr} {h₀ : Heap} {A : Around} {E : Value → Shared → Prop} {s : Shared} {env : Env} {xs gs : List Str} {m : Str → Option Value}

theorem istore {x d : Addr} {mN mA : Str → Option Value} {name : Str} {v : Value} {ns : List Str} {Q : Unit → Shared → Prop} (G : GC h₀ C mN) (old : ∀ b o, h₀.get? b = some o → s.heap.get? b = some o) (I : IAt C s.heap x d mA) (hxC : x ≠ C)
    (hno : mN name = none) (hob : typeLookup (.type "object") name = pure none) (hw : Within mA ns) (hsz : ns.length ≤ sizeLine)
    (h : ∀ s', Ext [x, d] s s' → IAt C s'.heap x d (fun y => if y = name then some v else mA y) → Q () s') : wpAny (model prog w) A (setAttr (.ref x) name v) Q E s := by
  obtain ⟨nm, q, N, bs, sn, sub, col, dd, k0, k1, k2, k3, k5, newId, _, hC, hN⟩ := G.obj
  obtain ⟨o, hx, _⟩ := id I.1
  refine grown ?_
  refine store_attr (h := s.heap) (g := s.gens) (d := s.drawn) (t := s.toks) (os := s.os) F.store_object (old _ _ hC) (hN.keeps old) (G.no _ (by simp)) hno hob hxC I.1 (fun h' tk' I' hk ho ht hz => ?_) hw hsz
  refine h _ (Ext.mk' ht hz fun b o' hb e => hk b o' (fun q => hb (by simp [q])) (fun o₀ dx e1 e2 q => ?_) e) ⟨I', fun o₁ e₁ => ?_⟩
  · have := I.2 o₀ e1; rw [e2] at this; cases this
    exact hb (by simp [q])
  · obtain ⟨o₂, e2, _, _, _, hd⟩ := ho o hx
    have e₁' : h'.get? x = some o₁ := e₁
    rw [e2] at e₁'; cases e₁'
    exact hd d (I.2 o hx)

/-- a function object called with its receiver -/
theorem callF0 {f : Addr} {fd : FuncData} {body : List Stmt} {pos : Pos} {vs : List Value} {Q : Value → Shared → Prop} (D : FnAt h₀ f fd body) (old : ∀ b o, h₀.get? b = some o → s.heap.get? b = some o)
    (h : wpAny (model prog w) A (call (.ref f) vs) Q E s) : wpAny (model prog w) A (callWith pos (.ref f) vs [] []) Q E s := by
  obtain ⟨o, ho, _, hd⟩ := D.obj
  exact Calls.callWith_function (PyProof.Rows.evalArgs_none ⟨⟨old _ _ ho, hd⟩, by rw [List.append_nil]; exact h⟩)

/-- a method that gives a new empty dict -/
def Fac (h₀ : Heap) (mN : Str → Option Value) (name : Str) : Prop :=
  ∃ f fd p1 p2 n, mN name = some (.ref f) ∧ FnAt h₀ f fd [.Return (some (.Dict [] [] p1)) p2] ∧ (∀ x, bindArgs fd ⟨[x], []⟩ = pure [(n, x)]) ∧ fd.scope.names.lookup n = some .local

/-- self.meth() for such a method -/
theorem fac_call {l : Nat} {x : Addr} {mN mA : Str → Option Value} {self name : Str} {p1 p2 p3 : Pos} {Q : Value → Shared → Prop} (G : GC h₀ C mN) (K : Fac h₀ mN name) (a : AOk (l + 1) A) (old : ∀ b o, h₀.get? b = some o → s.heap.get? b = some o)
    (Fr : Fe env xs gs) (hn : s.heap.Ns env.locals m) (hx : self ∈ xs) (hv : m self = some (.ref x)) (hd : (self == ("__debug__" : Str)) = false) (I : s.heap.Inst x C mA) (hob : typeLookup (.type "object") name = pure none) (hA : mA name = none)
    (hbase : attributeBase (.Name self p1) name env (eval (.Name self p1) env) = eval (.Name self p1) env) (hline : (p2.endLine == p3.line) = true)
    (h : ∀ e s', Ext [] s s' → s.heap.objs.size ≤ e → s'.heap.get? e = some emptyDict → Q (.ref e) s') : wpAny (model prog w) A (eval (.Call (.Attribute (.Name self p1) name p2) [] [] p3) env) Q E s := by
  obtain ⟨f, fd, p4, p5, n, hf, D, hb, hl⟩ := K
  refine Call_meth0 hbase hline (lname Fr hn hx hv hd fun pl => ?_)
  refine gmeth (x := x) G D old I hf hob hA ?_
  exact callF0 D old (factory_ok D (hb _) hl a old h)

/-- self.attr = self.meth() -/
theorem fac_stmt {l : Nat} {x d : Addr} {mN mA : Str → Option Value} {self attr name : Str} {p1 p2 p3 p4 p5 p6 : Pos} {ns : List Str} {Q : Flow → Shared → Prop} (G : GC h₀ C mN) (K : Fac h₀ mN name) (a : AOk (l + 1) A) (old : ∀ b o, h₀.get? b = some o → s.heap.get? b = some o)
    (Fr : Fe env xs gs) (hn : s.heap.Ns env.locals m) (hx : self ∈ xs) (hv : m self = some (.ref x)) (hd : (self == ("__debug__" : Str)) = false) (I : IAt C s.heap x d mA) (hxC : x ≠ C) (hob : typeLookup (.type "object") name = pure none) (hA : mA name = none)
    (hno : mN attr = none) (hob' : typeLookup (.type "object") attr = pure none) (hw : Within mA ns) (hsz : ns.length ≤ sizeLine)
    (hbase : attributeBase (.Name self p1) name env (eval (.Name self p1) env) = eval (.Name self p1) env) (hline : (p2.endLine == p3.line) = true)
    (hsw : swapsWith (.Call (.Attribute (.Name self p1) name p2) [] [] p3) (some (.Attribute (.Name self p4) attr p5)) p6.line env = pure false)
    (h : ∀ e s', Ext [x, d] s s' → s.heap.objs.size ≤ e → s'.heap.get? e = some emptyDict → IAt C s'.heap x d (fun y => if y = attr then some (.ref e) else mA y) → Q .next s') :
    wpAny (model prog w) A (exec (.Assign [.Attribute (.Name self p4) attr p5] (.Call (.Attribute (.Name self p1) name p2) [] [] p3) p6) env) Q E s := by
  refine plainObj_wpAny_Assign_Attribute (fac_call G K a old Fr hn hx hv hd I.1 hob hA hbase hline fun e s₁ x₁ he hed => ?_) hsw
  have k : ∀ b o, s.heap.get? b = some o → s₁.heap.get? b = some o := fun b o q => x₁.keep b o (by simp) q
  refine lname Fr (hn.keeps k) hx hv hd ?_
  have I₁ : IAt C s₁.heap x d mA := I.keep (k x) (k d)
  have lv := I.live
  refine istore G (fun b o q => k b o (old b o q)) I₁ hxC hno hob' hw hsz fun s₂ x₂ I₂ => ?_
  refine h e s₂ ((x₁.mono (by simp)).trans x₂) he (x₂.keep e _ (fun q => ?_) hed) I₂
  have lx := lv.1; have ld := lv.2.1
  simp only [List.mem_cons, List.not_mem_nil, or_false] at q
  rcases q with rfl | rfl
  · exact Nat.lt_irrefl _ (Nat.lt_of_le_of_lt he lx)
  · exact Nat.lt_irrefl _ (Nat.lt_of_le_of_lt he ld)
end
end Mine

-- part V58
namespace Mine
open PySem PySem.W PyProof.Rows

theorem within_none : Within (fun _ => (none : Option Value)) [] := fun _ h => absurd rfl h

section
variable {prog : Program} {w : World} {C : Addr} {h₀ : Heap} {A : Around} {E : Value → Shared → Prop} {s : Shared} {env : Env} {xs gs : List Str} {m : Str → Option Value}

/-- a statement whose value is none -/
theorem expr_none {e : Expr} {p : Pos} {Q : Flow → Shared → Prop} (Fr : Fe env xs gs) (hsw : swapsWith e none p.line env = pure false) (h : wpAny (model prog w) A (eval e env) (fun v s' => v = .none ∧ Q .next s') E s) : wpAny (model prog w) A (exec (.Expr e p) env) Q E s :=
  wpAny_Expr (wpAny_mono h (fun v s' q => by obtain ⟨rfl, q⟩ := q; exact q) fun _ _ e => e) Fr.inter hsw

theorem empty_conv {K K' : Type} [DecidableEq K] [DecidableEq K'] {k₁ : KeyKind prog w K} {k₂ : KeyKind prog w K'} {h : Heap} {a : Addr} (H : h.DictOf k₁ a []) : h.DictOf k₂ a [] := by
  obtain ⟨o, es, ep, ho, hd, hz, hk, hp, _⟩ := H
  have : es.toList = [] := List.eq_nil_of_length_eq_zero hp.length
  have : es = #[] := by simpa using this
  subst this
  exact ⟨o, #[], ep, ho, hd, hz, fun e he => by simp at he, .nil, List.nodup_nil⟩
theorem empty_obj {h : Heap} {a : Addr} {K : Type} [DecidableEq K] {knd : KeyKind prog w K} (e : h.get? a = some emptyDict) : h.DictOf knd a [] :=
  ⟨_, #[], 0, e, ⟨rfl, rfl, rfl⟩, rfl, fun e he => by simp at he, .nil, List.nodup_nil⟩

theorem no_sys {n : Nat} (h : 1 < n) : (n == sysModules) = false := by
  have : n ≠ sysModules := Nat.ne_of_gt h
  simpa using this

theorem init_ok {l : Nat} {x d f : Addr} {fd : FuncData} {mN : Str → Option Value} {Q : Value → Shared → Prop} (G : GC h₀ C mN) (K1 : Fac h₀ mN "graph_attr_dict_factory") (K2 : Fac h₀ mN "node_dict_factory") (K3 : Fac h₀ mN "adjlist_outer_dict_factory")
    (D : FnAt h₀ f fd (mtB 6)) (hb : ∀ x, KwD h₀ (bindArgs fd ⟨[x], []⟩) [("self", x), ("incoming_graph_data", .none)] "attr") (hfe : FeB fd.scope ["self", "incoming_graph_data", "attr"] [])
    (a : AOk (l + 2) A) (old : ∀ b o, h₀.get? b = some o → s.heap.get? b = some o) (I : IAt C s.heap x d (fun _ => none)) (hxC : x ≠ C) (hsz : 1 < s.heap.objs.size) (hbx : ∀ b o, h₀.get? b = some o → b ∉ [x, d])
    (h : ∀ gg gn ga s', Ext [x, d] s s' → s.heap.objs.size ≤ gg → s.heap.objs.size ≤ gn → s.heap.objs.size ≤ ga → gg ≠ gn → gg ≠ ga → gn ≠ ga → s'.heap.DictOf (PySem.strKind prog w) gg [] → s'.heap.DictOf (intKind prog w) gn [] → s'.heap.DictOf (intKind prog w) ga [] → IAt C s'.heap x d (gmA gg gn ga) → Q .none s') :
    wpAny (model prog w) A (call (.ref f) [.ref x]) Q E s := by
  refine call_fn D a old (hb _ prog w _ E s _ old ⟨Ext.push _ _, fun y hy => ?_, fun s₂ x₂ hns => ⟨fun fl s' => fl = .next ∧ Q .none s', fun E' => ?_, fun f s' q => by obtain ⟨rfl, q⟩ := q; exact q⟩⟩)
  · apply hfe.1
    simp only [List.mem_append, List.mem_cons, List.not_mem_nil, or_false] at hy
    rcases hy with (rfl | rfl) | rfl <;> simp
  generalize hL : (s.heap.push emptyDict).objs.size = L at *
  have Fr := Fe.of (a := f) (L := L) D hfe
  generalize henv : callEnv fd L f = env at *
  have hlo : env.locals = L := by rw [← henv]; rfl
  rw [← hlo] at hns
  have ad : AOk (l + 1) (A.deeper env) := a.deeper env
  have lv := I.live
  have x₁ : Ext [] s s₂ := (Ext.push s emptyDict).trans x₂
  have I₂ : IAt C s₂.heap x d (fun _ => none) := I.keep (fun o e => x₁.keep x o (by simp) e) (fun o e => x₁.keep d o (by simp) e)
  have hat : s₂.heap.get? s.heap.objs.size = some emptyDict := x₂.keep _ _ (by simp) (Heap.get?_push_size _ rfl)
  have hLs : L = s.heap.objs.size + 1 := by rw [← hL, Heap.size_push]
  have hle : ∀ {b : Addr}, s.heap.objs.size ≤ b → b ≠ x ∧ b ≠ d := fun hb => ⟨fun q => Nat.lt_irrefl _ (Nat.lt_of_lt_of_le lv.1 (q ▸ hb)), fun q => Nat.lt_irrefl _ (Nat.lt_of_lt_of_le lv.2.1 (q ▸ hb))⟩
  have hof : ∀ {b : Addr}, s.heap.objs.size ≤ b → b ∉ [x, d] := fun hb q => by
    simp only [List.mem_cons, List.not_mem_nil, or_false] at q
    rcases q with q | q
    · exact (hle hb).1 q
    · exact (hle hb).2 q
  have hbase : ∀ b o, h₀.get? b = some o → s.heap.get? b = some o := old
  have hloc : env.locals ∉ [x, d] := hof (by rw [hlo, hLs]; exact Nat.le_succ _)
  have oldx : ∀ {s' : Shared}, Ext [x, d] s s' → ∀ b o, h₀.get? b = some o → b ∉ [x, d] → s'.heap.get? b = some o := fun y b o e hb => y.keep b o hb (old b o e)
  have hnew : ∀ b o, h₀.get? b = some o → b ∉ [x, d] := hbx
  refine wpAny_execs_cons (fac_stmt (ns := []) G K1 ad (fun b o e => x₁.keep b o (by simp) (old b o e)) Fr hns (by simp) (by rfl) (by decide +kernel) I₂ hxC (by kernel_rfl) rfl (G.no _ (by simp)) (by kernel_rfl) within_none (by decide) (by rfl) (by rfl) (by rfl) fun gg s₃ x₃ hgg egg I₃ => ?_)
  have y₃ : Ext [x, d] s s₃ := (x₁.mono (by simp)).trans x₃
  have n₃ := hns.at fun o e => x₃.keep _ o hloc e
  refine wpAny_execs_cons (fac_stmt (ns := [Str.ofString "graph"]) G K2 ad (fun b o e => y₃.keep b o (hnew b o e) (old b o e)) Fr n₃ (by simp) (by rfl) (by decide +kernel) I₃ hxC (by kernel_rfl) (by rfl) (G.no _ (by simp)) (by kernel_rfl) (within_none.cons _ _) (by decide) (by rfl) (by rfl) (by rfl) fun gn s₄ x₄ hgn egn I₄ => ?_)
  have y₄ := y₃.trans x₄
  have n₄ := n₃.at fun o e => x₄.keep _ o hloc e
  refine wpAny_execs_cons (fac_stmt (ns := [Str.ofString "_node", Str.ofString "graph"]) G K3 ad (fun b o e => y₄.keep b o (hnew b o e) (old b o e)) Fr n₄ (by simp) (by rfl) (by decide +kernel) I₄ hxC (by kernel_rfl) (by rfl) (G.no _ (by simp)) (by kernel_rfl) ((within_none.cons _ _).cons _ _) (by decide) (by rfl) (by rfl) (by rfl) fun ga s₅ x₅ hga ega I₅ => ?_)
  have y₅ := y₄.trans x₅
  have n₅ := n₄.at fun o e => x₅.keep _ o hloc e
  have sgg : s.heap.objs.size ≤ gg := Nat.le_trans x₁.size hgg
  have sgn : s.heap.objs.size ≤ gn := Nat.le_trans y₃.size hgn
  have sga : s.heap.objs.size ≤ ga := Nat.le_trans y₄.size hga
  have egg₅ : s₅.heap.get? gg = some emptyDict := x₅.keep _ _ (hof sgg) (x₄.keep _ _ (hof sgg) egg)
  have egn₅ : s₅.heap.get? gn = some emptyDict := x₅.keep _ _ (hof sgn) egn
  have gn1 : gg ≠ gn := fun q => Nat.lt_irrefl _ (Nat.lt_of_lt_of_le (Heap.lt_size egg) (q ▸ hgn))
  have gn2 : gg ≠ ga := fun q => Nat.lt_irrefl _ (Nat.lt_of_lt_of_le (Heap.lt_size (x₄.keep _ _ (hof sgg) egg)) (q ▸ hga))
  have gn3 : gn ≠ ga := fun q => Nat.lt_irrefl _ (Nat.lt_of_lt_of_le (Heap.lt_size egn) (q ▸ hga))
  have hat₅ : s₅.heap.get? s.heap.objs.size = some emptyDict := ((x₃.trans x₄).trans x₅).keep _ _ (hof (Nat.le_refl _)) hat
  have gn4 : gg ≠ s.heap.objs.size := fun q => Nat.lt_irrefl _ (Nat.lt_of_lt_of_le (Heap.lt_size hat) (q ▸ hgg))
  refine wpAny_execs_cons (expr_none Fr (by rfl) (Call_meth2 (by rfl) (by rfl) (by rfl) (lname (v := .ref s.heap.objs.size) Fr n₅ (by simp) (by rfl) (by decide +kernel) fun pl => ?_)))
  refine getMethod_builtin (T := "dict") (id := "dict.pop") (empty_obj (prog := prog) (w := w) (knd := intKind prog w) hat₅).typeIs PySem.F.plainAttrs_dict PySem.F.slot_dict_pop PySem.F.type_dict_pop (fun a e => by cases e; exact ⟨_, hat₅, rfl⟩) ?_
  refine Calls.callWith_builtin (by rfl) (Calls.evalArgs_plain (Calls.spliced_cons (Calls.Constant_str (Calls.spliced_cons (wpAny_Constant_none (Calls.spliced_nil ?_))))))
  refine pop_empty (no_sys hsz) (empty_obj hat₅) ⟨rfl, ?_⟩
  refine wpAny_execs_cons (expr_none Fr (by rfl) (Call_meth1 (by rfl) (by rfl) (by rfl) (Attribute_any_ (lname (v := .ref x) Fr n₅ (by simp) (by rfl) (by decide +kernel) ?_) (by rfl))))
  refine gload (v := .ref gg) (C := C) G (fun b o e => y₅.keep b o (hnew b o e) (old b o e)) I₅.1 (G.no _ (by simp)) (by kernel_rfl) (by rfl) (by rfl) fun pl => ?_
  refine getMethod_builtin (T := "dict") (id := "dict.update") (empty_obj (prog := prog) (w := w) (knd := intKind prog w) egg₅).typeIs PySem.F.plainAttrs_dict PySem.F.slot_dict_update PySem.F.type_dict_update (fun a e => by cases e; exact ⟨_, egg₅, rfl⟩) ?_
  refine Calls.callWith_builtin (by rfl) (Calls.evalArgs_plain (Calls.spliced_cons (lname (v := .ref s.heap.objs.size) Fr n₅ (by simp) (by rfl) (by decide +kernel) (Calls.spliced_nil ?_))))
  refine update_empty gn4 (no_sys hsz) (empty_obj egg₅) (empty_obj hat₅) fun s₆ x₆ hgg6 => ⟨rfl, ?_⟩
  have z : Ext [gg] s₅ s₆ := ⟨x₆.gens, x₆.drawn, x₆.os, by have := x₆.toks; simp only at this; omega, x₆.keep, x₆.size⟩
  have ngg : ∀ {b : Addr}, b ≠ gg → b ∉ [gg] := fun q r => q (by simpa using r)
  refine wpAny_execs_nil ⟨rfl, h gg gn ga s₆ ?_ sgg sgn sga gn1 gn2 gn3 (empty_conv hgg6) (empty_obj (z.keep _ _ (ngg gn1.symm) egn₅)) (empty_obj (z.keep _ _ (ngg gn2.symm) ega)) (I₅.keep (fun o e => z.keep _ _ (ngg (hle sgg).1.symm) e) (fun o e => z.keep _ _ (ngg (hle sgg).2.symm) e))⟩
  exact ((y₅.mono (Y := gg :: [x, d]) (fun b hb => List.mem_cons_of_mem _ hb)).trans (z.mono (by simp))).drop (N := [gg]) (X := [x, d]) (fun b hb => by rw [List.mem_singleton] at hb; rw [hb]; exact sgg)
end
end Mine

-- part V59
namespace Mine
open PySem PySem.W PyProof.Rows

section
variable {prog : Program} {w : World} {C : Addr} {h₀ : Heap} {A : Around} {E : Value → Shared → Prop} {s : Shared} {env : Env} {xs gs : List Str} {m : Str → Option Value}

/-- a new graph -/
theorem graph_new {l : Nat} {f : Addr} {fd : FuncData} {mN : Str → Option Value} {Q : Value → Shared → Prop} (G : GC h₀ C mN) (K1 : Fac h₀ mN "graph_attr_dict_factory") (K2 : Fac h₀ mN "node_dict_factory") (K3 : Fac h₀ mN "adjlist_outer_dict_factory")
    (hi : mN "__init__" = some (.ref f)) (D : FnAt h₀ f fd (mtB 6)) (hb : ∀ x, KwD h₀ (bindArgs fd ⟨[x], []⟩) [("self", x), ("incoming_graph_data", .none)] "attr") (hfe : FeB fd.scope ["self", "incoming_graph_data", "attr"] [])
    (a : AOk (l + 3) A) (old : ∀ b o, h₀.get? b = some o → s.heap.get? b = some o) (hsz : 1 < s.heap.objs.size)
    (h : ∀ x d gg gn ga s', Ext [] s s' → (∀ b ∈ rl x d gg gn ga [] [], s.heap.objs.size ≤ b) → GAt prog w C s'.heap x d gg gn ga [] [] [] → Q (.ref x) s') :
    wpAny (model prog w) A (call (.ref C) []) Q E s := by
  refine kept_dead ?_
  obtain ⟨nm, q, N, bs, sn, sub, col, dd, k0, k1, k2, k3, k5, newId, ON, hC, hN⟩ := id G.obj
  obtain ⟨oI, hoI, hcI, hdI⟩ := id D.obj
  refine wpAny_call_obj_init (h := s.heap) (g := s.gens) (d := s.drawn) (t := s.toks) (os := s.os) ON (old _ _ hC) (hN.keeps old) hi (old _ _ hoI) hcI fun h' x d hm => ?_
  have ox : ∀ b o, s.heap.get? b = some o → b ≠ x ∧ b ≠ d := fun b o e => ⟨fun q => (by rw [q, hm.newX] at e; cases e), fun q => (by rw [q, hm.newD] at e; cases e)⟩
  have ox' : ∀ b o, s.heap.get? b = some o → b ∉ [x, d] := fun b o e q => by
    simp only [List.mem_cons, List.not_mem_nil, or_false] at q
    rcases q with q | q
    · exact (ox b o e).1 q
    · exact (ox b o e).2 q
  have I : IAt C h' x d (fun _ => none) := ⟨hm.inst, hm.dict⟩
  have lv := I.live
  refine init_ok (s := ⟨h', s.gens, s.drawn, s.toks, s.os⟩) G K1 K2 K3 D hb hfe (a.under_new C) (fun b o e => hm.keeps b o (old b o e)) I (fun e => (ox C _ (old _ _ hC)).1 e.symm) (Nat.lt_of_lt_of_le hsz hm.grows) (fun b o e => ox' b o (old b o e)) fun gg gn ga s' x' hgg hgn hga n1 n2 n3 dg dn da I' => ⟨rfl, fun hd => ?_⟩
  have lv' := I'.live
  have sx : s.heap.objs.size ≤ x := Nat.le_of_not_lt fun q => by
    have := hd x q hm.newX
    obtain ⟨⟨o, e, _⟩, _⟩ := I'
    rw [e] at this; cases this
  have sd : s.heap.objs.size ≤ d := Nat.le_of_not_lt fun q => by
    have := hd d q hm.newD
    obtain ⟨⟨o, e, _, _, hr⟩, hdd⟩ := I'
    have e1 := hdd o e
    rcases hr with ⟨e', _⟩ | ⟨d', e', hne, hns⟩
    · rw [e1] at e'; cases e'
    · rw [e1] at e'; cases e'
      obtain ⟨od, _, _, q, _⟩ := hns
      rw [q] at this; cases this
  have s1 : s.heap.objs.size ≤ h'.objs.size := hm.grows
  have hgg' : h'.objs.size ≤ gg := hgg
  have hgn' : h'.objs.size ≤ gn := hgn
  have hga' : h'.objs.size ≤ ga := hga
  refine h x d gg gn ga s' ⟨x'.gens, x'.drawn, x'.os, x'.toks, fun b o _ e => x'.keep b o (ox' b o e) (hm.keeps b o e), Nat.le_trans s1 x'.size⟩ (fun b hb => ?_) ⟨?_, ⟨[], dg, fun p hp => (nomatch hp)⟩, ⟨[], dn, rfl, fun v hv => (nomatch hv)⟩, da, rfl, fun i p a e => (by simp at e), fun e he => (nomatch he), ?_, fun e he => (nomatch he)⟩
  · simp only [rl, List.append_nil, List.mem_cons, List.not_mem_nil, or_false] at hb
    rcases hb with rfl | rfl | rfl | rfl | rfl
    · exact sx
    · exact sd
    · exact Nat.le_trans s1 hgg'
    · exact Nat.le_trans s1 hgn'
    · exact Nat.le_trans s1 hga'
  · obtain ⟨⟨o, e, hc, hnc, hr⟩, hdd⟩ := I'
    have e1 := hdd o e
    rcases hr with ⟨e', _⟩ | ⟨d', e', hne, hns⟩
    · rw [e1] at e'; cases e'
    · rw [e1] at e'; cases e'
      exact ⟨o, e, hc, hnc, e1, hns⟩
  · have hlt : ∀ {b c : Addr}, b < h'.objs.size → h'.objs.size ≤ c → b ≠ c := fun p q e => Nat.lt_irrefl _ (Nat.lt_of_lt_of_le p (e ▸ q))
    simp only [List.nodup_cons, List.mem_cons, List.not_mem_nil, or_false, not_or, not_false_eq_true, and_true, List.nodup_nil]
    exact ⟨⟨lv.2.2.symm, hlt lv.1 hgg', hlt lv.1 hgn', hlt lv.1 hga'⟩, ⟨hlt lv.2.1 hgg', hlt lv.2.1 hgn', hlt lv.2.1 hga'⟩, ⟨n1, n2⟩, n3⟩
end
end Mine

-- part V60
namespace Mine
open PySem PySem.W PyProof.Rows

/-- an enumerate that has handed out a tuple -/
abbrev EnOut (h : Heap) (e it : Addr) (i : Int) (a : Nat) (f : Bool) (old : Value) : Prop :=
  h.get? e = some { cls := .type "enumerate", dict := none, data := .fields #[rawInt a, .bool f, .ref it, rawInt i, .none, old], slots := #[] }
def EnSt (h : Heap) (e it : Addr) (i : Int) : Prop := (∃ old, IsEnum h e it i old) ∨ ∃ a f old, EnOut h e it i a f old
theorem EnSt.at {h h' : Heap} {e it : Addr} {i : Int} (x : EnSt h e it i) (k : ∀ o, h.get? e = some o → h'.get? e = some o) : EnSt h' e it i := by
  rcases x with ⟨old, q⟩ | ⟨a, f, old, q⟩
  · exact .inl ⟨old, k _ q⟩
  · exact .inr ⟨a, f, old, k _ q⟩

section
variable {prog : Program} {w : World} {A : Around} {E : Value → Shared → Prop} {s : Shared}

theorem alive_ok {a : Addr} {Q : Option Obj → Shared → Prop} (h : Q (s.heap.get? a) s) : wpAny (model prog w) A (loadIfAlive a) Q E s := fun _ _ _ => h

theorem en_out_item {e it l : Addr} {i : Nat} {items : Array Value} {x old : Value} {a : Nat} {f : Bool} {Q : Value → Shared → Prop}
    (he : EnOut s.heap e it i a f old) (hit : s.heap.IsListIter it l i) (hl : s.heap.IsList l items) (hx : items[i]? = some x) (hne : e ≠ it)
    (hQ : ∀ h', EnSt h' e it ((i : Int) + 1) → h'.IsListIter it l (i + 1) → h'.get? s.heap.objs.size = some { cls := .type "tuple", data := .seq #[.int i s.toks, x] } → h'.objs.size = s.heap.objs.size + 1 →
      (∀ b o, b ≠ e → b ≠ it → s.heap.get? b = some o → h'.get? b = some o) → Q (.ref s.heap.objs.size) { s with heap := h', toks := s.toks + 1 }) :
    wpAny (model prog w) A (Builtin.«enumerate.__next__» ⟨[.ref e], []⟩) (fun fin s' => ∃ v, fin = .done (.ret v) ∧ Q v s') E s := by
  obtain ⟨hp, g, d, tk, os⟩ := s
  show wpAny _ _ (field (.ref e) 2 >>= _) _ _ _
  refine wpAny_bind (wpAny_field he rfl (x := .ref it) rfl ?_)
  refine wpAny_bind (wpAny_nextOf_list_item hit hl hx fun h₁ hit₁ hs₁ => ?_)
  replace hs₁ : Heap.SameBut it hp h₁ := hs₁
  have he₁ : EnOut h₁ e it i a f old := (hs₁.2 e hne).trans he
  show wpAny _ _ (field (.ref e) 3 >>= _) _ _ ⟨h₁, g, d, tk, os⟩
  refine wpAny_bind (wpAny_field he₁ rfl (x := rawInt i) rfl ?_)
  show wpAny _ _ (field (.ref e) 4 >>= _) _ _ ⟨h₁, g, d, tk, os⟩
  refine wpAny_bind (wpAny_field he₁ rfl (x := .none) rfl ?_)
  show wpAny _ _ (mkInt i >>= _) _ _ ⟨h₁, g, d, tk, os⟩
  refine wpAny_bind (wpAny_mkInt ?_)
  show wpAny _ _ (setField (.ref e) 3 (rawInt ((i : Int) + 1)) >>= _) _ _ ⟨h₁, g, d, tk + 1, os⟩
  refine wpAny_bind (wpAny_setField_rec he₁ (by simp) fun h₂ he₂ hs₂ => ?_)
  replace hs₂ : Heap.SameBut e h₁ h₂ := hs₂
  replace he₂ : EnOut h₂ e it ((i : Int) + 1) a f old := he₂
  show wpAny _ _ (setField (.ref e) 4 .none >>= _) _ _ ⟨h₂, g, d, tk + 1, os⟩
  refine wpAny_bind (wpAny_setField_rec he₂ (by simp) fun h₃ he₃ hs₃ => ?_)
  replace hs₃ : Heap.SameBut e h₂ h₃ := hs₃
  replace he₃ : EnOut h₃ e it ((i : Int) + 1) a f old := he₃
  show wpAny _ _ (newTuple [.int i tk, x] >>= _) _ _ ⟨h₃, g, d, tk + 1, os⟩
  refine wpAny_bind (wpAny_newTuple ?_)
  have he₄ : EnOut (h₃.push { cls := .type "tuple", data := .seq #[.int i tk, x] }) e it ((i : Int) + 1) a f old := Heap.get?_push_of_some _ he₃
  have hsz : h₃.objs.size = hp.objs.size := by rw [hs₃.1, hs₂.1, hs₁.1]
  generalize hh₄ : h₃.push { cls := .type "tuple", data := .seq #[.int i tk, x] } = h₄ at he₄
  have hel : e < hp.objs.size := Heap.lt_size he
  have ht₄ : h₄.get? hp.objs.size = some { cls := .type "tuple", data := .seq #[.int i tk, x] } := by rw [← hh₄, ← hsz]; exact Heap.get?_push_size _ rfl
  have hz₄ : h₄.objs.size = hp.objs.size + 1 := by rw [← hh₄, Heap.size_push, hsz]
  have hk₄ : ∀ b o, b ≠ e → b ≠ it → hp.get? b = some o → h₄.get? b = some o := fun b o hbe hbi hb => by
    rw [← hh₄]; exact Heap.get?_push_of_some _ (hs₃.extBut b o hbe (hs₂.extBut b o hbe (hs₁.extBut b o hbi hb)))
  have hit₄ : h₄.IsListIter it l (i + 1) := by
    rw [← hh₄]; obtain ⟨o, ho, r⟩ := (hit₁.extBut hs₂.extBut (Ne.symm hne)).extBut hs₃.extBut (Ne.symm hne); exact ⟨o, Heap.get?_push_of_some _ ho, r⟩
  have fin : ∀ (h₅ : Heap) (a' : Nat) (f' : Bool) (old' : Value), Heap.SameBut e h₄ h₅ → EnOut h₅ e it ((i : Int) + 1) a' f' old' → Q (.ref hp.objs.size) ⟨h₅, g, d, tk + 1, os⟩ := fun h₅ a' f' old' hs q =>
    hQ h₅ (.inr ⟨a', f', old', q⟩) (hit₄.extBut hs.extBut (Ne.symm hne)) (hs.extBut _ _ (Nat.ne_of_gt hel) ht₄) (by rw [hs.1]; exact hz₄) (fun b o hbe hbi hb => hs.extBut b o hbe (hk₄ b o hbe hbi hb))
  show wpAny _ _ (Builtin.SmallTypes.ownedTupleIsFree (.ref e) >>= _) _ _ ⟨h₄, g, d, tk + 1, os⟩
  rw [hsz]
  clear hh₄ he₃ hs₃ he₂ hs₂ he₁ hs₁ hit₁ hsz h₃ h₂ h₁
  refine wpAny_bind ?_
  unfold Builtin.SmallTypes.ownedTupleIsFree
  refine wpAny_bind (wpAny_field he₄ rfl (x := rawInt a) rfl ?_)
  show wpAny _ _ (loadIfAlive ((a : Int).toNat) >>= _) _ _ _
  rw [Int.toNat_natCast]
  refine wpAny_bind (alive_ok ?_)
  cases hal : h₄.get? a with
  | none =>
    simp only [Option.isNone_none, if_true]
    refine wpAny_pure ?_
    simp only [if_true]
    refine wpAny_bind (wpAny_rule ?_)
    refine wpAny_bind (wpAny_field he₄ rfl (x := old) rfl ?_)
    refine wpAny_bind (wpAny_setField_rec he₄ (by simp) fun h₅ he₅ hs₅ => ?_)
    replace hs₅ : Heap.SameBut e h₄ h₅ := hs₅
    replace he₅ : EnOut h₅ e it ((i : Int) + 1) a f x := he₅
    show wpAny _ _ (Builtin.SmallTypes.ownedTupleHandOut (.ref e) (.ref hp.objs.size) >>= _) _ _ ⟨h₅, g, d, tk + 1, os⟩
    refine wpAny_bind ?_
    unfold Builtin.SmallTypes.ownedTupleHandOut
    refine wpAny_bind (wpAny_setField_rec he₅ (by simp) fun h₆ he₆ hs₆ => ?_)
    replace hs₆ : Heap.SameBut e h₅ h₆ := hs₆
    replace he₆ : EnOut h₆ e it ((i : Int) + 1) hp.objs.size f x := he₆
    refine wpAny_setField_rec he₆ (by simp) fun h₇ he₇ hs₇ => ?_
    replace hs₇ : Heap.SameBut e h₆ h₇ := hs₇
    replace he₇ : EnOut h₇ e it ((i : Int) + 1) hp.objs.size false x := he₇
    exact wpAny_bind (wpAny_letGo (wpAny_pure ⟨_, rfl, fin h₇ _ _ _ ((hs₅.trans hs₆).trans hs₇) he₇⟩))
  | some oa =>
    simp only [Option.isNone_some, Bool.false_eq_true, if_false]
    refine wpAny_bind (wpAny_field he₄ rfl (x := .bool f) rfl ?_)
    cases f with
    | true =>
      rw [if_neg (show ¬ ((Value.bool true != Value.bool true) = true) from Bool.false_ne_true)]
      refine wpAny_pure ?_
      simp only [Bool.false_eq_true, if_false]
      exact wpAny_pure ⟨_, rfl, fin h₄ _ _ _ (Heap.SameBut.refl _ _) he₄⟩
    | false =>
      rw [if_pos (show (Value.bool false != Value.bool true) = true from rfl)]
      refine wpAny_bind (wpAny_setField_rec he₄ (by simp) fun h₅ he₅ hs₅ => ?_)
      refine wpAny_pure ?_
      simp only [Bool.false_eq_true, if_false]
      exact wpAny_pure ⟨_, rfl, fin h₅ _ _ _ hs₅ he₅⟩
end
end Mine

-- part V61
namespace Mine
open PySem PySem.W PyProof.Rows

def listO (vs : List Value) (c : Nat) : Obj := { cls := .type "list", dict := none, data := .seq vs.toArray c, slots := #[] }

section
variable {prog : Program} {w : World} {A : Around} {E : Value → Shared → Prop} {s : Shared}

theorem Ext.upd {S : Addr} {s : Shared} {f : Obj → Obj} : Ext [S] s { s with heap := s.heap.update S f } :=
  Ext.mk' (Nat.le_refl _) (Nat.le_of_eq (Heap.size_after_update ..).symm) fun b o hb e => (Heap.get?_update_other _ _ (fun q => hb (by simp [q]))).trans e

/-- the loop behind list(..), from step to step -/
theorem ext_loop {S I : Addr} {n : Nat} {St : Nat → Heap → List Value → Prop} {fp : List Addr} {res : Value} {R : Result → Shared → Prop} {s₀ : Shared} (hn : n ≤ sizeLine) (hSf : S ∉ fp)
    (stab : ∀ i h h' vs, St i h vs → (∀ b o, b ≠ S → h.get? b = some o → h'.get? b = some o) → St i h' vs)
    (item : ∀ i s vs, i < n → S < s.heap.objs.size → St i s.heap vs → ∀ (Q : Option Value → Shared → Prop) (E : Value → Shared → Prop), (∀ v s', Ext fp s s' → St (i + 1) s'.heap (vs ++ [v]) → Q (some v) s') → wpAny (model prog w) A.in1 (pyNext (.ref I)) Q E s)
    (done : ∀ s vs, St n s.heap vs → ∀ (Q : Option Value → Shared → Prop) (E : Value → Shared → Prop), (∀ s', Ext fp s s' → Q none s') → wpAny (model prog w) A.in1 (pyNext (.ref I)) Q E s)
    (hR : ∀ s' vs c h, Ext (S :: fp) s₀ s' → St n h vs → vs.length = n → (∀ b o, b ∉ fp → h.get? b = some o → s'.heap.get? b = some o) → s'.heap.get? S = some (listO vs c) → R (.ok (.ret res)) s') :
    ∀ (k i : Nat) (s : Shared) (vs : List Value) (c : Nat), n - i = k → i ≤ n → vs.length = i → Ext (S :: fp) s₀ s → St i s.heap vs → s.heap.get? S = some (listO vs c) →
      codeAny (model prog w) A (.builtin "list.extend.loop" ⟨[.ref S, .ref I, res], []⟩) R s := by
  intro k
  induction k with
  | zero =>
    intro i s vs c hk hi hl hx hst hS
    have hin : i = n := by omega
    subst hin
    refine codeAny_builtin PySem.F.entry_extend_loop ?_
    rw [Around.under_plainId PySem.F.plain_extend_loop _]
    show wpAny _ A.in1 (pyNext (.ref I) >>= _) _ _ s
    refine wpAny_bind (done s vs hst _ _ fun s' x' => ?_)
    exact wpAny_pure (hR s' vs c s.heap (hx.trans (x'.mono fun b hb => List.mem_cons_of_mem _ hb)) hst hl x'.keep (x'.keep S _ hSf hS))
  | succ k ih =>
    intro i s vs c hk hi hl hx hst hS
    have hlt : i < n := by omega
    refine codeAny_builtin PySem.F.entry_extend_loop ?_
    rw [Around.under_plainId PySem.F.plain_extend_loop _]
    show wpAny _ A.in1 (pyNext (.ref I) >>= _) _ _ s
    refine wpAny_bind (item i s vs hlt (Heap.lt_size hS) hst _ _ fun v s' x' hst' => ?_)
    have hS' := x'.keep S _ hSf hS
    show wpAny _ A.in1 (updateSeq S (·.push v) >>= _) _ _ _
    refine wpAny_bind ?_
    obtain ⟨c', hc'⟩ : ∃ c', (s'.heap.update S (Obj.mapSeq (·.push v))).get? S = some (listO (vs ++ [v]) c') := by
      rw [Heap.get?_update_self (Obj.mapSeq (·.push v)) hS' rfl]
      simp only [listO, Obj.mapSeq, List.push_toArray]
      exact ⟨_, rfl⟩
    refine wpAny_updateSeq hS' rfl (wpAny_pure ⟨plainId_quiet PySem.F.plain_extend_loop _, ih (i + 1) _ (vs ++ [v]) c' (by omega) hlt (by rw [List.length_append, hl]; rfl) ?_ (stab _ _ _ _ hst' fun b o hb e => (Heap.get?_update_other _ _ (Ne.symm hb)).trans e) hc'⟩) ?_ ?_
    · exact (hx.trans (x'.mono fun b hb => List.mem_cons_of_mem _ hb)).trans (Ext.upd.mono (by simp))
    · simp only [List.size_toArray]; omega
    · simp only [Array.size_push, List.size_toArray]; omega

/-- list.extend of something that is no list and no tuple -/
theorem ext_with {S r : Addr} {t res : Value} {c₀ : Nat} {R : Result → Shared → Prop} (hSr : S ≠ r) (_hS : s.heap.get? S = some (listO [] c₀))
    (ht : ∀ (Q : Value → Shared → Prop) (E : Value → Shared → Prop), Q t s → wpAny (model prog w) A.in1 (typeOf (.ref r)) Q E s) (t1 : (t == .type "list") = false) (t2 : (t == .type "tuple") = false)
    (hit : wpAny (model prog w) A.in1 (pyIter (.ref r)) (fun v s₁ => wpAny (model prog w) A.in1 (Builtin.List.listLengthHint (.ref r)) (fun _ s₂ => (∃ c, s₂.heap.get? S = some (listO [] c)) ∧
      ∀ s₃, Ext [S] s₂ s₃ → (∃ c, s₃.heap.get? S = some (listO [] c)) → codeAny (model prog w) A (.builtin "list.extend.loop" ⟨[.ref S, v, res], []⟩) R s₃) (fun e s' => R (.error e) s') s₁) (fun e s' => R (.error e) s') s) :
    wpAny (model prog w) A.in1 (Builtin.List.listExtendWith (.ref S) (.ref r) res)
      (fun fin s' => match fin with | .done f => R (.ok f) s' | .again c' => c'.quiet = true ∧ codeAny (model prog w) A c' R s') (fun e s' => R (.error e) s') s := by
  unfold Builtin.List.listExtendWith
  refine wpAny_bind (ht _ _ ?_)
  have h1 : Builtin.List.listSameRef (.ref S) (.ref r) = false := by simp [Builtin.List.listSameRef, hSr]
  simp only [h1, t1, t2, Bool.or_false, Bool.false_eq_true, if_false]
  refine wpAny_bind (wpAny_mono hit (fun v s₁ h₁ => ?_) fun _ _ e => e)
  refine wpAny_bind (wpAny_holding (wpAny_mono h₁ (fun b s₂ h₂ => ?_) fun _ _ e => e))
  obtain ⟨⟨c, hS₂⟩, h₂⟩ := h₂
  refine wpAny_ite_split (fun _ => ?_) (fun _ => wpAny_pure ⟨plainId_quiet PySem.F.plain_extend_loop _, h₂ s₂ (Ext.refl _ _) ⟨c, hS₂⟩⟩)
  refine wpAny_bind (wpAny_rule ?_)
  refine wpAny_bind ?_
  show wpAny _ _ (updateSeq S (·.push .none) >>= fun _ => updateSeq S (·.pop)) _ _ _
  refine wpAny_bind (wpAny_updateSeq hS₂ rfl ?_ (by simp) (by simp))
  have hS₃ := Heap.get?_update_self (Obj.mapSeq (·.push Value.none)) hS₂ rfl
  refine wpAny_updateSeq hS₃ rfl ?_ (by simp; decide) (by simp)
  have hS₄ := Heap.get?_update_self (Obj.mapSeq (·.pop)) hS₃ rfl
  exact wpAny_pure ⟨plainId_quiet PySem.F.plain_extend_loop _, h₂ _ (Ext.upd.trans Ext.upd) ⟨_, hS₄⟩⟩

/-- list(r) -/
theorem list_call {r : Addr} {t : Value} {Q : Value → Shared → Prop} (hr : r < s.heap.objs.size)
    (h : ∀ s₁, Ext [] s s₁ → s₁.heap.get? s.heap.objs.size = some (listO [] 0) → 
      (∀ (Q : Value → Shared → Prop) (E : Value → Shared → Prop), Q t s₁ → wpAny (model prog w) A.in1.in1 (typeOf (.ref r)) Q E s₁) ∧ (t == .type "list") = false ∧ (t == .type "tuple") = false ∧
      ∀ (R : Result → Shared → Prop), (∀ s', Q (.ref s.heap.objs.size) s' → R (.ok (.ret .none)) s') →
        wpAny (model prog w) A.in1.in1 (pyIter (.ref r)) (fun v s₂ => wpAny (model prog w) A.in1.in1 (Builtin.List.listLengthHint (.ref r)) (fun _ s₃ => (∃ c, s₃.heap.get? s.heap.objs.size = some (listO [] c)) ∧
          ∀ s₄, Ext [s.heap.objs.size] s₃ s₄ → (∃ c, s₄.heap.get? s.heap.objs.size = some (listO [] c)) → codeAny (model prog w) A.in1 (.builtin "list.extend.loop" ⟨[.ref s.heap.objs.size, v, .none], []⟩) R s₄) (fun e s' => R (.error e) s') s₂) (fun e s' => R (.error e) s') s₁) :
    wpAny (model prog w) A (call (.type "list") [.ref r]) Q E s := by
  refine callType_codes (Q₁ := fun obj s₁ => obj = .ref s.heap.objs.size ∧ s₁ = { s with heap := s.heap.push { cls := .type "list", data := .seq #[] } }) PySem.F.called_list (PySem.F.typeCall_list_1 _) PySem.F.entry_list_init
    (code_list_new _ ⟨rfl, rfl⟩) fun obj s₁ h₁ => ?_
  obtain ⟨rfl, rfl⟩ := h₁
  have hS : (s.heap.push { cls := .type "list", data := .seq #[] }).get? s.heap.objs.size = some { cls := .type "list", data := .seq #[] } := Heap.get?_push_size _ rfl
  refine ⟨⟨_, hS, rfl⟩, PySem.F.args_list_init_2 _ _, ?_⟩
  show wpAny _ _ (do let old ← Builtin.List.listItems (.ref s.heap.objs.size); Builtin.List.listUpdate (.ref s.heap.objs.size) (fun _ => #[]); letGo old.toList.reverse; Builtin.List.listExtendWith (.ref s.heap.objs.size) (.ref r) .none) _ _ _
  refine wpAny_bind ?_
  unfold Builtin.List.listItems
  refine wpAny_bind (wpAny_seqItems hS rfl (wpAny_pure ?_))
  show wpAny _ _ (updateSeq s.heap.objs.size (fun _ => #[]) >>= fun _ => letGo (#[] : Array Value).toList.reverse >>= fun _ => Builtin.List.listExtendWith (.ref s.heap.objs.size) (.ref r) .none) _ _ _
  refine wpAny_bind (wpAny_updateSeq hS rfl ?_ (by simp) (by simp))
  have hS₂ := Heap.get?_update_self (Obj.mapSeq (fun _ => (#[] : Array Value))) hS rfl
  refine wpAny_bind (wpAny_letGo ?_)
  have x₁ : Ext [] s { s with heap := (s.heap.push { cls := .type "list", data := .seq #[] }).update s.heap.objs.size (Obj.mapSeq (fun _ => (#[] : Array Value))) } :=
    ((Ext.push s _).mono (Y := [s.heap.objs.size] ++ []) (by simp)).trans (Ext.upd (s := { s with heap := s.heap.push { cls := .type "list", data := .seq #[] } }) (S := s.heap.objs.size)) |>.drop (N := [s.heap.objs.size]) (X := []) (by simp)
  obtain ⟨ht, t1, t2, hit⟩ := h _ x₁ hS₂
  exact ext_with (Nat.ne_of_gt hr) hS₂ ht t1 t2 (hit _ fun s' q => ⟨rfl, q⟩)
end
end Mine

-- part V62
namespace Mine
open PySem PySem.W PyProof.Rows

theorem enum_noLen : typeLookup (.type "enumerate") "__len__" = pure none := by rw [typeLookup_type, builtinLookup_eq_fast]; kernel_rfl
theorem enum_noHint : typeLookup (.type "enumerate") "__length_hint__" = pure none := by rw [typeLookup_type, builtinLookup_eq_fast]; kernel_rfl

/-- the tuples (0, x0), (1, x1), .. -/
structure Tups (h : Heap) (lo : Nat) (bad : List Addr) (items : Array Value) (i : Nat) (vs : List Value) : Prop where
  len : vs.length = i
  at_ : ∀ (j : Nat) (v : Value), vs[j]? = some v → ∃ (t : Tok) (a : Addr) (x : Value), v = .ref a ∧ lo ≤ a ∧ a ∉ bad ∧ items[j]? = some x ∧ h.get? a = some { cls := .type "tuple", data := .seq #[.int j t, x] }
theorem Tups.keep {h h' : Heap} {lo : Nat} {bad : List Addr} {items : Array Value} {i : Nat} {vs : List Value} (T : Tups h lo bad items i vs) (k : ∀ b o, b ∉ bad → h.get? b = some o → h'.get? b = some o) : Tups h' lo bad items i vs :=
  ⟨T.len, fun j v e => let ⟨t, a, x, h1, h2, h3, h4, h5⟩ := T.at_ j v e; ⟨t, a, x, h1, h2, h3, h4, k a _ h3 h5⟩⟩

theorem Tups.less {h : Heap} {lo : Nat} {bad bad' : List Addr} {items : Array Value} {i : Nat} {vs : List Value} (T : Tups h lo bad items i vs) (k : ∀ b ∈ bad', b ∈ bad) : Tups h lo bad' items i vs :=
  ⟨T.len, fun j v e => let ⟨t, a, x, h1, h2, h3, h4, h5⟩ := T.at_ j v e; ⟨t, a, x, h1, h2, fun q => h3 (k a q), h4, h5⟩⟩

section
variable {prog : Program} {w : World} {A : Around} {E : Value → Shared → Prop} {s : Shared}

theorem hint_enum {e : Addr} {Q : Bool → Shared → Prop} (hT : s.TypeIs (.ref e) "enumerate") (h : Q true s) : wpAny (model prog w) A (Builtin.List.listLengthHint (.ref e)) Q E s := by
  unfold Builtin.List.listLengthHint
  refine wpAny_bind (wpAny_specialOf hT enum_noLen ?_)
  refine wpAny_bind (wpAny_specialOf hT enum_noHint ?_)
  exact wpAny_pure h

theorem EnSt.typeIs {e it : Addr} {i : Int} (x : EnSt s.heap e it i) : s.TypeIs (.ref e) "enumerate" := by
  rcases x with ⟨old, q⟩ | ⟨a, f, old, q⟩
  · exact ⟨_, q, rfl⟩
  · exact ⟨_, q, rfl⟩

theorem en_next {e it l : Addr} {i : Nat} {items : Array Value} {x : Value} {Q : Option Value → Shared → Prop}
    (he : EnSt s.heap e it i) (hit : s.heap.IsListIter it l i) (hl : s.heap.IsList l items) (hx : items[i]? = some x) (hne : e ≠ it)
    (hQ : ∀ s', Ext [e, it] s s' → EnSt s'.heap e it ((i : Int) + 1) → s'.heap.IsListIter it l (i + 1) → s'.heap.get? s.heap.objs.size = some { cls := .type "tuple", data := .seq #[.int i s.toks, x] } → Q (some (.ref s.heap.objs.size)) s') :
    wpAny (model prog w) A (pyNext (.ref e)) Q E s := by
  have hT := he.typeIs
  have fin : ∀ h', EnSt h' e it ((i : Int) + 1) → h'.IsListIter it l (i + 1) → h'.get? s.heap.objs.size = some { cls := .type "tuple", data := .seq #[.int i s.toks, x] } → h'.objs.size = s.heap.objs.size + 1 →
      (∀ b o, b ≠ e → b ≠ it → s.heap.get? b = some o → h'.get? b = some o) → Q (some (.ref s.heap.objs.size)) { s with heap := h', toks := s.toks + 1 } := fun h' a b c d k =>
    hQ _ (Ext.mk' (Nat.le_succ _) (by rw [d]; exact Nat.le_succ _) fun b o hb q => k b o (fun z => hb (by simp [z])) (fun z => hb (by simp [z])) q) a b c
  unfold pyNext
  refine wpAny_bind (wpAny_attempt (wpAny_callSpecial?_slot (name := Str.ofString "__next__") hT PySem.F.slot_enumerate_next
    (wpAny_call_entry PySem.F.slot_enumerate_next hT PySem.F.entry_enumerate_next ?_ (PySem.F.args_enumerate_next_1 _))))
  rcases he with ⟨old, q⟩ | ⟨a, f, old, q⟩
  · exact enumerate_next_item q hit hl hx hne fun h' ho b c d k => wpAny_pure (fin h' (.inr ⟨_, _, _, ho⟩) b c d k)
  · exact en_out_item q hit hl hx hne fun h' ho b c d k => wpAny_pure (fin h' ho b c d k)

theorem en_end {e it l : Addr} {i : Nat} {items : Array Value} {Q : Option Value → Shared → Prop} (hh : A.handled = none)
    (he : EnSt s.heap e it i) (hit : s.heap.IsListIter it l i) (hl : s.heap.IsList l items) (hx : items[i]? = none)
    (hQ : ∀ s', Ext [e, it] s s' → Q none s') : wpAny (model prog w) A (pyNext (.ref e)) Q E s := by
  have hT := he.typeIs
  refine grown ?_
  unfold pyNext
  refine wpAny_bind (wpAny_attempt (wpAny_callSpecial?_slot (name := Str.ofString "__next__") hT PySem.F.slot_enumerate_next
    (wpAny_call_entry PySem.F.slot_enumerate_next hT PySem.F.entry_enumerate_next ?_ (PySem.F.args_enumerate_next_1 _))))
  show wpAny _ _ (field (.ref e) 2 >>= _) _ _ _
  rcases he with ⟨old, q⟩ | ⟨a, f, old, q⟩
  all_goals
    refine wpAny_bind (wpAny_field q rfl (x := .ref it) rfl ?_)
    refine wpAny_bind (wpAny_nextOf_list_end hh hit hl hx fun h' x he' hx' => ?_)
    obtain ⟨o, ho, hc⟩ := hx'
    refine wpAny_bind (wpAny_isInstance (T := "StopIteration") (b := true) ⟨o, ho, hc⟩ isSubtype_stop ?_)
    exact wpAny_pure fun ht hz => hQ _ (Ext.mk' (Nat.le_refl _) hz fun b o hb e => he' b o (fun z => hb (by simp [z])) e)

/-- list(enumerate(l)) -/
theorem list_enum {l : Addr} {items : Array Value} {Q : Value → Shared → Prop} (hh : A.handled = none) (hl : s.heap.IsList l items) (hn : items.size ≤ sizeLine)
    (h : ∀ s' c vs k, Ext [] s s' → s.heap.objs.size ≤ c → s'.heap.get? c = some (listO vs k) → Tups s'.heap s.heap.objs.size [c] items items.size vs → Q (.ref c) s') :
    wpAny (model prog w) A (call (.type "enumerate") [.ref l]) (fun e s₁ => wpAny (model prog w) A (call (.type "list") [e]) Q E s₁) E s := by
  refine call_enumerate_list hl fun h₁ he hit hz hk => ?_
  have hll : l < s.heap.objs.size := by obtain ⟨o, ho, _⟩ := hl; exact Heap.lt_size ho
  generalize hs₁ : ({ s with heap := h₁ } : Shared) = s₁
  have e1 : s₁.heap = h₁ := by rw [← hs₁]
  have x₁ : Ext [] s s₁ := by rw [← hs₁]; exact Ext.mk' (Nat.le_refl _) (by rw [hz]; omega) fun b o _ e => hk b o e
  have hz₁ : s₁.heap.objs.size = s.heap.objs.size + 2 := by rw [e1]; exact hz
  have hl₁ : s₁.heap.IsList l items := hl.at fun o e => x₁.keep l o (by simp) e
  have he₁ : EnSt s₁.heap (s.heap.objs.size + 1) s.heap.objs.size 0 := by rw [e1]; exact .inl ⟨_, he⟩
  have hit₁ : s₁.heap.IsListIter s.heap.objs.size l 0 := by rw [e1]; exact hit
  refine list_call (t := .type "enumerate") (by rw [hz₁]; exact Nat.lt_succ_self _) fun s₂ x₂ hS => ?_
  have he₂ : EnSt s₂.heap (s.heap.objs.size + 1) s.heap.objs.size 0 := he₁.at fun o e => x₂.keep _ o (by simp) e
  refine ⟨fun Q E q => wpAny_typeOf he₂.typeIs q, by decide, by decide, fun R hR => ?_⟩
  obtain ⟨old, q⟩ : ∃ old, IsEnum s₂.heap (s.heap.objs.size + 1) s.heap.objs.size 0 old := ⟨_, x₂.keep _ _ (by simp) (by rw [e1]; exact he)⟩
  refine wpAny_pyIter_enum q (hint_enum he₂.typeIs ⟨⟨_, hS⟩, fun s₄ x₄ hS₄ => ?_⟩)
  obtain ⟨c, hS₄⟩ := hS₄
  have nS : ∀ {b : Addr}, b < s₁.heap.objs.size → b ∉ [s₁.heap.objs.size] := fun hb z => by rw [List.mem_singleton] at z; exact Nat.lt_irrefl _ (z ▸ hb)
  have i1 : s.heap.objs.size < s₁.heap.objs.size := by rw [hz₁]; omega
  have i2 : s.heap.objs.size + 1 < s₁.heap.objs.size := by rw [hz₁]; omega
  have i3 : l < s₁.heap.objs.size := Nat.lt_trans hll i1
  have hne : s.heap.objs.size + 1 ≠ s.heap.objs.size := by omega
  refine ext_loop (S := s₁.heap.objs.size) (I := s.heap.objs.size + 1) (n := items.size) (s₀ := s₄) (fp := [s.heap.objs.size + 1, s.heap.objs.size])
    (St := fun i h vs => EnSt h (s.heap.objs.size + 1) s.heap.objs.size i ∧ h.IsListIter s.heap.objs.size l i ∧ h.IsList l items ∧ Tups h s.heap.objs.size [s₁.heap.objs.size, s.heap.objs.size + 1, s.heap.objs.size] items i vs)
    hn (by simp only [List.mem_cons, List.not_mem_nil, or_false, not_or]; exact ⟨Nat.ne_of_gt i2, Nat.ne_of_gt i1⟩) ?_ ?_ ?_ ?_ items.size 0 s₄ [] c (by omega) (Nat.zero_le _) rfl (Ext.refl _ _) ?_ hS₄
  · intro i h h' vs ⟨a1, a2, a3, a4⟩ k
    exact ⟨a1.at fun o e => k _ o (Nat.ne_of_lt i2) e, a2.at fun o e => k _ o (Nat.ne_of_lt i1) e, a3.at fun o e => k _ o (Nat.ne_of_lt i3) e, a4.keep fun b o hb e => k b o (fun z => hb (by simp [z])) e⟩
  · intro i s' vs hi hlt ⟨a1, a2, a3, a4⟩ Q' E' hq
    have hx : items[i]? = some items[i] := Array.getElem?_eq_getElem hi
    refine en_next a1 a2 a3 hx hne fun s'' x'' b1 b2 b3 => hq _ s'' x'' ⟨by simpa using b1, b2, a3.at fun o e => x''.keep _ o (by simp only [List.mem_cons, List.not_mem_nil, or_false, not_or]; exact ⟨Nat.ne_of_lt (Nat.lt_succ_of_lt hll), Nat.ne_of_lt hll⟩) e, ⟨by rw [List.length_append, a4.len]; rfl, fun j v e => ?_⟩⟩
    rcases Nat.lt_trichotomy j vs.length with h1 | h1 | h1
    · rw [List.getElem?_append_left h1] at e
      exact (a4.keep (h' := s''.heap) fun b o hb e => x''.keep b o (fun z => hb (by simp at z; simp [z])) e).at_ j v e
    · have e' : Value.ref s'.heap.objs.size = v := by rw [h1] at e; simpa using e
      have hj : j = i := by rw [h1, a4.len]
      subst hj
      refine ⟨_, _, _, e'.symm, ?_, ?_, hx, b3⟩
      · exact Nat.le_of_lt (Nat.lt_trans i1 hlt)
      · simp only [List.mem_cons, List.not_mem_nil, or_false, not_or]
        exact ⟨Nat.ne_of_gt hlt, Nat.ne_of_gt (Nat.lt_trans i2 hlt), Nat.ne_of_gt (Nat.lt_trans i1 hlt)⟩
    · rw [List.getElem?_eq_none (by rw [List.length_append, List.length_singleton]; omega)] at e; cases e
  · intro s' vs ⟨a1, a2, a3, a4⟩ Q' E' hq
    exact en_end (A := A.in1.in1) hh a1 a2 a3 (Array.getElem?_eq_none (Nat.le_refl _)) hq
  · intro s' vs c' h' x' ⟨a1, a2, a3, a4⟩ hlen k hS'
    refine hR s' (h s' _ vs c' ?_ (Nat.le_of_lt i1) hS' ((a4.keep (h' := s'.heap) fun b o hb e => k b o (fun z => hb (List.mem_cons_of_mem _ z)) e).less (by simp)))
    have y : Ext ([s₁.heap.objs.size, s.heap.objs.size + 1, s.heap.objs.size] ++ []) s s' := ((((x₁.mono (by simp)).trans (x₂.mono (by simp))).trans (x₄.mono (by simp))).trans (x'.mono (by simp)))
    refine y.drop fun b hb => ?_
    simp only [List.mem_cons, List.not_mem_nil, or_false] at hb
    rcases hb with rfl | rfl | rfl
    · exact Nat.le_of_lt i1
    · exact Nat.le_succ _
    · exact Nat.le_refl _
  · exact ⟨he₂.at fun o e => x₄.keep _ o (nS i2) e, hit₁.at fun o e => x₄.keep _ o (nS i1) (x₂.keep _ o (by simp) e), hl₁.at fun o e => x₄.keep _ o (nS i3) (x₂.keep _ o (by simp) e), rfl, fun j v e => by simp at e⟩
end
end Mine

-- part V63
namespace Mine
open PySem PySem.W PyProof.Rows

/-- a global name that means a built-in; a global name of the text -/
def GlobB (h₀ : Heap) (x : Str) (v : Value) : Prop := ∃ mg mb, h₀.Ns mainGlobals mg ∧ mg x = none ∧ h₀.Ns builtinsNs mb ∧ mb x = some v
def GlobM (h₀ : Heap) (x : Str) (v : Value) : Prop := ∃ mg, h₀.Ns mainGlobals mg ∧ mg x = some v
theorem Base.globB {h₀ : Heap} (B : Base h₀) {x : Str} {v : Value} (hm : (x, v) ∈ bltTab) : GlobB h₀ x v := by
  obtain ⟨mg, hg, hg0, _⟩ := B.g
  obtain ⟨mb, hb, hb0⟩ := B.b
  exact ⟨mg, mb, hg, hg0 _ hm, hb, hb0 _ hm⟩
theorem Base.globM {h₀ : Heap} (B : Base h₀) (f : Nat) (h6 : 6 ≤ f) (h16 : f < 16) : GlobM h₀ (fnm f) (fval f) := by
  obtain ⟨mg, hg, _, hg1⟩ := B.g
  exact ⟨mg, hg, hg1 f h6 h16⟩

section
variable {prog : Program} {w : World} {C : Addr} {h₀ : Heap} {A : Around} {E : Value → Shared → Prop} {s : Shared} {env : Env} {xs gs : List Str} {m : Str → Option Value}

theorem bname {x : Str} {p : Pos} {v : Value} {Q : Value → Shared → Prop} (F : Fe env xs gs) (hx : x ∈ gs) (G : GlobB h₀ x v) (old : ∀ b o, h₀.get? b = some o → s.heap.get? b = some o) (hd : (x == ("__debug__" : Str)) = false) (h : Q v s) : wpAny (model prog w) A (eval (.Name x p) env) Q E s := by
  obtain ⟨mg, mb, h1, h2, h3, h4⟩ := G
  refine Calls.Name_function_global F.fn (F.glob x hx) (Calls.loadGlobal_builtin (mg := mg) (mb := mb) ?_ h2 ?_ h4 h) hd
  · rw [F.gl]; exact h1.keeps old
  · rw [F.bt]; exact h3.keeps old
theorem gname {x : Str} {p : Pos} {v : Value} {Q : Value → Shared → Prop} (F : Fe env xs gs) (hx : x ∈ gs) (G : GlobM h₀ x v) (old : ∀ b o, h₀.get? b = some o → s.heap.get? b = some o) (hd : (x == ("__debug__" : Str)) = false) (h : Q v s) : wpAny (model prog w) A (eval (.Name x p) env) Q E s := by
  obtain ⟨mg, h1, h2⟩ := G
  refine Calls.Name_function_global F.fn (F.glob x hx) (Calls.loadGlobal_global (mg := mg) ?_ h2 h) hd
  rw [F.gl]; exact h1.keeps old

theorem iter_dict {K : Type} [DecidableEq K] {knd : KeyKind prog w K} {d : Addr} {kvs : List (K × Value)} {ep : Nat} {Q : Value → Shared → Prop} (lo : (d == sysModules) = false) (hd : s.heap.DictAt knd d kvs ep)
    (h : ∀ s', Ext [] s s' → s'.heap.IsKeyIter s.heap.objs.size d 0 kvs.length ep → Q (.ref s.heap.objs.size) s') : wpAny (model prog w) A (call (.builtin "iter") [.ref d]) Q E s := by
  refine Calls.call_function_entry (by decide +kernel) (by decide +kernel) kdk_entry_iter (kdk_args_iter _) ?_
  unfold Builtin.«iter»
  refine wpAny_bind (m := someArgs "iter" 1 2 _) (wpAny_of_eq (a := [Value.ref d]) (by first | rfl | kernel_rfl!) ?_)
  show wpAny _ _ (pyIter (.ref d) >>= _) _ _ _
  refine wpAny_bind (wpAny_pyIter_dict lo hd ?_)
  exact wpAny_pure ⟨_, rfl, h _ (Ext.push _ _) ⟨_, Heap.get?_push_size _ rfl, rfl, rfl⟩⟩

/-- a special method of the class of graphs -/
theorem GC.special {x f : Addr} {mN mA : Str → Option Value} {name : Str} {fd : FuncData} {body : List Stmt} {y : Option Value} {h : Heap} (G : GC h₀ C mN) (D : FnAt h₀ f fd body) (old : ∀ b o, h₀.get? b = some o → h.get? b = some o) (hx : h.Inst x C mA)
    (hm : mN name = some (.ref f)) (hob : typeLookup (.type "object") name = pure y) : h.OwnSpecial x C f "object" name := by
  obtain ⟨nm, q, N, bs, sn, sub, col, dd, k0, k1, k2, k3, k5, newId, _, hC, hN⟩ := G.obj
  obtain ⟨o, ho, hc, _⟩ := D.obj
  obtain ⟨ox, hox, hcx, _⟩ := hx
  exact ⟨ox, o, nm, q, N, bs, _, _, sn, sub, _, col, dd, k0, k1, k2, k3, k5, newId, mN, y, hox, hcx, old _ _ hC, hN.keeps old, hm, old _ _ ho, hc, by kernel_rfl, hob⟩

/-- iter(x) by the class's own __iter__ -/
theorem pyIter_own {x f : Addr} {Q : Value → Shared → Prop} (X : s.heap.OwnSpecial x C f "object" "__iter__")
    (h : wpAny (model prog w) A (call (.ref f) [.ref x]) (fun v s' => ∃ y, wpAny (model prog w) A (specialOf v "__next__") (fun r s₂ => r = some y ∧ Q v s₂) E s') E s) : wpAny (model prog w) A (pyIter (.ref x)) Q E s := by
  have X' := X
  obtain ⟨o, of, _, _, _, _, _, _, _, _, _, _, _, _, _, _, _, _, _, _, _, _, _, _, _, _, hfo, hfc, _, _⟩ := X'
  have one : ∀ refuse : Sem Value, wpAny (model prog w) A (callSpecialIfBoundUnlessNone? (.ref x) "__iter__" refuse) (fun r s' => ∃ v, r = some v ∧ ∃ y, wpAny (model prog w) A (specialOf v "__next__") (fun r s₂ => r = some y ∧ Q v s₂) E s') E s := by
    intro refuse
    simp only [callSpecialIfBoundUnlessNone?, bindSpecialIfBound?]
    refine wpAny_holding (wpAny_bind (wpAny_bind (wpAny_specialOf_own X ?_)))
    refine wpAny_bind (wpAny_askSetting (wpAny_ite ?_))
    have fin2 : wpAny (model prog w) A (if (Value.ref f == Value.none) = true then (refuse >>= fun v => pure (some v)) else (call (.ref f) [.ref x] >>= fun v => pure (some v))) (fun r s' => ∃ v, r = some v ∧ ∃ y, wpAny (model prog w) A (specialOf v "__next__") (fun r s₂ => r = some y ∧ Q v s₂) E s') E s := by
      rw [if_neg (show ¬ ((Value.ref f == Value.none) = true) from Bool.false_ne_true)]
      exact wpAny_bind (wpAny_mono h (fun v s' h' => wpAny_pure ⟨v, rfl, h'⟩) fun _ _ z => z)
    split
    · exact wpAny_bind (wpAny_bindSpecial_def hfo hfc (wpAny_pure (by exact fin2)))
    · exact wpAny_tryCatch (wpAny_bind (wpAny_bindSpecial_def hfo hfc (wpAny_pure (by exact fin2))))
  unfold pyIter
  refine wpAny_bind (wpAny_specialOf_own X ?_)
  show wpAny _ A (callSpecialIfBoundUnlessNone? (.ref x) "__iter__" _ >>= _) Q E s
  refine wpAny_bind (wpAny_mono (one _) (fun r s' hr => ?_) fun _ _ z => z)
  obtain ⟨v, rfl, y, hv⟩ := hr
  refine wpAny_bind (wpAny_mono hv (fun r s₂ hr => ?_) fun _ _ z => z)
  obtain ⟨rfl, hq⟩ := hr
  exact wpAny_pure hq
end
end Mine

-- part V64
namespace Mine
open PySem PySem.W PyProof.Rows

/-- a method of the class: its number among the methods, its parameters, the built-ins that it names -/
def Met (h₀ : Heap) (mN : Str → Option Value) (name : Str) (i : Nat) (ps xs gs : List Str) : Prop :=
  ∃ f fd, mN name = some (.ref f) ∧ FnAt h₀ f fd (mtB i) ∧ (∀ vs : List Value, vs.length = ps.length → bindArgs fd ⟨vs, []⟩ = pure (ps.zip vs)) ∧ FeB fd.scope xs gs ∧ ∀ p ∈ ps, p ∈ xs
/-- the same, with a dict for the other keywords at the end -/
def MetK (h₀ : Heap) (mN : Str → Option Value) (name : Str) (i : Nat) (ps : List Str) (k : Str) (xs gs : List Str) : Prop :=
  ∃ f fd, mN name = some (.ref f) ∧ FnAt h₀ f fd (mtB i) ∧ (∀ vs : List Value, vs.length = ps.length → Kw (bindArgs fd ⟨vs, []⟩) (ps.zip vs) k) ∧ FeB fd.scope xs gs ∧ (∀ p ∈ ps, p ∈ xs) ∧ k ∈ xs

section
variable {prog : Program} {w : World} {C : Addr} {h₀ : Heap} {A : Around} {E : Value → Shared → Prop} {s : Shared} {env : Env} {xs gs : List Str} {m : Str → Option Value}

/-- a call of a method: the frame stands -/
theorem met_callB {l : Nat} {f : Addr} {fd : FuncData} {body : List Stmt} {ps : List Str} {vals vs : List Value} {Q : Value → Shared → Prop} (D : FnAt h₀ f fd body) (hb : Bnd h₀ (bindArgs fd ⟨vals, []⟩) (ps.zip vs))
    (hfe : FeB fd.scope xs gs) (hps : ∀ p ∈ ps, p ∈ xs) (a : AOk (l + 1) A) (old : ∀ b o, h₀.get? b = some o → s.heap.get? b = some o)
    (h : ∀ env s₁, Fe env xs gs → AOk l (A.deeper env) → Ext [] s s₁ → s.heap.objs.size ≤ env.locals → s₁.heap.Ns env.locals (fun y => (ps.zip vs).reverse.lookup y) →
      ∃ R : Flow → Shared → Prop, (∀ E', wpAny (model prog w) (A.deeper env) (execs body env) R E' s₁) ∧ ∀ fl s', R fl s' → Q (match fl with | .ret v => v | _ => .none) s') :
    wpAny (model prog w) A (call (.ref f) vals) Q E s := by
  refine call_fn D a old (hb prog w _ E s _ old ⟨Ext.refl _ _, fun y hy => hfe.1 _ (hps _ (List.of_mem_zip (show (y.1, y.2) ∈ ps.zip vs from hy)).1), fun s₂ x₂ hns => ?_⟩)
  exact h _ s₂ (Fe.of D hfe) (a.deeper _) x₂ (Nat.le_refl _) hns
theorem met_call {l : Nat} {f : Addr} {fd : FuncData} {body : List Stmt} {ps : List Str} {vals vs : List Value} {Q : Value → Shared → Prop} (D : FnAt h₀ f fd body) (hb : bindArgs fd ⟨vals, []⟩ = pure (ps.zip vs))
    (hfe : FeB fd.scope xs gs) (hps : ∀ p ∈ ps, p ∈ xs) (a : AOk (l + 1) A) (old : ∀ b o, h₀.get? b = some o → s.heap.get? b = some o)
    (h : ∀ env s₁, Fe env xs gs → AOk l (A.deeper env) → Ext [] s s₁ → s.heap.objs.size ≤ env.locals → s₁.heap.Ns env.locals (fun y => (ps.zip vs).reverse.lookup y) →
      ∃ R : Flow → Shared → Prop, (∀ E', wpAny (model prog w) (A.deeper env) (execs body env) R E' s₁) ∧ ∀ fl s', R fl s' → Q (match fl with | .ret v => v | _ => .none) s') :
    wpAny (model prog w) A (call (.ref f) vals) Q E s := by
  refine call_fn D a old ?_
  rw [hb]
  refine wpAny_pure ⟨Ext.refl _ _, fun y hy => hfe.1 _ (hps _ (List.of_mem_zip (show (y.1, y.2) ∈ ps.zip vs from hy)).1), fun s₂ x₂ hns => ?_⟩
  exact h _ s₂ (Fe.of D hfe) (a.deeper _) x₂ (Nat.le_refl _) hns
theorem metK_call {l i : Nat} {f : Addr} {fd : FuncData} {ps : List Str} {k : Str} {vals : List Value} {Q : Value → Shared → Prop} (D : FnAt h₀ f fd (mtB i)) (hb : ∀ vs : List Value, vs.length = ps.length → Kw (bindArgs fd ⟨vs, []⟩) (ps.zip vs) k)
    (hfe : FeB fd.scope xs gs) (hps : ∀ p ∈ ps, p ∈ xs) (hk : k ∈ xs) (a : AOk (l + 1) A) (old : ∀ b o, h₀.get? b = some o → s.heap.get? b = some o) (hl : vals.length = ps.length)
    (h : ∀ env s₁ ad, Fe env xs gs → AOk l (A.deeper env) → Ext [] s s₁ → s.heap.objs.size ≤ env.locals → s.heap.objs.size ≤ ad → env.locals ≠ ad → s₁.heap.get? ad = some emptyDict → s₁.heap.Ns env.locals (fun y => (ps.zip vals ++ [(k, Value.ref ad)]).reverse.lookup y) →
      ∃ R : Flow → Shared → Prop, (∀ E', wpAny (model prog w) (A.deeper env) (execs (mtB i) env) R E' s₁) ∧ ∀ fl s', R fl s' → Q (match fl with | .ret v => v | _ => .none) s') :
    wpAny (model prog w) A (call (.ref f) vals) Q E s := by
  refine call_fn D a old (kw_ok (hb _ hl) ⟨Ext.push _ _, fun y hy => ?_, fun s₂ x₂ hns => ?_⟩)
  · rcases List.mem_append.mp hy with q | q
    · exact hfe.1 _ (hps _ (List.of_mem_zip (show (y.1, y.2) ∈ ps.zip vals from q)).1)
    · rw [List.mem_singleton] at q; rw [q]; exact hfe.1 _ hk
  · refine h _ s₂ s.heap.objs.size (Fe.of D hfe) (a.deeper _) ((Ext.push s emptyDict).trans x₂) ?_ (Nat.le_refl _) ?_ (x₂.keep _ _ (by simp) (Heap.get?_push_size _ rfl)) hns
    · show s.heap.objs.size ≤ (s.heap.push emptyDict).objs.size
      rw [Heap.size_push]; exact Nat.le_succ _
    · show (s.heap.push emptyDict).objs.size ≠ s.heap.objs.size
      rw [Heap.size_push]; exact Nat.succ_ne_self _

theorem gnlo {x d gg gn ga : Addr} {as ls : List Addr} {lo : Nat} (hlo : ∀ b ∈ rl x d gg gn ga as ls, lo ≤ b) (h1 : 1 < lo) : (gn == sysModules) = false ∧ (ga == sysModules) = false ∧ (gg == sysModules) = false :=
  ⟨no_sys (Nat.lt_of_lt_of_le h1 (hlo gn (by simp [rl]))), no_sys (Nat.lt_of_lt_of_le h1 (hlo ga (by simp [rl]))), no_sys (Nat.lt_of_lt_of_le h1 (hlo gg (by simp [rl])))⟩

/-- x.__iter__() -/
theorem iter_m {l : Nat} {x d gg gn ga : Addr} {as ls : List Addr} {g : Gr} {mN : Str → Option Value} {f : Addr} {fd : FuncData} {ep : Nat} {Q : Value → Shared → Prop} {kvs : List (Int × Value)} (G : GC h₀ C mN) (D : FnAt h₀ f fd (mtB 8)) (hb : ∀ vs : List Value, vs.length = 1 → bindArgs fd ⟨vs, []⟩ = pure ([Str.ofString "self"].zip vs))
    (hfe : FeB fd.scope ["self"] ["iter"]) (gi : GlobB h₀ "iter" (.builtin "iter")) (a : AOk (l + 1) A) (old : ∀ b o, h₀.get? b = some o → s.heap.get? b = some o) (H : GAt prog w C s.heap x d gg gn ga as ls g) (hn : s.heap.DictAt (intKind prog w) gn kvs ep) (lo : (gn == sysModules) = false)
    (h : ∀ I s', Ext [] s s' → s.heap.objs.size ≤ I → s'.heap.IsKeyIter I gn 0 kvs.length ep → Q (.ref I) s') : wpAny (model prog w) A (call (.ref f) [.ref x]) Q E s := by
  refine met_call (ps := [Str.ofString "self"]) (vs := [.ref x]) D (hb _ rfl) hfe (by simp) a old fun env s₁ Fr a₁ x₁ hL hns => ⟨fun fl s' => ∃ v, fl = .ret v ∧ Q v s', fun E' => ?_, fun fl s' q => by obtain ⟨v, rfl, q⟩ := q; exact q⟩
  have old₁ : ∀ b o, h₀.get? b = some o → s₁.heap.get? b = some o := fun b o e => x₁.keep b o (by simp) (old b o e)
  have H₁ := H.keep (h' := s₁.heap) fun b _ o e => x₁.keep b o (by simp) e
  refine wpAny_execs_cons (wpAny_Return_some (wpAny_Call_NameR (bname Fr (by simp) gi old₁ (by decide +kernel) ?_)))
  refine Calls.callWith_builtin (by rfl) (Calls.evalArgs_plain (Calls.spliced_cons (Attribute_any_ (lname (v := .ref x) Fr hns (by simp) (by rfl) (by decide +kernel) ?_) (by rfl))))
  refine gload (v := .ref gn) (C := C) G old₁ H₁.ofInst (G.no _ (by simp)) (by kernel_rfl) (by rfl) (by rfl) (Calls.spliced_nil ?_)
  refine iter_dict lo ((hn.at' fun o e => x₁.keep _ o (by simp) e : s₁.heap.DictAt (intKind prog w) gn kvs ep)) fun s₂ x₂ hI => ⟨_, rfl, h _ s₂ (x₁.trans ((Ext.tok s₁ 1).trans x₂)) ?_ hI⟩
  exact x₁.size

/-- x.__len__() -/
theorem len_m {l : Nat} {x d gg gn ga : Addr} {as ls : List Addr} {g : Gr} {mN : Str → Option Value} {f : Addr} {fd : FuncData} {Q : Value → Shared → Prop} {kvs : List (Int × Value)} (G : GC h₀ C mN) (D : FnAt h₀ f fd (mtB 10)) (hb : ∀ vs : List Value, vs.length = 1 → bindArgs fd ⟨vs, []⟩ = pure ([Str.ofString "self"].zip vs))
    (hfe : FeB fd.scope ["self"] ["len"]) (gi : GlobB h₀ "len" (.builtin "len")) (a : AOk (l + 1) A) (old : ∀ b o, h₀.get? b = some o → s.heap.get? b = some o) (H : GAt prog w C s.heap x d gg gn ga as ls g) (hn : s.heap.DictOf (intKind prog w) gn kvs) (lo : (gn == sysModules) = false) (hz : (kvs.length : Int) < 2 ^ 63)
    (h : ∀ t s', Ext [] s s' → Q (.int kvs.length t) s') : wpAny (model prog w) A (call (.ref f) [.ref x]) Q E s := by
  refine met_call (ps := [Str.ofString "self"]) (vs := [.ref x]) D (hb _ rfl) hfe (by simp) a old fun env s₁ Fr a₁ x₁ hL hns => ⟨fun fl s' => ∃ v, fl = .ret v ∧ Q v s', fun E' => ?_, fun fl s' q => by obtain ⟨v, rfl, q⟩ := q; exact q⟩
  have old₁ : ∀ b o, h₀.get? b = some o → s₁.heap.get? b = some o := fun b o e => x₁.keep b o (by simp) (old b o e)
  have H₁ := H.keep (h' := s₁.heap) fun b _ o e => x₁.keep b o (by simp) e
  refine wpAny_execs_cons (wpAny_Return_some (wpAny_Call_NameR (bname Fr (by simp) gi old₁ (by decide +kernel) ?_)))
  refine Calls.callWith_builtin (by rfl) (Calls.evalArgs_plain (Calls.spliced_cons (Attribute_any_ (lname (v := .ref x) Fr hns (by simp) (by rfl) (by decide +kernel) ?_) (by rfl))))
  refine gload (v := .ref gn) (C := C) G old₁ H₁.ofInst (G.no _ (by simp)) (by kernel_rfl) (by rfl) (by rfl) (Calls.spliced_nil ?_)
  refine call_len_dict lo (hn.at fun o e => x₁.keep _ o (by simp) e : s₁.heap.DictOf (intKind prog w) gn kvs) hz ?_
  exact ⟨_, rfl, h _ _ (x₁.trans ((Ext.tok s₁ 1).trans (Ext.tok _ 2)))⟩
end
end Mine

-- part V65
namespace Mine
open PySem PySem.W PyProof.Rows

def Met1 (h₀ : Heap) (mN : Str → Option Value) (name : Str) (i : Nat) (gs : List Str) : Prop :=
  ∃ f fd, mN name = some (.ref f) ∧ FnAt h₀ f fd (mtB i) ∧ (∀ vs : List Value, vs.length = 1 → bindArgs fd ⟨vs, []⟩ = pure ([Str.ofString "self"].zip vs)) ∧ FeB fd.scope ["self"] gs

theorem valueAt_zipR {ks : List Int} {vs : List Value} {i : Nat} {k : Int} {x : Value} (h : (ks.zip vs)[i]? = some (k, x)) : ks[i]? = some k ∧ vs[i]? = some x := by
  rw [List.getElem?_zip_eq_some] at h
  exact h

section
variable {prog : Program} {w : World} {C : Addr} {h₀ : Heap} {A : Around} {E : Value → Shared → Prop} {s : Shared} {env : Env} {xs gs : List Str} {m : Str → Option Value}

theorem hint_own {x f : Addr} {Q : Bool → Shared → Prop} {n : Nat} (X : s.heap.OwnSpecial x C f "object" "__len__") (hn : n ≤ 1000)
    (h : ∀ E', wpAny (model prog w) A.in1 (call (.ref f) [.ref x]) (fun r s' => ∃ u, r = .int n u ∧ ∀ b, Q b { s' with toks := s'.toks + 1 }) E' s) : wpAny (model prog w) A (Builtin.List.listLengthHint (.ref x)) Q E s := by
  unfold Builtin.List.listLengthHint
  refine wpAny_bind (wpAny_specialOf_own X ?_)
  refine wpAny_bind (wpAny_rule ?_)
  have h' : wpAny (model prog w) A.in1 (call (.ref f) [.ref x]) (fun r s' => ∃ n' u, r = .int n' u ∧ 0 ≤ n' ∧ n' < 2 ^ 63 ∧ (fun (v : Value) (s'' : Shared) => (∃ t, v = Value.int n t) ∧ ∀ b, Q b s'') (Value.int n' s'.toks) { s' with toks := s'.toks + 1 }) (fun _ _ => False) s :=
    wpAny_mono (h _) (fun r s' q => by
      obtain ⟨u, rfl, q⟩ := q
      exact ⟨n, u, rfl, by omega, by omega, ⟨_, rfl⟩, q⟩) fun _ _ e => e
  have h2 : wpAny (model prog w) A (call (.builtin "len") [.ref x]) (fun v s'' => (∃ t, v = Value.int n t) ∧ ∀ b, Q b s'') (fun _ _ => False) s := len_own (h := s.heap) (g := s.gens) (d := s.drawn) (t := s.toks) (os := s.os) X h'
  refine wpAny_bind (wpAny_attempt (wpAny_mono h2 (fun v s' q => ?_) fun _ _ e => e.elim))
  obtain ⟨⟨t, rfl⟩, q⟩ := q
  have htl : Builtin.List.listTooLong ((n : Int).toNat) = false := by
    have : sizeLine ≥ 1000 := by decide
    simp only [Builtin.List.listTooLong, Int.toNat_natCast, decide_eq_false_iff_not]; omega
  refine wpAny_bind (m := asInt? _) (wpAny_pure ?_)
  exact wpAny_ite_split (fun hab => absurd hab (by rw [htl]; decide)) (fun _ => wpAny_pure (q _))

/-- list(G) -/
theorem list_graph {l : Nat} {x d gg gn ga : Addr} {as ls : List Addr} {g : Gr} {mN : Str → Option Value} {lo : Nat} {Q : Value → Shared → Prop} (G : GC h₀ C mN) (M1 : Met1 h₀ mN "__iter__" 8 ["iter"]) (M2 : Met1 h₀ mN "__len__" 10 ["len"]) (gi : GlobB h₀ "iter" (.builtin "iter")) (gl : GlobB h₀ "len" (.builtin "len"))
    (a : AOk (l + 4) A) (old : ∀ b o, h₀.get? b = some o → s.heap.get? b = some o) (H : GAt prog w C s.heap x d gg gn ga as ls g) (hlo : ∀ b ∈ rl x d gg gn ga as ls, lo ≤ b) (h1 : 1 < lo) (hz : g.length ≤ 1000)
    (h : ∀ c vs k s', Ext [] s s' → s.heap.objs.size ≤ c → s'.heap.get? c = some (listO vs k) → vs.length = g.length → (∀ (i : Nat) (v : Value), vs[i]? = some v → ∃ k t, (keysG g)[i]? = some k ∧ v = .int k t) → Q (.ref c) s') : wpAny (model prog w) A (call (.type "list") [.ref x]) Q E s := by
  obtain ⟨f1, fd1, hm1, D1, hb1, hf1⟩ := M1
  obtain ⟨f2, fd2, hm2, D2, hb2, hf2⟩ := M2
  have sys := gnlo hlo h1
  have a1 : AOk (l + 2) A.in1.in1 := a.in1.in1
  have hxl : x < s.heap.objs.size := by obtain ⟨o, ho, _⟩ := H.inst; exact Heap.lt_size ho
  obtain ⟨vsn, hdn, hvn, _⟩ := H.nodes
  have hkl : ((keysG g).zip vsn).length = g.length := by rw [List.length_zip, hvn]; simp [keysG]
  have hgl : gn < s.heap.objs.size := by obtain ⟨o, _, _, ho, _⟩ := hdn; exact Heap.lt_size ho
  refine list_call (t := .ref C) hxl fun s₁ x₁ hS => ?_
  have H₁ := H.keep (h' := s₁.heap) fun b _ o e => x₁.keep b o (by simp) e
  have old₁ : ∀ b o, h₀.get? b = some o → s₁.heap.get? b = some o := fun b o e => x₁.keep b o (by simp) (old b o e)
  refine ⟨fun Q E q => ?_, rfl, rfl, fun R hR => ?_⟩
  · obtain ⟨o, ho, hc, _⟩ := H₁.inst
    exact wpAny_typeOf_ref ho (by rw [hc]; exact q)
  obtain ⟨ep, hda⟩ := (hdn.at fun o e => x₁.keep _ o (by simp) e : s₁.heap.DictOf (intKind prog w) gn ((keysG g).zip vsn)).dictAt
  refine pyIter_own (G.special D1 old₁ H₁.ofInst hm1 (y := none) (by kernel_rfl)) ?_
  refine iter_m G D1 hb1 hf1 gi a1 old₁ H₁ hda sys.1 fun I s₂ x₂ hI hIt => ⟨_, wpAny_specialOf (T := "dict_keyiterator") (by obtain ⟨o, ho, hc, _⟩ := hIt; exact ⟨o, ho, hc⟩) PySem.F.slot_dict_keyiterator_next.lookup ⟨rfl, ?_⟩⟩
  have H₂ := H₁.keep (h' := s₂.heap) fun b _ o e => x₂.keep b o (by simp) e
  have old₂ : ∀ b o, h₀.get? b = some o → s₂.heap.get? b = some o := fun b o e => x₂.keep b o (by simp) (old₁ b o e)
  have hda₂ : s₂.heap.DictAt (intKind prog w) gn ((keysG g).zip vsn) ep := hda.at' fun o e => x₂.keep _ o (by simp) e
  refine hint_own (n := ((keysG g).zip vsn).length) (G.special D2 old₂ H₂.ofInst hm2 (y := none) (by kernel_rfl)) (by rw [hkl]; exact hz) fun E' => ?_
  refine len_m G D2 hb2 hf2 gl a1.in1 old₂ H₂ hda₂.dictOf sys.1 (by rw [hkl]; omega) fun t s₃ x₃ => ⟨t, rfl, fun b => ?_⟩
  have x₃' : Ext [] s₂ { s₃ with toks := s₃.toks + 1 } := x₃.trans (Ext.tok s₃ 1)
  generalize hs₃ : ({ s₃ with toks := s₃.toks + 1 } : Shared) = s₃' at *
  have hS₃ : s₃'.heap.get? s.heap.objs.size = some (listO [] 0) := x₃'.keep _ _ (by simp) (x₂.keep _ _ (by simp) hS)
  refine ⟨⟨0, hS₃⟩, fun s₄ x₄ hS₄ => ?_⟩
  obtain ⟨c, hS₄⟩ := hS₄
  have hsl : s.heap.objs.size < s₁.heap.objs.size := Heap.lt_size hS
  have hIl : s.heap.objs.size < I := Nat.lt_of_lt_of_le hsl hI
  have W := Walks.dictKeys (prog := prog) (w := w) (knd := intKind prog w) (A := A.in1.in1) a1.handled I gn (fun e => Nat.lt_irrefl _ (Nat.lt_trans hgl (e ▸ hIl))) ((keysG g).zip vsn) ep
  have nS : ∀ {b : Addr}, b ≠ s.heap.objs.size → b ∉ [s.heap.objs.size] := fun hb z => hb (by simpa using z)
  refine ext_loop (S := s.heap.objs.size) (I := I) (n := ((keysG g).zip vsn).length) (s₀ := s₄) (fp := [I])
    (St := fun i h vs => (h.IsKeyIter I gn i ((keysG g).zip vsn).length ep ∧ h.DictAt (intKind prog w) gn ((keysG g).zip vsn) ep) ∧ vs.length = i ∧ ∀ (j : Nat) (v : Value), vs[j]? = some v → ∃ k t, (keysG g)[j]? = some k ∧ v = .int k t)
    (by rw [hkl]; exact Nat.le_trans hz (by decide)) (by simpa using Nat.ne_of_lt hIl) ?_ ?_ ?_ ?_ ((keysG g).zip vsn).length 0 s₄ [] c (by omega) (Nat.zero_le _) rfl (Ext.refl _ _) ?_ hS₄
  · intro i h h' vs ⟨a1, a2, a3⟩ k
    refine ⟨W.frame i h h' a1 fun b hb o e => k b o (fun z => ?_) e, a2, a3⟩
    simp only [List.mem_cons, List.not_mem_nil, or_false] at hb
    rcases hb with rfl | rfl
    · exact Nat.ne_of_gt hIl z
    · exact Nat.ne_of_lt hgl z
  · intro i s' vs hi hlt ⟨a1, a2, a3⟩ Q' E' hq
    refine grown (W.item i s' _ _ hi a1 fun v h' tk hP st' k htk hsz => ?_)
    obtain ⟨kk, xx, e1, e2⟩ := hP
    obtain ⟨t, rfl⟩ := Value.isInt_shape e2
    refine hq _ _ (Ext.mk' htk hsz fun b o hb e => k b o hb e) ⟨st', by rw [List.length_append, a2]; rfl, fun j v e => ?_⟩
    rcases Nat.lt_trichotomy j vs.length with h1 | h1 | h1
    · rw [List.getElem?_append_left h1] at e
      exact a3 j v e
    · have e' : Value.int kk t = v := by rw [h1] at e; simpa using e
      exact ⟨kk, t, by rw [h1, a2]; exact (valueAt_zipR e1).1, e'.symm⟩
    · rw [List.getElem?_eq_none (by rw [List.length_append, List.length_singleton]; omega)] at e; cases e
  · intro s' vs ⟨a1, a2, a3⟩ Q' E' hq
    exact grown (W.done s' _ _ a1 fun h' tk k htk hsz => hq _ (Ext.mk' htk hsz fun b o hb e => k b o hb e))
  · intro s' vs c' h' x' ⟨a1, a2, a3⟩ hlen k hS'
    refine hR s' (h _ vs c' s' ?_ (Nat.le_refl _) hS' (by rw [hlen, hkl]) a3)
    have y : Ext ([s.heap.objs.size, I] ++ []) s s' := ((((x₁.mono (by simp)).trans (x₂.mono (by simp))).trans (x₃'.mono (by simp))).trans (x₄.mono (by simp))).trans (x'.mono (by simp))
    refine y.drop fun b hb => ?_
    simp only [List.mem_cons, List.not_mem_nil, or_false] at hb
    rcases hb with rfl | rfl
    · exact Nat.le_refl _
    · exact Nat.le_of_lt hIl
  · refine ⟨⟨?_, hda₂.at' fun o e => x₄.keep _ o (nS (Nat.ne_of_lt hgl)) (x₃'.keep _ o (by simp) e)⟩, rfl, fun j v e => by simp at e⟩
    obtain ⟨o, ho, r⟩ := hIt
    exact ⟨o, x₄.keep _ o (nS (Nat.ne_of_gt hIl)) (x₃'.keep _ o (by simp) ho), r⟩
end
end Mine

-- part V66
namespace Mine
open PySem PySem.W PyProof.Rows

def addN (g : Gr) (a : Int) : Gr := if a ∈ keysG g then g else g ++ [(a, [])]
/-- b at the end of a's neighbours -/
def addH (g : Gr) (a b : Int) : Gr := g.map fun p => if p.1 = a then (p.1, p.2 ++ [b]) else p
def addE (g : Gr) (a b : Int) : Gr := addH (addH (addN g a) a b) b a
theorem keysG_addH (g : Gr) (a b : Int) : keysG (addH g a b) = keysG g := by
  unfold keysG addH
  rw [List.map_map]
  apply List.map_congr_left
  intro p _
  simp only [Function.comp]
  split <;> rfl

section
variable {prog : Program} {w : World} {C : Addr}

theorem map_fst_zip {ks : List Int} {vs : List Value} (h : ks.length = vs.length) : (ks.zip vs).map (·.1) = ks := by
  rw [List.map_fst_zip (by omega)]
theorem GAt.keysNd {h : Heap} {x d gg gn ga : Addr} {as ls : List Addr} {g : Gr} (H : GAt prog w C h x d gg gn ga as ls g) : (keysG g).Nodup := by
  obtain ⟨o, es, ep, _, _, _, _, _, hn⟩ := H.adj
  rwa [map_fst_zip (by simp [keysG, H.len])] at hn

theorem GAt.leafMore {h : Heap} {x d gg gn ga e : Addr} {as ls : List Addr} {g : Gr} (H : GAt prog w C h x d gg gn ga as ls g) (he : h.DictOf (intKind prog w) e []) (hne : e ∉ x :: d :: gg :: gn :: ga :: as) : GAt prog w C h x d gg gn ga as (ls ++ [e]) g := by
  refine ⟨H.inst, H.gr, ?_, H.adj, H.len, ?_, ?_, H.nd, ?_⟩
  · obtain ⟨vs, h1, h2, h3⟩ := H.nodes
    exact ⟨vs, h1, h2, fun v hv => let ⟨e', q, r⟩ := h3 v hv; ⟨e', List.mem_append_left _ q, r⟩⟩
  · intro i p a h1 h2
    obtain ⟨vs, h3, h4, h5⟩ := H.inner i p a h1 h2
    exact ⟨vs, h3, h4, fun v hv => let ⟨e', q, r⟩ := h5 v hv; ⟨e', List.mem_append_left _ q, r⟩⟩
  · intro e' q
    rcases List.mem_append.mp q with q | q
    · exact H.leaf e' q
    · rw [List.mem_singleton.mp q]; exact he
  · intro e' q
    rcases List.mem_append.mp q with q | q
    · exact H.lf e' q
    · rw [List.mem_singleton.mp q]; exact hne

/-- a new node -/
theorem GAt.newNode {h h' : Heap} {x d gg gn ga e1 e2 : Addr} {as ls : List Addr} {g : Gr} {a : Int} {vsn : List Value} (H : GAt prog w C h x d gg gn ga as ls g) (ha : a ∉ keysG g)
    (k : ∀ b ∈ rl x d gg gn ga as ls, ∀ o, b ≠ gn → b ≠ ga → h.get? b = some o → h'.get? b = some o) (hvn : vsn.length = g.length) (hvl : ∀ v ∈ vsn, ∃ e ∈ ls, v = .ref e)
    (n' : h'.DictOf (intKind prog w) gn (stored ((keysG g).zip vsn) a (.ref e2))) (a' : h'.DictOf (intKind prog w) ga (stored ((keysG g).zip (as.map Value.ref)) a (.ref e1)))
    (d1 : h'.get? e1 = some emptyDict) (d2 : h'.get? e2 = some emptyDict) (hne : e1 ≠ e2) (f1 : e1 ∉ rl x d gg gn ga as ls) (f2 : e2 ∉ rl x d gg gn ga as ls) : GAt prog w C h' x d gg gn ga (as ++ [e1]) (ls ++ [e2]) (g ++ [(a, [])]) := by
  have hnd := H.nd
  have hkl : (keysG g).length = g.length := by simp [keysG]
  have hlf := H.lf
  simp only [rl, List.mem_cons, List.mem_append, not_or] at f1 f2
  simp only [List.nodup_cons, List.mem_cons, not_or] at hnd
  simp only [List.mem_cons, not_or] at hlf
  obtain ⟨⟨q1, q2, q3, q4, q5⟩, ⟨q6, q7, q8, q9⟩, ⟨q10, q11, q12⟩, ⟨q13, q14⟩, q15, q16⟩ := hnd
  refine ⟨?_, ?_, ?_, ?_, ?_, ?_, ?_, ?_, ?_⟩
  · obtain ⟨o, h1, h2, h3, h4, h5⟩ := H.inst
    exact ⟨o, k x (by simp [rl]) o q3 q4 h1, h2, h3, h4, h5.at fun o e => k d (by simp [rl]) o q7 q8 e⟩
  · obtain ⟨kvs, h1, h2⟩ := H.gr
    exact ⟨kvs, h1.at fun o e => k gg (by simp [rl]) o q10 q11 e, h2⟩
  · refine ⟨vsn ++ [.ref e2], ?_, by simp [hvn], fun v hv => ?_⟩
    · rw [stored_zip_new (by rw [hkl, hvn]) ha] at n'
      simpa [keysG] using n'
    · rcases List.mem_append.mp hv with hv | hv
      · obtain ⟨e, q, r⟩ := hvl v hv; exact ⟨e, List.mem_append_left _ q, r⟩
      · exact ⟨e2, by simp, List.mem_singleton.mp hv⟩
  · rw [stored_zip_new (by rw [hkl, List.length_map, H.len]) ha] at a'
    simpa [keysG] using a'
  · simp [H.len]
  · intro i p b h1 h2
    rcases Nat.lt_trichotomy i g.length with hi | hi | hi
    · rw [List.getElem?_append_left hi] at h1
      rw [List.getElem?_append_left (by rw [H.len]; exact hi)] at h2
      obtain ⟨vs, h3, h4, h5⟩ := H.inner i p b h1 h2
      have hb := List.mem_of_getElem? h2
      refine ⟨vs, h3.at fun o e => k b (by simp [rl, hb]) o (fun z => q14 (z ▸ hb)) (fun z => q15 (z ▸ hb)) e, h4, fun v hv => let ⟨e', q, r⟩ := h5 v hv; ⟨e', List.mem_append_left _ q, r⟩⟩
    · subst hi
      have e1' : p = (a, []) := by simpa using h1.symm
      have e2' : b = e1 := by rw [← H.len] at h2; simpa using h2.symm
      subst e1' e2'
      exact ⟨[], empty_obj d1, rfl, fun v hv => (nomatch hv)⟩
    · rw [List.getElem?_eq_none (by rw [List.length_append, List.length_singleton]; omega)] at h1; cases h1
  · intro e q
    rcases List.mem_append.mp q with q | q
    · have := hlf e q
      exact (H.leaf e q).at fun o e' => k e (by simp [rl, q]) o this.2.2.2.1 this.2.2.2.2.1 e'
    · rw [List.mem_singleton.mp q]; exact empty_obj d2
  · simp only [List.nodup_cons, List.mem_cons, List.mem_append, List.not_mem_nil, or_false, not_or]
    refine ⟨⟨q1, q2, q3, q4, q5, Ne.symm f1.1⟩, ⟨q6, q7, q8, q9, Ne.symm f1.2.1⟩, ⟨q10, q11, q12, Ne.symm f1.2.2.1⟩, ⟨q13, q14, Ne.symm f1.2.2.2.1⟩, ⟨q15, Ne.symm f1.2.2.2.2.1⟩, ?_⟩
    rw [List.nodup_append]
    exact ⟨q16, by simp, fun b hb c hc => by rw [List.mem_singleton.mp hc]; exact fun z => f1.2.2.2.2.2.1 (z ▸ hb)⟩
  · intro e q
    simp only [List.mem_cons, List.mem_append, List.not_mem_nil, or_false, not_or]
    rcases List.mem_append.mp q with q | q
    · have := hlf e q
      exact ⟨this.1, this.2.1, this.2.2.1, this.2.2.2.1, this.2.2.2.2.1, this.2.2.2.2.2, fun z => f1.2.2.2.2.2.2 (z ▸ q)⟩
    · rw [List.mem_singleton.mp q]
      exact ⟨f2.1, f2.2.1, f2.2.2.1, f2.2.2.2.1, f2.2.2.2.2.1, f2.2.2.2.2.2.1, Ne.symm hne⟩

/-- one more neighbour -/
theorem GAt.half {h h' : Heap} {x d gg gn ga e ia : Addr} {as ls : List Addr} {g : Gr} {a b : Int} {nb : List Int} {vs : List Value} {i : Nat} (H : GAt prog w C h x d gg gn ga as ls g) (hi : g[i]? = some (a, nb)) (hai : as[i]? = some ia) (hb : b ∉ nb)
    (k : ∀ b o, b ≠ ia → h.get? b = some o → h'.get? b = some o) (hvl : vs.length = nb.length) (hvs : ∀ v ∈ vs, ∃ e ∈ ls, v = .ref e) (hd : h'.DictOf (intKind prog w) ia (stored (nb.zip vs) b (.ref e))) (he : e ∈ ls) : GAt prog w C h' x d gg gn ga as ls (addH g a b) := by
  have hnd := H.nd
  have hlf := H.lf
  have hia := List.mem_of_getElem? hai
  simp only [List.nodup_cons, List.mem_cons, not_or] at hnd
  simp only [List.mem_cons, not_or] at hlf
  obtain ⟨⟨q1, q2, q3, q4, q5⟩, ⟨q6, q7, q8, q9⟩, ⟨q10, q11, q12⟩, ⟨q13, q14⟩, q15, q16⟩ := hnd
  have hk := keysG_addH g a b
  have hl : (addH g a b).length = g.length := by simp [addH]
  have nia : ∀ {c : Addr}, c ∉ as → c ≠ ia := fun hc z => hc (z ▸ hia)
  refine ⟨?_, ?_, ?_, ?_, by rw [hl]; exact H.len, ?_, ?_, H.nd, H.lf⟩
  · obtain ⟨o, h1, h2, h3, h4, h5⟩ := H.inst
    exact ⟨o, k x o (nia q5) h1, h2, h3, h4, h5.at fun o e => k d o (nia q9) e⟩
  · obtain ⟨kvs, h1, h2⟩ := H.gr
    exact ⟨kvs, h1.at fun o e => k gg o (nia q12) e, h2⟩
  · obtain ⟨v', h1, h2, h3⟩ := H.nodes
    exact ⟨v', by rw [hk]; exact h1.at fun o e => k gn o (nia q14) e, by rw [hl]; exact h2, h3⟩
  · rw [hk]; exact H.adj.at fun o e => k ga o (nia q15) e
  · intro j p c h1 h2
    by_cases hj : j = i
    · subst hj
      rw [hai] at h2; cases h2
      have : p = (a, nb ++ [b]) := by
        unfold addH at h1
        rw [List.getElem?_map, hi] at h1
        simpa using h1.symm
      subst this
      rw [stored_zip_new hvl.symm hb] at hd
      refine ⟨vs ++ [.ref e], hd, by simp [hvl], fun v hv => ?_⟩
      rcases List.mem_append.mp hv with hv | hv
      · exact hvs v hv
      · exact ⟨e, he, List.mem_singleton.mp hv⟩
    · have hc : c ≠ ia := fun z => hj ((List.getElem?_inj (by obtain ⟨q, _⟩ := List.getElem?_eq_some_iff.mp h2; exact q) q16).mp (by rw [h2, hai, z]))
      have hp : g[j]? = some p := by
        unfold addH at h1
        rw [List.getElem?_map] at h1
        cases hg : g[j]? with
        | none => rw [hg] at h1; cases h1
        | some p' =>
          rw [hg] at h1
          have hne : p'.1 ≠ a := fun z => hj (by
            have e1 : (keysG g)[j]? = some a := by unfold keysG; rw [List.getElem?_map, hg]; simp [z]
            have e2 : (keysG g)[i]? = some a := by unfold keysG; rw [List.getElem?_map, hi]; rfl
            exact (List.getElem?_inj (by obtain ⟨q, _⟩ := List.getElem?_eq_some_iff.mp e1; exact q) H.keysNd).mp (by rw [e1, e2]))
          simpa [hne] using h1
      obtain ⟨vs', h3, h4, h5⟩ := H.inner j p c hp h2
      exact ⟨vs', h3.at fun o e => k c o hc e, h4, h5⟩
  · intro e' q
    exact (H.leaf e' q).at fun o z => k e' o (nia (hlf e' q).2.2.2.2.2) z
end
end Mine

-- part V67
namespace Mine
open PySem PySem.W PyProof.Rows

section
variable {prog : Program} {w : World} {C : Addr} {h₀ : Heap} {A : Around} {E : Value → Shared → Prop} {s : Shared} {env : Env} {xs gs : List Str} {m : Str → Option Value}

theorem dict_getitem : typeLookup (.type "dict") "__getitem__" = pure (some (.builtin "dict.__getitem__")) := PySem.F.slot_dict_getitem.lookup

/-- self.attr -/
theorem self_attr {x : Addr} {mN mA : Str → Option Value} {self attr : Str} {p1 p2 : Pos} {D : Addr} {Q : Value → Shared → Prop} (G : GC h₀ C mN) (old : ∀ b o, h₀.get? b = some o → s.heap.get? b = some o)
    (Fr : Fe env xs gs) (hn : s.heap.Ns env.locals m) (hx : self ∈ xs) (hv : m self = some (.ref x)) (hd : (self == ("__debug__" : Str)) = false) (I : s.heap.Inst x C mA) (hA : mA attr = some (.ref D)) (hno : mN attr = none) (hob : typeLookup (.type "object") attr = pure none)
    (he : eval (.Attribute (.Name self p1) attr p2) env = (do
      let o ← eval (.Name self p1) env
      standAt p2.atName
      let r ← holding [o] (getAttr o attr true)
      letTemporaryGo (.Name self p1) o r
      pure r))
    (h : Q (.ref D) { s with toks := s.toks + 1 }) : wpAny (model prog w) A (eval (.Attribute (.Name self p1) attr p2) env) Q E s :=
  Attribute_any_ (lname Fr hn hx hv hd (gload (v := .ref D) (C := C) G old I hno hob hA (by rfl) h)) he

/-- self.attr[k] = self.meth() -/
theorem sub_fac {l : Nat} {x D : Addr} {mN mA : Str → Option Value} {self attr name kx : Str} {p1 p2 p3 p4 p5 p6 p7 p8 : Pos} {k : Int} {t : Tok} {kvs : List (Int × Value)} {Q : Flow → Shared → Prop} (G : GC h₀ C mN) (K : Fac h₀ mN name) (a : AOk (l + 1) A) (old : ∀ b o, h₀.get? b = some o → s.heap.get? b = some o)
    (Fr : Fe env xs gs) (hn : s.heap.Ns env.locals m) (hx : self ∈ xs) (hv : m self = some (.ref x)) (hd : (self == ("__debug__" : Str)) = false) (hkx : kx ∈ xs) (hkv : m kx = some (.int k t)) (hdk : (kx == ("__debug__" : Str)) = false)
    (I : s.heap.Inst x C mA) (hA : mA attr = some (.ref D)) (hno : mN attr = none) (hob : typeLookup (.type "object") attr = pure none) (hob' : typeLookup (.type "object") name = pure none) (hA' : mA name = none)
    (hD : s.heap.DictOf (intKind prog w) D kvs) (hz : kvs.length ≤ sizeLine)
    (hbase : attributeBase (.Name self p5) name env (eval (.Name self p5) env) = eval (.Name self p5) env) (hline : (p6.endLine == p7.line) = true)
    (hsw : swapsWith (.Call (.Attribute (.Name self p5) name p6) [] [] p7) (some (.Subscript (.Attribute (.Name self p1) attr p2) (.Name kx p3) p4)) p8.line env = pure false)
    (he : eval (.Attribute (.Name self p1) attr p2) env = (do
      let o ← eval (.Name self p1) env
      standAt p2.atName
      let r ← holding [o] (getAttr o attr true)
      letTemporaryGo (.Name self p1) o r
      pure r))
    (h : ∀ e s', Ext [D] s s' → s.heap.objs.size ≤ e → s'.heap.get? e = some emptyDict → s'.heap.DictOf (intKind prog w) D (stored kvs k (.ref e)) → Q .next s') :
    wpAny (model prog w) A (exec (.Assign [.Subscript (.Attribute (.Name self p1) attr p2) (.Name kx p3) p4] (.Call (.Attribute (.Name self p5) name p6) [] [] p7) p8) env) Q E s := by
  refine wpAny_Assign_Subscript (fac_call G K a old Fr hn hx hv hd I hob' hA' hbase hline fun e s₁ x₁ hes hed => ?_) hsw
  have kp : ∀ b o, s.heap.get? b = some o → s₁.heap.get? b = some o := fun b o q => x₁.keep b o (by simp) q
  have n₁ := hn.keeps kp
  have I₁ := I.keeps kp
  refine self_attr G (fun b o q => kp b o (old b o q)) Fr n₁ hx hv hd I₁ hA hno hob he ?_
  refine lname Fr n₁ hkx hkv hdk ?_
  have hDl : D < s.heap.objs.size := by obtain ⟨o, _, _, ho, _⟩ := hD; exact Heap.lt_size ho
  refine wpAny_setItem_pairs (knd := intKind prog w) (k := k) (kvs := kvs) (show Value.isInt k (.int k t) = true by simp [Value.isInt]) (hD.keep kp) (fun h' hm hs => ?_) hz
  have x₂ : Ext [D] s₁ { { s₁ with toks := s₁.toks + 1 } with heap := h', toks := s₁.toks + 1 + 1 } := (Ext.tok s₁ 1 |>.mono (by simp)).trans (Ext.sameBut (s := { s₁ with toks := s₁.toks + 1 }) (Nat.le_succ _) hs)
  refine h e _ ((x₁.mono (by simp)).trans x₂) hes (x₂.keep e _ (fun q => ?_) hed) hm
  rw [List.mem_singleton] at q
  exact Nat.lt_irrefl _ (Nat.lt_of_lt_of_le hDl (q ▸ hes))

/-- e[k], whatever e is -/
theorem sub_any {value : Expr} {x : Str} {p pos : Pos} {T id : String} {Q : Value → Shared → Prop}
    (hl : typeLookup (.type T) "__getitem__" = pure (some (.builtin id)))
    (h : wpAny (model prog w) A (eval value env) (fun o s₁ => wpAny (model prog w) A (eval (.Name x p) env) (fun i s₂ => s₂.TypeIs o T ∧ wpAny (model prog w) A (getItem o i) Q E s₂) E s₁) E s) :
    wpAny (model prog w) A (eval (.Subscript value (.Name x p) pos) env) Q E s := by
  rw [eval_Subscript]
  refine wpAny_bind (wpAny_mono h (fun o s₁ h₁ => wpAny_bind (wpAny_holding (wpAny_mono h₁ (fun i s₂ h₂ => wpAny_bind (wpAny_standAt ?_)) fun _ _ x => x))) fun _ _ x => x)
  refine wpAny_bind ?_
  rw [getitemInPython_of_ne h₂.1.not_modules]
  refine wpAny_bind (wpAny_specialOf h₂.1 hl ?_)
  have fin : wpAny (model prog w) A (operate [o, i] (getItem o i)) (fun r s₃ => wpAny (model prog w) A (letTemporaryGo value o r >>= fun _ => pure r) Q E s₃) E s₂ :=
    wpAny_operating (wpAny_mono h₂.2 (fun r s₃ h₃ => wpAny_bind (wpAny_letTemporaryGo (wpAny_pure h₃))) fun _ _ x => x)
  first
    | exact wpAny_pure (wpAny_bind fin)
    | exact wpAny_bind (wpAny_pure (wpAny_bind fin))
    | exact wpAny_bind fin

/-- self.attr[a] -/
theorem self_sub {x D ia : Addr} {mN mA : Str → Option Value} {self attr kx : Str} {p1 p2 p3 p4 : Pos} {k : Int} {t : Tok} {kvs : List (Int × Value)} {Q : Value → Shared → Prop} (G : GC h₀ C mN) (old : ∀ b o, h₀.get? b = some o → s.heap.get? b = some o)
    (Fr : Fe env xs gs) (hn : s.heap.Ns env.locals m) (hx : self ∈ xs) (hv : m self = some (.ref x)) (hd : (self == ("__debug__" : Str)) = false) (hkx : kx ∈ xs) (hkv : m kx = some (.int k t)) (hdk : (kx == ("__debug__" : Str)) = false)
    (I : s.heap.Inst x C mA) (hA : mA attr = some (.ref D)) (hno : mN attr = none) (hob : typeLookup (.type "object") attr = pure none) (hD : s.heap.DictOf (intKind prog w) D kvs) (hval : valueAt kvs k = some (.ref ia))
    (he : eval (.Attribute (.Name self p1) attr p2) env = (do
      let o ← eval (.Name self p1) env
      standAt p2.atName
      let r ← holding [o] (getAttr o attr true)
      letTemporaryGo (.Name self p1) o r
      pure r))
    (h : ∀ s', Ext [] s s' → Q (.ref ia) s') : wpAny (model prog w) A (eval (.Subscript (.Attribute (.Name self p1) attr p2) (.Name kx p3) p4) env) Q E s := by
  refine sub_any dict_getitem (self_attr G old Fr hn hx hv hd I hA hno hob he (lname Fr hn hkx hkv hdk ⟨hD.typeIs, ?_⟩))
  refine wpAny_getItem_of (knd := intKind prog w) (k := k) (f := valueAt kvs) (show Value.isInt k (.int k t) = true by simp [Value.isInt]) hD.mapOf hval ?_
  exact h _ (Ext.tok s 2)

/-- self.attr[a][b] = v -/
theorem put2 {x D ia : Addr} {mN mA : Str → Option Value} {self attr kx bx vx : Str} {p1 p2 p3 p4 p5 p6 p7 p8 : Pos} {k b : Int} {t u : Tok} {v : Value} {kvs kvi : List (Int × Value)} {Q : Flow → Shared → Prop} (G : GC h₀ C mN) (old : ∀ b o, h₀.get? b = some o → s.heap.get? b = some o)
    (Fr : Fe env xs gs) (hn : s.heap.Ns env.locals m) (hx : self ∈ xs) (hv : m self = some (.ref x)) (hd : (self == ("__debug__" : Str)) = false) (hkx : kx ∈ xs) (hkv : m kx = some (.int k t)) (hdk : (kx == ("__debug__" : Str)) = false)
    (hbx : bx ∈ xs) (hbv : m bx = some (.int b u)) (hdb : (bx == ("__debug__" : Str)) = false) (hvx : vx ∈ xs) (hvv : m vx = some v) (hdv : (vx == ("__debug__" : Str)) = false)
    (I : s.heap.Inst x C mA) (hA : mA attr = some (.ref D)) (hno : mN attr = none) (hob : typeLookup (.type "object") attr = pure none) (hD : s.heap.DictOf (intKind prog w) D kvs) (hval : valueAt kvs k = some (.ref ia)) (hI : s.heap.DictOf (intKind prog w) ia kvi) (hz : kvi.length ≤ sizeLine)
    (hsw : swapsWith (.Name vx p8) (some (.Subscript (.Subscript (.Attribute (.Name self p1) attr p2) (.Name kx p3) p4) (.Name bx p5) p6)) p7.line env = pure false)
    (he : eval (.Attribute (.Name self p1) attr p2) env = (do
      let o ← eval (.Name self p1) env
      standAt p2.atName
      let r ← holding [o] (getAttr o attr true)
      letTemporaryGo (.Name self p1) o r
      pure r))
    (h : ∀ s', Ext [ia] s s' → s'.heap.DictOf (intKind prog w) ia (stored kvi b v) → Q .next s') :
    wpAny (model prog w) A (exec (.Assign [.Subscript (.Subscript (.Attribute (.Name self p1) attr p2) (.Name kx p3) p4) (.Name bx p5) p6] (.Name vx p8) p7) env) Q E s := by
  refine wpAny_Assign_Subscript (lname Fr hn hvx hvv hdv (self_sub G old Fr hn hx hv hd hkx hkv hdk I hA hno hob hD hval he fun s₁ x₁ => ?_)) hsw
  have kp : ∀ b o, s.heap.get? b = some o → s₁.heap.get? b = some o := fun b o q => x₁.keep b o (by simp) q
  refine lname Fr (hn.keeps kp) hbx hbv hdb ?_
  refine wpAny_setItem_pairs (knd := intKind prog w) (k := b) (kvs := kvi) (show Value.isInt b (.int b u) = true by simp [Value.isInt]) (hI.keep kp) (fun h' hm hs => ?_) hz
  exact h _ ((x₁.mono (by simp)).trans (Ext.sameBut (Nat.le_succ _) hs)) hm

/-- if k not in self.attr -/
theorem if_notin {x D : Addr} {mN mA : Str → Option Value} {self attr kx : Str} {p1 p2 p3 p4 p5 : Pos} {k : Int} {t : Tok} {kvs : List (Int × Value)} {body orelse : List Stmt} {Q : Flow → Shared → Prop} (G : GC h₀ C mN) (old : ∀ b o, h₀.get? b = some o → s.heap.get? b = some o)
    (Fr : Fe env xs gs) (hn : s.heap.Ns env.locals m) (hx : self ∈ xs) (hv : m self = some (.ref x)) (hd : (self == ("__debug__" : Str)) = false) (hkx : kx ∈ xs) (hkv : m kx = some (.int k t)) (hdk : (kx == ("__debug__" : Str)) = false)
    (I : s.heap.Inst x C mA) (hA : mA attr = some (.ref D)) (hno : mN attr = none) (hob : typeLookup (.type "object") attr = pure none) (hD : s.heap.DictOf (intKind prog w) D kvs) (lo : (D == sysModules) = false)
    (he : eval (.Attribute (.Name self p1) attr p2) env = (do
      let o ← eval (.Name self p1) env
      standAt p2.atName
      let r ← holding [o] (getAttr o attr true)
      letTemporaryGo (.Name self p1) o r
      pure r))
    (hbm : behindInMarks .NotIn (.Attribute (.Name self p1) attr p2) = false)
    (h : ∀ s', Ext [] s s' → if (valueAt kvs k).isSome then wpAny (model prog w) A (execs orelse env) Q E s' else wpAny (model prog w) A (execs body env) Q E s') :
    wpAny (model prog w) A (exec (.If (.Compare (.Name kx p3) [.NotIn] [.Attribute (.Name self p1) attr p2] p4) body orelse p5) env) Q E s := by
  refine wpAny_If (wpAny_isTrue_Compare1 (lname Fr hn hkx hkv hdk (self_attr G old Fr hn hx hv hd I hA hno hob he ?_)) hbm)
  refine wpAny_notIn_of (knd := intKind prog w) (k := k) (f := valueAt kvs) (show Value.isInt k (.int k t) = true by simp [Value.isInt]) lo hD.mapOf (wpAny_truthy_bool ?_)
  have := h _ (Ext.tok s 2)
  cases hs : (valueAt kvs k).isSome with
  | true => rw [hs] at this; simpa using this
  | false => rw [hs] at this; simpa using this
end
end Mine

-- part V68
namespace Mine
open PySem PySem.W PyProof.Rows

section
variable {prog : Program} {w : World} {C : Addr} {h₀ : Heap} {A : Around} {E : Value → Shared → Prop} {s : Shared} {env : Env} {xs gs : List Str} {m : Str → Option Value}

/-- x, y = a, b -/
theorem asg2 {x y a b : Str} {p1 p2 p3 p4 tp vp p : Pos} {k k2 : Nat} {va vb : Value} {Q : Flow → Shared → Prop} (hh : A.handled = none) (Fr : Fe env xs gs) (hn : s.heap.Ns env.locals m) (hx : x ∈ xs) (hy : y ∈ xs) (ha : a ∈ xs) (hb : b ∈ xs) (hva : m a = some va) (hvb : m b = some vb)
    (hda : (a == ("__debug__" : Str)) = false) (hdb : (b == ("__debug__" : Str)) = false)
    (h1 : swapsWithSole [.Tuple [.Name x p1, .Name y p2] k tp] (.Tuple [.Name a p3, .Name b p4] k2 vp) p.line env = pure false) (h2 : swappedStores [.Tuple [.Name x p1, .Name y p2] k tp] (.Tuple [.Name a p3, .Name b p4] k2 vp) env = pure (some [x, y]))
    (h3 : backTo vp (starEach [.Name a p3, .Name b p4] env) = [(false, eval (.Name a p3) env), (false, eval (.Name b p4) env)])
    (h : ∀ s', Ext [env.locals] s s' → s'.heap.Ns env.locals (fun z => if z = x then some va else if z = y then some vb else m z) → Q .next s') :
    wpAny (model prog w) A (exec (.Assign [.Tuple [.Name x p1, .Name y p2] k tp] (.Tuple [.Name a p3, .Name b p4] k2 vp) p) env) Q E s := by
  refine Assign_Tuple_swapped (names := [x, y]) (wpAny_Tuple ?_) h1 h2
  rw [h3]
  refine Calls.spliced_cons (lname Fr hn ha hva hda (Calls.spliced_cons (lname Fr hn hb hvb hdb (Calls.spliced_nil ⟨show (2 : Nat) ≤ sizeLine by decide, ?_⟩))))
  refine grown (wpAny_unpackItems_tuple (items := #[va, vb]) hh ⟨_, Heap.get?_push_size _ rfl, rfl, _, rfl⟩ fun h' hx' ht hz => ?_)
  have x₁ : Ext [] s { s with heap := h' } := by
    refine Ext.mk' (Nat.le_refl _) ?_ fun c o _ q => hx' c o ?_ (Heap.get?_push_of_some _ q)
    · exact Nat.le_trans (by rw [Heap.size_push]; exact Nat.le_succ _) hz
    · show c ≠ (s.heap.push _).objs.size
      rw [Heap.size_push]; exact Nat.ne_of_lt (Nat.lt_succ_of_lt (Heap.lt_size q))
  have n₁ := hn.keeps fun c o q => x₁.keep c o (by simp) q
  show wpAny _ _ (assignInOrder [bindName env y, bindName env x] [vb, va]) _ _ _
  refine wpAny_bind (wpAny_holding (wpAny_bindName (lstore Fr n₁ hy fun s₂ x₂ n₂ => ?_)))
  refine wpAny_bind (wpAny_holding (wpAny_bindName (lstore Fr n₂ hx fun s₃ x₃ n₃ => wpAny_pure ?_)))
  exact h s₃ ((x₁.mono (by simp)).trans (x₂.trans x₃)) n₃

/-- x = self.attr[k].get(j, self.meth()), where j is new -/
theorem get_new {l : Nat} {x D ia : Addr} {mN mA : Str → Option Value} {self attr name kx jx dx : Str} {p1 p2 p3 p4 p5 p6 p7 p8 p9 pa pb pc : Pos} {k j : Int} {t u : Tok} {kvs kvi : List (Int × Value)} {Q : Flow → Shared → Prop} (G : GC h₀ C mN) (K : Fac h₀ mN name) (a : AOk (l + 1) A) (old : ∀ b o, h₀.get? b = some o → s.heap.get? b = some o)
    (Fr : Fe env xs gs) (hn : s.heap.Ns env.locals m) (hx : self ∈ xs) (hv : m self = some (.ref x)) (hd : (self == ("__debug__" : Str)) = false) (hkx : kx ∈ xs) (hkv : m kx = some (.int k t)) (hdk : (kx == ("__debug__" : Str)) = false)
    (hjx : jx ∈ xs) (hjv : m jx = some (.int j u)) (hdj : (jx == ("__debug__" : Str)) = false) (hdx : dx ∈ xs)
    (I : s.heap.Inst x C mA) (hA : mA attr = some (.ref D)) (hno : mN attr = none) (hob : typeLookup (.type "object") attr = pure none) (hob' : typeLookup (.type "object") name = pure none) (hA' : mA name = none)
    (hD : s.heap.DictOf (intKind prog w) D kvs) (hval : valueAt kvs k = some (.ref ia)) (hI : s.heap.DictOf (intKind prog w) ia kvi) (hnew : valueAt kvi j = none) (lo : (ia == sysModules) = false)
    (hbase : attributeBase (.Name self p6) name env (eval (.Name self p6) env) = eval (.Name self p6) env) (hline : (p7.endLine == p8.line) = true)
    (hbase2 : attributeBase (.Subscript (.Attribute (.Name self p1) attr p2) (.Name kx p3) p4) "get" env (eval (.Subscript (.Attribute (.Name self p1) attr p2) (.Name kx p3) p4) env) = eval (.Subscript (.Attribute (.Name self p1) attr p2) (.Name kx p3) p4) env) (hline2 : (p5.endLine == pa.line) = true)
    (htr : backTo pa (starEach [.Name jx p9, .Call (.Attribute (.Name self p6) name p7) [] [] p8] env) = [(false, eval (.Name jx p9) env), (false, eval (.Call (.Attribute (.Name self p6) name p7) [] [] p8) env)])
    (he : eval (.Attribute (.Name self p1) attr p2) env = (do
      let o ← eval (.Name self p1) env
      standAt p2.atName
      let r ← holding [o] (getAttr o attr true)
      letTemporaryGo (.Name self p1) o r
      pure r))
    (hsw : swapsWith (.Call (.Attribute (.Subscript (.Attribute (.Name self p1) attr p2) (.Name kx p3) p4) "get" p5) [.Name jx p9, .Call (.Attribute (.Name self p6) name p7) [] [] p8] [] pa) (some (.Name dx pc)) pb.line env = pure false)
    (h : ∀ e s', Ext [env.locals] s s' → s.heap.objs.size ≤ e → s'.heap.get? e = some emptyDict → s'.heap.Ns env.locals (fun y => if y = dx then some (.ref e) else m y) → Q .next s') :
    wpAny (model prog w) A (exec (.Assign [.Name dx pc] (.Call (.Attribute (.Subscript (.Attribute (.Name self p1) attr p2) (.Name kx p3) p4) "get" p5) [.Name jx p9, .Call (.Attribute (.Name self p6) name p7) [] [] p8] [] pa) pb) env) Q E s := by
  refine wpAny_Assign_Name (Call_meth2 hbase2 hline2 htr (self_sub G old Fr hn hx hv hd hkx hkv hdk I hA hno hob hD hval he fun s₁ x₁ pl => ?_)) hsw
  have kp : ∀ b o, s.heap.get? b = some o → s₁.heap.get? b = some o := fun b o q => x₁.keep b o (by simp) q
  have hI₁ : s₁.heap.DictOf (intKind prog w) ia kvi := hI.keep kp
  have n₁ := hn.keeps kp
  refine getMethod_builtin (T := "dict") (id := "dict.get") hI₁.typeIs PySem.F.plainAttrs_dict PySem.F.slot_dict_get PySem.F.type_dict_get hI₁.mapOf.noDict ?_
  refine wpAny_dict_get2 (knd := intKind prog w) lo (lname Fr n₁ hjx hjv hdj (fac_call G K a (fun b o q => kp b o (old b o q)) Fr n₁ hx hv hd (I.keeps kp) hob' hA' hbase hline fun e s₂ x₂ hes hed => ?_))
  have kp₂ : ∀ b o, s₁.heap.get? b = some o → s₂.heap.get? b = some o := fun b o q => x₂.keep b o (by simp) q
  refine ⟨j, valueAt kvi, show Value.isInt j (.int j u) = true by simp [Value.isInt], (hI₁.keep kp₂).mapOf, ?_⟩
  rw [hnew]
  show wpAny _ _ (storeName env dx (.ref e)) _ _ _
  refine lstore (s := { s₂ with toks := s₂.toks + 1 }) Fr (n₁.keeps kp₂) hdx fun s₃ x₃ n₃ => ?_
  have hll : env.locals < s.heap.objs.size := hn.lt
  have hse : s.heap.objs.size ≤ e := Nat.le_trans x₁.size hes
  refine h e s₃ ((((x₁.trans x₂).trans (Ext.tok s₂ 1)).mono (by simp)).trans x₃) hse (x₃.keep e _ (fun q => ?_) hed) n₃
  rw [List.mem_singleton] at q
  exact Nat.lt_irrefl _ (Nat.lt_of_lt_of_le hll (q ▸ hse))

/-- x.update(y), both empty -/
theorem upd_stmt {dx ax : Str} {p1 p2 p3 p4 p5 : Pos} {e ad : Addr} {Q : Flow → Shared → Prop} (Fr : Fe env xs gs) (hn : s.heap.Ns env.locals m) (hdx : dx ∈ xs) (hax : ax ∈ xs) (hdv : m dx = some (.ref e)) (hav : m ax = some (.ref ad)) (hd1 : (dx == ("__debug__" : Str)) = false) (hd2 : (ax == ("__debug__" : Str)) = false)
    (he : s.heap.DictOf (intKind prog w) e []) (ha : s.heap.DictOf (intKind prog w) ad []) (hne : e ≠ ad) (lo : (ad == sysModules) = false)
    (hsw : swapsWith (.Call (.Attribute (.Name dx p1) "update" p2) [.Name ax p3] [] p4) none p5.line env = pure false) (hbase : attributeBase (.Name dx p1) "update" env (eval (.Name dx p1) env) = eval (.Name dx p1) env) (hline : (p2.endLine == p4.line) = true)
    (htr : backTo p4 (starEach [.Name ax p3] env) = [(false, eval (.Name ax p3) env)])
    (h : ∀ s', Ext [e] s s' → s'.heap.DictOf (intKind prog w) e [] → Q .next s') : wpAny (model prog w) A (exec (.Expr (.Call (.Attribute (.Name dx p1) "update" p2) [.Name ax p3] [] p4) p5) env) Q E s := by
  refine expr_none Fr hsw (Call_meth1 hbase hline htr (lname Fr hn hdx hdv hd1 fun pl => ?_))
  refine getMethod_builtin (T := "dict") (id := "dict.update") he.typeIs PySem.F.plainAttrs_dict PySem.F.slot_dict_update PySem.F.type_dict_update he.mapOf.noDict ?_
  refine Calls.callWith_builtin rfl (Calls.evalArgs_plain (Calls.spliced_cons (lname Fr hn hax hav hd2 (Calls.spliced_nil ?_))))
  exact update_empty hne lo he ha fun s' x' q => ⟨rfl, h s' x' q⟩
end
end Mine

-- part V69
namespace Mine
open PySem PySem.W PyProof.Rows

theorem Ext.via {X Y : List Addr} {s s₁ s₂ : Shared} (a : Ext X s s₁) (b : Ext Y s₁ s₂) (h : ∀ c ∈ Y, c ∈ X ∨ s.heap.objs.size ≤ c) : Ext X s s₂ :=
  ⟨b.gens.trans a.gens, b.drawn.trans a.drawn, b.os.trans a.os, Nat.le_trans a.toks b.toks, fun c o hc e => b.keep c o (fun q => by
    rcases h c q with z | z
    · exact hc z
    · exact Nat.lt_irrefl _ (Nat.lt_of_lt_of_le (Heap.lt_size e) z)) (a.keep c o hc e), Nat.le_trans a.size b.size⟩

/-- a step of the graph x: only its own things are turned, and what is new is new -/
structure GStep (s s' : Shared) (x d gg gn ga : Addr) (as ls as' ls' : List Addr) : Prop where
  ext : Ext (rl x d gg gn ga as ls) s s'
  fresh : ∀ c ∈ rl x d gg gn ga as' ls', c ∈ rl x d gg gn ga as ls ∨ s.heap.objs.size ≤ c
theorem GStep.refl (s : Shared) (x d gg gn ga : Addr) (as ls : List Addr) : GStep s s x d gg gn ga as ls as ls := ⟨Ext.refl _ _, fun _ h => .inl h⟩
theorem GStep.trans {s s₁ s₂ : Shared} {x d gg gn ga : Addr} {as ls as' ls' as'' ls'' : List Addr} (a : GStep s s₁ x d gg gn ga as ls as' ls') (b : GStep s₁ s₂ x d gg gn ga as' ls' as'' ls'') : GStep s s₂ x d gg gn ga as ls as'' ls'' :=
  ⟨a.ext.via b.ext a.fresh, fun c hc => by
    rcases b.fresh c hc with q | q
    · exact a.fresh c q
    · exact .inr (Nat.le_trans a.ext.size q)⟩
theorem GStep.pre {s s₁ s₂ : Shared} {x d gg gn ga : Addr} {as ls as' ls' : List Addr} (a : Ext [] s s₁) (b : GStep s₁ s₂ x d gg gn ga as ls as' ls') : GStep s s₂ x d gg gn ga as ls as' ls' :=
  ⟨(a.mono (by simp)).trans b.ext, fun c hc => (b.fresh c hc).imp id fun q => Nat.le_trans a.size q⟩
theorem GStep.post {s s₁ s₂ : Shared} {x d gg gn ga : Addr} {as ls as' ls' : List Addr} (a : GStep s s₁ x d gg gn ga as ls as' ls') (b : Ext [] s₁ s₂) : GStep s s₂ x d gg gn ga as ls as' ls' :=
  ⟨a.ext.trans (b.mono (by simp)), a.fresh⟩

theorem keysG_get {g : Gr} {a : Int} (h : a ∈ keysG g) : ∃ (i : Nat) (nb : List Int), g[i]? = some (a, nb) := by
  obtain ⟨i, hi⟩ := List.mem_iff_getElem?.mp h
  unfold keysG at hi
  rw [List.getElem?_map] at hi
  cases e : g[i]? with
  | none => rw [e] at hi; cases hi
  | some p =>
    rw [e] at hi
    have : p.1 = a := by simpa using hi
    exact ⟨i, p.2, by rw [e, ← this]⟩

section
variable {prog : Program} {w : World} {C : Addr} {h₀ : Heap} {A : Around} {E : Value → Shared → Prop} {s : Shared} {env : Env} {xs gs : List Str} {m : Str → Option Value}

theorem valueAt_zip_at : ∀ {ks : List Int} {vs : List Value} {i : Nat} {k : Int} {v : Value}, ks.Nodup → ks[i]? = some k → vs[i]? = some v → valueAt (ks.zip vs) k = some v
  | [], _, _, _, _, _, h, _ => by simp at h
  | _ :: _, [], _, _, _, _, _, h => by simp at h
  | a :: ks, b :: vs, 0, k, v, _, h1, h2 => by
    simp only [List.length_cons, List.getElem?_cons_zero, Option.some.injEq] at h1 h2
    simp [valueAt, h1, h2]
  | a :: ks, b :: vs, i + 1, k, v, hn, h1, h2 => by
    simp only [List.getElem?_cons_succ] at h1 h2
    have hne : a ≠ k := fun e => (List.nodup_cons.mp hn).1 (e ▸ List.mem_of_getElem? h1)
    have := valueAt_zip_at (List.nodup_cons.mp hn).2 h1 h2
    unfold valueAt at this ⊢
    rw [List.zip_cons_cons, List.find?_cons_of_neg (by simpa using hne)]
    exact this

/-- the neighbours of a, on the heap -/
theorem GAt.nbrs {h : Heap} {x d gg gn ga : Addr} {as ls : List Addr} {g : Gr} (H : GAt prog w C h x d gg gn ga as ls g) {i : Nat} {a : Int} {nb : List Int} (hi : g[i]? = some (a, nb)) :
    ∃ ia vs, as[i]? = some ia ∧ valueAt ((keysG g).zip (as.map Value.ref)) a = some (.ref ia) ∧ h.DictOf (intKind prog w) ia (nb.zip vs) ∧ vs.length = nb.length ∧ ∀ v ∈ vs, ∃ e ∈ ls, v = .ref e := by
  have hl : i < as.length := by rw [H.len]; exact (List.getElem?_eq_some_iff.mp hi).1
  have hia : as[i]? = some as[i] := List.getElem?_eq_getElem hl
  obtain ⟨vs, h1, h2, h3⟩ := H.inner i _ _ hi hia
  refine ⟨as[i], vs, hia, valueAt_zip_at (i := i) H.keysNd ?_ ?_, h1, h2, h3⟩
  · unfold keysG; rw [List.getElem?_map, hi]; rfl
  · rw [List.getElem?_map, hia]; rfl
theorem GAt.nodeAt {h : Heap} {x d gg gn ga : Addr} {as ls : List Addr} {g : Gr} (H : GAt prog w C h x d gg gn ga as ls g) : ∃ kvs, h.DictOf (intKind prog w) gn kvs ∧ kvs.length = g.length ∧ ∀ k, (valueAt kvs k).isSome = decide (k ∈ keysG g) := by
  obtain ⟨vs, h1, h2, _⟩ := H.nodes
  have hkl : (keysG g).length = vs.length := by simp [keysG, h2]
  refine ⟨_, h1, by rw [List.length_zip, hkl, h2]; exact Nat.min_self _, fun k => ?_⟩
  by_cases hk : k ∈ keysG g
  · obtain ⟨i, v, _, _, h3⟩ := valueAt_zip_some hkl hk
    rw [h3]; simp [hk]
  · rw [valueAt_zip_none hk]; simp [hk]
end
end Mine

-- part V70
namespace Mine
open PySem PySem.W PyProof.Rows

theorem nkEq {k : NameKind} : (some k == some k : Bool) = true := by cases k <;> rfl
theorem swap_ok {env : Env} {xs gs : List Str} {x y a b : Str} {p1 p2 p3 p4 tp vp : Pos} {k k2 : Nat} (Fr : Fe env xs gs) (hx : x ∈ xs) (hy : y ∈ xs) (hne : (x == y) = false) (hl : (p2.line == p1.line) = true) (hda : (a == ("__debug__" : Str)) = false) :
    swappedStores [.Tuple [.Name x p1, .Name y p2] k tp] (.Tuple [.Name a p3, .Name b p4] k2 vp) env = pure (some [x, y]) := by
  have hb : env.blockKind = .function := by unfold Env.blockKind; rw [Fr.fn]; rfl
  have hne' : (y == x) = false := by
    cases h : (y == x) with
    | false => rfl
    | true => rw [eq_of_beq h] at hne; simp at hne
  unfold swappedStores
  rw [hb]
  have e1 := Fr.loc x hx
  have e2 := Fr.loc y hy
  simp only [List.filterMap_cons, e1, e2, List.head?_cons, Option.map_some, Option.getD_some, Expr.pos, Bool.true_and, beq_self_eq_true, if_true, hl, List.filterMap_nil]
  have hd : ([x, y].eraseDups).length = 2 := by
    rw [List.eraseDups_cons]
    simp [hne', List.eraseDups_cons]
  simp [hd, foldedForSure, constantsAlone]
  intro e; simp [e] at hda

theorem roots_rl {x d gg gn ga c : Addr} {as ls : List Addr} (h : c ∈ x :: d :: gg :: gn :: ga :: as) : c ∈ rl x d gg gn ga as ls := by
  simp only [rl, List.mem_cons, List.mem_append] at h ⊢
  rcases h with h | h | h | h | h | h <;> simp [h]
theorem oldK {h₀ : Heap} {R : List Addr} {s s' : Shared} (y : Ext R s s') (hb : ∀ c ∈ R, h₀.get? c = none) (old : ∀ b o, h₀.get? b = some o → s.heap.get? b = some o) : ∀ b o, h₀.get? b = some o → s'.heap.get? b = some o :=
  fun b o e => y.keep b o (fun q => by rw [hb b q] at e; cases e) (old b o e)
theorem addN_keys {g : Gr} {a b : Int} (h : b ∈ keysG g) : b ∈ keysG (addN g a) := by
  unfold addN
  split
  · exact h
  · simp [keysG] at h ⊢; exact .inl h
theorem addN_has (g : Gr) (a : Int) : a ∈ keysG (addN g a) := by
  unfold addN
  split
  · assumption
  · simp [keysG]
theorem addN_nb {g : Gr} {a b k : Int} (h : ∀ nb, (k, nb) ∈ g → b ∉ nb) : ∀ nb, (k, nb) ∈ addN g a → b ∉ nb := by
  intro nb hm
  unfold addN at hm
  split at hm
  · exact h nb hm
  · rcases List.mem_append.mp hm with q | q
    · exact h nb q
    · rw [List.mem_singleton] at q; cases q; simp
theorem addH_row {g : Gr} {a b k : Int} {nb : List Int} (hk : k ≠ a) (h : (k, nb) ∈ addH g a b) : (k, nb) ∈ g := by
  unfold addH at h
  obtain ⟨p, hp, e⟩ := List.mem_map.mp h
  split at e
  · rename_i z
    have : k = p.1 := by simpa using (congrArg Prod.fst e).symm
    exact absurd (this.trans z) hk
  · rw [← e]; exact hp
/-- no row longer than n -/
def rowsLe (g : Gr) (n : Nat) : Prop := g.length ≤ n ∧ ∀ p ∈ g, p.2.length ≤ n

theorem rowsLe.addN {g : Gr} {n : Nat} {a : Int} (h : rowsLe g n) : ∀ p ∈ Mine.addN g a, p.2.length ≤ n := by
  intro p hp
  unfold Mine.addN at hp
  split at hp
  · exact h.2 p hp
  · rcases List.mem_append.mp hp with q | q
    · exact h.2 p q
    · rw [List.mem_singleton] at q; rw [q]; exact Nat.zero_le _
theorem rowsLe.addH {g : Gr} {n : Nat} {a b : Int} (h : ∀ p ∈ g, p.2.length ≤ n) : ∀ p ∈ Mine.addH g a b, p.2.length ≤ n + 1 := by
  intro p hp
  unfold Mine.addH at hp
  obtain ⟨r, hr, e⟩ := List.mem_map.mp hp
  have := h r hr
  split at e
  · rw [← e]; simp only [List.length_append, List.length_singleton]; omega
  · rw [← e]; omega

section
variable {prog : Program} {w : World} {C : Addr} {h₀ : Heap} {A : Around} {E : Value → Shared → Prop} {s : Shared} {env : Env} {xs gs : List Str} {m : Str → Option Value}

theorem GAt.live {h : Heap} {x d gg gn ga : Addr} {as ls : List Addr} {g : Gr} (H : GAt prog w C h x d gg gn ga as ls g) : ∀ c ∈ rl x d gg gn ga as ls, c < h.objs.size := by
  intro c hc
  simp only [rl, List.mem_cons, List.mem_append] at hc
  have dl : ∀ {K : Type} [DecidableEq K] {knd : KeyKind prog w K} {a : Addr} {kvs : List (K × Value)}, h.DictOf knd a kvs → a < h.objs.size := fun hd => by obtain ⟨o, _, _, ho, _⟩ := hd; exact Heap.lt_size ho
  rcases hc with rfl | rfl | rfl | rfl | rfl | hc | hc
  · obtain ⟨o, ho, _⟩ := H.inst; exact Heap.lt_size ho
  · obtain ⟨o, _, _, _, _, h5⟩ := H.inst; exact h5.lt
  · obtain ⟨_, h1, _⟩ := H.gr; exact dl h1
  · obtain ⟨_, h1, _⟩ := H.nodes; exact dl h1
  · exact dl H.adj
  · obtain ⟨i, hi⟩ := List.mem_iff_getElem?.mp hc
    have hl : i < g.length := by rw [← H.len]; exact (List.getElem?_eq_some_iff.mp hi).1
    obtain ⟨_, h1, _⟩ := H.inner i _ c (List.getElem?_eq_getElem hl) hi
    exact dl h1
  · exact dl (H.leaf c hc)

abbrev edgeXs : List Str := ["self", "u_of_edge", "v_of_edge", "attr", "u", "v", "datadict"]

/-- x.add_edge(a, b): b is there, a may be new, the edge is new -/
theorem add_edge_ok {l : Nat} {x d gg gn ga f : Addr} {fd : FuncData} {as ls : List Addr} {g : Gr} {mN : Str → Option Value} {lo : Nat} {a b : Int} {ta tb : Tok} {Q : Value → Shared → Prop} (G : GC h₀ C mN) (K1 : Fac h₀ mN "adjlist_inner_dict_factory") (K2 : Fac h₀ mN "node_attr_dict_factory") (K3 : Fac h₀ mN "edge_attr_dict_factory")
    (D : FnAt h₀ f fd (mtB 20)) (hb : ∀ vs : List Value, vs.length = 3 → Kw (bindArgs fd ⟨vs, []⟩) (([Str.ofString "self", Str.ofString "u_of_edge", Str.ofString "v_of_edge"] : List Str).zip vs) "attr") (hfe : FeB fd.scope edgeXs [])
    (aok : AOk (l + 2) A) (old : ∀ b o, h₀.get? b = some o → s.heap.get? b = some o) (hsz : 1 < s.heap.objs.size) (H : GAt prog w C s.heap x d gg gn ga as ls g) (hlo : ∀ c ∈ rl x d gg gn ga as ls, lo ≤ c) (h1 : 1 < lo) (hbase : ∀ c ∈ rl x d gg gn ga as ls, h₀.get? c = none)
    (hbk : b ∈ keysG g) (hab : a ≠ b) (hn1 : ∀ nb, (a, nb) ∈ g → b ∉ nb) (hn2 : ∀ nb, (b, nb) ∈ g → a ∉ nb) (hz : rowsLe g 999)
    (h : ∀ s' as' ls', GStep s s' x d gg gn ga as ls as' ls' → GAt prog w C s'.heap x d gg gn ga as' ls' (addE g a b) → Q .none s') : wpAny (model prog w) A (call (.ref f) [.ref x, .int a ta, .int b tb]) Q E s := by
  refine metK_call (ps := [Str.ofString "self", Str.ofString "u_of_edge", Str.ofString "v_of_edge"]) (k := "attr") D (fun vs e => hb vs e) hfe (by simp) (by simp) aok old rfl fun env s₁ ad Fr a₁ x₁ hL hae hne had n₁ => ⟨fun fl s' => fl = .next ∧ Q .none s', fun E' => ?_, fun fl s' q => by obtain ⟨rfl, q⟩ := q; exact q⟩
  have live := H.live
  have nloc : ∀ {c : Addr}, c ∈ rl x d gg gn ga as ls → c ≠ env.locals := fun hc q => Nat.lt_irrefl _ (Nat.lt_of_lt_of_le (live _ hc) (q ▸ hL))
  have sys := gnlo hlo h1
  -- the rest, once a is there
  have hrest : ∀ (m₃ : Str → Option Value) s₃ as₃ ls₃, Ext (rl x d gg gn ga as ls) s s₃ → (∀ c ∈ rl x d gg gn ga as₃ ls₃, c ∈ rl x d gg gn ga as ls ∨ s.heap.objs.size ≤ c) → (∀ c ∈ rl x d gg gn ga as₃ ls₃, c ≠ env.locals ∧ c ≠ ad) → s₃.heap.get? ad = some emptyDict → s₃.heap.Ns env.locals m₃ → m₃ "self" = some (.ref x) → m₃ "attr" = some (.ref ad) → m₃ "u" = some (.int a ta) → m₃ "v" = some (.int b tb) →
      GAt prog w C s₃.heap x d gg gn ga as₃ ls₃ (addN g a) → wpAny (model prog w) (A.deeper env) (execs ((mtB 20).drop 2) env) (fun fl s' => fl = .next ∧ Q .none s') E' s₃ := by
    intro m₃ s₃ as₃ ls₃ y₃ hf₃ hc₃ had₃ n₃ ms ma mu mv H₃
    have gt1 : ∀ c ∈ rl x d gg gn ga as₃ ls₃, 1 < c := fun c hc => by
      rcases hf₃ c hc with q | q
      · exact Nat.lt_of_lt_of_le h1 (hlo c q)
      · exact Nat.lt_of_lt_of_le hsz q
    have sys₃ : ∀ {c : Addr}, c ∈ rl x d gg gn ga as₃ ls₃ → (c == sysModules) = false := fun hc => no_sys (gt1 _ hc)
    have had1 : 1 < ad := Nat.lt_of_lt_of_le hsz hae
    have hsl : (1000 : Nat) ≤ sizeLine := by decide
    obtain ⟨kvs, hk1, hk2, hk3⟩ := H₃.nodeAt
    refine wpAny_execs_cons (if_notin (x := x) (k := b) (t := tb) G (oldK y₃ hbase old) Fr n₃ (by simp) ms (by decide +kernel) (by simp) mv (by decide +kernel) H₃.ofInst (by rfl) (G.no _ (by simp)) (by kernel_rfl) hk1 (sys₃ (by simp [rl])) (by rfl) (by rfl) fun s₄ x₄ => ?_)
    rw [hk3, decide_eq_true (addN_keys (a := a) hbk), if_pos rfl]
    refine wpAny_execs_nil ?_
    have y₄ := y₃.trans (x₄.mono (Y := rl x d gg gn ga as ls) (by simp))
    have H₄ := H₃.keep (h' := s₄.heap) fun c hc o e => x₄.keep c o (by simp) e
    have n₄ := n₃.keeps fun c o e => x₄.keep c o (by simp) e
    obtain ⟨i, nb, hi⟩ := keysG_get (addN_has g a)
    obtain ⟨ia, vs, hia, hva, hda, hvl, hvs⟩ := H₄.nbrs hi
    have hnb : b ∉ nb := addN_nb hn1 nb (List.mem_of_getElem? hi)
    have hial : ia ∈ rl x d gg gn ga as₃ ls₃ := by simp [rl, List.mem_of_getElem? hia]
    refine wpAny_execs_cons (get_new (l := l) (x := x) (k := a) (t := ta) (j := b) (u := tb) G K3 a₁ (oldK y₄ hbase old) Fr n₄ (by simp) ms (by decide +kernel) (by simp) mu (by decide +kernel) (by simp) mv (by decide +kernel) (by simp) H₄.ofInst (by rfl) (G.no _ (by simp)) (by kernel_rfl) (by kernel_rfl) (by rfl) H₄.adj hva hda (valueAt_zip_none hnb) (sys₃ hial) (by rfl) (by rfl) (by rfl) (by rfl) (by rfl) (by rfl) (by rfl) fun e s₅ x₅ hes hed n₅ => ?_)
    have y₅ := y₄.via x₅ fun c hc => .inr (by rw [List.mem_singleton.mp hc]; exact hL)
    have hse : s.heap.objs.size ≤ e := Nat.le_trans y₄.size hes
    have live₄ := H₄.live
    have hed' : ∀ {c : Addr}, c < s₄.heap.objs.size → c ≠ e := fun hc q => Nat.lt_irrefl _ (Nat.lt_of_lt_of_le (q ▸ hc) hes)
    have had₄ : s₄.heap.get? ad = some emptyDict := x₄.keep _ _ (by simp) had₃
    have had₅ : s₅.heap.get? ad = some emptyDict := x₅.keep _ _ (fun q => hne (List.mem_singleton.mp q).symm) had₄
    have H₅ : GAt prog w C s₅.heap x d gg gn ga as₃ (ls₃ ++ [e]) (addN g a) := (H₄.keep (h' := s₅.heap) fun c hc o e => x₅.keep c o (fun q => (hc₃ c hc).1 (by simpa using q)) e).leafMore (empty_obj hed) fun q => hed' (live₄ e (roots_rl q)) rfl
    refine wpAny_execs_cons (upd_stmt (prog := prog) (w := w) (e := e) (ad := ad) Fr n₅ (by simp) (by simp) (by rfl) (by rw [if_neg (by decide +kernel)]; exact ma) (by decide +kernel) (by decide +kernel) (empty_obj hed) (empty_obj had₅) (hed' (Heap.lt_size had₄)).symm (no_sys had1) (by rfl) (by rfl) (by rfl) (by rfl) fun s₆ x₆ hde₆ => ?_)
    have y₆ := y₅.via x₆ fun c hc => .inr (by rw [List.mem_singleton.mp hc]; exact hse)
    have hel : e ≠ env.locals := fun q => Nat.lt_irrefl _ (Nat.lt_of_lt_of_le (q ▸ n₄.lt) hes)
    have n₆ := n₅.at fun o z => x₆.keep _ o (fun q => hel (List.mem_singleton.mp q).symm) z
    have H₅' := H₄.keep (h' := s₆.heap) fun c hc o z => x₆.keep c o (fun q => hed' (live₄ c hc) (List.mem_singleton.mp q)) (x₅.keep c o (fun q => (hc₃ c hc).1 (by simpa using q)) z)
    have H₆ : GAt prog w C s₆.heap x d gg gn ga as₃ (ls₃ ++ [e]) (addN g a) := H₅'.leafMore hde₆ fun q => hed' (live₄ e (roots_rl q)) rfl
    have hel₆ : e ∈ ls₃ ++ [e] := by simp
    have rows₁ := hz.addN (a := a)
    obtain ⟨ia', vs', hia', hva', hda', hvl', hvs'⟩ := H₆.nbrs hi
    have m6 : ∀ {y : Str} {v : Value}, m₃ y = some v → (y == ("datadict" : Str)) = false → (if y = ("datadict" : Str) then some (Value.ref e) else m₃ y) = some v := fun h1 h2 => by
      rw [if_neg (fun q => by rw [q] at h2; simp at h2)]; exact h1
    refine wpAny_execs_cons (put2 (x := x) (k := a) (t := ta) (b := b) (u := tb) (v := .ref e) G (oldK y₆ hbase old) Fr n₆ (by simp) (m6 ms (by decide +kernel)) (by decide +kernel) (by simp) (m6 mu (by decide +kernel)) (by decide +kernel) (by simp) (m6 mv (by decide +kernel)) (by decide +kernel) (by simp) (by rfl) (by decide +kernel)
      H₆.ofInst (by rfl) (G.no _ (by simp)) (by kernel_rfl) H₆.adj hva' hda' (by rw [List.length_zip]; have : nb.length ≤ 999 := rows₁ _ (List.mem_of_getElem? hi); omega) (by rfl) (by rfl) fun s₇ x₇ hd₇ => ?_)
    have H₇ := H₆.half (h' := s₇.heap) hi hia' hnb (fun c o hc z => x₇.keep c o (by simpa using hc) z) hvl' hvs' hd₇ hel₆
    have nia : ia' ≠ env.locals := (hc₃ ia' (by simp [rl, List.mem_of_getElem? hia'])).1
    have n₇ := n₆.at fun o z => x₇.keep _ o (fun q => nia (List.mem_singleton.mp q).symm) z
    have hf₆ : ∀ c ∈ rl x d gg gn ga as₃ (ls₃ ++ [e]), c ∈ rl x d gg gn ga as ls ∨ s.heap.objs.size ≤ c := fun c hc => by
      simp only [rl, List.mem_cons, List.mem_append, List.not_mem_nil, or_false] at hc
      have : c ∈ rl x d gg gn ga as₃ ls₃ ∨ c = e := by
        simp only [rl, List.mem_cons, List.mem_append]
        rcases hc with hc | hc | hc | hc | hc | hc | hc | hc <;> simp [hc]
      rcases this with q | rfl
      · exact hf₃ c q
      · exact .inr hse
    have y₇ := y₆.via x₇ fun c hc => hf₆ c (by rw [List.mem_singleton.mp hc]; simp [rl, List.mem_of_getElem? hia'])
    have hbk₇ : b ∈ keysG (addH (addN g a) a b) := by rw [keysG_addH]; exact addN_keys hbk
    obtain ⟨j, nb₂, hj⟩ := keysG_get hbk₇
    obtain ⟨ib, vs₂, hib, hvb, hdb, hvl₂, hvs₂⟩ := H₇.nbrs hj
    have hnb₂ : a ∉ nb₂ := addN_nb hn2 nb₂ (addH_row (Ne.symm hab) (List.mem_of_getElem? hj))
    refine wpAny_execs_cons (put2 (x := x) (k := b) (t := tb) (b := a) (u := ta) (v := .ref e) G (oldK y₇ hbase old) Fr n₇ (by simp) (m6 ms (by decide +kernel)) (by decide +kernel) (by simp) (m6 mv (by decide +kernel)) (by decide +kernel) (by simp) (m6 mu (by decide +kernel)) (by decide +kernel) (by simp) (by rfl) (by decide +kernel)
      H₇.ofInst (by rfl) (G.no _ (by simp)) (by kernel_rfl) H₇.adj hvb hdb (by rw [List.length_zip]; have : nb₂.length ≤ 999 + 1 := rowsLe.addH (a := a) (b := b) rows₁ _ (List.mem_of_getElem? hj); omega) (by rfl) (by rfl) fun s₈ x₈ hd₈ => ?_)
    have H₈ := H₇.half (h' := s₈.heap) hj hib hnb₂ (fun c o hc z => x₈.keep c o (by simpa using hc) z) hvl₂ hvs₂ hd₈ hel₆
    have y₈ := y₇.via x₈ fun c hc => hf₆ c (by rw [List.mem_singleton.mp hc]; simp [rl, List.mem_of_getElem? hib])
    exact wpAny_execs_nil ⟨rfl, h s₈ as₃ (ls₃ ++ [e]) ⟨y₈, hf₆⟩ H₈⟩
  refine wpAny_execs_cons (asg2 a₁.handled Fr n₁ (by simp) (by simp) (by simp) (by simp) (by rfl) (by rfl) (by decide +kernel) (by decide +kernel) (by rfl) (swap_ok Fr (by simp) (by simp) (by decide +kernel) (by rfl) (by decide +kernel)) (by rfl) fun s₂ x₂ n₂ => ?_)
  have y₂ : Ext (rl x d gg gn ga as ls) s s₂ := ((x₁.mono (by simp)).trans (X := env.locals :: rl x d gg gn ga as ls) (x₂.mono (by simp))).drop (N := [env.locals]) fun c hc => by rw [List.mem_singleton.mp hc]; exact hL
  have H₂ := H.keep (h' := s₂.heap) fun c hc o e => x₂.keep c o (fun q => nloc hc (by simpa using q)) (x₁.keep c o (by simp) e)
  obtain ⟨kvs, hk1, hk2, hk3⟩ := H₂.nodeAt
  refine wpAny_execs_cons (if_notin (x := x) (k := a) (t := ta) G (oldK y₂ hbase old) Fr n₂ (by simp) (by rfl) (by decide +kernel) (by simp) (by rfl) (by decide +kernel) H₂.ofInst (by rfl) (G.no _ (by simp)) (by kernel_rfl) hk1 sys.1 (by rfl) (by rfl) fun s₃ x₃ => ?_)
  rw [hk3]
  have y₃ := y₂.trans (x₃.mono (Y := rl x d gg gn ga as ls) (by simp))
  have H₃ := H₂.keep (h' := s₃.heap) fun c hc o e => x₃.keep c o (by simp) e
  have n₃ := n₂.keeps fun c o e => x₃.keep c o (by simp) e
  have hade : ad ≠ env.locals := hne.symm
  have had₃ : s₃.heap.get? ad = some emptyDict := x₃.keep _ _ (by simp) (x₂.keep _ _ (fun q => hade (List.mem_singleton.mp q)) had)
  have nad : ∀ {c : Addr}, c ∈ rl x d gg gn ga as ls → c ≠ ad := fun hc q => Nat.lt_irrefl _ (Nat.lt_of_lt_of_le (live _ hc) (q ▸ hae))
  by_cases hak : a ∈ keysG g
  · rw [if_pos (by simpa using hak)]
    refine wpAny_execs_nil ?_
    refine hrest _ s₃ as ls y₃ (fun c hc => .inl hc) (fun c hc => ⟨nloc hc, nad hc⟩) had₃ n₃ (by rfl) (by rfl) (by rfl) (by rfl) ?_
    unfold addN; rw [if_pos hak]; exact H₃
  · rw [if_neg (by simpa using hak)]
    refine wpAny_execs_cons (wpAny_If (wpAny_isTrue_Compare1 (lname (v := .int a ta) Fr n₃ (by simp) (by rfl) (by decide +kernel) (wpAny_Constant_none (is_none_ne (by simp) (wpAny_truthy_bool ?_)))) (by rfl)))
    rw [if_neg Bool.false_ne_true]
    refine wpAny_execs_nil ?_
    have hkz : ((keysG g).zip (as.map Value.ref)).length ≤ sizeLine := by
      have : (1000 : Nat) ≤ sizeLine := by decide
      rw [List.length_zip]; have := hz.1; simp only [keysG, List.length_map]; omega
    refine wpAny_execs_cons (sub_fac (l := l) (x := x) (k := a) (t := ta) G K1 a₁ (oldK y₃ hbase old) Fr n₃ (by simp) (by rfl) (by decide +kernel) (by simp) (by rfl) (by decide +kernel) H₃.ofInst (by rfl) (G.no _ (by simp)) (by kernel_rfl) (by kernel_rfl) (by rfl) H₃.adj hkz (by rfl) (by rfl) (by rfl) (by rfl) fun e1 s₄ x₄ he1 hd1 ha₄ => ?_)
    have y₄ := y₃.via x₄ fun c hc => .inl (by rw [List.mem_singleton.mp hc]; simp [rl])
    have nga : ga ≠ env.locals := nloc (by simp [rl])
    have ngn : gn ≠ env.locals := nloc (by simp [rl])
    have n₄ := n₃.at fun o e => x₄.keep _ o (fun q => nga (List.mem_singleton.mp q).symm) e
    obtain ⟨vsn, hvn, hvnl, hvnr⟩ := H₃.nodes
    have hngn : gn ≠ ga := by have := H₃.nd; simp only [List.nodup_cons, List.mem_cons, not_or] at this; exact this.2.2.2.1.1
    have hxx : x ≠ ga ∧ d ≠ ga := by have := H₃.nd; simp only [List.nodup_cons, List.mem_cons, not_or] at this; exact ⟨this.1.2.2.2.1, this.2.1.2.2.1⟩
    have I₄ : s₄.heap.Inst x C (gmA gg gn ga) := by
      obtain ⟨o, q1, q2, q3, q4, q5⟩ := H₃.inst
      have hdx : d ≠ x := by have := H₃.nd; simp only [List.nodup_cons, List.mem_cons, not_or] at this; exact Ne.symm this.1.1
      exact ⟨o, x₄.keep _ o (fun q => hxx.1 (List.mem_singleton.mp q)) q1, q2, q3, .inr ⟨d, q4, hdx, q5.at fun o e => x₄.keep _ o (fun q => hxx.2 (List.mem_singleton.mp q)) e⟩⟩
    have hvn₄ : s₄.heap.DictOf (intKind prog w) gn ((keysG g).zip vsn) := hvn.at fun o e => x₄.keep _ o (fun q => hngn (List.mem_singleton.mp q)) e
    refine wpAny_execs_cons (sub_fac (l := l) (x := x) (k := a) (t := ta) G K2 a₁ (oldK y₄ hbase old) Fr n₄ (by simp) (by rfl) (by decide +kernel) (by simp) (by rfl) (by decide +kernel) I₄ (by rfl) (G.no _ (by simp)) (by kernel_rfl) (by kernel_rfl) (by rfl) hvn₄ (by
      have : (1000 : Nat) ≤ sizeLine := by decide
      rw [List.length_zip]; have := hz.1; simp only [keysG, List.length_map]; omega) (by rfl) (by rfl) (by rfl) (by rfl) fun e2 s₅ x₅ he2 hd2 hn₅ => ?_)
    have y₅ := y₄.via x₅ fun c hc => .inl (by rw [List.mem_singleton.mp hc]; simp [rl])
    have n₅ := n₄.at fun o e => x₅.keep _ o (fun q => ngn (List.mem_singleton.mp q).symm) e
    have l3 : s.heap.objs.size ≤ e1 := Nat.le_trans y₃.size he1
    have l4 : s.heap.objs.size ≤ e2 := Nat.le_trans y₄.size he2
    have he12 : e1 ≠ e2 := fun q => Nat.lt_irrefl _ (Nat.lt_of_lt_of_le (q ▸ Heap.lt_size hd1) he2)
    have fr : ∀ {e : Addr}, s.heap.objs.size ≤ e → e ∉ rl x d gg gn ga as ls := fun hl q => Nat.lt_irrefl _ (Nat.lt_of_lt_of_le (live _ q) hl)
    have e1gn : e1 ≠ gn := fun q => fr l3 (by rw [q]; simp [rl])
    have had₅ : s₅.heap.get? ad = some emptyDict := x₅.keep _ _ (fun q => nad (by simp [rl]) (List.mem_singleton.mp q).symm) (x₄.keep _ _ (fun q => nad (by simp [rl]) (List.mem_singleton.mp q).symm) had₃)
    refine wpAny_execs_nil (hrest _ s₅ (as ++ [e1]) (ls ++ [e2]) y₅ ?_ ?_ had₅ n₅ (by rfl) (by rfl) (by rfl) (by rfl) ?_)
    · intro c hc
      simp only [rl, List.mem_cons, List.mem_append, List.not_mem_nil, or_false] at hc ⊢
      rcases hc with hc | hc | hc | hc | hc | (hc | hc) | hc | hc <;> (try simp [hc])
      · exact .inr l3
      · exact .inr l4
    · intro c hc
      have hll : env.locals < s₃.heap.objs.size := n₃.lt
      have hal : ad < s₃.heap.objs.size := Heap.lt_size had₃
      have : c ∈ rl x d gg gn ga as ls ∨ s₃.heap.objs.size ≤ c := by
        simp only [rl, List.mem_cons, List.mem_append, List.not_mem_nil, or_false] at hc ⊢
        rcases hc with hc | hc | hc | hc | hc | (hc | hc) | hc | hc <;> (try simp [hc])
        · exact .inr he1
        · exact .inr (Nat.le_trans x₄.size he2)
      rcases this with q | q
      · exact ⟨nloc q, nad q⟩
      · exact ⟨fun z => Nat.lt_irrefl _ (Nat.lt_of_lt_of_le hll (z ▸ q)), fun z => Nat.lt_irrefl _ (Nat.lt_of_lt_of_le hal (z ▸ q))⟩
    · unfold addN
      rw [if_neg hak]
      refine H₃.newNode hak (fun c _ o h1 h2 e => x₅.keep c o (by simpa using h1) (x₄.keep c o (by simpa using h2) e)) hvnl hvnr hn₅ (ha₄.at fun o e => x₅.keep _ o (fun q => hngn (List.mem_singleton.mp q).symm) e) (x₅.keep _ _ (by simpa using e1gn) hd1) hd2 he12 (fr l3) (fr l4)
end
end Mine

-- part V71
namespace Mine
open PySem PySem.W PyProof.Rows

section
variable {prog : Program} {w : World} {C : Addr} {h₀ : Heap} {A : Around} {E : Value → Shared → Prop} {s : Shared} {env : Env} {xs gs : List Str} {m : Str → Option Value}

theorem GAt.leafSame {h h' : Heap} {x d gg gn ga e : Addr} {as ls : List Addr} {g : Gr} (H : GAt prog w C h x d gg gn ga as ls g) (he : e ∈ ls) (k : ∀ b o, b ≠ e → h.get? b = some o → h'.get? b = some o) (hd : h'.DictOf (intKind prog w) e []) : GAt prog w C h' x d gg gn ga as ls g := by
  have hlf := H.lf e he
  simp only [List.mem_cons, not_or] at hlf
  obtain ⟨q1, q2, q3, q4, q5, q6⟩ := hlf
  refine ⟨?_, ?_, ?_, H.adj.at fun o z => k ga o (Ne.symm q5) z, H.len, ?_, ?_, H.nd, H.lf⟩
  · obtain ⟨o, h1, h2, h3, h4, h5⟩ := H.inst
    exact ⟨o, k x o (Ne.symm q1) h1, h2, h3, h4, h5.at fun o z => k d o (Ne.symm q2) z⟩
  · obtain ⟨kvs, h1, h2⟩ := H.gr
    exact ⟨kvs, h1.at fun o z => k gg o (Ne.symm q3) z, h2⟩
  · obtain ⟨vs, h1, h2, h3⟩ := H.nodes
    exact ⟨vs, h1.at fun o z => k gn o (Ne.symm q4) z, h2, h3⟩
  · intro i p a h1 h2
    obtain ⟨vs, h3, h4, h5⟩ := H.inner i p a h1 h2
    exact ⟨vs, h3.at fun o z => k a o (fun r => q6 (r ▸ List.mem_of_getElem? h2)) z, h4, h5⟩
  · intro c hc
    by_cases hce : c = e
    · rw [hce]; exact hd
    · exact (H.leaf c hc).at fun o z => k c o hce z

/-- y = self.attr[k] = self.meth() -/
theorem sub_fac2 {l : Nat} {x D : Addr} {mN mA : Str → Option Value} {self attr name kx dx : Str} {p0 p1 p2 p3 p4 p5 p6 p7 p8 : Pos} {k : Int} {t : Tok} {kvs : List (Int × Value)} {Q : Flow → Shared → Prop} (G : GC h₀ C mN) (K : Fac h₀ mN name) (a : AOk (l + 1) A) (old : ∀ b o, h₀.get? b = some o → s.heap.get? b = some o)
    (Fr : Fe env xs gs) (hn : s.heap.Ns env.locals m) (hx : self ∈ xs) (hv : m self = some (.ref x)) (hd : (self == ("__debug__" : Str)) = false) (hkx : kx ∈ xs) (hkv : m kx = some (.int k t)) (hdk : (kx == ("__debug__" : Str)) = false) (hdx : dx ∈ xs) (hs1 : (self == dx) = false) (hs2 : (kx == dx) = false)
    (I : s.heap.Inst x C mA) (hA : mA attr = some (.ref D)) (hno : mN attr = none) (hob : typeLookup (.type "object") attr = pure none) (hob' : typeLookup (.type "object") name = pure none) (hA' : mA name = none)
    (hD : s.heap.DictOf (intKind prog w) D kvs) (hz : kvs.length ≤ sizeLine) (hDl : D ≠ env.locals) (hIx : ∀ s', Ext [env.locals] s s' → s'.heap.Inst x C mA) (hbl : h₀.get? env.locals = none)
    (hbase : attributeBase (.Name self p5) name env (eval (.Name self p5) env) = eval (.Name self p5) env) (hline : (p6.endLine == p7.line) = true)
    (hea : ((assignEach [.Name dx p0, .Subscript (.Attribute (.Name self p1) attr p2) (.Name kx p3) p4] env).map (·.2)) = [assign (.Name dx p0) env, assign (.Subscript (.Attribute (.Name self p1) attr p2) (.Name kx p3) p4) env])
    (hss : swappedStores [.Name dx p0, .Subscript (.Attribute (.Name self p1) attr p2) (.Name kx p3) p4] (.Call (.Attribute (.Name self p5) name p6) [] [] p7) env = pure none)
    (he : eval (.Attribute (.Name self p1) attr p2) env = (do
      let o ← eval (.Name self p1) env
      standAt p2.atName
      let r ← holding [o] (getAttr o attr true)
      letTemporaryGo (.Name self p1) o r
      pure r))
    (h : ∀ e s', Ext [env.locals, D] s s' → s.heap.objs.size ≤ e → s'.heap.get? e = some emptyDict → s'.heap.DictOf (intKind prog w) D (stored kvs k (.ref e)) → s'.heap.Ns env.locals (fun y => if y = dx then some (.ref e) else m y) → Q .next s') :
    wpAny (model prog w) A (exec (.Assign [.Name dx p0, .Subscript (.Attribute (.Name self p1) attr p2) (.Name kx p3) p4] (.Call (.Attribute (.Name self p5) name p6) [] [] p7) p8) env) Q E s := by
  refine wpAny_Assign_two (fac_call G K a old Fr hn hx hv hd I hob' hA' hbase hline fun e s₁ x₁ hes hed => wpAny_assign_Name (lstore Fr (hn.keeps fun b o q => x₁.keep b o (by simp) q) hdx fun s₂ x₂ n₂ => ?_)) hea hss
  have x₁₂ : Ext [env.locals] s s₂ := (x₁.mono (by simp)).trans x₂
  have ml : ∀ {y : Str} {v : Value}, m y = some v → (y == dx) = false → (if y = dx then some (Value.ref e) else m y) = some v := fun h1 h2 => by
    rw [if_neg (fun q => by rw [q] at h2; simp at h2)]; exact h1
  have old₂ : ∀ b o, h₀.get? b = some o → s₂.heap.get? b = some o := fun b o q => x₁₂.keep b o (fun z => by rw [List.mem_singleton.mp z, hbl] at q; cases q) (old b o q)
  refine kas_sub (self_attr G old₂ Fr n₂ hx (ml hv hs1) hd (hIx s₂ x₁₂) hA hno hob he ?_)
  refine lname Fr n₂ hkx (ml hkv hs2) hdk ?_
  have hDs : D < s.heap.objs.size := by obtain ⟨o, _, _, ho, _⟩ := hD; exact Heap.lt_size ho
  refine wpAny_setItem_pairs (knd := intKind prog w) (k := k) (kvs := kvs) (show Value.isInt k (.int k t) = true by simp [Value.isInt]) (hD.at fun o q => x₁₂.keep D o (by simpa using hDl) q) (fun h' hm hs => ?_) hz
  have x₃ : Ext [D] s₂ { { s₂ with toks := s₂.toks + 1 } with heap := h', toks := s₂.toks + 1 + 1 } := (Ext.tok s₂ 1 |>.mono (by simp)).trans (Ext.sameBut (s := { s₂ with toks := s₂.toks + 1 }) (Nat.le_succ _) hs)
  have hel : e ≠ env.locals := fun q => Nat.lt_irrefl _ (Nat.lt_of_lt_of_le (q ▸ hn.lt) hes)
  have heD : e ≠ D := fun q => Nat.lt_irrefl _ (Nat.lt_of_lt_of_le (q ▸ hDs) hes)
  refine h e _ ((x₁₂.mono (by simp)).trans (x₃.mono (by simp))) hes (x₃.keep e _ (by simpa using heD) (x₂.keep e _ (by simpa using hel) hed)) hm (n₂.at fun o q => x₃.keep _ o (by simpa using Ne.symm hDl) q)
end
end Mine

-- part V72
namespace Mine
open PySem PySem.W PyProof.Rows

section
variable {prog : Program} {w : World} {C : Addr} {h₀ : Heap} {A : Around} {E : Value → Shared → Prop} {s : Shared} {env : Env} {xs gs : List Str} {m : Str → Option Value}

abbrev nodeXs : List Str := ["self", "node_for_adding", "attr", "attr_dict"]

/-- x.add_node(a) -/
theorem add_node_ok {l : Nat} {x d gg gn ga f : Addr} {fd : FuncData} {as ls : List Addr} {g : Gr} {mN : Str → Option Value} {lo : Nat} {a : Int} {ta : Tok} {Q : Value → Shared → Prop} (G : GC h₀ C mN) (K1 : Fac h₀ mN "adjlist_inner_dict_factory") (K2 : Fac h₀ mN "node_attr_dict_factory")
    (D : FnAt h₀ f fd (mtB 12)) (hb : ∀ vs : List Value, vs.length = 2 → Kw (bindArgs fd ⟨vs, []⟩) (([Str.ofString "self", Str.ofString "node_for_adding"] : List Str).zip vs) "attr") (hfe : FeB fd.scope nodeXs [])
    (aok : AOk (l + 2) A) (old : ∀ b o, h₀.get? b = some o → s.heap.get? b = some o) (hsz : 1 < s.heap.objs.size) (H : GAt prog w C s.heap x d gg gn ga as ls g) (hlo : ∀ c ∈ rl x d gg gn ga as ls, lo ≤ c) (h1 : 1 < lo) (hbase : ∀ c ∈ rl x d gg gn ga as ls, h₀.get? c = none) (hz : g.length ≤ 999)
    (h : ∀ s' as' ls', GStep s s' x d gg gn ga as ls as' ls' → GAt prog w C s'.heap x d gg gn ga as' ls' (addN g a) → Q .none s') : wpAny (model prog w) A (call (.ref f) [.ref x, .int a ta]) Q E s := by
  refine metK_call (ps := [Str.ofString "self", Str.ofString "node_for_adding"]) (k := "attr") D (fun vs e => hb vs e) hfe (by simp) (by simp) aok old rfl fun env s₁ ad Fr a₁ x₁ hL hae hne had n₁ => ⟨fun fl s' => fl = .next ∧ Q .none s', fun E' => ?_, fun fl s' q => by obtain ⟨rfl, q⟩ := q; exact q⟩
  have live := H.live
  have nloc : ∀ {c : Addr}, c ∈ rl x d gg gn ga as ls → c ≠ env.locals := fun hc q => Nat.lt_irrefl _ (Nat.lt_of_lt_of_le (live _ hc) (q ▸ hL))
  have nad : ∀ {c : Addr}, c ∈ rl x d gg gn ga as ls → c ≠ ad := fun hc q => Nat.lt_irrefl _ (Nat.lt_of_lt_of_le (live _ hc) (q ▸ hae))
  have sys := gnlo hlo h1
  have had1 : 1 < ad := Nat.lt_of_lt_of_le hsz hae
  have y₁ : Ext (rl x d gg gn ga as ls) s s₁ := x₁.mono (by simp)
  have H₁ := H.keep (h' := s₁.heap) fun c hc o e => x₁.keep c o (by simp) e
  obtain ⟨vsn, hvn, hvnl, hvnr⟩ := H₁.nodes
  have hkl : (keysG g).length = vsn.length := by simp [keysG, hvnl]
  have hsl : (1000 : Nat) ≤ sizeLine := by decide
  refine wpAny_execs_cons (if_notin (x := x) (k := a) (t := ta) G (oldK y₁ hbase old) Fr n₁ (by simp) (by rfl) (by decide +kernel) (by simp) (by rfl) (by decide +kernel) H₁.ofInst (by rfl) (G.no _ (by simp)) (by kernel_rfl) hvn sys.1 (by rfl) (by rfl) fun s₃ x₃ => ?_)
  have y₃ := y₁.trans (x₃.mono (Y := rl x d gg gn ga as ls) (by simp))
  have H₃ := H₁.keep (h' := s₃.heap) fun c hc o e => x₃.keep c o (by simp) e
  have n₃ := n₁.keeps fun c o e => x₃.keep c o (by simp) e
  have had₃ : s₃.heap.get? ad = some emptyDict := x₃.keep _ _ (by simp) had
  have hvn₃ : s₃.heap.DictOf (intKind prog w) gn ((keysG g).zip vsn) := hvn.at fun o e => x₃.keep _ o (by simp) e
  by_cases hak : a ∈ keysG g
  · obtain ⟨i, v, _, hvi, hva⟩ := valueAt_zip_some hkl hak
    obtain ⟨e, hel, rfl⟩ := hvnr v (List.mem_of_getElem? hvi)
    rw [hva]
    rw [if_pos (show (some (Value.ref e)).isSome = true from rfl)]
    have her : e ∈ rl x d gg gn ga as ls := by simp [rl, hel]
    refine wpAny_execs_cons (expr_none Fr (by rfl) (Call_meth1 (by rfl) (by rfl) (by rfl) (self_sub (x := x) (k := a) (t := ta) G (oldK y₃ hbase old) Fr n₃ (by simp) (by rfl) (by decide +kernel) (by simp) (by rfl) (by decide +kernel) H₃.ofInst (by rfl) (G.no _ (by simp)) (by kernel_rfl) hvn₃ hva (by rfl) fun s₄ x₄ pl => ?_)))
    have hde : s₄.heap.DictOf (intKind prog w) e [] := (H₃.leaf e hel).at fun o z => x₄.keep _ o (by simp) z
    refine getMethod_builtin (T := "dict") (id := "dict.update") hde.typeIs PySem.F.plainAttrs_dict PySem.F.slot_dict_update PySem.F.type_dict_update hde.mapOf.noDict ?_
    refine Calls.callWith_builtin rfl (Calls.evalArgs_plain (Calls.spliced_cons (lname (v := .ref ad) Fr (n₃.keeps fun c o e => x₄.keep c o (by simp) e) (by simp) (by rfl) (by decide +kernel) (Calls.spliced_nil ?_))))
    refine update_empty (nad her) (no_sys had1) hde (empty_obj (x₄.keep _ _ (by simp) had₃)) fun s₅ x₅ hde₅ => ⟨rfl, wpAny_execs_nil (wpAny_execs_nil ⟨rfl, h s₅ as ls ⟨(y₃.trans (x₄.mono (by simp))).via x₅ fun c hc => .inl (by rw [List.mem_singleton.mp hc]; exact her), fun c hc => .inl hc⟩ ?_⟩)⟩
    unfold addN
    rw [if_pos hak]
    exact (H₃.keep (h' := s₄.heap) fun c hc o e => x₄.keep c o (by simp) e).leafSame hel (fun c o hc z => x₅.keep c o (by simpa using hc) z) hde₅
  · rw [valueAt_zip_none hak]
    rw [if_neg (show ¬ ((none : Option Value).isSome = true) from Bool.false_ne_true)]
    refine wpAny_execs_cons (wpAny_If (wpAny_isTrue_Compare1 (lname (v := .int a ta) Fr n₃ (by simp) (by rfl) (by decide +kernel) (wpAny_Constant_none (is_none_ne (by simp) (wpAny_truthy_bool ?_)))) (by rfl)))
    rw [if_neg Bool.false_ne_true]
    refine wpAny_execs_nil ?_
    have hkz : ((keysG g).zip (as.map Value.ref)).length ≤ sizeLine := by
      rw [List.length_zip]; simp only [keysG, List.length_map]; omega
    refine wpAny_execs_cons (sub_fac (l := l) (x := x) (k := a) (t := ta) G K1 a₁ (oldK y₃ hbase old) Fr n₃ (by simp) (by rfl) (by decide +kernel) (by simp) (by rfl) (by decide +kernel) H₃.ofInst (by rfl) (G.no _ (by simp)) (by kernel_rfl) (by kernel_rfl) (by rfl) H₃.adj hkz (by rfl) (by rfl) (by rfl) (by rfl) fun e1 s₄ x₄ he1 hd1 ha₄ => ?_)
    have y₄ := y₃.via x₄ fun c hc => .inl (by rw [List.mem_singleton.mp hc]; simp [rl])
    have nga : ga ≠ env.locals := nloc (by simp [rl])
    have ngn : gn ≠ env.locals := nloc (by simp [rl])
    have nx : x ≠ env.locals := nloc (by simp [rl])
    have nd : d ≠ env.locals := nloc (by simp [rl])
    have n₄ := n₃.at fun o e => x₄.keep _ o (fun q => nga (List.mem_singleton.mp q).symm) e
    have hnd := H₃.nd
    simp only [List.nodup_cons, List.mem_cons, not_or] at hnd
    have hngn : gn ≠ ga := hnd.2.2.2.1.1
    have hxga : x ≠ ga := hnd.1.2.2.2.1
    have hdga : d ≠ ga := hnd.2.1.2.2.1
    have hdx : d ≠ x := Ne.symm hnd.1.1
    have I₄ : ∀ s' : Shared, (∀ c o, c ≠ env.locals → s₄.heap.get? c = some o → s'.heap.get? c = some o) → s'.heap.Inst x C (gmA gg gn ga) := fun s' ks => by
      obtain ⟨o, q1, q2, q3, q4, q5⟩ := H₃.inst
      exact ⟨o, ks _ _ nx (x₄.keep _ o (fun q => hxga (List.mem_singleton.mp q)) q1), q2, q3, .inr ⟨d, q4, hdx, q5.at fun o e => ks _ _ nd (x₄.keep _ o (fun q => hdga (List.mem_singleton.mp q)) e)⟩⟩
    have hvn₄ : s₄.heap.DictOf (intKind prog w) gn ((keysG g).zip vsn) := hvn₃.at fun o e => x₄.keep _ o (fun q => hngn (List.mem_singleton.mp q)) e
    refine wpAny_execs_cons (sub_fac2 (l := l) (x := x) (k := a) (t := ta) G K2 a₁ (oldK y₄ hbase old) Fr n₄ (by simp) (by rfl) (by decide +kernel) (by simp) (by rfl) (by decide +kernel) (by simp) (by decide +kernel) (by decide +kernel) (I₄ s₄ fun c o _ e => e) (by rfl) (G.no _ (by simp)) (by kernel_rfl) (by kernel_rfl) (by rfl) hvn₄ (by
      rw [List.length_zip]; simp only [keysG, List.length_map]; omega) ngn (fun s' z => I₄ s' fun c o hc e => z.keep c o (by simpa using hc) e) (by
      cases q : h₀.get? env.locals with
      | none => rfl
      | some o => exact absurd (Heap.lt_size (old _ _ q)) (Nat.not_lt.mpr hL)) (by rfl) (by rfl) (by rfl) (by rfl) (by rfl) fun e2 s₅ x₅ he2 hd2 hn₅ n₅ => ?_)
    have y₅ := y₄.via x₅ fun c hc => by
      simp only [List.mem_cons, List.not_mem_nil, or_false] at hc
      rcases hc with rfl | rfl
      · exact .inr hL
      · exact .inl (by simp [rl])
    have l3 : s.heap.objs.size ≤ e1 := Nat.le_trans y₃.size he1
    have l4 : s.heap.objs.size ≤ e2 := Nat.le_trans y₄.size he2
    have he12 : e1 ≠ e2 := fun q => Nat.lt_irrefl _ (Nat.lt_of_lt_of_le (q ▸ Heap.lt_size hd1) he2)
    have fr : ∀ {e : Addr}, s.heap.objs.size ≤ e → e ∉ rl x d gg gn ga as ls := fun hl q => Nat.lt_irrefl _ (Nat.lt_of_lt_of_le (live _ q) hl)
    have e1gn : e1 ≠ gn := fun q => fr l3 (by rw [q]; simp [rl])
    have hll : env.locals < s₃.heap.objs.size := n₃.lt
    have e1l : e1 ≠ env.locals := fun q => Nat.lt_irrefl _ (Nat.lt_of_lt_of_le (q ▸ hll) he1)
    have had₄ : s₄.heap.get? ad = some emptyDict := x₄.keep _ _ (fun q => nad (by simp [rl]) (List.mem_singleton.mp q).symm) had₃
    have had₅ : s₅.heap.get? ad = some emptyDict := x₅.keep _ _ (by simp only [List.mem_cons, List.not_mem_nil, or_false, not_or]; exact ⟨hne.symm, fun q => nad (by simp [rl]) q.symm⟩) had₄
    have e2ad : e2 ≠ ad := fun q => Nat.lt_irrefl _ (Nat.lt_of_lt_of_le (q ▸ Heap.lt_size had₄) he2)
    have hd1₅ : s₅.heap.get? e1 = some emptyDict := x₅.keep _ _ (by simp only [List.mem_cons, List.not_mem_nil, or_false, not_or]; exact ⟨e1l, e1gn⟩) hd1
    have ga₅ : s₅.heap.DictOf (intKind prog w) ga (stored ((keysG g).zip (as.map Value.ref)) a (.ref e1)) := ha₄.at fun o e => x₅.keep _ o (by simp only [List.mem_cons, List.not_mem_nil, or_false, not_or]; exact ⟨nga, hngn.symm⟩) e
    have H₅ : GAt prog w C s₅.heap x d gg gn ga (as ++ [e1]) (ls ++ [e2]) (g ++ [(a, [])]) :=
      H₃.newNode hak (fun c hc o h1 h2 e => x₅.keep c o (by simp only [List.mem_cons, List.not_mem_nil, or_false, not_or]; exact ⟨nloc hc, h1⟩) (x₄.keep c o (by simpa using h2) e)) hvnl hvnr hn₅ ga₅ hd1₅ hd2 he12 (fr l3) (fr l4)
    refine wpAny_execs_cons (upd_stmt (prog := prog) (w := w) (e := e2) (ad := ad) Fr n₅ (by simp) (by simp) (by rfl) (by rfl) (by decide +kernel) (by decide +kernel) (empty_obj hd2) (empty_obj had₅) e2ad (no_sys had1) (by rfl) (by rfl) (by rfl) (by rfl) fun s₆ x₆ hde₆ => ?_)
    refine wpAny_execs_nil (wpAny_execs_nil ⟨rfl, h s₆ (as ++ [e1]) (ls ++ [e2]) ⟨y₅.via x₆ fun c hc => .inr (by rw [List.mem_singleton.mp hc]; exact l4), fun c hc => ?_⟩ ?_⟩)
    · simp only [rl, List.mem_cons, List.mem_append, List.not_mem_nil, or_false] at hc ⊢
      rcases hc with hc | hc | hc | hc | hc | (hc | hc) | hc | hc <;> (try simp [hc])
      · exact .inr l3
      · exact .inr l4
    · unfold addN
      rw [if_neg hak]
      exact H₅.leafSame (by simp) (fun c o hc z => x₆.keep c o (by simpa using hc) z) hde₆
end
end Mine

-- part V73
namespace Mine
open PySem PySem.W PyProof.Rows

section
variable {prog : Program} {w : World} {C : Addr} {h₀ : Heap} {A : Around} {E : Value → Shared → Prop} {s : Shared} {env : Env} {xs gs : List Str} {m : Str → Option Value}

/-- for x in (a list), the list and its iterator left alone -/
theorem for_list {x : Str} {px : Pos} {c : Addr} {vs : List Value} {body : List Stmt} {R : Result → Shared → Prop} (Fr : Fe env xs gs) (hx : x ∈ xs) (hh : A.handled = none) (hL : s.heap.IsList c vs.toArray) (hcl : c ≠ env.locals) (hll : env.locals < s.heap.objs.size)
    (h : ∀ it s₁, Ext [] s s₁ → s.heap.objs.size ≤ it → it < s₁.heap.objs.size → ∃ Inv : Nat → Shared → (Str → Option Value) → Prop, (∃ m, s₁.heap.Ns env.locals m ∧ Inv 0 s₁ m) ∧
      (∀ i v s₂ m, vs[i]? = some v → Inv i s₂ m → s₂.heap.Ns env.locals m → it < s₂.heap.objs.size → ∀ s₃, Ext [it, env.locals] s₂ s₃ → s₃.heap.Ns env.locals (fun y => if y = x then some v else m y) →
        ∀ E', wpAny (model prog w) A (execs body env) (fun f s₄ => f = .next ∧ (∀ o, s₃.heap.get? it = some o → s₄.heap.get? it = some o) ∧ (∀ o, s₃.heap.get? c = some o → s₄.heap.get? c = some o) ∧ ∃ m', s₄.heap.Ns env.locals m' ∧ Inv (i + 1) s₄ m') E' s₃) ∧
      (∀ s₂ m s₃, Inv vs.length s₂ m → s₂.heap.Ns env.locals m → it < s₂.heap.objs.size → Ext [it] s₂ s₃ → R (.ok .next) s₃)) :
    wpAny (model prog w) A (pyIter (.ref c)) (fun it s₂ => codeAny (model prog w) A (.forLoop (.Name x px) it body [] env) R s₂) E s := by
  refine wpAny_pyIter_list hL ?_
  have hcs : c < s.heap.objs.size := by obtain ⟨o, ho, _⟩ := hL; exact Heap.lt_size ho
  have x₁ : Ext [] s { s with heap := s.heap.push { cls := .type "list_iterator", data := .fields #[.ref c, .int 0 0] } } := Ext.push _ _
  obtain ⟨Inv, ⟨m₁, n₁, i₁⟩, hbody, hend⟩ := h s.heap.objs.size _ x₁ (Nat.le_refl _) (by show _ < (s.heap.push _).objs.size; rw [Heap.size_push]; exact Nat.lt_succ_self _)
  refine codeAny_forLoop_any (fun j s₂ => ∃ i m, j = vs.length + 1 - i ∧ i ≤ vs.length ∧ s₂.heap.IsListIter s.heap.objs.size c i ∧ s₂.heap.IsList c vs.toArray ∧ s₂.heap.Ns env.locals m ∧ Inv i s₂ m) ?_ (vs.length + 1)
    ⟨0, m₁, rfl, Nat.zero_le _, ⟨_, Heap.get?_push_size _ rfl, rfl, rfl⟩, hL.at fun o e => x₁.keep c o (by simp) e, n₁, i₁⟩
  rintro j s₂ ⟨i, m₂, rfl, hil, hit, hl, n₂, iv⟩
  have hitl : s.heap.objs.size < s₂.heap.objs.size := by obtain ⟨o, ho, _⟩ := hit; exact Heap.lt_size ho
  rcases Nat.lt_or_ge i vs.length with hlt | hge
  · have hx' : vs.toArray[i]? = some vs[i] := by simp [hlt]
    have hne : s.heap.objs.size ≠ env.locals := Nat.ne_of_gt hll
    refine grown (wpAny_pyNext_list_item hit hl hx' fun h' hit' hs ht hz => ?_)
    have x₂ : Ext [s.heap.objs.size] s₂ { s₂ with heap := h' } := Ext.sameBut (Nat.le_refl _) hs
    have hl' : h'.IsList c vs.toArray := hl.at fun o e => x₂.keep c o (by simpa using Nat.ne_of_lt hcs) e
    refine wpAny_pure (wpAny_assign_Name (lstore (s := { s₂ with heap := h' }) Fr (n₂.at fun o e => x₂.keep _ o (by simpa using hne.symm) e) hx fun s₃ x₃ n₃ => ?_))
    refine wpAny_mono (hbody i vs[i] s₂ m₂ (by simp [hlt]) iv n₂ hitl s₃ ((x₂.mono (by simp)).trans (x₃.mono (by simp))) n₃ _) (fun f s₄ q => ?_) fun _ _ e => e
    obtain ⟨rfl, k1, k2, m', n₄, iv'⟩ := q
    refine ⟨vs.length + 1 - (i + 1), by omega, i + 1, m', rfl, hlt, ?_, ?_, n₄, iv'⟩
    · exact hit'.at fun o e => k1 o (x₃.keep _ o (by simpa using hne) e)
    · exact hl'.at fun o e => k2 o (x₃.keep _ o (by simpa using hcl) e)
  · have hi : i = vs.length := Nat.le_antisymm hil hge
    subst hi
    refine grown (wpAny_pyNext_list_end hh hit hl (by simp) fun h' hs ht hz => ?_)
    refine wpAny_execs_nil (hend s₂ m₂ _ iv n₂ hitl (Ext.mk' (Nat.le_refl _) hz fun b o hb e => hs b o (by simpa using hb) e))
end
end Mine

-- part V74
namespace Mine
open PySem PySem.W PyProof.Rows

section
variable {prog : Program} {w : World} {C : Addr} {h₀ : Heap} {A : Around} {E : Value → Shared → Prop} {s : Shared} {env : Env} {xs gs : List Str} {m : Str → Option Value}

/-- x.is_directed() -/
theorem directed_ok {l : Nat} {x f : Addr} {fd : FuncData} {Q : Value → Shared → Prop} (D : FnAt h₀ f fd (mtB 34)) (hb : ∀ vs : List Value, vs.length = 1 → bindArgs fd ⟨vs, []⟩ = pure ([Str.ofString "self"].zip vs)) (hfe : FeB fd.scope ["self"] [])
    (a : AOk (l + 1) A) (old : ∀ b o, h₀.get? b = some o → s.heap.get? b = some o) (h : ∀ s', Ext [] s s' → Q (.bool false) s') : wpAny (model prog w) A (call (.ref f) [.ref x]) Q E s := by
  refine met_call (ps := [Str.ofString "self"]) (vs := [.ref x]) D (hb _ rfl) hfe (by simp) a old fun env s₁ Fr a₁ x₁ hL hns => ⟨fun fl s' => ∃ v, fl = .ret v ∧ Q v s', fun E' => ?_, fun fl s' q => by obtain ⟨v, rfl, q⟩ := q; exact q⟩
  exact wpAny_execs_cons (wpAny_Return_some (fun Γ p hΓ => ⟨_, rfl, h s₁ x₁⟩))

/-- nodes_or_number(0) -/
theorem non_ok {l : Nat} {f : Addr} {fd : FuncData} {t : Tok} {Q : Value → Shared → Prop} (B : Base h₀) (D : FnAt h₀ f fd (fnB 16)) (hb : ∀ vs : List Value, vs.length = 1 → bindArgs fd ⟨vs, []⟩ = pure ([Str.ofString "n"].zip vs)) (hfe : FeB fd.scope ["n"] ["isinstance", "int", "list", "range"])
    (a : AOk (l + 1) A) (old : ∀ b o, h₀.get? b = some o → s.heap.get? b = some o) (h : ∀ T c k s', Ext [] s s' → s.heap.objs.size ≤ c → s'.heap.get? c = some (listO [] k) → s'.heap.IsTuple T #[.int 0 t, .ref c] → Q (.ref T) s') : wpAny (model prog w) A (call (.ref f) [.int 0 t]) Q E s := by
  refine met_call (ps := [Str.ofString "n"]) (vs := [.int 0 t]) D (hb _ rfl) hfe (by simp) a old fun env s₁ Fr a₁ x₁ hL hns => ⟨fun fl s' => ∃ v, fl = .ret v ∧ Q v s', fun E' => ?_, fun fl s' q => by obtain ⟨v, rfl, q⟩ := q; exact q⟩
  have old₁ : ∀ b o, h₀.get? b = some o → s₁.heap.get? b = some o := fun b o e => x₁.keep b o (by simp) (old b o e)
  refine wpAny_execs_cons (wpAny_If (isTrue_plain (wpAny_Call_NameR (bname Fr (by simp) (B.globB (v := .builtin "isinstance") (by decide +kernel)) old₁ (by decide +kernel) ?_)) (by rfl)))
  refine Calls.callWith_builtin (by rfl) (Calls.evalArgs_plain (Calls.spliced_cons (lname (v := .int 0 t) Fr hns (by simp) (by rfl) (by decide +kernel) (Calls.spliced_cons (bname Fr (by simp) (B.globB (v := .type "int") (by decide +kernel)) old₁ (by decide +kernel) (Calls.spliced_nil ?_))))))
  refine IsiPair.int_int (wpAny_truthy_bool ?_)
  rw [if_pos rfl]
  refine wpAny_execs_cons (wpAny_If (wpAny_isTrue_Compare1 (lname (v := .int 0 t) Fr hns (by simp) (by rfl) (by decide +kernel) ?_) (by rfl)))
  refine wpAny_Constant_int (P.lt_int (wpAny_truthy_bool ?_))
  rw [if_neg (show ¬ (decide ((0 : Int) < 0) = true) by decide)]
  refine wpAny_execs_nil ?_
  have x₂ : Ext [] s₁ { s₁ with toks := s₁.toks + 1 } := Ext.tok s₁ 1
  generalize hs₂ : ({ s₁ with toks := s₁.toks + 1 } : Shared) = s₂ at *
  have n₂ := hns.keeps fun b o e => x₂.keep b o (by simp) e
  have old₂ : ∀ b o, h₀.get? b = some o → s₂.heap.get? b = some o := fun b o e => x₂.keep b o (by simp) (old₁ b o e)
  refine wpAny_execs_cons (wpAny_Return_some (wpAny_Tuple (Calls.spliced_cons (lname (v := .int 0 t) Fr n₂ (by simp) (by rfl) (by decide +kernel) (Calls.spliced_cons ?_)))))
  refine wpAny_Call_NameR (bname Fr (by simp) (B.globB (v := .type "list") (by decide +kernel)) old₂ (by decide +kernel) ?_)
  refine PySem.callWith_type (by rfl) (Calls.evalArgs_plain (Calls.spliced_cons ?_))
  refine wpAny_Call_NameR (bname Fr (by simp) (B.globB (v := .type "range") (by decide +kernel)) old₂ (by decide +kernel) ?_)
  refine PySem.callWith_type (by rfl) (Calls.evalArgs_plain (Calls.spliced_cons (lname (v := .int 0 t) Fr n₂ (by simp) (by rfl) (by decide +kernel) (Calls.spliced_nil ?_))))
  refine call_range_1 (Calls.spliced_nil ?_)
  refine grown (call_list_range (n := 0) a₁.handled (Heap.get?_push_size _ rfl) (by decide) (by decide) (by decide) fun h' tk acc c hk hD hI ht hz => Calls.spliced_nil ⟨show (2 : Nat) ≤ sizeLine by decide, ⟨_, rfl, ?_⟩⟩)
  have e0 : acc = #[] := Array.eq_empty_of_size_eq_zero hI.1
  subst e0
  have x₃ : Ext [] s₂ { s₂ with heap := h', toks := tk } := Ext.mk' (Nat.le_trans (Nat.le_trans (Nat.le_succ _) (Nat.le_succ _)) ht) (Nat.le_trans (by rw [Heap.size_push]; exact Nat.le_succ _) hz) fun b o _ e => hk b o (Heap.get?_push_of_some _ e)
  have x₄ : Ext [] { s₂ with heap := h', toks := tk } { s₂ with heap := h'.push { cls := .type "tuple", data := .seq #[.int 0 t, .ref (s₂.heap.push { cls := .type "range", data := .fields #[.int 0 s₂.toks, .int 0 t, .int 1 (s₂.toks + 1)] }).objs.size] }, toks := tk } := Ext.push { s₂ with heap := h', toks := tk } _
  refine h _ _ c _ (((x₁.trans x₂).trans x₃).trans x₄) ?_ (x₄.keep _ _ (by simp) hD) ⟨_, Heap.get?_push_size _ rfl, rfl, _, rfl⟩
  rw [Heap.size_push]
  exact Nat.le_trans (x₁.trans x₂).size (Nat.le_succ _)

/-- x.add_nodes_from([]) -/
theorem nodes_from_ok {l : Nat} {x c f : Addr} {fd : FuncData} {k : Nat} {Q : Value → Shared → Prop} (D : FnAt h₀ f fd (mtB 13)) (hb : ∀ vs : List Value, vs.length = 2 → Kw (bindArgs fd ⟨vs, []⟩) (([Str.ofString "self", Str.ofString "nodes_for_adding"] : List Str).zip vs) "attr") (hfe : FeB fd.scope ["self", "nodes_for_adding", "attr", "n"] [])
    (a : AOk (l + 1) A) (old : ∀ b o, h₀.get? b = some o → s.heap.get? b = some o) (hc : s.heap.get? c = some (listO [] k)) (h : ∀ s', Ext [] s s' → Q .none s') : wpAny (model prog w) A (call (.ref f) [.ref x, .ref c]) Q E s := by
  refine metK_call (ps := [Str.ofString "self", Str.ofString "nodes_for_adding"]) (k := "attr") D (fun vs e => hb vs e) hfe (by simp) (by simp) a old rfl fun env s₁ ad Fr a₁ x₁ hL hae hne had n₁ => ⟨fun fl s' => fl = .next ∧ Q .none s', fun E' => ?_, fun fl s' q => by obtain ⟨rfl, q⟩ := q; exact q⟩
  have hc₁ : s₁.heap.get? c = some (listO [] k) := x₁.keep _ _ (by simp) hc
  have hcl : c ≠ env.locals := fun q => Nat.lt_irrefl _ (Nat.lt_of_lt_of_le (Heap.lt_size hc) (q ▸ hL))
  refine wpAny_execs_cons (wpAny_For (lname (v := .ref c) Fr n₁ (by simp) (by rfl) (by decide +kernel) (for_list (vs := []) Fr (by simp) a₁.handled ⟨_, hc₁, rfl, _, rfl⟩ hcl n₁.lt fun it s₂ x₂ hit hitl => ?_)) (fun x => by rfl))
  refine ⟨fun i s' m' => Ext [it] s₂ s', ⟨_, n₁.keeps fun b o e => x₂.keep b o (by simp) e, Ext.refl _ _⟩, fun i v s₃ m₃ e => (by simp at e), fun s₃ m₃ s₄ iv n₃ hl x₄ => ?_⟩
  refine wpAny_execs_nil ⟨rfl, h s₄ ?_⟩
  have y : Ext ([it] ++ []) s s₄ := ((x₁.trans x₂).mono (by simp)).trans ((iv.trans x₄).mono (by simp))
  exact y.drop fun b hb => by rw [List.mem_singleton.mp hb]; exact Nat.le_trans x₁.size hit
end
end Mine

-- part V75
namespace Mine
open PySem PySem.W PyProof.Rows

/-- a method with plain parameters; one with a dict at the end -/
def MetP (h₀ : Heap) (mN : Str → Option Value) (name : Str) (i : Nat) (ps xs gs : List Str) : Prop :=
  ∃ f fd, mN name = some (.ref f) ∧ FnAt h₀ f fd (mtB i) ∧ (∀ vs : List Value, vs.length = ps.length → bindArgs fd ⟨vs, []⟩ = pure (ps.zip vs)) ∧ FeB fd.scope xs gs
def MetQ (h₀ : Heap) (mN : Str → Option Value) (name : Str) (i : Nat) (ps : List Str) (k : Str) (xs : List Str) : Prop :=
  ∃ f fd, mN name = some (.ref f) ∧ FnAt h₀ f fd (mtB i) ∧ (∀ vs : List Value, vs.length = ps.length → Kw (bindArgs fd ⟨vs, []⟩) (ps.zip vs) k) ∧ FeB fd.scope xs []
/-- a function of the text -/
def FunP (h₀ : Heap) (f : Addr) (i : Nat) (ps xs gs : List Str) : Prop :=
  ∃ fd, FnAt h₀ f fd (fnB i) ∧ (∀ vs : List Value, vs.length = ps.length → bindArgs fd ⟨vs, []⟩ = pure (ps.zip vs)) ∧ FeB fd.scope xs gs

/-- a function of the text with defaults -/
def FunB (h₀ : Heap) (f : Addr) (i : Nat) (ps xs gs : List Str) : Prop :=
  ∃ fd, FnAt h₀ f fd (fnB i) ∧ (∀ vs : List Value, vs.length = ps.length → Bnd h₀ (bindArgs fd ⟨vs, []⟩) (ps.zip vs)) ∧ FeB fd.scope xs gs

/-- what stands of the class of graphs and the functions that make one -/
structure GK (h₀ : Heap) (C : Addr) (mN : Str → Option Value) : Prop where
  gc : GC h₀ C mN
  cls : ∃ N, ClsAt h₀ C N mN
  f1 : Fac h₀ mN "graph_attr_dict_factory"
  f2 : Fac h₀ mN "node_dict_factory"
  f3 : Fac h₀ mN "adjlist_outer_dict_factory"
  f4 : Fac h₀ mN "adjlist_inner_dict_factory"
  f5 : Fac h₀ mN "node_attr_dict_factory"
  f6 : Fac h₀ mN "edge_attr_dict_factory"
  init : ∃ f fd, mN "__init__" = some (.ref f) ∧ FnAt h₀ f fd (mtB 6) ∧ (∀ x, KwD h₀ (bindArgs fd ⟨[x], []⟩) [("self", x), ("incoming_graph_data", .none)] "attr") ∧ FeB fd.scope ["self", "incoming_graph_data", "attr"] []
  iter : Met1 h₀ mN "__iter__" 8 ["iter"]
  len : Met1 h₀ mN "__len__" 10 ["len"]
  directed : Met1 h₀ mN "is_directed" 34 []
  edge : MetQ h₀ mN "add_edge" 20 ["self", "u_of_edge", "v_of_edge"] "attr" edgeXs
  node : MetQ h₀ mN "add_node" 12 ["self", "node_for_adding"] "attr" nodeXs
  nodesFrom : MetQ h₀ mN "add_nodes_from" 13 ["self", "nodes_for_adding"] "attr" ["self", "nodes_for_adding", "attr", "n"]
  giter : GlobB h₀ "iter" (.builtin "iter")
  ggraph : GlobM h₀ "Graph" (.ref C)
  gempty : GlobM h₀ "empty_graph" (.ref 640)
  gnon : GlobM h₀ "nodes_or_number" (.ref 632)
  empty : FunB h₀ 640 18 ["n", "create_using"] ["n", "create_using", "G", "_", "nodes"] ["Graph", "nodes_or_number"]
  non : FunP h₀ 632 16 ["n"] ["n"] ["isinstance", "int", "list", "range"]

theorem AOk.mono {l l' : Nat} {A : Around} (h : l' ≤ l) (a : AOk l A) : AOk l' A := ⟨a.handled, by have := a.depth; omega, by have := a.units; omega⟩

section
variable {prog : Program} {w : World} {C : Addr} {h₀ : Heap} {A : Around} {E : Value → Shared → Prop} {s : Shared} {env : Env} {xs gs : List Str} {m : Str → Option Value}

theorem callF1 {f : Addr} {fd : FuncData} {body : List Stmt} {pos : Pos} {vs : List Value} {t : Sem Value} {Q : Value → Shared → Prop} (D : FnAt h₀ f fd body)
    (h : wpAny (model prog w) A t (fun v s₁ => (∀ b o, h₀.get? b = some o → s₁.heap.get? b = some o) ∧ wpAny (model prog w) A (call (.ref f) (vs ++ [v])) Q E s₁) E s) : wpAny (model prog w) A (callWith pos (.ref f) vs [(false, t)] []) Q E s := by
  obtain ⟨o, ho, _, hd⟩ := D.obj
  exact Calls.callWith_function (Calls.evalArgs_plain (Calls.spliced_cons (wpAny_mono h (fun v s₁ q => Calls.spliced_nil ⟨⟨q.1 _ _ ho, hd⟩, q.2⟩) fun _ _ e => e)))
theorem callF2 {f : Addr} {fd : FuncData} {body : List Stmt} {pos : Pos} {vs : List Value} {t u : Sem Value} {Q : Value → Shared → Prop} (D : FnAt h₀ f fd body)
    (h : wpAny (model prog w) A t (fun v s₁ => wpAny (model prog w) A u (fun v' s₂ => (∀ b o, h₀.get? b = some o → s₂.heap.get? b = some o) ∧ wpAny (model prog w) A (call (.ref f) (vs ++ [v, v'])) Q E s₂) E s₁) E s) : wpAny (model prog w) A (callWith pos (.ref f) vs [(false, t), (false, u)] []) Q E s := by
  obtain ⟨o, ho, _, hd⟩ := D.obj
  exact Calls.callWith_function (Calls.evalArgs_plain (Calls.spliced_cons (wpAny_mono h (fun v s₁ q => Calls.spliced_cons (wpAny_mono q (fun v' s₂ q => Calls.spliced_nil ⟨⟨q.1 _ _ ho, hd⟩, q.2⟩) fun _ _ e => e)) fun _ _ e => e)))

/-- x, y out of a tuple -/
theorem assign2 {x y : Str} {px py pp : Pos} {k : Nat} {T : Addr} {va vb : Value} {Q : Unit → Shared → Prop} (hh : A.handled = none) (Fr : Fe env xs gs) (hn : s.heap.Ns env.locals m) (hx : x ∈ xs) (hy : y ∈ xs) (hT : s.heap.IsTuple T #[va, vb])
    (h : ∀ s', Ext [env.locals] s s' → s'.heap.Ns env.locals (fun z => if z = y then some vb else if z = x then some va else m z) → Q () s') : wpAny (model prog w) A (assign (.Tuple [.Name x px, .Name y py] k pp) env (.ref T)) Q E s := by
  rw [arm_assign_Tuple]
  refine wpAny_bind (wpAny_standAt ?_)
  unfold unpack
  refine wpAny_bind (wpAny_holding (grown (wpAny_unpackItems_tuple hh hT (items := #[va, vb]) fun h₃ hx₃ _ hsz => ?_)))
  have x₀ : Ext [] s { s with heap := h₃ } := Ext.mk' (Nat.le_refl _) hsz fun b o _ q => hx₃ b o (Nat.ne_of_lt (Heap.lt_size q)) q
  refine wpAny_bind (wpAny_holding (wpAny_assign_Name (lstore (s := { s with heap := h₃ }) Fr (hn.keeps fun b o e => x₀.keep b o (by simp) e) hx fun s₁ x₁ n₁ => ?_)))
  refine wpAny_bind (wpAny_holding (wpAny_assign_Name (lstore Fr n₁ hy fun s₂ x₂ n₂ => wpAny_pure ?_)))
  exact h s₂ ((x₀.mono (by simp)).trans (x₁.trans x₂)) n₂

/-- empty_graph(0, None) -/
theorem empty_ok {l : Nat} {t : Tok} {mN : Str → Option Value} {Q : Value → Shared → Prop} (B : Base h₀) (K : GK h₀ C mN) (a : AOk (l + 4) A) (old : ∀ b o, h₀.get? b = some o → s.heap.get? b = some o) (hsz : 1 < s.heap.objs.size)
    (h : ∀ x d gg gn ga s', Ext [] s s' → (∀ b ∈ rl x d gg gn ga [] [], s.heap.objs.size ≤ b) → GAt prog w C s'.heap x d gg gn ga [] [] [] → Q (.ref x) s') : wpAny (model prog w) A (call (.ref 640) [.int 0 t, .none]) Q E s := by
  obtain ⟨fd, D, hb, hfe⟩ := K.empty
  refine met_callB (ps := [Str.ofString "n", Str.ofString "create_using"]) (vs := [.int 0 t, .none]) D (hb _ rfl) hfe (by simp) a old fun env s₁ Fr a₁ x₁ hL n₁ => ⟨fun fl s' => ∃ v, fl = .ret v ∧ Q v s', fun E' => ?_, fun fl s' q => by obtain ⟨v, rfl, q⟩ := q; exact q⟩
  have old₁ : ∀ b o, h₀.get? b = some o → s₁.heap.get? b = some o := fun b o e => x₁.keep b o (by simp) (old b o e)
  refine wpAny_execs_cons (wpAny_If (wpAny_isTrue_Compare1 (lname (v := .none) Fr n₁ (by simp) (by rfl) (by decide +kernel) (wpAny_Constant_none (is_none (wpAny_truthy_bool ?_)))) (by rfl)))
  rw [if_pos (by rfl)]
  obtain ⟨N, hcl⟩ := K.cls
  obtain ⟨fi, fdi, hi1, hi2, hi3, hi4⟩ := K.init
  refine wpAny_execs_cons (wpAny_Assign_Name (wpAny_Call_NameR (gname Fr (by simp) K.ggraph old₁ (by decide +kernel) (callWith_cls0 hcl old₁ (graph_new (l := l) K.gc K.f1 K.f2 K.f3 hi1 hi2 hi3 hi4 a₁ old₁ (Nat.lt_of_lt_of_le hsz x₁.size) fun x d gg gn ga s₂ x₂ hfr H₂ => ?_)))) (by rfl))
  have n₂ := n₁.keeps fun b o e => x₂.keep b o (by simp) e
  have hfr' : ∀ b ∈ rl x d gg gn ga [] [], s.heap.objs.size ≤ b := fun b hb => Nat.le_trans x₁.size (hfr b hb)
  have nl : ∀ {b : Addr}, b ∈ rl x d gg gn ga [] [] → b ≠ env.locals := fun hb q => Nat.lt_irrefl _ (Nat.lt_of_lt_of_le n₁.lt (q ▸ hfr _ hb))
  refine lstore Fr n₂ (by simp) fun s₃ x₃ n₃ => wpAny_execs_nil ?_
  have H₃ := H₂.keep (h' := s₃.heap) fun b hb o e => x₃.keep b o (by simpa using nl hb) e
  have y₃ : Ext [env.locals] s s₃ := ((x₁.trans x₂).mono (by simp)).trans x₃
  have hbl : ∀ c ∈ [env.locals], h₀.get? c = none := fun c hc => by
    rw [List.mem_singleton.mp hc]
    cases q : h₀.get? env.locals with
    | none => rfl
    | some o => exact absurd (Heap.lt_size (old _ _ q)) (Nat.not_lt.mpr hL)
  have old₃ := oldK y₃ hbl old
  obtain ⟨fdn, Dn, hbn, hfn⟩ := K.non
  refine wpAny_execs_cons (Assign_Tuple (wpAny_Call_NameR (gname Fr (by simp) K.gnon old₃ (by decide +kernel) (callF1 Dn (lname (v := .int 0 t) Fr n₃ (by simp) (by rfl) (by decide +kernel) ⟨old₃, non_ok (l := l) B Dn hbn hfn (AOk.mono (by omega) a₁) old₃ fun T c k s₄ x₄ hc hcl hT => ?_⟩)))) (by rfl) (by rfl))
  refine assign2 a₁.handled Fr (n₃.keeps fun b o e => x₄.keep b o (by simp) e) (by simp) (by simp) hT fun s₅ x₅ n₅ => ?_
  have y₅ : Ext [env.locals] s s₅ := (y₃.trans (x₄.mono (by simp))).trans x₅
  have H₅ := H₃.keep (h' := s₅.heap) fun b hb o e => x₅.keep b o (by simpa using nl hb) (x₄.keep b o (by simp) e)
  have cl : c ≠ env.locals := fun q => Nat.lt_irrefl _ (Nat.lt_of_lt_of_le n₃.lt (q ▸ hc))
  have hc₅ : s₅.heap.get? c = some (listO [] k) := x₅.keep _ _ (by simpa using cl) hcl
  obtain ⟨ff, fdf, hf1, Df, hbf, hff⟩ := K.nodesFrom
  refine wpAny_execs_cons (expr_none Fr (by rfl) (Call_meth1 (by rfl) (by rfl) (by rfl) (lname (v := .ref x) Fr n₅ (by simp) (by rfl) (by decide +kernel) fun pl => gmeth (x := x) (y := none) K.gc Df (oldK y₅ hbl old) H₅.ofInst hf1 (by kernel_rfl) (by rfl) (callF1 Df (lname (v := .ref c) Fr n₅ (by simp) (by rfl) (by decide +kernel) ⟨oldK y₅ hbl old, nodes_from_ok (l := l) Df hbf hff (AOk.mono (by omega) a₁) (oldK y₅ hbl old) hc₅ fun s₆ x₆ => ⟨rfl, ?_⟩⟩)))))
  refine wpAny_execs_cons (wpAny_Return_some (lname (v := .ref x) Fr (n₅.keeps fun b o e => x₆.keep b o (by simp) e) (by simp) (by rfl) (by decide +kernel) ⟨_, rfl, ?_⟩))
  refine h x d gg gn ga s₆ ?_ hfr' (H₅.keep fun b hb o e => x₆.keep b o (by simp) e)
  have y : Ext ([env.locals] ++ []) s s₆ := y₅.trans (x₆.mono (by simp))
  exact y.drop fun b hb => by rw [List.mem_singleton.mp hb]; exact hL
end
end Mine

-- part V76
namespace Mine
open PySem PySem.W PyProof.Rows

def memI (a : Int) : List Int → Bool
  | [] => false
  | b :: l => match decide (a = b) with
    | true => true
    | false => memI a l
theorem memI_iff {a : Int} : ∀ {l : List Int}, memI a l = true ↔ a ∈ l
  | [] => by simp [memI]
  | b :: l => by
    unfold memI
    by_cases h : a = b
    · simp [h]
    · have h1 : decide (a = b) = false := by simpa using h
      rw [h1]
      simp [h, memI_iff (l := l)]
def rowB (a b : Int) (p : Int × List Int) : Bool :=
  (match decide (p.1 = a) with | true => !memI b p.2 | false => true) && (match decide (p.1 = b) with | true => !memI a p.2 | false => true) && decide (p.2.length ≤ 999)
/-- may the edge be put in -/
def chkE (g : Gr) (a b : Int) : Bool := memI b (keysG g) && !decide (a = b) && g.all (rowB a b) && decide (g.length ≤ 999)
def edgesTo (v : Int) : List Int → Gr → Option Gr
  | [], g => some g
  | u :: us, g => match chkE g v u with
    | true => edgesTo v us (addE g v u)
    | false => none
def isD (s : List Nat) : Bool := match s with
  | [c] => Nat.beq c 100
  | _ => false
def stepG (g : Gr) (v : Int) (s : List Nat) : Option Gr := match (match isD s with | true => edgesTo v (keysG g) g | false => some g) with
  | some g' => match decide (g'.length ≤ 999) with
    | true => some (addN g' v)
    | false => none
  | none => none
def growG : List (Int × List Nat) → Gr → Option Gr
  | [], g => some g
  | p :: ps, g => match stepG g p.1 p.2 with
    | some g' => growG ps g'
    | none => none
structure ChkE (g : Gr) (a b : Int) : Prop where
  mem : b ∈ keysG g
  ne : a ≠ b
  r1 : ∀ nb, (a, nb) ∈ g → b ∉ nb
  r2 : ∀ nb, (b, nb) ∈ g → a ∉ nb
  le : rowsLe g 999
theorem chkE_ok {g : Gr} {a b : Int} (h : chkE g a b = true) : ChkE g a b := by
  unfold chkE at h
  simp only [Bool.and_eq_true, Bool.not_eq_true', decide_eq_true_eq, decide_eq_false_iff_not, List.all_eq_true] at h
  obtain ⟨⟨⟨h1, h2⟩, h3⟩, h4⟩ := h
  have h5 : ∀ p ∈ g, (p.1 = a → b ∉ p.2) ∧ (p.1 = b → a ∉ p.2) ∧ p.2.length ≤ 999 := fun p hp => by
    have := h3 p hp
    unfold rowB at this
    simp only [Bool.and_eq_true, decide_eq_true_eq] at this
    obtain ⟨⟨q1, q2⟩, q3⟩ := this
    refine ⟨fun e => ?_, fun e => ?_, q3⟩
    · rw [decide_eq_true e] at q1
      intro hm
      rw [memI_iff.mpr hm] at q1; cases q1
    · rw [decide_eq_true e] at q2
      intro hm
      rw [memI_iff.mpr hm] at q2; cases q2
  exact ⟨memI_iff.mp h1, h2, fun nb hm => (h5 _ hm).1 rfl, fun nb hm => (h5 _ hm).2.1 rfl, h4, fun p hp => (h5 p hp).2.2⟩

section
variable {prog : Program} {w : World} {C : Addr} {h₀ : Heap} {A : Around} {E : Value → Shared → Prop} {s : Shared} {env : Env} {xs gs : List Str} {m : Str → Option Value}

/-- for u in list(G): G.add_edge(v, u) -/
theorem edges_ok {l : Nat} {x d gg gn ga : Addr} {as ls : List Addr} {g g' : Gr} {mN : Str → Option Value} {v : Int} {tv : Tok} {gx vx ux : Str} {p1 p2 p3 p4 p5 p6 p7 p8 p9 pa pz : Pos} {Q : Flow → Shared → Prop}
    (B : Base h₀) (K : GK h₀ C mN) (a : AOk (l + 4) A) (s₀ : Shared) (x₀ : Ext [] s₀ s) (old : ∀ b o, h₀.get? b = some o → s₀.heap.get? b = some o) (hsz : 1 < s₀.heap.objs.size)
    (Fr : Fe env xs gs) (hn : s.heap.Ns env.locals m) (hl0 : s₀.heap.objs.size ≤ env.locals) (hgx : gx ∈ xs) (hvx : vx ∈ xs) (hux : ux ∈ xs) (hlist : Str.ofString "list" ∈ gs) (hgv : m gx = some (.ref x)) (hvv : m vx = some (.int v tv)) (d1 : (gx == ("__debug__" : Str)) = false) (d2 : (vx == ("__debug__" : Str)) = false) (d3 : (ux == ("__debug__" : Str)) = false) (n1 : (gx == ux) = false) (n2 : (vx == ux) = false)
    (H : GAt prog w C s.heap x d gg gn ga as ls g) (hlo : ∀ c ∈ rl x d gg gn ga as ls, s₀.heap.objs.size ≤ c) (hll : env.locals ∉ rl x d gg gn ga as ls) (hgl : g.length ≤ 999) (hpure : edgesTo v (keysG g) g = some g')
    (hbase : attributeBase (.Name gx p5) "add_edge" env (eval (.Name gx p5) env) = eval (.Name gx p5) env) (hline : (p6.endLine == p9.line) = true) (hsw : swapsWith (.Call (.Attribute (.Name gx p5) "add_edge" p6) [.Name vx p7, .Name ux p8] [] p9) none pa.line env = pure false)
    (htr : backTo p9 (starEach [.Name vx p7, .Name ux p8] env) = [(false, eval (.Name vx p7) env), (false, eval (.Name ux p8) env)]) (htr2 : backTo p4 (starEach [.Name gx p3] env) = [(false, eval (.Name gx p3) env)])
    (hfold : ∀ y, foldedSetIterable (.Call (.Name "list" p2) [.Name gx p3] [] p4) env y = pure y)
    (h : ∀ s' as' ls' m', Ext (env.locals :: rl x d gg gn ga as ls) s s' → (∀ c ∈ rl x d gg gn ga as' ls', c ∈ rl x d gg gn ga as ls ∨ s.heap.objs.size ≤ c) → s'.heap.Ns env.locals m' → (∀ y, (y == ux) = false → m' y = m y) → GAt prog w C s'.heap x d gg gn ga as' ls' g' → Q .next s') :
    wpAny (model prog w) A (exec (.For (.Name ux p1) (.Call (.Name "list" p2) [.Name gx p3] [] p4) [.Expr (.Call (.Attribute (.Name gx p5) "add_edge" p6) [.Name vx p7, .Name ux p8] [] p9) pa] [] pz) env) Q E s := by
  have oldz : ∀ {s' : Shared}, Ext [] s₀ s' → ∀ b o, h₀.get? b = some o → s'.heap.get? b = some o := fun y b o e => y.keep b o (by simp) (old b o e)
  have live := H.live
  refine wpAny_For (wpAny_Call_NameR (bname Fr hlist (B.globB (v := .type "list") (by decide +kernel)) (oldz x₀) (by decide +kernel) ?_)) hfold
  rw [htr2]
  refine PySem.callWith_type (by rfl) (Calls.evalArgs_plain (Calls.spliced_cons (lname (v := .ref x) Fr hn hgx hgv d1 (Calls.spliced_nil ?_))))
  refine list_graph (l := l) K.gc K.iter K.len K.giter (B.globB (v := .builtin "len") (by decide +kernel)) a (oldz x₀) H hlo hsz (by omega) fun c vs k s₁ x₁ hc hcl hvl hvs => ?_
  have n₁ := hn.keeps fun b o e => x₁.keep b o (by simp) e
  have cl : c ≠ env.locals := fun q => Nat.lt_irrefl _ (Nat.lt_of_lt_of_le hn.lt (q ▸ hc))
  have cr : c ∉ rl x d gg gn ga as ls := fun q => Nat.lt_irrefl _ (Nat.lt_of_lt_of_le (live _ q) hc)
  have H₁ := H.keep (h' := s₁.heap) fun b _ o e => x₁.keep b o (by simp) e
  have hkl : (keysG g).length = g.length := by simp [keysG]
  refine for_list (vs := vs) Fr hux a.handled ⟨_, hcl, rfl, _, rfl⟩ cl n₁.lt fun it s₂ x₂ hit hitl => ?_
  have itr : it ∉ rl x d gg gn ga as ls := fun q => Nat.lt_irrefl _ (Nat.lt_of_lt_of_le (H₁.live _ q) hit)
  have itl : it ≠ env.locals := fun q => Nat.lt_irrefl _ (Nat.lt_of_lt_of_le n₁.lt (q ▸ hit))
  have hcs : c < s₁.heap.objs.size := Heap.lt_size hcl
  have y₂ : Ext [] s₀ s₂ := (x₀.trans x₁).trans x₂
  obtain ⟨fe, fde, hme, De, hbe, hfe⟩ := K.edge
  refine ⟨fun i s' m' => ∃ as' ls' gi, Ext (it :: env.locals :: rl x d gg gn ga as ls) s₂ s' ∧ (∀ b ∈ rl x d gg gn ga as' ls', b ∈ rl x d gg gn ga as ls ∨ s₂.heap.objs.size ≤ b) ∧ GAt prog w C s'.heap x d gg gn ga as' ls' gi ∧ edgesTo v ((keysG g).drop i) gi = some g' ∧ ∀ y, (y == ux) = false → m' y = m y,
    ⟨m, n₁.keeps fun b o e => x₂.keep b o (by simp) e, as, ls, g, Ext.refl _ _, fun b hb => .inl hb, H₁.keep fun b _ o e => x₂.keep b o (by simp) e, by simpa using hpure, fun _ _ => rfl⟩, ?_, ?_⟩
  · rintro i u s₃ m₃ hu ⟨as', ls', gi, x₃, hf, H₃, hp, hm⟩ n₃ hil s₄ x₄ n₄ E'
    obtain ⟨kk, tk, hk1, rfl⟩ := hvs i u hu
    have hdrop : (keysG g).drop i = kk :: (keysG g).drop (i + 1) := by
      obtain ⟨hlt, e⟩ := List.getElem?_eq_some_iff.mp hk1
      rw [List.drop_eq_getElem_cons hlt, e]
    rw [hdrop, edgesTo] at hp
    cases hch : chkE gi v kk with
    | false => rw [hch] at hp; cases hp
    | true =>
      rw [hch] at hp
      have ck := chkE_ok hch
      have up : ∀ {b : Addr}, b < s₂.heap.objs.size → b ∉ rl x d gg gn ga as ls → b ∉ rl x d gg gn ga as' ls' := fun h1 h2 q => by
        rcases hf _ q with z | z
        · exact h2 z
        · exact Nat.lt_irrefl _ (Nat.lt_of_lt_of_le h1 z)
      have hl₂ : env.locals < s₂.heap.objs.size := Nat.lt_of_lt_of_le n₁.lt x₂.size
      have itr' := up hitl itr
      have cr' := up (Nat.lt_of_lt_of_le hcs x₂.size) cr
      have ll' := up hl₂ hll
      have H₄ := H₃.keep (h' := s₄.heap) fun b hb o e => x₄.keep b o (by
        simp only [List.mem_cons, List.not_mem_nil, or_false, not_or]
        exact ⟨fun z => itr' (z ▸ hb), fun z => ll' (z ▸ hb)⟩) e
      have z₃ : Ext [] s₀ s₃ := y₂.via x₃ fun b hb => by
        simp only [List.mem_cons] at hb
        rcases hb with rfl | rfl | hb
        · exact .inr (Nat.le_trans (x₀.trans x₁).size hit)
        · exact .inr hl0
        · exact .inr (hlo b hb)
      have z₄ : Ext [] s₀ s₄ := z₃.via x₄ fun b hb => by
        simp only [List.mem_cons, List.not_mem_nil, or_false] at hb
        rcases hb with rfl | rfl
        · exact .inr (Nat.le_trans (x₀.trans x₁).size hit)
        · exact .inr hl0
      have hlo' : ∀ b ∈ rl x d gg gn ga as' ls', s₀.heap.objs.size ≤ b := fun b hb => by
        rcases hf b hb with q | q
        · exact hlo b q
        · exact Nat.le_trans y₂.size q
      have hb' : ∀ b ∈ rl x d gg gn ga as' ls', h₀.get? b = none := fun b hb => by
        cases q : h₀.get? b with
        | none => rfl
        | some o => exact absurd (Heap.lt_size (old _ _ q)) (Nat.not_lt.mpr (hlo' b hb))
      have mu : ∀ {y : Str} {w' : Value}, m y = some w' → (y == ux) = false → (if y = ux then some (Value.int kk tk) else m₃ y) = some w' := fun h1 h2 => by
        rw [if_neg (fun q => by rw [q] at h2; simp at h2), hm _ h2]; exact h1
      refine wpAny_execs_cons (expr_none Fr hsw (Call_meth2 hbase hline htr (lname (v := .ref x) Fr n₄ hgx (mu hgv n1) d1 fun pl => gmeth (x := x) (y := none) K.gc De (oldz z₄) H₄.ofInst hme (by kernel_rfl) (by rfl)
        (callF2 De (lname (v := .int v tv) Fr n₄ hvx (mu hvv n2) d2 (lname (v := .int kk tk) Fr n₄ hux (if_pos rfl) d3 ⟨oldz z₄, add_edge_ok (l := l) K.gc K.f4 K.f5 K.f6 De (fun vs e => hbe vs e) hfe (AOk.mono (by omega) a) (oldz z₄) (Nat.lt_of_lt_of_le hsz z₄.size) H₄ hlo' hsz hb' ck.mem ck.ne ck.r1 ck.r2 ck.le fun s₅ as₅ ls₅ st H₅ => ?_⟩))))))
      have x₅ : Ext (it :: env.locals :: rl x d gg gn ga as ls) s₂ s₅ := (x₃.trans (x₄.mono (by simp))).via st.ext fun b hb => by
        rcases hf b hb with q | q
        · exact .inl (by simp [q])
        · exact .inr q
      refine ⟨rfl, wpAny_execs_nil ⟨rfl, fun o e => st.ext.keep _ o itr' e, fun o e => st.ext.keep _ o cr' e, _, n₄.at fun o e => st.ext.keep _ o ll' e, as₅, ls₅, _, x₅, fun b hb => ?_, H₅, hp, fun y hy => ?_⟩⟩
      · rcases st.fresh b hb with q | q
        · exact hf b q
        · exact .inr (Nat.le_trans (x₃.trans (x₄.mono (by simp))).size q)
      · show (if y = ux then some (Value.int kk tk) else m₃ y) = m y
        rw [if_neg (fun q => by rw [q] at hy; simp at hy)]; exact hm y hy
  · rintro s₃ m₃ s₄ ⟨as', ls', gi, x₃, hf, H₃, hp, hm⟩ n₃ hil x₄
    have e0 : (keysG g).drop vs.length = [] := by rw [hvl, ← hkl, List.drop_length]
    rw [e0, edgesTo] at hp
    cases hp
    have up : ∀ {b : Addr}, b < s₂.heap.objs.size → b ∉ rl x d gg gn ga as ls → b ∉ rl x d gg gn ga as' ls' := fun h1 h2 q => by
      rcases hf _ q with z | z
      · exact h2 z
      · exact Nat.lt_irrefl _ (Nat.lt_of_lt_of_le h1 z)
    have itr' := up hitl itr
    have y : Ext ([it] ++ (env.locals :: rl x d gg gn ga as ls)) s s₄ := (((x₁.trans x₂).mono (by simp)).trans (x₃.mono (by simp))).trans (x₄.mono (by simp))
    refine h s₄ as' ls' m₃ (y.drop fun b hb => by rw [List.mem_singleton.mp hb]; exact Nat.le_trans x₁.size hit) (fun b hb => (hf b hb).imp id fun q => Nat.le_trans (x₁.trans x₂).size q) (n₃.at fun o e => x₄.keep _ o (by simpa using itl.symm) e) hm (H₃.keep fun b hb o e => x₄.keep b o (by simpa using fun z : b = it => itr' (z ▸ hb)) e)
end
end Mine

-- part V77
namespace Mine
open PySem PySem.W PyProof.Rows

theorem isD_eq (s : List Nat) : (s == ([100] : List Nat)) = isD s := by
  cases s with
  | nil => rfl
  | cons c r =>
    cases r with
    | nil => show (c == 100 && true) = Nat.beq c 100; rw [Bool.and_true, Bool.eq_iff_iff, beq_iff_eq, Nat.beq_eq]
    | cons _ _ => show (c == 100 && false) = false; rw [Bool.and_false]

def tgBody : List PySem.Stmt := match ((fnB 21)[5]? : Option PySem.Stmt) with
  | some (.While _ b _ _) => b
  | _ => []

section
variable {prog : Program} {w : World} {C : Addr} {h₀ : Heap} {A : Around} {E : Value → Shared → Prop} {s : Shared} {env : Env} {xs gs : List Str} {m : Str → Option Value}

/-- x.pop(0) of a list -/
theorem pop_own {cx : Str} {px ap zp cp : Pos} {zk : Nat} {cc : Addr} {v : Value} {vs : List Value} {k : Nat} {Q : Value → Shared → Prop} (Fr : Fe env xs gs) (hn : s.heap.Ns env.locals m) (hcx : cx ∈ xs) (hcv : m cx = some (.ref cc)) (hd : (cx == ("__debug__" : Str)) = false)
    (hc : s.heap.get? cc = some (listO (v :: vs) k)) (hz : (v :: vs).length ≤ 1000)
    (hbase : attributeBase (.Name cx px) "pop" env (eval (.Name cx px) env) = eval (.Name cx px) env) (hline : (ap.endLine == cp.line) = true) (htr : backTo cp (starEach [.Constant (.int 0) zk zp] env) = [(false, eval (.Constant (.int 0) zk zp) env)])
    (h : ∀ s' k', Ext [cc] s s' → s'.heap.get? cc = some (listO vs k') → Q v s') : wpAny (model prog w) A (eval (.Call (.Attribute (.Name cx px) "pop" ap) [.Constant (.int 0) zk zp] [] cp) env) Q E s := by
  refine Call_meth1 hbase hline htr (lname (v := .ref cc) Fr hn hcx hcv hd fun pl => ?_)
  refine getMethod_builtin (T := "list") (id := "list.pop") ⟨_, hc, rfl⟩ PySem.F.plainAttrs_list PySem.F.slot_list_pop PySem.F.type_list_pop (fun b hb => by cases hb; exact ⟨_, hc, rfl⟩) ?_
  refine PySem.P.pop_at_list (wpAny_Constant_int ?_)
  have x₁ : Ext [] s { s with toks := s.toks + 1 } := Ext.tok s 1
  have hsl : (1000 : Nat) ≤ sizeLine := by decide
  refine ⟨(v :: vs).toArray, k, 0, _, 0, v, by rw [List.size_toArray]; omega, rfl, hc, by decide, by unfold seqIndex?; simp, by simp, ?_⟩
  have x₂ : Ext [cc] { s with toks := s.toks + 1 } { s with heap := s.heap.update cc (Obj.mapSeq fun xs => xs.eraseIdxIfInBounds 0), toks := s.toks + 1 } := upd_ext (s := { s with toks := s.toks + 1 }) _
  have hp2 := upd_plain (show s.heap.get? cc = some { cls := .type "list", data := .seq (v :: vs).toArray k } from hc) (fun xs => xs.eraseIdxIfInBounds 0)
  rw [erase0] at hp2
  obtain ⟨k', hp2⟩ := hp2
  exact h _ k' ((x₁.mono (by simp)).trans x₂) hp2

/-- the pairs that are still to come -/
def Prs (h : Heap) (bad : List Addr) : List (Int × List Nat) → List Value → Prop
  | [], vs => vs = []
  | p :: ps, vs => ∃ v r ta t u, vs = v :: r ∧ v = .ref ta ∧ ta ∉ bad ∧ h.IsTuple ta #[.int p.1 t, .str ⟨p.2.toArray⟩ u] ∧ Prs h bad ps r
theorem Prs.len {h : Heap} {bad : List Addr} : ∀ {ps : List (Int × List Nat)} {vs : List Value}, Prs h bad ps vs → vs.length = ps.length
  | [], _, H => by rw [show _ = [] from H]; rfl
  | p :: ps, _, H => by obtain ⟨v, r, ta, t, u, rfl, _, _, _, hr⟩ := H; rw [List.length_cons, List.length_cons, Prs.len hr]
theorem Prs.mono {h h' : Heap} {bad bad' : List Addr} (k : ∀ b o, b ∉ bad → h.get? b = some o → h'.get? b = some o ∧ b ∉ bad') : ∀ {ps : List (Int × List Nat)} {vs : List Value}, Prs h bad ps vs → Prs h' bad' ps vs
  | [], _, H => H
  | p :: ps, _, H => by
    obtain ⟨v, r, ta, t, u, e1, e2, e3, ⟨o, ho, e4⟩, hr⟩ := H
    exact ⟨v, r, ta, t, u, e1, e2, (k ta o e3 ho).2, ⟨o, (k ta o e3 ho).1, e4⟩, Prs.mono k hr⟩

abbrev tgXs : List Str := ["creation_sequence", "create_using", "first", "ci", "cs", "G", "v", "node_type", "u"]
abbrev tgGs : List Str := ["isinstance", "str", "tuple", "int", "list", "enumerate", "uncompact", "empty_graph"]

/-- the state of the loop -/
structure TSt (prog : Program) (w : World) (C : Addr) (s₀ s : Shared) (L : Addr) (x d gg gn ga cc : Addr) (ps : List (Int × List Nat)) (g : Gr) : Prop where
  ext : Ext [] s₀ s
  ns : ∃ m, s.heap.Ns L m ∧ m "G" = some (.ref x) ∧ m "ci" = some (.ref cc)
  gr : ∃ as ls, GAt prog w C s.heap x d gg gn ga as ls g ∧ (∀ c ∈ rl x d gg gn ga as ls, s₀.heap.objs.size ≤ c) ∧ L ∉ rl x d gg gn ga as ls ∧ cc ∉ rl x d gg gn ga as ls ∧ ∃ vs k, s.heap.get? cc = some (listO vs k) ∧ Prs s.heap (L :: cc :: rl x d gg gn ga as ls) ps vs
  ccL : cc ≠ L
  lo1 : s₀.heap.objs.size ≤ L
  lo2 : s₀.heap.objs.size ≤ cc

/-- the body of the loop, once -/
theorem turn_ok {l : Nat} {x d gg gn ga cc : Addr} {g g' : Gr} {mN : Str → Option Value} {v : Int} {sy : List Nat} {ps : List (Int × List Nat)} {s₀ : Shared} {Q : Flow → Shared → Prop}
    (B : Base h₀) (K : GK h₀ C mN) (a : AOk (l + 4) A) (old : ∀ b o, h₀.get? b = some o → s₀.heap.get? b = some o) (hsz : 1 < s₀.heap.objs.size) (Fr : Fe env tgXs tgGs)
    (T : TSt prog w C s₀ s env.locals x d gg gn ga cc ((v, sy) :: ps) g) (hps : ps.length ≤ 900) (hg : g.length ≤ 999) (hp : stepG g v sy = some g')
    (h : ∀ s', TSt prog w C s₀ s' env.locals x d gg gn ga cc ps g' → Q .next s') : wpAny (model prog w) A (execs tgBody env) Q E s := by
  obtain ⟨m, n, mG, mci⟩ := T.ns
  obtain ⟨as, ls, H, hlo, hL, hc, vs, k, hcc, hprs⟩ := T.gr
  have hln := hprs.len
  obtain ⟨v₁, r, ta, tv, ts, rfl, rfl, hta, htup, hprs'⟩ := hprs
  simp only [List.mem_cons, not_or] at hta
  have oldz : ∀ {s' : Shared}, Ext [] s₀ s' → ∀ b o, h₀.get? b = some o → s'.heap.get? b = some o := fun y b o e => y.keep b o (by simp) (old b o e)
  refine wpAny_execs_cons (Assign_Tuple (pop_own Fr n (by simp) mci (by decide +kernel) hcc (by simp at hln ⊢; omega) (by rfl) (by rfl) (by rfl) fun s₁ k₁ x₁ hcc₁ => ?_) (by rfl) (by rfl))
  have ccL := T.ccL
  have n₁ := n.at fun o e => x₁.keep _ o (by simpa using Ne.symm ccL) e
  have ht₁ : s₁.heap.IsTuple ta #[.int v tv, .str ⟨sy.toArray⟩ ts] := by
    obtain ⟨o, ho, q⟩ := htup
    exact ⟨o, x₁.keep _ o (by simpa using hta.2.1) ho, q⟩
  refine assign2 a.handled Fr n₁ (by simp) (by simp) ht₁ fun s₂ x₂ n₂ => ?_
  have y₂ : Ext [] s₀ s₂ := (T.ext.via x₁ fun b hb => .inr (by rw [List.mem_singleton.mp hb]; exact T.lo2)).via x₂ fun b hb => .inr (by rw [List.mem_singleton.mp hb]; exact T.lo1)
  have H₂ := H.keep (h' := s₂.heap) fun b hb o e => x₂.keep b o (by simpa using fun z : b = env.locals => hL (z ▸ hb)) (x₁.keep b o (by simpa using fun z : b = cc => hc (z ▸ hb)) e)
  have hcc₂ : s₂.heap.get? cc = some (listO r k₁) := x₂.keep _ _ (by simpa using ccL) hcc₁
  have hprs₂ : Prs s₂.heap (env.locals :: cc :: rl x d gg gn ga as ls) ps r := hprs'.mono fun b o hb e => by
    simp only [List.mem_cons, not_or] at hb
    exact ⟨x₂.keep b o (by simpa using hb.1) (x₁.keep b o (by simpa using hb.2.1) e), by simp only [List.mem_cons, not_or]; exact hb⟩
  -- after the test, the last statement
  have hlast : ∀ (s₃ : Shared) as' ls' m' g₁, Ext (env.locals :: rl x d gg gn ga as ls) s₂ s₃ → (∀ c ∈ rl x d gg gn ga as' ls', c ∈ rl x d gg gn ga as ls ∨ s₂.heap.objs.size ≤ c) → s₃.heap.Ns env.locals m' → m' "G" = some (.ref x) → m' "ci" = some (.ref cc) → m' "v" = some (.int v tv) → GAt prog w C s₃.heap x d gg gn ga as' ls' g₁ → g₁.length ≤ 999 → addN g₁ v = g' →
      wpAny (model prog w) A (execs (tgBody.drop 2) env) Q E s₃ := by
    intro s₃ as' ls' m' g₁ x₃ hf n₃ m1 m2 m3 H₃ hg₁ hgg
    have zz : ∀ {b : Addr}, b < s₂.heap.objs.size → b ∉ rl x d gg gn ga as ls → b ∉ rl x d gg gn ga as' ls' := fun h1 h2 q => by
      rcases hf _ q with z | z
      · exact h2 z
      · exact Nat.lt_irrefl _ (Nat.lt_of_lt_of_le h1 z)
    have z₃ : Ext [] s₀ s₃ := y₂.via x₃ fun b hb => by
      simp only [List.mem_cons] at hb
      rcases hb with rfl | hb
      · exact .inr T.lo1
      · exact .inr (hlo b hb)
    have hlo' : ∀ b ∈ rl x d gg gn ga as' ls', s₀.heap.objs.size ≤ b := fun b hb => by
      rcases hf b hb with q | q
      · exact hlo b q
      · exact Nat.le_trans y₂.size q
    have hb' : ∀ b ∈ rl x d gg gn ga as' ls', h₀.get? b = none := fun b hb => by
      cases q : h₀.get? b with
      | none => rfl
      | some o => exact absurd (Heap.lt_size (old _ _ q)) (Nat.not_lt.mpr (hlo' b hb))
    obtain ⟨fn, fdn, hmn, Dn, hbn, hfn⟩ := K.node
    refine wpAny_execs_cons (expr_none Fr (by rfl) (Call_meth1 (by rfl) (by rfl) (by rfl) (lname (v := .ref x) Fr n₃ (by simp) m1 (by decide +kernel) fun pl => gmeth (x := x) (y := none) K.gc Dn (oldz z₃) H₃.ofInst hmn (by kernel_rfl) (by rfl)
      (callF1 Dn (lname (v := .int v tv) Fr n₃ (by simp) m3 (by decide +kernel) ⟨oldz z₃, add_node_ok (l := l) K.gc K.f4 K.f5 Dn (fun vs e => hbn vs e) hfn (AOk.mono (by omega) a) (oldz z₃) (Nat.lt_of_lt_of_le hsz z₃.size) H₃ hlo' hsz hb' hg₁ fun s₄ as₄ ls₄ st H₄ => ?_⟩)))))
    refine ⟨rfl, wpAny_execs_nil (h s₄ ⟨z₃.via st.ext fun b hb => .inr (hlo' b hb), ⟨m', n₃.at fun o e => st.ext.keep _ o (zz n₂.lt hL) e, m1, m2⟩, ⟨as₄, ls₄, by rw [← hgg]; exact H₄, fun b hb => ?_, ?_, ?_, r, k₁, ?_, ?_⟩, ccL, T.lo1, T.lo2⟩)⟩
    · rcases st.fresh b hb with q | q
      · exact hlo' b q
      · exact Nat.le_trans z₃.size q
    · intro q
      rcases st.fresh _ q with q | q
      · exact zz n₂.lt hL q
      · exact Nat.lt_irrefl _ (Nat.lt_of_lt_of_le n₃.lt q)
    · intro q
      have hcs : cc < s₃.heap.objs.size := Nat.lt_of_lt_of_le (Heap.lt_size hcc₂) x₃.size
      rcases st.fresh _ q with q | q
      · exact zz (Heap.lt_size hcc₂) hc q
      · exact Nat.lt_irrefl _ (Nat.lt_of_lt_of_le hcs q)
    · refine st.ext.keep _ _ (zz (Heap.lt_size hcc₂) hc) (x₃.keep _ _ ?_ hcc₂)
      simp only [List.mem_cons, not_or]; exact ⟨ccL, hc⟩
    · refine hprs₂.mono fun b o hb e => ?_
      simp only [List.mem_cons, not_or] at hb
      have e₃ := x₃.keep b o (by simp only [List.mem_cons, not_or]; exact ⟨hb.1, hb.2.2⟩) e
      have hbr := zz (Heap.lt_size e) hb.2.2
      refine ⟨st.ext.keep b o hbr e₃, ?_⟩
      simp only [List.mem_cons, not_or]
      refine ⟨hb.1, hb.2.1, fun q => ?_⟩
      rcases st.fresh _ q with q | q
      · exact hbr q
      · exact Nat.lt_irrefl _ (Nat.lt_of_lt_of_le (Heap.lt_size e₃) q)
  unfold stepG at hp
  refine wpAny_execs_cons (wpAny_If (wpAny_isTrue_Compare1 (lname (v := .str ⟨sy.toArray⟩ ts) Fr n₂ (by simp) (by rfl) (by decide +kernel) (Calls.Constant_str (P.eq_str (wpAny_truthy_bool ?_)))) (by rfl)))
  rw [show (Str.ofString "d").cps.toList = [100] from rfl, show ((⟨sy.toArray⟩ : Str).cps.toList) = sy from rfl, isD_eq]
  have xt : Ext [] s₂ { s₂ with toks := s₂.toks + 1 } := Ext.tok s₂ 1
  have yt : Ext [] s₀ { s₂ with toks := s₂.toks + 1 } := y₂.trans xt
  cases hd : isD sy with
  | false =>
    rw [hd] at hp
    (try dsimp only at hp)
    split at hp
    · cases hp
      rw [if_neg Bool.false_ne_true]
      exact wpAny_execs_nil (hlast _ as ls _ g (xt.mono (by simp)) (fun b hb => .inl hb) n₂ (by exact mG) (by exact mci) (by rfl) H₂ hg rfl)
    · cases hp
  | true =>
    rw [hd] at hp
    (try dsimp only at hp)
    rw [if_pos rfl]
    cases he : edgesTo v (keysG g) g with
    | none => rw [he] at hp; cases hp
    | some g₁ =>
      rw [he] at hp
      (try dsimp only at hp)
      split at hp
      · rename_i hle
        cases hp
        refine wpAny_execs_cons (edges_ok (l := l) (s := { s₂ with toks := s₂.toks + 1 }) B K a s₀ yt old hsz Fr n₂ T.lo1 (by simp) (by simp) (by simp) (by simp) (by exact mG) (by rfl) (by decide +kernel) (by decide +kernel) (by decide +kernel) (by decide +kernel) (by decide +kernel) H₂ hlo hL hg he (by rfl) (by rfl) (by rfl) (by rfl) (by rfl) (fun y => by rfl) fun s₃ as₃ ls₃ m₃ x₃ hf₃ n₃ hm₃ H₃ => ?_)
        refine wpAny_execs_nil (hlast s₃ as₃ ls₃ m₃ g₁ ((xt.mono (by simp)).trans x₃) hf₃ n₃ ?_ ?_ ?_ H₃ (of_decide_eq_true hle) rfl)
        · rw [hm₃ _ (by decide +kernel)]; exact mG
        · rw [hm₃ _ (by decide +kernel)]; exact mci
        · rw [hm₃ _ (by decide +kernel)]; rfl
      · cases hp
end
end Mine

-- part V78
namespace Mine
open PySem PySem.W PyProof.Rows

theorem edgesTo_len {v : Int} : ∀ {us : List Int} {g g' : Gr}, edgesTo v us g = some g' → us = [] ∨ g.length ≤ 999
  | [], _, _, _ => .inl rfl
  | u :: us, g, g', h => by
    rw [edgesTo] at h
    cases hc : chkE g v u with
    | false => rw [hc] at h; cases h
    | true => exact .inr (chkE_ok hc).le.1
theorem stepG_len {g g' : Gr} {v : Int} {s : List Nat} (h : stepG g v s = some g') : g.length ≤ 999 := by
  unfold stepG at h
  cases hd : isD s with
  | false =>
    rw [hd] at h
    (try dsimp only at h)
    split at h
    · rename_i hle; exact of_decide_eq_true hle
    · cases h
  | true =>
    rw [hd] at h
    (try dsimp only at h)
    cases he : edgesTo v (keysG g) g with
    | none => rw [he] at h; cases h
    | some g₁ =>
      rcases edgesTo_len he with q | q
      · have : g.length = 0 := by have := congrArg List.length q; simpa [keysG] using this
        omega
      · exact q
def gtree (g : Gr) : PV := .graph (.dct (keysG g) (g.map fun p => .dct p.2 (p.2.map fun _ => .any)))

section
variable {prog : Program} {w : World} {C : Addr} {h₀ : Heap} {A : Around} {E : Value → Shared → Prop} {s : Shared} {env : Env} {xs gs : List Str} {m : Str → Option Value}

theorem VRs.anys {h : Heap} {W : List Addr} : ∀ {α : Type} (l : List α) (vs : List Value), vs.length = l.length → VRs prog w C h W (l.map fun _ => .any) vs
  | _, [], [], _ => rfl
  | _, [], _ :: _, h => by simp at h
  | _, _ :: _, [], h => by simp at h
  | _, _ :: l, v :: vs, h => ⟨v, vs, rfl, trivial, VRs.anys l vs (by simpa using h)⟩

theorem VRs.ofGet {h : Heap} {W : List Addr} : ∀ {ps : List PV} {vs : List Value}, vs.length = ps.length → (∀ (i : Nat) p v, ps[i]? = some p → vs[i]? = some v → VR prog w C h W p v) → VRs prog w C h W ps vs
  | [], [], _, _ => rfl
  | [], _ :: _, h, _ => by simp at h
  | _ :: _, [], h, _ => by simp at h
  | p :: ps, v :: vs, h, k => ⟨v, vs, rfl, k 0 p v rfl rfl, VRs.ofGet (by simpa using h) fun i p v h1 h2 => k (i + 1) p v (by simpa using h1) (by simpa using h2)⟩

/-- the graph as a tree -/
theorem GAt.tree {h : Heap} {x d gg gn ga : Addr} {as ls : List Addr} {g : Gr} {W : List Addr} (H : GAt prog w C h x d gg gn ga as ls g) (hW : ∀ c ∈ rl x d gg gn ga as ls, c ∉ W ∧ 1 < c) : VR prog w C h W (gtree g) (.ref x) := by
  obtain ⟨o, h1, h2, h3, h4, h5⟩ := H.inst
  have hnd := H.nd
  simp only [List.nodup_cons, List.mem_cons, not_or] at hnd
  have hsys : ∀ {c : Addr}, c ∈ rl x d gg gn ga as ls → (c == sysModules) = false := fun hc => no_sys (hW _ hc).2
  refine ⟨x, o, d, gmA gg gn ga, ga, rfl, (hW x (by simp [rl])).1, h1, h2, h3, h4, Ne.symm hnd.1.1, (hW d (by simp [rl])).1, h5, rfl, ?_⟩
  obtain ⟨ep, hda⟩ := H.adj.dictAt
  refine ⟨ga, as.map Value.ref, ep, rfl, (hW ga (by simp [rl])).1, hda, by simp [keysG, H.len], ?_, hsys (by simp [rl])⟩
  refine VRs.ofGet (by simp [H.len]) fun i p v e1 e2 => ?_
  rw [List.getElem?_map] at e1 e2
  cases hg : g[i]? with
  | none => rw [hg] at e1; cases e1
  | some q =>
    rw [hg] at e1
    cases ha : as[i]? with
    | none => rw [ha] at e2; cases e2
    | some a =>
      rw [ha] at e2
      cases e1; cases e2
      obtain ⟨vs, k1, k2, _⟩ := H.inner i q a hg ha
      obtain ⟨ep', hd'⟩ := k1.dictAt
      have har : a ∈ rl x d gg gn ga as ls := by simp [rl, List.mem_of_getElem? ha]
      exact ⟨a, vs, ep', rfl, (hW a har).1, hd', k2.symm, VRs.anys _ _ k2, hsys har⟩

/-- G.graph[..] = a text -/
theorem GAt.named {h h' : Heap} {x d gg gn ga : Addr} {as ls : List Addr} {g : Gr} {v : Value} {kvs : List (Str × Value)} (H : GAt prog w C h x d gg gn ga as ls g) (hk : ∀ p ∈ kvs, p.1 = Str.ofString "name") (hd : h'.DictOf (PySem.strKind prog w) gg (stored kvs (Str.ofString "name") v))
    (k : ∀ b o, b ≠ gg → h.get? b = some o → h'.get? b = some o) : GAt prog w C h' x d gg gn ga as ls g := by
  have hnd := H.nd
  have hlf := H.lf
  simp only [List.nodup_cons, List.mem_cons, not_or] at hnd
  simp only [List.mem_cons, not_or] at hlf
  obtain ⟨⟨q1, q2, q3, q4, q5⟩, ⟨q6, q7, q8, q9⟩, ⟨q10, q11, q12⟩, ⟨q13, q14⟩, q15, q16⟩ := hnd
  refine ⟨?_, ⟨_, hd, fun p hp => ?_⟩, ?_, H.adj.at fun o e => k ga o (Ne.symm q11) e, H.len, ?_, fun e he => (H.leaf e he).at fun o z => k e o (hlf e he).2.2.1 z, H.nd, H.lf⟩
  · obtain ⟨o, h1, h2, h3, h4, h5⟩ := H.inst
    exact ⟨o, k x o q2 h1, h2, h3, h4, h5.at fun o e => k d o q6 e⟩
  · unfold stored at hp
    split at hp
    · obtain ⟨r, hr, e⟩ := List.mem_map.mp hp
      have := hk r hr
      split at e <;> (rw [← e]; exact this)
    · rcases List.mem_append.mp hp with q | q
      · exact hk p q
      · rw [List.mem_singleton.mp q]
  · obtain ⟨vs, h1, h2, h3⟩ := H.nodes
    exact ⟨vs, h1.at fun o e => k gn o (Ne.symm q10) e, h2, h3⟩
  · intro i p a h1 h2
    obtain ⟨vs, h3, h4, h5⟩ := H.inner i p a h1 h2
    exact ⟨vs, h3.at fun o e => k a o (fun z => q12 (z ▸ List.mem_of_getElem? h2)) e, h4, h5⟩

/-- the loop -/
theorem while_ok {l : Nat} {x d gg gn ga cc : Addr} {g gE : Gr} {mN : Str → Option Value} {ps : List (Int × List Nat)} {s₀ : Shared} {Q : Flow → Shared → Prop} {px p : Pos}
    (B : Base h₀) (K : GK h₀ C mN) (a : AOk (l + 4) A) (old : ∀ b o, h₀.get? b = some o → s₀.heap.get? b = some o) (hsz : 1 < s₀.heap.objs.size) (Fr : Fe env tgXs tgGs)
    (T : TSt prog w C s₀ s env.locals x d gg gn ga cc ps g) (hps : ps.length ≤ 900) (hp : growG ps g = some gE)
    (h : ∀ s', TSt prog w C s₀ s' env.locals x d gg gn ga cc [] gE → Q .next s') : wpAny (model prog w) A (exec (.While (.Name "ci" px) tgBody [] p) env) Q E s := by
  refine wpAny_While (codeAny_whileLoop (fun j s₁ => ∃ ps g, j = ps.length ∧ ps.length ≤ 900 ∧ TSt prog w C s₀ s₁ env.locals x d gg gn ga cc ps g ∧ growG ps g = some gE) ?_ ps.length ⟨ps, g, rfl, hps, T, hp⟩)
  rintro j s₁ ⟨ps, g, rfl, hps, T, hp⟩
  obtain ⟨m, n, mG, mci⟩ := T.ns
  obtain ⟨as, ls, H, hlo, hL, hc, vs, k, hcc, hprs⟩ := id T.gr
  have hln := hprs.len
  refine isTrue_plain (lname (v := .ref cc) Fr n (by simp) mci (by decide +kernel) (wpAny_truthy_list (items := vs.toArray) ⟨_, hcc, rfl, _, rfl⟩ (by simp; omega) ?_)) (by rfl)
  have xt : Ext [] s₁ { s₁ with toks := s₁.toks + 1 + 1 } := Ext.tok s₁ 2
  have T' : TSt prog w C s₀ { s₁ with toks := s₁.toks + 1 + 1 } env.locals x d gg gn ga cc ps g := ⟨T.ext.trans xt, T.ns, T.gr, T.ccL, T.lo1, T.lo2⟩
  cases ps with
  | nil =>
    have : vs = [] := List.eq_nil_of_length_eq_zero hln
    subst this
    rw [if_neg (by simp)]
    cases hp
    exact wpAny_execs_nil (h _ T')
  | cons q ps =>
    have hv : vs ≠ [] := fun e => by rw [e] at hln; simp at hln
    rw [if_pos (by simpa using hv)]
    rw [growG] at hp
    cases hs : stepG g q.1 q.2 with
    | none => rw [hs] at hp; cases hp
    | some g' =>
      rw [hs] at hp
      refine turn_ok (l := l) B K a old hsz Fr (v := q.1) (sy := q.2) T' (by simp at hps; omega) (stepG_len hs) hs fun s' T₂ => ?_
      exact ⟨ps.length, by simp, ps, g', rfl, by simp at hps; omega, T₂, hp⟩
end
end Mine

-- part V79
namespace Mine
open PySem PySem.W PyProof.Rows

section
variable {prog : Program} {w : World} {C : Addr} {h₀ : Heap} {A : Around} {E : Value → Shared → Prop} {s : Shared} {env : Env} {xs gs : List Str} {m : Str → Option Value}

/-- threshold_graph, once ci stands -/
theorem tail_ok {l : Nat} {cc : Addr} {gE : Gr} {mN : Str → Option Value} {ps : List (Int × List Nat)} {s₀ : Shared} {vs : List Value} {k : Nat} {Q : Flow → Shared → Prop} {W : List Addr}
    (B : Base h₀) (K : GK h₀ C mN) (a : AOk (l + 4) A) (old : ∀ b o, h₀.get? b = some o → s₀.heap.get? b = some o) (hsz : 1 < s₀.heap.objs.size) (Fr : Fe env tgXs tgGs) (x₀ : Ext [] s₀ s)
    (hl0 : s₀.heap.objs.size ≤ env.locals) (n : s.heap.Ns env.locals m) (hcu : m "create_using" = some .none) (mci : m "ci" = some (.ref cc)) (hcc : s.heap.get? cc = some (listO vs k)) (hc0 : s₀.heap.objs.size ≤ cc) (ccL : cc ≠ env.locals)
    (hprs : Prs s.heap [env.locals, cc] ps vs) (hps : ps.length ≤ 900) (hp : growG ps [] = some gE) (hW : ∀ b ∈ W, b < s₀.heap.objs.size)
    (h : ∀ v s', Ext [] s₀ s' → VR prog w C s'.heap W (gtree gE) v → Q (.ret v) s') : wpAny (model prog w) A (execs ((fnB 21).drop 2) env) Q E s := by
  have oldz : ∀ {s' : Shared}, Ext [] s₀ s' → ∀ b o, h₀.get? b = some o → s'.heap.get? b = some o := fun y b o e => y.keep b o (by simp) (old b o e)
  obtain ⟨fde, De, hbe, hfe⟩ := id K.empty
  obtain ⟨fd1, fdd, hmd, Dd, hbd, hfd⟩ := K.directed
  refine wpAny_execs_cons (wpAny_Assign_Name (wpAny_Call_NameR (gname Fr (by simp) K.gempty (oldz x₀) (by decide +kernel) (callF2 De (wpAny_mkInt (lname (v := .none) Fr n (by simp) hcu (by decide +kernel) ⟨oldz (x₀.trans (Ext.tok s 1)), empty_ok (l := l) B K a (oldz (x₀.trans (Ext.tok s 1))) (Nat.lt_of_lt_of_le hsz x₀.size) fun x d gg gn ga s₂ x₂ hfr H₂ => ?_⟩))))) (by rfl))
  have x₂' : Ext [] s s₂ := (Ext.tok s 1).trans x₂
  have n₂ := n.keeps fun b o e => x₂'.keep b o (by simp) e
  have hfr0 : ∀ b ∈ rl x d gg gn ga [] [], s.heap.objs.size ≤ b := hfr
  have nl : ∀ {b : Addr}, b ∈ rl x d gg gn ga [] [] → b ≠ env.locals := fun hb q => Nat.lt_irrefl _ (Nat.lt_of_lt_of_le n.lt (q ▸ hfr0 _ hb))
  refine lstore Fr n₂ (by simp) fun s₃ x₃ n₃ => ?_
  have y₃ : Ext [env.locals] s s₃ := (x₂'.mono (by simp)).trans x₃
  have H₃ := H₂.keep (h' := s₃.heap) fun b hb o e => x₃.keep b o (by simpa using nl hb) e
  have z₃ : Ext [] s₀ s₃ := x₀.via y₃ fun b hb => .inr (by rw [List.mem_singleton.mp hb]; exact hl0)
  refine wpAny_execs_cons (wpAny_If (isTrue_plain (Call_meth0 (by rfl) (by rfl) (lname (v := .ref x) Fr n₃ (by simp) (by rfl) (by decide +kernel) fun pl => gmeth (x := x) (y := none) K.gc Dd (oldz z₃) H₃.ofInst hmd (by kernel_rfl) (by rfl) (callF0 Dd (oldz z₃) (directed_ok (l := l) Dd hbd hfd (AOk.mono (by omega) a) (oldz z₃) fun s₄ x₄ => wpAny_truthy_bool ?_)))) (by rfl)))
  rw [if_neg Bool.false_ne_true]
  refine wpAny_execs_nil ?_
  have y₄ : Ext [env.locals] s s₄ := y₃.trans (x₄.mono (by simp))
  have z₄ := z₃.trans x₄
  have n₄ := n₃.keeps fun b o e => x₄.keep b o (by simp) e
  have H₄ := H₃.keep (h' := s₄.heap) fun b hb o e => x₄.keep b o (by simp) e
  obtain ⟨kvs, hk1, hk2⟩ := H₄.gr
  have hkl : kvs.length ≤ sizeLine := by
    obtain ⟨_, _, _, _, _, _, _, _, hnd⟩ := hk1
    have h1 : (1 : Nat) ≤ sizeLine := by decide
    cases kvs with
    | nil => simp
    | cons p r =>
      cases r with
      | nil => simpa using h1
      | cons q r =>
        have e1 := hk2 p (by simp)
        have e2 := hk2 q (by simp)
        simp [e1, e2] at hnd
  refine wpAny_execs_cons (wpAny_Assign_Subscript (Calls.Constant_str (Attribute_any_ (lname (s := { s₄ with toks := s₄.toks + 1 }) (v := .ref x) Fr n₄ (by simp) (by rfl) (by decide +kernel) ?_) (by rfl))) (by rfl))
  refine gload (s := { s₄ with toks := s₄.toks + 1 }) (v := .ref gg) (C := C) K.gc (oldz (z₄.trans (Ext.tok s₄ 1))) H₄.ofInst (K.gc.no _ (by simp)) (by kernel_rfl) (by rfl) (by rfl) (Calls.Constant_str ?_)
  refine wpAny_setItem_pairs (knd := PySem.strKind prog w) (k := Str.ofString "name") (kvs := kvs) (show Value.isStrOf (Str.ofString "name") (.str (Str.ofString "name") (s₄.toks + 1 + 1)) = true by simp [Value.isStrOf]) hk1 (fun h' hm hs => ?_) hkl
  have x₅ : Ext [gg] s₄ { s₄ with heap := h', toks := s₄.toks + 1 + 1 + 1 + 1 } := Ext.sameBut (by omega) hs
  generalize hs₅ : ({ s₄ with heap := h', toks := s₄.toks + 1 + 1 + 1 + 1 } : Shared) = s₅ at *
  obtain ⟨vv, hm₅⟩ : ∃ vv, s₅.heap.DictOf (PySem.strKind prog w) gg (stored kvs (Str.ofString "name") vv) := ⟨_, by rw [← hs₅]; exact hm⟩
  have H₅ := H₄.named hk2 hm₅ fun b o hb e => x₅.keep b o (by simpa using hb) e
  have hgg : gg ∈ rl x d gg gn ga [] [] := by simp [rl]
  have z₅ : Ext [] s₀ s₅ := z₄.via x₅ fun b hb => .inr (by rw [List.mem_singleton.mp hb]; exact Nat.le_trans x₀.size (hfr0 gg hgg))
  have ggL : gg ≠ env.locals := nl hgg
  have n₅ := n₄.at fun o e => x₅.keep _ o (by simpa using ggL.symm) e
  have alive : ∀ {b : Addr} {o : Obj}, s.heap.get? b = some o → b ∉ rl x d gg gn ga [] [] := fun e q => Nat.lt_irrefl _ (Nat.lt_of_lt_of_le (Heap.lt_size e) (hfr0 _ q))
  have kp : ∀ b o, b ≠ env.locals → s.heap.get? b = some o → s₅.heap.get? b = some o := fun b o hb e => x₅.keep b o (by simp only [List.mem_singleton]; exact fun z => alive e (z ▸ hgg)) (y₄.keep b o (by simpa using hb) e)
  have T : TSt prog w C s₀ s₅ env.locals x d gg gn ga cc ps [] := by
    refine ⟨z₅, ⟨_, n₅, by rfl, ?_⟩, ⟨[], [], H₅, fun b hb => Nat.le_trans x₀.size (hfr0 b hb), fun q => nl q rfl, alive hcc, vs, k, kp _ _ ccL hcc, ?_⟩, ccL, hl0, hc0⟩
    · exact mci
    · refine hprs.mono fun b o hb e => ?_
      simp only [List.mem_cons, List.not_mem_nil, or_false, not_or] at hb ⊢
      exact ⟨kp b o hb.1 e, hb.1, hb.2, alive e⟩
  refine wpAny_execs_cons (while_ok (l := l) B K a old hsz Fr T hps hp fun s₆ T₆ => ?_)
  obtain ⟨m₆, n₆, mG, _⟩ := T₆.ns
  obtain ⟨as, ls, H₆, hlo, _⟩ := T₆.gr
  refine wpAny_execs_cons (wpAny_Return_some (lname (v := .ref x) Fr n₆ (by simp) mG (by decide +kernel) (h _ s₆ T₆.ext (H₆.tree fun c hc => ⟨fun q => Nat.lt_irrefl _ (Nat.lt_of_lt_of_le (hW c q) (hlo c hc)), Nat.lt_of_lt_of_le hsz (hlo c hc)⟩))))
end
end Mine

-- part V80
namespace Mine
open PySem PySem.W PyProof.Rows

def strPairs (i : Nat) : List PV → Option (List (Int × List Nat))
  | [] => some []
  | .str s :: r => match strPairs (i + 1) r with
    | some ps => some ((Int.ofNat i, s) :: ps)
    | none => none
  | _ => none
def tupPairs : List PV → Option (List (Int × List Nat))
  | [] => some []
  | .tup [.int v, .str s] :: r => match tupPairs r with
    | some ps => some ((v, s) :: ps)
    | none => none
  | _ => none
def tgPairs (U : List PV → Option PV) : List PV → Option (List (Int × List Nat))
  | .str s :: r => strPairs 0 (.str s :: r)
  | .tup t :: r => tupPairs (.tup t :: r)
  | .int i :: r => match U [.lst (.int i :: r)] with
    | some (.lst l) => strPairs 0 l
    | _ => none
  | _ => none
def tgF (U : List PV → Option PV) : List PV → Option PV
  | [.lst l] => match tgPairs U l with
    | some ps => match decide (ps.length ≤ 900) with
      | true => match growG ps [] with
        | some g => some (gtree g)
        | none => none
      | false => none
    | none => none
  | _ => none

theorem strPairs_get : ∀ {l : List PV} {i : Nat} {ps : List (Int × List Nat)}, strPairs i l = some ps → ps.length = l.length ∧ ∀ (j : Nat) p, ps[j]? = some p → p.1 = Int.ofNat (i + j) ∧ l[j]? = some (.str p.2)
  | [], i, ps, h => by cases h; exact ⟨rfl, fun j p e => by simp at e⟩
  | .str s :: r, i, ps, h => by
    rw [strPairs] at h
    cases hr : strPairs (i + 1) r with
    | none => rw [hr] at h; cases h
    | some ps' =>
      rw [hr] at h; cases h
      obtain ⟨h1, h2⟩ := strPairs_get hr
      refine ⟨by simp [h1], fun j p e => ?_⟩
      cases j with
      | zero => cases e; exact ⟨rfl, rfl⟩
      | succ j =>
        have := h2 j p (by simpa using e)
        refine ⟨?_, by simpa using this.2⟩
        rw [this.1]; congr 1; omega
  | .any :: _, _, _, h | .none :: _, _, _, h | .bool _ :: _, _, _, h | .int _ :: _, _, _, h | .flt _ :: _, _, _, h | .tup _ :: _, _, _, h | .lst _ :: _, _, _, h | .bag _ :: _, _, _, h | .dct _ _ :: _, _, _, h
  | .set _ _ :: _, _, _, h | .graph _ :: _, _, _, h | .rng _ _ :: _, _, _, h => by cases h
theorem tupPairs_get : ∀ {l : List PV} {ps : List (Int × List Nat)}, tupPairs l = some ps → ps.length = l.length ∧ ∀ (j : Nat) p, ps[j]? = some p → l[j]? = some (.tup [.int p.1, .str p.2]) := by
  intro l
  induction l with
  | nil => intro ps h; cases h; exact ⟨rfl, fun j p e => by simp at e⟩
  | cons q r ih =>
    intro ps h
    unfold tupPairs at h
    split at h
    · rename_i e; cases e
    · rename_i v s r' e
      cases e
      split at h
      · rename_i ps' hr
        cases h
        obtain ⟨h1, h2⟩ := ih hr
        refine ⟨by simp [h1], fun j p e => ?_⟩
        cases j with
        | zero => cases e; rfl
        | succ j => simpa using h2 j p (by simpa using e)
      · cases h
    · cases h

section
variable {prog : Program} {w : World} {C : Addr} {h₀ : Heap} {A : Around} {E : Value → Shared → Prop} {s : Shared} {env : Env} {xs gs : List Str} {m : Str → Option Value}

theorem Prs.ofGet {h : Heap} {bad : List Addr} : ∀ {ps : List (Int × List Nat)} {vs : List Value}, vs.length = ps.length → (∀ (j : Nat) v p, vs[j]? = some v → ps[j]? = some p → ∃ ta t u, v = .ref ta ∧ ta ∉ bad ∧ h.IsTuple ta #[.int p.1 t, .str ⟨p.2.toArray⟩ u]) → Prs h bad ps vs
  | [], [], _, _ => rfl
  | [], _ :: _, h, _ => by simp at h
  | _ :: _, [], h, _ => by simp at h
  | p :: ps, v :: vs, h, k => by
    obtain ⟨ta, t, u, e1, e2, e3⟩ := k 0 v p rfl rfl
    exact ⟨v, vs, ta, t, u, rfl, e1, e2, e3, Prs.ofGet (by simpa using h) fun j v p h1 h2 => k (j + 1) v p (by simpa using h1) (by simpa using h2)⟩

theorem Tups.prs {h : Heap} {W : List Addr} {lo c : Nat} {L : Addr} {l : List PV} {vs₀ vs : List Value} {ps : List (Int × List Nat)} (T : Tups h lo [c] vs₀.toArray vs₀.length vs) (hL : L < lo) (hv : VRs prog w C h W l vs₀) (hp : strPairs 0 l = some ps) : Prs h [L, c] ps vs := by
  obtain ⟨h1, h2⟩ := strPairs_get hp
  refine Prs.ofGet (by rw [T.len, hv.length, h1]) fun j v p e1 e2 => ?_
  obtain ⟨t, a, x, q1, q2, q3, q4, q5⟩ := T.at_ j v e1
  obtain ⟨k1, k2⟩ := h2 j p e2
  obtain ⟨v', r1, r2⟩ := VRs.get hv k2
  have : x = v' := by
    have : vs₀[j]? = some x := by simpa using q4
    rw [r1] at this; exact (Option.some.inj this).symm
  subst this
  obtain ⟨u, rfl⟩ := r2
  refine ⟨a, t, u, q1, ?_, ⟨_, q5, rfl, 0, ?_⟩⟩
  · simp only [List.mem_cons, List.not_mem_nil, or_false, not_or] at q3 ⊢
    exact ⟨fun z => Nat.lt_irrefl _ (Nat.lt_of_lt_of_le (z ▸ hL) q2), q3⟩
  · rw [k1]; simp

/-- ci = list(enumerate(c)) -/
theorem ci_enum {l : List PV} {W : List Addr} {cx : Str} {p1 p2 p3 p4 p5 p6 p7 : Pos} {a : Addr} {vs₀ : List Value} {ps : List (Int × List Nat)} {Q : Flow → Shared → Prop} {lv : Nat}
    (B : Base h₀) (ak : AOk lv A) (old : ∀ b o, h₀.get? b = some o → s.heap.get? b = some o) (Fr : Fe env tgXs tgGs) (n : s.heap.Ns env.locals m) (hcx : cx ∈ tgXs) (hcv : m cx = some (.ref a)) (hd : (cx == ("__debug__" : Str)) = false)
    (hl : s.heap.PlainList a vs₀.toArray) (hv : VRs prog w C s.heap (env.locals :: W) l vs₀) (hp : strPairs 0 l = some ps) (hz : ps.length ≤ 900)
    (htr : backTo p7 (starEach [.Call (.Name "enumerate" p3) [.Name cx p4] [] p5] env) = [(false, eval (.Call (.Name "enumerate" p3) [.Name cx p4] [] p5) env)]) (htr2 : backTo p5 (starEach [.Name cx p4] env) = [(false, eval (.Name cx p4) env)])
    (hsw : swapsWith (.Call (.Name "list" p2) [.Call (.Name "enumerate" p3) [.Name cx p4] [] p5] [] p7) (some (.Name "ci" p1)) p6.line env = pure false)
    (h : ∀ s' c vs k, Ext [env.locals] s s' → s'.heap.Ns env.locals (fun y => if y = "ci" then some (.ref c) else m y) → s.heap.objs.size ≤ c → s'.heap.get? c = some (listO vs k) → Prs s'.heap [env.locals, c] ps vs → Q .next s') :
    wpAny (model prog w) A (exec (.Assign [.Name "ci" p1] (.Call (.Name "list" p2) [.Call (.Name "enumerate" p3) [.Name cx p4] [] p5] [] p7) p6) env) Q E s := by
  obtain ⟨hlen, _⟩ := strPairs_get hp
  have hsl : (1000 : Nat) ≤ sizeLine := by decide
  refine wpAny_Assign_Name (wpAny_Call_NameR (bname Fr (by simp) (B.globB (v := .type "list") (by decide +kernel)) old (by decide +kernel) ?_)) hsw
  rw [htr]
  refine PySem.callWith_type (by rfl) (Calls.evalArgs_plain (Calls.spliced_cons ?_))
  refine wpAny_Call_NameR (bname Fr (by simp) (B.globB (v := .type "enumerate") (by decide +kernel)) old (by decide +kernel) ?_)
  rw [htr2]
  refine PySem.callWith_type (by rfl) (Calls.evalArgs_plain (Calls.spliced_cons (lname Fr n hcx hcv hd (Calls.spliced_nil ?_))))
  refine wpAny_mono (list_enum (E := E) (Q := fun v s₁ => wpAny (model prog w) A (storeName env "ci" v) (fun _ => Q .next) E s₁) ak.handled hl.isList (by rw [List.size_toArray, hv.length, ← hlen]; omega) fun s₁ c vs k x₁ hc hcl T => ?_) (fun v s₁ q => Calls.spliced_nil q) fun _ _ e => e
  have cl : c ≠ env.locals := fun q => Nat.lt_irrefl _ (Nat.lt_of_lt_of_le n.lt (q ▸ hc))
  refine lstore Fr (n.keeps fun b o e => x₁.keep b o (by simp) e) (by simp) fun s₂ x₂ n₂ => ?_
  have P₁ : Prs s₁.heap [env.locals, c] ps vs := Tups.prs (prog := prog) (w := w) (C := C) (W := env.locals :: W) (by simpa using T) n.lt (hv.ext x₁) hp
  refine h s₂ c vs k ((x₁.mono (by simp)).trans x₂) n₂ hc (x₂.keep _ _ (by simpa using cl) hcl) (P₁.mono fun b o hb e => ⟨x₂.keep b o (fun q => hb (by simp at q; simp [q])) e, hb⟩)
end
end Mine

-- part V81
namespace Mine
open PySem PySem.W PyProof.Rows

/-- threshold_graph's function object -/
def TgAt (h₀ : Heap) : Prop := ∃ fd, FnAt h₀ 655 fd (fnB 21) ∧ (∀ x, Bnd h₀ (bindArgs fd ⟨[x], []⟩) ((["creation_sequence", "create_using"] : List Str).zip [x, .none])) ∧ FeB fd.scope tgXs tgGs

section
variable {prog : Program} {w : World} {C : Addr} {h₀ : Heap} {A : Around} {E : Value → Shared → Prop} {s : Shared} {env : Env} {xs gs : List Str} {m : Str → Option Value}

/-- isinstance(x, a type) -/
theorem isi_test {x tn : Str} {p1 p2 p3 p4 : Pos} {v : Value} {z : PV} {W : List Addr} {ty : Nat} {b : Bool} {Q : Bool → Shared → Prop} (B : Base h₀) (old : ∀ b o, h₀.get? b = some o → s.heap.get? b = some o) (Fr : Fe env tgXs tgGs) (n : s.heap.Ns env.locals m) (hx : x ∈ tgXs) (hv : m x = some v) (hd : (x == ("__debug__" : Str)) = false)
    (hty : ty < 3) (htn : (tn, ([.type "str", .type "tuple", .type "int"] : List Value).getD ty .none) ∈ bltTab) (htg : tn ∈ tgGs) (hdt : (tn == ("__debug__" : Str)) = false)
    (hp : (match z with | .int _ => some (PV.bool (Nat.beq ty 2)) | .str _ => some (.bool (Nat.beq ty 0)) | .tup _ => some (.bool (Nat.beq ty 1)) | _ => none) = some (.bool b)) (hz : VR prog w C s.heap W z v)
    (hit : isTrue (.Call (.Name "isinstance" p1) [.Name x p2, .Name tn p3] [] p4) env (eval (.Call (.Name "isinstance" p1) [.Name x p2, .Name tn p3] [] p4) env) = (do
      let v ← eval (.Call (.Name "isinstance" p1) [.Name x p2, .Name tn p3] [] p4) env
      standAt (Expr.Call (.Name "isinstance" p1) [.Name x p2, .Name tn p3] [] p4).pos
      holding [v] (truthy v)))
    (htr : backTo p4 (starEach [.Name x p2, .Name tn p3] env) = [(false, eval (.Name x p2) env), (false, eval (.Name tn p3) env)])
    (h : ∀ s', Ext [] s s' → Q b s') : wpAny (model prog w) A (isTrue (.Call (.Name "isinstance" p1) [.Name x p2, .Name tn p3] [] p4) env (eval (.Call (.Name "isinstance" p1) [.Name x p2, .Name tn p3] [] p4) env)) Q E s := by
  refine isTrue_plain (wpAny_Call_NameR (bname Fr (by simp) (B.globB (v := .builtin "isinstance") (by decide +kernel)) old (by decide +kernel) ?_)) hit
  rw [htr]
  refine Calls.callWith_builtin (by rfl) (Calls.evalArgs_plain (Calls.spliced_cons (lname Fr n hx hv hd (Calls.spliced_cons (bname Fr htg (B.globB htn) old hdt (Calls.spliced_nil ?_))))))
  refine isi_ok (prog := prog) (w := w) (C := C) hty hp hz fun r s' x' hr => ?_
  rw [show r = .bool b from hr]
  exact wpAny_truthy_bool (h s' x')

theorem tg_ok {lv : Nat} {W : List Addr} {mN : Str → Option Value} {U : List PV → Option PV} {p r : PV} {v : Value} {Q : Value → Shared → Prop} (B : Base h₀) (K : GK h₀ C mN) (TG : TgAt h₀)
    (hU : ∀ ps q, U ps = some q → ∀ (A : Around) (s : Shared) (W : List Addr) (vs : List Value) (Q E : Value → Shared → Prop), OkH h₀ lv A s W → VRs prog w C s.heap W ps vs → (∀ v s', Ext [] s s' → VR prog w C s'.heap W q v → Q v s') → wpAny (model prog w) A (call (.ref 647) vs) Q E s)
    (ok : OkH h₀ (lv + 5) A s W) (hv : VR prog w C s.heap W p v) (hp : tgF U [p] = some r) (h : ∀ v s', Ext [] s s' → VR prog w C s'.heap W r v → Q v s') : wpAny (model prog w) A (call (.ref 655) [v]) Q E s := by
  obtain ⟨fd, D, hb, hfe⟩ := TG
  refine met_callB (ps := [Str.ofString "creation_sequence", Str.ofString "create_using"]) (vs := [v, .none]) D (hb _) hfe (by simp) ok.a ok.old fun env s₁ Fr a₁ x₁ hL n₁ => ⟨fun fl s' => ∃ v, fl = .ret v ∧ Q v s', fun E' => ?_, fun fl s' q => by obtain ⟨v, rfl, q⟩ := q; exact q⟩
  have oldz : ∀ {s' : Shared}, Ext [] s s' → ∀ b o, h₀.get? b = some o → s'.heap.get? b = some o := fun y b o e => y.keep b o (by simp) (ok.old b o e)
  unfold tgF at hp
  split at hp
  · rename_i l e0
    cases e0
    cases hpp : tgPairs U l with
    | none => rw [hpp] at hp; cases hp
    | some ps =>
      rw [hpp] at hp
      (try dsimp only at hp)
      split at hp
      · rename_i hle
        have hps : ps.length ≤ 900 := of_decide_eq_true hle
        cases hg : growG ps [] with
        | none => rw [hg] at hp; cases hp
        | some gE =>
          rw [hg] at hp
          cases hp
          have hW : ∀ b ∈ W, b < s.heap.objs.size := ok.live
          -- the argument, in the frame
          have hvL : VR prog w C s₁.heap (env.locals :: W) (.lst l) v := VR.mono (fun b o hb e => ⟨x₁.keep b o (by simp) e, fun q => by
            rcases List.mem_cons.mp q with q | q
            · exact Nat.lt_irrefl _ (Nat.lt_of_lt_of_le (q ▸ Heap.lt_size e) hL)
            · exact hb q⟩) _ _ hv
          obtain ⟨av, vs₀, rfl, hav, hpl, hvs⟩ := id hvL
          cases l with
          | nil => cases hpp
          | cons z rr =>
          have z₁ : Ext [] s s₁ := x₁
          refine wpAny_execs_cons (wpAny_Assign_Name (Subscript_ (lname (v := .ref av) Fr n₁ (by simp) (by rfl) (by decide +kernel) (wpAny_Constant_int ?_))) (by rfl))
          have xt : Ext [] s₁ { s₁ with toks := s₁.toks + 1 } := Ext.tok s₁ 1
          refine get_ok (slice := .int 0 0 _) (i := .int 0) (show pget (.lst (z :: rr)) (.int 0) = some z from rfl) (hvL.ext xt) ⟨_, rfl⟩ fun v₀ s₂ x₂ hv₀ => ?_
          have y₂ : Ext [] s s₂ := (x₁.trans xt).trans x₂
          have n₂ := n₁.keeps fun b o e => (xt.trans x₂).keep b o (by simp) e
          refine lstore Fr n₂ (by simp) fun s₃ x₃ n₃ => ?_
          have y₃ : Ext [] s s₃ := y₂.via x₃ fun b hb => .inr (by rw [List.mem_singleton.mp hb]; exact hL)
          have mvL : ∀ {q : PV} {u : Value} {s' s'' : Shared}, Ext [env.locals] s' s'' → VR prog w C s'.heap (env.locals :: W) q u → VR prog w C s''.heap (env.locals :: W) q u := fun x H => VR.mono (fun b o hb e => ⟨x.keep b o (fun q => hb (by simp at q; simp [q])) e, hb⟩) _ _ H
          have hv₀₃ : VR prog w C s₃.heap (env.locals :: W) z v₀ := mvL x₃ hv₀
          have hvL₃ : VR prog w C s₃.heap (env.locals :: W) (.lst (z :: rr)) (.ref av) := mvL x₃ ((hvL.ext xt).ext x₂)
          -- the end, once ci stands
          have fin : ∀ (s₄ : Shared) m' cc vs k, Ext [] s s₄ → s₄.heap.Ns env.locals m' → m' "create_using" = some .none → m' "ci" = some (.ref cc) → s₄.heap.get? cc = some (listO vs k) → s.heap.objs.size ≤ cc → cc ≠ env.locals → Prs s₄.heap [env.locals, cc] ps vs →
              wpAny (model prog w) (A.deeper env) (execs ((fnB 21).drop 2) env) (fun fl s' => ∃ v, fl = .ret v ∧ Q v s') E' s₄ := fun s₄ m' cc vs k y₄ n₄ m1 m2 hc h0 hcl hpr =>
            tail_ok (l := lv) B K a₁ ok.old ok.sz Fr y₄ hL n₄ m1 m2 hc h0 hcl hpr hps hg hW fun v s' x' hv' => ⟨v, rfl, h v s' x' hv'⟩
          cases z with
          | str s0 =>
            refine wpAny_execs_cons (wpAny_If (isi_test (ty := 0) (b := true) B (oldz y₃) Fr n₃ (by simp) (by rfl) (by decide +kernel) (by decide) (by decide +kernel) (by simp) (by decide +kernel) rfl hv₀₃ (by rfl) (by rfl) fun s₄ x₄ => ?_))
            rw [if_pos rfl]
            have y₄ := y₃.trans x₄
            have n₄ := n₃.keeps fun b o e => x₄.keep b o (by simp) e
            obtain ⟨av', vs', e', _, hpl₄, hvs₄⟩ := hvL₃.ext x₄
            cases e'
            refine wpAny_execs_cons (ci_enum B a₁ (oldz y₄) Fr n₄ (by simp) (by rfl) (by decide +kernel) hpl₄ hvs₄ hpp hps (by rfl) (by rfl) (by rfl) fun s₅ c vs k x₅ n₅ hc hcl hpr => ?_)
            refine wpAny_execs_nil (fin s₅ _ c vs k (y₄.via x₅ fun b hb => .inr (by rw [List.mem_singleton.mp hb]; exact hL)) n₅ (by rfl) (by rfl) hcl (Nat.le_trans y₄.size hc) (fun q => Nat.lt_irrefl _ (Nat.lt_of_lt_of_le n₄.lt (q ▸ hc))) hpr)
          | tup tt =>
            refine wpAny_execs_cons (wpAny_If (isi_test (ty := 0) (b := false) B (oldz y₃) Fr n₃ (by simp) (by rfl) (by decide +kernel) (by decide) (by decide +kernel) (by simp) (by decide +kernel) rfl hv₀₃ (by rfl) (by rfl) fun s₄ x₄ => ?_))
            rw [if_neg Bool.false_ne_true]
            have y₄ := y₃.trans x₄
            have n₄ := n₃.keeps fun b o e => x₄.keep b o (by simp) e
            refine wpAny_execs_cons (wpAny_If (isi_test (ty := 1) (b := true) B (oldz y₄) Fr n₄ (by simp) (by rfl) (by decide +kernel) (by decide) (by decide +kernel) (by simp) (by decide +kernel) rfl (hv₀₃.ext x₄) (by rfl) (by rfl) fun s₅ x₅ => ?_))
            rw [if_pos rfl]
            have y₅ := y₄.trans x₅
            have n₅ := n₄.keeps fun b o e => x₅.keep b o (by simp) e
            obtain ⟨av', vs', e', hav', hpl₅, hvs₅⟩ := (hvL₃.ext x₄).ext x₅
            cases e'
            obtain ⟨hlen, hget⟩ := tupPairs_get hpp
            have hsl : (1000 : Nat) ≤ sizeLine := by decide
            refine wpAny_execs_cons (wpAny_Assign_Name (wpAny_Subscript_list_slice (lname (v := .ref av) Fr n₅ (by simp) (by rfl) (by decide +kernel) ?_) (fun _ _ => rfl)) (by rfl))
            rw [evalPart_none]
            refine wpAny_pure (wpAny_pure ⟨av, vs'.toArray, none, none, rfl, hpl₅.isList, by rw [List.size_toArray, hvs₅.length, ← hlen]; omega, .none, .none, ?_⟩)
            rw [slicePick_all]
            have x₆ : Ext [] s₅ { s₅ with heap := (s₅.heap.push { cls := .type "slice", data := .fields #[.none, .none, .none] }).push { cls := .type "list", data := .seq vs'.toArray } } := (Ext.push s₅ _).trans (Ext.push _ _)
            have hg6 : ((s₅.heap.push { cls := .type "slice", data := .fields #[.none, .none, .none] }).push { cls := .type "list", data := .seq vs'.toArray }).get? (s₅.heap.push { cls := .type "slice", data := .fields #[.none, .none, .none] }).objs.size = _ := Heap.get?_push_size _ rfl
            rw [show (s₅.heap.push { cls := .type "slice", data := .fields #[.none, .none, .none] }).objs.size = s₅.heap.objs.size + 1 from Heap.size_push ..] at hg6
            refine lstore Fr (n₅.keeps fun b o e => x₆.keep b o (by simp) e) (by simp) fun s₇ x₇ n₇ => ?_
            have cl : s₅.heap.objs.size + 1 ≠ env.locals := fun q => Nat.lt_irrefl _ (Nat.lt_of_lt_of_le n₅.lt (by rw [← q]; exact Nat.le_succ _))
            refine wpAny_execs_nil (wpAny_execs_nil (fin s₇ _ (s₅.heap.objs.size + 1) vs' 0 ((y₅.trans x₆).via x₇ fun b hb => .inr (by rw [List.mem_singleton.mp hb]; exact hL)) n₇ (by rfl) (by rfl) (x₇.keep _ _ (by simpa using cl) hg6) (Nat.le_trans y₅.size (Nat.le_succ _)) cl ?_))
            refine Prs.ofGet (by rw [hvs₅.length, hlen]) fun j v p e1 e2 => ?_
            obtain ⟨v', r1, r2⟩ := VRs.get hvs₅ (hget j p e2)
            rw [e1] at r1; cases r1
            obtain ⟨ta, us, rfl, hta, ⟨o, ho, htt⟩, hus⟩ := r2
            obtain ⟨va, ra, rfl, ⟨t, rfl⟩, hus'⟩ := hus
            obtain ⟨vb, rb, rfl, ⟨u, rfl⟩, hus''⟩ := hus'
            rw [show rb = [] from hus''] at htt
            have htaL : ta ≠ env.locals := fun q => hta (by simp [q])
            refine ⟨ta, t, u, rfl, ?_, ⟨o, x₇.keep _ _ (by simpa using htaL) (x₆.keep _ _ (by simp) ho), htt⟩⟩
            simp only [List.mem_cons, List.not_mem_nil, or_false, not_or]
            exact ⟨htaL, fun q => Nat.lt_irrefl _ (Nat.lt_trans (Nat.lt_succ_self _) (q ▸ Heap.lt_size ho))⟩
          | int i =>
            refine wpAny_execs_cons (wpAny_If (isi_test (ty := 0) (b := false) B (oldz y₃) Fr n₃ (by simp) (by rfl) (by decide +kernel) (by decide) (by decide +kernel) (by simp) (by decide +kernel) rfl hv₀₃ (by rfl) (by rfl) fun s₄ x₄ => ?_))
            rw [if_neg Bool.false_ne_true]
            have y₄ := y₃.trans x₄
            have n₄ := n₃.keeps fun b o e => x₄.keep b o (by simp) e
            refine wpAny_execs_cons (wpAny_If (isi_test (ty := 1) (b := false) B (oldz y₄) Fr n₄ (by simp) (by rfl) (by decide +kernel) (by decide) (by decide +kernel) (by simp) (by decide +kernel) rfl (hv₀₃.ext x₄) (by rfl) (by rfl) fun s₅ x₅ => ?_))
            rw [if_neg Bool.false_ne_true]
            have y₅ := y₄.trans x₅
            have n₅ := n₄.keeps fun b o e => x₅.keep b o (by simp) e
            refine wpAny_execs_cons (wpAny_If (isi_test (ty := 2) (b := true) B (oldz y₅) Fr n₅ (by simp) (by rfl) (by decide +kernel) (by decide) (by decide +kernel) (by simp) (by decide +kernel) rfl ((hv₀₃.ext x₄).ext x₅) (by rfl) (by rfl) fun s₆ x₆ => ?_))
            rw [if_pos rfl]
            have y₆ := y₅.trans x₆
            have n₆ := n₅.keeps fun b o e => x₆.keep b o (by simp) e
            have hvL₆ := ((hvL₃.ext x₄).ext x₅).ext x₆
            unfold tgPairs at hpp
            (try dsimp only at hpp)
            split at hpp
            · rename_i l' hUl
              have hbl : h₀.get? env.locals = none := by
                cases q : h₀.get? env.locals with
                | none => rfl
                | some o => exact absurd (Heap.lt_size (ok.old _ _ q)) (Nat.not_lt.mpr hL)
              have ok₆ : OkH h₀ lv (A.deeper env) s₆ (env.locals :: W) := ⟨AOk.mono (by omega) a₁, oldz y₆, Nat.lt_of_lt_of_le ok.tk y₆.toks, fun b hb => by
                rcases List.mem_cons.mp hb with rfl | hb
                · exact n₆.lt
                · exact Nat.lt_of_lt_of_le (ok.live b hb) y₆.size, fun b hb => by
                rcases List.mem_cons.mp hb with rfl | hb
                · exact hbl
                · exact ok.base b hb, Nat.lt_of_lt_of_le ok.sz y₆.size⟩
              have hst : Steady h₀ (.ref 647) := .inr (.inr (B.fn 6 (by decide) (by decide)))
              have hgm : GlobM h₀ (Str.ofString "uncompact") (.ref 647) := B.globM 6 (by decide) (by decide)
              refine wpAny_execs_cons (wpAny_Assign_Name (wpAny_Call_NameR (gname Fr (by simp) hgm (oldz y₆) (by decide +kernel) (callWith_any hst rfl (Calls.spliced_cons (lname (v := .ref av) Fr n₆ (by simp) (by rfl) (by decide +kernel) (Calls.spliced_nil ⟨oldz y₆, hU _ _ hUl _ _ (env.locals :: W) _ _ _ ok₆ ⟨_, _, rfl, hvL₆, rfl⟩ fun v₇ s₇ x₇ hv₇ => ?_⟩)))))) (by rfl))
              have y₇ := y₆.trans x₇
              have n₇ := n₆.keeps fun b o e => x₇.keep b o (by simp) e
              refine lstore Fr n₇ (by simp) fun s₈ x₈ n₈ => ?_
              have y₈ : Ext [] s s₈ := y₇.via x₈ fun b hb => .inr (by rw [List.mem_singleton.mp hb]; exact hL)
              obtain ⟨av', vs', rfl, _, hpl₈, hvs₈⟩ := mvL x₈ hv₇
              refine wpAny_execs_cons (ci_enum B a₁ (oldz y₈) Fr n₈ (by simp) (by rfl) (by decide +kernel) hpl₈ hvs₈ hpp hps (by rfl) (by rfl) (by rfl) fun s₉ c vs k x₉ n₉ hc hcl hpr => ?_)
              exact wpAny_execs_nil (wpAny_execs_nil (wpAny_execs_nil (fin s₉ _ c vs k (y₈.via x₉ fun b hb => .inr (by rw [List.mem_singleton.mp hb]; exact hL)) n₉ (by rfl) (by rfl) hcl (Nat.le_trans y₈.size hc) (fun q => Nat.lt_irrefl _ (Nat.lt_of_lt_of_le n₈.lt (q ▸ hc))) hpr)))
            · cases hpp
          | any | none | bool _ | flt _ | lst _ | bag _ | dct _ _ | set _ _ | graph _ | rng _ _ => cases hpp
      · cases hp
  · cases hp
end
end Mine

-- part V82
namespace Mine
open PySem PySem.W PyProof.Rows

/-! the text's expressions and statements, read into the evaluator's -/
def posn (s : Str) : List Str → Nat
  | [] => 0
  | t :: r => match t == s with
    | true => 0
    | false => posn s r + 1
def nix (s : Str) : Nat := posn s nmTab
def fix (s : Str) : Nat := posn s fnTab
def tix (s : Str) : Nat := posn s tyTab
def p0 : Pos := ⟨0, 0, 0, 0⟩
def frees : List (Str × NameKind) → List Nat
  | [] => []
  | (x, .free) :: r => nix x :: frees r
  | _ :: r => frees r
def rT : Expr → RT
  | .Name x p => .nm (nix x) p
  | .Tuple [.Name x px, .Name y py] k p => .tp (nix x) px (nix y) py k p
  | _ => .nm 0 p0
section
variable (r : Expr → RE)
def mapE : List Expr → List RE
  | [] => []
  | e :: l => r e :: mapE l
def rI : Expr → RI
  | .Call (.Name f np) [a] [] p => match f == Str.ofString "enumerate" with
    | true => .enum (r a) np p
    | false => .ex (r (.Call (.Name f np) [a] [] p))
  | .Call (.Name f np) [a, b] [] p => match f == Str.ofString "zip" with
    | true => .zip (r a) (r b) np p
    | false => .ex (r (.Call (.Name f np) [a, b] [] p))
  | e => .ex (r e)
def rGs : List Comprehension → List RG
  | [] => []
  | g :: l => .mk (rT g.target) (rI r g.iter) (mapE r g.ifs) :: rGs l
end
def rE : Nat → Expr → RE
  | 0, _ => .none 0 p0
  | n + 1, e => match e with
    | .Constant (.int z) k p => .int z k p
    | .Constant (.str s) k p => .str s.cps.toList k p
    | .Constant .none k p => .none k p
    | .Name x p => .name (nix x) p
    | .BinOp a op b p => .bin op (rE n a) (rE n b) p
    | .UnaryOp .USub a p => .neg (rE n a) p
    | .Compare a [op] [b] p => .cmp op (rE n a) (rE n b) p
    | .BoolOp op es p => .bop op (mapE (rE n) es) p
    | .IfExp t a b p => .ite (rE n t) (rE n a) (rE n b) p
    | .Subscript a i p => .sub (rE n a) (rE n i) p
    | .Attribute a _ p => .adj (rE n a) p
    | .Call (.Name f np) es [] p => match f == Str.ofString "isinstance" with
      | true => match es with
        | [e, .Name ty tp] => .isi (rE n e) (tix ty) np tp p
        | _ => .none 0 p0
      | false => .call (fix f) (mapE (rE n) es) np p
    | .Call (.Attribute a _ ap) [e] [] p => .count (rE n a) (rE n e) ap p
    | .List es p => .list (mapE (rE n) es) p
    | .Tuple es k p => .tup (mapE (rE n) es) k p
    | .ListComp e gs sc p => .lcomp (rE n e) (rGs (rE n) gs) (frees sc.names) sc p
    | .SetComp e gs sc p => .scomp (rE n e) (rGs (rE n) gs) (frees sc.names) sc p
    | .DictComp k v gs sc p => .dcomp (rE n k) (rE n v) (rGs (rE n) gs) (frees sc.names) sc p
    | _ => .none 0 p0
section
variable (own : List Nat)
def isOwn (x : Nat) : List Nat → Bool
  | [] => false
  | y :: r => match Nat.beq x y with
    | true => true
    | false => isOwn x r
def rAsg (x : Nat) (px : Pos) (v : Expr) (p : Pos) : RS := match v with
  | .Call (.Attribute (.Name y py) _ ap) [] [] cp => .popA x px (nix y) py ap cp p
  | v => match isOwn x own with
    | true => match v with
      | .Dict _ _ dp => .ownD x px dp p
      | .Subscript y (.Slice none none none slp) sp => .copy x px (rE 60 y) slp sp p
      | v => .own x px (rE 60 v) p
    | false => match v with
      | .ListComp e gs sc q => .asgC x px (rE 60 (.ListComp e gs sc q)) p
      | v => .asg x px (rE 60 v) p
def rExp (v : Expr) (p : Pos) : RS := match v with
  | .Call (.Attribute (.Name x px) m ap) args [] cp => match m == Str.ofString "append" with
    | true => match args with
      | [e] => .app (nix x) px ap (rE 60 e) cp p
      | _ => .cont p
    | false => match m == Str.ofString "sort" with
      | true => .sort (nix x) px ap cp p
      | false => match args with
        | [.Constant (.int z) zk zp] => .pop0 (nix x) px ap z zk zp cp p
        | [.BinOp (.Call (.Attribute (.Name y py) _ yp) [.Constant (.int z) zk zp] [] yc) .Mult c bp] => .ext (nix x) px ap (nix y) py yp yc z zk zp (rE 60 c) bp cp p
        | _ => .cont p
  | _ => .cont p
end
mutual
def rS (own : List Nat) : Nat → Stmt → RS
  | 0, s => .raw s
  | n + 1, s => match s with
    | .Assign [.Name x px] v p => rAsg own (nix x) px v p
    | .Assign [.Tuple [.Name x px, .Name y py] k tp] e p => .tup2 (nix x) px (nix y) py k tp (rE 60 e) p
    | .Assign [.Subscript (.Name x px) i sp] e p => .put (nix x) px (rE 60 i) (rE 60 e) sp p
    | .AugAssign (.Name x px) op e p => .aug (nix x) px op (rE 60 e) p
    | .AugAssign (.Subscript (.Name x px) i sp) op e p => .inc (nix x) px (rE 60 i) op (rE 60 e) sp p
    | .If t b o p => .ifs (rE 60 t) (rSs own n b) (rSs own n o) p
    | .While t b [] p => .whl (rE 60 t) (rSs own n b) p
    | .For t it b [] p => match it with
      | .Name y py => match isOwn (nix y) own with
        | true => match t with
          | .Name x px => .forO (nix x) px (nix y) py (rSs own n b) p
          | _ => .cont p
        | false => .for_ (rT t) (rI (rE 60) it) (rSs own n b) p
      | it => .for_ (rT t) (rI (rE 60) it) (rSs own n b) p
    | .Return (some v) p => match v with
      | .Name x px => match isOwn (nix x) own with
        | true => .retO (nix x) px p
        | false => .ret (rE 60 v) p
      | v => .ret (rE 60 v) p
    | .Continue p => .cont p
    | .Expr v p => rExp v p
    | s => .raw s
def rSs (own : List Nat) : Nat → List Stmt → List RS
  | 0, _ => []
  | _ + 1, [] => []
  | n + 1, s :: r => rS own n s :: rSs own n r
end

def ownOf : Nat → List Nat
  | 20 => [nix "ccscopy", nix "cs"]
  | 23 => [nix "seq"]
  | 24 => [nix "cseq"]
  | 25 => [nix "seq"]
  | 26 => [nix "rdi"]
  | 27 => [nix "degseq", nix "eiglist"]
  | 28 => [nix "cs"]
  | 29 => [nix "cs"]
  | 31 => [nix "runs", nix "near"]
  | _ => []
def bodyR (i : Nat) : List RS := rSs (ownOf i) 60 (fnB i)
example : toSs (bodyR 20) = fnB 20 := by kernel_rfl
example : toSs (bodyR 22) = fnB 22 := by kernel_rfl
example : toSs (bodyR 23) = fnB 23 := by kernel_rfl
example : toSs (bodyR 24) = fnB 24 := by kernel_rfl
example : toSs (bodyR 25) = fnB 25 := by kernel_rfl
example : toSs (bodyR 26) = fnB 26 := by kernel_rfl
example : toSs (bodyR 27) = fnB 27 := by kernel_rfl
example : toSs (bodyR 28) = fnB 28 := by kernel_rfl
example : toSs (bodyR 29) = fnB 29 := by kernel_rfl
example : toSs (bodyR 31) = fnB 31 := by kernel_rfl
end Mine

-- part V83
namespace Mine
open PySem PySem.W PyProof.Rows

set_option maxRecDepth 1000000 in
set_option maxHeartbeats 0 in
def nf20 : { b : List RS // bodyR 20 = b } := ⟨_, by conv => lhs; reduce⟩
set_option maxRecDepth 1000000 in
set_option maxHeartbeats 0 in
def nf22 : { b : List RS // bodyR 22 = b } := ⟨_, by conv => lhs; reduce⟩
set_option maxRecDepth 1000000 in
set_option maxHeartbeats 0 in
def nf23 : { b : List RS // bodyR 23 = b } := ⟨_, by conv => lhs; reduce⟩
set_option maxRecDepth 1000000 in
set_option maxHeartbeats 0 in
def nf24 : { b : List RS // bodyR 24 = b } := ⟨_, by conv => lhs; reduce⟩
set_option maxRecDepth 1000000 in
set_option maxHeartbeats 0 in
def nf25 : { b : List RS // bodyR 25 = b } := ⟨_, by conv => lhs; reduce⟩
set_option maxRecDepth 1000000 in
set_option maxHeartbeats 0 in
def nf26 : { b : List RS // bodyR 26 = b } := ⟨_, by conv => lhs; reduce⟩
set_option maxRecDepth 1000000 in
set_option maxHeartbeats 0 in
def nf27 : { b : List RS // bodyR 27 = b } := ⟨_, by conv => lhs; reduce⟩
set_option maxRecDepth 1000000 in
set_option maxHeartbeats 0 in
def nf28 : { b : List RS // bodyR 28 = b } := ⟨_, by conv => lhs; reduce⟩
set_option maxRecDepth 1000000 in
set_option maxHeartbeats 0 in
def nf29 : { b : List RS // bodyR 29 = b } := ⟨_, by conv => lhs; reduce⟩
set_option maxRecDepth 1000000 in
set_option maxHeartbeats 0 in
def nf31 : { b : List RS // bodyR 31 = b } := ⟨_, by conv => lhs; reduce⟩

def retOf : Option (Rho × Sig × Fl) → Option PV
  | some (_, _, .ret p) => some p
  | _ => none
/-- a call of the def number i of the text, with one argument; with two -/
def run1 (F : Nat → List PV → Option PV) (x : Nat) (b : List RS) : List PV → Option PV
  | [a] => retOf (xs F 300 [(x, a)] [] b)
  | _ => none
def run2 (F : Nat → List PV → Option PV) (x y : Nat) (c : List RS) : List PV → Option PV
  | [a, b] => retOf (xs F 300 [(x, a), (y, b)] [] c)
  | _ => none
def nCs : Nat := 36
def nN : Nat := 70
def nM : Nat := 59
def F1 : Nat → List PV → Option PV
  | 6 => run1 F0 36 nf20.1
  | 7 => tgF (run1 F0 36 nf20.1)
  | 8 => run1 F0 36 nf22.1
  | 9 => run1 F0 36 nf23.1
  | 11 => run1 F0 36 nf25.1
  | 14 => run2 F0 70 59 nf28.1
  | 15 => run2 F0 70 59 nf29.1
  | f => F0 f
/-- degree_sequence, its list before it is given back -/
def degO : List PV → Option (List PV)
  | [a] => match xs F0 300 [(36, a)] [] nf25.1.dropLast with
    | some (_, σ, .next) => match lookO σ 43 with
      | some (.lst l) => match l.all scalar with
        | true => some l
        | false => none
      | _ => none
    | _ => none
  | _ => none
/-- eigenvalues: its first list is its own -/
def runEig : List PV → Option PV
  | [a] => match degO [a] with
    | some l => retOf (xs F1 300 [(36, a)] [(51, .lst l)] (nf27.1.drop 1))
    | none => none
  | _ => none
def F2 : Nat → List PV → Option PV
  | 10 => run1 F1 36 nf24.1
  | 12 => run1 F1 36 nf26.1
  | 13 => runEig
  | f => F1 f
theorem nmCs : nmS 36 = "creation_sequence" ∧ nmS 70 = "n" ∧ nmS 59 = "m" ∧ nmS 51 = "degseq" := by decide +kernel

/-- the row of signs -/
def rowL (bs : List Bool) : PV := .lst (bs.map fun b => .str [match b with | true => 100 | false => 105])
/-- the law from the runs on, for a row -/
def lawC (n : Nat) (row : PV) : Option PV := match xs F2 400 [(2, .int n), (5, row), (8, .bool true)] [] ((nf31.1.drop 6).take 4) with
  | some (ρ, σ, .next) => retOf (xs F2 400 (treesOf σ ++ ρ) [] (nf31.1.drop 10))
  | _ => none
def isTrueP : Option PV → Bool
  | some (.bool true) => true
  | _ => false
def allB : Nat → List (List Bool)
  | 0 => [[]]
  | n + 1 => (allB n).flatMap fun l => [true :: l, false :: l]

end Mine

-- part V84
namespace Mine
open PySem PySem.W PyProof.Rows

/-- the names that are bound -/
def asgs : Nat → List RS → List Nat
  | 0, _ => []
  | _ + 1, [] => []
  | n + 1, s :: r => (match s with
    | .asg x _ _ _ => [x]
    | .asgC x _ _ _ => [x]
    | .own x _ _ _ => [x]
    | .ownD x _ _ _ => [x]
    | .copy x _ _ _ _ _ => [x]
    | .tup2 x _ y _ _ _ _ _ => [x, y]
    | .aug x _ _ _ _ => [x]
    | .ifs _ b o _ => asgs n b ++ asgs n o
    | .whl _ b _ => asgs n b
    | .for_ t _ b _ => t.names ++ asgs n b
    | .forO x _ _ _ b _ => x :: asgs n b
    | .popA y _ _ _ _ _ _ => [y]
    | _ => []) ++ asgs n r
def scF (i : Nat) : Scope := match topB[i]? with
  | some (.FunctionDef _ _ _ _ _ _ sc _ _ _) => sc
  | _ => { kind := .function, names := [], isGenerator := false, isCoroutine := false }
def tF (b : List RS) : List Nat := asgs 60 b

theorem body20 : fnB 20 = toSs nf20.1 := by rw [← nf20.2]; kernel_rfl
theorem body22 : fnB 22 = toSs nf22.1 := by rw [← nf22.2]; kernel_rfl
theorem body23 : fnB 23 = toSs nf23.1 := by rw [← nf23.2]; kernel_rfl
theorem body24 : fnB 24 = toSs nf24.1 := by rw [← nf24.2]; kernel_rfl
theorem body25 : fnB 25 = toSs nf25.1 := by rw [← nf25.2]; kernel_rfl
theorem body26 : fnB 26 = toSs nf26.1 := by rw [← nf26.2]; kernel_rfl
theorem body27 : fnB 27 = toSs nf27.1 := by rw [← nf27.2]; kernel_rfl
theorem body28 : fnB 28 = toSs nf28.1 := by rw [← nf28.2]; kernel_rfl
theorem body29 : fnB 29 = toSs nf29.1 := by rw [← nf29.2]; kernel_rfl
theorem body31 : fnB 31 = toSs nf31.1 := by rw [← nf31.2]; kernel_rfl
theorem wf20 : wfSs (scF 20) (tF nf20.1) nf20.1 = true ∧ scB (scF 20) [36] (tF nf20.1) = true := by decide +kernel
theorem wf22 : wfSs (scF 22) (tF nf22.1) nf22.1 = true ∧ scB (scF 22) [36] (tF nf22.1) = true := by decide +kernel
theorem wf23 : wfSs (scF 23) (tF nf23.1) nf23.1 = true ∧ scB (scF 23) [36] (tF nf23.1) = true := by decide +kernel
theorem wf24 : wfSs (scF 24) (tF nf24.1) nf24.1 = true ∧ scB (scF 24) [36] (tF nf24.1) = true := by decide +kernel
theorem wf25 : wfSs (scF 25) (tF nf25.1) nf25.1 = true ∧ scB (scF 25) [36] (tF nf25.1) = true := by decide +kernel
theorem wf26 : wfSs (scF 26) (tF nf26.1) nf26.1 = true ∧ scB (scF 26) [36] (tF nf26.1) = true := by decide +kernel
theorem wf27 : wfSs (scF 27) (tF nf27.1) (nf27.1.drop 1) = true ∧ scB (scF 27) [36] (tF nf27.1) = true := by decide +kernel
theorem wf28 : wfSs (scF 28) (tF nf28.1) nf28.1 = true ∧ scB (scF 28) [70, 59] (tF nf28.1) = true := by decide +kernel
theorem wf29 : wfSs (scF 29) (tF nf29.1) nf29.1 = true ∧ scB (scF 29) [70, 59] (tF nf29.1) = true := by decide +kernel
theorem wf31a : wfSs (scF 31) (tF nf31.1) ((nf31.1.drop 3).take 7) = true := by decide +kernel
theorem wf31b : wfSs (scF 31) (tF nf31.1) (nf31.1.drop 10) = true := by decide +kernel
end Mine

-- part V85
namespace Mine
open PySem PySem.W PyProof.Rows

/-- the defs of the text that the evaluator runs -/
structure Defs (h₀ : Heap) : Prop where
  d20 : DefAt h₀ (.ref 647) [36] (tF nf20.1) (scF 20) (fnB 20)
  d22 : DefAt h₀ (.ref 662) [36] (tF nf22.1) (scF 22) (fnB 22)
  d23 : DefAt h₀ (.ref 669) [36] (tF nf23.1) (scF 23) (fnB 23)
  d24 : DefAt h₀ (.ref 676) [36] (tF nf24.1) (scF 24) (fnB 24)
  d25 : DefAt h₀ (.ref 683) [36] (tF nf25.1) (scF 25) (fnB 25)
  d26 : DefAt h₀ (.ref 688) [36] (tF nf26.1) (scF 26) (fnB 26)
  d27 : DefAt h₀ (.ref 695) [36] (tF nf27.1) (scF 27) (fnB 27)
  d28 : DefAt h₀ (.ref 702) [70, 59] (tF nf28.1) (scF 28) (fnB 28)
  d29 : DefAt h₀ (.ref 709) [70, 59] (tF nf29.1) (scF 29) (fnB 29)

theorem OkH.down {h₀ : Heap} {l l' : Nat} {A : Around} {s : Shared} {W : List Addr} (h : l' ≤ l) (ok : OkH h₀ l A s W) : OkH h₀ l' A s W := ⟨ok.a.mono h, ok.old, ok.tk, ok.live, ok.base, ok.sz⟩
theorem retOf_ok {o : Option (Rho × Sig × Fl)} {p : PV} (h : retOf o = some p) : ∃ ρ' σ', o = some (ρ', σ', .ret p) := by
  unfold retOf at h
  split at h
  · cases h; exact ⟨_, _, rfl⟩
  · cases h

section
variable {prog : Program} {w : World} {C : Addr} {h₀ : Heap}

theorem run1_ok {F : Nat → List PV → Option PV} {l x : Nat} {b : List RS} {sc : Scope} {T : List Nat} {v : Value} {ps : List PV} {p : PV} {A : Around} {s : Shared} {W : List Addr} {vs : List Value} {Q E : Value → Shared → Prop} (B : Base h₀) (BC : BaseC h₀ C) (FO : FnOk prog w C h₀ l F)
    (D : DefAt h₀ v [x] T sc (toSs b)) (wf : wfSs sc T b = true) (hp : run1 F x b ps = some p) (ok : OkH h₀ (l + 1) A s W) (hv : VRs prog w C s.heap W ps vs) (h : ∀ v s', Ext [] s s' → VR prog w C s'.heap W p v → Q v s') : wpAny (model prog w) A (call v vs) Q E s := by
  unfold run1 at hp
  split at hp
  · rename_i a
    obtain ⟨u, rfl, hu⟩ := VRs.one hv
    obtain ⟨ρ', σ', e⟩ := retOf_ok hp
    exact def_ok B (pev_sound B BC FO) D wf ok rfl (binds1 hu) e h
  · cases hp
theorem run2_ok {F : Nat → List PV → Option PV} {l x y : Nat} {b : List RS} {sc : Scope} {T : List Nat} {v : Value} {ps : List PV} {p : PV} {A : Around} {s : Shared} {W : List Addr} {vs : List Value} {Q E : Value → Shared → Prop} (B : Base h₀) (BC : BaseC h₀ C) (FO : FnOk prog w C h₀ l F) (hxy : (nmS x == nmS y) = false)
    (D : DefAt h₀ v [x, y] T sc (toSs b)) (wf : wfSs sc T b = true) (hp : run2 F x y b ps = some p) (ok : OkH h₀ (l + 1) A s W) (hv : VRs prog w C s.heap W ps vs) (h : ∀ v s', Ext [] s s' → VR prog w C s'.heap W p v → Q v s') : wpAny (model prog w) A (call v vs) Q E s := by
  unfold run2 at hp
  split at hp
  · obtain ⟨u, u', rfl, hu, hu'⟩ := VRs.two hv
    obtain ⟨ρ', σ', e⟩ := retOf_ok hp
    exact def_ok B (pev_sound B BC FO) D wf ok rfl (binds2 hxy hu hu') e h
  · cases hp

/-- the functions that call none of the evaluator's -/
theorem f1_ok {l : Nat} {mN : Str → Option Value} (B : Base h₀) (BC : BaseC h₀ C) (D : Defs h₀) (K : GK h₀ C mN) (TG : TgAt h₀) : FnOk prog w C h₀ (l + 6) F1 := by
  have F0' : FnOk prog w C h₀ l F0 := f0_ok
  have d20 := D.d20; rw [body20] at d20
  have d22 := D.d22; rw [body22] at d22
  have d23 := D.d23; rw [body23] at d23
  have d25 := D.d25; rw [body25] at d25
  have d28 := D.d28; rw [body28] at d28
  have d29 := D.d29; rw [body29] at d29
  intro f ps p hp hf A s W vs Q E ok hv h
  have ok1 : OkH h₀ (l + 1) A s W := ok.down (by omega)
  unfold F1 at hp
  split at hp
  · exact run1_ok B BC F0' d20 wf20.1 hp ok1 hv h
  · obtain ⟨l0, rfl⟩ : ∃ q, ps = [q] := by
      unfold tgF at hp
      split at hp
      · exact ⟨_, rfl⟩
      · cases hp
    obtain ⟨u, rfl, hu⟩ := VRs.one hv
    exact tg_ok (lv := l + 1) B K TG (fun ps q hq A s W vs Q E ok hv h => run1_ok B BC F0' d20 wf20.1 hq ok hv h) ok hu hp h
  · exact run1_ok B BC F0' d22 wf22.1 hp ok1 hv h
  · exact run1_ok B BC F0' d23 wf23.1 hp ok1 hv h
  · exact run1_ok B BC F0' d25 wf25.1 hp ok1 hv h
  · exact run2_ok B BC F0' (by decide +kernel) d28 wf28.1 hp ok1 hv h
  · exact run2_ok B BC F0' (by decide +kernel) d29 wf29.1 hp ok1 hv h
  · exact f0_ok _ _ _ hp hf A s W vs Q E ok hv h
end
end Mine

-- part V86
namespace Mine
open PySem PySem.W PyProof.Rows

theorem toSs_append : ∀ (a b : List RS), toSs (a ++ b) = toSs a ++ toSs b
  | [], b => rfl
  | s :: a, b => by rw [List.cons_append, toSs, toSs, toSs_append a b]; rfl
theorem last25 : ∃ px p, nf25.1 = nf25.1.dropLast ++ [.retO 43 px p] := ⟨_, _, rfl⟩
theorem head27 : ∃ px np p1 p2 p, nf27.1 = .own 51 px (.call 11 [.name 36 p1] np p2) p :: nf27.1.drop 1 := ⟨_, _, _, _, _, rfl⟩
theorem body25r : ∃ px p, fnB 25 = toSs nf25.1.dropLast ++ [.Return (some (.Name (nmS 43) px)) p] := by
  obtain ⟨px, p, e⟩ := last25
  refine ⟨px, p, ?_⟩
  rw [body25]
  conv => lhs; rw [e]
  rw [toSs_append]
  rfl
theorem body27h : ∃ px np p1 p2 p, fnB 27 = .Assign [.Name (nmS 51) px] (.Call (.Name (fnm 11) np) [.Name (nmS 36) p1] [] p2) p :: toSs (nf27.1.drop 1) := by
  obtain ⟨px, np, p1, p2, p, e⟩ := head27
  refine ⟨px, np, p1, p2, p, ?_⟩
  rw [body27]
  conv => lhs; rw [e]
  rfl
theorem w25 : wfSs (scF 25) (tF nf25.1) nf25.1.dropLast = true := by decide +kernel
theorem glob27 : (scF 27).names.lookup (fnm 11) = some .globalImplicit := by decide +kernel

theorem wfSs_left {sc : Scope} {T : List Nat} : ∀ {a b : List RS}, wfSs sc T (a ++ b) = true → wfSs sc T a = true
  | [], _, _ => by rw [wfSs]
  | s :: a, b, h => by
    rw [List.cons_append, wfSs, Bool.and_eq_true] at h
    rw [wfSs, Bool.and_eq_true]
    exact ⟨h.1, wfSs_left h.2⟩

section
variable {prog : Program} {w : World} {C : Addr} {h₀ : Heap}

theorem eig_ok {l : Nat} {mN : Str → Option Value} {ps : List PV} {p : PV} {A : Around} {s : Shared} {W : List Addr} {vs : List Value} {Q E : Value → Shared → Prop} (B : Base h₀) (BC : BaseC h₀ C) (D : Defs h₀) (K : GK h₀ C mN) (TG : TgAt h₀)
    (hp : runEig ps = some p) (ok : OkH h₀ (l + 7) A s W) (hv : VRs prog w C s.heap W ps vs) (h : ∀ v s', Ext [] s s' → VR prog w C s'.heap W p v → Q v s') : wpAny (model prog w) A (call (.ref 695) vs) Q E s := by
  unfold runEig at hp
  split at hp
  · rename_i a
    obtain ⟨u, rfl, hu⟩ := VRs.one hv
    cases hd : degO [a] with
    | none => rw [hd] at hp; cases hp
    | some r =>
      rw [hd] at hp
      (try dsimp only at hp)
      obtain ⟨ρ', σ', e⟩ := retOf_ok hp
      -- the first list
      unfold degO at hd
      (try dsimp only at hd)
      split at hd
      · rename_i ρ₁ σ₁ hx
        split at hd
        · rename_i l' ho
          split at hd
          · rename_i hsc
            cases hd
            obtain ⟨px25, p25, e25⟩ := body25r
            have d25 := D.d25
            rw [e25] at d25
            have F1' : FnOk prog w C h₀ (l + 6) F1 := f1_ok B BC D K TG
            have F0' : FnOk prog w C h₀ l F0 := f0_ok
            refine frame_ok (l := l + 6) B D.d27 ok rfl (binds1 hu) fun env s₁ x₁ hpl hL F₀ => ⟨fun f s' => ∃ u, f = .ret u ∧ Q u s', fun E' => ?_, fun f s' q => q⟩
            obtain ⟨px, np, p1, p2, p3, e27⟩ := body27h
            rw [e27]
            obtain ⟨v₁, lk₁, hv₁⟩ := F₀.ok.rho 36 a rfl
            refine wpAny_execs_cons (wpAny_Assign_Name (wpAny_Call_NameR (fn_ok (f := 11) B F₀.ok.e F₀.ok.old (by decide) glob27 fun st => ?_)) (by rfl))
            refine callWith_any (h₀ := h₀) st (by rfl) (Calls.spliced_cons (lk₁.load F₀.ok.e.fn (Calls.spliced_nil ⟨F₀.ok.old, ?_⟩)))
            refine defO_ok (l := l) (W := env.locals :: W) (F := F0) B (pev_sound B BC F0') d25 w25 (by simpa using F₀.ok.h.down (by omega)) rfl (binds1 (by simpa using hv₁)) hx ho fun ad ws s₂ x₂ had hpl₂ hvs₂ => ?_
            refine store_ok F₀.ok.e ((F₀.ext x₂).can 51 (by decide +kernel)).1 fun s₃ m lk => ?_
            refine own_new (Q := fun _ s' => wpAny (model prog w) (A.deeper env) (execs (toSs (nf27.1.drop 1)) env) (fun f s' => ∃ u, f = .ret u ∧ Q u s') E' s') F₀ (by decide +kernel) rfl hsc x₂ had hpl₂ (by simpa using hvs₂) m lk fun s₄ as₄ fl x₄ H₄ ha₄ hf => ?_
            refine xs_sound (T := tF nf27.1) B (pev_sound B BC F1') 300 _ wf27.1 _ _ _ _ _ _ _ _ _ _ _ _ e H₄ fun s₅ as₅ fl₅ x₅ _ _ hf₅ => ?_
            obtain ⟨v₅, rfl, hv₅⟩ := hf₅
            refine ⟨v₅, rfl, h v₅ s₅ ?_ (VR.mono (fun b o hb q => ⟨q, fun hm => hb (List.mem_cons_of_mem _ hm)⟩) _ _ hv₅)⟩
            obtain ⟨pre, rfl, hpre⟩ := ha₄
            refine (x₁.via (X := []) x₄ fun b hb => ?_).via x₅ fun b hb => ?_
            · rw [hpl] at hb
              simp only [List.append_nil, List.mem_singleton] at hb
              exact .inr (by rw [hb]; exact hL)
            · rw [hpl] at hb
              simp only [List.append_nil, List.mem_append, List.mem_singleton] at hb
              rcases hb with rfl | hb
              · exact .inr hL
              · exact .inr (Nat.le_trans x₁.size (hpre b hb))
          · cases hd
        · cases hd
      · cases hd
  · cases hp

/-- all the callables -/
theorem f2_ok {l : Nat} {mN : Str → Option Value} (B : Base h₀) (BC : BaseC h₀ C) (D : Defs h₀) (K : GK h₀ C mN) (TG : TgAt h₀) : FnOk prog w C h₀ (l + 7) F2 := by
  have F1' : FnOk prog w C h₀ (l + 6) F1 := f1_ok B BC D K TG
  have d24 := D.d24; rw [body24] at d24
  have d26 := D.d26; rw [body26] at d26
  intro f ps p hp hf A s W vs Q E ok hv h
  unfold F2 at hp
  split at hp
  · exact run1_ok B BC F1' d24 wf24.1 hp ok hv h
  · exact run1_ok B BC F1' d26 wf26.1 hp ok hv h
  · exact eig_ok B BC D K TG hp ok hv h
  · exact f1_ok (l := l + 1) B BC D K TG _ _ _ hp hf A s W vs Q E ok hv h
end
end Mine

-- part V87
namespace Mine
open PySem PySem.W PyProof.Rows

theorem cellsFrom_names : ∀ (names : List (Str × NameKind)) (n : Nat) (acc : List (Str × Addr)), (cellsFrom n names acc).map (·.1) = ((names.filter fun x => x.2 == .cell).map (·.1)).reverse ++ acc.map (·.1)
  | [], _, _ => rfl
  | (x, k) :: r, n, acc => by
    unfold cellsFrom
    cases h : k == NameKind.cell with
    | true =>
      rw [if_pos rfl, cellsFrom_names r]
      have hf : ((x, k) :: r).filter (fun x => x.2 == .cell) = (x, k) :: r.filter fun x => x.2 == .cell := List.filter_cons_of_pos (by simpa using h)
      rw [hf]
      simp
    | false =>
      rw [if_neg Bool.false_ne_true, cellsFrom_names r]
      have hf : ((x, k) :: r).filter (fun x => x.2 == .cell) = r.filter fun x => x.2 == .cell := List.filter_cons_of_neg (by simpa using h)
      rw [hf]
/-- the law's def -/
def LawAt (h₀ : Heap) : Prop := ∃ o fd, h₀.get? 714 = some o ∧ o.data = .func fd ∧ h₀.CodeRec fd.code fd.qualname ∧ fd.body = .stmts (fnB 31) ∧ fd.scope = scF 31 ∧ fd.globals = mainGlobals ∧ fd.builtins = builtinsNs ∧ fd.closure = [] ∧ (∀ v, bindArgs fd ⟨[v], []⟩ = pure [(Str.ofString "script", v)]) ∧ h₀.NoLimit
theorem law_scope : (scF 31).kind = .function ∧ (scF 31).isCoroutine = false ∧ (scF 31).isGenerator = false ∧ (scF 31).names.lookup (Str.ofString "script") = some NameKind.cell ∧ ((((scF 31).names.filter fun x => x.2 == .cell).map (·.1)).reverse).Nodup ∧ (∀ x ∈ (scF 31).names, x.2 ≠ .free) := by decide +kernel
theorem law_T : ∀ y ∈ tF nf31.1, ((scF 31).names.lookup (nmS y) = some .local ∨ (scF 31).names.lookup (nmS y) = some .cell) ∧ y < nmTab.length := by decide +kernel

section
variable {prog : Program} {w : World} {C : Addr} {h₀ : Heap}

theorem law_frame {l : Nat} {A : Around} {s : Shared} {v : Value} {Q E : Value → Shared → Prop} (D : LawAt h₀) (ok : OkH h₀ (l + 1) A s [])
    (h : ∀ env s₁, Ext [] s s₁ → (∀ b ∈ pl env, s.heap.objs.size ≤ b) → Look s₁ env (nmS 0) v → Fm prog w C h₀ l (scF 31) (A.deeper env) env (tF nf31.1) (pl env) s₁ [] [] [] →
      ∃ R : Flow → Shared → Prop, (∀ E', wpAny (model prog w) (A.deeper env) (execs (fnB 31) env) R E' s₁) ∧ ∀ f s', R f s' → ∃ u, f = .ret u ∧ Q u s') : wpAny (model prog w) A (call (.ref 714) [v]) Q E s := by
  obtain ⟨o, fd, ho, hd, hcr, hbody, hsc, hg, hbt, hcl, hbind, hlim⟩ := D
  obtain ⟨hk, hco, hgen, hscr, hnd, hfree⟩ := law_scope
  rw [← hsc] at hk hco hgen hscr hnd hfree
  have hcells : ∀ n x, fd.scope.names.lookup x = some .cell → ∃ c, (cellsFrom n fd.scope.names []).lookup x = some c := fun n x hx => by
    have hm : (x, NameKind.cell) ∈ fd.scope.names := PySem.mem_of_lookup hx
    have : x ∈ (cellsFrom n fd.scope.names []).map (·.1) := by
      rw [cellsFrom_names]
      simp only [List.map_nil, List.append_nil, List.mem_reverse, List.mem_map, List.mem_filter]
      exact ⟨_, ⟨hm, rfl⟩, rfl⟩
    obtain ⟨p, hp, e⟩ := List.mem_map.mp this
    obtain ⟨c', hc'⟩ := Mine.lookup_of_mem (show (p.1, p.2) ∈ _ from hp)
    exact ⟨c', by rw [← e]; exact hc'⟩
  refine wpAny_call (codeAny_call_function ok.a.room (ok.old _ _ ho) hd hco hgen hbody (hcr.keeps ok.old) ?_)
  rw [hbind v, hcl]
  refine wpAny_pure (grown (wpAny_newFunctionEnv_cells hk (fun x hx => ?_) fun env he s₁ ic ht hz => ?_))
  · rw [List.mem_singleton] at hx
    rw [hx]
    obtain ⟨c, hc⟩ := hcells (s.heap.objs.size + 1) _ hscr
    exact .inr ⟨hscr, by rw [hc]; rfl⟩
  · have e1 : env.scope = fd.scope := by rw [he]; rfl
    have e2 : env.locals = s.heap.objs.size := by rw [he]; rfl
    have e3 : env.cells = cellsFrom (s.heap.objs.size + 1) fd.scope.names [] := by rw [he]; rfl
    have e4 : env.globals = mainGlobals := by rw [he]; exact hg
    have e5 : env.builtins = builtinsNs := by rw [he]; exact hbt
    have ek : ∀ x, env.kindOf x = fd.scope.names.lookup x := fun x => by rw [he]; rfl
    obtain ⟨h₁, tk, rfl, keep⟩ := ic.done
    have hns := ic.toInCall.ns
    have x₁ : Ext [] s { s with heap := h₁, toks := tk } := Ext.mk' ht hz fun b o _ e => keep b o e
    have hpl : ∀ b ∈ pl env, s.heap.objs.size ≤ b := fun b hb => by
      unfold pl at hb
      rcases List.mem_cons.mp hb with rfl | hb
      · rw [e2]; exact Nat.le_refl _
      · obtain ⟨p, hp, q⟩ := List.mem_filterMap.mp hb
        have := ic.above p.1 b (PySem.mem_of_lookup q)
        rw [e2] at this
        exact Nat.le_of_lt this
    have hlive : ∀ b ∈ pl env, b < h₁.objs.size := fun b hb => by
      unfold pl at hb
      rcases List.mem_cons.mp hb with rfl | hb
      · exact hns.lt
      · obtain ⟨p, hp, q⟩ := List.mem_filterMap.mp hb
        exact (ic.cell p.1 b q).lt
    have hbase : ∀ b ∈ pl env, h₀.get? b = none := fun b hb => by
      cases q : h₀.get? b with
      | none => rfl
      | some o => exact absurd (Heap.lt_size (ok.old _ _ q)) (Nat.not_lt.mpr (hpl b hb))
    have hkS : env.kindOf (Str.ofString "script") = some .cell := by rw [ek]; exact hscr
    obtain ⟨cS, hcS⟩ := hcells (s.heap.objs.size + 1) _ hscr
    have lkS : Look { s with heap := h₁, toks := tk } env (nmS 0) v := .inr ⟨.inl hkS, cS, by rw [e3]; exact hcS, by
      have := ic.cell (Str.ofString "script") cS (by rw [e3]; exact hcS)
      have hb : bindC env.kindOf [(Str.ofString "script", v)] (fun _ => none) (Str.ofString "script") = some v := by
        unfold bindC bindC
        rw [if_neg (by rw [hkS]; decide)]
        exact if_pos rfl
      rw [hb] at this
      exact this⟩
    have F₀ : Fm prog w C h₀ l (scF 31) (A.deeper env) env (tF nf31.1) (pl env) { s with heap := h₁, toks := tk } [] [] [] := by
      refine ⟨⟨ok.a.deeper _, ⟨by rw [e1]; exact hk, e4, e5, fun x e => by rw [ek, hsc]; exact e, fun x e => by rw [ek, hsc]; exact e, fun x e => by rw [ek, hsc]; exact e, fun x y c q1 q2 => name_of_addr ic.apart (PySem.mem_of_lookup q1) (PySem.mem_of_lookup q2), fun x q => ?_⟩, fun b o q => x₁.keep b o (by simp) (ok.old b o q), Nat.lt_of_lt_of_le ok.tk x₁.toks,
        fun b hb => hlive b (by simpa using hb), fun b hb => hbase b (by simpa using hb), ⟨List.mem_append_left _ (pl_in env).1, fun y c q => List.mem_append_left _ ((pl_in env).2 y c q)⟩, Nat.lt_of_lt_of_le ok.sz x₁.size, fun x p q => by cases q⟩, pl_in env, rfl, List.nodup_nil, fun _ h => (nomatch h), fun _ h => (nomatch h), List.nodup_nil, fun y hy => ⟨?_, (law_T y hy).2⟩⟩
      · rcases q with q | q
        · rw [← hsc] at q
          obtain ⟨c, hc⟩ := hcells (s.heap.objs.size + 1) x q
          exact ⟨c, by rw [e3]; exact hc⟩
        · rw [← hsc] at q
          exact absurd rfl (hfree _ (PySem.mem_of_lookup q))
      · rcases (law_T y hy).1 with q | q
        · exact .inl ⟨by rw [ek, hsc]; exact q, _, hns⟩
        · rw [← hsc] at q
          obtain ⟨c, hc⟩ := hcells (s.heap.objs.size + 1) _ q
          exact .inr ⟨.inl (by rw [ek]; exact q), c, _, by rw [e3]; exact hc, ic.cell _ c (by rw [e3]; exact hc)⟩
    refine ⟨hlim.keeps fun b o e => x₁.keep b o (by simp) (ok.old b o e), codeAny_func ?_⟩
    obtain ⟨R, hR, hq⟩ := h env _ x₁ hpl lkS F₀
    refine wpAny_mono (hR _) (fun f s' hf => ?_) fun _ _ e => e
    obtain ⟨u, rfl, hu⟩ := hq f s' hf
    exact hu
end
end Mine

-- part V88
namespace Mine
open PySem PySem.W PyProof.Rows

/-! the numbers that are drawn -/
def scT (a b c : Int) (n : Nat) : PV := .lst (.int a :: .int b :: .int c :: List.replicate n .any)
def drT (a b c : Int) : PV := .lst [.int (a + 38 * 0 + 47), .int (b + 38 * 1 + 47), .int (c + 38 * 2 + 47)]
theorem dr0 : xs F2 40 [(0, .lst [])] [] (nf31.1.take 1) = some ([(1, drT 0 0 0), (0, .lst [])], [], .next) := by kernel_rfl
theorem dr1 (a : Int) : xs F2 40 [(0, .lst [.int a])] [] (nf31.1.take 1) = some ([(1, drT a a a), (0, .lst [.int a])], [], .next) := by kernel_rfl
theorem dr2 (a b : Int) : xs F2 40 [(0, .lst [.int a, .int b])] [] (nf31.1.take 1) = some ([(1, drT a b a), (0, .lst [.int a, .int b])], [], .next) := by kernel_rfl
theorem dr3 (a b c : Int) : ∀ n, n ≤ 60 → xs F2 40 [(0, scT a b c n)] [] (nf31.1.take 1) = some ([(1, drT a b c), (0, scT a b c n)], [], .next)
  | 0, _ => by kernel_rfl
  | 1, _ => by kernel_rfl
  | 2, _ => by kernel_rfl
  | 3, _ => by kernel_rfl
  | 4, _ => by kernel_rfl
  | 5, _ => by kernel_rfl
  | 6, _ => by kernel_rfl
  | 7, _ => by kernel_rfl
  | 8, _ => by kernel_rfl
  | 9, _ => by kernel_rfl
  | 10, _ => by kernel_rfl
  | 11, _ => by kernel_rfl
  | 12, _ => by kernel_rfl
  | 13, _ => by kernel_rfl
  | 14, _ => by kernel_rfl
  | 15, _ => by kernel_rfl
  | 16, _ => by kernel_rfl
  | 17, _ => by kernel_rfl
  | 18, _ => by kernel_rfl
  | 19, _ => by kernel_rfl
  | 20, _ => by kernel_rfl
  | 21, _ => by kernel_rfl
  | 22, _ => by kernel_rfl
  | 23, _ => by kernel_rfl
  | 24, _ => by kernel_rfl
  | 25, _ => by kernel_rfl
  | 26, _ => by kernel_rfl
  | 27, _ => by kernel_rfl
  | 28, _ => by kernel_rfl
  | 29, _ => by kernel_rfl
  | 30, _ => by kernel_rfl
  | 31, _ => by kernel_rfl
  | 32, _ => by kernel_rfl
  | 33, _ => by kernel_rfl
  | 34, _ => by kernel_rfl
  | 35, _ => by kernel_rfl
  | 36, _ => by kernel_rfl
  | 37, _ => by kernel_rfl
  | 38, _ => by kernel_rfl
  | 39, _ => by kernel_rfl
  | 40, _ => by kernel_rfl
  | 41, _ => by kernel_rfl
  | 42, _ => by kernel_rfl
  | 43, _ => by kernel_rfl
  | 44, _ => by kernel_rfl
  | 45, _ => by kernel_rfl
  | 46, _ => by kernel_rfl
  | 47, _ => by kernel_rfl
  | 48, _ => by kernel_rfl
  | 49, _ => by kernel_rfl
  | 50, _ => by kernel_rfl
  | 51, _ => by kernel_rfl
  | 52, _ => by kernel_rfl
  | 53, _ => by kernel_rfl
  | 54, _ => by kernel_rfl
  | 55, _ => by kernel_rfl
  | 56, _ => by kernel_rfl
  | 57, _ => by kernel_rfl
  | 58, _ => by kernel_rfl
  | 59, _ => by kernel_rfl
  | 60, _ => by kernel_rfl
  | n + 61, h => absurd h (by omega)

section
variable {prog : Program} {w : World} {C : Addr}
theorem VRs.manyAny {h : Heap} {W : List Addr} : ∀ (vs : List Value), VRs prog w C h W (List.replicate vs.length .any) vs
  | [] => rfl
  | v :: vs => ⟨v, vs, rfl, trivial, VRs.manyAny vs⟩
/-- the tree of the script -/
theorem script_tree {h : Heap} {W : List Addr} {a : Addr} {vs : List Value} (hw : a ∉ W) (hl : h.PlainList a vs.toArray) (hi : ∀ v ∈ vs, ∃ i t, v = .int i t) (h63 : vs.length ≤ 63) :
    ∃ p x y z, VR prog w C h W p (.ref a) ∧ xs F2 40 [(0, p)] [] (nf31.1.take 1) = some ([(1, drT x y z), (0, p)], [], .next) := by
  match vs, hi, h63, hl with
  | [], _, _, hl => exact ⟨.lst [], 0, 0, 0, ⟨a, [], rfl, hw, hl, rfl⟩, dr0⟩
  | [v], hi, _, hl =>
    obtain ⟨i, t, rfl⟩ := hi v (by simp)
    exact ⟨.lst [.int i], i, i, i, ⟨a, _, rfl, hw, hl, ⟨_, _, rfl, ⟨t, rfl⟩, rfl⟩⟩, dr1 i⟩
  | [v, u], hi, _, hl =>
    obtain ⟨i, t, rfl⟩ := hi v (by simp)
    obtain ⟨j, t', rfl⟩ := hi u (by simp)
    exact ⟨.lst [.int i, .int j], i, j, i, ⟨a, _, rfl, hw, hl, ⟨_, _, rfl, ⟨t, rfl⟩, ⟨_, _, rfl, ⟨t', rfl⟩, rfl⟩⟩⟩, dr2 i j⟩
  | v :: u :: y :: r, hi, h63, hl =>
    obtain ⟨i, t, rfl⟩ := hi v (by simp)
    obtain ⟨j, t', rfl⟩ := hi u (by simp)
    obtain ⟨k, t'', rfl⟩ := hi y (by simp)
    exact ⟨scT i j k r.length, i, j, k, ⟨a, _, rfl, hw, hl, ⟨_, _, rfl, ⟨t, rfl⟩, ⟨_, _, rfl, ⟨t', rfl⟩, ⟨_, _, rfl, ⟨t'', rfl⟩, VRs.manyAny r⟩⟩⟩⟩, dr3 i j k _ (by simp at h63; omega)⟩
end
end Mine

-- part V89
namespace Mine
open PySem PySem.W PyProof.Rows

/-! size and kind; edges -/
def tupE1 : RE := match (nf31.1[1]? : Option RS) with
  | some (.tup2 _ _ _ _ _ _ (.tup [e, _] _ _) _) => e
  | _ => .none 0 p0
def tupE2 : RE := match (nf31.1[1]? : Option RS) with
  | some (.tup2 _ _ _ _ _ _ (.tup [_, e] _ _) _) => e
  | _ => .none 0 p0
theorem stTup : ∃ px py k tp k2 vp p, nf31.1[1]? = some (.tup2 2 px 3 py k tp (.tup [tupE1, tupE2] k2 vp) p) := ⟨_, _, _, _, _, _, _, rfl⟩
theorem stSplit : ∃ px py k tp k2 vp p, fnB 31 = toSs (nf31.1.take 1) ++ (.Assign [.Tuple [.Name (nmS 2) px, .Name (nmS 3) py] k tp] (.Tuple [tupE1.toE, tupE2.toE] k2 vp) p :: toSs (nf31.1.drop 2)) ∧ (py.line == px.line) = true := by
  refine ⟨_, _, _, _, _, _, _, by rw [body31]; rfl, by rfl⟩
theorem eqSize (a b c : Int) (p : PV) : pev F2 20 [(1, drT a b c), (0, p)] tupE1 = some (.int ((a + 38 * 0 + 47).fmod 6 + 1)) := by kernel_rfl
theorem eqKind (a b c : Int) (p : PV) : pev F2 20 [(1, drT a b c), (0, p)] tupE2 = some (.int (((a + 38 * 0 + 47).fdiv 6).fmod 3)) := by kernel_rfl
theorem wfTup : wfE (scF 31) tupE1 = true ∧ wfE (scF 31) tupE2 = true := by decide +kernel
theorem notFolded (env : Env) : [tupE1.toE, tupE2.toE].all (foldedForSure 8) = false ∧ [tupE1.toE, tupE2.toE].all (constantsAlone 8) = false := ⟨by rfl, by rfl⟩
theorem eqEdges (a b c : Int) (p : PV) (k : Int) : ∀ n : Nat, 1 ≤ n → n ≤ 6 → xs F2 40 [(2, .int n), (3, .int k), (1, drT a b c), (0, p)] [] ((nf31.1.drop 2).take 1) = some ([(4, .int ((c + 38 * 2 + 47).fmod (n * (n - 1) / 2 + 1))), (2, .int n), (3, .int k), (1, drT a b c), (0, p)], [], .next)
  | 1, _, _ => by kernel_rfl
  | 2, _, _ => by kernel_rfl
  | 3, _, _ => by kernel_rfl
  | 4, _, _ => by kernel_rfl
  | 5, _, _ => by kernel_rfl
  | 6, _, _ => by kernel_rfl
  | 0, h, _ => absurd h (by decide)
  | n + 7, _, h => absurd h (by omega)
theorem wfSt : wfSs (scF 31) (tF nf31.1) (nf31.1.take 1) = true ∧ wfSs (scF 31) (tF nf31.1) ((nf31.1.drop 2).take 1) = true ∧ wfSs (scF 31) (tF nf31.1) ((nf31.1.drop 3).take 3) = true ∧ wfSs (scF 31) (tF nf31.1) ((nf31.1.drop 6).take 4) = true := by decide +kernel

section
variable {prog : Program} {w : World} {C : Addr} {h₀ : Heap}
variable {F : Nat → List PV → Option PV} {n : Nat} {l : Nat} {A : Around} {env : Env} {T : List Nat} {N : List Addr} {s : Shared} {ρ : Rho} {Q : Flow → Shared → Prop} {E : Value → Shared → Prop}

theorem tup_swaps {env : Env} {sc : Scope} {x y : Str} {p1 p2 tp vp : Pos} {k k2 : Nat} (e : EnvOk sc env) (hx : sc.names.lookup x = some .local) (hy : sc.names.lookup y = some .local) (hne : (x == y) = false) (hl : (p2.line == p1.line) = true) :
    swappedStores [.Tuple [.Name x p1, .Name y p2] k tp] (.Tuple [tupE1.toE, tupE2.toE] k2 vp) env = pure (some [x, y]) := by
  have hb : env.blockKind = .function := by unfold Env.blockKind; rw [e.fn]; rfl
  have hne' : (y == x) = false := by
    cases h : (y == x) with
    | false => rfl
    | true => rw [eq_of_beq h] at hne; simp at hne
  unfold swappedStores
  rw [hb]
  have e1 := e.loc x hx
  have e2 := e.loc y hy
  obtain ⟨f1, f2⟩ := notFolded env
  simp only [List.filterMap_cons, e1, e2, List.head?_cons, Option.map_some, Option.getD_some, Expr.pos, Bool.true_and, beq_self_eq_true, if_true, hl, List.filterMap_nil, f1, f2]
  have hd : ([x, y].eraseDups).length = 2 := by
    rw [List.eraseDups_cons]
    simp [hne', List.eraseDups_cons]
  have hany : ([tupE1.toE, tupE2.toE].any fun e => match e with | .Starred .. => true | _ => false) = false := by rfl
  simp only [hd]
  first | rfl | (simp [hany])

/-- size, kind = .. -/
theorem tup2_ok {px py tp vp p : Pos} {k k2 : Nat} {p1 p2 : PV} (SR : ∀ m, SoundR prog w C h₀ l (pev F m)) (hl : (py.line == px.line) = true) (hsc : (scF 31).names.lookup (nmS 2) = some .local ∧ (scF 31).names.lookup (nmS 3) = some .local) (h2T : 2 ∈ T) (h3T : 3 ∈ T)
    (H : Fm prog w C h₀ l (scF 31) A env T N s ρ [] []) (q1 : pev F n ρ tupE1 = some p1) (q2 : pev F n ρ tupE2 = some p2) (hs1 : scalar p1 = true) (hs2 : scalar p2 = true)
    (h : ∀ s', Ext (pl env) s s' → Fm prog w C h₀ l (scF 31) A env T N s' ((2, p1) :: delR ((3, p2) :: delR ρ 3) 2) [] [] → Q .next s') :
    wpAny (model prog w) A (exec (.Assign [.Tuple [.Name (nmS 2) px, .Name (nmS 3) py] k tp] (.Tuple [tupE1.toE, tupE2.toE] k2 vp) p) env) Q E s := by
  refine Assign_Tuple_swapped (names := [nmS 2, nmS 3]) (wpAny_Tuple ?_) (by rfl) (tup_swaps H.ok.e hsc.1 hsc.2 (by decide +kernel) hl)
  show wpAny _ _ (spliced [(false, eval tupE1.toE env), (false, eval tupE2.toE env)]) _ _ _
  refine Calls.spliced_cons ((SR n _ _ wfTup.1).1 A env s _ ρ p1 H.ok q1 _ _ fun v1 s₁ x₁ hv1 => ?_)
  have H₁ := H.ext x₁
  refine Calls.spliced_cons ((SR n _ _ wfTup.2).1 A env s₁ _ ρ p2 H₁.ok q2 _ _ fun v2 s₂ x₂ hv2 => ?_)
  have H₂ := H₁.ext x₂
  refine Calls.spliced_nil ⟨show (2 : Nat) ≤ sizeLine by decide, ?_⟩
  refine grown (wpAny_unpackItems_tuple (items := #[v1, v2]) H.ok.a.handled ⟨_, Heap.get?_push_size _ rfl, rfl, _, rfl⟩ fun h' hx' ht hz => ?_)
  have x₃ : Ext [] s₂ { s₂ with heap := h' } := by
    refine Ext.mk' (Nat.le_refl _) ?_ fun c o _ q => hx' c o ?_ (Heap.get?_push_of_some _ q)
    · exact Nat.le_trans (by rw [Heap.size_push]; exact Nat.le_succ _) hz
    · show c ≠ (s₂.heap.push _).objs.size
      rw [Heap.size_push]; exact Nat.ne_of_lt (Nat.lt_succ_of_lt (Heap.lt_size q))
  have H₃ := H₂.ext x₃
  show wpAny _ _ (assignInOrder [bindName env (nmS 3), bindName env (nmS 2)] [v2, v1]) _ _ _
  refine wpAny_bind (wpAny_holding (wpAny_bindName (store_ok H₃.ok.e (H₃.can 3 h3T).1 fun s₄ m₄ l₄ => ?_)))
  have H₄ := H₃.store h3T rfl (scalar_any hs2 hv2) m₄ l₄
  refine wpAny_bind (wpAny_holding (wpAny_bindName (store_ok H₄.ok.e (H₄.can 2 h2T).1 fun s₅ m₅ l₅ => wpAny_pure ?_)))
  have H₅ := H₄.store h2T rfl (scalar_any hs1 hv1) m₅ l₅
  have z₄ := mvExt H₃ h3T m₄
  have z₅ := mvExt H₄ h2T m₅
  rw [List.append_nil] at z₄ z₅
  exact h s₅ (((((x₁.trans x₂).trans x₃).mono (by simp)).trans z₄).trans z₅) H₅
end
end Mine

-- part V90
namespace Mine
open PySem PySem.W PyProof.Rows

/-! the row by the drawn bits -/
def st3S : RS := match (nf31.1[3]? : Option RS) with
  | some s => s
  | none => .cont p0
def tK1 : RE := match st3S with
  | .ifs t _ _ _ => t
  | _ => .none 0 p0
def tK2 : RE := match st3S with
  | .ifs _ _ [.ifs t _ _ _] _ => t
  | _ => .none 0 p0
def rowE : RE := match st3S with
  | .ifs _ _ [.ifs _ [.asg _ _ e _] _ _] _ => e
  | _ => .none 0 p0
def lstE : RE := match rowE with
  | .bin _ a _ _ => a
  | _ => .none 0 p0
def eltE : RE := match rowE with
  | .bin _ _ (.lcomp e _ _ _ _) _ => e
  | _ => .none 0 p0
def rngE : RE := match rowE with
  | .bin _ _ (.lcomp _ [.mk _ (.ex r) _] _ _ _) _ => r
  | _ => .none 0 p0
theorem st3_shape : ∃ b1 px p o2 p' p'', (nf31.1.drop 3).take 1 = [.ifs tK1 b1 [.ifs tK2 [.asg 5 px rowE p] o2 p'] p''] := ⟨_, _, _, _, _, _, rfl⟩
theorem rowE_shape : ∃ q px sc q', rowE = .bin .Add lstE (.lcomp eltE [.mk (.nm 6 px) (.ex rngE) []] [1] sc q') q := ⟨_, _, _, _, rfl⟩

theorem plevel_one {rec : Rho → RE → Option PV} {e : RE} {x : Nat} {px : Pos} {g : PV → PV} {ρ : Rho} (hx : look ρ x = none) : ∀ (vs : List PV), (∀ v ∈ vs, rec ((x, v) :: ρ) e = some (g v)) →
    plevel rec (.nm x px) [] (pwithin rec (fun ρ' => rec ρ' e) []) vs ρ = some (vs.map g, false)
  | [], _ => rfl
  | v :: vs, h => by
    rw [plevel, bindT, hx]
    (try dsimp only)
    rw [ptests]
    (try dsimp only)
    rw [pwithin, h v (by simp)]
    (try dsimp only)
    rw [plevel_one hx vs fun u hu => h u (by simp [hu])]
    rfl

def dT (d : Int) : PV := .lst [.any, .int d, .any]
def rhoK (n : Nat) (d : Int) : Rho := [(2, .int n), (3, .int 1), (1, dT d)]
def bitX (d : Int) (j : Nat) : Int := (d.fdiv ((2 : Int) ^ (Int.toNat j))).fmod 2
def bitB (d : Int) (j : Nat) : Bool := decide (bitX d j = 0)
theorem bitX_two (d : Int) (j : Nat) : bitX d j = 0 ∨ bitX d j = 1 := by
  unfold bitX
  rw [Int.fmod_eq_emod_of_nonneg _ (by decide)]
  omega
theorem elt_eq (d : Int) : ∀ j : Nat, j ≤ 4 → pev F2 32 [(6, .int j), (1, dT d)] eltE = pget (.str [100, 105]) (.int (bitX d j))
  | 0, _ => by kernel_rfl
  | 1, _ => by kernel_rfl
  | 2, _ => by kernel_rfl
  | 3, _ => by kernel_rfl
  | 4, _ => by kernel_rfl
  | j + 5, h => absurd h (by omega)
theorem elt_ok (d : Int) (j : Nat) (h : j ≤ 4) : pev F2 32 [(6, .int j), (1, dT d)] eltE = some (.str [match bitB d j with | true => 100 | false => 105]) := by
  rw [elt_eq d j h]
  unfold bitB
  rcases bitX_two d j with e | e
  · rw [e]; rfl
  · rw [e]; rfl
theorem rng_eq (d : Int) : ∀ n : Nat, 1 ≤ n → n ≤ 6 → pitems (pev F2 32) (rhoK n d) (.ex rngE) = some ((List.range (n - 1)).map fun j : Nat => .int j, false)
  | 1, _, _ => by kernel_rfl
  | 2, _, _ => by kernel_rfl
  | 3, _, _ => by kernel_rfl
  | 4, _, _ => by kernel_rfl
  | 5, _, _ => by kernel_rfl
  | 6, _, _ => by kernel_rfl
  | 0, h, _ => absurd h (by decide)
  | n + 7, _, h => absurd h (by omega)
theorem lst_eq (n : Nat) (d : Int) : pev F2 33 (rhoK n d) lstE = some (.lst [.str [100]]) := by kernel_rfl
theorem tK_eq (n : Nat) (d : Int) : evT F2 38 (rhoK n d) [] tK1 = some false ∧ evT F2 36 (rhoK n d) [] tK2 = some true := ⟨by kernel_rfl, by kernel_rfl⟩
def bits (n : Nat) (d : Int) : List Bool := (List.range (n - 1)).map (bitB d)

theorem row_eq (n : Nat) (d : Int) (h1 : 1 ≤ n) (h6 : n ≤ 6) : pev F2 34 (rhoK n d) rowE = some (rowL (true :: bits n d)) := by
  obtain ⟨q, px, sc, q', e⟩ := rowE_shape
  rw [e, pev, pevStep]
  (try dsimp only)
  rw [lst_eq]
  (try dsimp only)
  rw [pev, pevStep]
  (try dsimp only)
  rw [pcomp, rng_eq d n h1 h6]
  (try dsimp only)
  have hfr : ([1].filterMap fun x => (look (rhoK n d) x).map fun v => (x, v)) = [(1, dT d)] := rfl
  rw [hfr]
  have hpl := plevel_one (rec := pev F2 32) (e := eltE) (x := 6) (px := px) (ρ := [(1, dT d)]) (g := fun v => match v with | .int j => .str [match bitB d j.toNat with | true => 100 | false => 105] | _ => .none) rfl ((List.range (n - 1)).map fun j : Nat => .int j) (fun v hv => by
    obtain ⟨j, hj, rfl⟩ := List.mem_map.mp hv
    have : j < n - 1 := List.mem_range.mp hj
    rw [elt_ok d j (by omega)]
    simp)
  rw [hpl]
  (try dsimp only)
  rw [List.map_map]
  have hsm : small ((List.range (n - 1)).map ((fun v => match v with | .int j => PV.str [match bitB d j.toNat with | true => 100 | false => 105] | _ => .none) ∘ fun j : Nat => PV.int j)) = true := by
    unfold small
    simp
    omega
  (try rw [Bool.or_false])
  (try dsimp only)
  rw [hsm]
  (try dsimp only)
  unfold pbin
  (try dsimp only)
  have hlen : decide ([PV.str [100]].length + ((List.range (n - 1)).map ((fun v => match v with | .int j => PV.str [match bitB d j.toNat with | true => 100 | false => 105] | _ => .none) ∘ fun j : Nat => PV.int j)).length ≤ 1000) = true := by
    simp
    omega
  rw [hlen]
  (try dsimp only)
  unfold rowL bits
  rw [List.map_cons, List.map_map]
  congr 3

theorem x3_ok (n : Nat) (d : Int) (h1 : 1 ≤ n) (h6 : n ≤ 6) : xs F2 40 (rhoK n d) [] ((nf31.1.drop 3).take 1) = some ((5, rowL (true :: bits n d)) :: rhoK n d, [], .next) := by
  obtain ⟨b1, px, p, o2, p', p'', e⟩ := st3_shape
  rw [e, xs, x1]
  (try dsimp only)
  rw [(tK_eq n d).1]
  (try dsimp only)
  rw [xs, x1]
  (try dsimp only)
  rw [(tK_eq n d).2]
  (try dsimp only)
  rw [xs, x1]
  (try dsimp only)
  rw [lookO]
  (try dsimp only)
  unfold evM
  rw [row_eq n d h1 h6]
  rfl
end Mine

-- part V91
namespace Mine
open PySem PySem.W PyProof.Rows

/-! the row, made and good -/
def decL : List PV → Option (List Bool)
  | [] => some []
  | .str [c] :: r => match decL r with
    | some bs => match Nat.beq c 100 with
      | true => some (true :: bs)
      | false => match Nat.beq c 105 with
        | true => some (false :: bs)
        | false => none
    | none => none
  | _ => none
def decRow : PV → Option (List Bool)
  | .lst l => decL l
  | _ => none
theorem decL_ok : ∀ {l : List PV} {bs : List Bool}, decL l = some bs → l = bs.map fun b => .str [match b with | true => 100 | false => 105] := by
  intro l
  induction l with
  | nil => intro bs h; cases h; rfl
  | cons p r ih =>
    intro bs h
    unfold decL at h
    split at h
    · rename_i e; cases e
    · rename_i c r' e
      cases e
      split at h
      · rename_i bs' hr
        have := ih hr
        split at h
        · rename_i hc
          cases h
          rw [List.map_cons, ← this, Nat.eq_of_beq_eq_true hc]
        · split at h
          · rename_i hc
            cases h
            rw [List.map_cons, ← this, Nat.eq_of_beq_eq_true hc]
          · cases h
      · cases h
    · cases h
theorem decRow_ok {p : PV} {bs : List Bool} (h : decRow p = some bs) : p = rowL bs := by
  unfold decRow at h
  split at h
  · rw [decL_ok h]; rfl
  · cases h
/-- what stands after the row, made and good -/
def stands (n : Nat) : Option (Rho × Sig × Fl) → Bool
  | some (ρ, [], .next) => match look ρ 5 with
    | some p => match decRow p with
      | some (true :: tl) => match look ρ 8 with
        | some (.bool true) => match look ρ 2 with
          | some (.int m) => Nat.beq (tl.length + 1) n && (m == n)
          | _ => false
        | _ => false
      | _ => false
    | none => false
  | _ => false
theorem stands_ok {n : Nat} {o : Option (Rho × Sig × Fl)} (h : stands n o = true) : ∃ ρ tl, o = some (ρ, [], .next) ∧ look ρ 5 = some (rowL (true :: tl)) ∧ look ρ 8 = some (.bool true) ∧ look ρ 2 = some (.int n) ∧ tl.length + 1 = n := by
  unfold stands at h
  split at h
  · rename_i ρ
    split at h
    · rename_i p h5
      split at h
      · rename_i tl hd
        split at h
        · rename_i h8
          split at h
          · rename_i m h2
            rw [Bool.and_eq_true] at h
            exact ⟨ρ, tl, rfl, by rw [h5, decRow_ok hd], h8, by rw [h2, eq_of_beq h.2], Nat.eq_of_beq_eq_true h.1⟩
          · cases h
        · cases h
      · cases h
    · cases h
  · cases h
def stB (n k e : Nat) : Bool := stands n (xs F2 100 [(2, .int n), (3, .int k), (4, .int e)] [] ((nf31.1.drop 3).take 3))
def stK (n : Nat) (bs : List Bool) : Bool := stands n (xs F2 100 [(5, rowL bs), (2, .int n), (3, .int 1)] [] ((nf31.1.drop 4).take 2))
theorem stB_all : ((List.range 6).all fun m => (List.range ((m + 1) * m / 2 + 1)).all fun e => stB (m + 1) 0 e && stB (m + 1) 2 e) = true := by decide +kernel
theorem stK_all : ((List.range 6).all fun m => (allB m).all fun bs => stK (m + 1) (true :: bs)) = true := by decide +kernel
theorem stB_ok (n k e : Nat) (h1 : 1 ≤ n) (h6 : n ≤ 6) (hk : k = 0 ∨ k = 2) (he : e ≤ n * (n - 1) / 2) : stB n k e = true := by
  have h := stB_all
  rw [List.all_eq_true] at h
  have h2 := h (n - 1) (List.mem_range.mpr (by omega))
  rw [List.all_eq_true] at h2
  have e1 : n - 1 + 1 = n := by omega
  rw [e1] at h2
  have h3 := h2 e (List.mem_range.mpr (by omega))
  rw [Bool.and_eq_true] at h3
  rcases hk with rfl | rfl
  · exact h3.1
  · exact h3.2
theorem allB_mem : ∀ (m : Nat) (bs : List Bool), bs.length = m → bs ∈ allB m
  | 0, [], _ => by simp [allB]
  | 0, _ :: _, h => by simp at h
  | m + 1, [], h => by simp at h
  | m + 1, b :: bs, h => by
    unfold allB
    rw [List.mem_flatMap]
    exact ⟨bs, allB_mem m bs (by simpa using h), by cases b <;> simp⟩
theorem stK_ok (n : Nat) (bs : List Bool) (h1 : 1 ≤ n) (h6 : n ≤ 6) (hb : bs.length + 1 = n) : stK n (true :: bs) = true := by
  have h := stK_all
  rw [List.all_eq_true] at h
  have h2 := h (n - 1) (List.mem_range.mpr (by omega))
  rw [List.all_eq_true] at h2
  have e1 : n - 1 + 1 = n := by omega
  rw [e1] at h2
  exact h2 bs (allB_mem _ _ (by omega))
theorem isTrueP_ok {o : Option PV} (h : isTrueP o = true) : o = some (.bool true) := by
  unfold isTrueP at h
  split at h
  · rfl
  · cases h
theorem lawC_ok {n : Nat} {row : PV} (h : isTrueP (lawC n row) = true) : ∃ ρ σ ρ' σ', xs F2 400 [(2, .int n), (5, row), (8, .bool true)] [] ((nf31.1.drop 6).take 4) = some (ρ, σ, .next) ∧ xs F2 400 (treesOf σ ++ ρ) [] (nf31.1.drop 10) = some (ρ', σ', .ret (.bool true)) := by
  have h := isTrueP_ok h
  unfold lawC at h
  split at h
  · rename_i ρ σ e
    obtain ⟨ρ', σ', e'⟩ := retOf_ok h
    exact ⟨ρ, σ, ρ', σ', e, e'⟩
  · cases h
theorem wfMore : wfSs (scF 31) (tF nf31.1) ((nf31.1.drop 3).take 1) = true ∧ wfSs (scF 31) (tF nf31.1) ((nf31.1.drop 4).take 2) = true := by decide +kernel
theorem law_loc : ((scF 31).names.lookup (nmS 2) = some .local ∧ (scF 31).names.lookup (nmS 3) = some .local) ∧ 2 ∈ tF nf31.1 ∧ 3 ∈ tF nf31.1 := by decide +kernel

section
variable {prog : Program} {w : World} {C : Addr} {h₀ : Heap}
variable {l : Nat} {sc : Scope} {A : Around} {env : Env} {T : List Nat} {N : List Addr} {s : Shared} {ρ ρ₂ : Rho} {σ : Sig} {as : List Addr}

theorem Fm.freeze (H : Fm prog w C h₀ l sc A env T N s ρ σ as) : Fm prog w C h₀ l sc A env T N s (treesOf σ ++ ρ) [] [] :=
  ⟨by rw [List.append_nil]; exact H.ok2, H.inN, rfl, List.nodup_nil, fun _ h => (nomatch h), fun _ h => (nomatch h), List.nodup_nil, H.can⟩
/-- fewer trees, or coarser ones -/
theorem Fm.re (H : Fm prog w C h₀ l sc A env T N s ρ [] []) (h : ∀ x p, look ρ₂ x = some p → ∃ v, Look s env (nmS x) v ∧ VR prog w C s.heap (N ++ []) p v) : Fm prog w C h₀ l sc A env T N s ρ₂ [] [] :=
  ⟨⟨H.ok.a, H.ok.e, H.ok.old, H.ok.tk, H.ok.live, H.ok.base, H.ok.inW, H.ok.sz, h⟩, H.inN, H.own, H.nd, H.sep, fun _ h => (nomatch h), H.dup, H.can⟩
theorem Fm.sub (H : Fm prog w C h₀ l sc A env T N s ρ [] []) (h : ∀ x p, look ρ₂ x = some p → look ρ x = some p) : Fm prog w C h₀ l sc A env T N s ρ₂ [] [] := H.re fun x p e => H.ok.rho x p (h x p e)
end
end Mine

-- part W1
namespace Mine
open PySem PySem.W PyProof.Rows

/-! the powers of the matrix, without the evaluator -/
def intsT (l : List Int) : PV := .lst (l.map .int)
def matT (M : List (List Int)) : PV := .lst (M.map intsT)
def rgI (n : Nat) : List Int := (List.range n).map Int.ofNat
def entry (M : List (List Int)) (i j : Nat) : Int := (M.getD i []).getD j 0
def dotI (n : Nat) (r : List Int) (M : List (List Int)) (v : Nat) : Int := sumI ((List.range n).map fun w => r.getD w 0 * entry M w v)
def mulM (n : Nat) (R M : List (List Int)) : List (List Int) := R.map fun r => (List.range n).map (dotI n r M)
def trM (n : Nat) (R : List (List Int)) : Int := sumI ((List.range n).map fun v => entry R v v)
def okM (n : Nat) (R : List (List Int)) : Bool := Nat.beq R.length n && R.all fun r => Nat.beq r.length n && r.all smallI
def loopOk (n : Nat) (M : List (List Int)) (lam : List Int) : Nat → Nat → List (List Int) → Bool
  | 0, _, _ => true
  | c + 1, t, R => okM n R && (trM n R == sumI (lam.map (· ^ t))) && loopOk n M lam c (t + 1) (mulM n R M)

section
variable {F : Nat → List PV → Option PV} {k : Nat} {ρ : Rho}
theorem pev_name {x : Nat} {p : Pos} : pev F (k + 1) ρ (.name x p) = look ρ x := rfl
theorem pev_sub {a i : RE} {p : Pos} {x y : PV} (h1 : pev F k ρ a = some x) (h2 : pev F k ρ i = some y) : pev F (k + 1) ρ (.sub a i p) = pget x y := by
  rw [pev, pevStep, h1]
  (try dsimp only)
  rw [h2]
theorem pev_bin {op : Operator} {a b : RE} {p : Pos} {x y : PV} (h1 : pev F k ρ a = some x) (h2 : pev F k ρ b = some y) : pev F (k + 1) ρ (.bin op a b p) = pbin op x y := by
  rw [pev, pevStep, h1]
  (try dsimp only)
  rw [h2]
theorem pev_cmp {op : CmpOp} {a b : RE} {p : Pos} {x y : PV} (h1 : pev F k ρ a = some x) (h2 : pev F k ρ b = some y) : pev F (k + 1) ρ (.cmp op a b p) = pcmp op x y := by
  rw [pev, pevStep, h1]
  (try dsimp only)
  rw [h2]
theorem pev_call1 {f : Nat} {e : RE} {np p : Pos} {x : PV} (h1 : pev F k ρ e = some x) : pev F (k + 1) ρ (.call f [e] np p) = F f [x] := by
  rw [pev, pevStep, evs, h1]
  (try dsimp only)
  rw [evs]
theorem pev_and2 {a b : RE} {p : Pos} {y : PV} (h1 : pev F k ρ a = some (.bool true)) (h2 : pev F k ρ b = some y) : pev F (k + 1) ρ (.bop .And [a, b] p) = some y := by
  rw [pev, pevStep, pand]
  (try dsimp only)
  rw [h1]
  (try dsimp only)
  rw [truth]
  (try dsimp only)
  rw [pand]
  (try dsimp only)
  rw [h2]
theorem pev_lcomp {e it : RE} {x : Nat} {px p : Pos} {fr : List Nat} {sc : Scope} {src : PV} {vs : List PV} {g : PV → PV} (h1 : pev F k ρ it = some src) (h2 : piter src = some (vs, false)) (hx : look (fr.filterMap fun x => (look ρ x).map fun v => (x, v)) x = none)
    (hg : ∀ v ∈ vs, pev F k ((x, v) :: fr.filterMap fun x => (look ρ x).map fun v => (x, v)) e = some (g v)) (hz : vs.length ≤ 1000) : pev F (k + 1) ρ (.lcomp e [.mk (.nm x px) (.ex it) []] fr sc p) = some (.lst (vs.map g)) := by
  rw [pev, pevStep, pcomp, pitems, h1]
  (try dsimp only)
  rw [h2]
  (try dsimp only)
  rw [plevel_one hx vs hg]
  (try dsimp only)
  rw [Bool.or_false]
  (try dsimp only)
  have hs : small (vs.map g) = true := by unfold small; simp; omega
  rw [hs]
theorem pget_lst {l : List PV} {i : Nat} {v : PV} (h : l[i]? = some v) (hi : i < 1000000) : pget (.lst l) (.int i) = some v := by
  unfold pget
  (try dsimp only)
  have : ixI (i : Int) = true := by
    show Nat.blt i 1000000 = true
    simp [Nat.blt]; omega
  rw [this]
  (try dsimp only)
  rw [Int.toNat_natCast]
  exact h
theorem allInt_map : ∀ l : List Int, allInt (l.map PV.int) = some l
  | [] => rfl
  | a :: l => by rw [List.map_cons, allInt, allInt_map l]; rfl
theorem sum_ok (l : List Int) : F2 2 [intsT l] = some (.int (sumI l)) := by
  show sumOf (l.map PV.int) = _
  unfold sumOf
  rw [allInt_map]
theorem pev_sum {e : RE} {np p : Pos} {l : List Int} (h : pev F2 k ρ e = some (intsT l)) : pev F2 (k + 1) ρ (.call 2 [e] np p) = some (.int (sumI l)) := by
  rw [pev_call1 h, sum_ok]
end

theorem okM_ok {n : Nat} {R : List (List Int)} (h : okM n R = true) : R.length = n ∧ ∀ r ∈ R, r.length = n ∧ ∀ a ∈ r, smallI a = true := by
  unfold okM at h
  rw [Bool.and_eq_true, List.all_eq_true] at h
  refine ⟨Nat.eq_of_beq_eq_true h.1, fun r hr => ?_⟩
  have := h.2 r hr
  rw [Bool.and_eq_true, List.all_eq_true] at this
  exact ⟨Nat.eq_of_beq_eq_true this.1, this.2⟩
theorem getD_get {l : List Int} {i : Nat} (h : i < l.length) : l[i]? = some (l.getD i 0) := by
  rw [List.getElem?_eq_getElem h, List.getD_eq_getElem?_getD, List.getElem?_eq_getElem h]; rfl
theorem getD_row {M : List (List Int)} {i : Nat} (h : i < M.length) : M[i]? = some (M.getD i []) ∧ M.getD i [] ∈ M := by
  have e : M.getD i [] = M[i] := by rw [List.getD_eq_getElem?_getD, List.getElem?_eq_getElem h]; rfl
  rw [e]
  exact ⟨List.getElem?_eq_getElem h, List.getElem_mem h⟩
theorem int_get {l : List Int} {i : Nat} (h : i < l.length) : (l.map PV.int)[i]? = some (.int (l.getD i 0)) := by
  rw [List.getElem?_map, getD_get h]; rfl
theorem row_get {M : List (List Int)} {i : Nat} (h : i < M.length) : (M.map intsT)[i]? = some (intsT (M.getD i [])) := by
  rw [List.getElem?_map, (getD_row h).1]; rfl

/-- [.. for x in near], from number to tree -/
theorem rg_iter (n : Nat) (ps : List PV) : piter (.dct (rgI n) ps) = some ((List.range n).map fun j : Nat => PV.int j, false) := by
  unfold piter rgI
  (try dsimp only)
  rw [List.map_map]
  rfl
theorem lst_map_range {n : Nat} {f : Nat → Int} {g : PV → PV} (h : ∀ j, j < n → g (.int j) = .int (f j)) : PV.lst (((List.range n).map fun j : Nat => PV.int j).map g) = intsT ((List.range n).map f) := by
  unfold intsT
  rw [List.map_map, List.map_map]
  congr 1
  apply List.map_congr_left
  intro j hj
  exact h j (List.mem_range.mp hj)
/-- a number's value out of its tree -/
def natOf : PV → Nat
  | .int i => i.toNat
  | _ => 0

section
variable {k n : Nat} {ρ : Rho} {M R : List (List Int)} {p1 p2 p3 p4 p5 p6 p7 p8 p9 pa pb pc : Pos} {ps : List PV}

theorem dot_ok {r : List Int} {v : Nat} {sc : Scope} (hn : n ≤ 1000) (hM : okM n M = true) (hr : r.length = n ∧ ∀ a ∈ r, smallI a = true) (hv : v < n) (e10 : look ρ 10 = some (.dct (rgI n) ps)) (e22 : look ρ 22 = some (matT M)) (e35 : look ρ 35 = some (intsT r)) (e11 : look ρ 11 = some (.int v)) :
    pev F2 (k + 6) ρ (.call 2 [.lcomp (.bin .Mult (.sub (.name 35 p1) (.name 29 p2) p3) (.sub (.sub (.name 22 p4) (.name 29 p5) p6) (.name 11 p7) p8) p9) [.mk (.nm 29 pa) (.ex (.name 10 pb)) []] [22, 35, 11] sc pc] p1 p2) = some (.int (dotI n r M v)) := by
  obtain ⟨m1, m2⟩ := okM_ok hM
  refine pev_sum ?_
  have hfr : ([22, 35, 11].filterMap fun x => (look ρ x).map fun v => (x, v)) = [(22, matT M), (35, intsT r), (11, .int v)] := by simp [e22, e35, e11]
  rw [pev_lcomp (g := fun w => .int (r.getD (natOf w) 0 * entry M (natOf w) v)) (pev_name.trans e10) (rg_iter n ps) (by rw [hfr]; rfl) (fun w hw => ?_) (by simp; omega)]
  · rw [lst_map_range (f := fun w => r.getD w 0 * entry M w v) fun j _ => by simp [natOf]]
  · rw [hfr]
    obtain ⟨j, hj, rfl⟩ := List.mem_map.mp hw
    have hj' : j < n := List.mem_range.mp hj
    have row := getD_row (M := M) (i := j) (by omega)
    have hrow := m2 _ row.2
    rw [pev_bin (x := .int (r.getD j 0)) (y := .int (entry M j v))]
    · have s1 : smallI (r.getD j 0) = true := hr.2 _ (by
        have := getD_get (l := r) (i := j) (by omega)
        exact List.mem_of_getElem? this)
      have s2 : smallI (entry M j v) = true := hrow.2 _ (List.mem_of_getElem? (getD_get (l := M.getD j []) (i := v) (by omega)))
      show (match smallI (r.getD j 0) && smallI (entry M j v) with | true => some (PV.int (r.getD j 0 * entry M j v)) | false => none) = _
      rw [s1, s2]
      simp [natOf]
    · rw [pev_sub (x := intsT r) (y := .int j) rfl rfl]
      exact pget_lst (int_get (by omega)) (by omega)
    · rw [pev_sub (x := intsT (M.getD j [])) (y := .int v) ?_ rfl]
      · exact pget_lst (int_get (by omega)) (by omega)
      · rw [pev_sub (x := matT M) (y := .int j) rfl rfl]
        exact pget_lst (row_get (by omega)) (by omega)
end
end Mine

-- part W2
namespace Mine
open PySem PySem.W PyProof.Rows

theorem matT_map {n : Nat} {R M : List (List Int)} {g : PV → PV} (h : ∀ r ∈ R, g (intsT r) = intsT ((List.range n).map (dotI n r M))) : PV.lst ((R.map intsT).map g) = matT (mulM n R M) := by
  unfold matT mulM
  rw [List.map_map, List.map_map]
  congr 1
  apply List.map_congr_left
  intro r hr
  exact h r hr

/-- a line of numbers out of its tree -/
def rowOf : PV → List Int
  | .lst l => (allInt l).getD []
  | _ => []
theorem rowOf_ints (r : List Int) : rowOf (intsT r) = r := by
  unfold rowOf intsT
  (try dsimp only)
  rw [allInt_map]; rfl

section
variable {k n : Nat} {ρ : Rho} {M R : List (List Int)} {p1 p2 p3 p4 p5 p6 p7 p8 p9 pa pb pc pd pe pf pg ph pi pj pk pm : Pos} {ps : List PV}

theorem mulM_ok {sc sc1 sc2 : Scope} (hn : n ≤ 1000) (hM : okM n M = true) (hR : okM n R = true) (e10 : look ρ 10 = some (.dct (rgI n) ps)) (e22 : look ρ 22 = some (matT M)) (e23 : look ρ 23 = some (matT R)) :
    pev F2 (k + 8) ρ (.lcomp (.lcomp (.call 2 [.lcomp (.bin .Mult (.sub (.name 35 p1) (.name 29 p2) p3) (.sub (.sub (.name 22 p4) (.name 29 p5) p6) (.name 11 p7) p8) p9) [.mk (.nm 29 pa) (.ex (.name 10 pb)) []] [22, 35, 11] sc pc] pd pe) [.mk (.nm 11 pf) (.ex (.name 10 pg)) []] [22, 35, 10] sc1 ph) [.mk (.nm 35 pi) (.ex (.name 23 pj)) []] [22, 10] sc2 pk) = some (matT (mulM n R M)) := by
  obtain ⟨r1, r2⟩ := okM_ok hR
  have hfr : ([22, 10].filterMap fun x => (look ρ x).map fun v => (x, v)) = [(22, matT M), (10, .dct (rgI n) ps)] := by simp [e22, e10]
  rw [pev_lcomp (src := matT R) (vs := R.map intsT) (g := fun v => intsT ((List.range n).map (dotI n (rowOf v) M))) (pev_name.trans e23) rfl (by rw [hfr]; rfl) (fun v hv => ?_) (by rw [List.length_map]; omega)]
  · rw [matT_map fun r _ => by rw [rowOf_ints]]
  · rw [hfr]
    obtain ⟨r, hr, rfl⟩ := List.mem_map.mp hv
    rw [rowOf_ints]
    have hfr2 : ([22, 35, 10].filterMap fun x => (look [(35, intsT r), (22, matT M), (10, .dct (rgI n) ps)] x).map fun v => (x, v)) = [(22, matT M), (35, intsT r), (10, .dct (rgI n) ps)] := rfl
    rw [pev_lcomp (src := .dct (rgI n) ps) (g := fun w => .int (dotI n r M (natOf w))) rfl (rg_iter n ps) (by rw [hfr2]; rfl) (fun w hw => ?_) (by simp; omega)]
    · rw [lst_map_range (f := dotI n r M) fun j _ => by simp [natOf]]
    · rw [hfr2]
      obtain ⟨j, hj, rfl⟩ := List.mem_map.mp hw
      rw [show natOf (.int (j : Int)) = j from by simp [natOf]]
      exact dot_ok (k := k) hn hM (r2 r hr) (List.mem_range.mp hj) rfl rfl rfl rfl

theorem trM_ok {sc : Scope} (hn : n ≤ 1000) (hR : okM n R = true) (e10 : look ρ 10 = some (.dct (rgI n) ps)) (e23 : look ρ 23 = some (matT R)) :
    pev F2 (k + 5) ρ (.call 2 [.lcomp (.sub (.sub (.name 23 p1) (.name 11 p2) p3) (.name 11 p4) p5) [.mk (.nm 11 p6) (.ex (.name 10 p7)) []] [23] sc p8] p9 pa) = some (.int (trM n R)) := by
  obtain ⟨r1, r2⟩ := okM_ok hR
  refine pev_sum ?_
  have hfr : ([23].filterMap fun x => (look ρ x).map fun v => (x, v)) = [(23, matT R)] := by simp [e23]
  rw [pev_lcomp (g := fun v => .int (entry R (natOf v) (natOf v))) (pev_name.trans e10) (rg_iter n ps) (by rw [hfr]; rfl) (fun v hv => ?_) (by simp; omega)]
  · rw [lst_map_range (f := fun v => entry R v v) fun j _ => by simp [natOf]]
  · rw [hfr]
    obtain ⟨j, hj, rfl⟩ := List.mem_map.mp hv
    have hj' : j < n := List.mem_range.mp hj
    have row := getD_row (M := R) (i := j) (by omega)
    have hrow := r2 _ row.2
    rw [pev_sub (x := intsT (R.getD j [])) (y := .int j) ?_ rfl]
    · rw [show natOf (.int (j : Int)) = j from by simp [natOf]]
      exact pget_lst (int_get (by omega)) (by omega)
    · rw [pev_sub (x := matT R) (y := .int j) rfl rfl]
      exact pget_lst (row_get (by omega)) (by omega)

theorem powM_ok {sc : Scope} {lam : List Int} {t : Nat} (hl : lam.length ≤ 1000) (hs : lam.all smallI = true) (ht : t ≤ 64) (e21 : look ρ 21 = some (intsT lam)) (e24 : look ρ 24 = some (.int t)) :
    pev F2 (k + 4) ρ (.call 2 [.lcomp (.bin .Pow (.name 34 p1) (.name 24 p2) p3) [.mk (.nm 34 p4) (.ex (.name 21 p5)) []] [24] sc p6] p7 p8) = some (.int (sumI (lam.map (· ^ t)))) := by
  refine pev_sum ?_
  have hfr : ([24].filterMap fun x => (look ρ x).map fun v => (x, v)) = [(24, .int t)] := by simp [e24]
  rw [pev_lcomp (src := intsT lam) (vs := lam.map .int) (g := fun v => match v with | .int a => .int (a ^ t) | _ => .none) (pev_name.trans e21) rfl (by rw [hfr]; rfl) (fun v hv => ?_) (by rw [List.length_map]; exact hl)]
  · unfold intsT
    rw [List.map_map, List.map_map]
    rfl
  · rw [hfr]
    obtain ⟨a, ha, rfl⟩ := List.mem_map.mp hv
    rw [pev_bin (x := .int a) (y := .int t) rfl rfl]
    have s1 : smallI a = true := List.all_eq_true.mp hs a ha
    have d1 : decide ((0 : Int) ≤ t) = true := by simp
    have d2 : decide ((t : Int) ≤ 64) = true := by simp; omega
    show (match decide ((0 : Int) ≤ t) && decide ((t : Int) ≤ 64) && smallI a with | true => some (PV.int (a ^ (t : Int).toNat)) | false => none) = _
    rw [s1, d1, d2]
    simp
end
end Mine

-- part W3
namespace Mine
open PySem PySem.W PyProof.Rows

def forS : RS := (nf31.1[26]?).getD (.cont p0)
def b1E : RE := match forS with
  | .for_ _ _ [.asg _ _ e _, _] _ => e
  | _ => .none 0 p0
def b2E : RE := match forS with
  | .for_ _ _ [_, .asgC _ _ e _] _ => e
  | _ => .none 0 p0
def rg31 : RE := match forS with
  | .for_ _ (.ex r) _ _ => r
  | _ => .none 0 p0
theorem forS_shape : ∃ p q1 q2 q3 q4 q5, forS = .for_ (.nm 24 p) (.ex rg31) [.asg 8 q1 b1E q2, .asgC 23 q3 b2E q4] q5 := ⟨_, _, _, _, _, _, rfl⟩
theorem law_split : nf31.1.drop 10 = (nf31.1.drop 10).take 16 ++ (forS :: nf31.1.drop 27) := by rfl

/-- what the loop reads -/
structure Lk (n : Nat) (M R : List (List Int)) (lam : List Int) (ps : List PV) (ρ : Rho) : Prop where
  e10 : look ρ 10 = some (.dct (rgI n) ps)
  e22 : look ρ 22 = some (matT M)
  e23 : look ρ 23 = some (matT R)
  e21 : look ρ 21 = some (intsT lam)
  e8 : look ρ 8 = some (.bool true)
  e2 : look ρ 2 = some (.int n)
theorem look_put {ρ : Rho} {x y : Nat} {v : PV} (h : x ≠ y) : look ((x, v) :: delR ρ x) y = look ρ y := by
  rw [look_cons, if_neg h, delR_look, if_neg (Ne.symm h)]
theorem look_put_self {ρ : Rho} {x : Nat} {v : PV} : look ((x, v) :: delR ρ x) x = some v := by
  rw [look_cons, if_pos rfl]

section
variable {k n : Nat} {ρ : Rho} {M R : List (List Int)} {ps : List PV} {lam : List Int} {t : Nat}
theorem b1_ok (hn : n ≤ 1000) (hR : okM n R = true) (hl : lam.length ≤ 1000) (hs : lam.all smallI = true) (ht : t ≤ 64) (L : Lk n M R lam ps ρ) (e24 : look ρ 24 = some (.int t)) : pev F2 (k + 8) ρ b1E = some (.bool (trM n R == sumI (lam.map (· ^ t)))) := by
  exact pev_and2 (pev_name.trans L.e8) ((pev_cmp (trM_ok (k := k + 1) hn hR L.e10 L.e23) (powM_ok (k := k + 2) hl hs ht L.e21 e24)).trans rfl)
theorem b2_ok (hn : n ≤ 1000) (hM : okM n M = true) (hR : okM n R = true) (e10 : look ρ 10 = some (.dct (rgI n) ps)) (e22 : look ρ 22 = some (matT M)) (e23 : look ρ 23 = some (matT R)) : pev F2 (k + 8) ρ b2E = some (matT (mulM n R M)) :=
  mulM_ok (k := k) hn hM hR e10 e22 e23

theorem loop_ok {p q1 q2 q3 q4 : Pos} (hn : n ≤ 1000) (hM : okM n M = true) (hl : lam.length ≤ 1000) (hs : lam.all smallI = true) : ∀ (c t : Nat) (R : List (List Int)) (ρ : Rho), t + c ≤ 65 → loopOk n M lam c t R = true → Lk n M R lam ps ρ →
    ∃ ρ' R', fl F2 (c + 25) ρ [] (.nm 24 p) [.asg 8 q1 b1E q2, .asgC 23 q3 b2E q4] (upTo t c) = some (ρ', [], .next) ∧ Lk n M R' lam ps ρ'
  | 0, t, R, ρ, _, _, L => ⟨ρ, R, rfl, L⟩
  | c + 1, t, R, ρ, ht, h, L => by
    rw [loopOk, Bool.and_eq_true, Bool.and_eq_true] at h
    obtain ⟨⟨hR, htr⟩, hrest⟩ := h
    have L1 : Lk n M R lam ps ((24, .int t) :: delR ρ 24) := ⟨by rw [look_put (by decide)]; exact L.e10, by rw [look_put (by decide)]; exact L.e22, by rw [look_put (by decide)]; exact L.e23, by rw [look_put (by decide)]; exact L.e21, by rw [look_put (by decide)]; exact L.e8, by rw [look_put (by decide)]; exact L.e2⟩
    have v1 : pev F2 (c + 23) ((24, .int t) :: delR ρ 24) b1E = some (.bool true) := by
      have := b1_ok (k := c + 15) hn hR hl hs (by omega) L1 look_put_self
      rw [htr] at this
      exact this
    have L2 : Lk n M R lam ps ((8, .bool true) :: delR ((24, .int t) :: delR ρ 24) 8) := ⟨by rw [look_put (by decide)]; exact L1.e10, by rw [look_put (by decide)]; exact L1.e22, by rw [look_put (by decide)]; exact L1.e23, by rw [look_put (by decide)]; exact L1.e21, look_put_self, by rw [look_put (by decide)]; exact L1.e2⟩
    have v2 : pev F2 (c + 22) ((8, .bool true) :: delR ((24, .int t) :: delR ρ 24) 8) b2E = some (matT (mulM n R M)) := b2_ok (k := c + 14) hn hM hR L2.e10 L2.e22 L2.e23
    have L3 : Lk n M (mulM n R M) lam ps ((23, matT (mulM n R M)) :: delR ((8, .bool true) :: delR ((24, .int t) :: delR ρ 24) 8) 23) := ⟨by rw [look_put (by decide)]; exact L2.e10, by rw [look_put (by decide)]; exact L2.e22, look_put_self, by rw [look_put (by decide)]; exact L2.e21, by rw [look_put (by decide)]; exact L2.e8, by rw [look_put (by decide)]; exact L2.e2⟩
    obtain ⟨ρ', R', hfl, L'⟩ := loop_ok (p := p) (q1 := q1) (q2 := q2) (q3 := q3) (q4 := q4) hn hM hl hs c (t + 1) _ _ (by omega) hrest L3
    refine ⟨ρ', R', ?_, L'⟩
    rw [upTo, fl, setT]
    (try dsimp only)
    have hx : xs F2 (c + 25) ((24, .int t) :: delR ρ 24) [] [.asg 8 q1 b1E q2, .asgC 23 q3 b2E q4] = some ((23, matT (mulM n R M)) :: delR ((8, .bool true) :: delR ((24, .int t) :: delR ρ 24) 8) 23, [], .next) := by
      rw [xs, x1]
      (try dsimp only)
      rw [lookO]
      (try dsimp only)
      unfold evM
      rw [v1]
      (try dsimp only)
      rw [xs, x1]
      (try dsimp only)
      rw [lookO]
      (try dsimp only)
      rw [v2]
      rfl
    rw [show c + 1 + 24 = c + 25 from by omega, hx]
    (try dsimp only)
    rw [show sameNm ([] : Sig) [] = true from rfl]
    exact hfl
end
end Mine

-- part W4
namespace Mine
open PySem PySem.W PyProof.Rows

def decMs : List PV → Option (List (List Int))
  | [] => some []
  | .lst r :: l => match allInt r with
    | some is => match decMs l with
      | some M => some (is :: M)
      | none => none
    | none => none
  | _ => none
def decM : PV → Option (List (List Int))
  | .lst l => decMs l
  | _ => none
theorem allInt_back : ∀ {l : List PV} {is : List Int}, allInt l = some is → l = is.map .int := by
  intro l
  induction l with
  | nil => intro is h; cases h; rfl
  | cons p r ih =>
    intro is h
    cases p with
    | int i =>
      rw [allInt] at h
      cases hr : allInt r with
      | none => rw [hr] at h; cases h
      | some js => rw [hr] at h; cases h; rw [ih hr]; rfl
    | _ => cases h
theorem decMs_ok : ∀ {l : List PV} {M : List (List Int)}, decMs l = some M → l = M.map intsT := by
  intro l
  induction l with
  | nil => intro M h; cases h; rfl
  | cons p r ih =>
    intro M h
    cases p with
    | lst q =>
      rw [decMs] at h
      cases hq : allInt q with
      | none => rw [hq] at h; cases h
      | some is =>
        rw [hq] at h
        (try dsimp only at h)
        cases hr : decMs r with
        | none => rw [hr] at h; cases h
        | some M' => rw [hr] at h; cases h; rw [List.map_cons, ← ih hr, allInt_back hq]; rfl
    | _ => cases h
theorem decM_ok {p : PV} {M : List (List Int)} (h : decM p = some M) : p = matT M := by
  unfold decM at h
  split at h
  · rw [decMs_ok h]; rfl
  · cases h

/-- the law's end: the loop over the powers, and what is given back -/
def chkL (n : Nat) (ρ : Rho) : Bool := match look ρ 10 with
  | some (.dct ks _) => match look ρ 22 with
    | some Lp => match decM Lp with
      | some M => match look ρ 23 with
        | some Rp => match decM Rp with
          | some R => match look ρ 21 with
            | some (.lst tl) => match allInt tl with
              | some lam => match look ρ 8 with
                | some (.bool true) => match look ρ 2 with
                  | some (.int m) => (ks == rgI n) && (m == n) && okM n M && lam.all smallI && loopOk n M lam n 1 R && Nat.ble lam.length 1000 && isTrueP (retOf (xs F2 40 [(8, .bool true), (21, .lst tl), (2, .int m)] [] (nf31.1.drop 27)))
                  | _ => false
                | _ => false
              | none => false
            | _ => false
          | none => false
        | none => false
      | none => false
    | none => false
  | _ => false
theorem chkL_ok {n : Nat} {ρ : Rho} (h : chkL n ρ = true) : ∃ M R lam ps, Lk n M R lam ps ρ ∧ okM n M = true ∧ lam.all smallI = true ∧ loopOk n M lam n 1 R = true ∧ lam.length ≤ 1000 ∧ isTrueP (retOf (xs F2 40 [(8, .bool true), (21, intsT lam), (2, .int n)] [] (nf31.1.drop 27))) = true := by
  unfold chkL at h
  split at h
  · rename_i ks ps h10
    split at h
    · rename_i Lp h22
      split at h
      · rename_i M hM
        split at h
        · rename_i Rp h23
          split at h
          · rename_i R hR
            split at h
            · rename_i tl h21
              split at h
              · rename_i lam hl
                split at h
                · rename_i h8
                  split at h
                  · rename_i m h2
                    simp only [Bool.and_eq_true] at h
                    obtain ⟨⟨⟨⟨⟨⟨g1, g2⟩, g3⟩, g4⟩, g5⟩, g6⟩, g7⟩ := h
                    have e1 : ks = rgI n := eq_of_beq g1
                    have e2 : m = n := eq_of_beq g2
                    have e3 : tl = lam.map .int := allInt_back hl
                    subst e1 e2 e3
                    exact ⟨M, R, lam, ps, ⟨h10, by rw [h22, decM_ok hM], by rw [h23, decM_ok hR], h21, h8, h2⟩, g3, g4, g5, Nat.le_of_ble_eq_true g6, g7⟩
                  · cases h
                · cases h
              · cases h
            · cases h
          · cases h
        · cases h
      · cases h
    · cases h
  · cases h
/-- the law from the runs on, for a row -/
def lawB (n : Nat) (row : PV) : Bool := match xs F2 400 [(2, .int n), (5, row), (8, .bool true)] [] ((nf31.1.drop 6).take 4) with
  | some (ρ, σ, .next) => match xs F2 400 (treesOf σ ++ ρ) [] ((nf31.1.drop 10).take 16) with
    | some (ρ₁, [], .next) => chkL n ρ₁
    | _ => false
  | _ => false
theorem lawB_ok {n : Nat} {row : PV} (h : lawB n row = true) : ∃ ρ σ ρ₁, xs F2 400 [(2, .int n), (5, row), (8, .bool true)] [] ((nf31.1.drop 6).take 4) = some (ρ, σ, .next) ∧ xs F2 400 (treesOf σ ++ ρ) [] ((nf31.1.drop 10).take 16) = some (ρ₁, [], .next) ∧ chkL n ρ₁ = true := by
  unfold lawB at h
  split at h
  · rename_i ρ σ e
    split at h
    · rename_i ρ₁ e'
      exact ⟨ρ, σ, ρ₁, e, e', h⟩
    · cases h
  · cases h
theorem rg_eq {k : Nat} {ρ : Rho} : ∀ {n : Nat}, n ≤ 6 → look ρ 2 = some (.int n) → pitems (pev F2 (k + 5)) ρ (.ex rg31) = some (upTo 1 n, false) := by
  intro n hn h
  have h1 : pev F2 (k + 5) ρ rg31 = F2 1 [.int 1, .int ((n : Int) + 1)] := by
    show pevStep F2 (pev F2 (k + 4)) ρ rg31 = _
    have hb : ∀ {a b : Pos}, pev F2 (k + 4) ρ (.bin .Add (.name 2 a) (.int 1 0 b) a) = some (.int ((n : Int) + 1)) := by
      intro a b
      rw [pev_bin (x := .int n) (y := .int 1) (pev_name.trans h) rfl]
      rfl
    have : pev F2 (k + 4) ρ (match rg31 with | .call _ [_, e] _ _ => e | _ => .none 0 p0) = some (.int ((n : Int) + 1)) := (pev_bin (x := .int n) (y := .int 1) (pev_name.trans h) rfl).trans rfl
    show (match evs (pev F2 (k + 4)) ρ (match rg31 with | .call _ es _ _ => es | _ => []) with | some vs => F2 1 vs | none => none) = _
    show (match (match pev F2 (k + 4) ρ (match rg31 with | .call _ [e, _] _ _ => e | _ => .none 0 p0) with | some v => (match (match pev F2 (k + 4) ρ (match rg31 with | .call _ [_, e] _ _ => e | _ => .none 0 p0) with | some v => (match evs (pev F2 (k + 4)) ρ [] with | some vs => some (v :: vs) | none => none) | none => none) with | some vs => some (v :: vs) | none => none) | none => none) with | some vs => F2 1 vs | none => none) = _
    rw [this]
    rfl
  rw [pitems, h1]
  match n, hn with
  | 0, _ => rfl
  | 1, _ => rfl
  | 2, _ => rfl
  | 3, _ => rfl
  | 4, _ => rfl
  | 5, _ => rfl
  | 6, _ => rfl
theorem wfEnd : wfSs (scF 31) (tF nf31.1) ((nf31.1.drop 10).take 16) = true ∧ wfSs (scF 31) (tF nf31.1) [forS] = true ∧ wfSs (scF 31) (tF nf31.1) (nf31.1.drop 27) = true := by decide +kernel
theorem for_run {n : Nat} {M R : List (List Int)} {lam : List Int} {ps : List PV} {ρ : Rho} (hn : n ≤ 6) (L : Lk n M R lam ps ρ) (hM : okM n M = true) (hs : lam.all smallI = true) (hlp : loopOk n M lam n 1 R = true) (hl : lam.length ≤ 1000) :
    ∃ ρ' R', xs F2 (n + 27) ρ [] [forS] = some (ρ', [], .next) ∧ Lk n M R' lam ps ρ' := by
  obtain ⟨p, q1, q2, q3, q4, q5, e⟩ := forS_shape
  obtain ⟨ρ', R', hfl, L'⟩ := loop_ok (p := p) (q1 := q1) (q2 := q2) (q3 := q3) (q4 := q4) (by omega) hM hl hs n 1 R ρ (by omega) hlp L
  rw [show upTo ((1 : Nat) : Int) n = upTo 1 n from rfl] at hfl
  refine ⟨ρ', R', ?_, L'⟩
  rw [e, xs, x1]
  (try dsimp only)
  rw [show freeT (.nm 24 p) [] = true from rfl]
  (try dsimp only)
  rw [rg_eq (k := n + 20) hn L.e2]
  (try dsimp only)
  rw [show (!RT.isPair (.nm 24 p) || pairsB (upTo 1 n)) = true from rfl]
  (try dsimp only)
  rw [hfl]
  rfl
end Mine

-- part V92
namespace Mine
open PySem PySem.W PyProof.Rows

section
variable {prog : Program} {w : World} {C : Addr} {h₀ : Heap}
variable {l : Nat} {A : Around} {env : Env} {N : List Addr} {s s₀ : Shared} {ρ : Rho} {E : Value → Shared → Prop}

/-- from the runs on -/
theorem tail_law {n : Nat} {tl : List Bool} {Q : Value → Shared → Prop} (B : Base h₀) (SR : ∀ m, SoundR prog w C h₀ l (pev F2 m)) (hn : n ≤ 6) (HC : lawB n (rowL (true :: tl)) = true) (x₀ : Ext [] s₀ s) (hpl : ∀ b ∈ pl env, s₀.heap.objs.size ≤ b)
    (H : Fm prog w C h₀ l (scF 31) A env (tF nf31.1) N s ρ [] []) (h2 : look ρ 2 = some (.int n)) (h5 : look ρ 5 = some (rowL (true :: tl))) (h8 : look ρ 8 = some (.bool true))
    (h : ∀ s', Ext [] s₀ s' → Q (.bool true) s') : wpAny (model prog w) A (execs (toSs (nf31.1.drop 6)) env) (fun f s' => ∃ u, f = .ret u ∧ Q u s') E s := by
  obtain ⟨ρ₁, σ₁, ρ₂, e1, e2, hchk⟩ := lawB_ok HC
  obtain ⟨M, R, lam, ps, L, hM, hs, hlp, hl, hret⟩ := chkL_ok hchk
  obtain ⟨ρ₃, R', e3, L'⟩ := for_run hn L hM hs hlp hl
  obtain ⟨ρ₄, σ₄, e4⟩ := retOf_ok (isTrueP_ok hret)
  have es : toSs (nf31.1.drop 6) = toSs ((nf31.1.drop 6).take 4) ++ (toSs ((nf31.1.drop 10).take 16) ++ (toSs [forS] ++ toSs (nf31.1.drop 27))) := by
    rw [← toSs_append, ← toSs_append, ← toSs_append]
    have e10 : nf31.1.drop 10 = (nf31.1.drop 6).drop 4 := by rw [List.drop_drop]
    have : (nf31.1.drop 10).take 16 ++ ([forS] ++ nf31.1.drop 27) = nf31.1.drop 10 := law_split.symm
    rw [this, e10, List.take_append_drop]
  rw [es]
  have three : ∀ {ρ' : Rho} {a b c : Nat} {p q r : PV}, look ρ' a = some p → look ρ' b = some q → look ρ' c = some r → ∀ x z, look [(a, p), (b, q), (c, r)] x = some z → look ρ' x = some z := fun ha hb hc x z e => by
    rw [look_cons] at e
    split at e
    · rename_i q; subst q; cases e; exact ha
    · rw [look_cons] at e
      split at e
      · rename_i q; subst q; cases e; exact hb
      · rw [look_cons] at e
        split at e
        · rename_i q; subst q; cases e; exact hc
        · cases e
  have H₁ : Fm prog w C h₀ l (scF 31) A env (tF nf31.1) N s [(2, .int n), (5, rowL (true :: tl)), (8, .bool true)] [] [] := H.sub (three h2 h5 h8)
  refine xs_part B SR wfSt.2.2.2 e1 H₁ fun s₁ as₁ x₁ H₂ ha₁ => ?_
  refine xs_part B SR wfEnd.1 e2 H₂.freeze fun s₂ as₂ x₂ H₃ ha₂ => ?_
  obtain rfl : as₂ = [] := H₃.own
  refine xs_part B SR wfEnd.2.1 e3 H₃ fun s₃ as₃ x₃ H₄ ha₃ => ?_
  obtain rfl : as₃ = [] := H₄.own
  have H₅ : Fm prog w C h₀ l (scF 31) A env (tF nf31.1) N s₃ [(8, .bool true), (21, intsT lam), (2, .int n)] [] [] := H₄.sub (three L'.e8 L'.e21 L'.e2)
  refine xs_sound (T := tF nf31.1) B SR 40 _ wfEnd.2.2 _ _ _ _ _ _ _ _ _ _ _ _ e4 H₅ fun s₄ as₄ fl x₄ _ _ hf => ?_
  obtain ⟨u, rfl, hu⟩ := hf
  rw [show u = .bool true from hu]
  refine ⟨_, rfl, h s₄ ((((x₀.via x₁ fun b hb => ?_).via x₂ fun b hb => ?_).via x₃ fun b hb => ?_).via x₄ fun b hb => ?_)⟩
  all_goals (rw [List.append_nil] at hb; exact .inr (hpl b hb))

/-- the whole body, once the numbers are drawn -/
theorem body_law {n k : Nat} {d1 : Int} {a c : Int} {Q : Value → Shared → Prop} {p : PV} (B : Base h₀) (SR : ∀ m, SoundR prog w C h₀ l (pev F2 m)) (HC : ∀ n tl, tl.length + 1 = n → n ≤ 6 → lawB n (rowL (true :: tl)) = true) (x₀ : Ext [] s₀ s) (hpl : ∀ b ∈ pl env, s₀.heap.objs.size ≤ b)
    (h1 : 1 ≤ n) (h6 : n ≤ 6) (hk : k ≤ 2) (H : Fm prog w C h₀ l (scF 31) A env (tF nf31.1) N s [(2, .int n), (3, .int k), (1, drT a d1 c), (0, p)] [] [])
    (h : ∀ s', Ext [] s₀ s' → Q (.bool true) s') : wpAny (model prog w) A (execs (toSs (nf31.1.drop 2)) env) (fun f s' => ∃ u, f = .ret u ∧ Q u s') E s := by
  have es : toSs (nf31.1.drop 2) = toSs ((nf31.1.drop 2).take 1) ++ toSs (nf31.1.drop 3) := by
    rw [← toSs_append]
    have : nf31.1.drop 3 = (nf31.1.drop 2).drop 1 := by rw [List.drop_drop]
    rw [this, List.take_append_drop]
  rw [es]
  refine xs_part B SR wfSt.2.1 (eqEdges a d1 c p k n h1 h6) H fun s₁ as₁ x₁ H₁ ha₁ => ?_
  obtain rfl : as₁ = [] := H₁.own
  have y₁ : Ext [] s₀ s₁ := x₀.via x₁ fun b hb => by rw [List.append_nil] at hb; exact .inr (hpl b hb)
  obtain ⟨e, he, hee⟩ : ∃ e : Nat, e ≤ n * (n - 1) / 2 ∧ (c + 38 * 2 + 47).fmod (n * (n - 1) / 2 + 1) = e := by
    have hpos : (0 : Int) < n * (n - 1) / 2 + 1 := by
      have : (0 : Int) ≤ n * (n - 1) / 2 := Int.ediv_nonneg (Int.mul_nonneg (by omega) (by omega)) (by decide)
      omega
    have g1 : (c + 38 * 2 + 47).fmod (n * (n - 1) / 2 + 1) = (c + 38 * 2 + 47) % (n * (n - 1) / 2 + 1) := Int.fmod_eq_emod_of_nonneg _ (by omega)
    have g2 := Int.emod_nonneg (c + 38 * 2 + 47) (b := (n : Int) * (n - 1) / 2 + 1) (by omega)
    have g3 := Int.emod_lt_of_pos (c + 38 * 2 + 47) hpos
    refine ⟨((c + 38 * 2 + 47) % (n * (n - 1) / 2 + 1)).toNat, ?_, by rw [g1]; omega⟩
    have g4 : ((n * (n - 1) / 2 : Nat) : Int) = (n : Int) * (n - 1) / 2 := by
      rw [Int.natCast_ediv, Int.natCast_mul]
      congr 2
      omega
    omega
  rw [hee] at H₁
  by_cases hk1 : k = 1
  · subst hk1
    have es3 : toSs (nf31.1.drop 3) = toSs ((nf31.1.drop 3).take 1) ++ (toSs ((nf31.1.drop 4).take 2) ++ toSs (nf31.1.drop 6)) := by
      rw [← toSs_append, ← toSs_append]
      have e6 : nf31.1.drop 6 = (nf31.1.drop 4).drop 2 := by rw [List.drop_drop]
      have e4 : nf31.1.drop 4 = (nf31.1.drop 3).drop 1 := by rw [List.drop_drop]
      rw [e6, List.take_append_drop, e4, List.take_append_drop]
    rw [es3]
    have H₂ : Fm prog w C h₀ l (scF 31) A env (tF nf31.1) N s₁ (rhoK n (d1 + 38 * 1 + 47)) [] [] := H₁.re fun x q hq => by
      unfold rhoK at hq
      rw [look_cons] at hq
      split at hq
      · rename_i z; subst z; cases hq; exact H₁.ok.rho 2 _ rfl
      · rw [look_cons] at hq
        split at hq
        · rename_i z; subst z; cases hq; exact H₁.ok.rho 3 _ rfl
        · rw [look_cons] at hq
          split at hq
          · rename_i z; subst z; cases hq
            obtain ⟨v, lk, hv⟩ := H₁.ok.rho 1 (drT a d1 c) rfl
            refine ⟨v, lk, ?_⟩
            obtain ⟨ad, vs, rfl, ha, hpls, v1, r1, rfl, _, v2, r2, rfl, hv2, v3, r3, rfl, _, hr3⟩ := hv
            exact ⟨ad, _, rfl, ha, hpls, v1, _, rfl, trivial, v2, _, rfl, hv2, v3, _, rfl, trivial, hr3⟩
          · cases hq
    refine xs_part B SR wfMore.1 (x3_ok n (d1 + 38 * 1 + 47) h1 h6) H₂ fun s₂ as₂ x₂ H₃ ha₂ => ?_
    obtain rfl : as₂ = [] := H₃.own
    have y₂ : Ext [] s₀ s₂ := y₁.via x₂ fun b hb => by rw [List.append_nil] at hb; exact .inr (hpl b hb)
    have hbl : (bits n (d1 + 38 * 1 + 47)).length + 1 = n := by simp [bits]; omega
    obtain ⟨ρ', tl, e1, e5, e8, e2, _⟩ := stands_ok (stK_ok n (bits n (d1 + 38 * 1 + 47)) h1 h6 hbl)
    have H₄ : Fm prog w C h₀ l (scF 31) A env (tF nf31.1) N s₂ [(5, rowL (true :: bits n (d1 + 38 * 1 + 47))), (2, .int n), (3, .int 1)] [] [] := H₃.sub fun x q hq => by
      rw [look_cons] at hq
      split at hq
      · rename_i z; subst z; cases hq; rfl
      · rw [look_cons] at hq
        split at hq
        · rename_i z; subst z; cases hq; rfl
        · rw [look_cons] at hq
          split at hq
          · rename_i z; subst z; cases hq; rfl
          · cases hq
    refine xs_part B SR wfMore.2 e1 H₄ fun s₃ as₃ x₃ H₅ ha₃ => ?_
    obtain rfl : as₃ = [] := H₅.own
    exact tail_law B SR h6 (HC n tl (by assumption) h6) (y₂.via x₃ fun b hb => by rw [List.append_nil] at hb; exact .inr (hpl b hb)) hpl H₅ e2 e5 e8 h
  · have es3 : toSs (nf31.1.drop 3) = toSs ((nf31.1.drop 3).take 3) ++ toSs (nf31.1.drop 6) := by
      rw [← toSs_append]
      have e6 : nf31.1.drop 6 = (nf31.1.drop 3).drop 3 := by rw [List.drop_drop]
      rw [e6, List.take_append_drop]
    rw [es3]
    obtain ⟨ρ', tl, e1, e5, e8, e2, hlen⟩ := stands_ok (stB_ok n k e h1 h6 (by omega) he)
    have H₂ : Fm prog w C h₀ l (scF 31) A env (tF nf31.1) N s₁ [(2, .int n), (3, .int k), (4, .int e)] [] [] := H₁.sub fun x q hq => by
      rw [look_cons] at hq
      split at hq
      · rename_i z; subst z; cases hq; rfl
      · rw [look_cons] at hq
        split at hq
        · rename_i z; subst z; cases hq; rfl
        · rw [look_cons] at hq
          split at hq
          · rename_i z; subst z; cases hq; rfl
          · cases hq
    refine xs_part B SR wfSt.2.2.1 e1 H₂ fun s₃ as₃ x₃ H₅ ha₃ => ?_
    obtain rfl : as₃ = [] := H₅.own
    exact tail_law B SR h6 (HC n tl hlen h6) (y₁.via x₃ fun b hb => by rw [List.append_nil] at hb; exact .inr (hpl b hb)) hpl H₅ e2 e5 e8 h

/-- THE LAW -/
theorem law_ok {lv : Nat} {mN : Str → Option Value} {A : Around} {s : Shared} {a : Addr} {vs : List Value} {Q E : Value → Shared → Prop} (B : Base h₀) (BC : BaseC h₀ C) (D : Defs h₀) (K : GK h₀ C mN) (TG : TgAt h₀) (LA : LawAt h₀)
    (HC : ∀ n tl, tl.length + 1 = n → n ≤ 6 → lawB n (rowL (true :: tl)) = true) (ok : OkH h₀ (lv + 8) A s []) (hl : s.heap.PlainList a vs.toArray) (hi : ∀ v ∈ vs, ∃ i t, v = .int i t) (h63 : vs.length ≤ 63)
    (h : ∀ s', Ext [] s s' → Q (.bool true) s') : wpAny (model prog w) A (call (.ref 714) [.ref a]) Q E s := by
  have SR : ∀ m, SoundR prog w C h₀ (lv + 7) (pev F2 m) := pev_sound B BC (f2_ok B BC D K TG)
  refine law_frame (C := C) (l := lv + 7) LA ok fun env s₁ x₁ hpl lkS F₀ => ⟨fun f s' => ∃ u, f = .ret u ∧ Q u s', fun E' => ?_, fun f s' q => q⟩
  obtain ⟨n1, hl1⟩ := hl
  have hl₁ : s₁.heap.PlainList a vs.toArray := ⟨n1, x₁.keep _ _ (by simp) hl1⟩
  have haW : a ∉ pl env ++ [] := fun q => by
    rw [List.append_nil] at q
    exact Nat.lt_irrefl _ (Nat.lt_of_lt_of_le (Heap.lt_size hl1) (hpl a q))
  obtain ⟨p, x, y, z, hp, hx⟩ := script_tree (prog := prog) (w := w) (C := C) haW hl₁ hi h63
  have F₁ : Fm prog w C h₀ (lv + 7) (scF 31) (A.deeper env) env (tF nf31.1) (pl env) s₁ [(0, p)] [] [] := F₀.re fun y q hq => by
    rw [look_cons] at hq
    split at hq
    · rename_i z; subst z; cases hq; exact ⟨_, lkS, hp⟩
    · cases hq
  obtain ⟨px, py, k, tp, k2, vp, ps, e31, hline⟩ := stSplit
  rw [e31]
  refine xs_part B SR wfSt.1 hx F₁ fun s₂ as₂ x₂ F₂ ha₂ => ?_
  obtain rfl : as₂ = [] := F₂.own
  have y₂ : Ext [] s s₂ := x₁.via x₂ fun b hb => by rw [List.append_nil] at hb; exact .inr (hpl b hb)
  refine wpAny_execs_cons (tup2_ok SR hline law_loc.1 law_loc.2.1 law_loc.2.2 F₂ (eqSize x y z p) (eqKind x y z p) rfl rfl fun s₃ x₃ F₃ => ?_)
  have y₃ : Ext [] s s₃ := y₂.via x₃ fun b hb => .inr (hpl b hb)
  have F₃' : Fm prog w C h₀ (lv + 7) (scF 31) (A.deeper env) env (tF nf31.1) (pl env) s₃ [(2, .int ((x + 38 * 0 + 47).fmod 6 + 1)), (3, .int (((x + 38 * 0 + 47).fdiv 6).fmod 3)), (1, drT x y z), (0, p)] [] [] := F₃
  obtain ⟨n, h1, h6, hn⟩ : ∃ n : Nat, 1 ≤ n ∧ n ≤ 6 ∧ (x + 38 * 0 + 47).fmod 6 + 1 = n := by
    rw [Int.fmod_eq_emod_of_nonneg _ (by decide)]
    exact ⟨((x + 38 * 0 + 47) % 6 + 1).toNat, by omega, by omega, by omega⟩
  obtain ⟨k', hk2, hk'⟩ : ∃ k : Nat, k ≤ 2 ∧ ((x + 38 * 0 + 47).fdiv 6).fmod 3 = k := by
    rw [Int.fmod_eq_emod_of_nonneg _ (by decide)]
    exact ⟨(((x + 38 * 0 + 47).fdiv 6) % 3).toNat, by omega, by omega⟩
  rw [hn, hk'] at F₃'
  exact body_law B SR HC y₃ hpl h1 h6 hk2 F₃' h
end
end Mine

-- part V93
namespace Mine
open PySem PySem.W PyProof.Rows

theorem row_1_x : lawB 1 (rowL [true]) = true := by decide +kernel
theorem row_2_d : lawB 2 (rowL [true, true]) = true := by decide +kernel
theorem row_2_i : lawB 2 (rowL [true, false]) = true := by decide +kernel
theorem row_3_dd : lawB 3 (rowL [true, true, true]) = true := by decide +kernel
theorem row_3_di : lawB 3 (rowL [true, true, false]) = true := by decide +kernel
theorem row_3_id : lawB 3 (rowL [true, false, true]) = true := by decide +kernel
theorem row_3_ii : lawB 3 (rowL [true, false, false]) = true := by decide +kernel
theorem row_4_ddd : lawB 4 (rowL [true, true, true, true]) = true := by decide +kernel
theorem row_4_ddi : lawB 4 (rowL [true, true, true, false]) = true := by decide +kernel
theorem row_4_did : lawB 4 (rowL [true, true, false, true]) = true := by decide +kernel
theorem row_4_dii : lawB 4 (rowL [true, true, false, false]) = true := by decide +kernel
theorem row_4_idd : lawB 4 (rowL [true, false, true, true]) = true := by decide +kernel
theorem row_4_idi : lawB 4 (rowL [true, false, true, false]) = true := by decide +kernel
theorem row_4_iid : lawB 4 (rowL [true, false, false, true]) = true := by decide +kernel
theorem row_4_iii : lawB 4 (rowL [true, false, false, false]) = true := by decide +kernel
theorem row_5_dddd : lawB 5 (rowL [true, true, true, true, true]) = true := by decide +kernel
theorem row_5_dddi : lawB 5 (rowL [true, true, true, true, false]) = true := by decide +kernel
theorem row_5_ddid : lawB 5 (rowL [true, true, true, false, true]) = true := by decide +kernel
theorem row_5_ddii : lawB 5 (rowL [true, true, true, false, false]) = true := by decide +kernel
theorem row_5_didd : lawB 5 (rowL [true, true, false, true, true]) = true := by decide +kernel
theorem row_5_didi : lawB 5 (rowL [true, true, false, true, false]) = true := by decide +kernel
theorem row_5_diid : lawB 5 (rowL [true, true, false, false, true]) = true := by decide +kernel
theorem row_5_diii : lawB 5 (rowL [true, true, false, false, false]) = true := by decide +kernel
theorem row_5_iddd : lawB 5 (rowL [true, false, true, true, true]) = true := by decide +kernel
theorem row_5_iddi : lawB 5 (rowL [true, false, true, true, false]) = true := by decide +kernel
theorem row_5_idid : lawB 5 (rowL [true, false, true, false, true]) = true := by decide +kernel
theorem row_5_idii : lawB 5 (rowL [true, false, true, false, false]) = true := by decide +kernel
theorem row_5_iidd : lawB 5 (rowL [true, false, false, true, true]) = true := by decide +kernel
theorem row_5_iidi : lawB 5 (rowL [true, false, false, true, false]) = true := by decide +kernel
theorem row_5_iiid : lawB 5 (rowL [true, false, false, false, true]) = true := by decide +kernel
theorem row_5_iiii : lawB 5 (rowL [true, false, false, false, false]) = true := by decide +kernel
theorem row_6_ddddd : lawB 6 (rowL [true, true, true, true, true, true]) = true := by decide +kernel
theorem row_6_ddddi : lawB 6 (rowL [true, true, true, true, true, false]) = true := by decide +kernel
theorem row_6_dddid : lawB 6 (rowL [true, true, true, true, false, true]) = true := by decide +kernel
theorem row_6_dddii : lawB 6 (rowL [true, true, true, true, false, false]) = true := by decide +kernel
theorem row_6_ddidd : lawB 6 (rowL [true, true, true, false, true, true]) = true := by decide +kernel
theorem row_6_ddidi : lawB 6 (rowL [true, true, true, false, true, false]) = true := by decide +kernel
theorem row_6_ddiid : lawB 6 (rowL [true, true, true, false, false, true]) = true := by decide +kernel
theorem row_6_ddiii : lawB 6 (rowL [true, true, true, false, false, false]) = true := by decide +kernel
theorem row_6_diddd : lawB 6 (rowL [true, true, false, true, true, true]) = true := by decide +kernel
theorem row_6_diddi : lawB 6 (rowL [true, true, false, true, true, false]) = true := by decide +kernel
theorem row_6_didid : lawB 6 (rowL [true, true, false, true, false, true]) = true := by decide +kernel
theorem row_6_didii : lawB 6 (rowL [true, true, false, true, false, false]) = true := by decide +kernel
theorem row_6_diidd : lawB 6 (rowL [true, true, false, false, true, true]) = true := by decide +kernel
theorem row_6_diidi : lawB 6 (rowL [true, true, false, false, true, false]) = true := by decide +kernel
theorem row_6_diiid : lawB 6 (rowL [true, true, false, false, false, true]) = true := by decide +kernel
theorem row_6_diiii : lawB 6 (rowL [true, true, false, false, false, false]) = true := by decide +kernel
theorem row_6_idddd : lawB 6 (rowL [true, false, true, true, true, true]) = true := by decide +kernel
theorem row_6_idddi : lawB 6 (rowL [true, false, true, true, true, false]) = true := by decide +kernel
theorem row_6_iddid : lawB 6 (rowL [true, false, true, true, false, true]) = true := by decide +kernel
theorem row_6_iddii : lawB 6 (rowL [true, false, true, true, false, false]) = true := by decide +kernel
theorem row_6_ididd : lawB 6 (rowL [true, false, true, false, true, true]) = true := by decide +kernel
theorem row_6_ididi : lawB 6 (rowL [true, false, true, false, true, false]) = true := by decide +kernel
theorem row_6_idiid : lawB 6 (rowL [true, false, true, false, false, true]) = true := by decide +kernel
theorem row_6_idiii : lawB 6 (rowL [true, false, true, false, false, false]) = true := by decide +kernel
theorem row_6_iiddd : lawB 6 (rowL [true, false, false, true, true, true]) = true := by decide +kernel
theorem row_6_iiddi : lawB 6 (rowL [true, false, false, true, true, false]) = true := by decide +kernel
theorem row_6_iidid : lawB 6 (rowL [true, false, false, true, false, true]) = true := by decide +kernel
theorem row_6_iidii : lawB 6 (rowL [true, false, false, true, false, false]) = true := by decide +kernel
theorem row_6_iiidd : lawB 6 (rowL [true, false, false, false, true, true]) = true := by decide +kernel
theorem row_6_iiidi : lawB 6 (rowL [true, false, false, false, true, false]) = true := by decide +kernel
theorem row_6_iiiid : lawB 6 (rowL [true, false, false, false, false, true]) = true := by decide +kernel
theorem row_6_iiiii : lawB 6 (rowL [true, false, false, false, false, false]) = true := by decide +kernel
theorem rows_all : ∀ tl : List Bool, tl.length ≤ 5 → lawB (tl.length + 1) (rowL (true :: tl)) = true
  | [], _ => row_1_x
  | [true], _ => row_2_d
  | [false], _ => row_2_i
  | [true, true], _ => row_3_dd
  | [true, false], _ => row_3_di
  | [false, true], _ => row_3_id
  | [false, false], _ => row_3_ii
  | [true, true, true], _ => row_4_ddd
  | [true, true, false], _ => row_4_ddi
  | [true, false, true], _ => row_4_did
  | [true, false, false], _ => row_4_dii
  | [false, true, true], _ => row_4_idd
  | [false, true, false], _ => row_4_idi
  | [false, false, true], _ => row_4_iid
  | [false, false, false], _ => row_4_iii
  | [true, true, true, true], _ => row_5_dddd
  | [true, true, true, false], _ => row_5_dddi
  | [true, true, false, true], _ => row_5_ddid
  | [true, true, false, false], _ => row_5_ddii
  | [true, false, true, true], _ => row_5_didd
  | [true, false, true, false], _ => row_5_didi
  | [true, false, false, true], _ => row_5_diid
  | [true, false, false, false], _ => row_5_diii
  | [false, true, true, true], _ => row_5_iddd
  | [false, true, true, false], _ => row_5_iddi
  | [false, true, false, true], _ => row_5_idid
  | [false, true, false, false], _ => row_5_idii
  | [false, false, true, true], _ => row_5_iidd
  | [false, false, true, false], _ => row_5_iidi
  | [false, false, false, true], _ => row_5_iiid
  | [false, false, false, false], _ => row_5_iiii
  | [true, true, true, true, true], _ => row_6_ddddd
  | [true, true, true, true, false], _ => row_6_ddddi
  | [true, true, true, false, true], _ => row_6_dddid
  | [true, true, true, false, false], _ => row_6_dddii
  | [true, true, false, true, true], _ => row_6_ddidd
  | [true, true, false, true, false], _ => row_6_ddidi
  | [true, true, false, false, true], _ => row_6_ddiid
  | [true, true, false, false, false], _ => row_6_ddiii
  | [true, false, true, true, true], _ => row_6_diddd
  | [true, false, true, true, false], _ => row_6_diddi
  | [true, false, true, false, true], _ => row_6_didid
  | [true, false, true, false, false], _ => row_6_didii
  | [true, false, false, true, true], _ => row_6_diidd
  | [true, false, false, true, false], _ => row_6_diidi
  | [true, false, false, false, true], _ => row_6_diiid
  | [true, false, false, false, false], _ => row_6_diiii
  | [false, true, true, true, true], _ => row_6_idddd
  | [false, true, true, true, false], _ => row_6_idddi
  | [false, true, true, false, true], _ => row_6_iddid
  | [false, true, true, false, false], _ => row_6_iddii
  | [false, true, false, true, true], _ => row_6_ididd
  | [false, true, false, true, false], _ => row_6_ididi
  | [false, true, false, false, true], _ => row_6_idiid
  | [false, true, false, false, false], _ => row_6_idiii
  | [false, false, true, true, true], _ => row_6_iiddd
  | [false, false, true, true, false], _ => row_6_iiddi
  | [false, false, true, false, true], _ => row_6_iidid
  | [false, false, true, false, false], _ => row_6_iidii
  | [false, false, false, true, true], _ => row_6_iiidd
  | [false, false, false, true, false], _ => row_6_iiidi
  | [false, false, false, false, true], _ => row_6_iiiid
  | [false, false, false, false, false], _ => row_6_iiiii
  | _ :: _ :: _ :: _ :: _ :: _ :: _, h => absurd h (by simp)
theorem rows_ok (n : Nat) (tl : List Bool) (h : tl.length + 1 = n) (h6 : n ≤ 6) : lawB n (rowL (true :: tl)) = true := by
  subst h
  exact rows_all tl (by omega)
end Mine

-- part V94
namespace Mine
open PySem PySem.W PyProof.Rows

/-! what the head's end is turned into -/
def strKeyB (e : DictEntry) : Bool := match e.key with
  | .str _ _ => true
  | _ => false
theorem ns_of {h : Heap} {a : Addr} {o : Obj} {es : Array DictEntry} {ep : Nat} (e : h.get? a = some o) (hd : o.data = .dict es ep) (hk : es.toList.all strKeyB = true) : h.Ns a (nsFind es) := by
  refine ⟨o, es, ep, e, hd, fun x hx => ?_, fun _ => rfl⟩
  rw [List.all_eq_true] at hk
  have := hk x (by simpa using hx)
  unfold strKeyB at this
  split at this
  · rename_i n t e; exact ⟨n, t, e⟩
  · cases this
theorem all1 {P : List Value → Prop} (h : ∀ x, P [x]) : ∀ vs : List Value, vs.length = 1 → P vs
  | [x], _ => h x
  | [], e => by simp at e
  | _ :: _ :: _, e => by simp at e
theorem all2 {P : List Value → Prop} (h : ∀ x y, P [x, y]) : ∀ vs : List Value, vs.length = 2 → P vs
  | [x, y], _ => h x y
  | [], e => by simp at e
  | [_], e => by simp at e
  | _ :: _ :: _ :: _, e => by simp at e
theorem all3 {P : List Value → Prop} (h : ∀ x y z, P [x, y, z]) : ∀ vs : List Value, vs.length = 3 → P vs
  | [x, y, z], _ => h x y z
  | [], e => by simp at e
  | [_], e => by simp at e
  | [_, _], e => by simp at e
  | _ :: _ :: _ :: _ :: _, e => by simp at e
theorem kwd_pure {h₀ : Heap} {t : Sem (List (Str × Value))} {b : List (Str × Value)} {n : Str} (k : Kw t b n) : KwD h₀ t b n := fun _ _ _ _ _ _ _ q => kw_ok k q
theorem bnd_def {h₀ : Heap} {t : Sem (List (Str × Value))} {b : List (Str × Value)} {T : Addr} {o : Obj} {items : Array Value} {n : Nat} {k : Option (Array Value) → Sem (List (Str × Value))}
    (ho : h₀.get? T = some o) (hs : o.data = .seq items n) (h1 : t = (seqItems? (.ref T) >>= k)) (h2 : k (some items) = pure b) : Bnd h₀ t b := fun _ _ _ _ _ _ old q => by
  rw [h1]
  exact wpAny_bind (wpAny_seqItems (old _ _ ho) hs (h2 ▸ wpAny_pure q))
theorem kwd_def {h₀ : Heap} {t : Sem (List (Str × Value))} {b : List (Str × Value)} {x : Str} {T : Addr} {o : Obj} {items : Array Value} {n : Nat} {k : Option (Array Value) → Sem (List (Str × Value))}
    (ho : h₀.get? T = some o) (hs : o.data = .seq items n) (h1 : t = (seqItems? (.ref T) >>= k)) (h2 : Kw (k (some items)) b x) : KwD h₀ t b x := fun _ _ _ _ _ _ old q => by
  rw [h1]
  exact wpAny_bind (wpAny_seqItems (old _ _ ho) hs (kw_ok h2 q))
theorem fn_all {P : Nat → Prop} (h6 : P 6) (h7 : P 7) (h8 : P 8) (h9 : P 9) (h10 : P 10) (h11 : P 11) (h12 : P 12) (h13 : P 13) (h14 : P 14) (h15 : P 15) : ∀ f, 6 ≤ f → f < 16 → P f := by
  intro f a b
  obtain rfl | rfl | rfl | rfl | rfl | rfl | rfl | rfl | rfl | rfl : f = 6 ∨ f = 7 ∨ f = 8 ∨ f = 9 ∨ f = 10 ∨ f = 11 ∨ f = 12 ∨ f = 13 ∨ f = 14 ∨ f = 15 := by omega
  all_goals assumption
theorem blt_none {f : Str → Option Value} (h : bltTab.all (fun p => (f p.1).isNone) = true) : ∀ p ∈ bltTab, f p.1 = none := fun p hp => by
  rw [List.all_eq_true] at h
  exact Option.isNone_iff_eq_none.mp (h p hp)
theorem ints_of {vs : List Value} {ns : List Int} (h : IntsAre vs ns) : ∀ v ∈ vs, ∃ i t, v = .int i t := by
  induction h with
  | nil => exact fun _ h => (nomatch h)
  | cons n t _ ih =>
    intro v hv
    rcases List.mem_cons.mp hv with rfl | h
    · exact ⟨_, _, rfl⟩
    · exact ih v h
/-- a call of the law, as the claim asks it -/
theorem caller_ok : AOk 20 callerA := ⟨rfl, by decide +kernel, by decide +kernel⟩
end Mine

open PySem PySem.W PySem.W.X PyProof.Rows
open Mine
set_option maxHeartbeats 0 in
theorem PySem.Challenge.cw_ez0197_01_holds : PySem.Challenge.rw_ez0197_01.Holds := by
  w_on
  o_law
  z_head
  (case hw => w_witness2)
  k_fill
  intro w s0 s1 mg mb G y fa o pm cd doc dV kV ho hd hcd hD hmg hg args vals as L hpre hlay hrd hwl hlo
  z_open y L KX ZH ZN ZT
  refine Ground.open G ?_
  intro T B D TE TW
  wrow_args hpre hlay hrd hwl hlo
  obtain ⟨hat, hsz⟩ := script_at L
  have htk := script_toks L ZT
  rw [ZN] at hat hsz
  subst hat
  x_fa T KX hmg
  all_lens
  have nsM := ns_of (kt_at ZH (a := mainGlobals) rfl) rfl (by kernel_rfl)
  have nsS := ns_of (kt_at ZH (a := cStatics) rfl) rfl (by kernel_rfl)
  have nsC := ns_of (kt_at ZH (a := 616) rfl) rfl (by kernel_rfl)
  have nsB := T.b
  have hB := T.builtins
  clear hd hcd hD hmg KX T B D TE TW G y
  have nolim : s1.heap.NoLimit := ⟨_, nsS, by kernel_rfl⟩
  have booked : NoneBooked s1.heap := ⟨_, nsS, by kernel_rfl⟩
  have base : Base s1.heap := by
    refine ⟨⟨_, nsM, blt_none (by kernel_rfl), fn_all (by kernel_rfl) (by kernel_rfl) (by kernel_rfl) (by kernel_rfl) (by kernel_rfl) (by kernel_rfl) (by kernel_rfl) (by kernel_rfl) (by kernel_rfl) (by kernel_rfl)⟩, ⟨mb, nsB, fun p hp => ?_⟩, fn_all ?_ ?_ ?_ ?_ ?_ ?_ ?_ ?_ ?_ ?_, booked⟩
    · unfold bltTab at hp
      simp only [List.map_cons, List.map_nil, List.mem_cons, List.not_mem_nil, or_false] at hp
      rcases hp with rfl | rfl | rfl | rfl | rfl | rfl | rfl | rfl | rfl | rfl | rfl | rfl
      all_goals
        rw [hB _ (by decide)]
        kernel_rfl
    all_goals exact ⟨_, _, _, rfl, kt_at ZH rfl, rfl⟩
  have gc : GC s1.heap 617 _ := ⟨⟨_, _, _, _, _, _, _, _, _, _, _, _, _, _, PySem.F.objNew, kt_at ZH rfl, nsC⟩, fun x hx => by
    simp only [List.map_cons, List.map_nil, List.mem_cons, List.not_mem_nil, or_false] at hx
    rcases hx with rfl | rfl | rfl | rfl | rfl | rfl
    all_goals kernel_rfl⟩
  have d20 : DefAt s1.heap (.ref 647) [36] (tF nf20.1) (scF 20) (fnB 20) := ⟨wf20.2, nolim, _, _, _, rfl, kt_at ZH rfl, rfl, ⟨_, _, _, _, rfl, kt_at ZH rfl, rfl, rfl⟩, rfl, rfl, rfl, rfl, rfl, all1 fun x => rfl⟩
  have d22 : DefAt s1.heap (.ref 662) [36] (tF nf22.1) (scF 22) (fnB 22) := ⟨wf22.2, nolim, _, _, _, rfl, kt_at ZH rfl, rfl, ⟨_, _, _, _, rfl, kt_at ZH rfl, rfl, rfl⟩, rfl, rfl, rfl, rfl, rfl, all1 fun x => rfl⟩
  have d23 : DefAt s1.heap (.ref 669) [36] (tF nf23.1) (scF 23) (fnB 23) := ⟨wf23.2, nolim, _, _, _, rfl, kt_at ZH rfl, rfl, ⟨_, _, _, _, rfl, kt_at ZH rfl, rfl, rfl⟩, rfl, rfl, rfl, rfl, rfl, all1 fun x => rfl⟩
  have d24 : DefAt s1.heap (.ref 676) [36] (tF nf24.1) (scF 24) (fnB 24) := ⟨wf24.2, nolim, _, _, _, rfl, kt_at ZH rfl, rfl, ⟨_, _, _, _, rfl, kt_at ZH rfl, rfl, rfl⟩, rfl, rfl, rfl, rfl, rfl, all1 fun x => rfl⟩
  have d25 : DefAt s1.heap (.ref 683) [36] (tF nf25.1) (scF 25) (fnB 25) := ⟨wf25.2, nolim, _, _, _, rfl, kt_at ZH rfl, rfl, ⟨_, _, _, _, rfl, kt_at ZH rfl, rfl, rfl⟩, rfl, rfl, rfl, rfl, rfl, all1 fun x => rfl⟩
  have d26 : DefAt s1.heap (.ref 688) [36] (tF nf26.1) (scF 26) (fnB 26) := ⟨wf26.2, nolim, _, _, _, rfl, kt_at ZH rfl, rfl, ⟨_, _, _, _, rfl, kt_at ZH rfl, rfl, rfl⟩, rfl, rfl, rfl, rfl, rfl, all1 fun x => rfl⟩
  have d27 : DefAt s1.heap (.ref 695) [36] (tF nf27.1) (scF 27) (fnB 27) := ⟨wf27.2, nolim, _, _, _, rfl, kt_at ZH rfl, rfl, ⟨_, _, _, _, rfl, kt_at ZH rfl, rfl, rfl⟩, rfl, rfl, rfl, rfl, rfl, all1 fun x => rfl⟩
  have d28 : DefAt s1.heap (.ref 702) [70, 59] (tF nf28.1) (scF 28) (fnB 28) := ⟨wf28.2, nolim, _, _, _, rfl, kt_at ZH rfl, rfl, ⟨_, _, _, _, rfl, kt_at ZH rfl, rfl, rfl⟩, rfl, rfl, rfl, rfl, rfl, all2 fun x y => rfl⟩
  have d29 : DefAt s1.heap (.ref 709) [70, 59] (tF nf29.1) (scF 29) (fnB 29) := ⟨wf29.2, nolim, _, _, _, rfl, kt_at ZH rfl, rfl, ⟨_, _, _, _, rfl, kt_at ZH rfl, rfl, rfl⟩, rfl, rfl, rfl, rfl, rfl, all2 fun x y => rfl⟩
  have defs : Defs s1.heap := ⟨d20, d22, d23, d24, d25, d26, d27, d28, d29⟩
  have law : LawAt s1.heap := ⟨_, _, kt_at ZH rfl, rfl, ⟨_, _, _, _, rfl, kt_at ZH rfl, rfl, rfl⟩, rfl, rfl, rfl, rfl, rfl, fun v => rfl, nolim⟩
  have tg : TgAt s1.heap := ⟨_, ⟨⟨_, kt_at ZH rfl, rfl, rfl⟩, ⟨_, _, _, _, rfl, kt_at ZH rfl, rfl, rfl⟩, rfl, rfl, rfl, rfl, nolim, rfl, rfl, rfl, by decide +kernel⟩, fun x => bnd_def (kt_at ZH rfl) rfl rfl rfl, ⟨by decide +kernel, by decide +kernel⟩⟩
  have baseC : BaseC s1.heap 617 := ⟨_, _, _, _, _, _, _, _, _, _, _, _, _, _, _, _, kt_at ZH rfl, nsC, by kernel_rfl, by kernel_rfl⟩
  have gk : GK s1.heap 617 _ := ⟨gc, ⟨_, ⟨⟨_, _, _, _, _, _, _, _, _, _, _, _, kt_at ZH rfl⟩, nsC⟩⟩,
    ⟨_, _, _, _, _, rfl, ⟨⟨_, kt_at ZH rfl, rfl, rfl⟩, ⟨_, _, _, _, rfl, kt_at ZH rfl, rfl, rfl⟩, rfl, rfl, rfl, rfl, nolim, rfl, rfl, rfl, by decide +kernel⟩, fun x => rfl, by decide +kernel⟩, ⟨_, _, _, _, _, rfl, ⟨⟨_, kt_at ZH rfl, rfl, rfl⟩, ⟨_, _, _, _, rfl, kt_at ZH rfl, rfl, rfl⟩, rfl, rfl, rfl, rfl, nolim, rfl, rfl, rfl, by decide +kernel⟩, fun x => rfl, by decide +kernel⟩, ⟨_, _, _, _, _, rfl, ⟨⟨_, kt_at ZH rfl, rfl, rfl⟩, ⟨_, _, _, _, rfl, kt_at ZH rfl, rfl, rfl⟩, rfl, rfl, rfl, rfl, nolim, rfl, rfl, rfl, by decide +kernel⟩, fun x => rfl, by decide +kernel⟩, ⟨_, _, _, _, _, rfl, ⟨⟨_, kt_at ZH rfl, rfl, rfl⟩, ⟨_, _, _, _, rfl, kt_at ZH rfl, rfl, rfl⟩, rfl, rfl, rfl, rfl, nolim, rfl, rfl, rfl, by decide +kernel⟩, fun x => rfl, by decide +kernel⟩, ⟨_, _, _, _, _, rfl, ⟨⟨_, kt_at ZH rfl, rfl, rfl⟩, ⟨_, _, _, _, rfl, kt_at ZH rfl, rfl, rfl⟩, rfl, rfl, rfl, rfl, nolim, rfl, rfl, rfl, by decide +kernel⟩, fun x => rfl, by decide +kernel⟩, ⟨_, _, _, _, _, rfl, ⟨⟨_, kt_at ZH rfl, rfl, rfl⟩, ⟨_, _, _, _, rfl, kt_at ZH rfl, rfl, rfl⟩, rfl, rfl, rfl, rfl, nolim, rfl, rfl, rfl, by decide +kernel⟩, fun x => rfl, by decide +kernel⟩,
    ⟨_, _, rfl, ⟨⟨_, kt_at ZH rfl, rfl, rfl⟩, ⟨_, _, _, _, rfl, kt_at ZH rfl, rfl, rfl⟩, rfl, rfl, rfl, rfl, nolim, rfl, rfl, rfl, by decide +kernel⟩, fun x => kwd_def (kt_at ZH rfl) rfl rfl (by unfold Kw; rfl), ⟨by decide +kernel, by decide +kernel⟩⟩,
    ⟨_, _, rfl, ⟨⟨_, kt_at ZH rfl, rfl, rfl⟩, ⟨_, _, _, _, rfl, kt_at ZH rfl, rfl, rfl⟩, rfl, rfl, rfl, rfl, nolim, rfl, rfl, rfl, by decide +kernel⟩, all1 fun x => rfl, ⟨by decide +kernel, by decide +kernel⟩⟩,
    ⟨_, _, rfl, ⟨⟨_, kt_at ZH rfl, rfl, rfl⟩, ⟨_, _, _, _, rfl, kt_at ZH rfl, rfl, rfl⟩, rfl, rfl, rfl, rfl, nolim, rfl, rfl, rfl, by decide +kernel⟩, all1 fun x => rfl, ⟨by decide +kernel, by decide +kernel⟩⟩,
    ⟨_, _, rfl, ⟨⟨_, kt_at ZH rfl, rfl, rfl⟩, ⟨_, _, _, _, rfl, kt_at ZH rfl, rfl, rfl⟩, rfl, rfl, rfl, rfl, nolim, rfl, rfl, rfl, by decide +kernel⟩, all1 fun x => rfl, ⟨by decide +kernel, by decide +kernel⟩⟩,
    ⟨_, _, rfl, ⟨⟨_, kt_at ZH rfl, rfl, rfl⟩, ⟨_, _, _, _, rfl, kt_at ZH rfl, rfl, rfl⟩, rfl, rfl, rfl, rfl, nolim, rfl, rfl, rfl, by decide +kernel⟩, all3 fun x y z => rfl, ⟨by decide +kernel, by decide +kernel⟩⟩,
    ⟨_, _, rfl, ⟨⟨_, kt_at ZH rfl, rfl, rfl⟩, ⟨_, _, _, _, rfl, kt_at ZH rfl, rfl, rfl⟩, rfl, rfl, rfl, rfl, nolim, rfl, rfl, rfl, by decide +kernel⟩, all2 fun x y => rfl, ⟨by decide +kernel, by decide +kernel⟩⟩,
    ⟨_, _, rfl, ⟨⟨_, kt_at ZH rfl, rfl, rfl⟩, ⟨_, _, _, _, rfl, kt_at ZH rfl, rfl, rfl⟩, rfl, rfl, rfl, rfl, nolim, rfl, rfl, rfl, by decide +kernel⟩, all2 fun x y => rfl, ⟨by decide +kernel, by decide +kernel⟩⟩,
    ⟨_, _, nsM, by kernel_rfl, nsB, by rw [hB _ (by decide)]; kernel_rfl⟩,
    ⟨_, nsM, by kernel_rfl⟩,
    ⟨_, nsM, by kernel_rfl⟩,
    ⟨_, nsM, by kernel_rfl⟩,
    ⟨_, ⟨⟨_, kt_at ZH rfl, rfl, rfl⟩, ⟨_, _, _, _, rfl, kt_at ZH rfl, rfl, rfl⟩, rfl, rfl, rfl, rfl, nolim, rfl, rfl, rfl, by decide +kernel⟩, all2 fun x y => bnd_def (kt_at ZH rfl) rfl rfl rfl, ⟨by decide +kernel, by decide +kernel⟩⟩,
    ⟨_, ⟨⟨_, kt_at ZH rfl, rfl, rfl⟩, ⟨_, _, _, _, rfl, kt_at ZH rfl, rfl, rfl⟩, rfl, rfl, rfl, rfl, nolim, rfl, rfl, rfl, by decide +kernel⟩, all1 fun x => rfl, ⟨by decide +kernel, by decide +kernel⟩⟩⟩
  have hints := ints_of (by assumption)
  refine law_ok (lv := 12) base baseC defs gk tg law rows_ok ⟨caller_ok, fun _ _ e => e, Nat.lt_of_lt_of_le (by decide) htk, fun _ h => (nomatch h), fun _ h => (nomatch h), by rw [hsz]; decide⟩ ⟨_, script_obj L (by assumption)⟩ hints (by omega) fun s' x => ?_
  exact ⟨.inl ⟨.bool true, .bool true, [], rfl, fun _ => rfl, ReadsW.bool _, by kernel_rfl, fun _ => ⟨List.nodup_nil, fun _ h => (nomatch h)⟩⟩, .of_keep fun b o e => x.keep b o (by simp) e, x.os, .of_eq (x.gens.trans hg)⟩

