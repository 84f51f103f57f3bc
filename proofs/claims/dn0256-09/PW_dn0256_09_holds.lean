import PyProof.Rows.All
import Wide.All
import OpenK.AllK
import Wide.FinOn
import PySem.Challenge.RW_dn0256_09
open PySem PySem.W PyProof.Rows
set_option Elab.async false
set_option maxRecDepth 100000
set_option maxHeartbeats 8000000
section secMBase
namespace Mine
noncomputable def Ext (h h' : Heap) : Prop := ∀ b o, h.get? b = some o → h'.get? b = some o
theorem Ext.refl {h : Heap} : Ext h h := fun _ _ e => e
theorem Ext.trans {h h' h'' : Heap} (a : Ext h h') (b : Ext h' h'') : Ext h h'' := fun x o e => b x o (a x o e)

theorem slot_translate : Slot "str" "translate" "str.translate" :=
  .of (owner := "str") (n := "translate") (by rw [typeLookup_type, builtinLookup_eq_fast]; kernel_rfl) (by decide +kernel) (by decide +kernel) (by decide +kernel)
    (by first | exact .inl (by decide +kernel) | exact .inr (by decide +kernel)) (by rw [isSubtype_type]; kernel_rfl)
theorem type_translate : typeOf (.builtin "str.translate") = pure (.type "method_descriptor") := by show builtinType _ = _; rw [builtinType_eq_fast]; kernel_rfl
theorem entry_translate : entryFor table "str.translate" = some Builtin.«str.translate» := entryFor_of_tree (by kernel_rfl)
theorem args_translate (a b : Value) : argsOk "str.translate" ⟨[a, b], []⟩ := by
  unfold argsOk; kernel_rfl

theorem gm_translate {M : Model} {A : Around} {E : Value → Shared → Prop} {s : Shared} {x : Str} {t : Tok} {pl : Sem Bool} {Q : Value × List Value → Shared → Prop}
    (h : Q (.builtin "str.translate", [.str x t]) s) : wpAny M A (getMethod (.str x t) "translate" pl) Q E s := by
  with_reducible exact GM.of (.str x t) (typeIs_str _ _ _) slot_translate type_translate GM.noRef h

/-- the signs that have a meaning -/
noncomputable def specs : List Nat := [40, 41, 91, 93, 123, 125, 63, 42, 43, 45, 124, 94, 36, 92, 46, 38, 126, 35, 32, 9, 10, 13, 11, 12]
noncomputable def spec (c : Nat) : Bool := specs.contains c

noncomputable def TabEsc (prog : Program) (w : World) (h : Heap) (d : Addr) : Prop :=
  ∃ f, h.MapOf (intKind prog w) d f ∧ ∀ c : Nat, (spec c = true → ∃ t, f (c : Int) = some (.str ⟨#[92, c]⟩ t)) ∧ (spec c = false → f (c : Int) = none)
theorem TabEsc.ext {prog : Program} {w : World} {h h' : Heap} {d : Addr} (T : TabEsc prog w h d) (e : Ext h h') : TabEsc prog w h' d := by
  obtain ⟨f, ⟨o, es, ep, ho, r⟩, hf⟩ := T
  exact ⟨f, ⟨o, es, ep, e _ _ ho, r⟩, hf⟩

noncomputable def entOk (e : DictEntry) : Bool := match e.key with | .int i _ => e.hash == hashInt i | _ => false
noncomputable def escOk (e : DictEntry) : Bool := match e.key, e.val with | .int i _, .str y _ => decide (0 ≤ i) && y == ⟨#[92, i.toNat]⟩ && spec i.toNat | _, _ => false
theorem tabEsc_of {prog : Program} {w : World} {h : Heap} {d : Addr} {es : List DictEntry} {ep : Nat} (ho : h.get? d = some { cls := .type "dict", data := .dict es.toArray ep })
    (h1 : es.all entOk = true) (h2 : es.all escOk = true) (h3 : specs.all (fun c => es.any (fun e => Value.isInt (c : Int) e.key)) = true) : TabEsc prog w h d := by
  refine ⟨fun k => findBy (intKind prog w).is es.toArray k, ⟨_, _, _, ho, ⟨rfl, rfl, rfl⟩, rfl, ?_, fun k => rfl⟩, fun c => ⟨fun hc => ?_, fun hc => ?_⟩⟩
  · intro e he
    have := List.all_eq_true.mp h1 e (by simpa using he)
    unfold entOk at this
    split at this
    · rename_i i t hk
      exact ⟨i, by rw [hk]; exact intKind_is _ _ _ _, beq_iff_eq.mp this⟩
    · cases this
  · have hm : c ∈ specs := by simpa [spec] using hc
    have ha := List.all_eq_true.mp h3 c hm
    show ∃ t, findBy (intKind prog w).is es.toArray (c : Int) = _
    unfold findBy
    rw [← Array.find?_toList]
    cases hf : es.toArray.toList.find? (fun e => (intKind prog w).is (c : Int) e.key) with
    | none =>
      obtain ⟨e, he, hk⟩ := List.any_eq_true.mp ha
      have := List.find?_eq_none.mp hf e (by simpa using he)
      exact absurd hk this
    | some e =>
      have hk := List.find?_some hf
      have he : e ∈ es := by simpa using List.mem_of_find?_eq_some hf
      have h2' := List.all_eq_true.mp h2 e he
      obtain ⟨hash, key, val⟩ := e
      cases key with
      | int i t =>
        cases val with
        | str y tv =>
          simp only [escOk, Bool.and_eq_true, decide_eq_true_eq, beq_iff_eq] at h2'
          have hi : i = (c : Int) := by simpa [intKind, Value.isInt] using hk
          subst hi
          obtain ⟨⟨_, hy⟩, _⟩ := h2'
          exact ⟨tv, by rw [hy]; simp⟩
        | _ => cases h2'
      | _ => cases hk
  · show findBy (intKind prog w).is es.toArray (c : Int) = none
    unfold findBy
    rw [← Array.find?_toList]
    cases hf : es.toArray.toList.find? (fun e => (intKind prog w).is (c : Int) e.key) with
    | none => rfl
    | some e =>
      exfalso
      have hk := List.find?_some hf
      have he : e ∈ es := by simpa using List.mem_of_find?_eq_some hf
      have h2' := List.all_eq_true.mp h2 e he
      obtain ⟨hash, key, val⟩ := e
      cases key with
      | int i t =>
        cases val with
        | str y tv =>
          simp only [escOk, Bool.and_eq_true, decide_eq_true_eq, beq_iff_eq] at h2'
          have hi : i = (c : Int) := by simpa [intKind, Value.isInt] using hk
          subst hi
          have := h2'.2
          simp [hc] at this
        | _ => cases h2'
      | _ => cases hk

open Builtin Builtin.Str in
theorem lookup_esc {prog : Program} {w : World} {A : Around} {E : Value → Shared → Prop} {s : Shared} {d : Addr} {c : Nat} {Q : Mapped → Shared → Prop}
    (hh : A.handled = none) (hd : (d == sysModules) = false) (T : TabEsc prog w s.heap d)
    (hQ : ∀ h' tk, Ext s.heap h' → Q (if spec c = true then .text ⟨#[92, c]⟩ else .keep) { s with heap := h', toks := tk }) :
    wpAny (model prog w) A (tableLookup (.ref d) c) Q E s := by
  obtain ⟨f, hm, hf⟩ := T
  unfold tableLookup
  refine wpAny_bind (wpAny_attempt (wpAny_bind (wpAny_mkInt ?_)))
  cases hc : spec c with
  | true =>
    obtain ⟨t, ht⟩ := (hf c).1 hc
    refine wpAny_getItem_of (intKind_is _ _ _ _) hm ht ?_
    rw [hc] at hQ
    refine wpAny_bind (m := asInt? _) (wpAny_pure ?_)
    refine wpAny_bind (m := asStr? _) (wpAny_pure ?_)
    exact wpAny_pure (hQ _ _ Ext.refl)
  | false =>
    have ht := (hf c).2 hc
    refine wpAny_getItem_missing_of (intKind_is _ _ _ _) hd hh hm ht ?_
    intro h' e hx
    obtain ⟨ob, t, h1, h2, h3⟩ := hx.there
    rw [hc] at hQ
    refine wpAny_bind (wpAny_isInstance (T := "KeyError") (b := true) ⟨ob, h1, h2⟩ (by rw [isSubtype_type]; kernel_rfl) ?_)
    exact wpAny_bind (wpAny_rule (wpAny_pure (hQ _ _ hx.keeps)))

/-- a text with its signs that have a meaning masked -/
noncomputable def escL (l : List Nat) : List Nat := l.flatMap fun c => if spec c = true then [92, c] else [c]
theorem escL_append (a b : List Nat) : escL (a ++ b) = escL a ++ escL b := by simp [escL]
theorem escL_length (l : List Nat) : (escL l).length ≤ 2 * l.length := by
  induction l with
  | nil => simp [escL]
  | cons c r ih =>
    have : escL (c :: r) = (if spec c = true then [92, c] else [c]) ++ escL r := rfl
    rw [this, List.length_append, List.length_cons]
    split <;> simp <;> omega
noncomputable def esc (x : Str) : Str := ⟨(escL x.cps.toList).toArray⟩

theorem foldl_cps (l : List Str) : ∀ a : Array Nat, (l.foldl (fun acc p => acc ++ p.cps) a) = (a.toList ++ (l.map (·.cps.toList)).flatten).toArray := by
  induction l with
  | nil => intro a; simp
  | cons p r ih => intro a; rw [List.foldl_cons, ih]; simp

theorem mem_lookup {α β : Type} [BEq α] [LawfulBEq α] {c : α} {a : β} : ∀ {l : List (α × β)}, l.lookup c = some a → (c, a) ∈ l
  | [], h => by cases h
  | (k, v) :: r, h => by
    rw [List.lookup_cons] at h
    split at h
    · rename_i e; cases h; rw [eq_of_beq e]; exact List.mem_cons_self
    · exact List.mem_cons_of_mem _ (mem_lookup h)

theorem escL_one (c : Nat) : escL [c] = if spec c = true then [92, c] else [c] := by simp [escL]

open Builtin Builtin.Str in
theorem call_translate {prog : Program} {w : World} {A : Around} {E : Value → Shared → Prop} {s : Shared} {d : Addr} {x : Str} {t : Tok} {Q : Value → Shared → Prop}
    (hh : A.handled = none) (hd : (d == sysModules) = false) (T : TabEsc prog w s.heap d) (hx : x.length ≤ 100000)
    (hQ : ∀ h' tk tk', Ext s.heap h' → Q (.str (esc x) tk') { s with heap := h', toks := tk }) :
    wpAny (model prog w) A (call (.builtin "str.translate") [.str x t, .ref d]) Q E s := by
  refine wpAny_call_entry slot_translate (typeIs_str _ _ _) entry_translate ?_ (args_translate _ _)
  unfold Builtin.«str.translate»
  refine wpAny_bind (m := strOneArg _ _) (wpAny_pure ?_)
  dsimp only
  have hlen : x.cps.toList.length = x.length := by simp [Str.length]
  refine wpAny_ite_split (fun h0 => ?_) (fun h0 => ?_)
  · refine wpAny_bind (wpAny_rule ?_)
    refine wpAny_bind (m := strUnchanged _ _) (wpAny_pure ?_)
    have e : x.cps.toList = [] := List.length_eq_zero_iff.mp (by rw [hlen]; simpa using h0)
    have : esc x = x := by
      unfold esc; rw [e]; cases x with | mk cps => simp at e; subst e; rfl
    rw [this] at hQ
    exact wpAny_pure ⟨_, rfl, hQ _ _ _ Ext.refl⟩
  refine wpAny_bind (wpAny_forIn_array' _ (fun rest (b : List Str × Nat × Bool × List (Nat × Option Nat) × Bool) s' =>
    ∃ h' tk pre, s' = { s with heap := h', toks := tk } ∧ Ext s.heap h' ∧ x.cps.toList = pre ++ rest ∧ (b.1.reverse.map (·.cps.toList)).flatten = escL pre ∧ b.2.1 = (escL pre).length ∧ b.2.2.2.2 = false ∧
      ∀ c a, (c, a) ∈ b.2.2.2.1 → a = some c ∧ spec c = false) _ ?_ ?_ _ _ ⟨s.heap, s.toks, [], rfl, Ext.refl, rfl, rfl, rfl, rfl, fun _ _ h => nomatch h⟩)
  · rintro c rest ⟨pieces, total, fast, known, afterDrop⟩ s' ⟨h', tk, pre, rfl, he, hpre, hp, ht, ha, hk⟩
    dsimp only at hp ht ha hk ⊢
    subst ha
    have hlp := escL_length pre
    have hl2 : pre.length ≤ 100000 := by
      have := congrArg List.length hpre
      rw [List.length_append] at this; omega
    have T' : TabEsc prog w h' d := T.ext he
    have htot : tooLong total = false := by
      unfold tooLong; rw [sizeLine_eq, ht]; exact decide_eq_false (by omega)
    rw [htot]
    have keepIt : ∀ (known' : List (Nat × Option Nat)) (fast' : Bool) (h'' : Heap) (tk' : Nat), Ext s.heap h'' → spec c = false → (∀ c a, (c, a) ∈ known' → a = some c ∧ spec c = false) →
        ∃ h₁ tk₁ pre₁, ({ s with heap := h'', toks := tk' } : Shared) = { s with heap := h₁, toks := tk₁ } ∧ Ext s.heap h₁ ∧ x.cps.toList = pre₁ ++ rest ∧ (((⟨#[c]⟩ : Str) :: pieces).reverse.map (·.cps.toList)).flatten = escL pre₁ ∧ total + 1 = (escL pre₁).length ∧ false = false ∧
          ∀ c a, (c, a) ∈ known' → a = some c ∧ spec c = false := by
      intro known' fast' h'' tk' he' hs hk'
      refine ⟨h'', tk', pre ++ [c], rfl, he', by rw [hpre]; simp, ?_, ?_, rfl, hk'⟩
      · rw [escL_append, ← hp, escL_one, hs]; simp
      · rw [escL_append, escL_one, hs, ht]; simp
    have slow : ∀ (known' : List (Nat × Option Nat)) (fast' : Bool) (h'' : Heap) (tk' : Nat), Ext s.heap h'' → (∀ c a, (c, a) ∈ known' → a = some c ∧ spec c = false) →
        wpAny (model prog w) A.in1 (do
          let __do_lift ← tableLookup (.ref d) c
          match __do_lift with
            | Mapped.keep => pure (ForInStep.yield ((⟨#[c]⟩ : Str) :: pieces, total + 1, fast', known', false))
            | Mapped.drop => pure (ForInStep.yield (pieces, total, fast', known', true))
            | Mapped.char d => pure (ForInStep.yield ((⟨#[d]⟩ : Str) :: pieces, total + 1, fast', known', false))
            | Mapped.text t => pure (ForInStep.yield (t :: pieces, total + t.length, fast', known', false)))
          (fun r s' => match r with
            | ForInStep.yield b => ∃ h' tk pre, s' = { s with heap := h', toks := tk } ∧ Ext s.heap h' ∧ x.cps.toList = pre ++ rest ∧ (b.1.reverse.map (·.cps.toList)).flatten = escL pre ∧ b.2.1 = (escL pre).length ∧ b.2.2.2.2 = false ∧
               ∀ c a, (c, a) ∈ b.2.2.2.1 → a = some c ∧ spec c = false
            | ForInStep.done b => False) E { s with heap := h'', toks := tk' } := by
      intro known' fast' h'' tk' he' hk'
      refine wpAny_bind (lookup_esc (A := A.in1) hh hd (T.ext he') fun h₂ tk₂ he₂ => ?_)
      cases hs : spec c with
      | false =>
        simp only [Bool.false_eq_true, if_false]
        exact wpAny_pure (keepIt known' fast' h₂ tk₂ (he'.trans he₂) hs hk')
      | true =>
        simp only [if_true]
        refine wpAny_pure ⟨h₂, tk₂, pre ++ [c], rfl, he'.trans he₂, by rw [hpre]; simp, ?_, ?_, rfl, hk'⟩
        · show ((((⟨#[92, c]⟩ : Str) :: pieces).reverse.map (·.cps.toList)).flatten) = _
          rw [escL_append, ← hp, escL_one, hs]; simp
        · rw [escL_append, escL_one, hs, ht]; simp [Str.length]
    simp only [Bool.false_eq_true, if_false]
    cases fast with
    | false =>
      simp only [Bool.false_eq_true, if_false]
      refine wpAny_mono (slow known false h' tk he hk) (fun r s₂ hr => ?_) (fun _ _ e => e)
      cases r with
      | yield b => exact hr
      | done b => exact hr.elim
    | true =>
      simp only [if_true]
      cases hl : List.lookup c known with
      | some a =>
        obtain ⟨rfl, hs⟩ := hk c a (mem_lookup hl)
        dsimp only
        exact wpAny_bind (wpAny_pure (wpAny_pure (keepIt known true h' tk he hs hk)))
      | none =>
        dsimp only
        refine wpAny_bind (lookup_esc (A := A.in1) hh hd T' fun h₂ tk₂ he₂ => ?_)
        cases hs : spec c with
        | false =>
          simp only [Bool.false_eq_true, if_false]
          refine wpAny_bind (wpAny_pure (wpAny_pure (keepIt _ true h₂ tk₂ (he.trans he₂) hs ?_)))
          intro c' a' hm
          rcases List.mem_cons.mp hm with e | hm
          · cases e; exact ⟨rfl, hs⟩
          · exact hk c' a' hm
        | true =>
          simp only [if_true]
          refine wpAny_bind (wpAny_pure ?_)
          refine wpAny_bind (wpAny_rule ?_)
          refine wpAny_mono (slow known false h₂ tk₂ (he.trans he₂) hk) (fun r s₂ hr => ?_) (fun _ _ e => e)
          cases r with
          | yield b => exact hr
          | done b => exact hr.elim
  · rintro ⟨pieces, total, fast, known, afterDrop⟩ s' ⟨h', tk, pre, rfl, he, hpre, hp, ht, ha, hk⟩
    dsimp only at hp ht ha hk ⊢
    have hlp := escL_length pre
    rw [List.append_nil] at hpre
    have htot : tooLong total = false := by
      unfold tooLong; rw [sizeLine_eq, ht, ← hpre, hlen] at *; exact decide_eq_false (by omega)
    rw [htot]
    simp only [Bool.false_eq_true, if_false]
    rw [foldl_cps]
    have e : ((#[] : Array Nat).toList ++ (pieces.reverse.map (·.cps.toList)).flatten).toArray = (esc x).cps := by
      rw [hp, ← hpre]; simp [esc]
    rw [e]
    refine wpAny_bind (wpAny_mkStr (x := esc x) (wpAny_pure ⟨_, rfl, hQ _ _ _ he⟩) ?_)
    show (esc x).cps.size ≤ _
    rw [sizeLine_eq]; simp only [esc, List.size_toArray]; rw [← hpre] at hlp; omega
end Mine
end secMBase
section secMMap
namespace Mine
section mapfacts
theorem slot_map_init : Slot "map" "__init__" "object.__init__" :=
  .of (owner := "object") (n := "__init__") (by rw [typeLookup_type, builtinLookup_eq_fast]; kernel_rfl) (by decide +kernel) (by decide +kernel) (by decide +kernel)
    (by first | exact .inl (by decide +kernel) | exact .inr (by decide +kernel)) (by rw [isSubtype_type]; kernel_rfl)
theorem slot_map_iter : Slot "map" "__iter__" "map.__iter__" :=
  .of (owner := "map") (n := "__iter__") (by rw [typeLookup_type, builtinLookup_eq_fast]; kernel_rfl) (by decide +kernel) (by decide +kernel) (by decide +kernel)
    (by first | exact .inl (by decide +kernel) | exact .inr (by decide +kernel)) (by rw [isSubtype_type]; kernel_rfl)
theorem slot_map_next : Slot "map" "__next__" "map.__next__" :=
  .of (owner := "map") (n := "__next__") (by rw [typeLookup_type, builtinLookup_eq_fast]; kernel_rfl) (by decide +kernel) (by decide +kernel) (by decide +kernel)
    (by first | exact .inl (by decide +kernel) | exact .inr (by decide +kernel)) (by rw [isSubtype_type]; kernel_rfl)
theorem entry_map_next : entryFor table "map.__next__" = some Builtin.«map.__next__» := entryFor_of_tree (by kernel_rfl)
theorem entry_map_new : entryFor table "map.__new__" = some Builtin.«map.__new__» := entryFor_of_tree (by kernel_rfl)
theorem entry_map_iter : entryFor table "map.__iter__" = some Builtin.«dict_keyiterator.__iter__» :=
  entryFor_alias (id' := "dict_keyiterator.__iter__") (by kernel_rfl) (by first | rfl | decide +kernel | (unfold String.splitOn; simp +decide [String.splitOnAux])) (by decide +kernel) (by kernel_rfl)
theorem args_map_next (a : Value) : argsOk "map.__next__" ⟨[a], []⟩ := by unfold argsOk; kernel_rfl
theorem args_map_iter (a : Value) : argsOk "map.__iter__" ⟨[a], []⟩ := by unfold argsOk; kernel_rfl
theorem mro_map : mroOf (.type "map") = pure [.type "map", .type "object"] := by rw [mroOf_type]; kernel_rfl
theorem lookup_map_new : typeLookup (.type "map") "__new__" = pure (some (.builtin "map.__new__")) := by rw [typeLookup_type, builtinLookup_eq_fast]; kernel_rfl
theorem called_map : TypeCalled "map" "map.__new__" "object.__init__" :=
  ⟨by decide +kernel, by decide +kernel, ⟨_, _, mro_map⟩, madeBy_type mro_map lookup_map_new (by decide +kernel), by decide +kernel, by rw [isSubtype_type]; kernel_rfl, slot_map_init⟩
theorem typeCall_map_2 (a b : Value) : checkTypeCall "map" ⟨[a, b], []⟩ = pure () := by kernel_rfl
theorem newCall_map_2 (a b : Value) : checkBuiltinCall "map.__new__" ⟨[.type "map", a, b], []⟩ = pure () := by kernel_rfl
theorem sub_map : isSubtype (.type "map") (.type "map") = pure true := by rw [isSubtype_type]; kernel_rfl
theorem map_no_len : typeLookup (.type "map") "__len__" = pure none := by rw [typeLookup_type, builtinLookup_eq_fast]; kernel_rfl
theorem map_no_hint : typeLookup (.type "map") "__length_hint__" = pure none := by rw [typeLookup_type, builtinLookup_eq_fast]; kernel_rfl
end mapfacts

noncomputable abbrev mapObj (TI : Addr) (f : Value) : Obj := { cls := .type "map", data := .fields #[.ref TI, f] }
noncomputable abbrev tup1 (a : Value) : Obj := { cls := .type "tuple", data := .seq #[a] }

theorem meets_map_new (f : Value) (l : Addr) (items : Array Value) (n : Nat) (dct : Option Addr) (sl : Array (Option Value)) :
    Meets (Builtin.«map.__new__» ⟨[.type "map", f, .ref l], []⟩) (fun _ R s => s.heap.get? l = some { cls := .type "list", dict := dct, data := .seq items n, slots := sl } ∧
      R (.ok (.ret (.ref ((s.heap.push { cls := .type "list_iterator", data := .fields #[.ref l, .int 0 0] }).push (tup1 (.ref s.heap.objs.size))).objs.size)))
        { s with heap := ((s.heap.push { cls := .type "list_iterator", data := .fields #[.ref l, .int 0 0] }).push (tup1 (.ref s.heap.objs.size))).push (mapObj (s.heap.push { cls := .type "list_iterator", data := .fields #[.ref l, .int 0 0] }).objs.size f) }) :=
  .of_wp fun prog w A R s h => by
    obtain ⟨hp, g, d, tk, os⟩ := s; obtain ⟨hl, h⟩ := h
    have hsub := sub_map
    have hL : Heap.IsList (Shared.heap ⟨hp, g, d, tk, os⟩) l items := ⟨_, hl, rfl, n, rfl⟩
    unfold Builtin.«map.__new__»
    refine wpAny_bind ?_
    wp_walk using wpAny_pyIter_list hL
    exact ⟨_, rfl, h⟩
end Mine
end secMMap
section secMMap2
namespace Mine
theorem call_map {prog : Program} {w : World} {A : Around} {E : Value → Shared → Prop} {s : Shared} {f : Value} {l : Addr} {items : Array Value} {Q : Value → Shared → Prop} (hL : s.heap.IsList l items)
    (h : ∀ h', h'.get? (s.heap.objs.size + 2) = some (mapObj (s.heap.objs.size + 1) f) → h'.get? (s.heap.objs.size + 1) = some (tup1 (.ref s.heap.objs.size)) → h'.IsListIter s.heap.objs.size l 0 → h'.objs.size = s.heap.objs.size + 3 →
      Ext s.heap h' → Q (.ref (s.heap.objs.size + 2)) { s with heap := h' }) :
    wpAny (model prog w) A (call (.type "map") [f, .ref l]) Q E s := by
  obtain ⟨⟨c, dct, dt, sl⟩, hl, hc, n, hd⟩ := hL
  replace hc : c = .type "list" := hc
  replace hd : dt = .seq items n := hd
  subst hc hd
  refine callType_new called_map (by decide) (typeCall_map_2 _ _) (newCall_map_2 _ _) (fun obj => F.args_object_init_3 obj _ _) entry_map_new
    (meets_map_new f l items n dct sl) ⟨hl, ?_⟩
  have hz : (s.heap.push { cls := .type "list_iterator", data := .fields #[.ref l, .int 0 0] }).objs.size = s.heap.objs.size + 1 := Heap.size_push ..
  have hz2 : ((s.heap.push { cls := .type "list_iterator", data := .fields #[.ref l, .int 0 0] }).push (tup1 (.ref s.heap.objs.size))).objs.size = s.heap.objs.size + 2 := by rw [Heap.size_push, hz]
  show _ ∧ _
  rw [hz2, hz]
  have h1 := Heap.get?_push_size ((s.heap.push { cls := .type "list_iterator", data := .fields #[.ref l, .int 0 0] }).push (tup1 (.ref s.heap.objs.size))) (o := mapObj (s.heap.objs.size + 1) f) rfl
  rw [hz2] at h1
  have h2 := Heap.get?_push_of_some (mapObj (s.heap.objs.size + 1) f) (Heap.get?_push_size (s.heap.push { cls := .type "list_iterator", data := .fields #[.ref l, .int 0 0] }) (o := tup1 (.ref s.heap.objs.size)) rfl)
  rw [hz] at h2
  refine ⟨⟨_, h1, rfl⟩, h _ h1 h2 ⟨_, Heap.get?_push_of_some _ (Heap.get?_push_of_some _ (Heap.get?_push_size _ rfl)), rfl, rfl⟩ (by rw [Heap.size_push, hz2]) fun b o e => Heap.get?_push_of_some _ (Heap.get?_push_of_some _ (Heap.get?_push_of_some _ e))⟩

/-- what the walk of a map keeps of the heap at its start -/
noncomputable abbrev OffIt (it : Addr) (h₀ h : Heap) : Prop := ∀ b o, b ≠ it → h₀.get? b = some o → h.get? b = some o

theorem walks_map {prog : Program} {w : World} {A : Around} (hh : A.handled = none) {h₀ : Heap} {I TI it l : Addr} {f : Value} {items : Array Value} {P : Nat → Value → Prop}
    (hI : h₀.get? I = some (mapObj TI f)) (hTI : h₀.get? TI = some (tup1 (.ref it))) (hl : h₀.IsList l items) (hit : it < h₀.objs.size) (n1 : I ≠ it) (n2 : TI ≠ it) (n3 : l ≠ it)
    (hf : ∀ i x (s : Shared) (Q E : Value → Shared → Prop), items[i]? = some x → OffIt it h₀ s.heap → (∀ v h' tk, P i v → Ext s.heap h' → Q v { s with heap := h', toks := tk }) → wpAny (model prog w) A.in1 (call f [x]) Q E s) :
    Walks prog w A I (List.range h₀.objs.size) [it] items.size P (fun i h => OffIt it h₀ h ∧ h.IsListIter it l i) where
  sub := fun b hb => by rw [List.mem_singleton.mp hb]; exact List.mem_range.mpr hit
  frame := fun i h h' st hk => ⟨fun b o hb e => hk b (List.mem_range.mpr (Heap.lt_size e)) o (st.1 b o hb e), st.2.at fun o e => hk it (List.mem_range.mpr hit) o e⟩
  item := fun i s Q E hi st hQ => by
    have hIs := st.1 I _ n1 hI
    have hTIs := st.1 TI _ n2 hTI
    have hls : s.heap.IsList l items := hl.at fun o e => st.1 l o n3 e
    have hT : s.TypeIs (.ref I) "map" := ⟨_, hIs, rfl⟩
    unfold pyNext
    refine wpAny_bind (wpAny_attempt (wpAny_callSpecial?_slot (name := Str.ofString "__next__") hT slot_map_next
      (wpAny_call_entry slot_map_next hT entry_map_next ?_ (args_map_next _))))
    show wpAny _ _ (field (.ref I) 0 >>= _) _ _ _
    refine wpAny_bind (wpAny_field hIs rfl (x := .ref TI) rfl ?_)
    refine wpAny_bind (wpAny_seqItems hTIs rfl ?_)
    have hx : items[i]? = some items[i] := by simp [hi]
    dsimp only
    rw [← Array.forIn_toList]
    simp only [List.forIn_cons, List.forIn_nil]
    refine wpAny_bind (wpAny_bind (wpAny_bind (wpAny_holding (wpAny_nextOf_list_item st.2 hls hx fun h₁ hit₁ hs₁ => ?_))))
    refine wpAny_pure (wpAny_pure ?_)
    have hIs₁ := hs₁.extBut I _ n1 hIs
    refine wpAny_bind (wpAny_field hIs₁ rfl (x := f) rfl ?_)
    refine wpAny_bind (wpAny_holding ?_)
    have ho₁ : OffIt it h₀ h₁ := fun b o hb e => hs₁.extBut b o hb (st.1 b o hb e)
    refine hf i _ _ _ _ hx ho₁ fun v h₂ tk hP he => ?_
    refine wpAny_bind (wpAny_letGo (wpAny_pure ⟨_, rfl, wpAny_pure (hQ v h₂ tk hP ⟨fun b o hb e => he b o (ho₁ b o hb e), hit₁.at fun o e => he it o e⟩ fun b o hb e => he b o (hs₁.extBut b o (fun e' => hb (List.mem_singleton.mpr e')) e))⟩))
  done := fun s Q E st hQ => by
    have hIs := st.1 I _ n1 hI
    have hTIs := st.1 TI _ n2 hTI
    have hls : s.heap.IsList l items := hl.at fun o e => st.1 l o n3 e
    have hT : s.TypeIs (.ref I) "map" := ⟨_, hIs, rfl⟩
    unfold pyNext
    refine wpAny_bind (wpAny_attempt (wpAny_callSpecial?_slot (name := Str.ofString "__next__") hT slot_map_next
      (wpAny_call_entry slot_map_next hT entry_map_next ?_ (args_map_next _))))
    show wpAny _ _ (field (.ref I) 0 >>= _) _ _ _
    refine wpAny_bind (wpAny_field hIs rfl (x := .ref TI) rfl ?_)
    refine wpAny_bind (wpAny_seqItems hTIs rfl ?_)
    dsimp only
    rw [← Array.forIn_toList]
    simp only [List.forIn_cons, List.forIn_nil]
    refine wpAny_bind (wpAny_bind (wpAny_bind (wpAny_holding (wpAny_nextOf_list_end (A := A.in1) hh st.2 hls (by simp) fun h₁ e he hx => ?_))))
    obtain ⟨o, ho, hc⟩ := hx
    refine wpAny_bind (wpAny_isInstance (T := "StopIteration") (b := true) ⟨o, ho, hc⟩ isSubtype_stop ?_)
    exact wpAny_pure (hQ h₁ s.toks fun b o hb e => he b o (fun e' => hb (List.mem_singleton.mpr e')) e)
  self := fun i s Q E st hQ => by
    have hIs := st.1 I _ n1 hI
    have hT : s.TypeIs (.ref I) "map" := ⟨_, hIs, rfl⟩
    refine wpAny_pyIter_slot hT slot_map_iter (wpAny_call_entry slot_map_iter hT entry_map_iter ?_ (args_map_iter _))
    show wpAny _ _ (ret (.ref I)) _ _ s
    exact wpAny_pure ⟨_, rfl, "map", _, hT, slot_map_next.lookup, hQ⟩
end Mine
end secMMap2
section secMList
namespace Mine
section
variable {prog : Program} {w : World} {A : Around} {E : Value → Shared → Prop} {s : Shared} {I : Addr} {fp wr : List Addr} {n : Nat} {P : Nat → Value → Prop} {St : Nat → Heap → Prop}

theorem extend_walk {T : String} {R : Result → Shared → Prop} (W : Walks prog w A.in1 I fp wr n P St) (hT : ∀ s : Shared, St 0 s.heap → s.TypeIs (.ref I) T)
    (h2 : (Value.type T == Value.type "list") = false) (h3 : (Value.type T == Value.type "tuple") = false)
    (hlen : typeLookup (.type T) "__len__" = pure none) (hhint : typeLookup (.type T) "__length_hint__" = pure none)
    (hst : St 0 s.heap) (hn : n ≤ sizeLine) (S : Addr) (hSf : S ∉ fp) (hIf : I ∈ fp) (res : Value) (c₀ : Nat) (hS : s.heap.get? S = some { cls := .type "list", data := .seq #[] c₀ })
    (hR : ∀ h' tk acc' c', (∀ b o, b ≠ S → b ∉ wr → s.heap.get? b = some o → h'.get? b = some o) → h'.get? S = some { cls := .type "list", dict := none, data := .seq acc' c', slots := #[] } →
      ItemsOf P acc' n → R (.ok (.ret res)) { s with heap := h', toks := tk }) :
    wpAny (model prog w) A.in1 (Builtin.List.listExtendWith (.ref S) (.ref I) res)
      (fun fin s' => match fin with | .done f => R (.ok f) s' | .again c' => c'.quiet = true ∧ codeAny (model prog w) A c' R s') (fun e s' => R (.error e) s') s := by
  have hSI : S ≠ I := fun e => hSf (e ▸ hIf)
  unfold Builtin.List.listExtendWith
  refine wpAny_bind (wpAny_typeOf (hT s hst) ?_)
  have h1 : Builtin.List.listSameRef (.ref S) (.ref I) = false := by simp [Builtin.List.listSameRef, hSI]
  simp only [h1, h2, h3, Bool.or_false, Bool.false_eq_true, if_false]
  refine wpAny_bind (W.self 0 _ _ _ hst ?_)
  refine wpAny_bind (wpAny_holding ?_)
  unfold Builtin.List.listLengthHint
  refine wpAny_bind (wpAny_specialOf (hT s hst) hlen ?_)
  show wpAny _ A.in1 (specialOf (Value.ref I) (Str.ofString "__length_hint__") >>= _) _ _ _
  refine wpAny_bind (wpAny_specialOf (hT s hst) hhint ?_)
  refine wpAny_pure ?_
  show wpAny _ A.in1 (rule "list.extend.makes-room" >>= fun _ => Builtin.List.listTouch (.ref S) >>= fun _ =>
    again (.builtin "list.extend.loop" ⟨[.ref S, .ref I, res], []⟩)) _ _ _
  refine wpAny_bind (wpAny_rule ?_)
  refine wpAny_bind ?_
  show wpAny _ A.in1 (updateSeq S (·.push .none) >>= fun _ => updateSeq S (·.pop)) _ _ _
  refine wpAny_bind (wpAny_updateSeq hS rfl ?_)
  have hS₂ := Heap.get?_update_self (Obj.mapSeq (·.push Value.none)) hS rfl
  refine wpAny_updateSeq (hz := by seq_fits) hS₂ rfl ?_
  have hS₃ := Heap.get?_update_self (Obj.mapSeq (·.pop)) hS₂ rfl
  have oth : ∀ b o, b ≠ S → s.heap.get? b = some o → ((s.heap.update S (Obj.mapSeq (·.push Value.none))).update S (Obj.mapSeq (·.pop))).get? b = some o :=
    fun b o hb e => (Heap.get?_update_other _ _ (Ne.symm hb)).trans ((Heap.get?_update_other _ _ (Ne.symm hb)).trans e)
  refine wpAny_pure ⟨plainId_quiet F.plain_extend_loop _, codeAny_extend_loopS W.toS hn _ hSf _ n 0 _ _ _ rfl (Nat.zero_le _)
    (W.frame 0 s.heap _ hst fun b hb o e => oth b o (fun h => hSf (h ▸ hb)) e) hS₃ (ItemsOf.nil P) fun s' acc' c' hm hS' hacc => ?_⟩
  rw [Moved.eq_with hm]
  refine hR s'.heap s'.toks acc' c' (fun b o hb hw e => hm.heap b o (fun hmem => ?_) (oth b o hb e)) hS' hacc
  rcases List.mem_cons.mp hmem with e' | hmem
  · exact hb e'
  · exact hw hmem

theorem call_list_walk {T : String} {Q : Value → Shared → Prop} (W : Walks prog w A.in1.in1 I fp wr n P St) (hT : ∀ s : Shared, St 0 s.heap → s.TypeIs (.ref I) T)
    (h2 : (Value.type T == Value.type "list") = false) (h3 : (Value.type T == Value.type "tuple") = false)
    (hlen : typeLookup (.type T) "__len__" = pure none) (hhint : typeLookup (.type T) "__length_hint__" = pure none)
    (hst : St 0 s.heap) (hn : n ≤ sizeLine) (hIf : I ∈ fp) (hfp : ∀ b ∈ fp, b < s.heap.objs.size)
    (hQ : ∀ h' tk acc' c', (∀ b o, b ∉ wr → s.heap.get? b = some o → h'.get? b = some o) →
      h'.get? s.heap.objs.size = some { cls := .type "list", dict := none, data := .seq acc' c', slots := #[] } → ItemsOf P acc' n → Q (.ref s.heap.objs.size) { s with heap := h', toks := tk }) :
    wpAny (model prog w) A (call (.type "list") [.ref I]) Q E s := by
  refine callType_codes (Q₁ := fun obj s₁ => obj = .ref s.heap.objs.size ∧ s₁ = { s with heap := s.heap.push { cls := .type "list", data := .seq #[] } }) F.called_list (F.typeCall_list_1 _) F.entry_list_init
    (code_list_new _ ⟨rfl, rfl⟩) fun obj s₁ h₁ => ?_
  obtain ⟨rfl, rfl⟩ := h₁
  have hS : (s.heap.push { cls := .type "list", data := .seq #[] }).get? s.heap.objs.size = some { cls := .type "list", data := .seq #[] } := Heap.get?_push_size _ rfl
  have hSf : s.heap.objs.size ∉ fp := fun hm => Nat.lt_irrefl _ (hfp _ hm)
  refine ⟨⟨_, hS, rfl⟩, F.args_list_init_2 _ _, ?_⟩
  show wpAny _ _ (do let old ← Builtin.List.listItems (.ref s.heap.objs.size); Builtin.List.listUpdate (.ref s.heap.objs.size) (fun _ => #[]); letGo old.toList.reverse; Builtin.List.listExtendWith (.ref s.heap.objs.size) (.ref I) .none) _ _ _
  refine wpAny_bind ?_
  unfold Builtin.List.listItems
  refine wpAny_bind (wpAny_seqItems hS rfl (wpAny_pure ?_))
  show wpAny _ _ (updateSeq s.heap.objs.size (fun _ => #[]) >>= fun _ => letGo (#[] : Array Value).toList.reverse >>= fun _ => Builtin.List.listExtendWith (.ref s.heap.objs.size) (.ref I) .none) _ _ _
  refine wpAny_bind (wpAny_updateSeq hS rfl ?_)
  have hS₂ := Heap.get?_update_self (Obj.mapSeq (fun _ => (#[] : Array Value))) hS rfl
  refine wpAny_bind (wpAny_letGo ?_)
  have up : ∀ b o, s.heap.get? b = some o → ((s.heap.push { cls := .type "list", data := .seq #[] }).update s.heap.objs.size (Obj.mapSeq (fun _ => (#[] : Array Value)))).get? b = some o :=
    fun b o e => (Heap.get?_update_other _ _ (Nat.ne_of_gt (Heap.lt_size e))).trans (Heap.get?_push_of_some _ e)
  refine extend_walk (A := A.in1) W hT h2 h3 hlen hhint (W.frame 0 s.heap _ hst fun b _ o e => up b o e) hn s.heap.objs.size hSf hIf .none _ hS₂ fun h' tk acc' c' hk hS' hacc => ?_
  exact ⟨rfl, hQ h' tk acc' c' (fun b o hw e => hk b o (Nat.ne_of_lt (Heap.lt_size e)) hw (up b o e)) hS' hacc⟩
end
end Mine
namespace Mine
theorem ne_add (a k : Nat) : a + (k + 1) ≠ a := by omega
theorem lt_add (a b k : Nat) (h : b = a + (k + 1)) : a < b := by omega
theorem call_list_map {prog : Program} {w : World} {A : Around} {E : Value → Shared → Prop} {s : Shared} {h₁ : Heap} {l : Addr} {f : Value} {items : Array Value} {P : Nat → Value → Prop} {Q : Value → Shared → Prop}
    (hh : A.handled = none) (e1 : Ext h₁ s.heap) (hz : s.heap.objs.size = h₁.objs.size + 3) (hM : s.heap.get? (h₁.objs.size + 2) = some (mapObj (h₁.objs.size + 1) f)) (hTI : s.heap.get? (h₁.objs.size + 1) = some (tup1 (.ref h₁.objs.size)))
    (hIt : s.heap.IsListIter h₁.objs.size l 0) (hl : h₁.IsList l items) (hn : items.size ≤ sizeLine)
    (hf : ∀ i x (s' : Shared) (Q E : Value → Shared → Prop), items[i]? = some x → Ext h₁ s'.heap → (∀ v h' tk, P i v → Ext s'.heap h' → Q v { s' with heap := h', toks := tk }) → wpAny (model prog w) A.in1.in1.in1 (call f [x]) Q E s')
    (hQ : ∀ h' tk acc c, Ext h₁ h' → h₁.get? s.heap.objs.size = none → h'.get? s.heap.objs.size = some (W.listOf acc c) → ItemsOf P acc items.size → Q (.ref s.heap.objs.size) { s with heap := h', toks := tk }) :
    wpAny (model prog w) A (call (.type "list") [.ref (h₁.objs.size + 2)]) Q E s := by
  have nin : ∀ b o, h₁.get? b = some o → b ≠ h₁.objs.size := fun b o e => Nat.ne_of_lt (Heap.lt_size e)
  have hl1 : l ≠ h₁.objs.size := by obtain ⟨o, ho, _⟩ := hl; exact nin _ _ ho
  have W := walks_map (prog := prog) (w := w) (A := A.in1.in1) hh (P := P) hM hTI (hl.at fun o e => e1 l o e) (lt_add _ _ 2 hz) (ne_add _ 1) (ne_add _ 0) hl1
    (fun i x s' Q E hx ho hq => hf i x s' Q E hx (fun b o e => ho b o (nin b o e) (e1 b o e)) hq)
  refine call_list_walk W (T := "map") (fun s' st => ⟨_, st.1 _ _ (ne_add _ 1) hM, rfl⟩) (by decide) (by decide) map_no_len map_no_hint ⟨fun _ _ _ e => e, hIt⟩ hn (List.mem_range.mpr (by rw [hz]; exact Nat.lt_succ_self _)) (fun b hb => List.mem_range.mp hb) ?_
  intro h' tk acc c hk hS hacc
  refine hQ h' tk acc c (fun b o e => hk b o (fun hm => nin b o e (List.mem_singleton.mp hm)) (e1 b o e)) ?_ hS hacc
  cases hq : h₁.get? s.heap.objs.size with
  | none => rfl
  | some o => exact absurd (Heap.lt_size hq) (by rw [hz]; exact Nat.not_lt.mpr (Nat.le_add_right _ _))
end Mine
end secMList
section secMLed
namespace Mine
section
variable {prog : Program} {w : World} {A : Around} {E : Value → Shared → Prop} {s : Shared} {h₀ : Heap} {L D : Addr} {m : Str → Option Value} {rest : List (Addr × Obj)} {vs : List Value} {n : Nat} {v : Value}

theorem news_put {f : Array Value → Array Value} {vs' : List Value} {n' : Nat} (N : News h₀ L s.heap ((D, W.listOf vs.toArray n) :: rest)) (hoff : ∀ p ∈ rest, p.1 ≠ D) (he : f vs.toArray = vs'.toArray) (hn : (if vs'.length == vs.length then n else n + 1) = n') :
    News h₀ L (s.heap.update D (Obj.mapSeq f)) ((D, W.listOf vs'.toArray n') :: rest) := by
  have := ki_turn (pre := []) f N (fun _ h => nomatch h) hoff he (by simpa using hn)
  exact this

theorem fr_put {f : Obj → Obj} {o : Obj} (F : Fr h₀ L s.heap m) (N : News h₀ L s.heap ((D, o) :: rest)) : Fr h₀ L (s.heap.update D f) m :=
  F.change (Heap.SameBut.update ..) (N _ (.head _)).2.1 (N _ (.head _)).2.2

theorem set_led {k : Int} {t : Tok} {Q : Unit → Shared → Prop} (F : Fr h₀ L s.heap m) (N : News h₀ L s.heap ((D, W.listOf vs.toArray n) :: rest)) (hoff : ∀ p ∈ rest, p.1 ≠ D) (h0 : 0 ≤ k) (hk : k < vs.length) (hfit : k < 2 ^ 63)
    (h : ∀ h', Fr h₀ L h' m → News h₀ L h' ((D, W.listOf (vs.set k.toNat v).toArray n) :: rest) → Q () { s with heap := h' }) : wpAny (model prog w) A (setItem (.ref D) (.int k t) v) Q E s := by
  refine ki_setAt (N _ (.head _)).1 h0 hfit (by simpa using hk) (h _ (fr_put F N) (news_put N hoff ?_ ?_))
  · simp
  · simp

theorem setBack_led {k : Int} {t : Tok} {Q : Unit → Shared → Prop} (F : Fr h₀ L s.heap m) (N : News h₀ L s.heap ((D, W.listOf vs.toArray n) :: rest)) (hoff : ∀ p ∈ rest, p.1 ≠ D) (h0 : k < 0) (hk : -(vs.length : Int) ≤ k) (hfit : -(2 ^ 63) ≤ k)
    (h : ∀ h', Fr h₀ L h' m → News h₀ L h' ((D, W.listOf (vs.set (k + vs.length).toNat v).toArray n) :: rest) → Q () { s with heap := h' }) : wpAny (model prog w) A (setItem (.ref D) (.int k t) v) Q E s := by
  refine ki_setBack (N _ (.head _)).1 h0 (by simpa using hk) hfit (h _ (fr_put F N) (news_put N hoff ?_ ?_))
  · simp
  · simp
end
theorem strValues_get {c : List (Str × Tok)} {i : Nat} {p : Str × Tok} (h : c[i]? = some p) : (strValues c)[i]? = some (.str p.1 p.2) := by simp [strValues, h]
theorem strValues_length (c : List (Str × Tok)) : (strValues c).length = c.length := by simp [strValues]
theorem strValues_set (c : List (Str × Tok)) (i : Nat) (y : Str) (t : Tok) : (strValues c).set i (.str y t) = strValues (c.set i (y, t)) := by simp [strValues, List.map_set]
end Mine
end secMLed
section secMTp
namespace Mine
theorem itemsOf_strs {n : Nat} {acc : Array Value} {ys : List Str} (hn : ys.length = n) (h : ItemsOf (fun i v => ∃ y t, ys[i]? = some y ∧ v = Value.str y t) acc n) :
    ∃ l : List (Str × Tok), acc = (strValues l).toArray ∧ l.map (·.1) = ys := by
  obtain ⟨h1, h2⟩ := h
  have key : ∀ (vs : List Value) (ys : List Str), vs.length = ys.length → (∀ (j : Nat) (v : Value), vs[j]? = some v → ∃ y t, ys[j]? = some y ∧ v = Value.str y t) → ∃ l : List (Str × Tok), vs = strValues l ∧ l.map (·.1) = ys := by
    intro vs
    induction vs with
    | nil =>
      intro ys hl _
      refine ⟨[], rfl, ?_⟩
      (cases ys with
      | nil => rfl
      | cons _ _ => cases hl)
    | cons v vs ih =>
      intro ys hl hv
      cases ys with
      | nil => cases hl
      | cons y ys =>
        obtain ⟨y', t, e1, e2⟩ := hv 0 v rfl
        obtain ⟨l, e3, e4⟩ := ih ys (by simpa using hl) (fun j v' hj => hv (j + 1) v' hj)
        cases e1
        exact ⟨(y, t) :: l, by rw [e2, e3]; rfl, by simp [e4]⟩
  obtain ⟨l, e1, e2⟩ := key acc.toList ys (by simp [h1, hn]) (fun j v hj => h2 j v (by simpa using hj))
  exact ⟨l, by rw [← e1], e2⟩

noncomputable def wrapS (y : Str) : Str := Str.ofString "(?>.*?" ++ y ++ Str.ofString ")"
/-- the first k behind the head are wrapped -/
noncomputable def wrapTo (k : Nat) (ys : List Str) : List Str := ys.mapIdx fun i y => if 1 ≤ i ∧ i < 1 + k then wrapS y else y


noncomputable def partsS (x : Str) : List Str := (Txt.split x (Str.ofString "*")).map esc
noncomputable def finS (x : Str) : List Str := (wrapTo ((partsS x).length - 2) (partsS x)).set ((partsS x).length - 1) (Str.ofString ".*" ++ ((wrapTo ((partsS x).length - 2) (partsS x)).getD ((partsS x).length - 1) Str.empty))
noncomputable def tpS (x : Str) : Str := Txt.join (Str.ofString "") (finS x)

theorem partsS_pos (x : Str) : 1 ≤ (partsS x).length := by
  unfold partsS
  rw [List.length_map]
  unfold Txt.split
  split
  · simp
  · rw [StrLaws.partsBetween_eq]
    obtain ⟨p, r, e⟩ := StrLaws.partsFrom_ne x (Str.ofString "*").length 0 _
    rw [e]; split <;> simp
theorem esc_length (x : Str) : (esc x).length ≤ 2 * x.length := by
  show (escL x.cps.toList).toArray.size ≤ 2 * x.cps.size
  have := escL_length x.cps.toList
  simpa using this
theorem partsS_short {x y : Str} (h : y ∈ partsS x) : y.length ≤ 2 * x.length := by
  unfold partsS at h
  obtain ⟨z, hz, rfl⟩ := List.mem_map.mp h
  have := part_short hz
  have := esc_length z
  omega
theorem partsS_len (x : Str) : (partsS x).length ≤ x.length + 1 := by
  unfold partsS
  rw [List.length_map]
  have := split_weight x (Str.ofString "*") (by decide)
  omega
theorem wrapTo_length (k : Nat) (ys : List Str) : (wrapTo k ys).length = ys.length := by simp [wrapTo]
theorem wrapTo_get (k : Nat) (ys : List Str) (i : Nat) : (wrapTo k ys)[i]? = ys[i]?.map fun y => if 1 ≤ i ∧ i < 1 + k then wrapS y else y := by simp [wrapTo]
theorem wrapTo_zero (ys : List Str) : wrapTo 0 ys = ys := by
  apply List.ext_getElem?
  intro i
  rw [wrapTo_get]
  have h : ¬ (1 ≤ i ∧ i < 1 + 0) := by omega
  simp only [if_neg h]
  cases ys[i]? <;> rfl
theorem wrapTo_step (k : Nat) (ys : List Str) (y : Str) (h : ys[1 + k]? = some y) : (wrapTo k ys).set (1 + k) (wrapS y) = wrapTo (k + 1) ys := by
  apply List.ext_getElem?
  intro i
  rw [List.getElem?_set, wrapTo_get, wrapTo_get, wrapTo_length]
  by_cases hi : 1 + k = i
  · subst hi
    have hl : 1 + k < ys.length := (List.getElem?_eq_some_iff.mp h).1
    have h1 : 1 ≤ 1 + k ∧ 1 + k < 1 + (k + 1) := by omega
    rw [if_pos rfl, if_pos hl, h]
    simp only [Option.map_some, if_pos h1]
  · rw [if_neg hi]
    cases ys[i]? with
    | none => rfl
    | some z =>
      simp only [Option.map_some]
      by_cases h1 : 1 ≤ i ∧ i < 1 + k
      · rw [if_pos h1, if_pos (by omega)]
      · rw [if_neg h1, if_neg (by omega)]
theorem wrapS_length (y : Str) : (wrapS y).length = y.length + 7 := by
  unfold wrapS
  rw [Str.length_append, Str.length_append]
  have h1 : (Str.ofString "(?>.*?").length = 6 := by decide
  have h2 : (Str.ofString ")").length = 1 := by decide
  omega
theorem mem_wrapTo {k : Nat} {ys : List Str} {z : Str} {B : Nat} (hb : ∀ y ∈ ys, y.length ≤ B) (h : z ∈ wrapTo k ys) : z.length ≤ B + 7 := by
  obtain ⟨i, hi⟩ := List.mem_iff_getElem?.mp h
  rw [wrapTo_get] at hi
  obtain ⟨y, hy, rfl⟩ := Option.map_eq_some_iff.mp hi
  have := hb y (List.mem_of_getElem? hy)
  split
  · rw [wrapS_length]; omega
  · omega
theorem sum_le {l : List Nat} {B : Nat} (h : ∀ n ∈ l, n ≤ B) : l.sum ≤ l.length * B := by
  induction l with
  | nil => simp
  | cons a r ih =>
    rw [List.sum_cons, List.length_cons, Nat.succ_mul]
    have := h a List.mem_cons_self
    have := ih fun n hn => h n (List.mem_cons_of_mem _ hn)
    omega
theorem strsAre_values (c : List (Str × Tok)) : StrsAre (strValues c) (c.map (·.1)) := by
  induction c with
  | nil => exact .nil
  | cons p r ih => exact .cons _ _ ih
end Mine
namespace Mine
/-- a goal that the walk is to leave -/
noncomputable def Stop (P : Prop) : Prop := P
theorem Stop.of {P : Prop} (h : Stop P) : P := h
theorem Stop.go {P : Prop} (h : P) : Stop P := h
end Mine
end secMTp
section secMTxt
namespace Mine
/-- a text by its signs' numbers -/
noncomputable def S (l : List Nat) : Str := ⟨l.toArray⟩
theorem S_cps (l : List Nat) : (S l).cps.toList = l := by simp [S]
theorem S_of (x : Str) : S x.cps.toList = x := by cases x; simp [S]
theorem S_length (l : List Nat) : (S l).length = l.length := by simp [S, Str.length]
theorem S_inj {a b : List Nat} (h : S a = S b) : a = b := by rw [← S_cps a, h, S_cps]
theorem S_eq_iff {a b : List Nat} : S a = S b ↔ a = b := ⟨S_inj, congrArg S⟩
theorem S_append (a b : List Nat) : S a ++ S b = S (a ++ b) := by
  apply Str.ext'
  rw [Str.cps_append]
  simp [S]
theorem esc_S (l : List Nat) : esc (S l) = S (escL l) := by simp [esc, S]

theorem clipN (a n : Nat) : max (0 : Int) (min (if (a : Int) < 0 then (a : Int) + n else (a : Int)) n) = ((min a n : Nat) : Int) := by
  rw [if_neg (Int.not_lt.mpr (Int.natCast_nonneg a)), show min (a : Int) (n : Int) = ((min a n : Nat) : Int) by omega, Int.max_eq_right (Int.natCast_nonneg _)]
theorem sliceIdxN (a b n : Nat) : Builtin.Str.strSliceIndices (some (a : Int)) (some (b : Int)) 1 n = sliceRange ((min a n : Nat) : Int) ((min b n : Nat) : Int) 1 := by
  unfold Builtin.Str.strSliceIndices
  simp only [show (1 : Int) > 0 by decide, if_true, clipN]
theorem sliceN {xs : List Nat} {a b : Nat} : Txt.slice (S xs) (some (a : Int)) (some (b : Int)) = S ((xs.drop a).take (b - a)) := by
  have e : Txt.slice (S xs) (some (a : Int)) (some (b : Int)) = Txt.slice (S xs) (some ((min a xs.length : Nat) : Int)) (some ((min b xs.length : Nat) : Int)) := by
    unfold Txt.slice
    rw [S_length, sliceIdxN, sliceIdxN, Nat.min_assoc, Nat.min_self, Nat.min_assoc, Nat.min_self]
  rw [e]
  have hd : (xs.drop a).take (b - a) = (xs.drop (min a xs.length)).take (min b xs.length - min a xs.length) := by
    rcases Nat.le_total a xs.length with h | h
    · rw [Nat.min_eq_left h]
      rcases Nat.le_total b xs.length with h2 | h2
      · rw [Nat.min_eq_left h2]
      · rw [Nat.min_eq_right h2, List.take_of_length_le (by rw [List.length_drop]; omega), List.take_of_length_le (Nat.le_of_eq List.length_drop)]
    · rw [Nat.min_eq_right h, List.drop_of_length_le h, List.drop_of_length_le (Nat.le_refl _), List.take_nil, List.take_nil]
  rw [hd]
  rcases Nat.le_total (min a xs.length) (min b xs.length) with h | h
  · have := slice_closes (x := S xs) (i := ((min a xs.length : Nat) : Int)) (j := ((min b xs.length : Nat) : Int)) ⟨Int.natCast_nonneg _, Int.ofNat_le.mpr h, by rw [S_cps]; exact Int.ofNat_le.mpr (Nat.min_le_right ..)⟩
    rw [beq_iff_eq.mp this, S_cps, Int.toNat_natCast, Int.toNat_sub]
    rfl
  · have h0 : Builtin.Str.strSliceIndices (some ((min a xs.length : Nat) : Int)) (some ((min b xs.length : Nat) : Int)) 1 xs.length = [] := by
      rw [sliceIdxN, Nat.min_assoc, Nat.min_self, Nat.min_assoc, Nat.min_self]
      unfold sliceRange
      rw [if_pos (by decide), if_neg (Int.not_lt.mpr (Int.ofNat_le.mpr h))]
      rfl
    unfold Txt.slice
    rw [S_length, h0, Nat.sub_eq_zero_of_le h, List.take_zero]
    cases xs with
    | nil => rfl
    | cons x r => rfl
theorem slice_S {xs : List Nat} {i j : Int} (hi : 0 ≤ i) (hj : 0 ≤ j) : Txt.slice (S xs) (some i) (some j) = S ((xs.drop i.toNat).take (j.toNat - i.toNat)) := by
  rw [← Int.toNat_of_nonneg hi, ← Int.toNat_of_nonneg hj]
  exact sliceN

section
variable {prog : Program} {w : World} {A : Around} {E : Value → Shared → Prop} {s : Shared} {t u : Tok} {value slice : PySem.Expr} {Q : Value → Shared → Prop} {h₀ : Heap} {L : Addr} {m : Str → Option Value} {news : List (Addr × Obj)}

theorem item_S {xs : List Nat} {k : Int} {c : Nat} (h0 : 0 ≤ k) (hfit : k < 2 ^ 62) (hx : xs[k.toNat]? = some c) (h : ∀ t' tk, Q (.str (S [c]) t') { s with toks := tk })
    (hs : subscripted slice false (.str (S xs) t) (.int k u) = operate [.str (S xs) t, .int k u] (getItem (.str (S xs) t) (.int k u)) := by with_unfolding_all rfl)
    (ht : ∀ r, letTemporaryGo value (.str (S xs) t) r = pure () := by intro _; with_unfolding_all rfl) :
    wpAny (model prog w) A (subscriptTail value slice (.str (S xs) t) (.int k u)) Q E s := by
  have hlt : k.toNat < xs.length := (List.getElem?_eq_some_iff.mp hx).1
  refine item_str (fitsSsize_of (N := 2 ^ 62) (by omega) (by omega) (by decide)) (by omega) (by rw [S_length]; omega) (fun _ => ?_) hs ht
  have e : Txt.item (S xs) k = S [c] := by
    unfold Txt.item Txt.charAt
    have h1 : seqIndex? k (S xs).length = some k.toNat := by
      rw [S_length]
      unfold seqIndex?
      have h1 : ¬ k < 0 := by omega
      have h2 : (0 : Int) ≤ k ∧ k < (xs.length : Int) := by omega
      simp only [if_neg h1]
      simp [h2]
    rw [h1]
    simp [S, hx]
  rw [e]
  exact h _ _

theorem cut_S {xs : List Nat} {i j : Int} {ui uj : Tok} (hi : 0 ≤ i) (hj : 0 ≤ j) (hF : Fr h₀ L s.heap m) (hN : News h₀ L s.heap news)
    (h : ∀ h' t' k, Fr h₀ L h' m → News h₀ L h' news → Q (.str (S ((xs.drop i.toNat).take (j.toNat - i.toNat))) t') { s with heap := h', toks := k })
    (hs : subscripted slice false (.str (S xs) t) (.ref s.heap.objs.size) = operate [.ref s.heap.objs.size, .str (S xs) t] (getItem (.str (S xs) t) (.ref s.heap.objs.size)) := by with_unfolding_all rfl)
    (ht : ∀ r, letTemporaryGo value (.str (S xs) t) r = pure () := by intro _; with_unfolding_all rfl) (hsz : xs.length ≤ 16777216) :
    wpAny (model prog w) A (subscriptTail value slice (.str (S xs) t) (.ref s.heap.objs.size)) Q E { s with heap := s.heap.push { cls := .type "slice", data := .fields #[.int i ui, .int j uj, .none] } } := by
  refine slice_strN_ss_len hF hN (fun h' t' k F' N' _ => ?_) hs ht (by rw [S_length, sizeLine_eq]; exact hsz)
  rw [slice_S hi hj]
  exact h h' t' k F' N'

theorem eq_S {a b : List Nat} (h : Q (.bool (decide (a = b))) s) : wpAny (model prog w) A (compareOp .Eq (.str (S a) t) (.str (S b) u)) Q E s := by
  refine PyProof.Rows.eq_str ?_
  have : (S a == S b) = decide (a = b) := by
    rw [Bool.eq_iff_iff, beq_iff_eq, S_eq_iff, decide_eq_true_eq]
  rw [this]; exact h
theorem ne_S {a b : List Nat} (h : Q (.bool (!decide (a = b))) s) : wpAny (model prog w) A (compareOp .NotEq (.str (S a) t) (.str (S b) u)) Q E s := by
  refine ne_str ?_
  have : (S a != S b) = !decide (a = b) := by
    rw [Bool.eq_iff_iff]; simp [S_eq_iff]
  rw [this]; exact h
theorem in_S {b : List Nat} {c : Nat} (h : Q (.bool (decide (c ∈ b))) s) : wpAny (model prog w) A (compareOp .In (.str (S [c]) t) (.str (S b) u)) Q E s := by
  refine PyProof.Rows.in_str ?_
  have := StrLaws.found_one (S b) c
  rw [S_cps] at this
  rw [show S [c] = (⟨#[c]⟩ : Str) from rfl, this]
  exact h
theorem notIn_S {b : List Nat} {c : Nat} (h : Q (.bool (!decide (c ∈ b))) s) : wpAny (model prog w) A (compareOp .NotIn (.str (S [c]) t) (.str (S b) u)) Q E s := by
  refine PyProof.Rows.notIn_str ?_
  have := StrLaws.found_one (S b) c
  rw [S_cps] at this
  rw [show S [c] = (⟨#[c]⟩ : Str) from rfl, this]
  exact h
theorem iadd_S {a b : List Nat} (hsz : a.length + b.length ≤ 16777216) (h : ∀ t' tk, Q (.str (S (a ++ b)) t') { s with toks := tk }) : wpAny (model prog w) A (inplaceOp .Add (.str (S a) t) (.str (S b) u)) Q E s := by
  refine PyProof.Rows.iadd_str (fun t' tk => ?_) (by rw [S_length, S_length, sizeLine_eq]; exact hsz)
  rw [S_append]; exact h t' tk
theorem add_S {a b : List Nat} (hsz : a.length + b.length ≤ 16777216) (h : ∀ t' tk, Q (.str (S (a ++ b)) t') { s with toks := tk }) : wpAny (model prog w) A (binaryOp .Add (.str (S a) t) (.str (S b) u)) Q E s := by
  refine PyProof.Rows.add_str (fun t' tk => ?_) (by rw [S_length, S_length, sizeLine_eq]; exact hsz)
  rw [S_append]; exact h t' tk
theorem add_R {a b : List Nat} {y : Str} (hy : y = S b) (hsz : a.length + b.length ≤ 16777216) (h : ∀ t' tk, Q (.str (S (a ++ b)) t') { s with toks := tk }) : wpAny (model prog w) A (binaryOp .Add (.str (S a) t) (.str y u)) Q E s := by
  subst hy; exact add_S hsz h
theorem add_L {a b : List Nat} {x : Str} (hx : x = S a) (hsz : a.length + b.length ≤ 16777216) (h : ∀ t' tk, Q (.str (S (a ++ b)) t') { s with toks := tk }) : wpAny (model prog w) A (binaryOp .Add (.str x t) (.str (S b) u)) Q E s := by
  subst hx; exact add_S hsz h
theorem ltI_t {a b : Int} (h : a < b) (hq : Q (.bool true) s) : wpAny (model prog w) A (compareOp .Lt (.int a t) (.int b u)) Q E s := by
  refine PyProof.Rows.lt_int ?_; rw [decide_eq_true h]; exact hq
theorem ltI_f {a b : Int} (h : b ≤ a) (hq : Q (.bool false) s) : wpAny (model prog w) A (compareOp .Lt (.int a t) (.int b u)) Q E s := by
  refine PyProof.Rows.lt_int ?_; rw [decide_eq_false (Int.not_lt.mpr h)]; exact hq
theorem gtI_t {a b : Int} (h : b < a) (hq : Q (.bool true) s) : wpAny (model prog w) A (compareOp .Gt (.int a t) (.int b u)) Q E s := by
  refine PyProof.Rows.gt_int ?_; rw [decide_eq_true h]; exact hq
theorem gtI_f {a b : Int} (h : a ≤ b) (hq : Q (.bool false) s) : wpAny (model prog w) A (compareOp .Gt (.int a t) (.int b u)) Q E s := by
  refine PyProof.Rows.gt_int ?_; rw [decide_eq_false (Int.not_lt.mpr h)]; exact hq
theorem eqI_t {a b : Int} (h : a = b) (hq : Q (.bool true) s) : wpAny (model prog w) A (compareOp .Eq (.int a t) (.int b u)) Q E s := by
  refine PyProof.Rows.eq_int ?_; rw [beq_iff_eq.mpr h]; exact hq
theorem eqI_f {a b : Int} (h : a ≠ b) (hq : Q (.bool false) s) : wpAny (model prog w) A (compareOp .Eq (.int a t) (.int b u)) Q E s := by
  refine PyProof.Rows.eq_int ?_; rw [beq_eq_false_iff_ne.mpr h]; exact hq
theorem neI_t {a b : Int} (h : a ≠ b) (hq : Q (.bool true) s) : wpAny (model prog w) A (compareOp .NotEq (.int a t) (.int b u)) Q E s := by
  refine PyProof.Rows.ne_int ?_; rw [bne, beq_eq_false_iff_ne.mpr h]; exact hq
theorem neI_f {a b : Int} (h : a = b) (hq : Q (.bool false) s) : wpAny (model prog w) A (compareOp .NotEq (.int a t) (.int b u)) Q E s := by
  refine PyProof.Rows.ne_int ?_; rw [bne, beq_iff_eq.mpr h]; exact hq
theorem eqL_t {x y : Str} (h : x = y) (hq : Q (.bool true) s) : wpAny (model prog w) A (compareOp .Eq (.str x t) (.str y u)) Q E s := by
  refine PyProof.Rows.eq_str ?_
  rw [h, beq_self_eq_true]; exact hq
theorem eqL_f {x y : Str} (h : x ≠ y) (hq : Q (.bool false) s) : wpAny (model prog w) A (compareOp .Eq (.str x t) (.str y u)) Q E s := by
  refine PyProof.Rows.eq_str ?_
  rw [beq_eq_false_iff_ne.mpr h]; exact hq
theorem neL_t {x y : Str} (h : x ≠ y) (hq : Q (.bool true) s) : wpAny (model prog w) A (compareOp .NotEq (.str x t) (.str y u)) Q E s := by
  refine ne_str ?_
  rw [bne, beq_eq_false_iff_ne.mpr h]; exact hq
theorem neL_f {x y : Str} (h : x = y) (hq : Q (.bool false) s) : wpAny (model prog w) A (compareOp .NotEq (.str x t) (.str y u)) Q E s := by
  refine ne_str ?_
  rw [h, bne, beq_self_eq_true]; exact hq
theorem inL_t {x y : Str} (h : Txt.contains x y = true) (hq : Q (.bool true) s) : wpAny (model prog w) A (compareOp .In (.str y u) (.str x t)) Q E s := by
  refine PyProof.Rows.in_str ?_
  rw [show (!(Builtin.Str.occurrences x y 0 x.length 1).isEmpty) = true from h]; exact hq
theorem inL_f {x y : Str} (h : Txt.contains x y = false) (hq : Q (.bool false) s) : wpAny (model prog w) A (compareOp .In (.str y u) (.str x t)) Q E s := by
  refine PyProof.Rows.in_str ?_
  rw [show (!(Builtin.Str.occurrences x y 0 x.length 1).isEmpty) = false from h]; exact hq
theorem notInL_f {x y : Str} (h : Txt.contains x y = true) (hq : Q (.bool false) s) : wpAny (model prog w) A (compareOp .NotIn (.str y u) (.str x t)) Q E s := by
  refine PyProof.Rows.notIn_str ?_
  rw [show (!(Builtin.Str.occurrences x y 0 x.length 1).isEmpty) = true from h]; exact hq
theorem notInL_t {x y : Str} (h : Txt.contains x y = false) (hq : Q (.bool true) s) : wpAny (model prog w) A (compareOp .NotIn (.str y u) (.str x t)) Q E s := by
  refine PyProof.Rows.notIn_str ?_
  rw [show (!(Builtin.Str.occurrences x y 0 x.length 1).isEmpty) = false from h]; exact hq
end
theorem escL_ge (l : List Nat) : l.length ≤ (escL l).length := by
  induction l with
  | nil => simp
  | cons c r ih =>
    have : escL (c :: r) = (if spec c = true then [92, c] else [c]) ++ escL r := rfl
    rw [this, List.length_append, List.length_cons]
    split <;> simp <;> omega
theorem contains_S (b : List Nat) (c : Nat) : Txt.contains (S b) (S [c]) = decide (c ∈ b) := by
  have := StrLaws.found_one (S b) c
  rw [S_cps] at this
  exact this
end Mine
end secMTxt
section secMCell
open PySem PySem.W PyProof.Rows PySem.Calls PySem.Spec
namespace Mine
section
variable {prog : Program} {w : World} {A : Around} {s : Shared}
  {R : Result → Shared → Prop} {name qual : Str} {params : Arguments} {body : List Stmt} {scope : Scope} {dV kV doc pm cdv ct : Value} {an : Option Addr} {fo : Obj} {f : Addr} {args : Args} {binds : List (Str × Value)}
/-- a def whose locals are captured, entered from the caller's own heap -/
theorem call_cells (ho : s.heap.get? f = some fo) (hd : fo.data = .func (fnX name qual params body scope [] dV kV doc pm an cdv ct)) (hlim : s.heap.NoLimit) (hcd : s.heap.CodeRec cdv qual) (hroom : A.depth < recursionLimit)
    (hbind : BindsTo s (fnX name qual params body scope [] dV kV doc pm an cdv ct) args binds)
    (hkind : (binds.all fun y => scope.names.lookup y.1 == some .local || scope.names.lookup y.1 == some .cell) = true)
    (hnd : ((cellsFrom 0 scope.names []).map (·.1)).Nodup)
    (h : ∀ h₁ tk cells, Fr s.heap s.heap.objs.size h₁ (bindL (envOfC qual scope s.heap.objs.size f cdv).kindOf binds fun _ => none) → News s.heap s.heap.objs.size h₁ cells →
      CellsAre (bindC (envOfC qual scope s.heap.objs.size f cdv).kindOf binds fun _ => none) (cellsFrom (s.heap.objs.size + 1) scope.names []) cells →
      wpAny (model prog w) (A.deeper (envOfC qual scope s.heap.objs.size f cdv)) (execs body (envOfC qual scope s.heap.objs.size f cdv))
        (fun fl s' => R (.ok (.ret (match fl with | .ret v => v | _ => .none))) s') (fun _ _ => False)
        { s with heap := h₁, toks := tk })
    (hco : scope.isCoroutine = false := by rfl) (hgen : scope.isGenerator = false := by rfl) (hk : scope.kind = .function := by rfl) : codeAny (model prog w) A (.call (.ref f) args) R s := by
  refine codeAny_call_function hroom ho hd hco hgen rfl hcd (hbind _ _ _ _ ?_)
  refine wpAny_newFunctionEnv_cells hk (kindsX hkind _) fun env' he s' x => ?_
  subst he
  refine ⟨hlim.keeps x.toInCall.keep, codeAny_func ?_⟩
  obtain ⟨h₁, tk, rfl, _⟩ := x.done
  have hk₁ := x.toInCall.keep
  obtain ⟨cells, NC, Y⟩ := Cl.news (h₀ := s.heap) (Nat.le_refl _) fun n c hm => ⟨x.cell n c (lookup_of_mem_nodup (cellsFrom_names scope.names 0 (s.heap.objs.size + 1) [] [] rfl ▸ hnd) hm), x.above n c hm⟩
  exact wpAny_mono (h h₁ tk cells ⟨x.toInCall.ns, fun b o e => hk₁ b o e, Nat.le_refl _⟩ NC Y) (fun fl s' hl => hl) fun _ _ y => y.elim
theorem call_cellsK {K : Frag} {oc : Value} {od : Option Addr} {osl : Array (Option Value)} (X : K.In s.heap) (ho : K.lookup f = some ⟨oc, od, .func (fnOf name qual params body scope dV kV doc pm an cdv ct), osl⟩) (hcd : codeIn K cdv qual = true) (hlim : s.heap.NoLimit) (hroom : A.depth < recursionLimit)
    (hbind : BindsTo s (fnOf name qual params body scope dV kV doc pm an cdv ct) args binds)
    (hkind : (binds.all fun y => scope.names.lookup y.1 == some .local || scope.names.lookup y.1 == some .cell) = true)
    (hnd : ((cellsFrom 0 scope.names []).map (·.1)).Nodup)
    (h : ∀ h₁ tk cells, Fr s.heap s.heap.objs.size h₁ (bindL (envOfC qual scope s.heap.objs.size f cdv).kindOf binds fun _ => none) → News s.heap s.heap.objs.size h₁ cells →
      CellsAre (bindC (envOfC qual scope s.heap.objs.size f cdv).kindOf binds fun _ => none) (cellsFrom (s.heap.objs.size + 1) scope.names []) cells →
      wpAny (model prog w) (A.deeper (envOfC qual scope s.heap.objs.size f cdv)) (execs body (envOfC qual scope s.heap.objs.size f cdv))
        (fun fl s' => R (.ok (.ret (match fl with | .ret v => v | _ => .none))) s') (fun _ _ => False)
        { s with heap := h₁, toks := tk })
    (hco : scope.isCoroutine = false) (hgen : scope.isGenerator = false) (hk : scope.kind = .function) : codeAny (model prog w) A (.call (.ref f) args) R s :=
  call_cells (X _ _ ho) rfl hlim (codeRec_of X hcd) hroom hbind hkind hnd h hco hgen hk
/-- the same, with one list of the caller's that is none of the base's -/
theorem call_cellsH {K : Frag} {oc : Value} {od : Option Addr} {osl : Array (Option Value)} {h₀ : Heap} {l : Addr} {ol : Obj} (X : K.In h₀) (hkeep : ∀ b o, h₀.get? b = some o → s.heap.get? b = some o) (hl : s.heap.get? l = some ol) (hl0 : h₀.get? l = none)
    (ho : K.lookup f = some ⟨oc, od, .func (fnOf name qual params body scope dV kV doc pm an cdv ct), osl⟩) (hcd : codeIn K cdv qual = true) (hlim : h₀.NoLimit) (hroom : A.depth < recursionLimit)
    (hbind : BindsTo s (fnOf name qual params body scope dV kV doc pm an cdv ct) args binds)
    (hkind : (binds.all fun y => scope.names.lookup y.1 == some .local || scope.names.lookup y.1 == some .cell) = true)
    (hnd : ((cellsFrom 0 scope.names []).map (·.1)).Nodup)
    (h : ∀ g h₁ tk cells, (∀ b o, h₀.get? b = some o → g.get? b = some o) → (∀ b o, b ≠ l → s.heap.get? b = some o → g.get? b = some o) → (@LT.lt Nat _ l s.heap.objs.size) → Fr g s.heap.objs.size h₁ (bindL (envOfC qual scope s.heap.objs.size f cdv).kindOf binds fun _ => none) → News g s.heap.objs.size h₁ (cells ++ [(l, ol)]) →
      CellsAre (bindC (envOfC qual scope s.heap.objs.size f cdv).kindOf binds fun _ => none) (cellsFrom (s.heap.objs.size + 1) scope.names []) cells →
      wpAny (model prog w) (A.deeper (envOfC qual scope s.heap.objs.size f cdv)) (execs body (envOfC qual scope s.heap.objs.size f cdv))
        (fun fl s' => R (.ok (.ret (match fl with | .ret v => v | _ => .none))) s') (fun _ _ => False)
        { s with heap := h₁, toks := tk })
    (hco : scope.isCoroutine = false) (hgen : scope.isGenerator = false) (hk : scope.kind = .function) : codeAny (model prog w) A (.call (.ref f) args) R s := by
  refine codeAny_call_function hroom (hkeep _ _ (X _ _ ho)) rfl hco hgen rfl (codeRec_of (X.keeps hkeep) hcd) (hbind _ _ _ _ ?_)
  refine wpAny_newFunctionEnv_cells hk (kindsX hkind _) fun env' he s' x => ?_
  subst he
  refine ⟨(hlim.keeps hkeep).keeps x.toInCall.keep, codeAny_func ?_⟩
  obtain ⟨h₁, tk, rfl, _⟩ := x.done
  have hk₁ := x.toInCall.keep
  obtain ⟨cells, NC, Y⟩ := Cl.news (h₀ := s.heap) (Nat.le_refl _) fun n c hm => ⟨x.cell n c (lookup_of_mem_nodup (cellsFrom_names scope.names 0 (s.heap.objs.size + 1) [] [] rfl ▸ hnd) hm), x.above n c hm⟩
  refine wpAny_mono (h (hideAll s.heap [l]) h₁ tk cells (fun b o e => hideAll_get _ (hkeep b o e) fun q => ?_) (fun b o hb e => hideAll_get _ e fun q => hb (List.mem_singleton.mp q)) (Heap.lt_size hl) ⟨x.toInCall.ns, fun b o e => hk₁ b o (of_hideAll _ e), Nat.le_of_eq (hideAll_size _ _)⟩ (fun p hp => ?_) Y) (fun fl s' hl => hl) fun _ _ y => y.elim
  · rw [List.mem_singleton.mp q, hl0] at e; cases e
  · rcases List.mem_append.mp hp with hp | hp
    · refine ⟨(NC p hp).1, (NC p hp).2.1, ?_⟩
      cases q : (hideAll s.heap [l]).get? p.1 with
      | none => rfl
      | some o => have := of_hideAll _ q; rw [(NC p hp).2.2] at this; cases this
    · rw [List.mem_singleton.mp hp]
      exact ⟨hk₁ _ _ hl, Nat.ne_of_lt (Heap.lt_size hl), hideAll_none _ (List.mem_singleton.mpr rfl)⟩
end
end Mine
end secMCell
section secMComp2
open PySem PySem.W PyProof.Rows PySem.Calls PySem.Spec PyProof.Rows.LCg PyProof.Rows.LCt
namespace Mine
noncomputable abbrev comp2 (x y : Str) (px py pe : Pos) (iter iter2 : PySem.Expr) (scope : Scope) (pos : Pos) : PySem.Expr :=
  .ListComp (.Name y pe) [⟨.Name x px, iter, [], 0⟩, ⟨.Name y py, iter2, [], 0⟩] scope pos
theorem compTurn_outer (x y : Str) (px py pe : Pos) (iter iter2 : PySem.Expr) (scope : Scope) (pos : Pos) (it acc : Value) (env : Env) :
    compTurn (comp2 x y px py pe iter iter2 scope pos) 0 it acc env = (standAt iter.pos >>= fun _ => pyNext it >>= fun r => match r with
      | none => pure (.done .next)
      | some v => letOwnedTupleGo (.Name x px) it v >>= fun _ => assign (.Name x px) env v >>= fun _ =>
        eval iter2 env >>= fun z => standAt iter2.pos >>= fun _ => foldedSetIterable iter2 env z >>= fun z => holding [z] (pyIter z) >>= fun i => runOwn (.compStart (comp2 x y px py pe iter iter2 scope pos) 1 i acc env) env >>= fun _ =>
          again (.compLoop (comp2 x y px py pe iter iter2 scope pos) 0 it acc env)) := by rfl
theorem compTurn_inner (x y : Str) (px py pe : Pos) (iter iter2 : PySem.Expr) (scope : Scope) (pos : Pos) (it acc : Value) (env : Env) :
    compTurn (comp2 x y px py pe iter iter2 scope pos) 1 it acc env = (standAt iter2.pos >>= fun _ => pyNext it >>= fun r => match r with
      | none => pure (.done .next)
      | some v => letOwnedTupleGo (.Name y py) it v >>= fun _ => assign (.Name y py) env v >>= fun _ =>
        (eval (.Name y pe) env >>= fun z => call (.builtin "list.append") [acc, z] >>= fun _ => pure ()) >>= fun _ =>
          again (.compLoop (comp2 x y px py pe iter iter2 scope pos) 1 it acc env)) := by rfl
section
variable {prog : Program} {w : World} {A : Around} {E : Value → Shared → Prop} {R : Result → Shared → Prop} {s : Shared} {x y : Str} {px py pe : Pos} {iter iter2 : PySem.Expr} {scope : Scope} {pos : Pos}
theorem codeAny_inner {it acc : Value} {env : Env} (I : Nat → Shared → Prop)
    (turn : ∀ n s, I n s → wpAny (model prog w) A (pyNext it) (fun r s₁ => match r with
      | none => R (.ok .next) s₁
      | some v => wpAny (model prog w) A (assign (.Name y py) env v) (fun _ s₂ => wpAny (model prog w) A (eval (.Name y pe) env) (fun z s₃ =>
          wpAny (model prog w) A (call (.builtin "list.append") [acc, z]) (fun _ s₄ => ∃ m, m < n ∧ I m s₄) (notedBy (model prog w) A env fun e s' => R (.error e) s') s₃)
          (notedBy (model prog w) A env fun e s' => R (.error e) s') s₂) (notedBy (model prog w) A env fun e s' => R (.error e) s') s₁) (notedBy (model prog w) A env fun e s' => R (.error e) s') s)
    (n : Nat) (h : I n s) : codeAny (model prog w) A (.compLoop (comp2 x y px py pe iter iter2 scope pos) 1 it acc env) R s := by
  refine codeAny_loop rfl I (fun n s hI => ?_) n h
  show wpAny _ _ ((compTurn (comp2 x y px py pe iter iter2 scope pos) 1 it acc env).onRaise (fun x => do noteFrame x env; theTreesLotGoes x)) _ _ s
  refine wpAny_noted ?_
  rw [compTurn_inner]
  refine wpAny_bind (wpAny_standAt (wpAny_bind (wpAny_mono (turn n s hI) (fun r s₁ h₁ => ?_) fun _ _ h' => h')))
  cases r with
  | none => exact wpAny_pure h₁
  | some v =>
    refine wpAny_bind (wpAny_of_eq (show letOwnedTupleGo (.Name y py) it v = pure () from rfl) ?_)
    exact wpAny_bind (wpAny_mono h₁ (fun _ s₂ h₂ => wpAny_bind (wpAny_bind (wpAny_mono h₂ (fun x s₃ h₃ => wpAny_bind (wpAny_mono h₃
      (fun _ s₄ h₄ => wpAny_pure (wpAny_pure ⟨rfl, h₄⟩)) fun _ _ h' => h')) fun _ _ h' => h'))) fun _ _ h' => h')
theorem codeAny_start1 {it acc : Value} {env : Env}
    (h0 : codeAny (model prog w) A (.compLoop (comp2 x y px py pe iter iter2 scope pos) 1 it acc env) R s)
    (h : wpAny (model prog w) A (pyIter it) (fun it' s' => codeAny (model prog w) A (.compLoop (comp2 x y px py pe iter iter2 scope pos) 1 it' acc env) R s')
      (notedBy (model prog w) A env fun x s' => R (.error x) s') s) :
    codeAny (model prog w) A (.compStart (comp2 x y px py pe iter iter2 scope pos) 1 it acc env) R s := by
  refine codeAny_of_tree ?_
  show wpAny _ _ ((compStart (comp2 x y px py pe iter iter2 scope pos) 1 it acc env).onRaise (fun x => do noteFrame x env; standAt theWindowsPlace)) _ _ s
  refine wpAny_notedAt ?_
  unfold compStart
  show wpAny _ _ (ask >>= _) _ _ s
  refine wpAny_bind (wpAny_askSetting (wpAny_ite ?_))
  split
  · first
      | exact wpAny_bind (wpAny_pure (wpAny_pure (And.intro rfl h0)))
      | exact wpAny_pure (And.intro rfl h0)
  · first
      | exact wpAny_bind (wpAny_rule (wpAny_bind (wpAny_standAt (wpAny_bind (wpAny_mono h (fun it' s' h' => wpAny_pure (And.intro rfl h')) fun _ _ x => x)))))
      | (refine wpAny_bind (wpAny_rule ?_); show wpAny _ _ (standAt iter2.pos >>= _) _ _ s; exact wpAny_bind (wpAny_standAt (wpAny_bind (wpAny_mono h (fun it' s' h' => wpAny_pure (And.intro rfl h')) fun _ _ x => x))))
theorem codeAny_outer {it acc : Value} {env : Env} (I : Nat → Shared → Prop)
    (turn : ∀ n s, I n s → wpAny (model prog w) A (pyNext it) (fun r s₁ => match r with
      | none => R (.ok .next) s₁
      | some v => wpAny (model prog w) A (assign (.Name x px) env v) (fun _ s₂ => wpAny (model prog w) A (eval iter2 env) (fun z s₃ =>
          wpAny (model prog w) A (pyIter z) (fun i s₄ => codeAny (model prog w) (A.mark none) (.compStart (comp2 x y px py pe iter iter2 scope pos) 1 i acc env)
            (fun r s₅ => match r with | .ok _ => ∃ m, m < n ∧ I m s₅ | .error e => cameBackBy (model prog w) A env (notedBy (model prog w) A env fun e s' => R (.error e) s') e s₅) s₄) (notedBy (model prog w) A env fun e s' => R (.error e) s') s₃)
          (notedBy (model prog w) A env fun e s' => R (.error e) s') s₂) (notedBy (model prog w) A env fun e s' => R (.error e) s') s₁) (notedBy (model prog w) A env fun e s' => R (.error e) s') s)
    (n : Nat) (h : I n s) (hs : ∀ z, foldedSetIterable iter2 env z = pure z) : codeAny (model prog w) A (.compLoop (comp2 x y px py pe iter iter2 scope pos) 0 it acc env) R s := by
  refine codeAny_loop rfl I (fun n s hI => ?_) n h
  show wpAny _ _ ((compTurn (comp2 x y px py pe iter iter2 scope pos) 0 it acc env).onRaise (fun x => do noteFrame x env; theTreesLotGoes x)) _ _ s
  refine wpAny_noted ?_
  rw [compTurn_outer]
  refine wpAny_bind (wpAny_standAt (wpAny_bind (wpAny_mono (turn n s hI) (fun r s₁ h₁ => ?_) fun _ _ h' => h')))
  cases r with
  | none => exact wpAny_pure h₁
  | some v =>
    refine wpAny_bind (wpAny_of_eq (show letOwnedTupleGo (.Name x px) it v = pure () from rfl) ?_)
    refine wpAny_bind (wpAny_mono h₁ (fun _ s₂ h₂ => wpAny_bind (wpAny_mono h₂ (fun z s₃ h₃ => wpAny_bind (wpAny_standAt (wpAny_bind (wpAny_of_eq (hs z) (wpAny_bind (wpAny_holding (wpAny_mono h₃
      (fun i s₄ h₄ => wpAny_bind (wpAny_runOwn (codeAny_mono h₄ fun r s₅ h₅ => ?_))) fun _ _ h' => h'))))))) fun _ _ h' => h')) fun _ _ h' => h')
    cases r with
    | ok f => exact wpAny_pure ⟨rfl, h₅⟩
    | error e => exact h₅
/-- the inner loop: what the inner walk gives is put to the list's end -/
theorem inner_loop {J D C : Addr} {n : Nat} {P : Nat → Value → Prop} {St : Nat → Heap → Prop} {ys : List Value} {m : Str → Option Value} {env : Env} (W : Walks prog w A J [J] [J] n P St) (hst : St 0 s.heap) (hD : s.heap.get? D = some (lst ys)) (hn : s.heap.Ns C m)
    (hDC : D ≠ C) (hJD : J ≠ D) (hJC : J ≠ C) (hsz : ys.length + n ≤ sizeLine) (hC : env.locals = C) (hy : env.kindOf y = some .local) (hk : env.scope.kind = .function) (hyd : (y == ("__debug__" : Str)) = false)
    (hR : ∀ h' tk us m', us.length = n → (∀ (j : Nat) u, us[j]? = some u → P j u) → h'.get? D = some (lst (ys ++ us)) → h'.Ns C m' → (∀ b o, b ≠ J → b ≠ D → b ≠ C → s.heap.get? b = some o → h'.get? b = some o) → R (.ok .next) { s with heap := h', toks := tk }) :
    codeAny (model prog w) A (.compStart (comp2 x y px py pe iter iter2 scope pos) 1 (.ref J) (.ref D) env) R s := by
  have loop : codeAny (model prog w) A (.compLoop (comp2 x y px py pe iter iter2 scope pos) 1 (.ref J) (.ref D) env) R s := by
    refine codeAny_inner (fun k s' => ∃ h' tk i us m', s' = { s with heap := h', toks := tk } ∧ i ≤ n ∧ k = n + 1 - i ∧ us.length = i ∧ (∀ (j : Nat) u, us[j]? = some u → P j u) ∧ St i h' ∧ h'.get? D = some (lst (ys ++ us)) ∧ h'.Ns C m' ∧ ∀ b o, b ≠ J → b ≠ D → b ≠ C → s.heap.get? b = some o → h'.get? b = some o) ?_ (n + 1)
      ⟨s.heap, s.toks, 0, [], m, rfl, Nat.zero_le _, rfl, rfl, (fun j u h => by cases h), hst, by rw [List.append_nil]; exact hD, hn, fun _ _ _ _ _ e => e⟩
    rintro k s' ⟨h', tk, i, us, m', rfl, hi, rfl, hul, hP, hst', hD', hn', hkp⟩
    by_cases hlt : i < n
    · refine W.item i _ _ _ hlt hst' fun v h₂ tk₂ hPv hst₂ hk₂ => ?_
      have hn₂ : h₂.Ns C m' := hn'.at' fun o e => hk₂ _ o (by simpa using Ne.symm hJC) e
      have hD₂ : h₂.get? D = some (lst (ys ++ us)) := hk₂ _ _ (by simpa using Ne.symm hJD) hD'
      subst hC
      refine wpAny_assign_Name (wpAny_storeName_local hy hn₂ (fun h₃ hn₃ hs₃ => ?_) (by rw [hk]; rfl))
      refine wpAny_Name (wpAny_loadName_local hk hy hn₃ (if_pos rfl) ?_) hyd
      have hD₃ : h₃.get? D = some (lst (ys ++ us)) := hs₃.extBut _ _ hDC hD₂
      refine append_at (hsz := by show (ys ++ us).toArray.size ≤ sizeLine; rw [List.size_toArray, List.length_append]; omega) hD₃ fun h₄ hs₄ hD₄ => ?_
      refine ⟨n + 1 - (i + 1), by omega, h₄, _, i + 1, us ++ [v], _, rfl, hlt, rfl, by rw [List.length_append, hul]; rfl, ?_, ?_, ?_, hn₃.sameBut hs₄ (Ne.symm hDC), ?_⟩
      · intro j u hj
        rcases Nat.lt_or_ge j us.length with h | h
        · rw [List.getElem?_append_left h] at hj; exact hP j u hj
        · rw [List.getElem?_append_right h] at hj
          have hj0 : j - us.length = 0 := by
            rcases Nat.eq_zero_or_pos (j - us.length) with h0 | h0
            · exact h0
            · rw [List.getElem?_eq_none (by simp; omega)] at hj; cases hj
          rw [hj0] at hj
          cases hj
          have : j = i := by omega
          rw [this]; exact hPv
      · refine W.frame _ _ _ hst₂ fun b hb o e => ?_
        have hbJ : b = J := List.mem_singleton.mp hb
        subst hbJ
        exact hs₄.extBut _ _ hJD (hs₃.extBut _ _ hJC e)
      · rw [hD₄, ← List.append_assoc]; exact congrArg some (lst_snoc (ys ++ us) v)
      · intro b o h1 h2 h3 e
        exact hs₄.extBut _ _ h2 (hs₃.extBut _ _ h3 (hk₂ b o (by simpa using h1) (hkp b o h1 h2 h3 e)))
    · obtain rfl : i = n := by omega
      refine W.done _ _ _ hst' fun h₂ tk₂ hk₂ => ?_
      exact hR h₂ tk₂ us m' hul hP (hk₂ _ _ (by simpa using Ne.symm hJD) hD') (hn'.at' fun o e => hk₂ _ o (by simpa using Ne.symm hJC) e) fun b o h1 h2 h3 e => hk₂ b o (by simpa using h1) (hkp b o h1 h2 h3 e)
  exact codeAny_start1 loop (W.self 0 _ _ _ hst loop)
end
end Mine
end secMComp2
section secMComp3
open PySem PySem.W PyProof.Rows PySem.Calls PySem.Spec PyProof.Rows.LCg PyProof.Rows.LCt
namespace Mine
/-- a step that leaves the frame and the ledger as they stand -/
noncomputable def Quiet (h₀ : Heap) (L : Addr) (m : Str → Option Value) (led : List (Addr × Obj)) (s s' : Shared) : Prop := ∃ h' tk, s' = { s with heap := h', toks := tk } ∧ Fr h₀ L h' m ∧ News h₀ L h' led
theorem Quiet.of {h₀ : Heap} {L : Addr} {m : Str → Option Value} {led led' : List (Addr × Obj)} {s : Shared} {h' : Heap} {tk : Nat} (F : Fr h₀ L h' m) (N : News h₀ L h' led') (hs : ∀ p ∈ led, p ∈ led') : Quiet h₀ L m led s { s with heap := h', toks := tk } := ⟨h', tk, rfl, F, fun p hp => N p (hs p hp)⟩
/-- the source of a comprehension -/
noncomputable def SrcIs (h₀ : Heap) (L : Addr) (m : Str → Option Value) (news : List (Addr × Obj)) (s : Shared) (ax : Addr) (vs : List Value) (xv : Value) (s₁ : Shared) : Prop := xv = .ref ax ∧ Quiet h₀ L m news s s₁ ∧ SrcAt h₀ ax vs.toArray news
/-- what a test must answer -/
noncomputable def TestIs (b : Bool) (Y N : Shared → Prop) (ok : Bool) (s' : Shared) : Prop := ok = b ∧ if ok = true then Y s' else N s'
/-- what an element must be -/
noncomputable def EltIs (h₀ : Heap) (L : Addr) (m : Str → Option Value) (led : List (Addr × Obj)) (s : Shared) (k : Int) (z : Value) (s' : Shared) : Prop := (∃ t', z = .int k t') ∧ Quiet h₀ L m led s s'
theorem IntsAre.take {vs : List Value} {ns : List Int} (h : IntsAre vs ns) : ∀ i, IntsAre (vs.take i) (ns.take i) := by
  induction h with
  | nil => intro i; simp; exact .nil
  | cons n t _ ih => intro i; cases i with
    | zero => simp; exact .nil
    | succ i => simp only [List.take_succ_cons]; exact .cons n t (ih i)
theorem IntsAre.append' {vs us : List Value} {ns ms : List Int} (h : IntsAre vs ns) (h2 : IntsAre us ms) : IntsAre (vs ++ us) (ns ++ ms) := by
  induction h with
  | nil => exact h2
  | cons n t _ ih => exact .cons n t ih
theorem intsAre_of : ∀ (us : List Value) (ms : List Int), us.length = ms.length → (∀ (j : Nat) u, us[j]? = some u → ∃ t n, ms[j]? = some n ∧ u = .int n t) → IntsAre us ms
  | [], [], _, _ => .nil
  | u :: us, n :: ms, hl, h => by
    obtain ⟨t, n', hn, rfl⟩ := h 0 u rfl
    cases hn
    exact .cons _ _ (intsAre_of us ms (by simpa using hl) fun j u hu => h (j + 1) u hu)
  | [], _ :: _, hl, _ => by simp at hl
  | _ :: _, [], hl, _ => by simp at hl
section
variable {prog : Program} {w : World} {A : Around} {E : Value → Shared → Prop} {s : Shared} {h₀ : Heap} {L : Addr} {m : Str → Option Value} {env : Env}
theorem rest1 {ct elt : PySem.Expr} {x : Str} {scope : Scope} {cl : List (Str × Addr)} {ax : Addr} {vs : List Value} {ns : List Int} {news : List (Addr × Obj)} {Fin : List Value → List (Addr × Obj) → Prop} (p : Int → Bool) (f : Int → Int) (hi : IntsAre vs ns) (hS : SrcAt h₀ ax vs.toArray news)
    (turn : ∀ n t I oI C oC D oD m₂ h tk (E' : Value → Shared → Prop), n ∈ ns → NsObj oC m₂ → m₂ x = some (.int n t) → Fr h₀ L h m → News h₀ L h ((I, oI) :: (C, oC) :: (D, oD) :: news) → (∀ q ∈ news, q.1 ≠ I ∧ q.1 ≠ C ∧ q.1 ≠ D) → ((@Ne Nat I C) ∧ (@Ne Nat I D) ∧ (@Ne Nat C D)) →
      wpAny (model prog w) A (isTrue ct (compEnvC scope cl C env) (eval ct (compEnvC scope cl C env))) (TestIs (p n) (fun s' => wpAny (model prog w) A (eval elt (compEnvC scope cl C env)) (EltIs h₀ L m ((I, oI) :: (C, oC) :: (D, oD) :: news) { s with heap := h, toks := tk } (f n)) E' s') (Quiet h₀ L m ((I, oI) :: (C, oC) :: (D, oD) :: news) { s with heap := h, toks := tk })) E' { s with heap := h, toks := tk })
    (fin : ∀ ys, IntsAre ys ((ns.filter p).map f) → Fin ys news) :
    ∀ (k i : Nat) (ys : List Value), i + k = ns.length → IntsAre ys (((ns.take i).filter p).map f) → CompRestT prog w A h₀ L m env ct elt x scope cl s (SrcAt h₀ ax vs.toArray) (fun i v => vs.toArray[i]? = some v) Fin k i ys news := by
  intro k
  induction k with
  | zero =>
    intro i ys hk hy
    refine CompRestT.zero (fin ys ?_)
    rw [show i = ns.length by omega, List.take_length] at hy
    exact hy
  | succ k ih =>
    intro i ys hk hy
    refine CompRestT.succ fun v I oI C oC D m₂ h tk E' hv hC hx F N off ne => ?_
    have hlt : i < ns.length := by omega
    obtain ⟨t, ht⟩ := hi.get i ns[i] (List.getElem?_eq_getElem hlt)
    have hvv : v = .int ns[i] t := by
      have hv' : vs[i]? = some v := by rw [List.getElem?_toArray] at hv; exact hv
      rw [ht] at hv'; exact (Option.some.inj hv').symm
    subst hvv
    have hs : ns.take (i + 1) = ns.take i ++ [ns[i]] := by rw [List.take_add_one, List.getElem?_eq_getElem hlt]; rfl
    refine wpAny_mono (turn ns[i] t I oI C oC D (lst ys) m₂ h tk E' (List.getElem_mem _) hC hx F N off.mem ne) (fun ok s' h1 => ?_) fun _ _ e => e
    obtain ⟨hok, h1⟩ := h1
    cases ok with
    | true =>
      simp only [if_true] at h1 ⊢
      refine wpAny_mono h1 (fun z s'' h2 => ?_) fun _ _ e => e
      obtain ⟨⟨t', rfl⟩, h', tk', rfl, F', N'⟩ := h2
      refine ⟨h', tk', news, rfl, F', N', off, hS, ih (i + 1) _ (by omega) ?_⟩
      rw [hs, List.filter_append, List.filter_cons_of_pos (by rw [← hok]), List.filter_nil, List.map_append]
      exact IntsAre.append' hy (.cons _ _ .nil)
    | false =>
      simp only [Bool.false_eq_true, if_false] at h1 ⊢
      obtain ⟨h', tk', rfl, F', N'⟩ := h1
      refine ⟨h', tk', news, rfl, F', N', off, hS, ih (i + 1) _ (by omega) ?_⟩
      rw [hs, List.filter_append, List.filter_cons_of_neg (by rw [← hok]; decide), List.filter_nil, List.append_nil]
      exact hy
/-- y = [elt for x in src if ct], of ints to ints -/
theorem comp1_ints {ct elt iter : PySem.Expr} {x y : Str} {px py : Pos} {scope : Scope} {cl : List (Str × Addr)} {pos spos : Pos} {Q : Flow → Shared → Prop} {ax : Addr} {vs : List Value} {ns : List Int} {news : List (Addr × Obj)} (p : Int → Bool) (f : Int → Int)
    (hh : A.handled = none) (F₀ : Fr h₀ L s.heap m) (_N₀ : News h₀ L s.heap news) (hLe : env.locals = L) (hi : IntsAre vs ns) (hsz : ns.length ≤ 16777216)
    (hsw : swapsWith (.ListComp elt [⟨.Name x px, iter, [ct], 0⟩] scope pos) (some (.Name y py)) spos.line env = pure true)
    (hclos : closureFor scope env = pure cl) (hcell : ∀ z ∈ scope.names, z.2 ≠ .cell) (hkind : scope.kind = .function)
    (hnames : ∀ z ∈ scope.names, z.2 = .local → scope.names.lookup z.1 = some .local) (hx : scope.names.lookup x = some .local)
    (hy : env.kindOf y = some .local) (hp : (env.scope.kind == .class || (env.scope.kind == .module && env.locals != env.globals)) = false)
    (hiter : wpAny (model prog w) A (eval iter env) (SrcIs h₀ L m news s ax vs) E s)
    (turn : ∀ n t I oI C oC D oD m₂ h tk (E' : Value → Shared → Prop), n ∈ ns → NsObj oC m₂ → m₂ x = some (.int n t) → Fr h₀ L h m → News h₀ L h ((I, oI) :: (C, oC) :: (D, oD) :: news) → (∀ q ∈ news, q.1 ≠ I ∧ q.1 ≠ C ∧ q.1 ≠ D) → ((@Ne Nat I C) ∧ (@Ne Nat I D) ∧ (@Ne Nat C D)) →
      wpAny (model prog w) A (isTrue ct (compEnvC scope cl C env) (eval ct (compEnvC scope cl C env))) (TestIs (p n) (fun s' => wpAny (model prog w) A (eval elt (compEnvC scope cl C env)) (EltIs h₀ L m ((I, oI) :: (C, oC) :: (D, oD) :: news) { s with heap := h, toks := tk } (f n)) E' s') (Quiet h₀ L m ((I, oI) :: (C, oC) :: (D, oD) :: news) { s with heap := h, toks := tk })) E' { s with heap := h, toks := tk })
    (fin : ∀ D ys h tk, IntsAre ys ((ns.filter p).map f) → Fr h₀ L h (fun z => if z = y then some (.ref D) else m z) → News h₀ L h ((D, lst ys) :: news) → (∀ q ∈ news, q.1 ≠ D) → Q .next { s with heap := h, toks := tk })
    (hs : ∀ x, foldedSetIterable iter env x = pure x := by intro _; rfl) :
    wpAny (model prog w) A (exec (.Assign [.Name y py] (.ListComp elt [⟨.Name x px, iter, [ct], 0⟩] scope pos) spos) env) Q E s := by
  refine Assign_ListComp_T F₀ hLe hsw hclos hcell hkind hnames hx hy hp (wpAny_mono hiter (fun xv s₁ h₁ => ?_) fun _ _ e => e) hs
  obtain ⟨rfl, ⟨h₁, tk₁, rfl, F₁, N₁⟩, hS⟩ := h₁
  refine .inl ⟨ax, vs.toArray, news, rfl, hh, F₁, N₁, hS, by rw [List.size_toArray, hi.length]; rw [sizeLine_eq]; exact hsz, ?_⟩
  rintro s₂ ⟨g, rfl⟩
  have hlen : vs.toArray.size = ns.length := by rw [List.size_toArray, hi.length]
  rw [hlen]
  refine rest1 (s := ⟨g, s.gens, s.drawn, tk₁, s.os⟩) (Fin := FinA h₀ L m ⟨g, s.gens, s.drawn, tk₁, s.os⟩ y Q) p f hi hS (fun n t I oI C oC D oD m₂ h tk E' hn hC hx F N off ne => turn n t I oI C oC D oD m₂ h tk E' hn hC hx F N off ne) (fun ys hys D h tk F N off => fin D ys h tk hys F N ?_) ns.length 0 [] (by omega) .nil
  intro q hq
  have : ∀ {l : List (Addr × Obj)}, Off1 D l → ∀ p ∈ l, p.1 ≠ D := by
    intro l
    induction l with
    | nil => intro _ p hp; cases hp
    | cons a r ih =>
      intro o p hp
      rcases List.mem_cons.mp hp with rfl | hp
      · exact o.1
      · exact ih o.2 p hp
  exact this off q hq
/-- what an inner range of a comprehension must be -/
noncomputable def RangeIs (h₀ : Heap) (L : Addr) (m : Str → Option Value) (led : List (Addr × Obj)) (s : Shared) (ks : List Int) (xv : Value) (s' : Shared) : Prop :=
  ∃ (r : Addr) (a b st : Int) (t u v : Tok), xv = .ref r ∧ Quiet h₀ L m led s s' ∧ IsRange s'.heap r a b st t u v ∧ Builtin.Range.small a b st = true ∧ Builtin.Range.rangeSize a b st = (ks.length : Int) ∧ ∀ (j : Nat) k, ks[j]? = some k → k = a + j * st
theorem block2 {iter iter2 : PySem.Expr} {x y : Str} {px py pe : Pos} {scope : Scope} {cl : List (Str × Addr)} {pos : Pos} {s₂ : Shared} {I ax : Addr} {vs : List Value} {ns : List Int} {news : List (Addr × Obj)} (g : Int → List Int) {RR : Value → Addr → Result → Shared → Prop}
    (hh : A.handled = none) (hh' : (A.mark none).handled = none) (hi : IntsAre vs ns) (hne : ax ≠ I) (hsz : (ns.flatMap g).length ≤ sizeLine)
    (hcell : ∀ y ∈ scope.names, y.2 ≠ .cell) (hkind : scope.kind = .function) (hx : scope.names.lookup x = some .local) (hy : scope.names.lookup y = some .local) (hyd : (y == ("__debug__" : Str)) = false)
    (hst : s₂.heap.IsListIter I ax 0 ∧ s₂.heap.IsList ax vs.toArray)
    (F : Fr h₀ L s₂.heap m) (N : News h₀ L s₂.heap news) (hIL : L ≠ I) (hI₀ : h₀.get? I = none) (off : ∀ p ∈ news, p.1 ≠ I) (hS : SrcAt h₀ ax vs.toArray news)
    (turn : ∀ n t I oI C oC D oD m₂ h tk (E' : Value → Shared → Prop), n ∈ ns → NsObj oC m₂ → m₂ x = some (.int n t) → Fr h₀ L h m → News h₀ L h ((I, oI) :: (C, oC) :: (D, oD) :: news) → (∀ q ∈ news, q.1 ≠ I ∧ q.1 ≠ C ∧ q.1 ≠ D) → ((@Ne Nat I C) ∧ (@Ne Nat I D) ∧ (@Ne Nat C D)) →
      wpAny (model prog w) A (eval iter2 (compEnvC scope cl C env)) (RangeIs h₀ L m ((I, oI) :: (C, oC) :: (D, oD) :: news) { s₂ with heap := h, toks := tk } (g n)) E' { s₂ with heap := h, toks := tk })
    (hs2 : ∀ C z, foldedSetIterable iter2 (compEnvC scope cl C env) z = pure z)
    (hRR : ∀ D C h tk m' ys, IntsAre ys (ns.flatMap g) → Fr h₀ L h m → News h₀ L h ((D, lst ys) :: news) → (∀ p ∈ news, p.1 ≠ D) → h.Ns C m' → h₀.get? C = none → h₀.get? D = none → C ≠ L → D ≠ L → C ≠ D → (∀ p ∈ news, p.1 ≠ C) → RR (.ref D) C (.ok .next) { s₂ with heap := h, toks := tk }) :
    wpAny (model prog w) A (newList []) (fun acc s₃ => wpAny (model prog w) A (newFunctionEnv scope env.globals cl [] env.qual none .none (some env)) (fun cenv s₄ =>
      codeAny (model prog w) A (.compStart (comp2 x y px py pe iter iter2 scope pos) 0 (.ref I) acc { cenv with scope := relabel scope env }) (RR acc cenv.locals) s₄) E s₃) E s₂ := by
  have W := Walks.list (prog := prog) (w := w) hh I ax hne vs.toArray
  have hlen : vs.toArray.size = ns.length := by rw [List.size_toArray, hi.length]
  rw [hlen] at W
  have hIlt : I < s₂.heap.objs.size := by obtain ⟨o, e, _⟩ := hst.1; exact Heap.lt_size e
  have hAlt : ax < s₂.heap.objs.size := by obtain ⟨o, e, _⟩ := hst.2; exact Heap.lt_size e
  refine wpAny_newObj_type (wpAny_newFunctionEnv hcell (by intro y hy; simp at hy) (fun h₁ hns₁ hsb₁ => ?_) hkind)
  dsimp only at hns₁ hsb₁ ⊢
  generalize hH2 : s₂.heap.push { cls := .type "list", dict := none, data := .seq ([] : List Value).toArray } = H2 at hns₁ hsb₁ ⊢
  have hC : H2.objs.size = s₂.heap.objs.size + 1 := by rw [← hH2, Heap.size_push]
  have hDC : s₂.heap.objs.size ≠ H2.objs.size := by rw [hC]; exact Nat.ne_of_lt (Nat.lt_succ_self _)
  have below : ∀ b, b < s₂.heap.objs.size → b ≠ H2.objs.size ∧ b ≠ s₂.heap.objs.size := fun b hb => ⟨by rw [hC]; exact Nat.ne_of_lt (Nat.lt_succ_of_lt hb), Nat.ne_of_lt hb⟩
  have old : ∀ b o, s₂.heap.get? b = some o → h₁.get? b = some o := fun b o e => hsb₁.extBut b o (below b (Heap.lt_size e)).1 (Heap.get?_push_of_some _ (hH2 ▸ Heap.get?_push_of_some _ e))
  have hacc : h₁.get? s₂.heap.objs.size = some (lst []) := hsb₁.extBut _ _ hDC (Heap.get?_push_of_some _ (hH2 ▸ Heap.get?_push_size _ rfl))
  have hst₁ : h₁.IsListIter I ax 0 ∧ h₁.IsList ax vs.toArray := W.frame _ _ _ hst fun b _ o e => old b o e
  have fresh : ∀ a, s₂.heap.objs.size ≤ a → s₂.heap.get? a = none := fun a ha => by
    cases e : s₂.heap.get? a with
    | none => rfl
    | some o' => exact absurd (Heap.lt_size e) (Nat.not_lt.mpr ha)
  have fresh₀ : ∀ a, s₂.heap.objs.size ≤ a → h₀.get? a = none := fun a ha => by
    cases e : h₀.get? a with
    | none => rfl
    | some o' => have := F.keep a o' e; rw [fresh a ha] at this; cases this
  have hD₀ : h₀.get? s₂.heap.objs.size = none := fresh₀ _ (Nat.le_refl _)
  have hC₀ : h₀.get? H2.objs.size = none := fresh₀ _ (by rw [hC]; exact Nat.le_succ _)
  have hLlt : L < s₂.heap.objs.size := F.ns.lt
  have hDL : s₂.heap.objs.size ≠ L := Ne.symm (below L hLlt).2
  have hCL : H2.objs.size ≠ L := Ne.symm (below L hLlt).1
  have hCI : I ≠ H2.objs.size := (below I hIlt).1
  have hDI : I ≠ s₂.heap.objs.size := (below I hIlt).2
  have off3 : ∀ p ∈ news, p.1 ≠ I ∧ p.1 ≠ H2.objs.size ∧ p.1 ≠ s₂.heap.objs.size := fun p hp => ⟨off p hp, (below _ (Heap.lt_size (N p hp).1)).1, (below _ (Heap.lt_size (N p hp).1)).2⟩
  have loop : ∀ s₃ : Shared, s₃ = { s₂ with heap := h₁, toks := s₂.toks + ([] : List (Str × Value)).length } →
      codeAny (model prog w) A (.compLoop (comp2 x y px py pe iter iter2 scope pos) 0 (.ref I) (.ref s₂.heap.objs.size) (compEnvC scope cl H2.objs.size env))
        (RR (.ref s₂.heap.objs.size) H2.objs.size) s₃ := by
    rintro s₃ rfl
    refine codeAny_outer
      (fun k s' => ∃ h' tk i ys m', s' = { s₂ with heap := h', toks := tk } ∧ i ≤ ns.length ∧ k = ns.length + 1 - i ∧ IntsAre ys ((ns.take i).flatMap g) ∧ (h'.IsListIter I ax i ∧ h'.IsList ax vs.toArray) ∧ Fr h₀ L h' m ∧ h'.Ns H2.objs.size m' ∧ News h₀ L h' ((s₂.heap.objs.size, lst ys) :: news)) ?_ (ns.length + 1)
      ⟨h₁, _, 0, [], _, rfl, Nat.zero_le _, rfl, .nil, hst₁, F.keeps old, hns₁, fun p hp => ?_⟩ (hs2 _)
    · rintro k s' ⟨h', tk, i, ys, m', rfl, hi', rfl, hys, hst', F', hn', N'⟩
      by_cases hlt : i < ns.length
      · refine W.item i _ _ _ hlt hst' fun v h₂ tk₂ hPv hst₂ hk₂ => ?_
        obtain ⟨t, ht⟩ := hi.get i ns[i] (List.getElem?_eq_getElem hlt)
        have hvv : v = .int ns[i] t := by
          have hv' : vs[i]? = some v := by rw [List.getElem?_toArray] at hPv; exact hPv
          rw [ht] at hv'; exact (Option.some.inj hv').symm
        subst hvv
        have hts : ns.take (i + 1) = ns.take i ++ [ns[i]] := by rw [List.take_add_one, List.getElem?_eq_getElem hlt]; rfl
        refine wpAny_assign_Name (wpAny_storeName_local (lookup_relabel_local hx) (hn'.at' fun o e => hk₂ _ o (by simpa using Ne.symm hCI) e) (fun h₃ hn₃ hs₃ => ?_) (by simp [compEnvC, relabel, hkind]))
        have hst₃ : h₃.IsListIter I ax (i + 1) ∧ h₃.IsList ax vs.toArray := W.frame _ _ _ hst₂ fun b hb o e => hs₃.extBut b o (fun q => by
          have q' : b = H2.objs.size := q
          rcases List.mem_cons.mp hb with h | h
          · exact hCI (h ▸ q')
          · exact (below ax hAlt).1 (by rw [← List.mem_singleton.mp h]; exact q')) e
        obtain ⟨oI, heI, hoI⟩ := id hst₃.1
        obtain ⟨oC, heC, hoC⟩ := ns_obj hn₃
        have F₃ : Fr h₀ L h₃ m := (fr_but F' hk₂ hIL hI₀).change hs₃ hCL hC₀
        have N₂ : News h₀ L h₂ ((s₂.heap.objs.size, lst ys) :: news) := news_but N' hk₂ fun p hp => by
          rcases List.mem_cons.mp hp with rfl | hp
          · exact Ne.symm hDI
          · exact (off3 p hp).1
        have N₃ : News h₀ L h₃ ((I, oI) :: (H2.objs.size, oC) :: (s₂.heap.objs.size, lst ys) :: news) := fun p hp => by
          rcases List.mem_cons.mp hp with rfl | hp
          · exact ⟨heI, Ne.symm hIL, hI₀⟩
          · rcases List.mem_cons.mp hp with rfl | hp
            · exact ⟨heC, hCL, hC₀⟩
            · have z := N₂ p hp
              refine ⟨hs₃.extBut _ _ ?_ z.1, z.2⟩
              rcases List.mem_cons.mp hp with rfl | hp
              · exact hDC
              · exact (off3 p hp).2.1
        refine wpAny_mono (turn ns[i] t I oI H2.objs.size oC s₂.heap.objs.size (lst ys) _ h₃ _ _ (List.getElem_mem _) hoC (by simp) F₃ N₃ off3 ⟨hCI, hDI, Ne.symm hDC⟩) (fun xv s₄ h₄ => ?_) fun _ _ e => e
        obtain ⟨r, a, b, st, t1, u1, v1, rfl, ⟨h₄, tk₄, rfl, F₄, N₄⟩, hr, hsm, hsize, hks⟩ := h₄
        refine wpAny_pyIter_range hr hsm ?_
        have zI := N₄ (I, oI) List.mem_cons_self
        have zC := N₄ (H2.objs.size, oC) (List.mem_cons_of_mem _ List.mem_cons_self)
        have zD := N₄ (s₂.heap.objs.size, lst ys) (List.mem_cons_of_mem _ (List.mem_cons_of_mem _ List.mem_cons_self))
        have N₄' : News h₀ L h₄ news := fun p hp => N₄ p (List.mem_cons_of_mem _ (List.mem_cons_of_mem _ (List.mem_cons_of_mem _ hp)))
        have up : ∀ c o, h₄.get? c = some o → (h₄.push { cls := .type "range_iterator", data := .fields #[rawInt a, rawInt (Builtin.Range.rangeSize a b st), rawInt st] }).get? c = some o := fun c o e => Heap.get?_push_of_some _ e
        have ltJ : ∀ b o, h₄.get? b = some o → h₄.objs.size ≠ b := fun b o e q => by
          have := Heap.lt_size e; rw [← q] at this; exact Nat.lt_irrefl _ this
        have hlen2 : ys.length + (g ns[i]).length ≤ sizeLine := by
          have h1 : ys.length = ((ns.take i).flatMap g).length := hys.length
          have h2 : ((ns.take (i + 1)).flatMap g).length ≤ (ns.flatMap g).length := by
            have := congrArg (fun l => (List.flatMap g l).length) (List.take_append_drop (i + 1) ns)
            simp only [List.flatMap_append, List.length_append] at this
            omega
          rw [hts, List.flatMap_append, List.flatMap_cons, List.flatMap_nil, List.append_nil, List.length_append] at h2
          rw [h1]; exact Nat.le_trans h2 hsz
        refine inner_loop (Walks.range hh' h₄.objs.size a st (g ns[i]).length) (by show IsRangeIter _ _ _ _ _; rw [← hsize]; simpa using Heap.get?_push_size _ rfl) (up _ _ zD.1) ((hoC.ns zC.1).at' fun o e => up _ o e) hDC (ltJ _ _ zD.1) (ltJ _ _ zC.1) hlen2 rfl (lookup_relabel_local hy) (by simp [compEnvC, relabel, hkind]) hyd ?_
        intro h₅ tk₅ us m₅ hul hus hD₅ hn₅ hk₅
        have hLJ : ∀ o, h₄.get? L = some o → h₅.get? L = some o := fun o e => hk₅ L o (fun q => ltJ _ _ e q.symm) (Ne.symm hDL) (Ne.symm hCL) (up _ _ e)
        have keep₅ : ∀ b o, h₀.get? b = some o → h₅.get? b = some o := fun b o e => by
          have e4 := F₄.keep b o e
          refine hk₅ b o (fun q => ltJ _ _ e4 q.symm) (fun q => ?_) (fun q => ?_) (up _ _ e4)
          · rw [q, hD₀] at e; cases e
          · rw [q, hC₀] at e; cases e
        have F₅ : Fr h₀ L h₅ m := ⟨F₄.ns.at' hLJ, keep₅, F₄.above⟩
        have N₅ : News h₀ L h₅ ((s₂.heap.objs.size, lst (ys ++ us)) :: news) := fun p hp => by
          rcases List.mem_cons.mp hp with rfl | hp
          · exact ⟨hD₅, hDL, hD₀⟩
          · have z := N₄' p hp
            exact ⟨hk₅ _ _ (fun q => ltJ _ _ z.1 q.symm) (off3 p hp).2.2 (off3 p hp).2.1 (up _ _ z.1), z.2⟩
        have zI₅ : h₅.get? I = some oI := hk₅ _ _ (fun q => ltJ _ _ zI.1 q.symm) hDI hCI (up _ _ zI.1)
        refine ⟨ns.length + 1 - (i + 1), by omega, h₅, tk₅, i + 1, ys ++ us, m₅, rfl, hlt, rfl, ?_, list_st (i + 1) h₃ h₅ oI news hst₃ heI zI₅ keep₅ (fun p hp => N₅ p (List.mem_cons_of_mem _ hp)) hS, F₅, hn₅, N₅⟩
        rw [hts, List.flatMap_append, List.flatMap_cons, List.flatMap_nil, List.append_nil]
        refine IntsAre.append' hys (intsAre_of us (g ns[i]) hul fun j u hu => ?_)
        obtain ⟨t', rfl⟩ := hus j u hu
        have hj : j < (g ns[i]).length := by rw [← hul]; exact (List.getElem?_eq_some_iff.mp hu).1
        exact ⟨t', _, by rw [List.getElem?_eq_getElem hj, hks j _ (List.getElem?_eq_getElem hj)], rfl⟩
      · obtain rfl : i = ns.length := Nat.le_antisymm hi' (Nat.not_lt.mp hlt)
        rw [List.take_length] at hys
        refine W.done _ _ _ hst' fun h₂ tk₂ hk₂ => ?_
        exact hRR _ _ h₂ tk₂ _ ys hys (fr_but F' hk₂ hIL hI₀) (news_but N' hk₂ fun p hp => by
          rcases List.mem_cons.mp hp with rfl | hp
          · exact Ne.symm hDI
          · exact (off3 p hp).1) (fun p hp => (off3 p hp).2.2) (hn'.at' fun o e => hk₂ _ o (by simpa using Ne.symm hCI) e) hC₀ hD₀ hCL hDL (Ne.symm hDC) (fun p hp => (off3 p hp).2.1)
    · rcases List.mem_cons.mp hp with rfl | hp
      · exact ⟨hacc, hDL, hD₀⟩
      · exact ⟨old _ _ (N p hp).1, (N p hp).2⟩
  exact codeAny_compStart_list (loop _ rfl) (W.self 0 _ _ _ hst₁ (loop _ rfl))
/-- z = [y for x in src for y in range(..)] -/
theorem comp2_ints {iter iter2 : PySem.Expr} {x y z : Str} {px py pe pz : Pos} {scope : Scope} {cl : List (Str × Addr)} {pos spos : Pos} {Q : Flow → Shared → Prop} {ax : Addr} {vs : List Value} {ns : List Int} {news : List (Addr × Obj)} (g : Int → List Int)
    (hh : A.handled = none) (hh' : (A.mark none).handled = none) (_F₀ : Fr h₀ L s.heap m) (_N₀ : News h₀ L s.heap news) (hLe : env.locals = L) (hi : IntsAre vs ns) (hsz : (ns.flatMap g).length ≤ 16777216)
    (hsw : swapsWith (comp2 x y px py pe iter iter2 scope pos) (some (.Name z pz)) spos.line env = pure true)
    (hclos : closureFor scope env = pure cl) (hcell : ∀ z ∈ scope.names, z.2 ≠ .cell) (hkind : scope.kind = .function)
    (hnames : ∀ z ∈ scope.names, z.2 = .local → scope.names.lookup z.1 = some .local) (hx : scope.names.lookup x = some .local) (hy : scope.names.lookup y = some .local) (hyd : (y == ("__debug__" : Str)) = false)
    (hz : env.kindOf z = some .local) (hp : (env.scope.kind == .class || (env.scope.kind == .module && env.locals != env.globals)) = false)
    (hiter : wpAny (model prog w) A (eval iter env) (SrcIs h₀ L m news s ax vs) E s)
    (turn : ∀ n t I oI C oC D oD m₂ h tk (E' : Value → Shared → Prop), n ∈ ns → NsObj oC m₂ → m₂ x = some (.int n t) → Fr h₀ L h m → News h₀ L h ((I, oI) :: (C, oC) :: (D, oD) :: news) → (∀ q ∈ news, q.1 ≠ I ∧ q.1 ≠ C ∧ q.1 ≠ D) → ((@Ne Nat I C) ∧ (@Ne Nat I D) ∧ (@Ne Nat C D)) →
      wpAny (model prog w) A (eval iter2 (compEnvC scope cl C env)) (RangeIs h₀ L m ((I, oI) :: (C, oC) :: (D, oD) :: news) { s with heap := h, toks := tk } (g n)) E' { s with heap := h, toks := tk })
    (fin : ∀ D ys h tk, IntsAre ys (ns.flatMap g) → Fr h₀ L h (fun y => if y = z then some (.ref D) else m y) → News h₀ L h ((D, lst ys) :: news) → (∀ q ∈ news, q.1 ≠ D) → Q .next { s with heap := h, toks := tk })
    (hs2 : ∀ C z, foldedSetIterable iter2 (compEnvC scope cl C env) z = pure z := by intro _ _; rfl)
    (hs : ∀ x, foldedSetIterable iter env x = pure x := by intro _; rfl) :
    wpAny (model prog w) A (exec (.Assign [.Name z pz] (comp2 x y px py pe iter iter2 scope pos) spos) env) Q E s := by
  subst hLe
  rw [exec_Assign_Name_used _ _ _ _ hsw]
  refine wpAny_bind (wpAny_standAt (wpAny_bind ?_))
  show wpAny _ A (do let _ ← comprehension (comp2 x y px py pe iter iter2 scope pos) scope env _ (newList []) false (eval iter env) (some (assign (.Name z pz) env))) _ _ s
  refine wpAny_bind (wpAny_mono (wpAny_comprehension_free (use := some (assign (.Name z pz) env)) (Q := fun _ s' => Q .next s') rfl hs hclos hkind hnames
    (wpAny_mono hiter (fun xv s₁ h₁ => ?_) fun _ _ e => e)) (fun _ s' hq => wpAny_pure (wpAny_pure hq)) fun _ _ e => e)
  obtain ⟨rfl, ⟨h₁, tk₁, rfl, F, N⟩, hS⟩ := h₁
  have hl := hS.list F.keep N
  have hlt : ax < h₁.objs.size := by obtain ⟨_, e, _⟩ := hl; exact Heap.lt_size e
  refine wpAny_pyIter_list hl ?_
  have up : ∀ b o, h₁.get? b = some o → (h₁.push { cls := .type "list_iterator", data := .fields #[.ref ax, .int 0 0] }).get? b = some o := fun b o e => Heap.get?_push_of_some _ e
  refine block2 (s₂ := ⟨_, s.gens, s.drawn, tk₁, s.os⟩) g hh hh' hi (Nat.ne_of_lt hlt) (by rw [sizeLine_eq]; exact hsz) hcell hkind hx hy hyd ⟨⟨_, Heap.get?_push_size _ rfl, rfl, rfl⟩, hl.push _⟩ (F.keeps up) (N.grown up) (Nat.ne_of_lt F.ns.lt) (next_is_new F) (fun p hp => Nat.ne_of_lt (Heap.lt_size (N p hp).1)) hS turn hs2 ?_
  intro D C h' tk m' ys hys F' N' o1 hn hC₀ hD₀ hCL hDL hCD offC
  show wpAny _ A (assign (.Name z pz) env (.ref D)) _ _ _
  refine wpAny_assign_Name (wpAny_storeName_local hz F'.ns (fun h₂ hn₂ hs₂ => ?_) hp)
  have hL₀ : h₀.get? env.locals = none := Heap.get?_none_of_le F'.above
  have F₂ : Fr h₀ env.locals h₂ (fun y => if y = z then some (.ref D) else m y) := ⟨hn₂, fun b o e => hs₂.extBut b o (fun q => by rw [q, hL₀] at e; cases e) (F'.keep b o e), F'.above⟩
  refine ⟨m', hn.sameBut hs₂ hCL, fun h'' hs'' => fin D ys h'' _ hys (F₂.change hs'' hCL hC₀) (fun p hp => ?_) o1⟩
  have zz : h₂.get? p.1 = some p.2 := hs₂.extBut _ _ (N' p hp).2.1 (N' p hp).1
  refine ⟨hs''.extBut _ _ ?_ zz, (N' p hp).2⟩
  rcases List.mem_cons.mp hp with rfl | hp
  · exact Ne.symm hCD
  · exact offC p hp
end
end Mine
end secMComp3
section secMComp4
open PySem PySem.W PyProof.Rows PySem.Calls PySem.Spec PyProof.Rows.LCg PyProof.Rows.LCt
namespace Mine
noncomputable def EltG (h₀ : Heap) (L : Addr) (m : Str → Option Value) (led : List (Addr × Obj)) (s : Shared) (G : Value → Prop) (z : Value) (s' : Shared) : Prop := G z ∧ Quiet h₀ L m led s s'
section
variable {prog : Program} {w : World} {A : Around} {E : Value → Shared → Prop} {s : Shared} {h₀ : Heap} {L : Addr} {m : Str → Option Value} {env : Env}
theorem restU {elt : PySem.Expr} {x : Str} {scope : Scope} {cl : List (Str × Addr)} {ax : Addr} {vs : List Value} {news : List (Addr × Obj)} {Fin : List Value → List (Addr × Obj) → Prop} (G : Value → Value → Prop) (hS : SrcAt h₀ ax vs.toArray news)
    (turn : ∀ v I oI C oC D oD m₂ h tk (E' : Value → Shared → Prop), v ∈ vs → NsObj oC m₂ → m₂ x = some v → Fr h₀ L h m → News h₀ L h ((I, oI) :: (C, oC) :: (D, oD) :: news) → (∀ q ∈ news, q.1 ≠ I ∧ q.1 ≠ C ∧ q.1 ≠ D) → ((@Ne Nat I C) ∧ (@Ne Nat I D) ∧ (@Ne Nat C D)) →
      wpAny (model prog w) A (eval elt (compEnvC scope cl C env)) (EltG h₀ L m ((I, oI) :: (C, oC) :: (D, oD) :: news) { s with heap := h, toks := tk } (G v)) E' { s with heap := h, toks := tk })
    (fin : ∀ ys, Paired G vs ys → Fin ys news) :
    ∀ (k i : Nat) (ys : List Value), i + k = vs.length → Paired G (vs.take i) ys → CompRest prog w A h₀ L m env elt x scope cl s (SrcAt h₀ ax vs.toArray) (fun i v => vs.toArray[i]? = some v) Fin k i ys news := by
  intro k
  induction k with
  | zero =>
    intro i ys hk hy
    refine CompRest.zero (fin ys ?_)
    rw [show i = vs.length by omega, List.take_length] at hy
    exact hy
  | succ k ih =>
    intro i ys hk hy
    refine CompRest.succ fun v I oI C oC D m₂ h tk E' hv hC hx F N off ne => ?_
    have hlt : i < vs.length := by omega
    have hv' : vs[i]? = some v := by rw [List.getElem?_toArray] at hv; exact hv
    have hvv : vs[i] = v := by rw [List.getElem?_eq_getElem hlt] at hv'; exact Option.some.inj hv'
    have hs : vs.take (i + 1) = vs.take i ++ [v] := by rw [List.take_add_one, hv']; rfl
    refine wpAny_mono (turn v I oI C oC D (lst ys) m₂ h tk E' (hvv ▸ List.getElem_mem _) hC hx F N off.mem ne) (fun z s'' h2 => ?_) fun _ _ e => e
    obtain ⟨hg, h', tk', rfl, F', N'⟩ := h2
    refine ⟨h', tk', news, rfl, F', N', off, hS, ih (i + 1) _ (by omega) ?_⟩
    rw [hs]
    exact hy.snoc hg
/-- [elt for x in src], as a value -/
theorem compU {elt iter : PySem.Expr} {x : Str} {px : Pos} {scope : Scope} {cl : List (Str × Addr)} {pos : Pos} {Q : Value → Shared → Prop} {ax : Addr} {vs : List Value} {news : List (Addr × Obj)} (G : Value → Value → Prop)
    (hh : A.handled = none) (F₀ : Fr h₀ L s.heap m) (_N₀ : News h₀ L s.heap news) (hsz : vs.length ≤ 16777216)
    (hclos : closureFor scope env = pure cl) (hcell : ∀ z ∈ scope.names, z.2 ≠ .cell) (hkind : scope.kind = .function)
    (hnames : ∀ z ∈ scope.names, z.2 = .local → scope.names.lookup z.1 = some .local) (hx : scope.names.lookup x = some .local)
    (hiter : wpAny (model prog w) A (eval iter env) (SrcIs h₀ L m news s ax vs) E s)
    (turn : ∀ v I oI C oC D oD m₂ h tk (E' : Value → Shared → Prop), v ∈ vs → NsObj oC m₂ → m₂ x = some v → Fr h₀ L h m → News h₀ L h ((I, oI) :: (C, oC) :: (D, oD) :: news) → (∀ q ∈ news, q.1 ≠ I ∧ q.1 ≠ C ∧ q.1 ≠ D) → ((@Ne Nat I C) ∧ (@Ne Nat I D) ∧ (@Ne Nat C D)) →
      wpAny (model prog w) A (eval elt (compEnvC scope cl C env)) (EltG h₀ L m ((I, oI) :: (C, oC) :: (D, oD) :: news) { s with heap := h, toks := tk } (G v)) E' { s with heap := h, toks := tk })
    (fin : ∀ D ys h tk, Paired G vs ys → Fr h₀ L h m → News h₀ L h ((D, lst ys) :: news) → (∀ q ∈ news, q.1 ≠ D) → Q (.ref D) { s with heap := h, toks := tk })
    (hs : ∀ x, foldedSetIterable iter env x = pure x := by intro _; rfl) :
    wpAny (model prog w) A (eval (.ListComp elt [⟨.Name x px, iter, [], 0⟩] scope pos) env) Q E s := by
  refine ListComp_U F₀ hclos hcell hkind hnames hx (wpAny_mono hiter (fun xv s₁ h₁ => ?_) fun _ _ e => e) hs
  obtain ⟨rfl, ⟨h₁, tk₁, rfl, F₁, N₁⟩, hS⟩ := h₁
  refine .inl ⟨ax, vs.toArray, news, rfl, hh, F₁, N₁, hS, by rw [List.size_toArray, sizeLine_eq]; exact hsz, ?_⟩
  rintro s₂ ⟨g, rfl⟩
  rw [List.size_toArray]
  refine restU (s := ⟨g, s.gens, s.drawn, tk₁, s.os⟩) (Fin := FinE h₀ L m ⟨g, s.gens, s.drawn, tk₁, s.os⟩ Q) G hS turn (fun ys hys D h tk F N off => fin D ys h tk hys F N ?_) vs.length 0 [] (by omega) .nil
  intro q hq
  have : ∀ {l : List (Addr × Obj)}, Off1 D l → ∀ p ∈ l, p.1 ≠ D := by
    intro l
    induction l with
    | nil => intro _ p hp; cases hp
    | cons a r ih =>
      intro o p hp
      rcases List.mem_cons.mp hp with rfl | hp
      · exact o.1
      · exact ih o.2 p hp
  exact this off q hq
end
end Mine
end secMComp4
section secMTurn
open PySem PySem.W PyProof.Rows PySem.Calls PySem.Spec PyProof.V
namespace Mine
section
variable {prog : Program} {w : World} {A : Around} {E : Value → Shared → Prop} {s : Shared} {env : Env} {h₀ : Heap} {body : List Stmt} {Q : Flow → Shared → Prop} {x : Str} {px : Pos}
noncomputable def TxtEnd (h₀ : Heap) (L : Addr) (own : List (Addr × Obj)) (J : (Str → Option Value) → List (Addr × Obj) → Prop) (s₁ s₂ : Shared) : Prop :=
  ∃ h' tk m' news' nx, s₂ = { s₁ with heap := h', toks := tk } ∧ Fr h₀ L h' m' ∧ News h₀ L h' news' ∧ (∀ p ∈ nx, p ∈ news') ∧ (∀ p ∈ own, p ∈ news') ∧ OwnOff own (nx.map (·.1)) ∧ J m' nx
noncomputable def TxtPost (h₀ : Heap) (L : Addr) (own : List (Addr × Obj)) (J : (Str → Option Value) → List (Addr × Obj) → Prop) (s₁ : Shared) (Q : Flow → Shared → Prop) (f : Flow) (s₂ : Shared) : Prop :=
  match f with
  | .ret v => Q (.ret v) s₂
  | .brk => Q .next s₂
  | _ => TxtEnd h₀ L own J s₁ s₂
theorem text_core {I : Addr} {n : Nat} {P : Nat → Value → Prop} {St : Nat → Heap → Prop} {m₀ : Str → Option Value} {news : List (Addr × Obj)} (J : Nat → (Str → Option Value) → List (Addr × Obj) → Prop)
    (W : Walks prog w A I [I] [I] n P St) (hI : ∀ i h, St i h → ∃ o, h.get? I = some o) (hst : St 0 s.heap) (hI0 : h₀.get? I = none) (hL : env.locals ≠ I) (F : Fr h₀ env.locals s.heap m₀) (N : News h₀ env.locals s.heap news) (hoff : ∀ p ∈ news, p.1 ≠ I) (hj : J 0 m₀ news)
    (turn : ∀ i v m₁ news₁ h tk own, i < n → P i v → OwnOff own (news₁.map (·.1)) → J i m₁ news₁ → Fr h₀ env.locals h m₁ → News h₀ env.locals h (news₁ ++ own) →
      wpAny (model prog w) A (assign (.Name x px) env v) (fun _ s₃ => wpAny (model prog w) A (execs body env) (TxtPost h₀ env.locals own (J (i + 1)) { s with heap := h, toks := tk } Q) E s₃) E { s with heap := h, toks := tk })
    (done : ∀ m₁ news₁ h tk, J n m₁ news₁ → Fr h₀ env.locals h m₁ → News h₀ env.locals h news₁ → Q .next { s with heap := h, toks := tk }) :
    TurnsAt prog w A h₀ env (.Name x px) body Q E (.ref I) s := by
  refine ⟨I, [I], [I], n, fun i v _ => P i v, _, St, m₀, news, J, rfl, KTurns.ofWalks W (fun i v s Q E _ q => wpAny_of_eq (show letOwnedTupleGo (.Name x px) (.ref I) v = pure () from rfl) q), by simpa using hL, by simpa using hI0, fun p hp => by simpa using hoff p hp, hst, F, N, hj, ?_, ?_⟩
  · intro i v m₁ news₁ h₁ tk₁ own hin hP hJ hnw hown hval hall hst₁ F₁ N₁
    obtain ⟨oI, hoI⟩ := hI _ _ hst₁
    have hIown : (I, oI) ∈ own := hall I (by simp) hI0 _ hoI
    have hsep : OwnOff own (news₁.map (·.1)) := by
      intro p hp b hb e
      obtain ⟨q, hq, rfl⟩ := List.mem_map.mp hb
      have h1 : p.1 = I := by simpa using hown p hp
      exact hnw q hq (by simp [← e, h1])
    have N₂ : News h₀ env.locals h₁ (news₁ ++ own) := fun p hp => N₁ p ((List.mem_append.mp hp).elim (fun h => List.mem_append.mpr (.inr h)) fun h => List.mem_append.mpr (.inl h))
    refine wpAny_mono (turn i v m₁ news₁ h₁ tk₁ own hin hP hsep hJ F₁ N₂) (fun _ s₂ h₂ => wpAny_mono h₂ (fun f s₃ p => ?_) fun _ _ e => e) fun _ _ e => e
    have fin : TxtEnd h₀ env.locals own (J (i + 1)) { s with heap := h₁, toks := tk₁ } s₃ → LoopStepU h₀ env.locals [I] own (J (i + 1)) { s with heap := h₁, toks := tk₁ } .next s₃ := by
      rintro ⟨h', tk, m', news', nx, e, F', N', hn, ho, ha, hm⟩
      refine ⟨rfl, h', tk, m', nx, e, F', fun p hp => N' p ((List.mem_append.mp hp).elim (ho p) (hn p)), fun p hp hq => ?_, hm⟩
      exact ha _ hIown p.1 (List.mem_map.mpr ⟨p, hp, rfl⟩) (List.mem_singleton.mp hq).symm
    cases f with
    | ret v => exact .ret p
    | brk => exact .brk p
    | next => exact .next (fin p)
    | cont => exact .cont (fin p)
  · intro h' tk m' news' F' N' _ hJ
    exact done m' news' h' tk hJ F' N'
/-- a for over a text, whatever its target's kind -/
theorem text_loop {l : List Nat} {t : Tok} {m₀ : Str → Option Value} {news : List (Addr × Obj)} (J : Nat → (Str → Option Value) → List (Addr × Obj) → Prop)
    (hh : A.handled = none) (F : Fr h₀ env.locals s.heap m₀) (N : News h₀ env.locals s.heap news) (hj : J 0 m₀ news)
    (turn : ∀ i c tc m₁ news₁ h tk own, l[i]? = some c → OwnOff own (news₁.map (·.1)) → J i m₁ news₁ → Fr h₀ env.locals h m₁ → News h₀ env.locals h (news₁ ++ own) →
      wpAny (model prog w) A (assign (.Name x px) env (.str (S [c]) tc)) (fun _ s₃ => wpAny (model prog w) A (execs body env) (TxtPost h₀ env.locals own (J (i + 1)) { s with heap := h, toks := tk } Q) E s₃) E { s with heap := h, toks := tk })
    (done : ∀ m₁ news₁ h tk, J l.length m₁ news₁ → Fr h₀ env.locals h m₁ → News h₀ env.locals h news₁ → Q .next { s with heap := h, toks := tk }) :
    wpAny (model prog w) A (pyIter (.str (S l) t)) (fun it s₂ => TurnsAt prog w A h₀ env (.Name x px) body Q E it s₂) E s := by
  have up : ∀ (o : Obj) b o', s.heap.get? b = some o' → (s.heap.push o).get? b = some o' := fun o b o' e => Heap.get?_push_of_some _ e
  have hsz : (S l).cps.size = l.length := by simp [S]
  have trn : ∀ (o : Obj) i v m₁ news₁ h tk own, i < (S l).cps.size → SignAt (S l) i v → OwnOff own (news₁.map (·.1)) → J i m₁ news₁ → Fr h₀ env.locals h m₁ → News h₀ env.locals h (news₁ ++ own) →
      wpAny (model prog w) A (assign (.Name x px) env v) (fun _ s₃ => wpAny (model prog w) A (execs body env) (TxtPost h₀ env.locals own (J (i + 1)) { ({ s with heap := s.heap.push o } : Shared) with heap := h, toks := tk } Q) E s₃) E { ({ s with heap := s.heap.push o } : Shared) with heap := h, toks := tk } := by
    rintro o i v m₁ news₁ h tk own _ ⟨c, u, hc, rfl⟩ hoff hJ F₁ N₁
    exact turn i c u m₁ news₁ h tk own (by simpa [S] using hc) hoff hJ F₁ N₁
  have offI : ∀ p ∈ news, p.1 ≠ s.heap.objs.size := fun p hp => Nat.ne_of_lt (Heap.lt_size (N p hp).1)
  cases ha : (S l).cps.all (· < 128)
  · refine wpAny_pyIter_wide ha ?_
    exact text_core J (Walks.strWide hh _ (S l) t) (fun i h st => let ⟨o, ho, _⟩ := st; ⟨o, ho⟩) ⟨_, Heap.get?_push_size _ rfl, rfl, rfl⟩ (next_is_new F) (Nat.ne_of_lt F.ns.lt) (F.keeps (up _)) (N.grown (up _)) offI hj (trn _) fun m₁ news₁ h tk hJ F₁ N₁ => done m₁ news₁ h tk (hsz ▸ hJ) F₁ N₁
  · refine wpAny_pyIter_ascii ha ?_
    exact text_core J (Walks.strAscii hh _ (S l) t) (fun i h st => let ⟨o, ho, _⟩ := st; ⟨o, ho⟩) ⟨_, Heap.get?_push_size _ rfl, rfl, rfl⟩ (next_is_new F) (Nat.ne_of_lt F.ns.lt) (F.keeps (up _)) (N.grown (up _)) offI hj (trn _) fun m₁ news₁ h tk hJ F₁ N₁ => done m₁ news₁ h tk (hsz ▸ hJ) F₁ N₁
end
end Mine
end secMTurn
section secMRec
namespace Mine
theorem newsExt {h₀ h h' : Heap} {L : Addr} {news : List (Addr × Obj)} (N : News h₀ L h news) (e : Ext h h') : News h₀ L h' news := fun q hq => ⟨e _ _ (N q hq).1, (N q hq).2⟩
theorem instBase {h₀ h : Heap} {L x C dx : Addr} {m : Str → Option Value} {od : Obj} (F : Fr h₀ L h m) (h1 : h₀.get? x = some (instObj C dx)) (h2 : h₀.get? dx = some od) : InstAt h x (instObj C dx) C (some od) :=
  ⟨F.keep _ _ h1, rfl, rfl, F.keep _ _ h2⟩
noncomputable def noneV : Value → Bool
  | .none => true
  | _ => false
theorem beq_none (v : Value) : (v == .none) = noneV v := by cases v <;> rfl
section
variable {prog : Program} {w : World} {A : Around} {E : Value → Shared → Prop} {s : Shared} {Q : Value → Shared → Prop}
theorem is_noneV {v : Value} (h : Q (.bool (noneV v)) s) : wpAny (model prog w) A (compareOp .Is v .none) Q E s := by
  refine is_none_gen ?_
  rw [beq_none]; exact h
end
/-- a record of the class at C: its four parts -/
structure RecD where
  r : Addr
  d : Addr
  u : Addr
  l : Addr
  us : List Value
  ls : List Value
  dv : Value
  rv : Value
  k1 : Tok
  k2 : Tok
  k3 : Tok
  k4 : Tok
  cu : Nat
  cl : Nat
noncomputable def recDict (p : Params) (R : RecD) : Obj :=
  dictOf [{ hash := PyData.keyHash p (Str.ofString "useragents"), key := Value.str (Str.ofString "useragents") R.k1, val := Value.ref R.u },
     { hash := PyData.keyHash p (Str.ofString "rulelines"), key := Value.str (Str.ofString "rulelines") R.k2, val := Value.ref R.l },
     { hash := PyData.keyHash p (Str.ofString "delay"), key := Value.str (Str.ofString "delay") R.k3, val := R.dv },
     { hash := PyData.keyHash p (Str.ofString "req_rate"), key := Value.str (Str.ofString "req_rate") R.k4, val := R.rv }] 4
structure RecAt (p : Params) (C : Addr) (h : Heap) (R : RecD) : Prop where
  hr : h.get? R.r = some (instObj C R.d)
  hd : h.get? R.d = some (recDict p R)
  hu : h.get? R.u = some (W.listOf R.us.toArray R.cu)
  hl : h.get? R.l = some (W.listOf R.ls.toArray R.cl)
theorem RecAt.ext {p : Params} {C : Addr} {h h' : Heap} {R : RecD} (x : RecAt p C h R) (e : Ext h h') : RecAt p C h' R := ⟨e _ _ x.hr, e _ _ x.hd, e _ _ x.hu, e _ _ x.hl⟩
end Mine
namespace Mine
theorem Fr.lower {g h h' : Heap} {L : Addr} {m : Str → Option Value} (F : Fr h L h' m) (e : Ext g h) (hs : @LE.le Nat _ g.objs.size h.objs.size) : Fr g L h' m := ⟨F.ns, fun b o q => F.keep b o (e b o q), Nat.le_trans hs F.above⟩
end Mine
namespace Mine
/-- a def of the written heap without captured locals, entered from the caller's own heap -/
theorem call_defK {prog : Program} {w : World} {A : Around} {s : Shared} {R : Result → Shared → Prop} {name qual : Str} {params : Arguments} {body : List Stmt} {scope : Scope} {dV kV doc pm cdv ct : Value} {an : Option Addr} {f : Addr} {args : Args} {binds : List (Str × Value)}
    {K : Frag} {oc : Value} {od : Option Addr} {osl : Array (Option Value)} (X : K.In s.heap) (ho : K.lookup f = some ⟨oc, od, .func (fnOf name qual params body scope dV kV doc pm an cdv ct), osl⟩) (hcd : codeIn K cdv qual = true) (hlim : s.heap.NoLimit) (hroom : A.depth < recursionLimit)
    (hbind : BindsTo s (fnOf name qual params body scope dV kV doc pm an cdv ct) args binds) (hloc : ∀ y ∈ binds, scope.names.lookup y.1 = some .local)
    (h : ∀ h₁ tk, Fr s.heap s.heap.objs.size h₁ (fun y => binds.reverse.lookup y) →
      wpAny (model prog w) (A.deeper (envOf qual scope s.heap.objs.size f cdv)) (execs body (envOf qual scope s.heap.objs.size f cdv))
        (fun fl s' => R (.ok (.ret (match fl with | .ret v => v | _ => .none))) s') (fun _ _ => False)
        { s with heap := h₁, toks := tk })
    (hco : scope.isCoroutine = false) (hgen : scope.isGenerator = false) (hk : scope.kind = .function) (hcell : ∀ x ∈ scope.names, x.2 ≠ .cell) : codeAny (model prog w) A (.call (.ref f) args) R s :=
  codeAny_call_def (fd := fnX name qual params body scope [] dV kV doc pm an cdv ct) (body := body) (binds := binds) hroom (X _ _ ho) rfl hlim (codeRec_of X hcd) rfl hbind hcell hloc
    (fun h₁ hns hk₁ => wpAny_mono (h h₁ _ ⟨hns, fun b o e => hk₁ b o e, Nat.le_refl _⟩) (fun _ _ x => x) fun _ _ x => x.elim) hco hgen hk
end Mine
namespace Mine
/-- the four objects are four -/
noncomputable def Apart (R : RecD) : Prop := @Ne Nat R.r R.d ∧ @Ne Nat R.r R.u ∧ @Ne Nat R.r R.l ∧ @Ne Nat R.d R.u ∧ @Ne Nat R.d R.l ∧ @Ne Nat R.u R.l
theorem ne_of_objs {h : Heap} {a b : Addr} {o o' : Obj} (ha : h.get? a = some o) (hb : h.get? b = some o') (hne : o ≠ o') : @Ne Nat a b := fun e => hne (by
  have e' : a = b := e
  rw [e', hb] at ha; exact (Option.some.inj ha).symm)
theorem RecAt.apart {p : Params} {C : Addr} {h : Heap} {R : RecD} (x : RecAt p C h R) (hul : @Ne Nat R.u R.l) : Apart R :=
  ⟨ne_of_objs x.hr x.hd (by intro e; cases e), ne_of_objs x.hr x.hu (by intro e; cases e), ne_of_objs x.hr x.hl (by intro e; cases e), ne_of_objs x.hd x.hu (fun e => by have := congrArg Obj.data e; cases this), ne_of_objs x.hd x.hl (fun e => by have := congrArg Obj.data e; cases this), hul⟩
noncomputable def RecNew (h : Heap) (R : RecD) : Prop := h.get? R.r = none ∧ h.get? R.d = none ∧ h.get? R.u = none ∧ h.get? R.l = none
theorem rec_new {p : Params} {C L x d u l : Addr} {h₀ h : Heap} {k1 k2 k3 k4 : Tok} {c1 c2 : Nat} {us ls : List Value} {dv rv : Value} {rest : List (Addr × Obj)} (N : News h₀ L h rest) (n1 : (l, W.listOf ls.toArray c2) ∈ rest) (n2 : (u, W.listOf us.toArray c1) ∈ rest) (n3 : (x, instObj C d) ∈ rest)
      (n4 : (d, dictOf [{ hash := PyData.keyHash p (Str.ofString "useragents"), key := Value.str (Str.ofString "useragents") k1, val := Value.ref u },
        { hash := PyData.keyHash p (Str.ofString "rulelines"), key := Value.str (Str.ofString "rulelines") k2, val := Value.ref l },
        { hash := PyData.keyHash p (Str.ofString "delay"), key := Value.str (Str.ofString "delay") k3, val := dv },
        { hash := PyData.keyHash p (Str.ofString "req_rate"), key := Value.str (Str.ofString "req_rate") k4, val := rv }] 4) ∈ rest) (hul : @Ne Nat u l) :
    ∃ R : RecD, R.r = x ∧ RecAt p C h R ∧ R.us = us ∧ R.ls = ls ∧ R.dv = dv ∧ R.rv = rv ∧ RecNew h₀ R ∧ Apart R := by
  have m1 := N _ n1
  have m2 := N _ n2
  have m3 := N _ n3
  have m4 := N _ n4
  have X : RecAt p C h ⟨x, d, u, l, us, ls, dv, rv, k1, k2, k3, k4, c1, c2⟩ := ⟨m3.1, m4.1, m2.1, m1.1⟩
  exact ⟨_, rfl, X, rfl, rfl, rfl, rfl, ⟨m3.2.2, m4.2.2, m2.2.2, m1.2.2⟩, X.apart hul⟩
theorem rec_led {p : Params} {C L : Addr} {h₀ h₁ h : Heap} {m : Str → Option Value} {R : RecD} (F : Fr h₀ L h₁ m) (x : RecAt p C h R) (n : RecNew h₁ R) : News h₀ L h [(R.u, W.listOf R.us.toArray R.cu), (R.l, W.listOf R.ls.toArray R.cl), (R.r, instObj C R.d), (R.d, recDict p R)] := by
  have key : ∀ a, h₁.get? a = none → a ≠ L ∧ h₀.get? a = none := by
    intro a ha
    constructor
    · intro e
      obtain ⟨oL, _, _, hL, _⟩ := F.ns
      rw [e, hL] at ha; cases ha
    · cases e : h₀.get? a with
      | none => rfl
      | some o => rw [F.keep _ _ e] at ha; cases ha
  obtain ⟨n1, n2, n3, n4⟩ := n
  intro q hq
  simp only [List.mem_cons, List.not_mem_nil, or_false] at hq
  rcases hq with rfl | rfl | rfl | rfl
  · exact ⟨x.hu, key _ n3⟩
  · exact ⟨x.hl, key _ n4⟩
  · exact ⟨x.hr, key _ n1⟩
  · exact ⟨x.hd, key _ n2⟩
theorem newsApp {h₀ h : Heap} {L : Addr} {a b : List (Addr × Obj)} (N : News h₀ L h a) (M : News h₀ L h b) : News h₀ L h (a ++ b) := fun q hq => (List.mem_append.mp hq).elim (N q) (M q)
end Mine
namespace Mine
theorem news_fresh {h₀ h₁ h : Heap} {L a : Addr} {m : Str → Option Value} {o : Obj} {news : List (Addr × Obj)} (F : Fr h₀ L h₁ m) (N : News h₀ L h news) (hn : h₁.get? a = none) (ha : h.get? a = some o) : News h₀ L h ((a, o) :: news) := by
  intro q hq
  rcases List.mem_cons.mp hq with rfl | hq
  · refine ⟨ha, ?_, ?_⟩
    · intro e
      obtain ⟨oL, _, _, hL, _⟩ := F.ns
      rw [show L = _ from e.symm, hn] at hL; cases hL
    · cases e : h₀.get? _ with
      | none => rfl
      | some o' => rw [F.keep _ _ e] at hn; cases hn
  · exact N q hq
theorem ne_fresh {h₀ h₁ : Heap} {L a b : Addr} {o : Obj} {news : List (Addr × Obj)} (N : News h₀ L h₁ news) (hm : (b, o) ∈ news) (hn : h₁.get? a = none) : @Ne Nat a b := fun e => by
  have e' : a = b := e
  rw [e', (N _ hm).1] at hn; cases hn
end Mine
namespace Mine
theorem add_listsK {prog : Program} {w : World} {A : Around} {E : Value → Shared → Prop} {s : Shared} {h₀ : Heap} {L : Addr} {m : Str → Option Value} {news : List (Addr × Obj)} {l b : Addr} {vs ws : List Value} {Q : Value → Shared → Prop} (F : Fr h₀ L s.heap m) (N : News h₀ L s.heap news) (hl : s.heap.IsList l vs.toArray) (hb : s.heap.IsList b ws.toArray)
    (h : ∀ D h', Fr h₀ L h' m → News h₀ L h' ((D, W.listOf (vs ++ ws).toArray 0) :: news) → (∀ q ∈ news, @Ne Nat D q.1) → Q (.ref D) { s with heap := h' }) (hsz : vs.length + ws.length ≤ 100000) :
    wpAny (model prog w) A (binaryOp .Add (.ref l) (.ref b)) Q E s :=
  add_lists F N hl hb (fun h' F' N' => h _ h' F' N' fun q hq => Nat.ne_of_gt (Heap.lt_size (N q hq).1)) (by rw [sizeLine_eq]; omega)
end Mine
namespace Mine
theorem isnot_noneV {prog : Program} {w : World} {A : Around} {E : Value → Shared → Prop} {s : Shared} {Q : Value → Shared → Prop} {v : Value} (h : Q (.bool (!noneV v)) s) : wpAny (model prog w) A (compareOp .IsNot v .none) Q E s := by
  refine isnot_none_gen ?_
  rw [beq_none]; exact h
theorem For_of {prog : Program} {w : World} {A : Around} {E : Value → Shared → Prop} {s : Shared} {env : Env} {Q : Flow → Shared → Prop} {x : Str} {px pos : Pos} {iter : PySem.Expr} {body : List Stmt} {h₀ : Heap} {m : Str → Option Value}
    (_F : Fr h₀ env.locals s.heap m) (hx : env.kindOf x = some .local) (hp : (env.scope.kind == .class || (env.scope.kind == .module && env.locals != env.globals)) = false)
    (h1 : wpAny (model prog w) A (eval iter env) (fun v s' => wpAny (model prog w) A (pyIter v) (fun it s₂ => LoopAtV prog w A h₀ env x body Q E it s₂) E s') E s)
    (hs : ∀ x, foldedSetIterable iter env x = pure x := by intro _; rfl) (hE : PassesOwn (model prog w) A env E := by passes_own) :
    wpAny (model prog w) A (exec (.For (.Name x px) iter body [] pos) env) Q E s := For_invV h₀ hx hp h1 hs hE
end Mine
end secMRec
section secMSetS
namespace Mine
-- set(list of texts)
section
variable {prog : Program} {w : World} {A : Around} {R : Result → Shared → Prop} {I : Addr} {fp wr : List Addr} {G : Array GenState → Array GenState → Prop} {n : Nat} {P : Nat → Value → Prop} {St : Nat → Shared → Prop}
noncomputable def metS (val : Nat → Str) (i : Nat) (k : Str) : Bool := ((List.range i).map val).any (· == k)
theorem metS_succ (val : Nat → Str) (i : Nat) (k : Str) : metS val (i + 1) k = (metS val i k || decide (k = val i)) := by
  unfold metS
  rw [List.range_succ, List.map_append, List.any_append, List.map_cons, List.map_nil, List.any_cons, List.any_nil, Bool.or_false]
  congr 1
  rw [Bool.eq_iff_iff, beq_iff_eq, decide_eq_true_eq]
  exact ⟨Eq.symm, Eq.symm⟩
theorem set_loopS (W : WalksS prog w A.in1 I fp wr G n P St) (S : Addr) (hSf : S ∉ fp)
    (val : Nat → Str) (hval : ∀ i v, P i v → ∃ t, v = .str (val i) t) (hb : n + 1 < scanBound) :
    ∀ (k i c : Nat) (s : Shared), n - i = k → i ≤ n → c ≤ i → St i s →
      s.heap.SetOf (strKind prog w) S (metS val i) c →
      (∀ s' c', c' ≤ n → Moved (S :: wr) G s s' → s'.heap.SetOf (strKind prog w) S (metS val n) c' → R (.ok (.ret .none)) s') →
      codeAny (model prog w) A (.builtin "set.update.loop" ⟨[.ref S, .ref I], []⟩) R s := by
  have hSw : S ∉ wr := fun h => hSf (W.sub _ h)
  have hsub : ∀ b ∈ wr, b ∈ S :: wr := fun b hb => List.mem_cons_of_mem _ hb
  intro k
  induction k with
  | zero =>
    intro i c s hk hi hci hst hS hR
    have hin : i = n := by omega
    subst hin
    refine codeAny_builtin PyProof.Rows.F.entry_set_update_loop ?_
    rw [Around.under_plainId PyProof.Rows.F.plain_set_update_loop _]
    show wpAny _ A.in1 (pyNext (.ref I) >>= _) _ _ s
    refine wpAny_bind (W.done s _ _ hst fun s' hm => ?_)
    show wpAny _ A.in1 (ret Value.none) _ _ s'
    exact wpAny_pure (hR s' c hci (hm.mono hsub) (by
      obtain ⟨o, es, ep, t, ho, rest⟩ := hS
      exact ⟨o, es, ep, t, hm.heap S _ hSw ho, rest⟩))
  | succ k ih =>
    intro i c s hk hi hci hst hS hR
    have hlt : i < n := by omega
    refine codeAny_builtin PyProof.Rows.F.entry_set_update_loop ?_
    rw [Around.under_plainId PyProof.Rows.F.plain_set_update_loop _]
    show wpAny _ A.in1 (pyNext (.ref I) >>= _) _ _ s
    refine wpAny_bind (W.item i s _ _ hlt hst fun v s' hP hst' hm => ?_)
    obtain ⟨t, rfl⟩ := hval i v hP
    have hS' : s'.heap.SetOf (strKind prog w) S (metS val i) c := by
      obtain ⟨o, es, ep, tb, ho, rest⟩ := hS
      exact ⟨o, es, ep, tb, hm.heap S _ hSw ho, rest⟩
    show wpAny _ A.in1 (holding [Value.str (val i) t] (setAdd S (.str (val i) t)) >>= _) _ _ s'
    refine wpAny_bind (wpAny_holding ?_)
    unfold setAdd
    refine wpAny_holding ?_
    refine wpAny_bind ((strKind prog w).pyHash (k := val i) (strKind_is _ _ _ _) ?_)
    refine wpAny_setAddHashed_of (knd := strKind prog w) (s := { s' with toks := s'.toks + 1 }) (strKind_is _ _ _ _) rfl hS' (by omega) fun h' hsb hS2 => ?_
    have hSi : h'.SetOf (strKind prog w) S (metS val (i + 1)) (if metS val i (val i) = true then c else c + 1) :=
      SetOf_congr hS2 (fun k' => by rw [metS_succ]) rfl
    refine wpAny_pure ⟨plainId_quiet PyProof.Rows.F.plain_set_update_loop _, ih (i + 1) _ _ (by omega) hlt (by split <;> omega) (W.frame _ s' _ _ hst' (Nat.le_succ _) fun b hb o e => ?_) hSi fun s'' c'' hc'' hm'' hS'' => ?_⟩
    · rw [hsb.2 b (fun h : b = S => hSf (by rw [← h]; exact hb))]; exact e
    · refine hR s'' c'' hc'' (Moved.trans W.gtrans ((hm.mono hsub).then_heap (Nat.le_succ _) fun b o hb e => ?_) hm'') hS''
      rw [hsb.2 b (fun h : b = S => hb (by rw [h]; exact List.mem_cons_self))]; exact e
end
section
variable {prog : Program} {w : World} {A : Around} {E : Value → Shared → Prop} {s : Shared}
theorem strsAt : ∀ {vs : List Value} {ss : List Str}, StrsAre vs ss → ∀ (i : Nat) (v : Value), vs[i]? = some v → ∃ t, v = .str (ss.getD i (Str.ofString "")) t
  | _, _, .nil, i, v, h => by simp at h
  | _, _, .cons n t hr, 0, v, h => by simp at h; exact ⟨t, by rw [← h]; rfl⟩
  | _, _, .cons n t hr, i + 1, v, h => by
    simp only [List.getElem?_cons_succ] at h
    obtain ⟨t', e⟩ := strsAt hr i v h
    exact ⟨t', by rw [e]; rfl⟩
theorem metS_all (ss : List Str) (k : Str) : metS (fun i => ss.getD i (Str.ofString "")) ss.length k = ss.contains k := by
  unfold metS
  have e : (List.range ss.length).map (fun i => ss.getD i (Str.ofString "")) = ss := by
    apply List.ext_getElem
    · simp
    · intro i h1 h2
      simp [h2]
  rw [e, Bool.eq_iff_iff, List.any_eq_true, List.contains_iff_mem]
  exact ⟨fun ⟨x, hx, e⟩ => beq_iff_eq.mp e ▸ hx, fun h => ⟨k, h, beq_self_eq_true k⟩⟩
theorem call_setS {l : Addr} {vs : List Value} {ss : List Str} {Q : Value → Shared → Prop}
    (hh : A.handled = none) (hl : s.heap.IsList l vs.toArray) (hi : StrsAre vs ss) (hb : vs.length + 1 < 4096)
    (h : ∀ (h' : Heap) (tk c : Nat), h'.SetOf (strKind prog w) s.heap.objs.size (fun k => ss.contains k) c →
      (∀ b o, s.heap.get? b = some o → h'.get? b = some o) → Q (.ref s.heap.objs.size) { s with heap := h', toks := tk }) :
    wpAny (model prog w) A (call (.type "set") [.ref l]) Q E s := by
  have hvl : vs.length = ss.length := StrsAre.length hi
  obtain ⟨c, tl, hmro⟩ := PySem.F.called_set.mro
  have hmade := PySem.F.called_set.made
  have hsub := PySem.F.called_set.sub
  refine wpAny_call (codeAny_of_tree ?_)
  show wpAny _ _ (callAny (.type "set") _) _ _ _
  refine wpAny_pure ⟨Code.quiet_builtin _ (by decide +kernel), codeAny_builtin PySem.F.entry_type_call ?_⟩
  rw [Around.under_plain (weight_type_call_type "set" [.ref l] []) rfl]
  have h1 := PySem.F.called_set.notType
  have h2 := PySem.F.called_set.canCreate
  have hct := PySem.F.typeCall_set_1 (.ref l)
  repeat (any_goals (first | assumption | wp_step))
  refine codeAny_mono (code_set_new_1 (.ref l) (E := E) (Q₁ := fun obj s₁ => ∃ led : Bool, obj = .ref s.heap.objs.size ∧ s₁ = { s with heap := s.heap.push { cls := .type "set", dict := none, data := .set #[] 0 (.fresh 0 0 led) } }) fun led => ⟨led, rfl, rfl⟩) fun r s₁ hr => ?_
  cases r with
  | error e => exact hr
  | ok fl =>
    cases fl with
    | ret obj =>
      obtain ⟨led, rfl, rfl⟩ := hr
      have hS : (s.heap.push { cls := .type "set", dict := none, data := .set #[] 0 (.fresh 0 0 led) }).get? s.heap.objs.size = some { cls := .type "set", dict := none, data := .set #[] 0 (.fresh 0 0 led) } := Heap.get?_push_size _ rfl
      have hT : Shared.TypeIs { s with heap := s.heap.push { cls := .type "set", dict := none, data := .set #[] 0 (.fresh 0 0 led) } } (.ref s.heap.objs.size) "set" := ⟨_, hS, rfl⟩
      have hli := PySem.F.called_set.init.lookup
      have hbi := PySem.F.called_set.init.bind (.ref s.heap.objs.size)
      repeat (any_goals (first | assumption | wp_step))
      refine codeAny_mono (codeAny_call_builtin (R := wants (fun r s₂ => r = .none ∧ ∃ h' tk c, s₂ = { s with heap := h', toks := tk } ∧
          h'.SetOf (strKind prog w) s.heap.objs.size (fun k => ss.contains k) c ∧
          (∀ b o, s.heap.get? b = some o → h'.get? b = some o)) E) PySem.F.called_set.init.plain PySem.F.entry_set_init (check_set_init_1 hT ?_)) fun r₂ s₂ hr₂ => ?_
      · obtain ⟨ol, hol, hcl, nl, hdl⟩ := hl
        obtain ⟨ocls, odict, odata, oslots⟩ := ol
        simp only at hcl hdl
        subst hcl; subst hdl
        have hol' : (s.heap.push { cls := .type "set", dict := none, data := .set #[] 0 (.fresh 0 0 led) }).get? l = some { cls := .type "list", dict := odict, data := .seq vs.toArray nl, slots := oslots } := Heap.get?_push_of_some _ hol
        have hsls := PySem.F.sub_list_set
        have hslf := PySem.F.sub_list_frozenset
        have hne : (Value.type "list" == Value.type "dict") = false := by decide
        have hl1 : (s.heap.push { cls := .type "set", dict := none, data := .set #[] 0 (.fresh 0 0 led) }).IsList l vs.toArray := ⟨_, hol', rfl, nl, rfl⟩
        unfold Builtin.«set.__init__» noKeywords Builtin.Frozenset.updateFrom
        generalize hPI : pyIter = PI
        wp_walk
        subst hPI
        refine wpAny_pyIter_list hl1 ?_
        refine wpAny_bind (wpAny_runValue ?_)
        have hlS : l < s.heap.objs.size := Heap.lt_size hol
        have hh3 : A.in1.in1.in1.handled = none := by simp [hh]
        have hneI : l ≠ (s.heap.push { cls := .type "set", dict := none, data := .set #[] 0 (.fresh 0 0 led) }).objs.size := by
          rw [Heap.size_push]; exact Nat.ne_of_lt (Nat.lt_succ_of_lt hlS)
        have hSf : s.heap.objs.size ∉ [(s.heap.push { cls := .type "set", dict := none, data := .set #[] 0 (.fresh 0 0 led) }).objs.size, l] := by
          rw [Heap.size_push]; simp only [List.mem_cons, List.mem_singleton, List.not_mem_nil, or_false, not_or]
          exact ⟨Nat.ne_of_lt (Nat.lt_succ_self _), Nat.ne_of_gt hlS⟩
        have hval : ∀ (i : Nat) (v : Value), vs.toArray[i]? = some v → ∃ t, v = .str ((fun i => ss.getD i (Str.ofString "")) i) t := fun i v hv =>
          strsAt hi i v (by rw [List.getElem?_toArray] at hv; exact hv)
        refine set_loopS ((Walks.list hh3 _ l hneI vs.toArray).toS) s.heap.objs.size
          hSf (fun i => ss.getD i (Str.ofString "")) hval (by rw [List.size_toArray]; exact hb) (vs.toArray.size - 0) 0 0 _ (by omega) (Nat.zero_le _) (Nat.le_refl _)
          ⟨⟨_, Heap.get?_push_size _ rfl, rfl, rfl⟩, (hl1.push _)⟩ ?hS0 ?hR
        case hS0 =>
          have hget : ((s.heap.push { cls := .type "set", dict := none, data := .set #[] 0 (.fresh 0 0 led) }).push { cls := .type "list_iterator", data := .fields #[.ref l, .int 0 0] }).get? s.heap.objs.size
              = some { cls := .type "set", dict := none, data := .set #[] 0 (.fresh 0 0 led) } := Heap.get?_push_of_some _ hS
          exact SetOf_congr ((setObjOf_fresh (knd := strKind prog w) led).setOf hget (by unfold scanBound; omega)) (fun _ => rfl) rfl
        case hR =>
          intro s' c' _ hm hS'
          have hvz : vs.toArray.size = ss.length := by rw [List.size_toArray]; exact hvl
          rw [hvz] at hS'
          obtain ⟨h', g', d', tk', os'⟩ := s'
          have eg : g' = s.gens := hm.gens
          have ed : d' = s.drawn := hm.drawn
          have eo : os' = s.os := hm.os
          subst eg; subst ed; subst eo
          show wpAny _ _ _ _ _ _
          refine wpAny_pure ?_
          show wpAny _ _ (ret Value.none) _ _ _
          refine wpAny_pure ⟨rfl, h', tk', c', rfl, SetOf_congr hS' (fun k => metS_all ss k) rfl, fun b o e => ?_⟩
          have hb := Heap.lt_size e
          have hb1 : b ≠ s.heap.objs.size := Nat.ne_of_lt hb
          have hb2 : b ≠ (s.heap.push { cls := .type "set", dict := none, data := .set #[] 0 (.fresh 0 0 led) }).objs.size := by
            rw [Heap.size_push]; exact Nat.ne_of_lt (Nat.lt_succ_of_lt hb)
          exact hm.heap b o (by simp only [List.mem_cons, List.mem_singleton, List.not_mem_nil, or_false, not_or]; exact ⟨hb1, hb2⟩) (Heap.get?_push_of_some _ (Heap.get?_push_of_some _ e))
      · cases r₂ with
        | error e => exact hr₂
        | ok fl₂ =>
          cases fl₂ with
          | ret r =>
            obtain ⟨rfl, h', tk, c, rfl, hS', hk'⟩ := hr₂
            repeat (any_goals (first | assumption | wp_step))
            exact h _ _ _ hS' hk'
          | _ => exact hr₂.elim
    | _ => exact hr.elim
end
end Mine
end secMSetS
section secMSetC
namespace Mine
section setfacts
theorem slot_md_get : Slot "method_descriptor" "__get__" "method_descriptor.__get__" :=
  .of (owner := "method_descriptor") (n := "__get__") (by rw [typeLookup_type, builtinLookup_eq_fast]; kernel_rfl) (by decide +kernel) (by decide +kernel) (by decide +kernel)
    (by first | exact .inl (by decide +kernel) | exact .inr (by decide +kernel)) (by rw [isSubtype_type]; kernel_rfl)
theorem md_no_set : typeLookup (.type "method_descriptor") "__set__" = pure none := by rw [typeLookup_type, builtinLookup_eq_fast]; kernel_rfl
theorem md_no_del : typeLookup (.type "method_descriptor") "__delete__" = pure none := by rw [typeLookup_type, builtinLookup_eq_fast]; kernel_rfl
theorem entry_md_get : entryFor table "method_descriptor.__get__" = some Builtin.«method_descriptor.__get__» := entryFor_of_tree (by kernel_rfl)
theorem args_md_get (a b c : Value) : argsOk "method_descriptor.__get__" ⟨[a, b, c], []⟩ := by unfold argsOk; kernel_rfl
theorem typeOf_set_in : typeOf (.builtin "set.__contains__") = pure (.type "method_descriptor") := by show builtinType _ = _; rw [builtinType_eq_fast]; kernel_rfl
theorem lk_set_in : typeLookup (.type "set") "__contains__" = pure (some (.builtin "set.__contains__")) := by rw [typeLookup_type, builtinLookup_eq_fast]; kernel_rfl
theorem owner_set_in : (".".intercalate ("set.__contains__".cutAt '.').dropLast) = "set" := by
  have e0 : "set.__contains__".cutAt '.' = ["set", "__contains__"] := by first | rfl | decide +kernel
  rw [e0]; decide +kernel
theorem sub_set_set : isSubtype (.type "set") (.type "set") = pure true := by rw [isSubtype_type]; kernel_rfl
theorem sub_set_owner : isSubtype (.type "set") (.type (".".intercalate ("set.__contains__".cutAt '.').dropLast)) = pure true := by
  rw [owner_set_in]; exact sub_set_set
theorem told_set_in : Manifest.toldItsClass.contains "set.__contains__" = false := by decide +kernel
end setfacts
noncomputable abbrev boundIn (a : Addr) : Obj := { cls := .type "builtin_function_or_method", data := .fields #[.builtin "set.__contains__", .ref a] }
section
variable {prog : Program} {w : World} {A : Around} {E : Value → Shared → Prop} {h : Heap} {g : Array GenState} {d : Drawn} {t : Nat} {os : OsState} {a : Addr} {o : Obj}
theorem in_get {R : Result → Shared → Prop} (hx : h.get? a = some o) (hc : o.cls = .type "set") (hq : R (.ok (.ret (.ref h.objs.size))) ⟨h.push (boundIn a), g, d, t, os⟩) :
    codeAny (model prog w) A (.call (.builtin "method_descriptor.__get__") ⟨[.builtin "set.__contains__", .ref a, .type "set"], []⟩) R ⟨h, g, d, t, os⟩ := by
  have hT : (⟨h, g, d, t, os⟩ : Shared).TypeIs (.ref a) "set" := ⟨_, hx, hc⟩
  have hT5 : (⟨h, g, d, t, os⟩ : Shared).TypeIs (.builtin "set.__contains__") "method_descriptor" := typeOf_set_in
  have f8 := sub_set_owner
  have f9 := told_set_in
  refine codeAny_call_builtin slot_md_get.plain entry_md_get (slot_md_get.check _ _ _ _ _ _ _ _ hT5 (args_md_get _ _ _) ?_)
  repeat (any_goals (first | assumption | wp_step))
theorem in_entry {tk : Tok} {Q : Fin → Shared → Prop} {es : Array (Int × Value)} {ep : Nat} {tb : SetTable} (hx : h.get? a = some { cls := .type "set", dict := none, data := .set es ep tb, slots := #[] }) (hq : Q (.done (.ret (.ref h.objs.size))) ⟨h.push (boundIn a), g, d, t, os⟩) :
    wpAny (model prog w) A (Builtin.«object.__getattribute__» ⟨[.ref a, .str "__contains__" tk], []⟩) Q E ⟨h, g, d, t, os⟩ := by
  have hT : (⟨h, g, d, t, os⟩ : Shared).TypeIs (.ref a) "set" := ⟨_, hx, rfl⟩
  have hT5 : (⟨h, g, d, t, os⟩ : Shared).TypeIs (.builtin "set.__contains__") "method_descriptor" := typeOf_set_in
  have f4 := lk_set_in
  have f5 := typeOf_set_in
  have f6 := slot_md_get.lookup
  have f7 := md_no_set
  have f8 := md_no_del
  repeat (any_goals (first | assumption | wp_step))
  refine in_get hx rfl ?_
  exact wpAny_pure hq
theorem in_call {tk : Tok} {R : Result → Shared → Prop} {es : Array (Int × Value)} {ep : Nat} {tb : SetTable} (hx : h.get? a = some { cls := .type "set", dict := none, data := .set es ep tb, slots := #[] }) (hq : R (.ok (.ret (.ref h.objs.size))) ⟨h.push (boundIn a), g, d, t, os⟩) :
    codeAny (model prog w) A (.call (.builtin "set.__getattribute__") ⟨[.ref a, .str "__contains__" tk], []⟩) R ⟨h, g, d, t, os⟩ :=
  codeAny_call_builtin PySem.F.slot_set_getattribute.plain PySem.F.entry_set_ga (PySem.F.slot_set_getattribute.check _ _ _ _ _ _ _ _ (show (⟨h, g, d, t, os⟩ : Shared).TypeIs (.ref a) "set" from ⟨_, hx, rfl⟩) (PySem.F.args_set_getattribute_2 _ _) (in_entry hx hq))
theorem in_attr {Q : Value → Shared → Prop} {ex : Bool} {es : Array (Int × Value)} {ep : Nat} {tb : SetTable} (hx : h.get? a = some { cls := .type "set", dict := none, data := .set es ep tb, slots := #[] }) (hq : Q (.ref h.objs.size) ⟨h.push (boundIn a), g, d, t + 1, os⟩) :
    wpAny (model prog w) A (getAttr (.ref a) "__contains__" ex) Q E ⟨h, g, d, t, os⟩ := by
  have hT : ∀ k, (⟨h, g, d, k, os⟩ : Shared).TypeIs (.ref a) "set" := fun k => ⟨_, hx, rfl⟩
  have hT1 := hT t
  have hT2 := hT (t + 1)
  have f2 := PySem.F.slot_set_getattribute.lookup
  have f3 := PySem.F.slot_set_getattribute.bind (.ref a)
  have f4 : onTheHeap (.type "set") = false := rfl
  unfold getAttr getAttrBy
  repeat (any_goals (first | assumption | wp_step))
  rw [if_neg (by cases ex <;> decide)]
  repeat (any_goals (first | assumption | wp_step))
  refine in_call hx ?_
  repeat (any_goals (first | assumption | wp_step))
end
section
variable {prog : Program} {w : World} {A : Around} {E : Value → Shared → Prop} {s : Shared} {a b : Addr}
theorem sig_in : Manifest.signature? "set.__contains__" = some ⟨.oneArg, "set.__contains__", "__contains__", .self, [⟨"object", .posOnly, true⟩]⟩ := by
  rw [signature?_of (id := "set.__contains__") (n := ['_', '_', 's', 'n', 'i', 'a', 't', 'n', 'o', 'c', '_', '_']) (o := ['t', 'e', 's']) (by kernel_rfl) PySem.F.owner_set]; kernel_rfl
theorem kind_in : builtinKind "set.__contains__" = some .method := by decide +kernel
theorem var_in : Manifest.varargsMethods.contains "set.__contains__" = false := by decide +kernel
theorem sub_set_module : isSubtype (.type "set") (.type "module") = pure false := by rw [isSubtype_type]; kernel_rfl
theorem args_in (a v : Value) : Bind.checkArgs "set.__contains__" ⟨.oneArg, toString (Bind.lastOf "set") ++ toString "." ++ toString (Bind.lastOf "set.__contains__"), "__contains__", .self, [⟨"object", .posOnly, true⟩]⟩ ⟨[a, v], []⟩ = pure () := by kernel_rfl
theorem check_in {h : Heap} {g : Array GenState} {d : Drawn} {t : Nat} {os : OsState} {es : Array (Int × Value)} {ep : Nat} {tb : SetTable} {v : Value} {Q : Unit → Shared → Prop} (hx : h.get? a = some { cls := .type "set", dict := none, data := .set es ep tb, slots := #[] }) (hq : Q () ⟨h, g, d, t, os⟩) :
    wpAny (model prog w) A (checkBoundCall "set.__contains__" ⟨[.ref a, v], []⟩) Q E ⟨h, g, d, t, os⟩ := by
  have hT : (⟨h, g, d, t, os⟩ : Shared).TypeIs (.ref a) "set" := ⟨_, hx, rfl⟩
  have f1 := sub_set_module
  have f2 := PySem.F.called_set.notType
  unfold checkBoundCall
  rw [sig_in, kind_in]
  dsimp only
  rw [if_neg (by decide)]
  refine wpAny_bind (wpAny_isInstance hT f1 ?_)
  rw [var_in, if_neg (by decide)]
  repeat (any_goals (first | assumption | wp_step))
end
end Mine
end secMSetC
section secMSetD
namespace Mine
section
variable {prog : Program} {w : World} {A : Around} {E : Value → Shared → Prop} {s : Shared} {a b : Addr}
theorem quiet_in (x : Args) : (Code.builtin "set.__contains__" x).quiet = true := Code.quiet_builtin _ (by decide +kernel)
theorem call_in {S : Str → Bool} {n : Nat} {x : Str} {tx : Tok} {Q : Value → Shared → Prop} (hb : s.heap.get? b = some (boundIn a)) (hS : s.heap.SetOf (strKind prog w) a S n)
    (h : Q (.bool (S x)) { s with toks := s.toks + 1 }) : wpAny (model prog w) A (call (.ref b) [.str x tx]) Q E s := by
  obtain ⟨⟨c, dct, dt, sl⟩, es, ep, tb, ho, ⟨h1, h2, h3⟩, hd, hrest⟩ := id hS
  replace h1 : c = .type "set" := h1
  replace h2 : dct = none := h2
  replace h3 : sl = #[] := h3
  replace hd : dt = .set es ep tb := hd
  subst h1 h2 h3 hd
  refine wpAny_call (codeAny_of_tree ?_)
  show wpAny _ _ (callAny (.ref b) _) _ _ _
  unfold callAny
  refine wpAny_bind (wpAny_load hb ?_)
  dsimp only
  rw [if_pos (by decide)]
  show wpAny _ _ (checkBoundCall "set.__contains__" ⟨[.ref a, .str x tx], []⟩ >>= fun _ => again (Code.builtin "set.__contains__" ⟨[.ref a, .str x tx], []⟩)) _ _ _
  obtain ⟨hp, g, d, tk, os⟩ := s
  refine wpAny_bind (check_in ho ?_)
  refine wpAny_pure ⟨quiet_in _, codeAny_builtin entry_set_contains ?_⟩
  unfold Builtin.«frozenset.__contains__» Builtin.Frozenset.oneOther
  simp only [List.isEmpty_nil, bind_assoc]
  unfold Builtin.Frozenset.addrOf Builtin.Frozenset.withSetAsKey setContains
  refine wpAny_bind (wpAny_pure ?_)
  try dsimp only
  refine wpAny_bind (wpAny_pure ?_)
  try dsimp only
  refine wpAny_bind (wpAny_tryCatch ?_)
  refine wpAny_holding ?_
  refine wpAny_bind ((strKind prog w).pyHash (strKind_is _ _ _ _) ?_)
  refine wpAny_bind (wpAny_setFind_of (s := ⟨hp, g, d, tk + 1, os⟩) (knd := strKind prog w) (strKind_is _ _ _ _) rfl hS fun r hr => ?_)
  refine wpAny_pure ?_
  show wpAny _ _ (ret (Value.bool r.isSome)) _ _ _
  rw [hr]
  exact wpAny_pure h
end
end Mine
namespace Mine
theorem attr_in {prog : Program} {w : World} {A : Around} {E : Value → Shared → Prop} {s : Shared} {a : Addr} {S : Str → Bool} {n : Nat} {ex : Bool} {Q : Value → Shared → Prop} (hS : s.heap.SetOf (strKind prog w) a S n)
    (h : ∀ h' tk, h'.get? s.heap.objs.size = some (boundIn a) → Ext s.heap h' → Q (.ref s.heap.objs.size) { s with heap := h', toks := tk }) : wpAny (model prog w) A (getAttr (.ref a) "__contains__" ex) Q E s := by
  obtain ⟨⟨c, dct, dt, sl⟩, es, ep, tb, ho, ⟨h1, h2, h3⟩, hd, hrest⟩ := id hS
  replace h1 : c = .type "set" := h1
  replace h2 : dct = none := h2
  replace h3 : sl = #[] := h3
  replace hd : dt = .set es ep tb := hd
  subst h1 h2 h3 hd
  obtain ⟨hp, g, d, tk, os⟩ := s
  exact in_attr ho (h _ _ (Heap.get?_push_size _ rfl) fun b o e => Heap.get?_push_of_some _ e)
theorem SetOf.ext {prog : Program} {w : World} {h h' : Heap} {a : Addr} {S : Str → Bool} {n : Nat} (hS : h.SetOf (strKind prog w) a S n) (e : Ext h h') : h'.SetOf (strKind prog w) a S n := by
  obtain ⟨o, es, ep, t, ho, rest⟩ := hS
  exact ⟨o, es, ep, t, e _ _ ho, rest⟩
end Mine
end secMSetD
section secMFilt
namespace Mine
section filtfacts
theorem slot_filter_init : Slot "filter" "__init__" "object.__init__" :=
  .of (owner := "object") (n := "__init__") (by rw [typeLookup_type, builtinLookup_eq_fast]; kernel_rfl) (by decide +kernel) (by decide +kernel) (by decide +kernel)
    (by first | exact .inl (by decide +kernel) | exact .inr (by decide +kernel)) (by rw [isSubtype_type]; kernel_rfl)
theorem slot_filter_iter : Slot "filter" "__iter__" "filter.__iter__" :=
  .of (owner := "filter") (n := "__iter__") (by rw [typeLookup_type, builtinLookup_eq_fast]; kernel_rfl) (by decide +kernel) (by decide +kernel) (by decide +kernel)
    (by first | exact .inl (by decide +kernel) | exact .inr (by decide +kernel)) (by rw [isSubtype_type]; kernel_rfl)
theorem slot_filter_next : Slot "filter" "__next__" "filter.__next__" :=
  .of (owner := "filter") (n := "__next__") (by rw [typeLookup_type, builtinLookup_eq_fast]; kernel_rfl) (by decide +kernel) (by decide +kernel) (by decide +kernel)
    (by first | exact .inl (by decide +kernel) | exact .inr (by decide +kernel)) (by rw [isSubtype_type]; kernel_rfl)
theorem entry_filter_next : entryFor table "filter.__next__" = some Builtin.«filter.__next__» := entryFor_of_tree (by kernel_rfl)
theorem entry_filter_new : entryFor table "filter.__new__" = some Builtin.«filter.__new__» := entryFor_of_tree (by kernel_rfl)
theorem entry_filter_iter : entryFor table "filter.__iter__" = some Builtin.«dict_keyiterator.__iter__» :=
  entryFor_alias (id' := "dict_keyiterator.__iter__") (by kernel_rfl) (by first | rfl | decide +kernel | (unfold String.splitOn; simp +decide [String.splitOnAux])) (by decide +kernel) (by kernel_rfl)
theorem args_filter_next (a : Value) : argsOk "filter.__next__" ⟨[a], []⟩ := by unfold argsOk; kernel_rfl
theorem args_filter_iter (a : Value) : argsOk "filter.__iter__" ⟨[a], []⟩ := by unfold argsOk; kernel_rfl
theorem mro_filter : mroOf (.type "filter") = pure [.type "filter", .type "object"] := by rw [mroOf_type]; kernel_rfl
theorem lookup_filter_new : typeLookup (.type "filter") "__new__" = pure (some (.builtin "filter.__new__")) := by rw [typeLookup_type, builtinLookup_eq_fast]; kernel_rfl
theorem called_filter : TypeCalled "filter" "filter.__new__" "object.__init__" :=
  ⟨by decide +kernel, by decide +kernel, ⟨_, _, mro_filter⟩, madeBy_type mro_filter lookup_filter_new (by decide +kernel), by decide +kernel, by rw [isSubtype_type]; kernel_rfl, slot_filter_init⟩
theorem typeCall_filter_2 (a b : Value) : checkTypeCall "filter" ⟨[a, b], []⟩ = pure () := by kernel_rfl
theorem newCall_filter_2 (a b : Value) : checkBuiltinCall "filter.__new__" ⟨[.type "filter", a, b], []⟩ = pure () := by kernel_rfl
theorem sub_filter : isSubtype (.type "filter") (.type "filter") = pure true := by rw [isSubtype_type]; kernel_rfl
theorem filter_no_len : typeLookup (.type "filter") "__len__" = pure none := by rw [typeLookup_type, builtinLookup_eq_fast]; kernel_rfl
theorem filter_no_hint : typeLookup (.type "filter") "__length_hint__" = pure none := by rw [typeLookup_type, builtinLookup_eq_fast]; kernel_rfl
theorem plain_filter_next : plainId "filter.__next__" = true := by decide +kernel
end filtfacts
noncomputable abbrev filtObj (f : Value) (it : Addr) : Obj := { cls := .type "filter", data := .fields #[f, .ref it] }
theorem meets_filter_new (f : Value) (l : Addr) (items : Array Value) (n : Nat) (dct : Option Addr) (sl : Array (Option Value)) :
    Meets (Builtin.«filter.__new__» ⟨[.type "filter", f, .ref l], []⟩) (fun _ R s => s.heap.get? l = some { cls := .type "list", dict := dct, data := .seq items n, slots := sl } ∧
      R (.ok (.ret (.ref (s.heap.push { cls := .type "list_iterator", data := .fields #[.ref l, .int 0 0] }).objs.size)))
        { s with heap := (s.heap.push { cls := .type "list_iterator", data := .fields #[.ref l, .int 0 0] }).push (filtObj f s.heap.objs.size) }) :=
  .of_wp fun prog w A R s h => by
    obtain ⟨hp, g, d, tk, os⟩ := s; obtain ⟨hl, h⟩ := h
    have hsub := sub_filter
    have hL : Heap.IsList (Shared.heap ⟨hp, g, d, tk, os⟩) l items := ⟨_, hl, rfl, n, rfl⟩
    unfold Builtin.«filter.__new__»
    refine wpAny_bind ?_
    wp_walk using wpAny_pyIter_list hL
    exact ⟨_, rfl, h⟩
theorem call_filter {prog : Program} {w : World} {A : Around} {E : Value → Shared → Prop} {s : Shared} {f : Value} {l : Addr} {items : Array Value} {Q : Value → Shared → Prop} (hL : s.heap.IsList l items)
    (h : ∀ h', h'.get? (s.heap.objs.size + 1) = some (filtObj f s.heap.objs.size) → h'.IsListIter s.heap.objs.size l 0 → h'.objs.size = s.heap.objs.size + 2 →
      Ext s.heap h' → Q (.ref (s.heap.objs.size + 1)) { s with heap := h' }) :
    wpAny (model prog w) A (call (.type "filter") [f, .ref l]) Q E s := by
  obtain ⟨⟨c, dct, dt, sl⟩, hl, hc, n, hd⟩ := hL
  replace hc : c = .type "list" := hc
  replace hd : dt = .seq items n := hd
  subst hc hd
  refine callType_new called_filter (by decide) (typeCall_filter_2 _ _) (newCall_filter_2 _ _) (fun obj => F.args_object_init_3 obj _ _) entry_filter_new
    (meets_filter_new f l items n dct sl) ⟨hl, ?_⟩
  have hz : (s.heap.push { cls := .type "list_iterator", data := .fields #[.ref l, .int 0 0] }).objs.size = s.heap.objs.size + 1 := Heap.size_push ..
  show _ ∧ _
  rw [hz]
  have h1 := Heap.get?_push_size (s.heap.push { cls := .type "list_iterator", data := .fields #[.ref l, .int 0 0] }) (o := filtObj f s.heap.objs.size) rfl
  rw [hz] at h1
  refine ⟨⟨_, h1, rfl⟩, h _ h1 ⟨_, Heap.get?_push_of_some _ (Heap.get?_push_size _ rfl), rfl, rfl⟩ (by rw [Heap.size_push, hz]) fun b o e => Heap.get?_push_of_some _ (Heap.get?_push_of_some _ e)⟩
end Mine
end secMFilt
section secMFilt2
namespace Mine
section
variable {prog : Program} {w : World} {A : Around} {E : Value → Shared → Prop} {s : Shared}
theorem sp_item {it l : Addr} {i : Nat} {items : Array Value} {x : Value} {Q : Option Value → Shared → Prop} (hit : s.heap.IsListIter it l i)
    (hl : s.heap.IsList l items) (hx : items[i]? = some x) (hQ : ∀ h', h'.IsListIter it l (i + 1) → Heap.SameBut it s.heap h' → Q (some x) { s with heap := h' }) :
    wpAny (model prog w) A (callSpecial? (.ref it) (Str.ofString "__next__")) Q E s := by
  obtain ⟨o, ho, hc, hd⟩ := id hit
  obtain ⟨ol, hol, _, nl, hdl⟩ := hl
  refine wpAny_callSpecial?_slot (name := Str.ofString "__next__") hit.typeIs slot_listiter_next
    (wpAny_call_entry slot_listiter_next hit.typeIs entry_listiter_next ?_ (args_listiter_next _))
  show wpAny _ _ (field (.ref it) 0 >>= _) _ _ s
  refine wpAny_bind (wpAny_field ho hd (x := .ref l) rfl ?_)
  show wpAny _ _ (if (Value.ref l == Value.none) = true then _ else _) _ _ s
  rw [if_neg (show ¬ ((Value.ref l == Value.none) = true) from Bool.false_ne_true)]
  show wpAny _ _ (field (.ref it) 1 >>= _) _ _ s
  refine wpAny_bind (wpAny_field ho hd (x := .int i 0) rfl ?_)
  show wpAny _ _ (seqItems? (.ref l) >>= _) _ _ s
  refine wpAny_bind (wpAny_seqItems hol hdl ?_)
  simp only [Int.toNat_natCast, hx]
  refine wpAny_bind (wpAny_setField ho hd (by simp) (wpAny_pure ⟨x, rfl, hQ _ ?_ (Heap.SameBut.update ..)⟩))
  exact ⟨_, Heap.get?_update_self _ ho (Obj.isFreed_of_fields (Obj.data_mapFields hd _)), (Obj.cls_mapFields ..).trans hc, by
    rw [Obj.data_mapFields hd]; simp [rawInt]⟩
theorem sp_end {it l : Addr} {i : Nat} {items : Array Value} {Q : Option Value → Shared → Prop} (hh : A.handled = none)
    (hit : s.heap.IsListIter it l i) (hl : s.heap.IsList l items) (hx : items[i]? = none)
    (hE : ∀ h' e, Heap.ExtBut it s.heap h' → (∃ o, h'.get? e = some o ∧ o.cls = .type "StopIteration") → E (.ref e) { s with heap := h' }) :
    wpAny (model prog w) A (callSpecial? (.ref it) (Str.ofString "__next__")) Q E s := by
  obtain ⟨o, ho, hc, hd⟩ := id hit
  obtain ⟨ol, hol, _, nl, hdl⟩ := hl
  refine wpAny_callSpecial?_slot (name := Str.ofString "__next__") hit.typeIs slot_listiter_next
    (wpAny_call_entry slot_listiter_next hit.typeIs entry_listiter_next ?_ (args_listiter_next _))
  show wpAny _ _ (field (.ref it) 0 >>= _) _ _ s
  refine wpAny_bind (wpAny_field ho hd (x := .ref l) rfl ?_)
  show wpAny _ _ (if (Value.ref l == Value.none) = true then _ else _) _ _ s
  rw [if_neg (show ¬ ((Value.ref l == Value.none) = true) from Bool.false_ne_true)]
  show wpAny _ _ (field (.ref it) 1 >>= _) _ _ s
  refine wpAny_bind (wpAny_field ho hd (x := .int i 0) rfl ?_)
  show wpAny _ _ (seqItems? (.ref l) >>= _) _ _ s
  refine wpAny_bind (wpAny_seqItems hol hdl ?_)
  simp only [Int.toNat_natCast, hx]
  refine wpAny_bind (wpAny_rule (wpAny_bind (wpAny_setField ho hd (by simp) ?_)))
  show wpAny _ _ (newExc (.type "StopIteration") [] >>= _) _ _ _
  refine wpAny_bind ?_
  simp only [newExc, newTuple]
  refine wpAny_bind (wpAny_newObj_type ?_ (by size_fits))
  refine wpAny_bind (m := firstArgMember _ _) (wpAny_of_eq (a := Value.none) (by first | rfl | (simp only [firstArgMember]; rfl)) ?_)
  refine wpAny_newObj_type ?_ (by size_fits)
  simp only [raiseNew]
  refine wpAny_bind (wpAny_handled ?_)
  first | rw [show A.in1.handled = none from hh] | rw [hh]
  refine wpAny_bind (wpAny_pure (wpAny_throw ?_))
  exact hE _ _ (((Heap.SameBut.update ..).extBut.push _).push _) ⟨_, Heap.get?_push_size _ rfl, rfl⟩
end
/-- what filter's next does from place j on -/
theorem filt_code {prog : Program} {w : World} {A : Around} (hh : A.handled = none) {h₀ : Heap} {I it l fb : Addr} {items : Array Value} {keep : Value → Bool}
    (hI : h₀.get? I = some (filtObj (.ref fb) it)) (hl : h₀.IsList l items) (n1 : I ≠ it) (n3 : l ≠ it)
    (hf : ∀ (i : Nat) x (s : Shared) (Q E : Value → Shared → Prop), items[i]? = some x → OffIt it h₀ s.heap → (∀ h' tk, Ext s.heap h' → Q (.bool (keep x)) { s with heap := h', toks := tk }) → wpAny (model prog w) A.in1 (call (.ref fb) [x]) Q E s) :
    ∀ (k j : Nat) (s : Shared) (R : Result → Shared → Prop), items.size - j = k → OffIt it h₀ s.heap → s.heap.IsListIter it l j →
      (∀ j' v h' tk, j ≤ j' → items[j']? = some v → keep v = true → (∀ q x, j ≤ q → q < j' → items[q]? = some x → keep x = false) → OffIt it h₀ h' → h'.IsListIter it l (j' + 1) → OffIt it s.heap h' → R (.ok (.ret v)) { s with heap := h', toks := tk }) →
      (∀ h' e tk, (∀ q x, j ≤ q → items[q]? = some x → keep x = false) → OffIt it s.heap h' → (∃ o, h'.get? e = some o ∧ o.cls = .type "StopIteration") → R (.error (.ref e)) { s with heap := h', toks := tk }) →
      codeAny (model prog w) A (.builtin "filter.__next__" ⟨[.ref I], []⟩) R s := by
  intro k
  induction k with
  | zero =>
    intro j s R hk ho hit hfound hend
    have hIs := ho I _ n1 hI
    have hls : s.heap.IsList l items := hl.at fun o e => ho l o n3 e
    refine codeAny_builtin entry_filter_next ?_
    rw [Around.under_plainId plain_filter_next _]
    show wpAny _ _ (field (.ref I) 0 >>= _) _ _ _
    refine wpAny_bind (wpAny_field hIs rfl (x := .ref fb) rfl ?_)
    refine wpAny_bind (wpAny_field hIs rfl (x := .ref it) rfl ?_)
    refine wpAny_bind (sp_end (A := A.in1) hh hit hls (by simp; omega) fun h' e he hx => ?_)
    exact hend h' e s.toks (fun q x hq hx => by have := (Array.getElem?_eq_some_iff.mp hx).1; omega) (fun b o hb e => he b o hb e) hx
  | succ k ih =>
    intro j s R hk ho hit hfound hend
    have hIs := ho I _ n1 hI
    have hls : s.heap.IsList l items := hl.at fun o e => ho l o n3 e
    have hj : j < items.size := by omega
    have hx : items[j]? = some items[j] := by simp [hj]
    refine codeAny_builtin entry_filter_next ?_
    rw [Around.under_plainId plain_filter_next _]
    show wpAny _ _ (field (.ref I) 0 >>= _) _ _ _
    refine wpAny_bind (wpAny_field hIs rfl (x := .ref fb) rfl ?_)
    refine wpAny_bind (wpAny_field hIs rfl (x := .ref it) rfl ?_)
    refine wpAny_bind (sp_item hit hls hx fun h₁ hit₁ hs₁ => ?_)
    dsimp only
    have ho₁ : OffIt it h₀ h₁ := fun b o hb e => hs₁.extBut b o hb (ho b o hb e)
    refine wpAny_bind (wpAny_holding ?_)
    rw [if_neg (by simp [BEq.beq])]
    refine wpAny_bind (hf j _ _ _ _ hx ho₁ fun h₂ tk₂ he₂ => ?_)
    refine wpAny_holding (wpAny_truthy_bool ?_)
    have hk2 : OffIt it s.heap h₂ := fun b o hb e => he₂ b o (hs₁.extBut b o hb e)
    have hit₂ : h₂.IsListIter it l (j + 1) := hit₁.at fun o e => he₂ it o e
    have ho₂ : OffIt it h₀ h₂ := fun b o hb e => he₂ b o (ho₁ b o hb e)
    cases hkp : keep items[j] with
    | true =>
      rw [if_pos rfl]
      exact wpAny_pure (hfound j _ h₂ tk₂ (Nat.le_refl _) hx hkp (fun q x h1 h2 => by omega) ho₂ hit₂ hk2)
    | false =>
      rw [if_neg (by decide)]
      refine wpAny_pure ⟨plainId_quiet plain_filter_next _, ih (j + 1) _ R (by omega) ho₂ hit₂ ?_ ?_⟩
      · intro j' v h' tk h1 h2 h3 h4 h5 h6 h7
        refine hfound j' v h' tk (by omega) h2 h3 (fun q x q1 q2 q3 => ?_) h5 h6 (fun b o hb e => h7 b o hb (hk2 b o hb e))
        by_cases hq : q = j
        · subst hq; rw [hx] at q3; cases q3; exact hkp
        · exact h4 q x (by omega) q2 q3
      · intro h' e tk h1 h2 h3
        refine hend h' e tk (fun q x q1 q3 => ?_) (fun b o hb e => h2 b o hb (hk2 b o hb e)) h3
        by_cases hq : q = j
        · subst hq; rw [hx] at q3; cases q3; exact hkp
        · exact h1 q x (by omega) q3
end Mine
end secMFilt2
section secMFilt3
namespace Mine
theorem filt_none {α : Type} {p : α → Bool} {xs : List α} {j j' : Nat} (h : j ≤ j') (hn : ∀ q x, j ≤ q → q < j' → xs[q]? = some x → p x = false) : (xs.take j').filter p = (xs.take j).filter p := by
  have e : xs.take j' = xs.take j ++ (xs.take j').drop j := by
    conv => lhs; rw [← List.take_append_drop j (xs.take j')]
    rw [List.take_take, Nat.min_eq_left h]
  rw [e, List.filter_append]
  have : ((xs.take j').drop j).filter p = [] := by
    rw [List.filter_eq_nil_iff]
    intro x hx
    obtain ⟨q, hq⟩ := List.getElem?_of_mem hx
    rw [List.getElem?_drop, List.getElem?_take] at hq
    by_cases h2 : j + q < j'
    · rw [if_pos h2] at hq
      rw [hn (j + q) x (by omega) h2 hq]; decide
    · rw [if_neg h2] at hq; cases hq
  rw [this, List.append_nil]
theorem filt_step {α : Type} {p : α → Bool} {xs : List α} {j j' : Nat} {v : α} (h : j ≤ j') (hv : xs[j']? = some v) (hp : p v = true) (hn : ∀ q x, j ≤ q → q < j' → xs[q]? = some x → p x = false) :
    (xs.take (j' + 1)).filter p = (xs.take j).filter p ++ [v] := by
  rw [List.take_add_one, hv, List.filter_append, filt_none h hn]
  simp [hp]
theorem filt_pre {α : Type} {p : α → Bool} (xs : List α) (j : Nat) : xs.filter p = (xs.take j).filter p ++ (xs.drop j).filter p := by
  rw [← List.filter_append, List.take_append_drop]
theorem walks_filter {prog : Program} {w : World} {A : Around} (hh : A.handled = none) {h₀ : Heap} {I it l fb : Addr} {vs : List Value} {keep : Value → Bool}
    (hI : h₀.get? I = some (filtObj (.ref fb) it)) (hl : h₀.IsList l vs.toArray) (hit : it < h₀.objs.size) (n1 : I ≠ it) (n3 : l ≠ it)
    (hf : ∀ (i : Nat) x (s : Shared) (Q E : Value → Shared → Prop), vs[i]? = some x → OffIt it h₀ s.heap → (∀ h' tk, Ext s.heap h' → Q (.bool (keep x)) { s with heap := h', toks := tk }) → wpAny (model prog w) A.in1 (call (.ref fb) [x]) Q E s) :
    Walks prog w A I (List.range h₀.objs.size) [it] (vs.filter keep).length (fun i v => (vs.filter keep)[i]? = some v) (fun i h => OffIt it h₀ h ∧ ∃ j, h.IsListIter it l j ∧ ((vs.take j).filter keep).length = i) where
  sub := fun b hb => by rw [List.mem_singleton.mp hb]; exact List.mem_range.mpr hit
  frame := fun i h h' st hk => ⟨fun b o hb e => hk b (List.mem_range.mpr (Heap.lt_size e)) o (st.1 b o hb e), st.2.choose, st.2.choose_spec.1.at fun o e => hk it (List.mem_range.mpr hit) o e, st.2.choose_spec.2⟩
  item := fun i s Q E hi st hQ => by
    obtain ⟨ho, j, hij, hlen⟩ := st
    have hIs := ho I _ n1 hI
    have hT : s.TypeIs (.ref I) "filter" := ⟨_, hIs, rfl⟩
    unfold pyNext
    refine wpAny_bind (wpAny_attempt (wpAny_callSpecial?_slot (name := Str.ofString "__next__") hT slot_filter_next (wpAny_call ?_)))
    refine codeAny_call_builtin_code (plainId_quiet plain_filter_next _) (slot_filter_next.check _ _ _ _ _ _ _ _ hT (args_filter_next _) ?_)
    refine filt_code hh hI hl n1 n3 (fun i x s Q E hx => hf i x s Q E (by rw [List.getElem?_toArray] at hx; exact hx)) _ j s _ rfl ho hij ?_ ?_
    · intro j' v h' tk h1 h2 h3 h4 h5 h6 h7
      simp only [List.getElem?_toArray] at h2 h4
      have hs := filt_step h1 h2 h3 h4
      refine wpAny_pure (hQ v h' tk ?_ ⟨h5, j' + 1, h6, ?_⟩ fun b o hb e => h7 b o (fun e' => hb (List.mem_singleton.mpr e')) e)
      · rw [filt_pre vs (j' + 1), hs, ← hlen]; simp
      · rw [hs, List.length_append, hlen]; rfl
    · intro h' e tk h1 _ _
      exfalso
      have := filt_none (xs := vs) (p := keep) (j := j) (j' := max j vs.length) (by omega) (fun q x q1 _ q3 => h1 q x q1 (by rw [List.getElem?_toArray]; exact q3))
      rw [List.take_of_length_le (by omega)] at this
      rw [this, hlen] at hi
      omega
  done := fun s Q E st hQ => by
    obtain ⟨ho, j, hij, hlen⟩ := st
    have hIs := ho I _ n1 hI
    have hT : s.TypeIs (.ref I) "filter" := ⟨_, hIs, rfl⟩
    unfold pyNext
    refine wpAny_bind (wpAny_attempt (wpAny_callSpecial?_slot (name := Str.ofString "__next__") hT slot_filter_next (wpAny_call ?_)))
    refine codeAny_call_builtin_code (plainId_quiet plain_filter_next _) (slot_filter_next.check _ _ _ _ _ _ _ _ hT (args_filter_next _) ?_)
    refine filt_code hh hI hl n1 n3 (fun i x s Q E hx => hf i x s Q E (by rw [List.getElem?_toArray] at hx; exact hx)) _ j s _ rfl ho hij ?_ ?_
    · intro j' v h' tk h1 h2 h3 h4 _ _ _
      exfalso
      simp only [List.getElem?_toArray] at h2 h4
      have hs := congrArg List.length (filt_pre (p := keep) vs (j' + 1))
      rw [filt_step h1 h2 h3 h4, List.length_append, List.length_append, hlen] at hs
      simp at hs
      omega
    · intro h' e tk h1 h2 ⟨o, ho, hc⟩
      show wpAny _ _ _ _ _ _
      refine wpAny_bind (wpAny_isInstance (T := "StopIteration") (b := true) ⟨o, ho, hc⟩ isSubtype_stop ?_)
      exact wpAny_pure (hQ h' tk fun b o hb e => h2 b o (fun e' => hb (List.mem_singleton.mpr e')) e)
  self := fun i s Q E st hQ => by
    have hIs := st.1 I _ n1 hI
    have hT : s.TypeIs (.ref I) "filter" := ⟨_, hIs, rfl⟩
    refine wpAny_pyIter_slot hT slot_filter_iter (wpAny_call_entry slot_filter_iter hT entry_filter_iter ?_ (args_filter_iter _))
    show wpAny _ _ (ret (.ref I)) _ _ s
    exact wpAny_pure ⟨_, rfl, "filter", _, hT, slot_filter_next.lookup, hQ⟩
end Mine
namespace Mine
theorem itemsOf_list {xs : List Value} {acc : Array Value} (h : ItemsOf (fun i v => xs[i]? = some v) acc xs.length) : acc = xs.toArray := by
  apply Array.ext'
  apply List.ext_getElem?
  intro i
  rw [Array.getElem?_toList]
  by_cases hi : i < acc.size
  · have e : acc[i]? = some acc[i] := by simp [hi]
    rw [e]
    exact (h.2 i _ e).symm
  · have h2 := h.1
    rw [Array.getElem?_eq_none (by omega), List.getElem?_eq_none (by simp; omega)]
theorem call_list_filter {prog : Program} {w : World} {A : Around} {E : Value → Shared → Prop} {s : Shared} {h₁ : Heap} {l fb : Addr} {vs : List Value} {keep : Value → Bool} {Q : Value → Shared → Prop}
    (hh : A.handled = none) (e1 : Ext h₁ s.heap) (hz : s.heap.objs.size = h₁.objs.size + 2) (hM : s.heap.get? (h₁.objs.size + 1) = some (filtObj (.ref fb) h₁.objs.size))
    (hIt : s.heap.IsListIter h₁.objs.size l 0) (hl : h₁.IsList l vs.toArray) (hn : vs.length ≤ 1000)
    (hf : ∀ (i : Nat) x (s' : Shared) (Q E : Value → Shared → Prop), vs[i]? = some x → Ext h₁ s'.heap → (∀ h' tk, Ext s'.heap h' → Q (.bool (keep x)) { s' with heap := h', toks := tk }) → wpAny (model prog w) A.in1.in1.in1 (call (.ref fb) [x]) Q E s')
    (hQ : ∀ h' tk c, Ext h₁ h' → h₁.get? s.heap.objs.size = none → h'.get? s.heap.objs.size = some (W.listOf (vs.filter keep).toArray c) → Q (.ref s.heap.objs.size) { s with heap := h', toks := tk }) :
    wpAny (model prog w) A (call (.type "list") [.ref (h₁.objs.size + 1)]) Q E s := by
  have nin : ∀ b o, h₁.get? b = some o → b ≠ h₁.objs.size := fun b o e => Nat.ne_of_lt (Heap.lt_size e)
  have hl1 : l ≠ h₁.objs.size := by obtain ⟨o, ho, _⟩ := hl; exact nin _ _ ho
  have W := walks_filter (prog := prog) (w := w) (A := A.in1.in1) (keep := keep) hh hM (hl.at fun o e => e1 l o e) (lt_add _ _ 1 hz) (ne_add _ 0) hl1
    (fun i x s' Q E hx ho hq => hf i x s' Q E hx (fun b o e => ho b o (nin b o e) (e1 b o e)) hq)
  refine call_list_walk W (T := "filter") (fun s' st => ⟨_, st.1 _ _ (ne_add _ 0) hM, rfl⟩) (by decide) (by decide) filter_no_len filter_no_hint ⟨fun _ _ _ e => e, 0, hIt, rfl⟩ (by have := List.length_filter_le keep vs; rw [sizeLine_eq]; omega) (List.mem_range.mpr (by rw [hz]; exact Nat.lt_succ_self _)) (fun b hb => List.mem_range.mp hb) ?_
  intro h' tk acc c hk hS hacc
  rw [itemsOf_list hacc] at hS
  refine hQ h' tk c (fun b o e => hk b o (fun hm => nin b o e (List.mem_singleton.mp hm)) (e1 b o e)) ?_ hS
  cases hq : h₁.get? s.heap.objs.size with
  | none => rfl
  | some o => exact absurd (Heap.lt_size hq) (by rw [hz]; exact Nat.not_lt.mpr (Nat.le_add_right _ _))
end Mine
end secMFilt3
section secMLoop
open PySem PySem.W PyProof.Rows PySem.Calls PySem.Spec PyProof.V
namespace Mine
section
variable {prog : Program} {w : World} {A : Around} {E : Value → Shared → Prop} {s : Shared} {env : Env} {h₀ : Heap} {x : Str} {body : List Stmt} {Q : Flow → Shared → Prop}
/-- a loop over a list of the base's, whatever its items, the ledger may grow -/
theorem iter_anyG {l : Addr} {vs : List Value} {m₀ : Str → Option Value} {news : List (Addr × Obj)} (J : Nat → (Str → Option Value) → List (Addr × Obj) → Prop)
    (hh : A.handled = none) (hl : h₀.IsList l vs.toArray) (F : Fr h₀ env.locals s.heap m₀) (N : News h₀ env.locals s.heap news) (hj : J 0 m₀ news)
    (turn : ∀ i v m₁ news₁ h tk own, vs[i]? = some v → OwnOff own (news₁.map (·.1)) → J i m₁ news₁ → Fr h₀ env.locals h (fun y => if y = x then some v else m₁ y) → News h₀ env.locals h (news₁ ++ own) →
      wpAny (model prog w) A (execs body env) (InvPostG h₀ env.locals (J (i + 1)) own { s with heap := h, toks := tk } Q) E { s with heap := h, toks := tk })
    (done : ∀ m₁ news₁ h tk, J vs.length m₁ news₁ → Fr h₀ env.locals h m₁ → News h₀ env.locals h news₁ → Q .next { s with heap := h, toks := tk }) :
    wpAny (model prog w) A (pyIter (.ref l)) (fun it s₂ => LoopAtV prog w A h₀ env x body Q E it s₂) E s := by
  have hls : s.heap.IsList l vs.toArray := hl.at fun o e => F.keep l o e
  obtain ⟨ol, hol, _⟩ := id hl
  have hlt : l < h₀.objs.size := Heap.lt_size hol
  have hne : l ≠ s.heap.objs.size := Nat.ne_of_lt (Nat.lt_trans (Nat.lt_of_lt_of_le hlt F.above) F.ns.lt)
  refine wpAny_pyIter_list hls ?_
  have Wk := Walks.list (prog := prog) (w := w) hh s.heap.objs.size l hne vs.toArray
  have hlen : vs.toArray.size = vs.length := by simp
  rw [hlen] at Wk
  refine ⟨_, _, _, vs.length, _, _, m₀, news, J, rfl, Wk, ?_, ?_, ?_, ⟨⟨_, Heap.get?_push_size _ rfl, rfl, rfl⟩, hls.at fun o e => Heap.get?_push_of_some _ e⟩, F.push _, (fun p hp => ⟨Heap.get?_push_of_some _ (N p hp).1, (N p hp).2⟩), hj, ?_, ?_⟩
  · intro hm
    rcases List.mem_cons.mp hm with e | hm
    · exact absurd F.ns.lt (e ▸ Nat.lt_irrefl _)
    · exact absurd (Nat.lt_of_lt_of_le hlt F.above) ((List.mem_singleton.mp hm) ▸ Nat.lt_irrefl _)
  · intro b hb
    rw [List.mem_singleton.mp hb]
    exact next_is_new F
  · intro p hp hI
    exact absurd (Heap.lt_size (N p hp).1) ((List.mem_singleton.mp hI) ▸ Nat.lt_irrefl _)
  · rintro i v m₁ news₁ s₁ own ⟨hh', tk', rfl⟩ hin hP hJ hoff hown _ hfp hst F₁ N₁
    have hI0 : h₀.get? s.heap.objs.size = none := next_is_new F
    obtain ⟨⟨oI, hoI, _⟩, _⟩ := id hst
    have hIown : (s.heap.objs.size, oI) ∈ own := hfp _ (List.mem_cons.mpr (.inl rfl)) hI0 _ hoI
    have hsep : OwnOff own (news₁.map (·.1)) := by
      intro p hp b hb e
      obtain ⟨q, hq, rfl⟩ := List.mem_map.mp hb
      rcases List.mem_cons.mp (hown p hp) with h1 | h1
      · exact hoff q hq (List.mem_singleton.mpr (e ▸ h1))
      · have h2 := List.mem_singleton.mp h1
        have h3 := (N₁ q (List.mem_append.mpr (.inr hq))).2.2
        rw [← e, h2, hol] at h3
        cases h3
    have N₂ : News h₀ env.locals hh' (news₁ ++ own) := fun p hp => N₁ p ((List.mem_append.mp hp).elim (fun h => List.mem_append.mpr (.inr h)) fun h => List.mem_append.mpr (.inl h))
    refine wpAny_mono (turn i v m₁ news₁ hh' tk' own (by simpa using hP) hsep hJ F₁ N₂) (fun f s₂ p => ?_) fun _ _ e => e
    have fin : InvEndG h₀ env.locals (J (i + 1)) own { s with heap := hh', toks := tk' } s₂ → LoopStepU h₀ env.locals [s.heap.objs.size] own (J (i + 1)) { s with heap := hh', toks := tk' } .next s₂ := by
      rintro ⟨h', tk, m', news', nx, e, F', N', hn, ho, ha, hm⟩
      refine ⟨rfl, h', tk, m', nx, e, F', fun p hp => N' p ((List.mem_append.mp hp).elim (ho p) (hn p)), fun p hp hq => ?_, hm⟩
      exact ha _ hIown p.1 (List.mem_map.mpr ⟨p, hp, rfl⟩) (List.mem_singleton.mp hq).symm
    cases f with
    | ret v => exact .ret p
    | brk => exact .brk p
    | next => exact .next (fin p)
    | cont => exact .cont (fin p)
  · rintro h' tk m' news' F' N' _ hJ
    exact done m' news' h' tk hJ F' N'
/-- the same over a list of the ledger's that stays as it is -/
theorem iter_anyGL {l : Addr} {vs : List Value} {nn : Nat} {m₀ : Str → Option Value} {news : List (Addr × Obj)} (J : Nat → (Str → Option Value) → List (Addr × Obj) → Prop)
    (hh : A.handled = none) (hl : (l, W.listOf vs.toArray nn) ∈ news) (F : Fr h₀ env.locals s.heap m₀) (N : News h₀ env.locals s.heap news) (hj : J 0 m₀ news)
    (turn : ∀ i v m₁ news₁ h tk own, vs[i]? = some v → OwnOff own (news₁.map (·.1)) → (l, W.listOf vs.toArray nn) ∈ news₁ → J i m₁ news₁ → Fr h₀ env.locals h (fun y => if y = x then some v else m₁ y) → News h₀ env.locals h (news₁ ++ own) →
      wpAny (model prog w) A (execs body env) (InvPostG h₀ env.locals (fun m' nx => (l, W.listOf vs.toArray nn) ∈ nx ∧ J (i + 1) m' nx) own { s with heap := h, toks := tk } Q) E { s with heap := h, toks := tk })
    (done : ∀ m₁ news₁ h tk, (l, W.listOf vs.toArray nn) ∈ news₁ → J vs.length m₁ news₁ → Fr h₀ env.locals h m₁ → News h₀ env.locals h news₁ → Q .next { s with heap := h, toks := tk }) :
    wpAny (model prog w) A (pyIter (.ref l)) (fun it s₂ => LoopAtV prog w A h₀ env x body Q E it s₂) E s := by
  have hol : s.heap.get? l = some (W.listOf vs.toArray nn) := (N _ hl).1
  have hls : s.heap.IsList l vs.toArray := ⟨_, hol, rfl, nn, rfl⟩
  have hne : l ≠ s.heap.objs.size := Nat.ne_of_lt (Heap.lt_size hol)
  refine wpAny_pyIter_list hls ?_
  have Wk := Walks.list (prog := prog) (w := w) hh s.heap.objs.size l hne vs.toArray
  have hlen : vs.toArray.size = vs.length := by simp
  rw [hlen] at Wk
  refine ⟨_, _, _, vs.length, _, _, m₀, news, (fun i m nx => (l, W.listOf vs.toArray nn) ∈ nx ∧ J i m nx), rfl, Wk, ?_, ?_, ?_, ⟨⟨_, Heap.get?_push_size _ rfl, rfl, rfl⟩, hls.at fun o e => Heap.get?_push_of_some _ e⟩, F.push _, (fun p hp => ⟨Heap.get?_push_of_some _ (N p hp).1, (N p hp).2⟩), ⟨hl, hj⟩, ?_, ?_⟩
  · intro hm
    rcases List.mem_cons.mp hm with e | hm
    · exact absurd F.ns.lt (e ▸ Nat.lt_irrefl _)
    · exact (N _ hl).2.1 ((List.mem_singleton.mp hm).symm)
  · intro b hb
    rw [List.mem_singleton.mp hb]
    exact next_is_new F
  · intro p hp hI
    exact absurd (Heap.lt_size (N p hp).1) ((List.mem_singleton.mp hI) ▸ Nat.lt_irrefl _)
  · rintro i v m₁ news₁ s₁ own ⟨hh', tk', rfl⟩ hin hP ⟨hl₁, hJ⟩ hoff hown hget hfp hst F₁ N₁
    have hI0 : h₀.get? s.heap.objs.size = none := next_is_new F
    obtain ⟨⟨oI, hoI, _⟩, _⟩ := id hst
    have hIown : (s.heap.objs.size, oI) ∈ own := hfp _ (List.mem_cons.mpr (.inl rfl)) hI0 _ hoI
    have hsep : OwnOff (own.filter fun p => decide (p.1 = s.heap.objs.size)) (news₁.map (·.1)) := by
      intro p hp b hb e
      obtain ⟨q, hq, rfl⟩ := List.mem_map.mp hb
      have h1 : p.1 = s.heap.objs.size := by simpa using (List.mem_filter.mp hp).2
      exact hoff q hq (List.mem_singleton.mpr (e ▸ h1))
    have N₂ : News h₀ env.locals hh' (news₁ ++ own.filter fun p => decide (p.1 = s.heap.objs.size)) := fun p hp => N₁ p ((List.mem_append.mp hp).elim (fun h => List.mem_append.mpr (.inr h)) fun h => List.mem_append.mpr (.inl ((List.mem_filter.mp h).1)))
    have hlo : hh'.get? l = some (W.listOf vs.toArray nn) := (N₁ _ (List.mem_append.mpr (.inr hl₁))).1
    refine wpAny_mono (turn i v m₁ news₁ hh' tk' _ (by simpa using hP) hsep hl₁ hJ F₁ N₂) (fun f s₂ p => ?_) fun _ _ e => e
    have fin : InvEndG h₀ env.locals (fun m' nx => (l, W.listOf vs.toArray nn) ∈ nx ∧ J (i + 1) m' nx) (own.filter fun p => decide (p.1 = s.heap.objs.size)) { s with heap := hh', toks := tk' } s₂ →
        LoopStepU h₀ env.locals [s.heap.objs.size] own (fun m nx => (l, W.listOf vs.toArray nn) ∈ nx ∧ J (i + 1) m nx) { s with heap := hh', toks := tk' } .next s₂ := by
      rintro ⟨h', tk, m', news', nx, e, F', N', hn, ho, ha, hm⟩
      refine ⟨rfl, h', tk, m', nx, e, F', fun p hp => ?_, fun p hp hq => ?_, hm⟩
      · rcases List.mem_append.mp hp with h | h
        · by_cases hI : p.1 = s.heap.objs.size
          · exact N' p (ho p (List.mem_filter.mpr ⟨h, by simpa using hI⟩))
          · have h1 : p.1 = l := by
              rcases List.mem_cons.mp (hown p h) with h2 | h2
              · exact absurd h2 hI
              · exact List.mem_singleton.mp h2
            have h2 : hh'.get? p.1 = some p.2 := hget p h
            rw [h1, hlo] at h2
            have h3 : p = (l, W.listOf vs.toArray nn) := Prod.ext h1 (Option.some.inj h2).symm
            rw [h3]
            exact N' _ (hn _ hm.1)
        · exact N' p (hn p h)
      · exact ha _ (List.mem_filter.mpr ⟨hIown, by simp⟩) p.1 (List.mem_map.mpr ⟨p, hp, rfl⟩) (List.mem_singleton.mp hq).symm
    cases f with
    | ret v => exact .ret p
    | brk => exact .brk p
    | next => exact .next (fin p)
    | cont => exact .cont (fin p)
  · rintro h' tk m' news' F' N' _ ⟨hl', hJ⟩
    exact done m' news' h' tk hl' hJ F' N'
end
end Mine
namespace Mine
section
variable {prog : Program} {w : World} {A : Around} {E : Value → Shared → Prop} {s : Shared} {env : Env} {h₀ : Heap} {x : Str} {body : List Stmt} {Q : Flow → Shared → Prop}
/-- a loop over range(a, a + n), the ledger may grow -/
theorem iter_rangeG {r : Addr} {a b : Int} {t₀ u₀ v₀ : Tok} {n : Nat} {m₀ : Str → Option Value} {news : List (Addr × Obj)} (J : Nat → (Str → Option Value) → List (Addr × Obj) → Prop)
    (hh : A.handled = none) (hr : IsRange s.heap r a b 1 t₀ u₀ v₀) (hb : b = a + (n : Int)) (ha : 0 ≤ a) (ha2 : a ≤ 100000) (hn : n ≤ 100000) (F : Fr h₀ env.locals s.heap m₀) (N : News h₀ env.locals s.heap news) (hj : J 0 m₀ news)
    (turn : ∀ (i : Nat) t m₁ news₁ h tk own, i < n → OwnOff own (news₁.map (·.1)) → J i m₁ news₁ → Fr h₀ env.locals h (fun y => if y = x then some (.int (a + (i : Int)) t) else m₁ y) → News h₀ env.locals h (news₁ ++ own) →
      wpAny (model prog w) A (execs body env) (InvPostG h₀ env.locals (J (i + 1)) own { s with heap := h, toks := tk } Q) E { s with heap := h, toks := tk })
    (done : ∀ m₁ news₁ h tk, J n m₁ news₁ → Fr h₀ env.locals h m₁ → News h₀ env.locals h news₁ → Q .next { s with heap := h, toks := tk }) :
    wpAny (model prog w) A (pyIter (.ref r)) (fun it s₂ => LoopAtV prog w A h₀ env x body Q E it s₂) E s := by
  subst hb
  have hsz : Builtin.Range.rangeSize a (a + (n : Int)) 1 = (n : Int) := by rw [rangeSize_nat]; omega
  refine wpAny_pyIter_range hr (small_one (by omega) (by omega) (by omega) (by omega)) ?_
  have Wk : Walks prog w A s.heap.objs.size [s.heap.objs.size] [s.heap.objs.size] n (fun i v => i < n ∧ ∃ t, v = .int (a + i * 1) t)
      (fun i h => IsRangeIter h s.heap.objs.size (a + (i : Nat) * 1) ((n : Int) - (i : Nat)) 1) := (Walks.range hh _ a 1 n).bound
  refine ⟨_, _, _, n, _, _, m₀, news, J, rfl, Wk, ?_, ?_, ?_, (by show IsRangeIter _ _ _ _ _; rw [hsz]; simpa using Heap.get?_push_size _ rfl), F.push _, (fun p hp => ⟨Heap.get?_push_of_some _ (N p hp).1, (N p hp).2⟩), hj, ?_, ?_⟩
  · intro hm
    exact absurd F.ns.lt ((List.mem_singleton.mp hm) ▸ Nat.lt_irrefl _)
  · intro b hb
    rw [List.mem_singleton.mp hb]
    exact next_is_new F
  · intro p hp hI
    exact absurd (Heap.lt_size (N p hp).1) ((List.mem_singleton.mp hI) ▸ Nat.lt_irrefl _)
  · rintro i v m₁ news₁ s₁ own ⟨hh', tk', rfl⟩ hin hP hJ hoff hown _ hfp hst F₁ N₁
    have hI0 : h₀.get? s.heap.objs.size = none := next_is_new F
    have hoI : hh'.get? s.heap.objs.size = some _ := hst
    have hIown := hfp _ (List.mem_singleton.mpr rfl) hI0 _ hoI
    have hsep : OwnOff own (news₁.map (·.1)) := by
      intro p hp b hb e
      obtain ⟨q, hq, rfl⟩ := List.mem_map.mp hb
      exact hoff q hq (List.mem_singleton.mpr (e ▸ List.mem_singleton.mp (hown p hp)))
    have N₂ : News h₀ env.locals hh' (news₁ ++ own) := fun p hp => N₁ p ((List.mem_append.mp hp).elim (fun h => List.mem_append.mpr (.inr h)) fun h => List.mem_append.mpr (.inl h))
    obtain ⟨hi, t, rfl⟩ := hP
    rw [Int.mul_one] at F₁
    refine wpAny_mono (turn i t m₁ news₁ hh' tk' own hi hsep hJ F₁ N₂) (fun f s₂ p => ?_) fun _ _ e => e
    have fin : InvEndG h₀ env.locals (J (i + 1)) own { s with heap := hh', toks := tk' } s₂ → LoopStepU h₀ env.locals [s.heap.objs.size] own (J (i + 1)) { s with heap := hh', toks := tk' } .next s₂ := by
      rintro ⟨h', tk, m', news', nx, e, F', N', hn, ho, ha, hm⟩
      refine ⟨rfl, h', tk, m', nx, e, F', fun p hp => N' p ((List.mem_append.mp hp).elim (ho p) (hn p)), fun p hp hq => ?_, hm⟩
      exact ha _ hIown p.1 (List.mem_map.mpr ⟨p, hp, rfl⟩) (List.mem_singleton.mp hq).symm
    cases f with
    | ret v => exact .ret p
    | brk => exact .brk p
    | next => exact .next (fin p)
    | cont => exact .cont (fin p)
  · rintro h' tk m' news' F' N' _ hJ
    exact done m' news' h' tk hJ F' N'
end
end Mine
end secMLoop
section secMTurn2
open PySem PySem.W PyProof.Rows PySem.Calls PySem.Spec PyProof.V
namespace Mine
section
variable {prog : Program} {w : World} {A : Around} {E : Value → Shared → Prop} {s : Shared} {env : Env} {h₀ : Heap} {body : List Stmt} {Q : Flow → Shared → Prop} {x : Str} {px : Pos}
/-- a for over a list of the base's, whatever its target's kind and its items -/
theorem list_turns {l : Addr} {vs : List Value} {m₀ : Str → Option Value} {news : List (Addr × Obj)} (J : Nat → (Str → Option Value) → List (Addr × Obj) → Prop)
    (hh : A.handled = none) (hl : h₀.IsList l vs.toArray) (F : Fr h₀ env.locals s.heap m₀) (N : News h₀ env.locals s.heap news) (hj : J 0 m₀ news)
    (turn : ∀ i v m₁ news₁ h tk own, vs[i]? = some v → OwnOff own (news₁.map (·.1)) → J i m₁ news₁ → Fr h₀ env.locals h m₁ → News h₀ env.locals h (news₁ ++ own) →
      wpAny (model prog w) A (assign (.Name x px) env v) (fun _ s₃ => wpAny (model prog w) A (execs body env) (TxtPost h₀ env.locals own (J (i + 1)) { s with heap := h, toks := tk } Q) E s₃) E { s with heap := h, toks := tk })
    (done : ∀ m₁ news₁ h tk, J vs.length m₁ news₁ → Fr h₀ env.locals h m₁ → News h₀ env.locals h news₁ → Q .next { s with heap := h, toks := tk }) :
    wpAny (model prog w) A (pyIter (.ref l)) (fun it s₂ => TurnsAt prog w A h₀ env (.Name x px) body Q E it s₂) E s := by
  have hls : s.heap.IsList l vs.toArray := hl.at fun o e => F.keep l o e
  obtain ⟨ol, hol, _⟩ := id hl
  have hlt : l < h₀.objs.size := Heap.lt_size hol
  have hne : l ≠ s.heap.objs.size := Nat.ne_of_lt (Nat.lt_trans (Nat.lt_of_lt_of_le hlt F.above) F.ns.lt)
  refine wpAny_pyIter_list hls ?_
  have Wk := Walks.list (prog := prog) (w := w) hh s.heap.objs.size l hne vs.toArray
  have hlen : vs.toArray.size = vs.length := by simp
  rw [hlen] at Wk
  have hI0 : h₀.get? s.heap.objs.size = none := next_is_new F
  refine ⟨s.heap.objs.size, [s.heap.objs.size, l], [s.heap.objs.size], vs.length, fun i v _ => vs.toArray[i]? = some v, _, _, m₀, news, J, rfl, KTurns.ofWalks Wk (fun i v s' Q E _ q => wpAny_of_eq (show letOwnedTupleGo (.Name x px) (.ref s.heap.objs.size) v = pure () from rfl) q), ?_, by simpa using hI0, fun p hp => by simpa using Nat.ne_of_lt (Heap.lt_size (N p hp).1), ⟨⟨_, Heap.get?_push_size _ rfl, rfl, rfl⟩, hls.at fun o e => Heap.get?_push_of_some _ e⟩, F.push _, (fun p hp => ⟨Heap.get?_push_of_some _ (N p hp).1, (N p hp).2⟩), hj, ?_, ?_⟩
  · intro hm
    rcases List.mem_cons.mp hm with e | hm
    · exact absurd F.ns.lt (e ▸ Nat.lt_irrefl _)
    · exact absurd (Nat.lt_of_lt_of_le hlt F.above) ((List.mem_singleton.mp hm) ▸ Nat.lt_irrefl _)
  · intro i v m₁ news₁ h₁ tk₁ own hin hP hJ hnw hown hval hall hst₁ F₁ N₁
    obtain ⟨⟨oI, hoI, _⟩, _⟩ := id hst₁
    have hIown : (s.heap.objs.size, oI) ∈ own := hall _ (List.Mem.head _) hI0 _ hoI
    have hsep : OwnOff own (news₁.map (·.1)) := by
      intro p hp b hb e
      obtain ⟨q, hq, rfl⟩ := List.mem_map.mp hb
      rcases List.mem_cons.mp (hown p hp) with h1 | h1
      · exact hnw q hq (by rw [← e, h1]; exact List.Mem.head _)
      · have h2 := List.mem_singleton.mp h1
        have h3 := (N₁ q (List.mem_append.mpr (.inr hq))).2.2
        rw [← e, h2, hol] at h3
        cases h3
    have N₂ : News h₀ env.locals h₁ (news₁ ++ own) := fun p hp => N₁ p ((List.mem_append.mp hp).elim (fun h => List.mem_append.mpr (.inr h)) fun h => List.mem_append.mpr (.inl h))
    refine wpAny_mono (turn i v m₁ news₁ h₁ tk₁ own (by rw [List.getElem?_toArray] at hP; exact hP) hsep hJ F₁ N₂) (fun _ s₂ h₂ => wpAny_mono h₂ (fun f s₃ p => ?_) fun _ _ e => e) fun _ _ e => e
    have fin : TxtEnd h₀ env.locals own (J (i + 1)) { s with heap := h₁, toks := tk₁ } s₃ → LoopStepU h₀ env.locals [s.heap.objs.size] own (J (i + 1)) { s with heap := h₁, toks := tk₁ } .next s₃ := by
      rintro ⟨h', tk, m', news', nx, e, F', N', hn, ho, ha, hm⟩
      refine ⟨rfl, h', tk, m', nx, e, F', fun p hp => N' p ((List.mem_append.mp hp).elim (ho p) (hn p)), fun p hp hq => ?_, hm⟩
      exact ha _ hIown p.1 (List.mem_map.mpr ⟨p, hp, rfl⟩) (List.mem_singleton.mp hq).symm
    cases f with
    | ret v => exact .ret p
    | brk => exact .brk p
    | next => exact .next (fin p)
    | cont => exact .cont (fin p)
  · intro h' tk m' news' F' N' _ hJ
    exact done m' news' h' tk hJ F' N'
end
end Mine
end secMTurn2
section secMComp5
open PySem PySem.W PyProof.Rows PySem.Calls PySem.Spec PyProof.Rows.LCg PyProof.Rows.LCt
namespace Mine
/-- what an element of a comprehension leaves: the ledger may have grown -/
noncomputable def EltJ (h₀ : Heap) (L : Addr) (m : Str → Option Value) (I : Addr) (oI : Obj) (C : Addr) (oC : Obj) (D : Addr) (oD : Obj) (s : Shared) (S : List (Addr × Obj) → Prop) (J : Value → List (Addr × Obj) → Prop) (z : Value) (s' : Shared) : Prop :=
  ∃ h' tk news', s' = { s with heap := h', toks := tk } ∧ Fr h₀ L h' m ∧ News h₀ L h' ((I, oI) :: (C, oC) :: (D, oD) :: news') ∧ (∀ q ∈ news', q.1 ≠ I ∧ q.1 ≠ C ∧ q.1 ≠ D) ∧ S news' ∧ J z news'
theorem off1_mem {D : Addr} : ∀ {l : List (Addr × Obj)}, Off1 D l → ∀ p ∈ l, p.1 ≠ D
  | [], _, _, hp => nomatch hp
  | _ :: _, o, p, hp => by
    rcases List.mem_cons.mp hp with rfl | hp
    · exact o.1
    · exact off1_mem o.2 p hp
section
variable {prog : Program} {w : World} {A : Around} {E : Value → Shared → Prop} {s : Shared} {h₀ : Heap} {L : Addr} {m : Str → Option Value} {env : Env}
theorem restG {elt : PySem.Expr} {x : Str} {scope : Scope} {cl : List (Str × Addr)} {S : List (Addr × Obj) → Prop} {P : Nat → Value → Prop} {n : Nat} {Fin : List Value → List (Addr × Obj) → Prop} (J : Nat → List Value → List (Addr × Obj) → Prop)
    (turn : ∀ i v ys news₁ I oI C oC D m₂ h tk (E' : Value → Shared → Prop), i < n → P i v → J i ys news₁ → S news₁ → NsObj oC m₂ → m₂ x = some v → Fr h₀ L h m → News h₀ L h ((I, oI) :: (C, oC) :: (D, lst ys) :: news₁) → (∀ q ∈ news₁, q.1 ≠ I ∧ q.1 ≠ C ∧ q.1 ≠ D) → ((@Ne Nat I C) ∧ (@Ne Nat I D) ∧ (@Ne Nat C D)) →
      wpAny (model prog w) A (eval elt (compEnvC scope cl C env)) (EltJ h₀ L m I oI C oC D (lst ys) { s with heap := h, toks := tk } S (fun z news' => J (i + 1) (ys ++ [z]) news')) E' { s with heap := h, toks := tk })
    (fin : ∀ ys news', J n ys news' → Fin ys news') :
    ∀ (k i : Nat) (ys : List Value) (news : List (Addr × Obj)), i + k = n → S news → J i ys news → CompRest prog w A h₀ L m env elt x scope cl s S P Fin k i ys news := by
  intro k
  induction k with
  | zero =>
    intro i ys news hk _ hj
    refine CompRest.zero (fin ys news ?_)
    rw [show i = n by omega] at hj
    exact hj
  | succ k ih =>
    intro i ys news hk hS hj
    refine CompRest.succ fun v I oI C oC D m₂ h tk E' hv hC hx F N off ne => ?_
    refine wpAny_mono (turn i v ys news I oI C oC D m₂ h tk E' (by omega) hv hj hS hC hx F N off.mem ne) (fun z s'' h2 => ?_) fun _ _ e => e
    obtain ⟨h', tk', news', rfl, F', N', off', hS', hj'⟩ := h2
    exact ⟨h', tk', news', rfl, F', N', Off3.of off', hS', ih (i + 1) _ _ (by omega) hS' hj'⟩
/-- [elt for x in src], the ledger may grow -/
theorem compG {elt iter : PySem.Expr} {x : Str} {px : Pos} {scope : Scope} {cl : List (Str × Addr)} {pos : Pos} {Q : Value → Shared → Prop} {ax : Addr} {vs : List Value} {news : List (Addr × Obj)} (J : Nat → List Value → List (Addr × Obj) → Prop)
    (hh : A.handled = none) (F₀ : Fr h₀ L s.heap m) (hsz : vs.length ≤ 16777216)
    (hclos : closureFor scope env = pure cl) (hcell : ∀ z ∈ scope.names, z.2 ≠ .cell) (hkind : scope.kind = .function)
    (hnames : ∀ z ∈ scope.names, z.2 = .local → scope.names.lookup z.1 = some .local) (hx : scope.names.lookup x = some .local)
    (hiter : wpAny (model prog w) A (eval iter env) (SrcIs h₀ L m news s ax vs) E s) (hj : J 0 [] news)
    (turn : ∀ i v ys news₁ I oI C oC D m₂ h tk (E' : Value → Shared → Prop), i < vs.length → vs[i]? = some v → J i ys news₁ → SrcAt h₀ ax vs.toArray news₁ → NsObj oC m₂ → m₂ x = some v → Fr h₀ L h m → News h₀ L h ((I, oI) :: (C, oC) :: (D, lst ys) :: news₁) → (∀ q ∈ news₁, q.1 ≠ I ∧ q.1 ≠ C ∧ q.1 ≠ D) → ((@Ne Nat I C) ∧ (@Ne Nat I D) ∧ (@Ne Nat C D)) →
      wpAny (model prog w) A (eval elt (compEnvC scope cl C env)) (EltJ h₀ L m I oI C oC D (lst ys) { s with heap := h, toks := tk } (SrcAt h₀ ax vs.toArray) (fun z news' => J (i + 1) (ys ++ [z]) news')) E' { s with heap := h, toks := tk })
    (fin : ∀ D ys news' h tk, J vs.length ys news' → Fr h₀ L h m → News h₀ L h ((D, lst ys) :: news') → (∀ q ∈ news', q.1 ≠ D) → Q (.ref D) { s with heap := h, toks := tk })
    (hs : ∀ x, foldedSetIterable iter env x = pure x := by intro _; rfl) :
    wpAny (model prog w) A (eval (.ListComp elt [⟨.Name x px, iter, [], 0⟩] scope pos) env) Q E s := by
  refine ListComp_U F₀ hclos hcell hkind hnames hx (wpAny_mono hiter (fun xv s₁ h₁ => ?_) fun _ _ e => e) hs
  obtain ⟨rfl, ⟨h₁, tk₁, rfl, F₁, N₁⟩, hS⟩ := h₁
  refine .inl ⟨ax, vs.toArray, news, rfl, hh, F₁, N₁, hS, by rw [List.size_toArray, sizeLine_eq]; exact hsz, ?_⟩
  rintro s₂ ⟨g, rfl⟩
  rw [List.size_toArray]
  exact restG (s := ⟨g, s.gens, s.drawn, tk₁, s.os⟩) (n := vs.length) (Fin := FinE h₀ L m ⟨g, s.gens, s.drawn, tk₁, s.os⟩ Q) J
    (fun i v ys news₁ I oI C oC D m₂ h tk E' hi hv => turn i v ys news₁ I oI C oC D m₂ h tk E' hi (by rw [List.getElem?_toArray] at hv; exact hv))
    (fun ys news' hj D h tk F N off => fin D ys news' h tk hj F N (off1_mem off)) vs.length 0 [] news (by omega) hS hj
/-- range(n) as a source -/
noncomputable def RngIs (h₀ : Heap) (L : Addr) (m : Str → Option Value) (news : List (Addr × Obj)) (s : Shared) (n : Nat) (xv : Value) (s₁ : Shared) : Prop := ∃ (r : Addr) (t u v : Tok), xv = .ref r ∧ Quiet h₀ L m news s s₁ ∧ IsRange s₁.heap r 0 (n : Int) 1 t u v
theorem compGR {elt iter : PySem.Expr} {x : Str} {px : Pos} {scope : Scope} {cl : List (Str × Addr)} {pos : Pos} {Q : Value → Shared → Prop} {n : Nat} {news : List (Addr × Obj)} (J : Nat → List Value → List (Addr × Obj) → Prop)
    (hh : A.handled = none) (F₀ : Fr h₀ L s.heap m) (hsz : n ≤ 1000)
    (hclos : closureFor scope env = pure cl) (hcell : ∀ z ∈ scope.names, z.2 ≠ .cell) (hkind : scope.kind = .function)
    (hnames : ∀ z ∈ scope.names, z.2 = .local → scope.names.lookup z.1 = some .local) (hx : scope.names.lookup x = some .local)
    (hiter : wpAny (model prog w) A (eval iter env) (RngIs h₀ L m news s n) E s) (hj : J 0 [] news)
    (turn : ∀ i t ys news₁ I oI C oC D m₂ h tk (E' : Value → Shared → Prop), i < n → J i ys news₁ → NsObj oC m₂ → m₂ x = some (.int (i : Int) t) → Fr h₀ L h m → News h₀ L h ((I, oI) :: (C, oC) :: (D, lst ys) :: news₁) → (∀ q ∈ news₁, q.1 ≠ I ∧ q.1 ≠ C ∧ q.1 ≠ D) → ((@Ne Nat I C) ∧ (@Ne Nat I D) ∧ (@Ne Nat C D)) →
      wpAny (model prog w) A (eval elt (compEnvC scope cl C env)) (EltJ h₀ L m I oI C oC D (lst ys) { s with heap := h, toks := tk } (fun _ => True) (fun z news' => J (i + 1) (ys ++ [z]) news')) E' { s with heap := h, toks := tk })
    (fin : ∀ D ys news' h tk, J n ys news' → Fr h₀ L h m → News h₀ L h ((D, lst ys) :: news') → (∀ q ∈ news', q.1 ≠ D) → Q (.ref D) { s with heap := h, toks := tk })
    (hs : ∀ x, foldedSetIterable iter env x = pure x := by intro _; rfl) :
    wpAny (model prog w) A (eval (.ListComp elt [⟨.Name x px, iter, [], 0⟩] scope pos) env) Q E s := by
  refine ListComp_U F₀ hclos hcell hkind hnames hx (wpAny_mono hiter (fun xv s₁ h₁ => ?_) fun _ _ e => e) hs
  obtain ⟨r, t, u, v, rfl, ⟨h₁, tk₁, rfl, F₁, N₁⟩, hR⟩ := h₁
  refine CompSrc.range (n := n) hh F₁ N₁ hR (small_one (by omega) (by omega) (by omega) (by omega)) (by rw [rangeSize_nat]; congr 1) (by rw [sizeLine_eq]; omega) fun g => ?_
  exact restG (s := ⟨g, s.gens, s.drawn, tk₁, s.os⟩) (n := n) (Fin := FinE h₀ L m ⟨g, s.gens, s.drawn, tk₁, s.os⟩ Q) J
    (fun i v ys news₁ I oI C oC D m₂ h tk E' hi hv hj _ hC hm => by
      obtain ⟨t, rfl⟩ := hv
      exact turn i t ys news₁ I oI C oC D m₂ h tk E' hi hj hC (by rw [hm, Int.zero_add]))
    (fun ys news' hj D h tk F N off => fin D ys news' h tk hj F N (off1_mem off)) n 0 [] news (by omega) trivial hj
end
end Mine
namespace Mine
section
variable {prog : Program} {w : World} {A : Around} {E : Value → Shared → Prop} {s : Shared} {h₀ : Heap} {L : Addr} {m : Str → Option Value} {env : Env}
/-- y = [elt for x in src], the ledger may grow -/
theorem compGA {elt iter : PySem.Expr} {x y : Str} {px py : Pos} {scope : Scope} {cl : List (Str × Addr)} {pos spos : Pos} {Q : Flow → Shared → Prop} {ax : Addr} {vs : List Value} {news : List (Addr × Obj)} (J : Nat → List Value → List (Addr × Obj) → Prop)
    (hh : A.handled = none) (F₀ : Fr h₀ L s.heap m) (hLe : env.locals = L) (hsz : vs.length ≤ 16777216)
    (hsw : swapsWith (.ListComp elt [⟨.Name x px, iter, [], 0⟩] scope pos) (some (.Name y py)) spos.line env = pure true)
    (hclos : closureFor scope env = pure cl) (hcell : ∀ z ∈ scope.names, z.2 ≠ .cell) (hkind : scope.kind = .function)
    (hnames : ∀ z ∈ scope.names, z.2 = .local → scope.names.lookup z.1 = some .local) (hx : scope.names.lookup x = some .local)
    (hy : env.kindOf y = some .local) (hp : (env.scope.kind == .class || (env.scope.kind == .module && env.locals != env.globals)) = false)
    (hiter : wpAny (model prog w) A (eval iter env) (SrcIs h₀ L m news s ax vs) E s) (hj : J 0 [] news)
    (turn : ∀ i v ys news₁ I oI C oC D m₂ h tk (E' : Value → Shared → Prop), i < vs.length → vs[i]? = some v → J i ys news₁ → SrcAt h₀ ax vs.toArray news₁ → NsObj oC m₂ → m₂ x = some v → Fr h₀ L h m → News h₀ L h ((I, oI) :: (C, oC) :: (D, lst ys) :: news₁) → (∀ q ∈ news₁, q.1 ≠ I ∧ q.1 ≠ C ∧ q.1 ≠ D) → ((@Ne Nat I C) ∧ (@Ne Nat I D) ∧ (@Ne Nat C D)) →
      wpAny (model prog w) A (eval elt (compEnvC scope cl C env)) (EltJ h₀ L m I oI C oC D (lst ys) { s with heap := h, toks := tk } (SrcAt h₀ ax vs.toArray) (fun z news' => J (i + 1) (ys ++ [z]) news')) E' { s with heap := h, toks := tk })
    (fin : ∀ D ys news' h tk, J vs.length ys news' → Fr h₀ L h (fun z => if z = y then some (.ref D) else m z) → News h₀ L h ((D, lst ys) :: news') → (∀ q ∈ news', q.1 ≠ D) → Q .next { s with heap := h, toks := tk })
    (hs : ∀ x, foldedSetIterable iter env x = pure x := by intro _; rfl) :
    wpAny (model prog w) A (exec (.Assign [.Name y py] (.ListComp elt [⟨.Name x px, iter, [], 0⟩] scope pos) spos) env) Q E s := by
  refine Assign_ListComp_U F₀ hLe hsw hclos hcell hkind hnames hx hy hp (wpAny_mono hiter (fun xv s₁ h₁ => ?_) fun _ _ e => e) hs
  obtain ⟨rfl, ⟨h₁, tk₁, rfl, F₁, N₁⟩, hS⟩ := h₁
  refine .inl ⟨ax, vs.toArray, news, rfl, hh, F₁, N₁, hS, by rw [List.size_toArray, sizeLine_eq]; exact hsz, ?_⟩
  rintro s₂ ⟨g, rfl⟩
  rw [List.size_toArray]
  exact restG (s := ⟨g, s.gens, s.drawn, tk₁, s.os⟩) (n := vs.length) (Fin := FinA h₀ L m ⟨g, s.gens, s.drawn, tk₁, s.os⟩ y Q) J
    (fun i v ys news₁ I oI C oC D m₂ h tk E' hi hv => turn i v ys news₁ I oI C oC D m₂ h tk E' hi (by rw [List.getElem?_toArray] at hv; exact hv))
    (fun ys news' hj D h tk F N off => fin D ys news' h tk hj F N (off1_mem off)) vs.length 0 [] news (by omega) hS hj
/-- y = [elt for x in range(n)], the ledger may grow -/
theorem compGRA {elt iter : PySem.Expr} {x y : Str} {px py : Pos} {scope : Scope} {cl : List (Str × Addr)} {pos spos : Pos} {Q : Flow → Shared → Prop} {n : Nat} {news : List (Addr × Obj)} (J : Nat → List Value → List (Addr × Obj) → Prop)
    (hh : A.handled = none) (F₀ : Fr h₀ L s.heap m) (hLe : env.locals = L) (hsz : n ≤ 1000)
    (hsw : swapsWith (.ListComp elt [⟨.Name x px, iter, [], 0⟩] scope pos) (some (.Name y py)) spos.line env = pure true)
    (hclos : closureFor scope env = pure cl) (hcell : ∀ z ∈ scope.names, z.2 ≠ .cell) (hkind : scope.kind = .function)
    (hnames : ∀ z ∈ scope.names, z.2 = .local → scope.names.lookup z.1 = some .local) (hx : scope.names.lookup x = some .local)
    (hy : env.kindOf y = some .local) (hp : (env.scope.kind == .class || (env.scope.kind == .module && env.locals != env.globals)) = false)
    (hiter : wpAny (model prog w) A (eval iter env) (RngIs h₀ L m news s n) E s) (hj : J 0 [] news)
    (turn : ∀ i t ys news₁ I oI C oC D m₂ h tk (E' : Value → Shared → Prop), i < n → J i ys news₁ → NsObj oC m₂ → m₂ x = some (.int (i : Int) t) → Fr h₀ L h m → News h₀ L h ((I, oI) :: (C, oC) :: (D, lst ys) :: news₁) → (∀ q ∈ news₁, q.1 ≠ I ∧ q.1 ≠ C ∧ q.1 ≠ D) → ((@Ne Nat I C) ∧ (@Ne Nat I D) ∧ (@Ne Nat C D)) →
      wpAny (model prog w) A (eval elt (compEnvC scope cl C env)) (EltJ h₀ L m I oI C oC D (lst ys) { s with heap := h, toks := tk } (fun _ => True) (fun z news' => J (i + 1) (ys ++ [z]) news')) E' { s with heap := h, toks := tk })
    (fin : ∀ D ys news' h tk, J n ys news' → Fr h₀ L h (fun z => if z = y then some (.ref D) else m z) → News h₀ L h ((D, lst ys) :: news') → (∀ q ∈ news', q.1 ≠ D) → Q .next { s with heap := h, toks := tk })
    (hs : ∀ x, foldedSetIterable iter env x = pure x := by intro _; rfl) :
    wpAny (model prog w) A (exec (.Assign [.Name y py] (.ListComp elt [⟨.Name x px, iter, [], 0⟩] scope pos) spos) env) Q E s := by
  refine Assign_ListComp_U F₀ hLe hsw hclos hcell hkind hnames hx hy hp (wpAny_mono hiter (fun xv s₁ h₁ => ?_) fun _ _ e => e) hs
  obtain ⟨r, t, u, v, rfl, ⟨h₁, tk₁, rfl, F₁, N₁⟩, hR⟩ := h₁
  refine CompSrc.range (n := n) hh F₁ N₁ hR (small_one (by omega) (by omega) (by omega) (by omega)) (by rw [rangeSize_nat]; congr 1) (by rw [sizeLine_eq]; omega) fun g => ?_
  exact restG (s := ⟨g, s.gens, s.drawn, tk₁, s.os⟩) (n := n) (Fin := FinA h₀ L m ⟨g, s.gens, s.drawn, tk₁, s.os⟩ y Q) J
    (fun i v ys news₁ I oI C oC D m₂ h tk E' hi hv hj _ hC hm => by
      obtain ⟨t, rfl⟩ := hv
      exact turn i t ys news₁ I oI C oC D m₂ h tk E' hi hj hC (by rw [hm, Int.zero_add]))
    (fun ys news' hj D h tk F N off => fin D ys news' h tk hj F N (off1_mem off)) n 0 [] news (by omega) trivial hj
end
end Mine
end secMComp5
section secMComp6
open PySem PySem.W PyProof.Rows PySem.Calls PySem.Spec PyProof.Rows.LCg PyProof.Rows.LCt
namespace Mine
/-- the element is the item itself -/
noncomputable def EltV (h₀ : Heap) (L : Addr) (m : Str → Option Value) (led : List (Addr × Obj)) (s : Shared) (v : Value) (z : Value) (s' : Shared) : Prop := z = v ∧ Quiet h₀ L m led s s'
section
variable {prog : Program} {w : World} {A : Around} {E : Value → Shared → Prop} {s : Shared} {h₀ : Heap} {L : Addr} {m : Str → Option Value} {env : Env}
theorem restF {ct elt : PySem.Expr} {x : Str} {scope : Scope} {cl : List (Str × Addr)} {S : List (Addr × Obj) → Prop} {P : Nat → Value → Prop} {vs : List Value} {news : List (Addr × Obj)} {Fin : List Value → List (Addr × Obj) → Prop} (p : Value → Bool) (hS : S news) (hP : ∀ i v, i < vs.length → P i v → vs[i]? = some v)
    (turn : ∀ (i : Nat) v I oI C oC D oD m₂ h tk (E' : Value → Shared → Prop), vs[i]? = some v → NsObj oC m₂ → m₂ x = some v → Fr h₀ L h m → News h₀ L h ((I, oI) :: (C, oC) :: (D, oD) :: news) → (∀ q ∈ news, q.1 ≠ I ∧ q.1 ≠ C ∧ q.1 ≠ D) → ((@Ne Nat I C) ∧ (@Ne Nat I D) ∧ (@Ne Nat C D)) →
      wpAny (model prog w) A (isTrue ct (compEnvC scope cl C env) (eval ct (compEnvC scope cl C env))) (TestIs (p v) (fun s' => wpAny (model prog w) A (eval elt (compEnvC scope cl C env)) (EltV h₀ L m ((I, oI) :: (C, oC) :: (D, oD) :: news) { s with heap := h, toks := tk } v) E' s') (Quiet h₀ L m ((I, oI) :: (C, oC) :: (D, oD) :: news) { s with heap := h, toks := tk })) E' { s with heap := h, toks := tk })
    (fin : Fin (vs.filter p) news) :
    ∀ (k i : Nat), i + k = vs.length → CompRestT prog w A h₀ L m env ct elt x scope cl s S P Fin k i ((vs.take i).filter p) news := by
  intro k
  induction k with
  | zero =>
    intro i hk
    refine CompRestT.zero ?_
    rw [show i = vs.length by omega, List.take_length]
    exact fin
  | succ k ih =>
    intro i hk
    refine CompRestT.succ fun v I oI C oC D m₂ h tk E' hv hC hx F N off ne => ?_
    have hv' := hP i v (by omega) hv
    have hs : vs.take (i + 1) = vs.take i ++ [v] := by rw [List.take_add_one, hv']; rfl
    have hi' := ih (i + 1) (by omega)
    refine wpAny_mono (turn i v I oI C oC D _ m₂ h tk E' hv' hC hx F N off.mem ne) (fun ok s' h1 => ?_) fun _ _ e => e
    obtain ⟨hok, h1⟩ := h1
    cases ok with
    | true =>
      simp only [if_true] at h1 ⊢
      refine wpAny_mono h1 (fun z s'' h2 => ?_) fun _ _ e => e
      obtain ⟨rfl, h', tk', rfl, F', N'⟩ := h2
      rw [hs, List.filter_append, List.filter_cons_of_pos (by rw [← hok]), List.filter_nil] at hi'
      exact ⟨h', tk', news, rfl, F', N', off, hS, hi'⟩
    | false =>
      simp only [Bool.false_eq_true, if_false] at h1 ⊢
      obtain ⟨h', tk', rfl, F', N'⟩ := h1
      rw [hs, List.filter_append, List.filter_cons_of_neg (by rw [← hok]; decide), List.filter_nil, List.append_nil] at hi'
      exact ⟨h', tk', news, rfl, F', N', off, hS, hi'⟩
/-- [x for x in src if ct] -/
theorem compF {ct elt iter : PySem.Expr} {x : Str} {px : Pos} {scope : Scope} {cl : List (Str × Addr)} {pos : Pos} {Q : Value → Shared → Prop} {ax : Addr} {vs : List Value} {news : List (Addr × Obj)} (p : Value → Bool)
    (hh : A.handled = none) (F₀ : Fr h₀ L s.heap m) (hsz : vs.length ≤ 16777216)
    (hclos : closureFor scope env = pure cl) (hcell : ∀ z ∈ scope.names, z.2 ≠ .cell) (hkind : scope.kind = .function)
    (hnames : ∀ z ∈ scope.names, z.2 = .local → scope.names.lookup z.1 = some .local) (hx : scope.names.lookup x = some .local)
    (hiter : wpAny (model prog w) A (eval iter env) (SrcIs h₀ L m news s ax vs) E s)
    (turn : ∀ (i : Nat) v I oI C oC D oD m₂ h tk (E' : Value → Shared → Prop), vs[i]? = some v → NsObj oC m₂ → m₂ x = some v → Fr h₀ L h m → News h₀ L h ((I, oI) :: (C, oC) :: (D, oD) :: news) → (∀ q ∈ news, q.1 ≠ I ∧ q.1 ≠ C ∧ q.1 ≠ D) → ((@Ne Nat I C) ∧ (@Ne Nat I D) ∧ (@Ne Nat C D)) →
      wpAny (model prog w) A (isTrue ct (compEnvC scope cl C env) (eval ct (compEnvC scope cl C env))) (TestIs (p v) (fun s' => wpAny (model prog w) A (eval elt (compEnvC scope cl C env)) (EltV h₀ L m ((I, oI) :: (C, oC) :: (D, oD) :: news) { s with heap := h, toks := tk } v) E' s') (Quiet h₀ L m ((I, oI) :: (C, oC) :: (D, oD) :: news) { s with heap := h, toks := tk })) E' { s with heap := h, toks := tk })
    (fin : ∀ D h tk, Fr h₀ L h m → News h₀ L h ((D, lst (vs.filter p)) :: news) → (∀ q ∈ news, q.1 ≠ D) → Q (.ref D) { s with heap := h, toks := tk })
    (hs : ∀ x, foldedSetIterable iter env x = pure x := by intro _; rfl) :
    wpAny (model prog w) A (eval (.ListComp elt [⟨.Name x px, iter, [ct], 0⟩] scope pos) env) Q E s := by
  refine ListComp_T F₀ hclos hcell hkind hnames hx (wpAny_mono hiter (fun xv s₁ h₁ => ?_) fun _ _ e => e) hs
  obtain ⟨rfl, ⟨h₁, tk₁, rfl, F₁, N₁⟩, hS⟩ := h₁
  refine .inl ⟨ax, vs.toArray, news, rfl, hh, F₁, N₁, hS, by rw [List.size_toArray, sizeLine_eq]; exact hsz, ?_⟩
  rintro s₂ ⟨g, rfl⟩
  rw [List.size_toArray]
  exact restF (s := ⟨g, s.gens, s.drawn, tk₁, s.os⟩) (vs := vs) (Fin := FinE h₀ L m ⟨g, s.gens, s.drawn, tk₁, s.os⟩ Q) p hS (fun i v _ hv => by rw [List.getElem?_toArray] at hv; exact hv)
    turn (fun D h tk F N off => fin D h tk F N (off1_mem off)) vs.length 0 (by omega)
end
end Mine
namespace Mine
/-- what [x for x in src if ct] asks of its source, where the source is made on the way -/
noncomputable def FK (prog : Program) (w : World) (A : Around) (h₀ : Heap) (L : Addr) (m : Str → Option Value) (env : Env) (ct elt : PySem.Expr) (x : Str) (scope : Scope) (cl : List (Str × Addr)) (Q : Value → Shared → Prop) (xv : Value) (s : Shared) : Prop :=
  ∃ (ax : Addr) (vs : List Value) (news : List (Addr × Obj)) (p : Value → Bool), xv = .ref ax ∧ Fr h₀ L s.heap m ∧ News h₀ L s.heap news ∧ SrcAt h₀ ax vs.toArray news ∧ vs.length ≤ 16777216 ∧
    (∀ (i : Nat) v I oI C oC D oD m₂ h tk (E' : Value → Shared → Prop), vs[i]? = some v → NsObj oC m₂ → m₂ x = some v → Fr h₀ L h m → News h₀ L h ((I, oI) :: (C, oC) :: (D, oD) :: news) → (∀ q ∈ news, q.1 ≠ I ∧ q.1 ≠ C ∧ q.1 ≠ D) → ((@Ne Nat I C) ∧ (@Ne Nat I D) ∧ (@Ne Nat C D)) →
      wpAny (model prog w) A (isTrue ct (compEnvC scope cl C env) (eval ct (compEnvC scope cl C env))) (TestIs (p v) (fun s' => wpAny (model prog w) A (eval elt (compEnvC scope cl C env)) (EltV h₀ L m ((I, oI) :: (C, oC) :: (D, oD) :: news) { s with heap := h, toks := tk } v) E' s') (Quiet h₀ L m ((I, oI) :: (C, oC) :: (D, oD) :: news) { s with heap := h, toks := tk })) E' { s with heap := h, toks := tk }) ∧
    ∀ D h tk, Fr h₀ L h m → News h₀ L h ((D, lst (vs.filter p)) :: news) → (∀ q ∈ news, q.1 ≠ D) → Q (.ref D) { s with heap := h, toks := tk }
theorem compFK {prog : Program} {w : World} {A : Around} {E : Value → Shared → Prop} {s : Shared} {h₀ : Heap} {L : Addr} {m : Str → Option Value} {env : Env} {ct elt iter : PySem.Expr} {x : Str} {px : Pos} {scope : Scope} {cl : List (Str × Addr)} {pos : Pos} {Q : Value → Shared → Prop}
    (hh : A.handled = none) (F₀ : Fr h₀ L s.heap m) (hclos : closureFor scope env = pure cl) (hcell : ∀ z ∈ scope.names, z.2 ≠ .cell) (hkind : scope.kind = .function)
    (hnames : ∀ z ∈ scope.names, z.2 = .local → scope.names.lookup z.1 = some .local) (hx : scope.names.lookup x = some .local)
    (hiter : wpAny (model prog w) A (eval iter env) (FK prog w A h₀ L m env ct elt x scope cl Q) E s) (hs : ∀ x, foldedSetIterable iter env x = pure x := by intro _; rfl) :
    wpAny (model prog w) A (eval (.ListComp elt [⟨.Name x px, iter, [ct], 0⟩] scope pos) env) Q E s := by
  refine ListComp_T F₀ hclos hcell hkind hnames hx (wpAny_mono hiter (fun xv s₁ h₁ => ?_) fun _ _ e => e) hs
  obtain ⟨ax, vs, news, p, rfl, F₁, N₁, hS, hsz, turn, fin⟩ := h₁
  refine .inl ⟨ax, vs.toArray, news, rfl, hh, F₁, N₁, hS, by rw [List.size_toArray, sizeLine_eq]; exact hsz, ?_⟩
  rintro s₂ ⟨g, rfl⟩
  rw [List.size_toArray]
  exact restF (s := { s₁ with heap := g }) (vs := vs) (Fin := FinE h₀ L m { s₁ with heap := g } Q) p hS (fun i v _ hv => by rw [List.getElem?_toArray] at hv; exact hv)
    turn (fun D h tk F N off => fin D h tk F N (off1_mem off)) vs.length 0 (by omega)
end Mine
namespace Mine
theorem testIs {b b' : Bool} {Y N : Shared → Prop} {s : Shared} (h : b' = b) (hy : b' = true → Y s) (hn : b' = false → N s) : TestIs b Y N b' s := by
  refine ⟨h, ?_⟩
  cases b' with
  | true => rw [if_pos rfl]; exact hy rfl
  | false => rw [if_neg (by decide)]; exact hn rfl
end Mine
end secMComp6
section secMBook
open PySem PySem.W PyProof.Rows PySem.SeqAt
namespace Mine
/-- a list of four: agents, rules, delay, rate -/
structure BookD where
  b : Addr
  bu : Addr
  bl : Addr
  us : List Value
  ls : List Value
  dv : Value
  rv : Value
  cb : Nat
  cu : Nat
  cl : Nat
structure BookAt (h : Heap) (B : BookD) : Prop where
  hb : h.get? B.b = some (W.listOf #[.ref B.bu, .ref B.bl, B.dv, B.rv] B.cb)
  hu : h.get? B.bu = some (W.listOf B.us.toArray B.cu)
  hl : h.get? B.bl = some (W.listOf B.ls.toArray B.cl)
theorem BookAt.ext {h h' : Heap} {B : BookD} (x : BookAt h B) (e : Ext h h') : BookAt h' B := ⟨e _ _ x.hb, e _ _ x.hu, e _ _ x.hl⟩
noncomputable def BookNew (h : Heap) (B : BookD) : Prop := h.get? B.b = none ∧ h.get? B.bu = none ∧ h.get? B.bl = none
theorem book_new {L b u l : Addr} {h₀ h : Heap} {c c1 c2 : Nat} {us ls : List Value} {dv rv : Value} {rest : List (Addr × Obj)} (N : News h₀ L h rest) (n1 : (b, W.listOf #[.ref u, .ref l, dv, rv] c) ∈ rest) (n2 : (u, W.listOf us.toArray c1) ∈ rest) (n3 : (l, W.listOf ls.toArray c2) ∈ rest) :
    ∃ B : BookD, B.b = b ∧ BookAt h B ∧ B.us = us ∧ B.ls = ls ∧ B.dv = dv ∧ B.rv = rv ∧ BookNew h₀ B :=
  ⟨⟨b, u, l, us, ls, dv, rv, c, c1, c2⟩, rfl, ⟨(N _ n1).1, (N _ n2).1, (N _ n3).1⟩, rfl, rfl, rfl, rfl, (N _ n1).2.2, (N _ n2).2.2, (N _ n3).2.2⟩
end Mine
namespace Mine
noncomputable def strOf : Value → Str
  | .str x _ => x
  | _ => Str.ofString ""
noncomputable def AllStr (us : List Value) : Prop := ∀ v ∈ us, ∃ x t, v = .str x t
theorem allStr_are : ∀ {us : List Value}, AllStr us → StrsAre us (us.map strOf)
  | [], _ => .nil
  | v :: r, h => by
    obtain ⟨x, t, rfl⟩ := h v (List.mem_cons_self ..)
    exact .cons x t (allStr_are fun u hu => h u (List.mem_cons_of_mem _ hu))
theorem pick_slice (vs : List Value) (lo hi : Option Int) : (slicePick vs.toArray lo hi none).toList = (vs.drop (kms_lo lo vs.length)).take (kms_hi hi vs.length - kms_lo lo vs.length) := by
  rw [kmk_pick_nat _ (kms_bounds lo hi vs.toArray.size)]
  show ((vs.drop _).take _) = _
  rw [List.size_toArray]
section
variable {prog : Program} {w : World} {A : Around} {E : Value → Shared → Prop} {s : Shared} {Q : Value → Shared → Prop}
theorem item_base {value slice : PySem.Expr} {h₀ : Heap} {L l : Addr} {m : Str → Option Value} {vs : List Value} {c : Nat} {k : Int} {u : Tok} {x : Value} (F : Fr h₀ L s.heap m) (hl : h₀.get? l = some (W.listOf vs.toArray c)) (h0 : 0 ≤ k) (hfit : k < 1000000) (hx : vs[k.toNat]? = some x) (h : Q x s)
    (hs : subscripted slice false (.ref l) (.int k u) = operate [.ref l, .int k u] (getItem (.ref l) (.int k u)) := by with_unfolding_all rfl) :
    wpAny (model prog w) A (subscriptTail value slice (.ref l) (.int k u)) Q E s :=
  item_listR ⟨_, F.keep _ _ hl, rfl, _, rfl⟩ h0 (by omega) (by rw [List.getElem?_toArray]; exact hx) h hs
theorem eq_nil {l b : Addr} {vs : List Value} (hl : s.heap.IsList l vs.toArray) (hb : s.heap.IsList b (([] : List Value)).toArray) (hu : A.units < cLine) (h : Q (.bool vs.isEmpty) s) : wpAny (model prog w) A (compareOp .Eq (.ref l) (.ref b)) Q E s := by
  cases vs with
  | nil =>
    refine eq_listAt (e := fun _ => true) hl hb rfl hu (fun j h1 _ => absurd h1 (Nat.not_lt_zero _)) ?_
    exact h
  | cons v r => exact eq_list_lengthsAt hl hb (by simp) hu h
theorem eqAt_str {A : Around} {s : Shared} (x y : Str) (t u : Tok) : EqAt A s (.str y t) (.str x u) (y == x) := fun prog w E Q h => eqBool_str h
theorem notin_strs {l : Addr} {vs : List Value} {x : Str} {t : Tok} (hl : s.heap.IsList l vs.toArray) (hv : AllStr vs) (h : Q (.bool (!(vs.map strOf).contains x)) s) : wpAny (model prog w) A (compareOp .NotIn (.str x t) (.ref l)) Q E s := by
  refine notIn_listAt (fun v => strOf v == x) hl (fun y hy => ?_) ?_
  · obtain ⟨z, u, rfl⟩ := hv y (by simpa using hy)
    exact eqAt_str x z u t
  · have e : vs.toArray.any (fun v => strOf v == x) = (vs.map strOf).contains x := by
      rw [List.any_toArray, Bool.eq_iff_iff, List.any_eq_true, List.contains_iff_mem, List.mem_map]
      exact ⟨fun ⟨v, hv, e⟩ => ⟨v, hv, beq_iff_eq.mp e⟩, fun ⟨v, hv, e⟩ => ⟨v, hv, beq_iff_eq.mpr e⟩⟩
    rw [e]; exact h
theorem in_strs {l : Addr} {vs : List Value} {x : Str} {t : Tok} (hl : s.heap.IsList l vs.toArray) (hv : AllStr vs) (h : Q (.bool ((vs.map strOf).contains x)) s) : wpAny (model prog w) A (compareOp .In (.str x t) (.ref l)) Q E s := by
  refine in_listAt (fun v => strOf v == x) hl (fun y hy => ?_) ?_
  · obtain ⟨z, u, rfl⟩ := hv y (by simpa using hy)
    exact eqAt_str x z u t
  · have e : vs.toArray.any (fun v => strOf v == x) = (vs.map strOf).contains x := by
      rw [List.any_toArray, Bool.eq_iff_iff, List.any_eq_true, List.contains_iff_mem, List.mem_map]
      exact ⟨fun ⟨v, hv, e⟩ => ⟨v, hv, beq_iff_eq.mp e⟩, fun ⟨v, hv, e⟩ => ⟨v, hv, beq_iff_eq.mpr e⟩⟩
    rw [e]; exact h
end
end Mine
namespace Mine
theorem len_base {prog : Program} {w : World} {A : Around} {E : Value → Shared → Prop} {s : Shared} {Q : Value → Shared → Prop} {h₀ : Heap} {L a : Addr} {m : Str → Option Value} {vs : List Value} {c : Nat} (F : Fr h₀ L s.heap m) (hl : h₀.get? a = some (W.listOf vs.toArray c)) (hz : vs.length ≤ 1000000) (h : ∀ t' tk, Q (.int (vs.length : Int) t') { s with toks := tk }) : wpAny (model prog w) A (call (.builtin "len") [.ref a]) Q E s := by
  refine Calls.call_len_list (items := vs.toArray) ⟨_, F.keep _ _ hl, rfl, _, rfl⟩ (by rw [List.size_toArray]; omega) ?_
  rw [List.size_toArray]; exact h _ _
end Mine
namespace Mine
theorem type_base {prog : Program} {w : World} {A : Around} {E : Value → Shared → Prop} {s : Shared} {Q : Value → Shared → Prop} {h₀ : Heap} {L a : Addr} {m : Str → Option Value} {its : Array Value} {c : Nat} (F : Fr h₀ L s.heap m) (hl : h₀.get? a = some (W.listOf its c)) (hq : Q (.type "list") s) : wpAny (model prog w) A (call (.type "type") [.ref a]) Q E s :=
  kto_cont ⟨_, F.keep _ _ hl, rfl⟩ (by decide) hq
theorem isnt_base {prog : Program} {w : World} {A : Around} {E : Value → Shared → Prop} {s : Shared} {Q : Value → Shared → Prop} {h₀ : Heap} {L a b : Addr} {m : Str → Option Value} {its its2 : Array Value} {c c2 : Nat} (F : Fr h₀ L s.heap m) (ha : h₀.get? a = some (W.listOf its c)) (hb : h₀.get? b = some (W.listOf its2 c2)) (hne : @Ne Nat a b) (hq : Q (.bool false) s) : wpAny (model prog w) A (compareOp .Is (.ref a) (.ref b)) Q E s :=
  kto_is (F.keep _ _ ha) (F.keep _ _ hb) hne (by intro e; injection e with e; revert e; decide) hq
end Mine
end secMBook
namespace Mine
open_top hd09 for PySem.Challenge.rw_dn0256_09
end Mine
section secA09n
namespace Mine
local macro_rules | `(tactic| walk_at "go") => `(tactic| repeat' (first | (k_unfold; (try dsimp only)) | walk1 | (dsimp only; walk1)))
/-- Entry() -/
theorem ct_new {w : World} {A : Around} {s : Shared} {Q E : Value → Shared → Prop} {mean : ExcName → Option Value} {mg mb : Str → Option Value}
   (X : (hd09.heap_39 w.params).In s.heap) (T : Top hd09.view_39 (looseW hd09.view_39 []) mean mg mb s.heap) (hd : A.depth + 3 < recursionLimit) (hh : A.handled = none)
   (hQ : ∀ h' tk R, Ext s.heap h' → RecAt w.params 59 h' R → R.us = [] → R.ls = [] → R.dv = .none → R.rv = .none → RecNew s.heap R → Apart R →
     Q (.ref R.r) {s with heap := h', toks := tk}) :
   wpAny (model Challenge.rw_dn0256_09.row.prog w) A (call (.ref 59) []) Q E s := by
  revert X
  k_fill
  intro X
  obtain ⟨hp, g, dr, tk, os⟩ := s
  refine wpAny_call ?_
  refine make_core (makes_of X (by k_is)) (looks_findIn X (by k_is)) (fun self => bind_fn X self (by k_is)) (.inl rfl) ?_
  have hz : (hp.push emptyDict).objs.size = hp.objs.size + 1 := Heap.size_push ..
  have e0 : Ext hp ((hp.push emptyDict).push (instObj 59 hp.objs.size)) := fun b o e => Heap.get?_push_of_some _ (Heap.get?_push_of_some _ e)
  have X2 := X.keeps e0
  refine' call_defK (f := 35) X2 ?k6 ?k7 (T.keeps e0).nolimit (by (simp only [depth_under_make]; omega)) ?k9 ?kB ?_ ?c2 ?c3 ?c4 ?c5
  case k6 => k_is
  case k7 => k_is
  case k9 => exact BindsTo.of_eq rfl
  case kB => exact locs rfl
  case c2 => exact rfl
  case c3 => exact rfl
  case c4 => exact rfl
  case c5 => decide
  intro h₁ tk1 F0
  replace F0 : Fr ((hp.push emptyDict).push (instObj 59 hp.objs.size)) ((hp.push emptyDict).push (instObj 59 hp.objs.size)).objs.size h₁ (fun y => [(Str.ofString "self", Value.ref (hp.objs.size + 1))].reverse.lookup y) := F0
  have hz2 : ((hp.push emptyDict).push (instObj 59 hp.objs.size)).objs.size = hp.objs.size + 2 := by rw [Heap.size_push, hz]
  have F : Fr hp _ h₁ _ := Fr.lower F0 e0 (by rw [hz2]; exact Nat.le_add_right _ _)
  have e1 : ((hp.push emptyDict).push (instObj 59 hp.objs.size)).get? hp.objs.size = some (dictOf [] 0) := Heap.get?_push_of_some _ (Heap.get?_push_size _ rfl)
  have e2 : ((hp.push emptyDict).push (instObj 59 hp.objs.size)).get? (hp.objs.size + 1) = some (instObj 59 hp.objs.size) := by rw [← hz]; exact Heap.get?_push_size _ rfl
  have fresh : ∀ a, hp.objs.size ≤ a → hp.get? a = none := fun a ha => by
    cases e : hp.get? a with
    | none => rfl
    | some o' => exact absurd (Heap.lt_size e) (Nat.not_lt.mpr ha)
  have N : News hp ((hp.push emptyDict).push (instObj 59 hp.objs.size)).objs.size h₁ [(hp.objs.size + 1, instObj 59 hp.objs.size), (hp.objs.size, dictOf [] 0)] := by
    intro q hq
    simp only [List.mem_cons, List.not_mem_nil, or_false] at hq
    rcases hq with rfl | rfl
    · exact ⟨F0.keep _ _ e2, by rw [hz2]; exact Nat.ne_of_lt (Nat.lt_succ_self _), fresh _ (Nat.le_succ _)⟩
    · exact ⟨F0.keep _ _ e1, by rw [hz2]; exact Nat.ne_of_lt (Nat.lt_add_of_pos_right (by decide)), fresh _ (Nat.le_refl _)⟩
  clear F0 X2 e1 e2
  walk_at "go"
  rename Fr _ _ _ _ => F9
  rename News _ _ _ _ => N9
  refine ⟨rfl, ?_⟩
  obtain ⟨R, hRr, hR, u1, u2, u3, u4, u5, u6⟩ := rec_new (us := []) (ls := []) N9 (List.Mem.head _) (List.Mem.tail _ (List.Mem.head _)) (List.Mem.tail _ (List.Mem.tail _ (List.Mem.head _))) (List.Mem.tail _ (List.Mem.tail _ (List.Mem.tail _ (List.Mem.head _)))) (Nat.ne_of_lt (by omega))
  rw [← hRr]
  exact hQ _ _ R (fun b o e => F9.keep b o e) hR u1 u2 u3 u4 u5 u6
end Mine
end secA09n
section secA09m
namespace Mine
noncomputable def keepIn (ss : List Str) : Value → Bool
  | .str x _ => ss.contains x
  | _ => false
noncomputable def Handed (v : Value) : Prop := handedIn v = true
local macro_rules | `(tactic| walk_at "go") => `(tactic| repeat' (first | (k_unfold; (try dsimp only)) | walk1 | (dsimp only; walk1)))
local macro_rules | `(tactic| walk_at $k9:str) => if ["call type:set", "call ref", "call type:filter", "call type:list", "binaryOp Add ref ref", "compareOp Is", "compareOp Is none"].contains k9.getString then `(tactic| refine Stop.of ?_) else Lean.Macro.throwUnsupported
local macro_rules | `(tactic| walk_at "getAttr ref") => `(tactic| ((with_reducible show wpAny _ _ (getAttr _ (Str.ofString "__contains__") _) _ _ _); refine Stop.of ?_))
local macro_rules | `(tactic| k_inst) => `(tactic| (refine instBase (by with_reducible assumption) (by with_reducible assumption) (by with_reducible assumption)))
local macro_rules | `(tactic| k_ne) => `(tactic| first | with_reducible assumption | (refine Ne.symm ?_; with_reducible assumption))
local macro_rules | `(tactic| k_handed) => `(tactic| (with_reducible assumption))
theorem ct_merge {w : World} {A : Around} {s : Shared} {Q E : Value → Shared → Prop} {mean : ExcName → Option Value} {mg mb : Str → Option Value} {R1 R2 : RecD} {ss1 ss2 : List Str}
   (X : (hd09.heap_39 w.params).In s.heap) (T : Top hd09.view_39 (looseW hd09.view_39 []) mean mg mb s.heap) (hd : A.depth + 10 < recursionLimit) (hh : A.handled = none)
   (x1 : RecAt w.params 59 s.heap R1) (x2 : RecAt w.params 59 s.heap R2) (hs1 : StrsAre R1.us ss1) (hs2 : StrsAre R2.us ss2) (hn1 : ss1.length ≤ 200) (hn2 : ss2.length ≤ 200) (hm1 : R1.ls.length ≤ 400) (hm2 : R2.ls.length ≤ 400)
   (v1 : Handed R1.dv) (v2 : Handed R2.dv) (v3 : Handed R1.rv) (v4 : Handed R2.rv)
   (hQ : ∀ h' tk R, Ext s.heap h' → RecAt w.params 59 h' R → R.us = R1.us.filter (keepIn ss2) → R.ls = R1.ls ++ R2.ls → R.dv = (if noneV R2.dv then R1.dv else R2.dv) → R.rv = (if noneV R2.rv then R1.rv else R2.rv) →
     RecNew s.heap R → Apart R → Q (.ref R.r) {s with heap := h', toks := tk}) :
   wpAny (model Challenge.rw_dn0256_09.row.prog w) A (call (.ref 70) [.ref R1.r, .ref R2.r]) Q E s := by
  revert X
  k_fill
  intro X
  have x1' := x1
  have x2' := x2
  obtain ⟨r1, d1, u1, l1, us1, ls1, dv1, rv1, a1, a2, a3, a4, cu1, cl1⟩ := R1
  obtain ⟨r2, d2, u2, l2, us2, ls2, dv2, rv2, b1, b2, b3, b4, cu2, cl2⟩ := R2
  obtain ⟨y1, y2, y3, y4⟩ := x1'
  obtain ⟨z1, z2, z3, z4⟩ := x2'
  dsimp only [recDict, Handed] at y1 y2 y3 y4 z1 z2 z3 z4 hs1 hs2 hm1 hm2 hQ v1 v2 v3 v4
  clear x1 x2
  refine wpAny_call ?_
  refine call_pos_ret (by omega) (X _ _ rfl) rfl T.nolimit (codeRec_of X (by k_is)) rfl (locs rfl) (fun h₁ F => ?_)
  replace F : Fr s.heap s.heap.objs.size h₁ (fun y => [(Str.ofString "e1", Value.ref r1), (Str.ofString "e2", Value.ref r2)].reverse.lookup y) := F
  have N : News s.heap s.heap.objs.size h₁ [] := News.nil
  walk_at "go"
  refine Stop.go ?_
  refine ct_new (Frag.In.keeps X F.keep) (Top.keeps T F.keep) (by (simp only [depth_deeper]; omega)) hh (fun h2 tk2 R e2 x3 q1 q2 q3 q4 hnew hap => ?_)
  have F2 := F.keeps e2
  have N2 := rec_led F x3 hnew
  clear F N e2 x3 hnew
  obtain ⟨r, d, u, l, us, ls, dv, rv, k1, k2, k3, k4, cu, cl⟩ := R
  dsimp only [recDict] at q1 q2 q3 q4 N2 hap ⊢
  subst q1 q2 q3 q4
  obtain ⟨c1, c2, c3, c4, c5, c6⟩ := hap
  dsimp only at c1 c2 c3 c4 c5 c6
  walk_at "go"
  refine Stop.go ?_
  have lu1 : s.heap.IsList u1 us1.toArray := ⟨_, y3, rfl, _, rfl⟩
  have lu2 : s.heap.IsList u2 us2.toArray := ⟨_, z3, rfl, _, rfl⟩
  have ll1 : s.heap.IsList l1 ls1.toArray := ⟨_, y4, rfl, _, rfl⟩
  have ll2 : s.heap.IsList l2 ls2.toArray := ⟨_, z4, rfl, _, rfl⟩
  have hul := hs2.length
  have hul1 := hs1.length
  rename Fr _ _ _ _ => F3
  rename News _ _ _ _ => N3
  refine call_setS hh (lu2.at fun o e => F3.keep _ _ e) hs2 (by omega) (fun h4 tk4 n4 hS4 e4 => ?_)
  have F4 := F3.keeps e4
  have N4 := newsExt N3 e4
  clear F3 N3 e4
  dsimp only
  walk_at "go"
  refine Stop.go ?_
  refine attr_in hS4 (fun h5 tk5 hb5 e5 => ?_)
  have F5 := F4.keeps e5
  have N5 := newsExt N4 e5
  have hS5 := SetOf.ext hS4 e5
  clear F4 N4 e5 hS4
  dsimp only at hb5 ⊢
  walk_at "go"
  refine Stop.go ?_
  refine call_filter (lu1.at fun o e => F5.keep _ _ e) (fun h6 hM hIt hz e6 => ?_)
  dsimp only at hM hIt hz e6 ⊢
  walk_at "go"
  refine Stop.go ?_
  refine call_list_filter (keep := keepIn ss2) hh e6 hz hM hIt (lu1.at fun o e => F5.keep _ _ e) (by omega) ?_ ?_
  · intro i x s' Q' E' hi he' hq'
    obtain ⟨tx, rfl⟩ := strsAt hs1 i x hi
    refine call_in (he' _ _ hb5) (SetOf.ext hS5 he') ?_
    exact hq' _ _ (fun _ _ e => e)
  intro h7 tk7 c7 e7 n7 o7
  dsimp only at n7 o7 ⊢
  generalize h6.objs.size = un at n7 o7 ⊢
  have g1 := ne_fresh N5 (List.Mem.head _) n7
  have g2 := ne_fresh N5 (List.Mem.tail _ (List.Mem.head _)) n7
  have g3 := ne_fresh N5 (List.Mem.tail _ (List.Mem.tail _ (List.Mem.head _))) n7
  have g4 := ne_fresh N5 (List.Mem.tail _ (List.Mem.tail _ (List.Mem.tail _ (List.Mem.head _)))) n7
  have F7 := F5.keeps e7
  have N7 := news_fresh F5 (newsExt N5 e7) n7 o7
  clear F5 N5 e7 n7 o7 hS5 hM hIt hz e6 hb5
  walk_at "go"
  refine Stop.go ?_
  rename Fr _ _ _ _ => F8
  rename News _ _ _ _ => N8
  refine add_listsK F8 N8 (ll1.at fun o e => F8.keep _ _ e) (ll2.at fun o e => F8.keep _ _ e) (fun ln h9 F9 N9 n9 => ?_) (by omega)
  have j0 := n9 _ (List.Mem.head _)
  have j1 := n9 _ (List.Mem.tail _ (List.Mem.head _))
  have j2 := n9 _ (List.Mem.tail _ (List.Mem.tail _ (List.Mem.head _)))
  have j3 := n9 _ (List.Mem.tail _ (List.Mem.tail _ (List.Mem.tail _ (List.Mem.head _))))
  have j4 := n9 _ (List.Mem.tail _ (List.Mem.tail _ (List.Mem.tail _ (List.Mem.tail _ (List.Mem.head _)))))
  dsimp only at j0 j1 j2 j3 j4
  clear F8 N8 n9
  walk_at "go"
  refine Stop.go ?_
  refine is_noneV ?_
  cases hb1 : noneV dv2
  all_goals
    walk_at "go"
    refine Stop.go ?_
    refine is_noneV ?_
    cases hb2 : noneV rv2
    all_goals
      walk_at "go"
      rename Fr _ _ _ _ => F9
      rename News _ _ _ _ => N9
      obtain ⟨R, hRr, hR, u1, u2, u3, u4, u5, u6⟩ := rec_new N9 (List.Mem.head _) (List.Mem.tail _ (List.Mem.head _)) (List.Mem.tail _ (List.Mem.tail _ (List.Mem.tail _ (List.Mem.tail _ (List.Mem.head _))))) (List.Mem.tail _ (List.Mem.tail _ (List.Mem.tail _ (List.Mem.tail _ (List.Mem.tail _ (List.Mem.head _)))))) (Ne.symm j0)
      dsimp only
      rw [← hRr]
      refine hQ _ _ R (fun b o e => F9.keep b o e) hR u1 u2 ?_ ?_ u5 u6
      · first | (rw [u3, if_pos hb1]) | (rw [u3, if_neg (by rw [hb1]; decide)])
      · first | (rw [u4, if_pos hb2]) | (rw [u4, if_neg (by rw [hb2]; decide)])
end Mine
end secA09m
section secA09p
namespace Mine
local macro_rules | `(tactic| walk_at "go") => `(tactic| repeat' (first | (k_unfold; (try dsimp only)) | walk1 | (dsimp only; walk1)))
local macro_rules | `(tactic| walk_at "call type:list") => `(tactic| refine Stop.of ?_)
local macro_rules | `(tactic| k_inst) => `(tactic| (refine instBase (by with_reducible assumption) (by with_reducible assumption) (by with_reducible assumption)))
local macro_rules | `(tactic| k_handed) => `(tactic| (with_reducible assumption))
theorem ct_parts {w : World} {A : Around} {s : Shared} {Q E : Value → Shared → Prop} {mean : ExcName → Option Value} {mg mb : Str → Option Value} {R : RecD}
   (X : (hd09.heap_39 w.params).In s.heap) (T : Top hd09.view_39 (looseW hd09.view_39 []) mean mg mb s.heap) (hd : A.depth + 10 < recursionLimit) (hh : A.handled = none)
   (x : RecAt w.params 59 s.heap R) (hn : R.us.length ≤ 1000) (hm : R.ls.length ≤ 1000) (v1 : Handed R.dv) (v2 : Handed R.rv)
   (hQ : ∀ h' tk B, Ext s.heap h' → BookAt h' B → B.us = R.us → B.ls = R.ls → B.dv = R.dv → B.rv = R.rv → BookNew s.heap B → Q (.ref B.b) {s with heap := h', toks := tk}) :
   wpAny (model Challenge.rw_dn0256_09.row.prog w) A (call (.ref 77) [.ref R.r]) Q E s := by
  revert X
  k_fill
  intro X
  obtain ⟨r1, d1, u1, l1, us1, ls1, dv1, rv1, a1, a2, a3, a4, cu1, cl1⟩ := R
  obtain ⟨y1, y2, y3, y4⟩ := x
  dsimp only [recDict, Handed] at y1 y2 y3 y4 hn hm hQ v1 v2
  refine wpAny_call ?_
  refine call_pos_ret (by omega) (X _ _ rfl) rfl T.nolimit (codeRec_of X (by k_is)) rfl (locs rfl) (fun h₁ F => ?_)
  replace F : Fr s.heap s.heap.objs.size h₁ (fun y => [(Str.ofString "one", Value.ref r1)].reverse.lookup y) := F
  have N : News s.heap s.heap.objs.size h₁ [] := News.nil
  have lu1 : s.heap.IsList u1 us1.toArray := ⟨_, y3, rfl, _, rfl⟩
  have ll1 : s.heap.IsList l1 ls1.toArray := ⟨_, y4, rfl, _, rfl⟩
  walk_at "go"
  refine Stop.go ?_
  refine list_copyK F N (lu1.at fun o e => F.keep _ _ e) (fun bu c1 h2 F2 N2 _ => ?_) (by rw [List.size_toArray, sizeLine_eq]; omega)
  clear F N
  walk_at "go"
  refine Stop.go ?_
  refine list_copyK F2 N2 (ll1.at fun o e => F2.keep _ _ e) (fun bl c2 h3 F3 N3 _ => ?_) (by rw [List.size_toArray, sizeLine_eq]; omega)
  clear F2 N2
  walk_at "go"
  rename Fr _ _ _ _ => F9
  rename News _ _ _ _ => N9
  obtain ⟨B, hB, xB, u1, u2, u3, u4, u5⟩ := book_new N9 (List.Mem.head _) (List.Mem.tail _ (List.Mem.tail _ (List.Mem.head _))) (List.Mem.tail _ (List.Mem.head _))
  rw [← hB]
  exact hQ _ _ B (fun b o e => F9.keep b o e) xB u1 u2 u3 u4 u5
end Mine
end secA09p
section secA09d
namespace Mine
structure BookOk (h : Heap) (B : BookD) : Prop where
  x : BookAt h B
  us : AllStr B.us
  n : B.us.length ≤ 200
  m : B.ls.length ≤ 400
  d : Handed B.dv
  r : Handed B.rv
/-- every one of the others names the agent -/
noncomputable def inAll (bs : List BookD) (v : Value) : Bool := bs.all fun B => (B.us.map strOf).contains (strOf v)
noncomputable def lastV (f : BookD → Value) (bs : List BookD) : Value := bs.foldl (fun a B => if noneV (f B) then a else f B) .none
noncomputable def J09a (m₀ : Str → Option Value) (la ca : Addr) (us : List Value) (bs : List BookD) (i : Nat) (m₁ : Str → Option Value) (nx : List (Addr × Obj)) : Prop :=
  ∃ c oc v0, nx = [(la, W.listOf ((us.take i).filter (inAll bs)).toArray c), (ca, oc)] ∧ oc.data = .cell v0 ∧ m₁ = fun y => if y = Str.ofString "agents" then some (.ref la) else m₀ y
theorem slice1 {α : Type} (a : α) (r : List α) : ((a :: r).drop (kms_lo (some 1) (a :: r).length)).take (kms_hi none (a :: r).length - kms_lo (some 1) (a :: r).length) = r := by
  have e : kms_lo (some 1) (a :: r).length = 1 := by
    show min 1 (a :: r).length = 1
    exact Nat.min_eq_left (by rw [List.length_cons]; exact Nat.succ_le_succ (Nat.zero_le _))
  rw [e]
  show (r.take _) = r
  exact List.take_of_length_le (Nat.le_refl _)
theorem neNat {a b : Addr} (h : a ≠ b) : @Ne Nat a b := h
theorem BookAt.same {h : Heap} {B B' : BookD} (x : BookAt h B) (y : BookAt h B') (e : B.b = B'.b) : B.us = B'.us := by
  have h1 := x.hb
  rw [e, y.hb] at h1
  have h2 := Option.some.inj h1
  have h3 : (#[Value.ref B'.bu, .ref B'.bl, B'.dv, B'.rv] : Array Value) = #[.ref B.bu, .ref B.bl, B.dv, B.rv] := by
    have := congrArg Obj.data h2
    injection this
  have h4 : B'.bu = B.bu := by
    have := congrArg (fun a : Array Value => a[0]?) h3
    simpa using this
  have h5 := x.hu
  rw [← h4, y.hu] at h5
  have h6 := congrArg Obj.data (Option.some.inj h5)
  have h7 : B'.us.toArray = B.us.toArray := by injection h6
  simpa using h7.symm
/-- a book at this place that does not name the agent -/
noncomputable def offB (bs : List BookD) (x : Str) : Value → Bool
  | .ref a => bs.any fun B => decide (B.b = a) && !(B.us.map strOf).contains x
  | _ => false
theorem offB_at {h : Heap} {bs : List BookD} {B : BookD} {x : Str} (hB : B ∈ bs) (xs : ∀ B ∈ bs, BookOk h B) : (!(B.us.map strOf).contains x) = offB bs x (.ref B.b) := by
  show _ = bs.any _
  rw [Bool.eq_iff_iff, List.any_eq_true]
  constructor
  · intro e
    exact ⟨B, hB, by rw [decide_eq_true rfl, Bool.true_and]; exact e⟩
  · rintro ⟨B', hB', e⟩
    rw [Bool.and_eq_true, decide_eq_true_eq] at e
    rw [(xs B hB).x.same (xs B' hB').x e.1.symm]
    exact e.2
theorem offB_none {bs : List BookD} {x : Str} {t : Tok} : ((bs.map fun B => Value.ref B.b).filter (offB bs x)).isEmpty = inAll bs (.str x t) := by
  rw [Bool.eq_iff_iff, List.isEmpty_iff, List.filter_eq_nil_iff]
  unfold inAll
  rw [List.all_eq_true]
  constructor
  · intro h B hB
    have := h (.ref B.b) (List.mem_map_of_mem hB)
    show (B.us.map strOf).contains x = true
    cases hc : (B.us.map strOf).contains x with
    | true => rfl
    | false =>
      exfalso
      refine this ?_
      show (bs.any _) = true
      rw [List.any_eq_true]
      exact ⟨B, hB, by rw [decide_eq_true rfl, hc]; rfl⟩
  · intro h v hv e
    obtain ⟨B, hB, rfl⟩ := List.mem_map.mp hv
    have e' : (bs.any fun B' => decide (B'.b = B.b) && !(B'.us.map strOf).contains x) = true := e
    rw [List.any_eq_true] at e'
    obtain ⟨B', hB', e'⟩ := e'
    have h2 : (B'.us.map strOf).contains x = true := h B' hB'
    rw [h2] at e'
    simp at e'
theorem end09a {g h' : Heap} {L : Addr} {s₁ : Shared} {m₀ m' : Str → Option Value} {us : List Value} {bs : List BookD} {la ca : Addr} {oc : Obj} {v0 : Option Value} {ys : List Value} {c i tk : Nat} {own news' : List (Addr × Obj)} (F : Fr g L h' m') (N : News g L h' news') (hin : ∀ p ∈ (la, W.listOf ys.toArray c) :: (ca, oc) :: own, p ∈ news')
    (hoc : oc.data = .cell v0) (hys : ys = (us.take (i + 1)).filter (inAll bs)) (hoff : OwnOff own [la, ca]) (hm : m' = fun y => if y = Str.ofString "agents" then some (.ref la) else m₀ y) :
    TxtEnd g L own (J09a m₀ la ca us bs (i + 1)) s₁ { s₁ with heap := h', toks := tk } := by
  subst hys
  refine ⟨h', tk, m', news', [(la, W.listOf _ c), (ca, oc)], rfl, F, N, fun p hp => hin p ?_, fun p hp => hin p (by simp [hp]), hoff, c, oc, v0, rfl, hoc, hm⟩
  simp only [List.mem_cons, List.not_mem_nil, or_false] at hp ⊢
  rcases hp with h | h <;> simp [h]
theorem take_t {us : List Value} {p : Value → Bool} {i : Nat} {v : Value} (h : us[i]? = some v) (hp : p v = true) : (us.take (i + 1)).filter p = (us.take i).filter p ++ [v] := by
  rw [List.take_add_one, h, List.filter_append]; simp [hp]
theorem take_f {us : List Value} {p : Value → Bool} {i : Nat} {v : Value} (h : us[i]? = some v) (hp : p v = false) : (us.take (i + 1)).filter p = (us.take i).filter p := by
  rw [List.take_add_one, h, List.filter_append]; simp [hp]
noncomputable def J09b (m₀ : Str → Option Value) (dd dl la ca : Addr) (oa oc : Obj) (Bs : List BookD) (i : Nat) (m₁ : Str → Option Value) (nx : List (Addr × Obj)) : Prop :=
  ∃ c1 c2, nx = [(dd, W.listOf #[.ref la, .ref dl, lastV (·.dv) (Bs.take i), lastV (·.rv) (Bs.take i)] c1), (dl, W.listOf (((Bs.take i).map (·.ls)).flatten).toArray c2), (la, oa), (ca, oc)] ∧ ∀ y, y ≠ Str.ofString "book" → y ≠ Str.ofString "rule" → y ≠ Str.ofString "k" → m₁ y = m₀ y
noncomputable def J09c (m₀ : Str → Option Value) (dd dl la ca : Addr) (od oa oc : Obj) (own : List (Addr × Obj)) (pre ls : List Value) (i : Nat) (m₁ : Str → Option Value) (nx : List (Addr × Obj)) : Prop :=
  ∃ c2, nx = (dd, od) :: (dl, W.listOf (pre ++ ls.take i).toArray c2) :: (la, oa) :: (ca, oc) :: own ∧ ∀ y, y ≠ Str.ofString "rule" → m₁ y = m₀ y
theorem map3 {m₀ m₁ : Str → Option Value} {v : Option Value} (h : ∀ y, y ≠ Str.ofString "book" → y ≠ Str.ofString "rule" → y ≠ Str.ofString "k" → m₁ y = m₀ y) :
    (fun y => if y = Str.ofString "book" then v else m₁ y) = fun y => if y = Str.ofString "book" then v else if y = Str.ofString "rule" then m₁ y else if y = Str.ofString "k" then m₁ y else m₀ y := by
  funext y
  by_cases h1 : y = Str.ofString "book"
  · simp only [if_pos h1]
  · simp only [if_neg h1]
    by_cases h2 : y = Str.ofString "rule"
    · simp only [if_pos h2]
    · simp only [if_neg h2]
      by_cases h3 : y = Str.ofString "k"
      · simp only [if_pos h3]
      · simp only [if_neg h3]; exact h y h1 h2 h3
theorem map1 {m₀ m₁ : Str → Option Value} {v : Option Value} {x : Str} (h : ∀ y, y ≠ x → m₁ y = m₀ y) : (fun y => if y = x then v else m₁ y) = fun y => if y = x then v else m₀ y := by
  funext y
  by_cases h1 : y = x
  · simp only [if_pos h1]
  · simp only [if_neg h1]; exact h y h1
theorem map1u {m₀ m₁ : Str → Option Value} {x : Str} (h : ∀ y, y ≠ x → m₁ y = m₀ y) : m₁ = fun y => if y = x then m₁ y else m₀ y := by
  funext y
  by_cases h1 : y = x
  · simp only [if_pos h1]
  · simp only [if_neg h1]; exact h y h1
noncomputable def OwnOff' (own : List (Addr × Obj)) (adr : List Addr) : Prop := OwnOff own adr
noncomputable def Fits (n : Nat) : Prop := n ≤ sizeLine
theorem flat_len {Bs : List BookD} (h : ∀ B ∈ Bs, B.ls.length ≤ 400) : ((Bs.map (·.ls)).flatten).length ≤ 400 * Bs.length := by
  induction Bs with
  | nil => exact Nat.le_refl _
  | cons B r ih =>
    have h1 := h B (List.mem_cons_self ..)
    have h2 := ih fun C hC => h C (List.mem_cons_of_mem _ hC)
    rw [List.map_cons, List.flatten_cons, List.length_append, List.length_cons]
    omega
theorem end09c {g h' : Heap} {L : Addr} {s₁ : Shared} {m₀ m' : Str → Option Value} {dd dl la ca : Addr} {od oa oc : Obj} {own own2 news' : List (Addr × Obj)} {pre ls ys : List Value} {c i tk : Nat} (F : Fr g L h' m') (N : News g L h' news') (hin : ∀ p ∈ (dd, od) :: (dl, W.listOf ys.toArray c) :: (la, oa) :: (ca, oc) :: (own ++ own2), p ∈ news')
    (hys : ys = pre ++ ls.take (i + 1)) (hoff : OwnOff own2 (dd :: dl :: la :: ca :: own.map (·.1))) (hm : ∀ y, y ≠ Str.ofString "rule" → m' y = m₀ y) :
    InvEndG g L (J09c m₀ dd dl la ca od oa oc own pre ls (i + 1)) own2 s₁ { s₁ with heap := h', toks := tk } := by
  subst hys
  refine InvEndG.intro (nx := (dd, od) :: (dl, W.listOf _ c) :: (la, oa) :: (ca, oc) :: own) F N ⟨c, rfl, hm⟩ hoff (fun p hp => hin p ?_) (fun p hp => hin p (by simp [hp]))
  simp only [List.mem_cons, List.mem_append] at hp ⊢
  rcases hp with h | h | h | h | h <;> simp [h]
theorem lastV_step {f : BookD → Value} {Bs : List BookD} {i : Nat} {B : BookD} (h : Bs[i]? = some B) : lastV f (Bs.take (i + 1)) = if noneV (f B) then lastV f (Bs.take i) else f B := by
  unfold lastV
  rw [List.take_add_one, h, List.foldl_append]; rfl
theorem end09b {g h' : Heap} {L : Addr} {s₁ : Shared} {m₀ m' : Str → Option Value} {dd dl la ca : Addr} {oa oc : Obj} {own news' : List (Addr × Obj)} {Bs : List BookD} {B : BookD} {ys : List Value} {v r : Value} {c1 c2 i tk : Nat} (F : Fr g L h' m') (N : News g L h' news')
    (hin : ∀ p ∈ (dd, W.listOf #[.ref la, .ref dl, v, r] c1) :: (dl, W.listOf ys.toArray c2) :: (la, oa) :: (ca, oc) :: own, p ∈ news') (hB : Bs[i]? = some B) (hv : v = if noneV B.dv then lastV (·.dv) (Bs.take i) else B.dv) (hr : r = if noneV B.rv then lastV (·.rv) (Bs.take i) else B.rv)
    (hys : ys = ((Bs.take i).map (·.ls)).flatten ++ B.ls) (hoff : OwnOff own [dd, dl, la, ca]) (hm : ∀ y, y ≠ Str.ofString "book" → y ≠ Str.ofString "rule" → y ≠ Str.ofString "k" → m' y = m₀ y) :
    InvEndG g L (J09b m₀ dd dl la ca oa oc Bs (i + 1)) own s₁ { s₁ with heap := h', toks := tk } := by
  rw [← lastV_step hB] at hv hr
  have e : ((Bs.take (i + 1)).map (·.ls)).flatten = ys := by
    rw [hys, List.take_add_one, hB, List.map_append, List.flatten_append]; simp
  subst hv hr
  rw [← e] at hin
  refine InvEndG.intro (nx := [(dd, W.listOf _ c1), (dl, W.listOf _ c2), (la, oa), (ca, oc)]) F N ⟨c1, c2, rfl, hm⟩ hoff (fun p hp => hin p ?_) (fun p hp => hin p (by simp [hp]))
  simp only [List.mem_cons, List.not_mem_nil, or_false] at hp ⊢
  rcases hp with h | h | h | h <;> simp [h]
local macro_rules | `(tactic| walk_at "call builtin:list.append") => `(tactic| (k_here; (try dsimp only [List.cons_append, List.nil_append]); (with_reducible show wpAny _ _ (call (Value.builtin _) [Value.ref _, _]) _ _ _); k_dflt (refine' append_K ?k1 ?k2 ?k3 ?_ ?z; (case k1 => k_asm); (case k2 => k_asm); (case k3 => k_upd); (case z => first | exact (show Fits _ from (by with_reducible assumption)) | size_fits); k_whole); intro h' F' N'; (try k_sweep)))
noncomputable def OffI (I : Addr) (l : List Addr) : Prop := ∀ a ∈ l, a ≠ I
theorem offI_of {I : Addr} {l : List (Addr × Obj)} (h : ∀ p ∈ l, p.1 < I) : OffI I (l.map (·.1)) := fun a ha => by
  obtain ⟨p, hp, rfl⟩ := List.mem_map.mp ha
  exact Nat.ne_of_lt (h p hp)
theorem unrW {g h' : Heap} {L I : Addr} {oI : Obj} {rest : List (Addr × Obj)} {adr : List Addr} {m' : Str → Option Value} {s₁ : Shared} {tk : Nat} {R : (Str → Option Value) → List (Addr × Obj) → Prop} (F : Fr g L h' m') (N : News g L h' ((I, oI) :: rest)) (off : OffI I adr) (ha : rest.map (·.1) = adr) (r : R m' rest) :
    UnrEndW g L s₁ [(I, oI)] R { s₁ with heap := h', toks := tk } :=
  ⟨h', tk, m', rest, rfl, F, N, fun p hp q hq => by
    cases List.mem_singleton.mp hq
    exact off _ (ha ▸ List.mem_map_of_mem hp), r⟩
local macro_rules | `(tactic| walk_at "UnrEndW") => `(tactic| ((with_reducible rename Fr _ _ _ _ => F'); (with_reducible rename News _ _ _ _ => N'); refine' unrW F' N' ?o9 ?a9 ⟨And.intro (List.Mem.head _) trivial, ?_⟩; (case o9 => with_reducible assumption); (case a9 => rfl)))
local macro_rules | `(tactic| k_ne) => `(tactic| first | with_reducible assumption | (refine Ne.symm ?_; with_reducible assumption) | (apply Nat.ne_of_lt; omega) | (apply Nat.ne_of_gt; omega))
local macro_rules | `(tactic| k_all) => `(tactic| ((with_reducible rename OwnOff _ _ => hOff9); exact fun q hq => hOff9 q hq _ (by k_mem)))
local macro_rules | `(tactic| walk_at "go") => `(tactic| repeat' (first | (k_unfold; (try dsimp only)) | walk1 | (dsimp only; walk1)))
local macro_rules | `(tactic| walk_at $k9:str) => if ["exec For Name Subscript cons nil", "exec For Name Name cons nil", "eval ListComp", "compareOp Eq ref ref", "compareOp NotIn str ref", "subscriptTail Name Slice ref ref", "SrcIs", "TestIs", "EltV", "FK", "TxtEnd", "InvEndG", "call ref", "newList", "compareOp IsNot none", "compareOp IsNot"].contains k9.getString then `(tactic| refine Stop.of ?_) else Lean.Macro.throwUnsupported
noncomputable def MkT : Prop := True
local macro_rules | `(tactic| walk_at "pyIter ref") => `(tactic| ((fail_if_success (with_reducible rename MkT => hM9)); refine Stop.of ?_))
local macro_rules | `(tactic| walk_at "subscriptTail Name Name ref int") => `(tactic| (k_here; refine item_base (by with_reducible assumption) (by with_reducible assumption) (by decide) (by decide) rfl ?_))
local macro_rules | `(tactic| walk_at "subscriptTail Name Constant ref int") => `(tactic| (k_here; refine item_base (by with_reducible assumption) (by with_reducible assumption) (by decide) (by decide) rfl ?_))
local macro_rules | `(tactic| walk_at "subscriptTail Subscript Constant ref int") => `(tactic| (k_here; refine item_base (by with_reducible assumption) (by with_reducible assumption) (by decide) (by decide) rfl ?_))
theorem ct_due {w : World} {A : Around} {s : Shared} {Q E : Value → Shared → Prop} {mean : ExcName → Option Value} {mg mb : Str → Option Value} {lb : Addr} {cb : Nat} {B0 : BookD} {bs : List BookD}
   (X : (hd09.heap_39 w.params).In s.heap) (T : Top hd09.view_39 (looseW hd09.view_39 []) mean mg mb s.heap) (hd : A.depth + 10 < recursionLimit) (hh : A.handled = none) (hu : A.units + 100 < cLine)
   (hl : s.heap.get? lb = some (W.listOf ((.ref B0.b :: bs.map fun B => .ref B.b)).toArray cb)) (x0 : BookOk s.heap B0) (xs : ∀ B ∈ bs, BookOk s.heap B) (hn : bs.length ≤ 10)
   (hQ : ∀ h' tk D, Ext s.heap h' → BookAt h' D → D.us = B0.us.filter (inAll bs) → D.ls = ((B0 :: bs).map (·.ls)).flatten → D.dv = lastV (·.dv) (B0 :: bs) → D.rv = lastV (·.rv) (B0 :: bs) → BookNew s.heap D → Q (.ref D.b) {s with heap := h', toks := tk}) :
   wpAny (model Challenge.rw_dn0256_09.row.prog w) A (call (.ref 82) [.ref lb]) Q E s := by
  revert X
  k_fill
  intro X
  obtain ⟨⟨y1, y2, y3⟩, y4, y5, y6, y7, y8⟩ := x0
  refine wpAny_call ?_
  refine' call_cellsK (f := 82) X ?k6 ?k7 T.nolimit (by omega) ?k9 ?kB ?kD ?_ ?c2 ?c3 ?c4
  case k6 => k_is
  case k7 => k_is
  case k9 => exact BindsTo.of_eq rfl
  case kB => exact rfl
  case kD => decide +kernel
  case c2 => exact rfl
  case c3 => exact rfl
  case c4 => exact rfl
  intro h₁ tk cells F N Y
  obtain ⟨oc, hE, d1⟩ := CellsAre.one Y
  subst hE
  clear Y
  replace F : Fr s.heap s.heap.objs.size h₁ (fun y => if y = Str.ofString "books" then some (.ref lb) else none) := F
  replace d1 : oc.data = .cell none := d1
  walk_at "go"
  refine Stop.go ?_
  refine newList_K F N (fun la h2 F2 N2 hlt2 => ?_) (by rw [sizeLine_eq]; exact Nat.le_of_ble_eq_true rfl)
  have hla := Nat.ne_of_gt (hlt2 _ (List.Mem.head _))
  clear F N hlt2
  walk_at "go"
  refine Stop.go ?_
  rename Fr _ _ _ _ => F3
  rename News _ _ _ _ => N3
  refine For_turns F3 ?_
  walk_at "go"
  refine Stop.go ?_
  refine list_turns (J09a (fun y => if y = Str.ofString "books" then some (.ref lb) else none) la (s.heap.objs.size + 1) B0.us bs) hh ⟨_, y2, rfl, _, rfl⟩ F3 N3 ⟨0, oc, none, rfl, d1, rfl⟩ ?turn1 ?done1
  case turn1 =>
    rintro i v m₁ news₁ h tk own hv hoff ⟨c, oc, v0, rfl, hoc, rfl⟩ F4 N4
    clear F3 N3
    obtain ⟨x, tx, rfl⟩ := y4 v (List.mem_of_getElem? hv)
    walk_at "go"
    refine Stop.go ?_
    rename Fr _ _ _ _ => F5
    rename News _ _ _ _ => N5
    refine compFK hh F5 (by with_unfolding_all rfl) (by decide) rfl (by decide) rfl ?_
    walk_at "go"
    refine Stop.go ?_
    have hlb : s.heap.IsList lb (Value.ref B0.b :: bs.map fun B => Value.ref B.b).toArray := ⟨_, hl, rfl, _, rfl⟩
    refine kmk_slice_lit (s := ⟨_, _, _, _, _⟩) F5 N5 (hlb.at fun o e => F5.keep _ _ e) (.int _ _) .none (pick_slice _ _ _) (fun D1 h6 F6 N6 hlt6 => ?_) (by with_unfolding_all rfl) (by intro _; with_unfolding_all rfl) (by rw [List.size_toArray, List.length_cons, List.length_map, sizeLine_eq]; omega)
    rw [slice1] at N6
    clear F5 N5
    dsimp only
    walk_at "go"
    refine Stop.go ?_
    refine ⟨D1, bs.map (fun B => Value.ref B.b), _, (offB bs x), rfl, F6, N6, .inr ⟨_, List.Mem.head _, rfl, _, rfl⟩, by rw [List.length_map]; omega, ?_, ?_⟩
    · intro j v I oI C oC D oD m₂ h tk E' hv hC hx F7 N7 off ne
      clear F6 N6
      rw [List.getElem?_map] at hv
      obtain ⟨B, hB, rfl⟩ := Option.map_eq_some_iff.mp hv
      have xB := xs B (List.mem_of_getElem? hB)
      obtain ⟨⟨z1, z2, z3⟩, z4, z5, z6, z7, z8⟩ := id xB
      walk_at "go"
      refine Stop.go ?_
      rename Fr _ _ _ _ => F8
      rename News _ _ _ _ => N8
      refine notin_strs ⟨_, F8.keep _ _ z2, rfl, _, rfl⟩ z4 ?_
      walk_at "go"
      refine Stop.go ?_
      refine testIs (offB_at (List.mem_of_getElem? hB) xs) (fun hb => ?_) (fun hb => ?_)
      · walk_at "go"
        refine Stop.go ?_
        exact ⟨rfl, _, _, rfl, F8, N8⟩
      · exact ⟨_, _, rfl, F8, N8⟩
    · intro D h tk F7 N7 off
      have g1 := Nat.ne_of_lt (hlt6 _ (List.Mem.head _))
      clear F6 N6 hlt6
      dsimp only
      walk_at "go"
      refine Stop.go ?_
      refine newList_K F7 N7 (fun De h8 F8 N8 hlt8 => ?_) (by rw [sizeLine_eq]; exact Nat.le_of_ble_eq_true rfl)
      have g2 := Nat.ne_of_lt (hlt8 _ (List.Mem.tail _ (List.Mem.tail _ (List.Mem.head _))))
      have g3 := neNat (off _ (List.Mem.tail _ (List.Mem.head _)))
      dsimp only at g1 g2 g3
      clear F7 N7 hlt8
      walk_at "go"
      refine Stop.go ?_
      refine eq_nil ⟨_, (N8 _ (List.Mem.tail _ (List.Mem.head _))).1, rfl, _, rfl⟩ ⟨_, (N8 _ (List.Mem.head _)).1, rfl, _, rfl⟩ (by (simp only [units_deeper]; omega)) ?_
      rw [offB_none (t := tx)]
      cases hin : inAll bs (.str x tx)
      · walk_at "go"
        rename Fr _ _ _ _ => F9
        rename News _ _ _ _ => N9
        (with_reducible rename _ = Data.cell (some (Value.str _ _)) => d9)
        refine end09a F9 N9 (fun p hp => List.Mem.tail _ (List.Mem.tail _ (List.Mem.tail _ hp))) d9 (take_f hv hin).symm hoff rfl
      · walk_at "go"
        rename Fr _ _ _ _ => F9
        rename News _ _ _ _ => N9
        (with_reducible rename _ = Data.cell (some (Value.str _ _)) => d9)
        rw [List.push_toArray] at N9
        refine end09a F9 N9 (fun p hp => List.Mem.tail _ (List.Mem.tail _ (List.Mem.tail _ hp))) d9 (take_t hv hin).symm hoff rfl
  case done1 =>
    rintro m₁ news₁ h tk ⟨c, oc, v0, rfl, hoc, rfl⟩ F4 N4
    clear F3 N3
    rw [List.take_length] at N4
    dsimp only
    walk_at "go"
    refine Stop.go ?_
    refine newList_K F4 N4 (fun dl h5 F5 N5 hlt5 => ?_) (by rw [sizeLine_eq]; exact Nat.le_of_ble_eq_true rfl)
    have e1 := Nat.ne_of_gt (hlt5 _ (List.Mem.head _))
    have e2 := Nat.ne_of_gt (hlt5 _ (List.Mem.tail _ (List.Mem.head _)))
    clear F4 N4 hlt5
    walk_at "go"
    refine Stop.go ?_
    refine newList_K F5 N5 (fun dd h6 F6 N6 hlt6 => ?_) (by rw [sizeLine_eq]; exact Nat.le_of_ble_eq_true rfl)
    have e3 := Nat.ne_of_gt (hlt6 _ (List.Mem.head _))
    have e4 := Nat.ne_of_gt (hlt6 _ (List.Mem.tail _ (List.Mem.head _)))
    have e5 := Nat.ne_of_gt (hlt6 _ (List.Mem.tail _ (List.Mem.tail _ (List.Mem.head _))))
    clear F5 N5 hlt6
    dsimp only at e1 e2 e3 e4 e5
    walk_at "go"
    refine Stop.go ?_
    rename Fr _ _ _ _ => F7
    rename News _ _ _ _ => N7
    refine For_of F7 rfl rfl ?_
    walk_at "go"
    refine Stop.go ?_
    refine iter_anyG (J09b _ dd dl la (s.heap.objs.size + 1) _ oc (B0 :: bs)) hh ⟨_, hl, rfl, _, rfl⟩ F7 N7 ⟨0, 0, rfl, fun _ _ _ _ => rfl⟩ ?turn2 ?done2
    case turn2 =>
      rintro i v m₁ news₁ h tk own hv hoff ⟨c1, c2, rfl, hm1⟩ F8 N8
      clear F7 N7
      obtain ⟨B, hB, xB, rfl⟩ : ∃ B, (B0 :: bs)[i]? = some B ∧ BookOk s.heap B ∧ v = .ref B.b := by
        rw [← List.map_cons (f := fun B : BookD => Value.ref B.b), List.getElem?_map] at hv
        obtain ⟨B, hB, rfl⟩ := Option.map_eq_some_iff.mp hv
        refine ⟨B, hB, ?_, rfl⟩
        rcases List.mem_cons.mp (List.mem_of_getElem? hB) with rfl | hm
        · exact ⟨⟨y1, y2, y3⟩, y4, y5, y6, y7, y8⟩
        · exact xs B hm
      obtain ⟨⟨z1, z2, z3⟩, z4, z5, z6, z7, z8⟩ := id xB
      rw [map3 hm1] at F8
      dsimp only [List.cons_append, List.nil_append, List.map_cons, List.map_nil] at N8 hoff
      walk_at "go"
      refine Stop.go ?_
      rename Fr _ _ _ _ => F9
      rename News _ _ _ _ => N9
      refine For_of F9 rfl rfl ?_
      walk_at "go"
      refine Stop.go ?_
      refine iter_anyG (J09c _ dd dl la (s.heap.objs.size + 1) _ _ oc own _ B.ls) hh ⟨_, z3, rfl, _, rfl⟩ F9 N9 ⟨c2, by rw [List.take_zero, List.append_nil], fun _ _ => rfl⟩ ?turn3 ?done3
      case turn3 =>
        rintro j v m₂ news₂ h tk own2 hv hoff2 ⟨c3, rfl, hm2⟩ F10 N10
        clear F9 N9
        rw [map1 hm2] at F10
        dsimp only [List.cons_append, List.map_cons] at N10 hoff2
        obtain ⟨own3, hown3⟩ : ∃ x, x = own ++ own2 := ⟨_, rfl⟩
        have hoff3 : OwnOff own3 [dd, dl, la, s.heap.objs.size + 1] := by
          intro p hp b hb
          rw [hown3] at hp
          rcases List.mem_append.mp hp with hp | hp
          · exact hoff p hp b hb
          · refine hoff2 p hp b ?_
            simp only [List.mem_cons, List.not_mem_nil, or_false] at hb ⊢
            rcases hb with h | h | h | h <;> simp [h]
        have hfit : Fits ((((B0 :: bs).take i).map (fun x => x.ls)).flatten ++ B.ls.take j).toArray.size := by
          have h1 := flat_len (Bs := (B0 :: bs).take i) fun C hC => by
            rcases List.mem_cons.mp (List.mem_of_mem_take hC) with rfl | hm
            · exact y6
            · exact (xs C hm).m
          have h2 := List.length_take_le i (B0 :: bs)
          have h3 : ((B0 :: bs).take i).length ≤ 11 := by rw [List.length_take, List.length_cons]; omega
          have h4 : (B.ls.take j).length ≤ 400 := by rw [List.length_take]; omega
          show _ ≤ sizeLine
          rw [List.size_toArray, List.length_append, sizeLine_eq]
          omega
        rw [← hown3] at N10
        clear hoff
        replace hoff2 : OwnOff' own2 (dd :: dl :: la :: (s.heap.objs.size + 1) :: own.map (·.1)) := hoff2
        walk_at "go"
        rename Fr _ _ _ _ => F11
        rename News _ _ _ _ => N11
        rw [List.push_toArray] at N11
        refine end09c F11 N11 (fun p hp => by rw [← hown3] at hp; exact hp) (by rw [List.append_assoc, List.take_add_one, hv]; rfl) hoff2 (fun y hy => by simp only [if_neg hy])
      case done3 =>
        rintro m₂ news₂ h tk ⟨c3, rfl, hm2⟩ F10 N10
        clear F9 N9
        rw [List.take_length] at N10
        rw [map1u hm2] at F10
        dsimp only
        walk_at "go"
        refine Stop.go ?_
        rename Fr _ _ _ _ => F11
        rename News _ _ _ _ => N11
        refine iter_tupTurns hh F11 N11 (List.Mem.head _) rfl rfl (fun I hI => ?_)
        have hoI : OffI I (_ :: dd :: dl :: la :: (s.heap.objs.size + 1) :: own.map (·.1)) := offI_of hI
        replace hI := allLt_of hI
        simp only [AllLt, and_true] at hI
        try dsimp only [List.map_cons, List.map_nil]
        walk_at "go"
        refine Stop.go ?_
        refine isnot_noneV ?_
        cases hb1 : noneV B.dv
        all_goals
          walk_at "go"
          refine Stop.go ?_
          refine isnot_noneV ?_
          cases hb2 : noneV B.rv
          all_goals
            walk_at "go"
            refine Stop.go ?_
        all_goals
          rename Fr _ _ _ _ => F12
          rename News _ _ _ _ => N12
          refine end09b F12 N12 (fun p hp => List.Mem.tail _ hp) hB (by rw [hb1]; rfl) (by rw [hb2]; rfl) rfl hoff (fun y h1 h2 h3 => ?_)
          simp only [if_neg h1, if_neg h2, if_neg h3]
    case done2 =>
      rintro m₁ news₁ h tk ⟨c1, c2, rfl, hm1⟩ F8 N8
      clear F7 N7
      have hlen : (Value.ref B0.b :: bs.map fun B => Value.ref B.b).length = (B0 :: bs).length := by rw [List.length_cons, List.length_map, List.length_cons]
      rw [hlen, List.take_length] at N8
      have e3 : m₁ = fun y => if y = Str.ofString "book" then m₁ y else if y = Str.ofString "rule" then m₁ y else if y = Str.ofString "k" then m₁ y else _ := (funext fun y => by
        by_cases h1 : y = Str.ofString "book"
        · simp only [if_pos h1]
        · simp only [if_neg h1]
          by_cases h2 : y = Str.ofString "rule"
          · simp only [if_pos h2]
          · simp only [if_neg h2]
            by_cases h3 : y = Str.ofString "k"
            · simp only [if_pos h3]
            · simp only [if_neg h3]; exact hm1 y h1 h2 h3)
      rw [e3] at F8
      dsimp only
      walk_at "go"
      rename Fr _ _ _ _ => F9
      rename News _ _ _ _ => N9
      obtain ⟨D, hD, xD, u1, u2, u3, u4, u5⟩ := book_new N9 (List.Mem.head _) (List.Mem.tail _ (List.Mem.tail _ (List.Mem.head _))) (List.Mem.tail _ (List.Mem.head _))
      rw [← hD]
      exact hQ _ _ D (fun b o e => F9.keep b o e) xD u1 u2 u3 u4 u5
end Mine
end secA09d
section secA09s
namespace Mine
/-- None or an int -/
noncomputable def IsOpt (v : Value) : Prop := v = .none ∨ ∃ n t, v = .int n t
noncomputable def AllRef (ls : List Value) : Prop := ∀ v ∈ ls, ∃ a, v = .ref a
noncomputable def AllOk (us : List Value) : Prop := ∀ v ∈ us, PyData.strOk (strOf v) = true
theorem readsS {h : Heap} : ∀ {us : List Value}, AllStr us → ReadsAll h us (us.map fun v => .str (strOf v)) []
  | [], _ => .nil
  | v :: r, hs => by
    obtain ⟨x, t, rfl⟩ := hs v (List.mem_cons_self ..)
    exact .cons (as := []) (bs := []) (.str _ _) (readsS fun u hu => hs u (List.mem_cons_of_mem _ hu))
theorem layS : ∀ {us : List Value}, AllOk us → PyData.canLayAll0 (us.map fun v => .str (strOf v)) = true ∧ PyData.depthAll (us.map fun v => .str (strOf v)) = 0
  | [], _ => ⟨rfl, rfl⟩
  | v :: r, hs => by
    obtain ⟨a, b⟩ := layS (us := r) fun q hq => hs q (List.mem_cons_of_mem _ hq)
    have h1 := hs v (List.mem_cons_self ..)
    exact ⟨by simp only [List.map_cons, PyData.canLayAll0, PyData.canLay0, h1, a, Bool.and_self], by simp only [List.map_cons, PyData.depthAll, PyData.depth, b]; rfl⟩
theorem ne_strs {prog : Program} {w : World} {A : Around} {E : Value → Shared → Prop} {s : Shared} {Q : Value → Shared → Prop} {a b : Addr} {us vs : List Value} {n m : Nat} (ha : s.heap.get? a = some (W.listOf us.toArray n)) (hb : s.heap.get? b = some (W.listOf vs.toArray m)) (h1 : AllStr us) (h2 : AllStr vs) (hok : AllOk us)
    (he : us.map strOf = vs.map strOf) (hu : A.units + 64 < cLine) (h : Q (.bool false) s) : wpAny (model prog w) A (compareOp .NotEq (.ref a) (.ref b)) Q E s := by
  have r1 : Reads s.heap (.ref a) (.list (us.map fun v => .str (strOf v))) [a] := reads_list_at ha rfl rfl (by simpa using readsS (h := s.heap) h1)
  have r2 : Reads s.heap (.ref b) (.list (vs.map fun v => .str (strOf v))) [b] := reads_list_at hb rfl rfl (by simpa using readsS (h := s.heap) h2)
  have e : (vs.map fun v => PyData.str (strOf v)) = us.map fun v => PyData.str (strOf v) := by
    have := congrArg (List.map PyData.str) he
    rw [List.map_map, List.map_map] at this
    exact this.symm
  rw [e] at r2
  obtain ⟨l1, l2⟩ := layS hok
  have hl : PyData.canLay0 (.list (us.map fun v => .str (strOf v))) = true := by simp only [PyData.canLay0, l1]
  have hs : SeqAt.shaped (.list (us.map fun v => .str (strOf v))) = true := by
    unfold SeqAt.shaped
    rw [hl]
    simp only [PyData.depth, l2]
    decide
  refine ne_dataH r1 r2 hs hs hu ?_
  rw [SeqAt.eqv_refl _ hl]
  exact h
noncomputable def JK (x : Str) (m₀ : Str → Option Value) (led : List (Addr × Obj)) (_ : Nat) (m : Str → Option Value) (nx : List (Addr × Obj)) : Prop := nx = led ∧ ∀ y, y ≠ x → m y = m₀ y
theorem endK {g h' : Heap} {L : Addr} {s₁ : Shared} {m₀ m' : Str → Option Value} {x : Str} {led own news' : List (Addr × Obj)} {i tk : Nat} (F : Fr g L h' m') (N : News g L h' news') (hin : ∀ p ∈ led ++ own, p ∈ news') (hoff : OwnOff own (led.map (·.1))) (hm : ∀ y, y ≠ x → m' y = m₀ y) :
    InvEndG g L (JK x m₀ led i) own s₁ { s₁ with heap := h', toks := tk } :=
  InvEndG.intro (nx := led) F N ⟨rfl, hm⟩ hoff (fun p hp => hin p (List.mem_append.mpr (.inl hp))) (fun p hp => hin p (List.mem_append.mpr (.inr hp)))
local macro_rules | `(tactic| walk_at "go") => `(tactic| repeat' (first | (k_unfold; (try dsimp only)) | walk1 | (dsimp only; walk1)))
local macro_rules | `(tactic| walk_at $k9:str) => if ["compareOp NotEq ref ref", "call ref", "exec For Name Call cons nil", "pyIter ref", "InvEndG"].contains k9.getString then `(tactic| refine Stop.of ?_) else Lean.Macro.throwUnsupported
local macro_rules | `(tactic| walk_at "call builtin:len cons nil") => `(tactic| (k_here; (refine len_base (by with_reducible assumption) (by with_reducible assumption) (by omega) ?_; intro _ _)))
local macro_rules | `(tactic| walk_at "compareOp NotEq int int") => `(tactic| (k_here; refine neI_f rfl ?_))
local macro_rules | `(tactic| walk_at "UnrEndW") => `(tactic| ((with_reducible rename Fr _ _ _ _ => F'); (with_reducible rename News _ _ _ _ => N'); refine' unrW F' N' ?o9 ?a9 ⟨And.intro (List.Mem.head _) trivial, ?_⟩; (case o9 => with_reducible assumption); (case a9 => rfl)))
local macro_rules | `(tactic| walk_at "last subscriptTail") => `(tactic| (k_here; refine item_base (by with_reducible assumption) (by with_reducible assumption) (by omega) (by omega) (by rw [Int.zero_add, Int.toNat_natCast]; with_reducible assumption) ?_))
local macro_rules | `(tactic| walk_at "subscriptTail Name Name ref int") => `(tactic| (k_here; refine item_base (by with_reducible assumption) (by with_reducible assumption) (by omega) (by omega) (by rw [Int.zero_add, Int.toNat_natCast]; with_reducible assumption) ?_))
local macro_rules | `(tactic| walk_at "subscriptTail Name Constant ref int") => `(tactic| (k_here; refine item_base (by with_reducible assumption) (by with_reducible assumption) (by decide) (by decide) rfl ?_))
local macro_rules | `(tactic| walk_at "subscriptTail Name Name ref int") => `(tactic| (k_here; refine item_base (by with_reducible assumption) (by with_reducible assumption) (by decide) (by decide) rfl ?_))
theorem ct_same {w : World} {A : Around} {s : Shared} {Q E : Value → Shared → Prop} {mean : ExcName → Option Value} {mg mb : Str → Option Value} {P D : BookD}
   (X : (hd09.heap_39 w.params).In s.heap) (T : Top hd09.view_39 (looseW hd09.view_39 []) mean mg mb s.heap) (hd : A.depth + 10 < recursionLimit) (hh : A.handled = none) (hu : A.units + 100 < cLine)
   (x1 : BookAt s.heap P) (x2 : BookAt s.heap D) (h1 : AllStr P.us) (h2 : AllStr D.us) (hok : AllOk P.us) (he : P.us.map strOf = D.us.map strOf) (hls : P.ls = D.ls) (hrf : AllRef D.ls) (hln : D.ls.length ≤ 10000) (hdv : P.dv = D.dv) (hrv : P.rv = D.rv) (o1 : IsOpt D.dv) (o2 : IsOpt D.rv)
   (hQ : ∀ h' tk, Ext s.heap h' → Q (.bool true) {s with heap := h', toks := tk}) :
   wpAny (model Challenge.rw_dn0256_09.row.prog w) A (call (.ref 89) [.ref P.b, .ref D.b]) Q E s := by
  revert X
  k_fill
  intro X
  obtain ⟨y1, y2, y3⟩ := x1
  obtain ⟨z1, z2, z3⟩ := x2
  rw [hdv, hrv] at y1
  rw [hls] at y3
  refine wpAny_call ?_
  refine call_pos_ret (by omega) (X _ _ rfl) rfl T.nolimit (codeRec_of X (by k_is)) rfl (locs rfl) (fun h₁ F => ?_)
  replace F : Fr s.heap s.heap.objs.size h₁ (fun y => [(Str.ofString "parts", Value.ref P.b), (Str.ofString "due", Value.ref D.b)].reverse.lookup y) := F
  have N : News s.heap s.heap.objs.size h₁ [] := News.nil
  walk_at "go"
  refine Stop.go ?_
  refine ne_strs (F.keep _ _ y2) (F.keep _ _ z2) h1 h2 hok he (by (simp only [units_deeper]; omega)) ?_
  walk_at "go"
  refine Stop.go ?_
  rename Fr _ _ _ _ => F2
  rename News _ _ _ _ => N2
  refine For_of F2 rfl rfl ?_
  walk_at "go"
  refine Stop.go ?_
  rename IsRange _ _ _ _ _ _ _ _ => R3
  rename Fr _ _ _ _ => F3
  rename News _ _ _ _ => N3
  refine iter_rangeG (n := D.ls.length) (JK (Str.ofString "k") _ []) hh R3 (by omega) (by decide) (by decide) (by omega) F3 N3 ⟨rfl, fun _ _ => rfl⟩ ?turn ?done
  case turn =>
    rintro i t m₁ news₁ h tk own hi hoff ⟨rfl, hm⟩ F4 N4
    clear F3 N3
    rw [map1 hm] at F4
    obtain ⟨v, hv⟩ : ∃ v, D.ls[i]? = some v := ⟨_, List.getElem?_eq_getElem hi⟩
    obtain ⟨a, rfl⟩ := hrf v (List.mem_of_getElem? hv)
    walk_at "go"
    refine Stop.go ?_
    rename Fr _ _ _ _ => F5
    rename News _ _ _ _ => N5
    exact endK F5 N5 (fun p hp => hp) hoff (fun y hy => by simp only [if_neg hy])
  case done =>
    rintro m₁ news₁ h tk ⟨rfl, hm⟩ F4 N4
    clear F3 N3
    rw [map1u hm] at F4
    rcases o1 with e1 | ⟨n1, t1, e1⟩ <;> rcases o2 with e2 | ⟨n2, t2, e2⟩
    all_goals
      rw [e1, e2] at y1 z1
      walk_at "go"
      refine Stop.go ?_
      rename Fr _ _ _ _ => F5
      rename News _ _ _ _ => N5
      refine iter_tupTurns hh F5 N5 (List.Mem.head _) rfl rfl (fun I hI => ?_)
      have hoI : OffI I [_] := offI_of hI
      clear hI
      try dsimp only [List.map_cons, List.map_nil]
      walk_at "go"
      rename Fr _ _ _ _ => F9
      exact hQ _ _ (fun b o e => F9.keep b o e)
end Mine
end secA09s
section secA09r
namespace Mine
theorem isOpt_handed {v : Value} (h : IsOpt v) : Handed v := by
  rcases h with rfl | ⟨n, t, rfl⟩ <;> rfl
local macro_rules | `(tactic| walk_at "go") => `(tactic| repeat' (first | (k_unfold; (try dsimp only)) | walk1 | (dsimp only; walk1)))
local macro_rules | `(tactic| walk_at $k9:str) => if ["call ref", "pyIter ref"].contains k9.getString then `(tactic| refine Stop.of ?_) else Lean.Macro.throwUnsupported
local macro_rules | `(tactic| walk_at "call type:type") => `(tactic| (k_here; refine type_base (by with_reducible assumption) (by with_reducible assumption) ?_))
local macro_rules | `(tactic| walk_at "compareOp Is ref ref") => `(tactic| (k_here; refine isnt_base (by with_reducible assumption) (by with_reducible assumption) (by with_reducible assumption) (by with_reducible assumption) ?_))
local macro_rules | `(tactic| k_inst) => `(tactic| (refine instBase (by with_reducible assumption) (by with_reducible assumption) (by with_reducible assumption)))
local macro_rules | `(tactic| walk_at "UnrEndW") => `(tactic| ((with_reducible rename Fr _ _ _ _ => F'); (with_reducible rename News _ _ _ _ => N'); refine' unrW F' N' ?o9 ?a9 ⟨And.intro (List.Mem.head _) trivial, ?_⟩; (case o9 => with_reducible assumption); (case a9 => rfl)))
theorem ct_right {w : World} {A : Around} {s : Shared} {Q E : Value → Shared → Prop} {mean : ExcName → Option Value} {mg mb : Str → Option Value} {R R1 R2 : RecD} {D : BookD}
   (X : (hd09.heap_39 w.params).In s.heap) (T : Top hd09.view_39 (looseW hd09.view_39 []) mean mg mb s.heap) (hd : A.depth + 30 < recursionLimit) (hh : A.handled = none) (hu : A.units + 200 < cLine)
   (x : RecAt w.params 59 s.heap R) (x1 : RecAt w.params 59 s.heap R1) (x2 : RecAt w.params 59 s.heap R2) (xD : BookAt s.heap D)
   (n1 : @Ne Nat R.u R1.u) (n2 : @Ne Nat R.u R2.u) (n3 : @Ne Nat R.l R1.l) (n4 : @Ne Nat R.l R2.l)
   (h1 : AllStr R.us) (h2 : AllStr D.us) (hok : AllOk R.us) (he : R.us.map strOf = D.us.map strOf) (hls : R.ls = D.ls) (hrf : AllRef D.ls) (hun : R.us.length ≤ 1000) (hln : D.ls.length ≤ 1000) (hdv : R.dv = D.dv) (hrv : R.rv = D.rv) (o1 : IsOpt D.dv) (o2 : IsOpt D.rv)
   (hQ : ∀ h' tk, Ext s.heap h' → Q (.bool true) {s with heap := h', toks := tk}) :
   wpAny (model Challenge.rw_dn0256_09.row.prog w) A (call (.ref 96) [.ref R.r, .ref R1.r, .ref R2.r, .ref D.b]) Q E s := by
  revert X
  k_fill
  intro X
  obtain ⟨y1, y2, y3, y4⟩ := id x
  obtain ⟨z1, z2, z3, z4⟩ := id x1
  obtain ⟨w1, w2, w3, w4⟩ := id x2
  refine wpAny_call ?_
  refine call_pos_ret (by omega) (X _ _ rfl) rfl T.nolimit (codeRec_of X (by k_is)) rfl (locs rfl) (fun h₁ F => ?_)
  replace F : Fr s.heap s.heap.objs.size h₁ (fun y => [(Str.ofString "one", Value.ref R.r), (Str.ofString "left", Value.ref R1.r), (Str.ofString "right", Value.ref R2.r), (Str.ofString "due", Value.ref D.b)].reverse.lookup y) := F
  have N : News s.heap s.heap.objs.size h₁ [] := News.nil
  dsimp only [recDict] at y2 z2 w2
  walk_at "go"
  refine Stop.go ?_
  rename Fr _ _ _ _ => F5
  rename News _ _ _ _ => N5
  refine iter_tupTurns hh F5 N5 (List.Mem.head _) rfl rfl (fun I hI => ?_)
  have hoI : OffI I [_] := offI_of hI
  clear hI
  try dsimp only [List.map_cons, List.map_nil]
  walk_at "go"
  refine Stop.go ?_
  rename Fr _ _ _ _ => F6
  refine ct_parts (Frag.In.keeps X F6.keep) (Top.keeps T F6.keep) (by (simp only [depth_deeper]; omega)) hh (x.ext F6.keep) hun (by rw [hls]; exact hln) (isOpt_handed (hdv ▸ o1)) (isOpt_handed (hrv ▸ o2)) (fun h7 tk7 P e7 xP p1 p2 p3 p4 _ => ?_)
  have F7 := F6.keeps e7
  clear F6 e7
  dsimp only
  walk_at "go"
  refine Stop.go ?_
  refine ct_same (Frag.In.keeps X F7.keep) (Top.keeps T F7.keep) (by (simp only [depth_deeper]; omega)) hh (by (simp only [units_deeper]; omega)) xP (xD.ext F7.keep) (p1 ▸ h1) h2 (p1 ▸ hok) (by rw [p1]; exact he) (p2.trans hls) hrf (by omega) (p3.trans hdv) (p4.trans hrv) o1 o2 (fun h8 tk8 e8 => ?_)
  dsimp only
  walk_at "go"
  exact hQ _ _ (fun b o e => e8 _ _ (F7.keep b o e))
end Mine
end secA09r
section secA09g
namespace Mine
noncomputable def recLed (p : Params) (R : RecD) : List (Addr × Obj) := [(R.u, W.listOf R.us.toArray R.cu), (R.l, W.listOf R.ls.toArray R.cl), (R.r, instObj 59 R.d), (R.d, recDict p R)]
noncomputable def adr (R : RecD) : List Addr := [R.u, R.l, R.r, R.d]
theorem recLed_at {p : Params} {h₀ h : Heap} {L : Addr} {R : RecD} {news : List (Addr × Obj)} (N : News h₀ L h news) (hin : ∀ q ∈ recLed p R, q ∈ news) : RecAt p 59 h R :=
  ⟨(N _ (hin _ (List.Mem.tail _ (List.Mem.tail _ (List.Mem.head _))))).1, (N _ (hin _ (List.Mem.tail _ (List.Mem.tail _ (List.Mem.tail _ (List.Mem.head _)))))).1, (N _ (hin _ (List.Mem.head _))).1, (N _ (hin _ (List.Mem.tail _ (List.Mem.head _)))).1⟩
structure RecOk (n : Nat) (R : RecD) : Prop where
  us : AllStr R.us
  ok : AllOk R.us
  ls : AllRef R.ls
  dv : IsOpt R.dv
  rv : IsOpt R.rv
  nu : R.us.length ≤ n
  nl : R.ls.length ≤ n
theorem RecOk.mono {n n' : Nat} {R : RecD} (h : RecOk n R) (hn : n ≤ n') : RecOk n' R := ⟨h.us, h.ok, h.ls, h.dv, h.rv, Nat.le_trans h.nu hn, Nat.le_trans h.nl hn⟩
noncomputable def refs (rs : List RecD) : List Value := rs.map fun R => Value.ref R.r
noncomputable def Led09 (p : Params) (lo lr : Addr) (orr : Obj) (c : List RecD × Nat) : List (Addr × Obj) := (lo, W.listOf (refs c.1).toArray c.2) :: (lr, orr) :: c.1.flatMap (recLed p)
noncomputable def Facts09 (lo lr : Addr) (n : Nat) (c : List RecD × Nat) : Prop := (lo :: lr :: c.1.flatMap adr).Nodup ∧ c.1.length = 4 ∧ ∀ R ∈ c.1, RecOk n R
theorem adr_flat (p : Params) (rs : List RecD) : (rs.flatMap (recLed p)).map (·.1) = rs.flatMap adr := by rw [List.map_flatMap]; rfl
theorem led_adr {p : Params} {lo lr : Addr} {orr : Obj} {c : List RecD × Nat} : (Led09 p lo lr orr c).map (·.1) = lo :: lr :: c.1.flatMap adr := by
  unfold Led09; rw [List.map_cons, List.map_cons, adr_flat]
theorem pick09 {p : Params} {lo lr L : Addr} {orr : Obj} {h₀ h : Heap} {ra rb : List RecD} {R : RecD} {n k : Nat} {own : List (Addr × Obj)} (hf : Facts09 lo lr n (ra ++ R :: rb, k)) (hoff : OwnOff own (lo :: lr :: (ra ++ R :: rb).flatMap adr)) (N : News h₀ L h (Led09 p lo lr orr (ra ++ R :: rb, k) ++ own)) :
    ∃ rest, rest = ra.flatMap (recLed p) ++ rb.flatMap (recLed p) ++ own ∧ News h₀ L h ((lo, W.listOf (refs (ra ++ R :: rb)).toArray k) :: (lr, orr) :: (recLed p R ++ rest)) ∧ OwnOff rest (lo :: lr :: adr R) ∧ (lo :: lr :: adr R).Nodup := by
  have hnd := hf.1
  dsimp only at hnd
  rw [List.flatMap_append, List.flatMap_cons] at hnd hoff
  have hsub : (lo :: lr :: adr R).Sublist (lo :: lr :: (ra.flatMap adr ++ (adr R ++ rb.flatMap adr))) := .cons_cons _ (.cons_cons _ ((List.sublist_append_left _ _).trans (List.sublist_append_right _ _)))
  refine ⟨_, rfl, fun q hq => N q ?_, fun q hq a ha => ?_, hsub.nodup hnd⟩
  · unfold Led09
    dsimp only
    rw [List.flatMap_append, List.flatMap_cons]
    simp only [List.mem_cons, List.mem_append, List.cons_append] at hq ⊢
    rcases hq with h | h | h | (h | h) | h <;> simp [h]
  · rcases List.mem_append.mp hq with hq | hq
    · intro e
      have hq' : q.1 ∈ ra.flatMap adr ∨ q.1 ∈ rb.flatMap adr := by
        rcases List.mem_append.mp hq with hq | hq
        · left; rw [← adr_flat p]; exact List.mem_map_of_mem hq
        · right; rw [← adr_flat p]; exact List.mem_map_of_mem hq
      rw [e] at hq'
      simp only [List.nodup_cons, List.nodup_append, List.mem_cons, List.mem_append, not_or] at hnd
      simp only [List.mem_cons] at ha
      rcases ha with rfl | rfl | ha
      · rcases hq' with x | x
        · exact hnd.1.2.1 x
        · exact hnd.1.2.2.2 x
      · rcases hq' with x | x
        · exact hnd.2.1.1 x
        · exact hnd.2.1.2.2 x
      · rcases hq' with x | x
        · exact hnd.2.2.2.2 a x a (.inl ha) rfl
        · exact hnd.2.2.2.1.2.2 a ha a x rfl
    · exact hoff q hq a (hsub.subset ha)
theorem put09 {p : Params} {lo lr : Addr} {orr : Obj} {ra rb : List RecD} {R R' : RecD} {n n' k k' : Nat} {own rest news' : List (Addr × Obj)} (hf : Facts09 lo lr n (ra ++ R :: rb, k)) (hoff : OwnOff own (lo :: lr :: (ra ++ R :: rb).flatMap adr)) (hr : rest = ra.flatMap (recLed p) ++ rb.flatMap (recLed p) ++ own)
    (hnd' : (lo :: lr :: adr R').Nodup) (hor : OwnOff rest (adr R')) (hok : RecOk n' R') (hn : n ≤ n')
    (hin : ∀ q ∈ (lo, W.listOf (refs (ra ++ R' :: rb)).toArray k') :: (lr, orr) :: (recLed p R' ++ rest), q ∈ news') :
    Facts09 lo lr n' (ra ++ R' :: rb, k') ∧ OwnOff own (lo :: lr :: (ra ++ R' :: rb).flatMap adr) ∧ (∀ q ∈ Led09 p lo lr orr (ra ++ R' :: rb, k'), q ∈ news') ∧ ∀ q ∈ own, q ∈ news' := by
  have hnd := hf.1
  dsimp only at hnd
  rw [List.flatMap_append, List.flatMap_cons] at hnd hoff
  have hra : ∀ x ∈ ra.flatMap adr, x ∉ adr R' := fun x hx hx' => by
    rw [← adr_flat p] at hx
    obtain ⟨q, hq, rfl⟩ := List.mem_map.mp hx
    exact hor q (by rw [hr]; simp [hq]) _ hx' rfl
  have hrb : ∀ x ∈ rb.flatMap adr, x ∉ adr R' := fun x hx hx' => by
    rw [← adr_flat p] at hx
    obtain ⟨q, hq, rfl⟩ := List.mem_map.mp hx
    exact hor q (by rw [hr]; simp [hq]) _ hx' rfl
  have hown : OwnOff own (adr R') := fun q hq => hor q (by rw [hr]; simp [hq])
  have hsub : (lo :: lr :: (ra.flatMap adr ++ rb.flatMap adr)).Sublist (lo :: lr :: (ra.flatMap adr ++ (adr R ++ rb.flatMap adr))) := .cons_cons _ (.cons_cons _ (.append (.refl _) (List.sublist_append_right _ _)))
  have h0 := hsub.nodup hnd
  refine ⟨⟨?_, ?_, ?_⟩, ?_, fun q hq => hin q ?_, fun q hq => hin q (by rw [hr]; simp [hq])⟩
  · dsimp only
    rw [List.flatMap_append, List.flatMap_cons]
    simp only [List.nodup_cons, List.nodup_append, List.mem_cons, List.mem_append, not_or] at h0 hnd' ⊢
    refine ⟨⟨h0.1.1, h0.1.2.1, hnd'.1.2, h0.1.2.2⟩, ⟨h0.2.1.1, hnd'.2.1, h0.2.1.2⟩, h0.2.2.1, ⟨hnd'.2.2, h0.2.2.2.1, fun a ha b hb e => hrb b hb (e ▸ ha)⟩, fun a ha b hb e => ?_⟩
    rcases hb with hb | hb
    · exact hra a ha (e ▸ hb)
    · exact h0.2.2.2.2 a ha b hb e
  · have := hf.2.1; simpa using this
  · intro Z hZ
    rcases List.mem_append.mp hZ with h | h
    · exact (hf.2.2 Z (List.mem_append.mpr (.inl h))).mono hn
    · rcases List.mem_cons.mp h with rfl | h
      · exact hok
      · exact (hf.2.2 Z (List.mem_append.mpr (.inr (List.mem_cons_of_mem _ h)))).mono hn
  · intro q hq a ha
    rw [List.flatMap_append, List.flatMap_cons] at ha
    simp only [List.mem_cons, List.mem_append] at ha
    rcases ha with h | h | h | h | h
    · exact hoff q hq a (by simp [h])
    · exact hoff q hq a (by simp [h])
    · exact hoff q hq a (by simp only [List.mem_cons, List.mem_append]; exact .inr (.inr (.inl h)))
    · exact hown q hq a h
    · exact hoff q hq a (by simp only [List.mem_cons, List.mem_append]; exact .inr (.inr (.inr (.inr h))))
  · unfold Led09 at hq
    dsimp only at hq
    rw [List.flatMap_append, List.flatMap_cons] at hq
    rw [hr]
    simp only [List.mem_cons, List.mem_append] at hq ⊢
    rcases hq with h | h | h | h | h <;> simp [h]
theorem split4 {rs : List RecD} {k : Nat} (h : k < rs.length) : ∃ ra R rb, rs = ra ++ R :: rb ∧ ra.length = k := ⟨rs.take k, rs[k], rs.drop (k + 1), by simp, by simp; omega⟩
theorem refs_at {ra rb : List RecD} {R : RecD} {k : Nat} (h : ra.length = k) : (refs (ra ++ R :: rb))[k]? = some (.ref R.r) := by
  subst h; simp [refs]
theorem refs_set {ra rb : List RecD} {R R' : RecD} {k : Nat} (h : ra.length = k) : (refs (ra ++ R :: rb)).set k (.ref R'.r) = refs (ra ++ R' :: rb) := by
  subst h; simp [refs]
theorem refs_same {ra rb : List RecD} {R R' : RecD} (h : R'.r = R.r) : refs (ra ++ R :: rb) = refs (ra ++ R' :: rb) := by simp [refs, h]
end Mine
namespace Mine
noncomputable def JA (led : List (Addr × Obj)) (i : Nat) (ys : List Value) (news : List (Addr × Obj)) : Prop := ys.length = i ∧ AllRef ys ∧ news = led
theorem JA.snoc {led : List (Addr × Obj)} {i : Nat} {ys : List Value} {news : List (Addr × Obj)} {a : Addr} (h : JA led i ys news) : JA led (i + 1) (ys ++ [.ref a]) news :=
  ⟨by rw [List.length_append, h.1]; rfl, fun v hv => (List.mem_append.mp hv).elim (h.2.1 v) fun hv => ⟨a, List.mem_singleton.mp hv⟩, h.2.2⟩
noncomputable def JB (p : Params) (led : List (Addr × Obj)) (i : Nat) (ys : List Value) (news : List (Addr × Obj)) : Prop :=
  ∃ rs, ys = refs rs ∧ rs.length = i ∧ news = rs.flatMap (recLed p) ++ led ∧ (rs.flatMap adr).Nodup ∧ (∀ q ∈ led, q.1 ∉ rs.flatMap adr) ∧ ∀ R ∈ rs, RecOk 0 R
theorem news_rec {p : Params} {L : Addr} {h₀ h₁ h : Heap} {m : Str → Option Value} {R : RecD} (F : Fr h₀ L h₁ m) (x : RecAt p 59 h R) (n : RecNew h₁ R) : News h₀ L h (recLed p R) := rec_led F x n
theorem adr_nodup {R : RecD} (h : Apart R) : (adr R).Nodup := by
  obtain ⟨c1, c2, c3, c4, c5, c6⟩ := h
  simp only [adr, List.nodup_cons, List.mem_cons, List.not_mem_nil, not_or, or_false, not_false_eq_true, List.nodup_nil, and_true]
  exact ⟨⟨c6, Ne.symm c2, Ne.symm c4⟩, ⟨Ne.symm c3, Ne.symm c5⟩, c1⟩
theorem new_off {h₀ h₁ : Heap} {L : Addr} {news : List (Addr × Obj)} {R : RecD} (N : News h₀ L h₁ news) (n : RecNew h₁ R) : ∀ q ∈ news, q.1 ∉ adr R := by
  intro q hq hm
  have hg := (N q hq).1
  simp only [adr, List.mem_cons, List.not_mem_nil, or_false] at hm
  rcases hm with e | e | e | e <;> rw [e] at hg
  · rw [n.2.2.1] at hg; cases hg
  · rw [n.2.2.2] at hg; cases hg
  · rw [n.1] at hg; cases hg
  · rw [n.2.1] at hg; cases hg
theorem JB.grow {p : Params} {h₀ h₁ : Heap} {L : Addr} {led news : List (Addr × Obj)} {i : Nat} {ys : List Value} {R : RecD} (h : JB p led i ys news) (N : News h₀ L h₁ news) (n : RecNew h₁ R) (hap : Apart R) (hok : RecOk 0 R) :
    ∃ news', JB p led (i + 1) (ys ++ [.ref R.r]) news' ∧ ∀ q, q ∈ news' ↔ q ∈ news ∨ q ∈ recLed p R := by
  obtain ⟨rs, rfl, hl, rfl, hnd, hoff, hall⟩ := h
  have hno := new_off N n
  refine ⟨(rs ++ [R]).flatMap (recLed p) ++ led, ⟨rs ++ [R], by simp [refs], by simp [hl], rfl, ?_, ?_, ?_⟩, fun q => ?_⟩
  · rw [List.flatMap_append, List.nodup_append]
    refine ⟨hnd, by simpa using adr_nodup hap, fun a ha b hb e => ?_⟩
    have hb' : b ∈ adr R := by simpa using hb
    rw [← adr_flat p] at ha
    obtain ⟨q, hq, rfl⟩ := List.mem_map.mp ha
    exact hno q (List.mem_append.mpr (.inl hq)) (e ▸ hb')
  · intro q hq hm
    rw [List.flatMap_append] at hm
    rcases List.mem_append.mp hm with hm | hm
    · exact hoff q hq hm
    · exact hno q (List.mem_append.mpr (.inr hq)) (by simpa using hm)
  · intro Z hZ
    rcases List.mem_append.mp hZ with h | h
    · exact hall Z h
    · cases List.mem_singleton.mp h; exact hok
  · rw [List.flatMap_append]
    simp only [List.mem_append, List.flatMap_cons, List.flatMap_nil, List.append_nil]
    constructor
    · rintro ((h | h) | h)
      · exact .inl (.inl h)
      · exact .inr h
      · exact .inl (.inr h)
    · rintro ((h | h) | h)
      · exact .inl (.inl h)
      · exact .inr h
      · exact .inl (.inr h)
theorem recOk0 {R : RecD} (h1 : R.us = []) (h2 : R.ls = []) (h3 : R.dv = .none) (h4 : R.rv = .none) : RecOk 0 R := by
  refine ⟨?_, ?_, ?_, .inl h3, .inl h4, by rw [h1]; exact Nat.le_refl _, by rw [h2]; exact Nat.le_refl _⟩
  · rw [h1]; exact fun v hv => nomatch hv
  · rw [h1]; exact fun v hv => nomatch hv
  · rw [h2]; exact fun v hv => nomatch hv
end Mine
namespace Mine
section
variable {prog : Program} {w : World} {A : Around} {E : Value → Shared → Prop} {s : Shared} {t u : Tok} {value slice : PySem.Expr} {Q : Value → Shared → Prop} {h₀ : Heap} {L a : Addr} {news : List (Addr × Obj)} {vs : List Value} {n : Nat}
theorem itemL {k : Nat} {v : Value} (N : News h₀ L s.heap news) (hm : (a, W.listOf vs.toArray n) ∈ news) (hk : vs[k]? = some v) (h9 : k ≤ 1000) (h : Q v s)
    (hs : subscripted slice false (.ref a) (.int (k : Int) u) = operate [.ref a, .int (k : Int) u] (getItem (.ref a) (.int (k : Int) u)) := by with_unfolding_all rfl) :
    wpAny (model prog w) A (subscriptTail value slice (.ref a) (.int (k : Int) u)) Q E s := by
  refine item_listR (News.isList N hm) (by omega) (by omega) (x := v) ?_ h hs
  rw [Int.toNat_natCast, List.getElem?_toArray]; exact hk
/-- an item of a written list at a place that is not known -/
theorem itemM {k : Int} (N : News h₀ L s.heap news) (hm : (a, W.listOf vs.toArray n) ∈ news) (h0 : 0 ≤ k) (h1 : k < (vs.length : Int)) (h9 : vs.length ≤ 1000) (h : ∀ v, v ∈ vs → Q v s)
    (hs : subscripted slice false (.ref a) (.int k u) = operate [.ref a, .int k u] (getItem (.ref a) (.int k u)) := by with_unfolding_all rfl) :
    wpAny (model prog w) A (subscriptTail value slice (.ref a) (.int k u)) Q E s := by
  have hlt : k.toNat < vs.length := by omega
  refine item_listR (News.isList N hm) h0 (by omega) (x := vs[k.toNat]) ?_ (h _ (List.getElem_mem hlt)) hs
  rw [List.getElem?_toArray, List.getElem?_eq_getElem hlt]
end
noncomputable def J09 (p : Params) (lo lr : Addr) (orr : Obj) (D0 : Addr) (oD : Obj) (b : Nat) (st : List Str) (m₀ : Str → Option Value) (i : Nat) (m : Str → Option Value) (nx : List (Addr × Obj)) : Prop :=
  ∃ c, nx = (D0, oD) :: Led09 p lo lr orr c ∧ Facts09 lo lr (b + i) c ∧ (∀ a ∈ lo :: lr :: c.1.flatMap adr, a ≠ D0) ∧ ∀ y, st.contains y = false → m y = m₀ y
theorem mapS {m₀ m₁ : Str → Option Value} {st : List Str} (h : ∀ y, st.contains y = false → m₁ y = m₀ y) : m₁ = fun y => if st.contains y then m₁ y else m₀ y := by
  funext y
  cases hc : st.contains y with
  | true => simp
  | false => simp [h y hc]
end Mine
namespace Mine
theorem sep09 {p : Params} {rs : List RecD} {lo lr D0 : Addr} {o1 o2 : Obj} (h1 : ∀ q ∈ rs.flatMap (recLed p) ++ [(lr, o1), (D0, o2)], q.1 ≠ lo) (h2 : (rs.flatMap adr).Nodup) (h3 : ∀ q ∈ [(lr, o1), (D0, o2)], q.1 ∉ rs.flatMap adr) (h4 : D0 ≠ lr) :
    (lo :: lr :: rs.flatMap adr).Nodup ∧ ∀ a ∈ lo :: lr :: rs.flatMap adr, a ≠ D0 := by
  have a1 : lr ≠ lo := h1 (lr, o1) (by simp)
  have a2 : D0 ≠ lo := h1 (D0, o2) (by simp)
  have a3 : lo ∉ rs.flatMap adr := fun h => by
    rw [← adr_flat p] at h
    obtain ⟨q, hq, e⟩ := List.mem_map.mp h
    exact h1 q (List.mem_append.mpr (.inl hq)) e
  refine ⟨?_, ?_⟩
  · rw [List.nodup_cons, List.nodup_cons]
    refine ⟨fun h => ?_, h3 (lr, o1) (by simp), h2⟩
    rcases List.mem_cons.mp h with e | h
    · exact a1 e.symm
    · exact a3 h
  · intro a ha e
    subst e
    rcases List.mem_cons.mp ha with e | ha
    · exact a2 e
    · rcases List.mem_cons.mp ha with e | ha
      · exact h4 e
      · exact h3 (_, o2) (by simp) ha
theorem off_str {z : Str} {l : List Str} (h : l.contains z = false) {a : Str} (ha : a ∈ l) : z ≠ a := by
  intro e; subst e; rw [List.contains_iff_mem.mpr ha] at h; cases h
/-- the ledger of the state with what is not its own -/
theorem own_off {own : List (Addr × Obj)} {D0 : Addr} {oD : Obj} {adrs : List Addr} (hoff : OwnOff own (D0 :: adrs)) (hD : ∀ a ∈ adrs, a ≠ D0) : OwnOff ((D0, oD) :: own) adrs := fun q hq a ha => by
  rcases List.mem_cons.mp hq with rfl | hq
  · exact Ne.symm (hD a ha)
  · exact hoff q hq a (List.mem_cons_of_mem _ ha)
theorem reorder {h₀ h : Heap} {L : Addr} {a : Addr × Obj} {l own : List (Addr × Obj)} (N : News h₀ L h (a :: l ++ own)) : News h₀ L h (l ++ (a :: own)) := fun q hq => N q (by
  simp only [List.mem_append, List.mem_cons, List.cons_append] at hq ⊢
  rcases hq with h | h | h
  · exact .inr (.inl h)
  · exact .inl h
  · exact .inr (.inr h))
theorem end09 {p : Params} {g h' : Heap} {L : Addr} {s₁ : Shared} {m₀ m' : Str → Option Value} {lo lr D0 : Addr} {orr oD : Obj} {b i k' tk : Nat} {st : List Str} {ra rb : List RecD} {R R' : RecD} {own rest news' : List (Addr × Obj)} {n k : Nat} (F : Fr g L h' m') (N : News g L h' news')
    (hf : Facts09 lo lr n (ra ++ R :: rb, k)) (hoff : OwnOff own (D0 :: lo :: lr :: (ra ++ R :: rb).flatMap adr)) (hD : ∀ a ∈ lo :: lr :: (ra ++ R :: rb).flatMap adr, a ≠ D0) (hr : rest = ra.flatMap (recLed p) ++ rb.flatMap (recLed p) ++ ((D0, oD) :: own))
    (hnd' : (lo :: lr :: adr R').Nodup) (hor : OwnOff rest (adr R')) (hok : RecOk (b + (i + 1)) R') (hn : n ≤ b + (i + 1))
    (hin : ∀ q ∈ (lo, W.listOf (refs (ra ++ R' :: rb)).toArray k') :: (lr, orr) :: (recLed p R' ++ rest), q ∈ news') (hm : ∀ y, st.contains y = false → m' y = m₀ y) :
    InvEndG g L (J09 p lo lr orr D0 oD b st m₀ (i + 1)) own s₁ { s₁ with heap := h', toks := tk } := by
  obtain ⟨P1, P2, P3, P4⟩ := put09 hf (own_off hoff hD) hr hnd' hor hok hn hin
  have hD' : ∀ a ∈ lo :: lr :: (ra ++ R' :: rb).flatMap adr, a ≠ D0 := fun a ha e => P2 (D0, oD) (List.Mem.head _) a ha e.symm
  refine InvEndG.intro (nx := (D0, oD) :: Led09 p lo lr orr (ra ++ R' :: rb, k')) F N ⟨_, rfl, P1, hD', hm⟩ ?_ (fun q hq => ?_) (fun q hq => P4 q (List.Mem.tail _ hq))
  · rw [List.map_cons, led_adr]
    intro q hq a ha
    rcases List.mem_cons.mp ha with rfl | ha
    · exact hoff q hq _ (List.Mem.head _)
    · exact P2 q (List.Mem.tail _ hq) a ha
  · rcases List.mem_cons.mp hq with rfl | hq
    · exact P4 _ (List.Mem.head _)
    · exact P3 q hq
end Mine
end secA09g
section secA09h
namespace Mine
theorem RecOk.both {n : Nat} {r d u l : Addr} {us ls : List Value} {dv rv : Value} {k1 k2 k3 k4 : Tok} {cu cl cu' cl' : Nat} {x : Str} {t : Tok} {a : Addr} (h : RecOk n ⟨r, d, u, l, us, ls, dv, rv, k1, k2, k3, k4, cu, cl⟩) (hx : PyData.strOk x = true) :
    RecOk (n + 1) ⟨r, d, u, l, us ++ [.str x t], ls ++ [.ref a], dv, rv, k1, k2, k3, k4, cu', cl'⟩ := by
  obtain ⟨h1, h2, h3, h4, h5, h6, h7⟩ := h
  refine ⟨fun v hv => ?_, fun v hv => ?_, fun v hv => ?_, h4, h5, by dsimp only at h6 ⊢; rw [List.length_append]; exact Nat.succ_le_succ h6, by dsimp only at h7 ⊢; rw [List.length_append]; exact Nat.succ_le_succ h7⟩
  · rcases List.mem_append.mp hv with hv | hv
    · exact h1 v hv
    · exact ⟨_, _, List.mem_singleton.mp hv⟩
  · rcases List.mem_append.mp hv with hv | hv
    · exact h2 v hv
    · rw [List.mem_singleton.mp hv]; exact hx
  · rcases List.mem_append.mp hv with hv | hv
    · exact h3 v hv
    · exact ⟨_, List.mem_singleton.mp hv⟩
theorem RecOk.addU {n : Nat} {r d u l : Addr} {us ls : List Value} {dv rv : Value} {k1 k2 k3 k4 : Tok} {cu cl cu' cl' : Nat} {x : Str} {t : Tok} (h : RecOk n ⟨r, d, u, l, us, ls, dv, rv, k1, k2, k3, k4, cu, cl⟩) (hx : PyData.strOk x = true) :
    RecOk (n + 1) ⟨r, d, u, l, us ++ [.str x t], ls, dv, rv, k1, k2, k3, k4, cu', cl'⟩ := by
  have h9 := h.both (t := t) (a := 0) (cu' := cu') (cl' := cl') hx
  exact ⟨h9.us, h9.ok, h.ls, h.dv, h.rv, h9.nu, Nat.le_succ_of_le h.nl⟩
theorem RecOk.addL {n : Nat} {r d u l : Addr} {us ls : List Value} {dv rv : Value} {k1 k2 k3 k4 : Tok} {cu cl cu' cl' : Nat} {a : Addr} (h : RecOk n ⟨r, d, u, l, us, ls, dv, rv, k1, k2, k3, k4, cu, cl⟩) :
    RecOk (n + 1) ⟨r, d, u, l, us, ls ++ [.ref a], dv, rv, k1, k2, k3, k4, cu', cl'⟩ := by
  have h9 := h.both (x := Str.ofString "") (t := 0) (a := a) (cu' := cu') (cl' := cl') (by with_unfolding_all rfl)
  exact ⟨h.us, h.ok, h9.ls, h.dv, h.rv, Nat.le_succ_of_le h.nu, h9.nl⟩
theorem RecOk.setD {n : Nat} {r d u l : Addr} {us ls : List Value} {dv dv' rv : Value} {k1 k2 k3 k4 : Tok} {cu cl : Nat} (h : RecOk n ⟨r, d, u, l, us, ls, dv, rv, k1, k2, k3, k4, cu, cl⟩) (hv : IsOpt dv') :
    RecOk n ⟨r, d, u, l, us, ls, dv', rv, k1, k2, k3, k4, cu, cl⟩ := ⟨h.us, h.ok, h.ls, hv, h.rv, h.nu, h.nl⟩
theorem RecOk.setR {n : Nat} {r d u l : Addr} {us ls : List Value} {dv rv' rv : Value} {k1 k2 k3 k4 : Tok} {cu cl : Nat} (h : RecOk n ⟨r, d, u, l, us, ls, dv, rv, k1, k2, k3, k4, cu, cl⟩) (hv : IsOpt rv') :
    RecOk n ⟨r, d, u, l, us, ls, dv, rv', k1, k2, k3, k4, cu, cl⟩ := ⟨h.us, h.ok, h.ls, h.dv, hv, h.nu, h.nl⟩
theorem InvEndG.mono {g : Heap} {L : Addr} {J J' : (Str → Option Value) → List (Addr × Obj) → Prop} {own : List (Addr × Obj)} {s s' : Shared} (h : InvEndG g L J own s s') (hi : ∀ m nx, J m nx → J' m nx) : InvEndG g L J' own s s' := by
  obtain ⟨h', tk, m', news', nx, e, F', N', hn, ho, ha, hm⟩ := h
  exact ⟨h', tk, m', news', nx, e, F', N', hn, ho, ha, hi _ _ hm⟩
theorem J09.led {p : Params} {lo lr D0 : Addr} {orr oD : Obj} {b i : Nat} {st : List Str} {m₀ m : Str → Option Value} {nx : List (Addr × Obj)} (h : J09 p lo lr orr D0 oD b st m₀ i m nx) : (D0, oD) ∈ nx := by
  obtain ⟨c, rfl, _⟩ := h
  exact List.Mem.head _
theorem ownOff_nil {l : List Addr} : OwnOff [] l := fun _ h => nomatch h
theorem end09' {p : Params} {g h' : Heap} {L : Addr} {s₁ : Shared} {m₀ m' : Str → Option Value} {lo lr D0 : Addr} {orr oD : Obj} {b i k' tk : Nat} {st : List Str} {ra rb : List RecD} {R : RecD} (R' : RecD) {own rest news' : List (Addr × Obj)} {n k : Nat} {los : List Value} (F : Fr g L h' m') (N : News g L h' news')
    (hf : Facts09 lo lr n (ra ++ R :: rb, k)) (hoff : OwnOff own (D0 :: lo :: lr :: (ra ++ R :: rb).flatMap adr)) (hD : ∀ a ∈ lo :: lr :: (ra ++ R :: rb).flatMap adr, a ≠ D0) (hr : rest = ra.flatMap (recLed p) ++ rb.flatMap (recLed p) ++ ((D0, oD) :: own))
    (hnd' : (lo :: lr :: adr R').Nodup) (hor : OwnOff rest (adr R')) (hok : RecOk (b + (i + 1)) R') (hn : n ≤ b + (i + 1)) (hl : los = refs (ra ++ R' :: rb))
    (hin : ∀ q ∈ (lo, W.listOf los.toArray k') :: (lr, orr) :: (recLed p R' ++ rest), q ∈ news') (hm : ∀ y, st.contains y = false → m' y = m₀ y) :
    InvEndG g L (J09 p lo lr orr D0 oD b st m₀ (i + 1)) own s₁ { s₁ with heap := h', toks := tk } := by
  subst hl
  exact end09 F N hf hoff hD hr hnd' hor hok hn hin hm
theorem OwnOff.tl2 {own : List (Addr × Obj)} {a b : Addr} {l : List Addr} (h : OwnOff own (a :: b :: l)) : OwnOff own l := fun q hq x hx => h q hq x (List.mem_cons_of_mem _ (List.mem_cons_of_mem _ hx))
theorem next09 {p : Params} {g h' : Heap} {L : Addr} {lo lr : Addr} {orr : Obj} {k' : Nat} {ra rb : List RecD} {R : RecD} (R' : RecD) {own rest news' : List (Addr × Obj)} {n n' k : Nat} {los : List Value} (N : News g L h' news')
    (hf : Facts09 lo lr n (ra ++ R :: rb, k)) (hoff : OwnOff own (lo :: lr :: (ra ++ R :: rb).flatMap adr)) (hr : rest = ra.flatMap (recLed p) ++ rb.flatMap (recLed p) ++ own)
    (hnd' : (lo :: lr :: adr R').Nodup) (hor : OwnOff rest (adr R')) (hok : RecOk n' R') (hn : n ≤ n') (hl : los = refs (ra ++ R' :: rb))
    (hin : ∀ q ∈ (lo, W.listOf los.toArray k') :: (lr, orr) :: (recLed p R' ++ rest), q ∈ news') :
    ∃ rs, Facts09 lo lr n' (rs, k') ∧ OwnOff own (lo :: lr :: rs.flatMap adr) ∧ News g L h' (Led09 p lo lr orr (rs, k') ++ own) := by
  subst hl
  obtain ⟨P1, P2, P3, P4⟩ := put09 hf hoff hr hnd' hor hok hn hin
  exact ⟨_, P1, P2, fun q hq => N q ((List.mem_append.mp hq).elim (P3 q) (P4 q))⟩
theorem back09 {h₀ h : Heap} {L : Addr} {a : Addr × Obj} {l : List (Addr × Obj)} (N : News h₀ L h (l ++ [a])) : News h₀ L h (a :: l) := fun q hq => N q (by
  simp only [List.mem_append, List.mem_cons, List.not_mem_nil, or_false] at hq ⊢
  rcases hq with h | h
  · exact .inr h
  · exact .inl h)
structure ModIs (a b r : Int) : Prop where
  e : Int.fmod a b = r
section
variable {prog : Program} {w : World} {A : Around} {E : Value → Shared → Prop} {s : Shared} {t u : Tok} {Q : Value → Shared → Prop}
theorem modE {a b r : Int} (h : ModIs a b r) (hb : b ≠ 0) (hq : ∀ t' tk, Q (.int r t') { s with toks := tk }) : wpAny (model prog w) A (binaryOp .Mod (.int a t) (.int b u)) Q E s := by
  refine mod_int hb ?_
  rw [h.e]; exact hq _ _
theorem modB {a b : Int} (hb : 0 < b) (hq : ∀ k t' tk, 0 ≤ k → k < b → Q (.int k t') { s with toks := tk }) : wpAny (model prog w) A (binaryOp .Mod (.int a t) (.int b u)) Q E s := by
  refine mod_int (by omega) ?_
  exact hq _ _ _ (Int.fmod_nonneg_of_pos _ hb) (Int.fmod_lt_of_pos _ hb)
end
theorem ints_at : ∀ {vs : List Value} {ns : List Int}, IntsAre vs ns → ∀ {i : Nat} {v : Value}, vs[i]? = some v → ∃ z t, v = .int z t
  | _, _, .nil, i, v, h => by simp at h
  | _, _, .cons n t r, 0, v, h => ⟨n, t, by simpa using h.symm⟩
  | _, _, .cons n t r, i + 1, v, h => ints_at r (i := i) (by simpa using h)
theorem fmod_nat (z : Int) (m : Nat) (hm : 0 < m) : ∃ k : Nat, Int.fmod z (m : Int) = (k : Int) ∧ k < m := by
  have a := Int.fmod_nonneg_of_pos z (b := (m : Int)) (by omega)
  have b := Int.fmod_lt_of_pos z (b := (m : Int)) (by omega)
  exact ⟨(Int.fmod z m).toNat, by omega, by omega⟩
noncomputable def OkStr (v : Value) : Prop := ∃ x t, v = .str x t ∧ PyData.strOk x = true
theorem okStr_nil {v : Value} (h : v ∈ ([] : List Value)) : OkStr v := nomatch h
theorem okStr_cons {x : Str} {t : Tok} {l : List Value} (hx : PyData.strOk x = true) (hl : ∀ v, v ∈ l → OkStr v) : ∀ v, v ∈ Value.str x t :: l → OkStr v := fun v hv => by
  rcases List.mem_cons.mp hv with rfl | hv
  · exact ⟨_, _, rfl, hx⟩
  · exact hl v hv
theorem isOpt_nil {v : Value} (h : v ∈ ([] : List Value)) : IsOpt v := nomatch h
theorem isOpt_int {n : Int} {t : Tok} {l : List Value} (hl : ∀ v, v ∈ l → IsOpt v) : ∀ v, v ∈ Value.int n t :: l → IsOpt v := fun v hv => by
  rcases List.mem_cons.mp hv with rfl | hv
  · exact .inr ⟨_, _, rfl⟩
  · exact hl v hv
theorem isOpt_none {l : List Value} (hl : ∀ v, v ∈ l → IsOpt v) : ∀ v, v ∈ Value.none :: l → IsOpt v := fun v hv => by
  rcases List.mem_cons.mp hv with rfl | hv
  · exact .inl rfl
  · exact hl v hv
theorem fresh09 {p : Params} {g h h3 : Heap} {L : Addr} {m : Str → Option Value} {lo lr : Addr} {o1 o2 : Obj} {R R' : RecD} {rest : List (Addr × Obj)} (F : Fr g L h m) (N : News g L h ((lo, o1) :: (lr, o2) :: (recLed p R ++ rest))) (e3 : Ext h h3) (hoff : OwnOff rest (lo :: lr :: adr R)) (hne : @Ne Nat lo lr) (x : RecAt p 59 h3 R') (hn : RecNew h R') (ha : Apart R') :
    News g L h3 ((lo, o1) :: (lr, o2) :: (recLed p R' ++ rest)) ∧ (lo :: lr :: adr R').Nodup ∧ OwnOff rest (adr R') ∧ ∀ q ∈ (lr, o2) :: (recLed p R' ++ rest), q.1 ≠ lo := by
  have hno := new_off N hn
  have h1 : lo ∉ adr R' := hno _ (List.Mem.head _)
  have h2 : lr ∉ adr R' := hno _ (List.Mem.tail _ (List.Mem.head _))
  refine ⟨fun q hq => ?_, ?_, fun q hq a hm e => ?_, fun q hq e => ?_⟩
  · simp only [List.mem_cons, List.mem_append] at hq
    rcases hq with h | h | h | h
    · exact newsExt N e3 q (by simp [h])
    · exact newsExt N e3 q (by simp [h])
    · exact news_rec F x hn q h
    · exact newsExt N e3 q (by simp [h])
  · rw [List.nodup_cons, List.nodup_cons]
    refine ⟨fun h => ?_, h2, adr_nodup ha⟩
    rcases List.mem_cons.mp h with e | h
    · exact hne e
    · exact h1 h
  · exact hno q (by simp [hq]) (e ▸ hm)
  · simp only [List.mem_cons, List.mem_append] at hq
    rcases hq with rfl | h | h
    · exact hne e.symm
    · exact h1 (e ▸ List.mem_map_of_mem (f := Prod.fst) h)
    · exact hoff q h lo (List.Mem.head _) e
end Mine
end secA09h
section secA09k
namespace Mine
noncomputable def bookLed (B : BookD) : List (Addr × Obj) := [(B.b, W.listOf #[.ref B.bu, .ref B.bl, B.dv, B.rv] B.cb), (B.bu, W.listOf B.us.toArray B.cu), (B.bl, W.listOf B.ls.toArray B.cl)]
theorem book_led {h₀ h₁ h : Heap} {L : Addr} {m : Str → Option Value} {B : BookD} (F : Fr h₀ L h₁ m) (x : BookAt h B) (n : BookNew h₁ B) : News h₀ L h (bookLed B) :=
  news_fresh F (news_fresh F (news_fresh F (fun _ h => nomatch h) n.2.2 x.hl) n.2.1 x.hu) n.1 x.hb
theorem bookLed_at {h₀ h : Heap} {L : Addr} {B : BookD} {news : List (Addr × Obj)} (N : News h₀ L h news) (hin : ∀ q ∈ bookLed B, q ∈ news) : BookAt h B :=
  ⟨(N _ (hin _ (List.Mem.head _))).1, (N _ (hin _ (List.Mem.tail _ (List.Mem.head _)))).1, (N _ (hin _ (List.Mem.tail _ (List.Mem.tail _ (List.Mem.head _))))).1⟩
theorem book_fresh {h : Heap} {B : BookD} (n : BookNew h B) : ∀ q ∈ bookLed B, h.get? q.1 = none := fun q hq => by
  simp only [bookLed, List.mem_cons, List.not_mem_nil, or_false] at hq
  rcases hq with rfl | rfl | rfl
  · exact n.1
  · exact n.2.1
  · exact n.2.2
theorem rec_fresh {p : Params} {h : Heap} {R : RecD} (n : RecNew h R) : ∀ q ∈ recLed p R, h.get? q.1 = none := fun q hq => by
  simp only [recLed, List.mem_cons, List.not_mem_nil, or_false] at hq
  rcases hq with rfl | rfl | rfl | rfl
  · exact n.2.2.1
  · exact n.2.2.2
  · exact n.1
  · exact n.2.1
/-- what the books hold -/
structure BkOk (B : BookD) : Prop where
  us : AllStr B.us
  ok : AllOk B.us
  ls : AllRef B.ls
  dv : IsOpt B.dv
  rv : IsOpt B.rv
  nu : B.us.length ≤ 67
  nl : B.ls.length ≤ 67
theorem BkOk.book {h : Heap} {B : BookD} (k : BkOk B) (x : BookAt h B) : BookOk h B := ⟨x, k.us, Nat.le_trans k.nu (by decide), Nat.le_trans k.nl (by decide), isOpt_handed k.dv, isOpt_handed k.rv⟩
noncomputable def ValOf (R : RecD) : List BookD → Prop
  | [] => False
  | B :: bs => R.us = B.us.filter (inAll bs) ∧ R.ls = ((B :: bs).map (·.ls)).flatten ∧ R.dv = lastV (·.dv) (B :: bs) ∧ R.rv = lastV (·.rv) (B :: bs)
theorem last_fold (f : BookD → Value) : ∀ (bs : List BookD) (a : Value), bs.foldl (fun a B => if noneV (f B) then a else f B) a = if noneV (bs.foldl (fun a B => if noneV (f B) then a else f B) .none) then a else bs.foldl (fun a B => if noneV (f B) then a else f B) .none
  | [], _ => rfl
  | B :: r, a => by
    rw [List.foldl_cons, List.foldl_cons]
    cases hn : noneV (f B) with
    | true => rw [if_pos rfl, if_pos rfl]; exact last_fold f r a
    | false =>
      simp only [Bool.false_eq_true, if_false]
      rw [last_fold f r (f B)]
      cases hm : noneV (r.foldl (fun a B => if noneV (f B) then a else f B) .none) with
      | true => rw [if_pos rfl, hn]; rfl
      | false => rw [if_neg (by simp), hm]; rfl
theorem last_app (f : BookD → Value) (as bs : List BookD) : lastV f (as ++ bs) = if noneV (lastV f bs) then lastV f as else lastV f bs := by
  unfold lastV
  rw [List.foldl_append]
  exact last_fold f bs _
theorem last_opt (f : BookD → Value) : ∀ (bs : List BookD), (∀ B ∈ bs, IsOpt (f B)) → ∀ a, IsOpt a → IsOpt (bs.foldl (fun a B => if noneV (f B) then a else f B) a)
  | [], _, _, ha => ha
  | B :: r, h, a, ha => by
    rw [List.foldl_cons]
    refine last_opt f r (fun B hB => h B (List.mem_cons_of_mem _ hB)) _ ?_
    split
    · exact ha
    · exact h B (List.mem_cons_self ..)
theorem inAll_str {bs : List BookD} {u v : Value} (h : strOf u = strOf v) : inAll bs u = inAll bs v := by unfold inAll; rw [h]
theorem keep_str {ss : List Str} {v : Value} (h : ∃ x t, v = .str x t) : keepIn ss v = ss.contains (strOf v) := by obtain ⟨x, t, rfl⟩ := h; rfl
theorem val_us {c d : BookD} {as bs : List BookD} (hs : AllStr c.us) : (c.us.filter (inAll as)).filter (keepIn ((d.us.filter (inAll bs)).map strOf)) = c.us.filter (inAll (as ++ d :: bs)) := by
  rw [List.filter_filter]
  refine List.filter_congr fun v hv => ?_
  rw [keep_str (hs v hv)]
  have e : inAll (as ++ d :: bs) v = (inAll as v && ((d.us.map strOf).contains (strOf v) && inAll bs v)) := by unfold inAll; rw [List.all_append, List.all_cons]
  rw [e, Bool.and_comm]
  congr 1
  rw [Bool.eq_iff_iff]
  simp only [List.contains_iff_mem, List.mem_map, List.mem_filter, Bool.and_eq_true]
  constructor
  · rintro ⟨u, ⟨hu, hi⟩, e⟩
    exact ⟨⟨u, hu, e⟩, by rw [← inAll_str e]; exact hi⟩
  · rintro ⟨⟨u, hu, e⟩, hi⟩
    exact ⟨u, ⟨hu, by rw [inAll_str e]; exact hi⟩, e⟩
theorem val_merge {R1 R2 R : RecD} {c d : BookD} {as bs : List BookD} (hs : AllStr c.us) (h1 : ValOf R1 (c :: as)) (h2 : ValOf R2 (d :: bs)) (e1 : R.us = R1.us.filter (keepIn (R2.us.map strOf))) (e2 : R.ls = R1.ls ++ R2.ls) (e3 : R.dv = (if noneV R2.dv then R1.dv else R2.dv)) (e4 : R.rv = (if noneV R2.rv then R1.rv else R2.rv)) : ValOf R (c :: (as ++ d :: bs)) := by
  obtain ⟨a1, a2, a3, a4⟩ := h1
  obtain ⟨b1, b2, b3, b4⟩ := h2
  refine ⟨by rw [e1, a1, b1]; exact val_us hs, ?_, ?_, ?_⟩
  · rw [e2, a2, b2, ← List.flatten_append, ← List.map_append]; rfl
  · rw [e3, a3, b3, ← last_app]; rfl
  · rw [e4, a4, b4, ← last_app]; rfl
structure ValOk (n : Nat) (R : RecD) : Prop where
  us : AllStr R.us
  ok : AllOk R.us
  ls : AllRef R.ls
  dv : IsOpt R.dv
  rv : IsOpt R.rv
  nu : R.us.length ≤ 67
  nl : R.ls.length ≤ 67 * n
theorem flat_le {Bs : List BookD} (h : ∀ B ∈ Bs, B.ls.length ≤ 67) : ((Bs.map (·.ls)).flatten).length ≤ 67 * Bs.length := by
  induction Bs with
  | nil => exact Nat.le_refl _
  | cons B r ih =>
    have h1 := h B (List.mem_cons_self ..)
    have h2 := ih fun X hX => h X (List.mem_cons_of_mem _ hX)
    rw [List.map_cons, List.flatten_cons, List.length_append, List.length_cons]
    omega
theorem val_ok {R : RecD} : ∀ {bs : List BookD}, ValOf R bs → (∀ B ∈ bs, BkOk B) → ValOk bs.length R
  | [], h, _ => h.elim
  | B :: r, ⟨h1, h2, h3, h4⟩, hb => by
    have hB := hb B (List.mem_cons_self ..)
    refine ⟨?_, ?_, ?_, ?_, ?_, ?_, ?_⟩
    · rw [h1]; exact fun v hv => hB.us v (List.mem_filter.mp hv).1
    · rw [h1]; exact fun v hv => hB.ok v (List.mem_filter.mp hv).1
    · rw [h2]; intro v hv
      obtain ⟨l, hl, hvl⟩ := List.mem_flatten.mp hv
      obtain ⟨X, hX, rfl⟩ := List.mem_map.mp hl
      exact (hb X hX).ls v hvl
    · rw [h3]; exact last_opt _ _ (fun X hX => (hb X hX).dv) _ (.inl rfl)
    · rw [h4]; exact last_opt _ _ (fun X hX => (hb X hX).rv) _ (.inl rfl)
    · rw [h1]; exact Nat.le_trans (List.length_filter_le ..) hB.nu
    · rw [h2]; exact flat_le fun X hX => (hb X hX).nl
end Mine
end secA09k
section secA09j
namespace Mine
noncomputable abbrev Led := List (Addr × Obj)
structure Off (f r k : Led) : Prop where
  nd : (f.map (·.1)).Nodup
  a : OwnOff r (f.map (·.1))
  b : OwnOff k (f.map (·.1))
  c : OwnOff k (r.map (·.1))
theorem Off.own {f r k own : Led} (h : Off f r k) (ho : OwnOff own ((f ++ (r ++ k)).map (·.1))) : Off f r (own ++ k) := by
  refine ⟨h.nd, h.a, fun q hq a ha => ?_, fun q hq a ha => ?_⟩
  · rcases List.mem_append.mp hq with hq | hq
    · exact ho q hq a (by rw [List.map_append]; exact List.mem_append.mpr (.inl ha))
    · exact h.b q hq a ha
  · rcases List.mem_append.mp hq with hq | hq
    · exact ho q hq a (by rw [List.map_append, List.map_append]; exact List.mem_append.mpr (.inr (List.mem_append.mpr (.inl ha))))
    · exact h.c q hq a ha
theorem Off.grow {f r k xs : Led} {g hp : Heap} {L : Addr} (h : Off f r k) (N : News g L hp (f ++ (r ++ k))) (hx : ∀ q ∈ xs, hp.get? q.1 = none) : Off f (xs ++ r) k := by
  have key : ∀ q ∈ f ++ (r ++ k), ∀ x ∈ xs, x.1 ≠ q.1 := fun q hq x hxx e => by
    have h1 := hx x hxx
    rw [e, (N q hq).1] at h1; cases h1
  refine ⟨h.nd, fun q hq a ha => ?_, h.b, fun q hq a ha => ?_⟩
  · rcases List.mem_append.mp hq with hq | hq
    · obtain ⟨z, hz, rfl⟩ := List.mem_map.mp ha
      exact key z (List.mem_append.mpr (.inl hz)) q hq
    · exact h.a q hq a ha
  · rw [List.map_append] at ha
    rcases List.mem_append.mp ha with ha | ha
    · obtain ⟨z, hz, rfl⟩ := List.mem_map.mp ha
      exact fun e => key q (List.mem_append.mpr (.inr (List.mem_append.mpr (.inr hq)))) z hz e.symm
    · exact h.c q hq a ha
theorem allLt_ne' {d : Nat} : ∀ {l : Led}, AllLt d l → ∀ p ∈ l, p.1 ≠ d
  | [], _, _, h => nomatch h
  | _ :: _, x, p, h => by
    rcases List.mem_cons.mp h with rfl | h
    · exact Nat.ne_of_lt x.1
    · exact allLt_ne' x.2 p h
theorem Off.push {f r k : Led} {a : Addr} {o : Obj} (h : Off f r k) (hl : ∀ q ∈ f ++ (r ++ k), q.1 ≠ a) : Off ((a, o) :: f) r k := by
  refine ⟨?_, fun q hq x hx => ?_, fun q hq x hx => ?_, h.c⟩
  · rw [List.map_cons, List.nodup_cons]
    refine ⟨fun hm => ?_, h.nd⟩
    obtain ⟨z, hz, e⟩ := List.mem_map.mp hm
    exact hl z (List.mem_append.mpr (.inl hz)) e
  · rcases List.mem_cons.mp hx with rfl | hx
    · exact hl q (List.mem_append.mpr (.inr (List.mem_append.mpr (.inl hq))))
    · exact h.a q hq x hx
  · rcases List.mem_cons.mp hx with rfl | hx
    · exact hl q (List.mem_append.mpr (.inr (List.mem_append.mpr (.inr hq))))
    · exact h.b q hq x hx
theorem Off.same {f f' r k : Led} (h : Off f r k) (e : f'.map (·.1) = f.map (·.1)) : Off f' r k := ⟨by rw [e]; exact h.nd, by rw [e]; exact h.a, by rw [e]; exact h.b, h.c⟩
theorem Off.pop {f r k : Led} {x : Addr × Obj} (h : Off (x :: f) r k) : Off f (x :: r) k := by
  have hn := h.nd
  rw [List.map_cons, List.nodup_cons] at hn
  refine ⟨hn.2, fun q hq a ha => ?_, fun q hq a ha => h.b q hq a (List.mem_cons_of_mem _ ha), fun q hq a ha => ?_⟩
  · rcases List.mem_cons.mp hq with rfl | hq
    · exact fun e => hn.1 (e ▸ ha)
    · exact h.a q hq a (List.mem_cons_of_mem _ ha)
  · rcases List.mem_cons.mp ha with rfl | ha
    · exact h.b q hq _ (List.mem_cons_self ..)
    · exact h.c q hq a ha
theorem ownOff_sub {own a b : Led} (h : OwnOff own (a.map (·.1))) (hs : ∀ q ∈ b, q ∈ a) : OwnOff own (b.map (·.1)) := fun q hq x hx => by
  obtain ⟨z, hz, rfl⟩ := List.mem_map.mp hx
  exact h q hq _ (List.mem_map_of_mem (hs z hz))
theorem Off.finish {g h' : Heap} {L : Addr} {m' : Str → Option Value} {J : (Str → Option Value) → Led → Prop} {f r k own news' : Led} {s₁ : Shared} {tk : Nat} (h : Off f r (own ++ k)) (ho : OwnOff own (k.map (·.1))) (F : Fr g L h' m') (N : News g L h' news') (hin : ∀ q ∈ f ++ (r ++ (own ++ k)), q ∈ news') (hJ : J m' (f ++ (r ++ k))) :
    InvEndG g L J own s₁ { s₁ with heap := h', toks := tk } := by
  refine InvEndG.intro (nx := f ++ (r ++ k)) F N hJ ?_ (fun q hq => hin q ?_) (fun q hq => hin q (by simp [hq]))
  · intro q hq a ha
    rw [List.map_append, List.map_append] at ha
    rcases List.mem_append.mp ha with ha | ha
    · exact h.b q (List.mem_append.mpr (.inl hq)) a ha
    · rcases List.mem_append.mp ha with ha | ha
      · exact h.c q (List.mem_append.mpr (.inl hq)) a ha
      · exact ho q hq a ha
  · simp only [List.mem_append] at hq ⊢
    rcases hq with h | h | h
    · exact .inl h
    · exact .inr (.inl h)
    · exact .inr (.inr (.inr h))
noncomputable def GoodRec (p : Params) (rest : Led) (bs : List BookD) (v : Value) : Prop := ∃ R, v = .ref R.r ∧ (∀ q ∈ recLed p R, q ∈ rest) ∧ ValOf R bs
noncomputable def GoodRow (p : Params) (rest : Led) (bs : List BookD) (v : Value) : Prop := ∃ (a : Addr) (vs : List Value) (c : Nat), v = .ref a ∧ (a, W.listOf vs.toArray c) ∈ rest ∧ 0 < vs.length ∧ vs.length ≤ 4 ∧ ∀ x ∈ vs, GoodRec p rest bs x
theorem GoodRec.mono {p : Params} {r r' : Led} {bs : List BookD} {v : Value} (h : GoodRec p r bs v) (hs : ∀ q ∈ r, q ∈ r') : GoodRec p r' bs v := by
  obtain ⟨R, e, h1, h2⟩ := h
  exact ⟨R, e, fun q hq => hs q (h1 q hq), h2⟩
theorem GoodRow.mono {p : Params} {r r' : Led} {bs : List BookD} {v : Value} (h : GoodRow p r bs v) (hs : ∀ q ∈ r, q ∈ r') : GoodRow p r' bs v := by
  obtain ⟨a, vs, c, e, h1, h2, h3, h4⟩ := h
  exact ⟨a, vs, c, e, hs _ h1, h2, h3, fun x hx => (h4 x hx).mono hs⟩
noncomputable abbrev TD := Addr × List Value × Nat
noncomputable def tl (X : TD) : Addr × Obj := (X.1, W.listOf X.2.1.toArray X.2.2)
noncomputable def cntR (sz j s : Nat) : Nat := min sz (4 - s) + (if s < j then 1 else 0)
noncomputable def RowsOk (p : Params) (Bs : List BookD) (sz j : Nat) (c : List TD) (rest : Led) : Prop :=
  c.length = 4 ∧ ∀ s X, c[s]? = some X → X.2.1.length = cntR sz j s ∧ ∀ z v, X.2.1[z]? = some v → GoodRow p rest ((Bs.drop s).take (z + 1)) v
theorem RowsOk.mono {p : Params} {Bs : List BookD} {sz j : Nat} {c : List TD} {r r' : Led} (h : RowsOk p Bs sz j c r) (hs : ∀ q ∈ r, q ∈ r') : RowsOk p Bs sz j c r' :=
  ⟨h.1, fun s X hX => ⟨(h.2 s X hX).1, fun z v hv => ((h.2 s X hX).2 z v hv).mono hs⟩⟩
theorem RowsOk.next {p : Params} {Bs : List BookD} {sz : Nat} {c : List TD} {r : Led} (h : RowsOk p Bs sz (4 - sz) c r) : RowsOk p Bs (sz + 1) 0 c r :=
  ⟨h.1, fun s X hX => ⟨by
    rw [(h.2 s X hX).1]
    have hs : s < 4 := by have := (List.getElem?_eq_some_iff.mp hX).1; rw [h.1] at this; exact this
    unfold cntR
    rw [if_neg (Nat.not_lt_zero _)]
    split <;> omega, (h.2 s X hX).2⟩⟩
theorem RowsOk.add {p : Params} {Bs : List BookD} {sz j e e' : Nat} {ca cb : List TD} {t : Addr} {rows : List Value} {v : Value} {r r' : Led} (h : RowsOk p Bs sz j (ca ++ (t, rows, e) :: cb) r) (hj : ca.length = j) (hz : j + sz < 4) (hs : ∀ q ∈ r, q ∈ r') (hv : GoodRow p r' ((Bs.drop j).take (sz + 1)) v) :
    RowsOk p Bs sz (j + 1) (ca ++ (t, rows ++ [v], e') :: cb) r' := by
  have h0 := h.2 j (t, rows, e) (by rw [← hj]; simp)
  have hl : rows.length = sz := by
    have := h0.1
    unfold cntR at this
    rw [if_neg (Nat.lt_irrefl _)] at this
    dsimp only at this
    omega
  refine ⟨by have := h.1; simpa using this, fun s X hX => ?_⟩
  by_cases es : s = j
  · subst es
    have e1 : X = (t, rows ++ [v], e') := by rw [← hj] at hX; simpa using hX.symm
    subst e1
    dsimp only
    refine ⟨?_, fun z u hu => ?_⟩
    · unfold cntR
      rw [if_pos (Nat.lt_succ_self _), List.length_append, hl]
      show sz + 1 = _
      omega
    · by_cases hzz : z < rows.length
      · rw [List.getElem?_append_left hzz] at hu
        exact (h0.2 z u hu).mono hs
      · have hz1 : z = rows.length := by
          have := (List.getElem?_eq_some_iff.mp hu).1
          rw [List.length_append] at this
          simp at this
          omega
        subst hz1
        rw [List.getElem?_concat_length] at hu
        cases hu
        rw [hl]; exact hv
  · have hX2 : (ca ++ (t, rows, e) :: cb)[s]? = some X := by
      rcases Nat.lt_or_gt_of_ne es with h1 | h1
      · rw [List.getElem?_append_left (by omega)] at hX ⊢; exact hX
      · rw [List.getElem?_append_right (by omega)] at hX ⊢
        obtain ⟨d, hd⟩ : ∃ d, s - ca.length = d + 1 := ⟨s - ca.length - 1, by omega⟩
        rw [hd, List.getElem?_cons_succ] at hX ⊢; exact hX
    refine ⟨?_, fun z u hu => ((h.2 s X hX2).2 z u hu).mono hs⟩
    rw [(h.2 s X hX2).1]
    unfold cntR
    congr 1
    by_cases h2 : s < j
    · rw [if_pos h2, if_pos (by omega)]
    · rw [if_neg h2, if_neg (by omega)]
noncomputable def JT (p : Params) (Bs : List BookD) (ts : List Addr) (base keep : Led) (st : List Str) (m₀ : Str → Option Value) (sz j : Nat) (m : Str → Option Value) (nx : Led) : Prop :=
  ∃ (c : List TD) (rest : Led), nx = c.map tl ++ (rest ++ keep) ∧ Off (c.map tl) rest keep ∧ (∀ q ∈ base, q ∈ rest) ∧ c.map (·.1) = ts ∧ RowsOk p Bs sz j c rest ∧ ∀ y, st.contains y = false → m y = m₀ y
noncomputable def JR (p : Params) (bs : List BookD) (f base keep : Led) (row : Addr) (st : List Str) (m₀ : Str → Option Value) (i : Nat) (m : Str → Option Value) (nx : Led) : Prop :=
  ∃ (vs : List Value) (e : Nat) (rest : Led), nx = ((row, W.listOf vs.toArray e) :: f) ++ (rest ++ keep) ∧ Off ((row, W.listOf vs.toArray e) :: f) rest keep ∧ (∀ q ∈ base, q ∈ rest) ∧ vs.length = i ∧ (∀ v ∈ vs, GoodRec p rest bs v) ∧ ∀ y, st.contains y = false → m y = m₀ y
end Mine
end secA09j
section secA09q
open PySem PySem.W PyProof.Rows PyProof.Rows.LCg
namespace Mine
noncomputable def SameC (R : RecD) (B : BookD) : Prop := B.us = R.us ∧ B.ls = R.ls ∧ B.dv = R.dv ∧ B.rv = R.rv
theorem SameC.bk {R : RecD} {B : BookD} (h : SameC R B) (k : RecOk 67 R) : BkOk B := by
  obtain ⟨h1, h2, h3, h4⟩ := h
  exact ⟨by rw [h1]; exact k.us, by rw [h1]; exact k.ok, by rw [h2]; exact k.ls, by rw [h3]; exact k.dv, by rw [h4]; exact k.rv, by rw [h1]; exact k.nu, by rw [h2]; exact k.nl⟩
theorem noneV_eq {v : Value} (h : noneV v = true) : v = .none := by cases v <;> first | rfl | cases h
theorem last1 (f : BookD → Value) (B : BookD) : lastV f [B] = f B := by
  unfold lastV
  rw [List.foldl_cons, List.foldl_nil]
  split
  · rename_i h; exact (noneV_eq h).symm
  · rfl
theorem SameC.val {R : RecD} {B : BookD} (h : SameC R B) : ValOf R [B] := by
  obtain ⟨h1, h2, h3, h4⟩ := h
  refine ⟨?_, ?_, ?_, ?_⟩
  · rw [h1]; exact (List.filter_eq_self.mpr fun _ _ => rfl).symm
  · rw [List.map_cons, List.map_nil, List.flatten_cons, List.flatten_nil, List.append_nil, h2]
  · rw [last1, h3]
  · rw [last1, h4]
noncomputable def JC (rs : List RecD) (led : Led) (i : Nat) (ys : List Value) (news : Led) : Prop :=
  ∃ Bs : List BookD, ys = Bs.map (fun B => Value.ref B.b) ∧ Bs.length = i ∧ (∀ (k : Nat) (R : RecD) (B : BookD), rs[k]? = some R → Bs[k]? = some B → SameC R B) ∧ (∀ q ∈ led, q ∈ news) ∧ ∀ B ∈ Bs, ∀ q ∈ bookLed B, q ∈ news
theorem JC.grow {rs : List RecD} {led : Led} {i : Nat} {ys : List Value} {news : Led} {R : RecD} {B : BookD} (h : JC rs led i ys news) (hR : rs[i]? = some R) (hs : SameC R B) : JC rs led (i + 1) (ys ++ [.ref B.b]) (bookLed B ++ news) := by
  obtain ⟨Bs, rfl, hl, hc, h1, h2⟩ := h
  refine ⟨Bs ++ [B], by simp, by simp [hl], fun k R' B' hk hB => ?_, fun q hq => List.mem_append.mpr (.inr (h1 q hq)), fun X hX q hq => ?_⟩
  · by_cases hk2 : k < Bs.length
    · rw [List.getElem?_append_left hk2] at hB
      exact hc k R' B' hk hB
    · have hk1 : k = Bs.length := by
        have := (List.getElem?_eq_some_iff.mp hB).1
        rw [List.length_append] at this
        simp at this
        omega
      subst hk1
      rw [List.getElem?_concat_length] at hB
      cases hB
      rw [hl, hR] at hk
      cases hk
      exact hs
  · rcases List.mem_append.mp hX with hX | hX
    · exact List.mem_append.mpr (.inr (h2 X hX q hq))
    · rw [List.mem_singleton] at hX; subst hX; exact List.mem_append.mpr (.inl hq)
/-- the ledger of a comprehension grows by new objects -/
theorem grown {g h h' : Heap} {L : Addr} {m : Str → Option Value} {I C D : Addr} {oI oC oD : Obj} {news xs : Led} (N : News g L h ((I, oI) :: (C, oC) :: (D, oD) :: news)) (e : Ext h h') (M : News g L h' xs) (hx : ∀ q ∈ xs, h.get? q.1 = none) (off : ∀ q ∈ news, q.1 ≠ I ∧ q.1 ≠ C ∧ q.1 ≠ D) :
    News g L h' ((I, oI) :: (C, oC) :: (D, oD) :: (xs ++ news)) ∧ ∀ q ∈ xs ++ news, q.1 ≠ I ∧ q.1 ≠ C ∧ q.1 ≠ D := by
  have N' := newsExt N e
  refine ⟨fun q hq => ?_, fun q hq => ?_⟩
  · simp only [List.mem_cons, List.mem_append] at hq
    rcases hq with h | h | h | h | h
    · exact N' q (by simp [h])
    · exact N' q (by simp [h])
    · exact N' q (by simp [h])
    · exact M q h
    · exact N' q (by simp [h])
  · rcases List.mem_append.mp hq with h1 | h1
    · have h2 := hx q h1
      refine ⟨fun e => ?_, fun e => ?_, fun e => ?_⟩
      · rw [e, (N _ (List.Mem.head _)).1] at h2; cases h2
      · rw [e, (N _ (List.Mem.tail _ (List.Mem.head _))).1] at h2; cases h2
      · rw [e, (N _ (List.Mem.tail _ (List.Mem.tail _ (List.Mem.head _)))).1] at h2; cases h2
    · exact off q h1
theorem refs_get {rs : List RecD} {i : Nat} {v : Value} (h : (refs rs)[i]? = some v) : ∃ R, rs[i]? = some R ∧ v = .ref R.r := by
  unfold refs at h
  rw [List.getElem?_map] at h
  cases hR : rs[i]? with
  | none => rw [hR] at h; cases h
  | some R => rw [hR] at h; cases h; exact ⟨R, rfl, rfl⟩
theorem srcAt_mono {g : Heap} {ax : Addr} {its : Array Value} {a b : Led} (h : SrcAt g ax its a) (hs : ∀ q ∈ a, q ∈ b) : SrcAt g ax its b := h.imp id fun ⟨o, h1, h2⟩ => ⟨o, hs _ h1, h2⟩
noncomputable def JTab (p : Params) (Bs : List BookD) (led : Led) (i : Nat) (ys : List Value) (news : Led) : Prop :=
  ∃ (c : List TD) (rest : Led), news = c.map tl ++ (rest ++ []) ∧ ys = c.map (fun X => Value.ref X.1) ∧ c.length = i ∧ Off (c.map tl) rest [] ∧ (∀ q ∈ led, q ∈ rest) ∧
    ∀ s X, c[s]? = some X → X.2.1.length = 1 ∧ ∀ z v, X.2.1[z]? = some v → GoodRow p rest ((Bs.drop s).take (z + 1)) v
theorem off_nilf {r : Led} : Off [] r [] := ⟨List.nodup_nil, (fun _ _ _ h => nomatch h), ownOff_nil, ownOff_nil⟩
theorem JTab.zero {p : Params} {Bs : List BookD} {led : Led} : JTab p Bs led 0 [] led := ⟨[], led, by simp, rfl, rfl, off_nilf, (fun _ h => h), (fun _ _ h => nomatch h)⟩
theorem off_swap {f r k : Led} {x : Addr × Obj} (h : Off (x :: f) r k) : Off (f ++ [x]) r k := by
  have hm : ∀ a, a ∈ (f ++ [x]).map (·.1) → a ∈ (x :: f).map (·.1) := fun a ha => by
    simp only [List.map_append, List.mem_append, List.map_cons, List.map_nil, List.mem_cons, List.not_mem_nil, or_false] at ha ⊢
    exact ha.symm
  refine ⟨?_, fun q hq a ha => h.a q hq a (hm a ha), fun q hq a ha => h.b q hq a (hm a ha), h.c⟩
  have hn := h.nd
  rw [List.map_cons, List.nodup_cons] at hn
  rw [List.map_append, List.nodup_append]
  refine ⟨hn.2, by simp, fun a ha b hb e => ?_⟩
  simp only [List.map_cons, List.map_nil, List.mem_cons, List.not_mem_nil, or_false] at hb
  exact hn.1 (hb ▸ e ▸ ha)
theorem JTab.grow {p : Params} {rs : List RecD} {Bs : List BookD} {led : Led} {i : Nat} {ys : List Value} {news : Led} {R : RecD} {B : BookD} {D1 D2 : Addr} (h : JTab p Bs led i ys news) (hB : Bs[i]? = some B) (hs : SameC R B) (hR : ∀ q ∈ recLed p R, q ∈ led) (h1 : ∀ q ∈ news, q.1 ≠ D1) (h2 : ∀ q ∈ news, q.1 ≠ D2) (hne : D1 ≠ D2) :
    ∃ news', JTab p Bs led (i + 1) (ys ++ [.ref D2]) news' ∧ ∀ q, q ∈ news' ↔ q = (D2, W.listOf #[.ref D1] 0) ∨ q = (D1, W.listOf #[.ref R.r] 0) ∨ q ∈ news := by
  obtain ⟨c, rest, rfl, rfl, hl, ho, hled, hrow⟩ := h
  have ho1 : Off ((D1, W.listOf #[.ref R.r] 0) :: c.map tl) rest [] := ho.push fun q hq => h1 q hq
  have ho2 := ho1.pop
  have ho3 : Off ((D2, W.listOf #[.ref D1] 0) :: c.map tl) ((D1, W.listOf #[.ref R.r] 0) :: rest) [] := ho2.push fun q hq => by
    simp only [List.mem_append, List.mem_cons, List.not_mem_nil, or_false] at hq
    rcases hq with h | h | h
    · exact h2 q (by simp [h])
    · rw [h]; exact hne
    · exact h2 q (by simp [h])
  have hsub : ∀ q ∈ rest, q ∈ (D1, W.listOf #[.ref R.r] 0) :: rest := fun q hq => List.mem_cons_of_mem _ hq
  refine ⟨(c ++ [(D2, [Value.ref D1], 0)]).map tl ++ (((D1, W.listOf #[.ref R.r] 0) :: rest) ++ []), ⟨c ++ [(D2, [Value.ref D1], 0)], _, rfl, by simp, by simp [hl], ?_, fun q hq => hsub q (hled q hq), fun s X hX => ?_⟩, fun q => ?_⟩
  · rw [List.map_append]; exact off_swap ho3
  · by_cases hk2 : s < c.length
    · rw [List.getElem?_append_left hk2] at hX
      exact ⟨(hrow s X hX).1, fun z v hv => ((hrow s X hX).2 z v hv).mono hsub⟩
    · have hk1 : s = c.length := by
        have := (List.getElem?_eq_some_iff.mp hX).1
        rw [List.length_append] at this
        simp at this
        omega
      subst hk1
      rw [List.getElem?_concat_length] at hX
      cases hX
      refine ⟨rfl, fun z v hv => ?_⟩
      cases z with
      | succ z => cases hv
      | zero =>
        cases hv
        refine ⟨D1, [.ref R.r], 0, rfl, List.mem_cons_self .., Nat.one_pos, Nat.le_of_ble_eq_true rfl, fun x hx => ?_⟩
        rw [List.mem_singleton] at hx
        subst hx
        refine ⟨R, rfl, fun q hq => hsub q (hled q (hR q hq)), ?_⟩
        have e : (Bs.drop c.length).take (0 + 1) = [B] := by
          rw [hl]
          obtain ⟨hi, e⟩ := List.getElem?_eq_some_iff.mp hB
          rw [List.drop_eq_getElem_cons hi, e]; rfl
        rw [e]; exact hs.val
  · simp only [List.map_append, List.map_cons, List.map_nil, List.mem_append, List.mem_cons, List.not_mem_nil, or_false, tl]
    constructor
    · rintro ((h | h) | h | h)
      · exact .inr (.inr (.inl h))
      · exact .inl h
      · exact .inr (.inl h)
      · exact .inr (.inr (.inr h))
    · rintro (h | h | h | h)
      · exact .inl (.inr h)
      · exact .inr (.inl h)
      · exact .inl (.inl h)
      · exact .inr (.inr h)
theorem led_rec {p : Params} {lo lr : Addr} {orr : Obj} {rs : List RecD} {n : Nat} {R : RecD} {x : Addr × Obj} {i : Nat} (h : rs[i]? = some R) : ∀ q ∈ recLed p R, q ∈ x :: Led09 p lo lr orr (rs, n) := fun q hq => by
  unfold Led09
  refine List.mem_cons_of_mem _ (List.mem_cons_of_mem _ (List.mem_cons_of_mem _ ?_))
  exact List.mem_flatMap.mpr ⟨R, List.mem_of_getElem? h, hq⟩
theorem rowsOk_first {p : Params} {Bs : List BookD} {c : List TD} {rest rest' : Led} (hl : c.length = 4) (h : ∀ s X, c[s]? = some X → X.2.1.length = 1 ∧ ∀ z v, X.2.1[z]? = some v → GoodRow p rest ((Bs.drop s).take (z + 1)) v) (hs : ∀ q ∈ rest, q ∈ rest') : RowsOk p Bs 1 0 c rest' :=
  ⟨hl, fun s X hX => ⟨by
    rw [(h s X hX).1]
    have hs : s < 4 := by have := (List.getElem?_eq_some_iff.mp hX).1; rw [hl] at this; exact this
    unfold cntR
    rw [if_neg (Nat.not_lt_zero _)]
    omega, fun z v hv => ((h s X hX).2 z v hv).mono hs⟩⟩
noncomputable def JTO (p : Params) (Bs : List BookD) (ts : List Addr) (base keep : Led) (st : List Str) (m₀ : Str → Option Value) (i : Nat) (m : Str → Option Value) (nx : Led) : Prop := JT p Bs ts base keep st m₀ (1 + i) 0 m nx
end Mine
end secA09q
section secA09v
open PySem PySem.W PyProof.Rows PyProof.Rows.LCg
namespace Mine
section
variable {prog : Program} {w : World} {A : Around} {E : Value → Shared → Prop} {s : Shared} {t u : Tok} {value slice : PySem.Expr} {Q : Value → Shared → Prop} {h₀ : Heap} {L a : Addr} {news : List (Addr × Obj)} {vs : List Value} {n : Nat}
theorem itemZ {k : Int} {i : Nat} {v : Value} (hz : k = (i : Int)) (N : News h₀ L s.heap news) (hm : (a, W.listOf vs.toArray n) ∈ news) (hk : vs[i]? = some v) (h9 : i ≤ 1000) (h : Q v s)
    (hs : subscripted slice false (.ref a) (.int k u) = operate [.ref a, .int k u] (getItem (.ref a) (.int k u)) := by with_unfolding_all rfl) :
    wpAny (model prog w) A (subscriptTail value slice (.ref a) (.int k u)) Q E s := by
  subst hz
  exact itemL N hm hk h9 h hs
theorem itemBack (N : News h₀ L s.heap news) (hm : (a, W.listOf vs.toArray n) ∈ news) (h0 : 0 < vs.length) (h : ∀ v, v ∈ vs → Q v s)
    (hs : subscripted slice false (.ref a) (.int (-1) u) = operate [.ref a, .int (-1) u] (getItem (.ref a) (.int (-1) u)) := by with_unfolding_all rfl) :
    wpAny (model prog w) A (subscriptTail value slice (.ref a) (.int (-1) u)) Q E s := by
  have hl := News.isList N hm
  have hlt : vs.length - 1 < vs.length := by omega
  have hx : vs.toArray[((-1 : Int) + (vs.toArray.size : Nat)).toNat]? = some vs[vs.length - 1] := by
    rw [List.size_toArray, List.getElem?_toArray, show ((-1 : Int) + (vs.length : Nat)).toNat = vs.length - 1 by omega, List.getElem?_eq_getElem hlt]
  refine subscriptTail_builtinR hl.typeIs slot_list_getitem.lookup (wpAny_getItem_list_neg (Q := fun r s' => r = vs[vs.length - 1] ∧ Q r s') hl (by decide) (by rw [List.size_toArray]; omega) (by decide) hx ⟨rfl, h _ (List.getElem_mem hlt)⟩) hs
end
theorem slice2 {α : Type} (l : List α) {x y : Int} {a b : Nat} (hx : x = (a : Int)) (hy : y = (b : Int)) (hab : a ≤ b) (hb : b ≤ l.length) : (l.drop (kms_lo (some x) l.length)).take (kms_hi (some y) l.length - kms_lo (some x) l.length) = (l.drop a).take (b - a) := by
  subst hx; subst hy
  have e1 : kms_lo (some (a : Int)) l.length = a := by
    unfold kms_lo
    dsimp only
    rw [if_neg (by omega), Int.toNat_natCast]; omega
  have e2 : kms_hi (some (b : Int)) l.length = b := by
    unfold kms_hi
    dsimp only
    rw [if_neg (by omega), Int.toNat_natCast]; omega
  rw [e1, e2]
theorem row_at {p : Params} {Bs : List BookD} {sz j s z : Nat} {c : List TD} {X : TD} {rest : Led} (hR : RowsOk p Bs sz j c rest) (hs : c[s]? = some X) (hz : z < cntR sz j s) : ∃ v, X.2.1[z]? = some v ∧ GoodRow p rest ((Bs.drop s).take (z + 1)) v := by
  have h := hR.2 s X hs
  have hlt : z < X.2.1.length := by rw [h.1]; exact hz
  exact ⟨_, List.getElem?_eq_getElem hlt, h.2 z _ (List.getElem?_eq_getElem hlt)⟩
theorem col_at {c : List TD} {s : Nat} (h : s < c.length) : ∃ X, c[s]? = some X := ⟨_, List.getElem?_eq_getElem h⟩
theorem ref_at {c c' : List TD} {s : Nat} {X : TD} (hts : c'.map (·.1) = c.map (·.1)) (h : c'[s]? = some X) : (c.map fun X => Value.ref X.1)[s]? = some (Value.ref X.1) := by
  have e : (c.map fun X => Value.ref X.1) = (c.map (·.1)).map Value.ref := by rw [List.map_map]; rfl
  rw [e, ← hts, List.getElem?_map, List.getElem?_map, h]; rfl
theorem tl_mem {c : List TD} {s : Nat} {X : TD} (h : c[s]? = some X) : (X.1, W.listOf X.2.1.toArray X.2.2) ∈ c.map tl := List.mem_map.mpr ⟨X, List.mem_of_getElem? h, rfl⟩
theorem val_stretch {Bs : List BookD} {R1 R2 R : RecD} {s q sz : Nat} (hb : ∀ B ∈ Bs, BkOk B) (hq : q < sz) (h1 : ValOf R1 ((Bs.drop s).take (q + 1))) (h2 : ValOf R2 ((Bs.drop (s + q + 1)).take (sz - q - 1 + 1))) (e1 : R.us = R1.us.filter (keepIn (R2.us.map strOf))) (e2 : R.ls = R1.ls ++ R2.ls) (e3 : R.dv = (if noneV R2.dv then R1.dv else R2.dv)) (e4 : R.rv = (if noneV R2.rv then R1.rv else R2.rv)) :
    ValOf R ((Bs.drop s).take (sz + 1)) := by
  have e : (Bs.drop s).take (sz + 1) = (Bs.drop s).take (q + 1) ++ (Bs.drop (s + q + 1)).take (sz - q - 1 + 1) := by
    rw [show sz + 1 = (q + 1) + (sz - q - 1 + 1) by omega, List.take_add, List.drop_drop]
    congr 2
  rw [e]
  cases hA : (Bs.drop s).take (q + 1) with
  | nil => rw [hA] at h1; exact h1.elim
  | cons c as =>
    cases hB : (Bs.drop (s + q + 1)).take (sz - q - 1 + 1) with
    | nil => rw [hB] at h2; exact h2.elim
    | cons d bs =>
      rw [hA] at h1; rw [hB] at h2
      have hc : c ∈ Bs := List.mem_of_mem_drop (List.mem_of_mem_take (by rw [hA]; exact List.mem_cons_self ..))
      exact val_merge (hb c hc).us h1 h2 e1 e2 e3 e4
theorem stretch_mem {Bs : List BookD} {s n : Nat} {B : BookD} (h : B ∈ (Bs.drop s).take n) : B ∈ Bs := List.mem_of_mem_drop (List.mem_of_mem_take h)
theorem off_head {f r k : Led} {a : Addr} {o : Obj} (h : Off ((a, o) :: f) r k) : OwnOff (f ++ (r ++ k)) [a] := fun q hq x hx => by
  rw [List.mem_singleton] at hx
  rw [hx]
  rcases List.mem_append.mp hq with hq | hq
  · have hn := h.nd
    rw [List.map_cons, List.nodup_cons] at hn
    intro e
    exact hn.1 (by show a ∈ _; rw [← e]; exact List.mem_map_of_mem (f := Prod.fst) hq)
  · rcases List.mem_append.mp hq with hq | hq
    · exact h.a q hq _ (List.mem_cons_self ..)
    · exact h.b q hq _ (List.mem_cons_self ..)
theorem split_td {c : List TD} {s : Nat} (h : s < c.length) : ∃ ca X cb, c = ca ++ X :: cb ∧ ca.length = s := ⟨c.take s, c[s], c.drop (s + 1), by simp, by simp; omega⟩
theorem tab_off {ca cb : List TD} {X : TD} {r k : Led} {x : Addr × Obj} (h : Off (x :: (ca ++ X :: cb).map tl) r k) : OwnOff (x :: (ca.map tl ++ cb.map tl ++ (r ++ k))) [X.1] := fun q hq a ha => by
  rw [List.mem_singleton] at ha
  subst ha
  have hn := h.nd
  have hX : X.1 ∈ (x :: (ca ++ X :: cb).map tl).map (·.1) := by
    rw [List.map_cons, List.map_append, List.map_cons]
    exact List.mem_cons_of_mem _ (List.mem_map_of_mem (f := Prod.fst) (List.mem_append.mpr (.inr (List.mem_cons_self ..))))
  rw [List.map_cons, List.map_append, List.map_cons, List.map_append, List.map_cons, List.nodup_cons, List.nodup_append, List.nodup_cons] at hn
  obtain ⟨n1, n2, ⟨n3, n4⟩, n5⟩ := hn
  simp only [List.mem_cons, List.mem_append] at hq
  rcases hq with rfl | (hq | hq) | hq | hq
  · exact fun e => n1 (by rw [e]; exact List.mem_append.mpr (.inr (List.mem_cons_self ..)))
  · exact n5 _ (List.mem_map_of_mem (f := Prod.fst) hq) _ (List.mem_cons_self ..)
  · exact fun e => n3 (by show X.1 ∈ _; rw [← e]; exact List.mem_map_of_mem (f := Prod.fst) hq)
  · exact h.a q hq _ hX
  · exact h.b q hq _ hX
theorem tab_in {ca cb : List TD} {X : TD} {r k : Led} {x : Addr × Obj} : ∀ q, q ∈ tl X :: (x :: (ca.map tl ++ cb.map tl ++ (r ++ k))) ↔ q ∈ (x :: (ca ++ X :: cb).map tl) ++ (r ++ k) := fun q => by
  rw [List.map_append, List.map_cons]
  simp only [List.mem_cons, List.mem_append]
  constructor
  · rintro (h | h | (h | h) | h)
    · exact .inl (.inr (.inr (.inl h)))
    · exact .inl (.inl h)
    · exact .inl (.inr (.inl h))
    · exact .inl (.inr (.inr (.inr h)))
    · exact .inr h
  · rintro ((h | h | h | h) | h)
    · exact .inr (.inl h)
    · exact .inr (.inr (.inl (.inl h)))
    · exact .inl h
    · exact .inr (.inr (.inl (.inr h)))
    · exact .inr (.inr (.inr h))
noncomputable def DueIs (D : BookD) : List BookD → Prop
  | [] => False
  | B :: bs => D.us = B.us.filter (inAll bs) ∧ D.ls = ((B :: bs).map (·.ls)).flatten ∧ D.dv = lastV (·.dv) (B :: bs) ∧ D.rv = lastV (·.rv) (B :: bs)
theorem due_same {R : RecD} {D : BookD} : ∀ {bs : List BookD}, ValOf R bs → DueIs D bs → R.us = D.us ∧ R.ls = D.ls ∧ R.dv = D.dv ∧ R.rv = D.rv
  | [], h, _ => h.elim
  | _ :: _, ⟨a1, a2, a3, a4⟩, ⟨b1, b2, b3, b4⟩ => ⟨a1.trans b1.symm, a2.trans b2.symm, a3.trans b3.symm, a4.trans b4.symm⟩
structure StopSlice : Prop where
  t : True
theorem Off.less {f r a k : Led} (h : Off f r (a ++ k)) : Off f r k := ⟨h.nd, h.a, fun q hq => h.b q (List.mem_append.mpr (.inr hq)), fun q hq => h.c q (List.mem_append.mpr (.inr hq))⟩
theorem off_subl {l l' : List Str} {z : Str} (h : l.contains z = false) (hs : ∀ a ∈ l', a ∈ l) : l'.contains z = false := by
  cases hc : l'.contains z with
  | false => rfl
  | true => rw [List.contains_iff_mem.mpr (hs _ (List.contains_iff_mem.mp hc))] at h; cases h
noncomputable def JQ (X : Led) (st : List Str) (m₀ : Str → Option Value) (_i : Nat) (m : Str → Option Value) (nx : Led) : Prop := nx = X ∧ ∀ y, st.contains y = false → m y = m₀ y
theorem JQ.finish {g h' : Heap} {L : Addr} {m' m₀ : Str → Option Value} {X own news' : Led} {st : List Str} {s₁ : Shared} {tk i : Nat} (ho : OwnOff own (X.map (·.1))) (F : Fr g L h' m') (N : News g L h' news') (hin : ∀ q ∈ X ++ own, q ∈ news') (hm : ∀ y, st.contains y = false → m' y = m₀ y) :
    InvEndG g L (JQ X st m₀ i) own s₁ { s₁ with heap := h', toks := tk } :=
  InvEndG.intro (nx := X) F N ⟨rfl, hm⟩ ho (fun q hq => hin q (List.mem_append.mpr (.inl hq))) (fun q hq => hin q (List.mem_append.mpr (.inr hq)))
theorem take_len {Bs : List BookD} {s n : Nat} (h : Bs.length = 4) : ((Bs.drop s).take n).length ≤ 4 := by rw [List.length_take, List.length_drop]; omega
theorem ValOk.four {R : RecD} {n : Nat} (h : ValOk n R) (hn : n ≤ 4) : R.ls.length ≤ 268 := Nat.le_trans h.nl (by omega)
end Mine
end secA09v
open PySem PySem.W PyProof.Rows PyProof.Rows.LCg
namespace Mine
theorem new_ne {h : Heap} {a b : Addr} {o : Obj} (hn : h.get? a = none) (hs : h.get? b = some o) : @Ne Nat a b := fun e => by
  have e' : a = b := e
  rw [e', hs] at hn; cases hn
theorem gen_turn {M : Model} {A : Around} {f : Sem Flow} {g : Heap} {L : Addr} {J : (Str → Option Value) → List (Addr × Obj) → Prop} {own : List (Addr × Obj)} {s s' : Shared} {Q : Flow → Shared → Prop} {E : Value → Shared → Prop}
    (H : ∀ Q', wpAny M A f (InvPostG g L J own s Q') E s') : wpAny M A f (InvPostG g L J own s Q) E s' := H Q
end Mine
open Mine
local macro_rules | `(tactic| walk_at "go") => `(tactic| repeat' (first | (k_unfold; (try dsimp only)) | walk1 | (dsimp only; walk1)))
local macro_rules | `(tactic| walk_at $k9:str) => if ["call ref", "exec Assign cons ListComp", "eval ListComp", "RngIs", "SrcIs", "EltJ", "exec For Name Call cons nil", "exec For Name Name cons nil", "pyIter ref", "InvEndG", "subscriptTail Name Constant ref int", "subscriptTail List BinOp ref int", "setItem ref int", "subscriptTail Subscript Name ref int", "subscriptTail Subscript BinOp ref int", "subscriptTail Subscript UnaryOp ref int", "subscriptTail Subscript Constant ref int"].contains k9.getString || k9.getString.startsWith "subscriptTail Subscript" then `(tactic| refine Stop.of ?_) else Lean.Macro.throwUnsupported
local macro_rules | `(tactic| walk_at "subscriptTail Name Name ref int") => `(tactic| (k_here; (with_reducible rename News _ _ _ _ => N'); first | ((with_reducible rename StopSlice => hS9); refine Stop.of ?_) | (refine itemL N' (List.Mem.head _) (by with_reducible assumption) (by omega) ?_) | (refine itemL N' (List.Mem.tail _ (List.Mem.head _)) (by with_reducible assumption) (by omega) ?_) | refine Stop.of ?_))
local macro_rules | `(tactic| walk_at "call builtin:list.append") => `(tactic| (k_here; (with_reducible show wpAny _ _ (call (Value.builtin _) [Value.ref _, _]) _ _ _); k_dflt (refine' append_K ?k1 ?k2 ?k3 ?_ ?z; (case k1 => with_reducible assumption); (case k2 => with_reducible assumption); (case k3 => k_upd); (case z => first | exact (show Fits _ from (by with_reducible assumption)) | size_fits); k_whole); intro h' F' N'; (try k_sweep)))
local macro_rules | `(tactic| k_ne) => `(tactic| first | with_reducible assumption | (refine Ne.symm ?_; with_reducible assumption) | (apply Nat.ne_of_lt; omega) | (apply Nat.ne_of_gt; omega))
local macro_rules | `(tactic| k_all) => `(tactic| ((with_reducible rename OwnOff _ _ => hOff9); exact fun q hq => hOff9 q hq _ (by k_mem)))
local macro_rules | `(tactic| walk_at "compareOp Eq int int") => `(tactic| (k_here; first | refine eqI_t (by omega) ?_ | refine eqI_f (by omega) ?_))
local macro_rules | `(tactic| walk_at "binaryOp Mod int int") => `(tactic| (k_here; first | (with_reducible refine modE (by with_reducible assumption) (by decide) ?_; intro _ _) | refine Stop.of ?_))
local macro_rules | `(tactic| walk_at "subscriptTail Name BinOp ref int") => `(tactic| (k_here; first | ((with_reducible rename StopSlice => hS9); refine Stop.of ?_) | ((with_reducible rename News _ _ _ _ => N'); refine itemL N' (List.Mem.head _) (by with_reducible assumption) (by omega) ?_) | refine Stop.of ?_))
local macro_rules | `(tactic| walk_at "callWith") => `(tactic| ((with_reducible show wpAny _ _ (callWith _ (Value.builtin _) (_ :: _) _ []) _ _ _); refine callWith_method1 ?_))
local macro_rules | `(tactic| walk_at "newList") => `(tactic| (k_here; k_dflt (refine' newList_K ?k1 ?k2 ?_ ?z; (case k1 => with_reducible assumption); (case k2 => with_reducible assumption); (case z => rw [sizeLine_eq]; exact Nat.le_of_ble_eq_true rfl); k_whole); intro l' h' F' N' l1; (try k_lt l1); (try k_sweep)))
local macro_rules | `(tactic| walk_at "callWith ref") => `(tactic| (k_here; k_dflt (first | (refine' callWith_K ?k1 ?k2 ?_; (case k1 => with_reducible assumption); (case k2 => k_is); k_whole) | (refine' callWith_K0 ?k1 ?k2 ?_; (case k1 => first | with_reducible assumption | exact Frag.In.keeps (by with_reducible assumption) (Fr.keep (by with_reducible assumption))); (case k2 => k_is); k_whole))))
local macro_rules | `(tactic| walk_at "subscriptTail Name Slice ref ref") => `(tactic| ((with_reducible rename StopSlice => hS9); refine Stop.of ?_))
local macro_rules | `(tactic| walk_at "call type:range") => `(tactic| (k_here; (with_reducible rename Fr _ _ _ _ => F'); (with_reducible rename News _ _ _ _ => N'); first | (with_unfolding_all refine range1_rows F' N' ?_; intro _ _ _ _ _ _ _ _ _) | (with_unfolding_all refine range2_rows F' N' ?_; intro _ _ _ _ _ _ _ _ _)))
set_option maxRecDepth 100000 in
set_option maxHeartbeats 8000000 in
theorem PySem.Challenge.cw_dn0256_09_holds : PySem.Challenge.rw_dn0256_09.Holds := by
  refine Mine.hd09 ?_
  k_go0
  (all_goals try k_fold)
  walk_at "go"
  refine Stop.go ?_
  (rename Fr _ _ _ _ => F1); (rename News _ _ _ _ => N1); (rename IntsAre _ _ => hI1)
  rename Frag.In _ _ => KX
  rename World => wd
  rename Shared => s₁
  rename Top _ _ _ _ _ _ => T
  rename_i D0 ws _ hC0 hL0 _ _
  have hln := hI1.length
  have hwl : ws.length ≤ 63 := by omega
  refine compGRA (n := 10) (JA [(D0, W.listOf ws.toArray 0)]) rfl F1 rfl (by decide) (by with_unfolding_all rfl) (by with_unfolding_all rfl) (by decide) rfl (by decide) rfl rfl rfl ?iter1 ⟨rfl, (fun v hv => nomatch hv), rfl⟩ ?turn1 ?fin1
  case iter1 =>
    walk_at "go"
    refine Stop.go ?_
    rename IsRange _ _ _ _ _ _ _ _ => R9
    (rename Fr _ _ _ _ => F9); (rename News _ _ _ _ => N9)
    exact ⟨_, _, _, _, rfl, ⟨_, _, rfl, F9, N9⟩, R9⟩
  case turn1 =>
    rintro i t ys news₁ I oI C oC D m₂ h tk E' hi hj hC hm F2 N2 off ne
    clear F1 N1
    walk_at "go"
    refine Stop.go ?_
    refine ct_new (Frag.In.keeps KX F2.keep) (Top.keeps T F2.keep) (by (simp only [depth_deeper, depth_caller]; decide)) rfl (fun h3 tk3 R e3 x3 q1 q2 q3 q4 hnew hap => ?_)
    dsimp only
    walk_at "go"
    refine Stop.go ?_
    exact ⟨_, _, _, rfl, F2.keeps e3, newsExt N2 e3, off, trivial, hj.snoc⟩
  case fin1 =>
    rintro lr ys news' h tk ⟨hyl, hyr, rfl⟩ F2 N2 off2
    clear F1 N1
    dsimp only
    walk_at "go"
    refine Stop.go ?_
    refine compGRA (n := 4) (JB wd.params [(lr, lst ys), (D0, W.listOf ws.toArray 0)]) rfl F2 rfl (by decide) (by with_unfolding_all rfl) (by with_unfolding_all rfl) (by decide) rfl (by decide) rfl rfl rfl ?iter2 ⟨[], rfl, rfl, rfl, List.nodup_nil, (fun _ _ h => nomatch h), (fun _ h => nomatch h)⟩ ?turn2 ?fin2
    case iter2 =>
      walk_at "go"
      refine Stop.go ?_
      rename IsRange _ _ _ _ _ _ _ _ => R9
      (rename Fr _ _ _ _ => F9); (rename News _ _ _ _ => N9)
      exact ⟨_, _, _, _, rfl, ⟨_, _, rfl, F9, N9⟩, R9⟩
    case turn2 =>
      rintro i t ys news₁ I oI C oC D m₂ h tk E' hi hj hC hm F3 N3 off ne
      clear F2 N2
      walk_at "go"
      refine Stop.go ?_
      refine ct_new (Frag.In.keeps KX F3.keep) (Top.keeps T F3.keep) (by (simp only [depth_deeper, depth_caller]; decide)) rfl (fun h4 tk4 R e4 x4 q1 q2 q3 q4 hnew hap => ?_)
      dsimp only
      walk_at "go"
      refine Stop.go ?_
      obtain ⟨news', hJ, hmem⟩ := hj.grow (fun q hq => N3 q (List.Mem.tail _ (List.Mem.tail _ (List.Mem.tail _ hq)))) hnew hap (recOk0 q1 q2 q3 q4)
      have hR := news_rec F3 x4 hnew
      have hno := new_off N3 hnew
      refine ⟨_, _, news', rfl, F3.keeps e4, fun q hq => ?_, fun q hq => ?_, trivial, hJ⟩
      · simp only [List.mem_cons] at hq
        rcases hq with h | h | h | h
        · exact newsExt N3 e4 q (by simp [h])
        · exact newsExt N3 e4 q (by simp [h])
        · exact newsExt N3 e4 q (by simp [h])
        · rcases (hmem q).mp h with h | h
          · exact newsExt N3 e4 q (by simp [h])
          · exact hR q h
      · rcases (hmem q).mp hq with h | h
        · exact off q h
        · have ha : q.1 ∈ adr R := List.mem_map_of_mem (f := Prod.fst) h
          refine ⟨fun e => hno _ (List.Mem.head _) (e ▸ ha), fun e => hno _ (List.Mem.tail _ (List.Mem.head _)) (e ▸ ha), fun e => hno _ (List.Mem.tail _ (List.Mem.tail _ (List.Mem.head _))) (e ▸ ha)⟩
    case fin2 =>
      rintro lo zs news' h tk ⟨rs, rfl, hrl, rfl, hnd, hoffD, hall⟩ F3 N3 off3
      clear F2 N2
      dsimp only
      walk_at "go"
      refine Stop.go ?_
      have hsep := sep09 off3 hnd hoffD (off2 _ (List.Mem.head _))
      have hf0 : Facts09 lo lr (0 + 0) (rs, (refs rs).length) := ⟨hsep.1, hrl, hall⟩
      have N4 : News s₁.heap s₁.heap.objs.size h ((D0, W.listOf ws.toArray 0) :: Led09 wd.params lo lr (lst ys) (rs, (refs rs).length)) := fun q hq => N3 q (by
        unfold Led09 at hq
        simp only [List.mem_cons, List.mem_append, List.not_mem_nil, or_false] at hq ⊢
        rcases hq with h | h | h | h
        · exact .inr (.inr (.inr h))
        · exact .inl h
        · exact .inr (.inr (.inl h))
        · exact .inr (.inl h))
      clear N3
      refine For_of F3 rfl rfl ?_
      walk_at "go"
      refine Stop.go ?_
      rename IsRange _ _ _ _ _ _ _ _ => R5
      (rename Fr _ _ _ _ => F5); (rename News _ _ _ _ => N5)
      refine iter_rangeG (n := 4) (J09 wd.params lo lr (lst ys) D0 (W.listOf ws.toArray 0) 0 [Str.ofString "k"] _) rfl R5 rfl (by decide) (by decide) (by decide) F5 N5 ⟨(rs, (refs rs).length), rfl, hf0, hsep.2, fun _ _ => rfl⟩ ?turn3 ?done3
      case turn3 =>
        rintro i t m₁ news₁ h tk own hi hoff ⟨⟨rs, n0⟩, rfl, hf, hD, hm⟩ F6 N6
        clear F5 N5
        rw [mapS hm, Int.zero_add] at F6
        replace hoff : OwnOff own (D0 :: (Led09 wd.params lo lr (lst ys) (rs, n0)).map (·.1)) := hoff
        rw [led_adr] at hoff
        obtain ⟨ra, R, rb, rfl, hra⟩ := split4 (show i < rs.length by rw [hf.2.1]; exact hi)
        obtain ⟨rest, hrest, N7, hoffr, hndr⟩ := pick09 hf (own_off hoff hD) (reorder N6)
        clear N6
        have hok := hf.2.2 R (by simp)
        obtain ⟨v, hgy⟩ : ∃ v, ys[i]? = some v := ⟨_, List.getElem?_eq_getElem (by rw [hyl]; omega)⟩
        obtain ⟨va, rfl⟩ := hyr v (List.mem_of_getElem? hgy)
        have hgo := refs_at (R := R) (rb := rb) hra
        obtain ⟨los, hlos⟩ : ∃ x, x = refs (ra ++ R :: rb) := ⟨_, rfl⟩
        rw [← hlos] at N7 hgo
        have hz1 : Fits R.us.toArray.size := by show _ ≤ sizeLine; rw [List.size_toArray, sizeLine_eq]; have := hok.nu; omega
        have hz2 : Fits R.ls.toArray.size := by show _ ≤ sizeLine; rw [List.size_toArray, sizeLine_eq]; have := hok.nl; omega
        obtain ⟨r, d, u, l, us, ls, dv, rv, k1, k2, k3, k4, cu, cl⟩ := R
        have hndr' := hndr
        simp only [adr, List.nodup_cons, List.mem_cons, List.not_mem_nil, not_or, or_false, not_false_eq_true, List.nodup_nil, and_true] at hndr
        obtain ⟨⟨a1, a2, a3, a4, a5⟩, ⟨b1, b2, b3, b4⟩, ⟨c1, c2, c3⟩, ⟨e1, e2⟩, g1⟩ := hndr
        dsimp only [recLed, recDict, List.cons_append, List.nil_append] at N7 hgo hz1 hz2 a1 a2 a3 a4 a5 b1 b2 b3 b4 c1 c2 c3 e1 e2 g1
        dsimp only [adr] at hoffr
        walk_at "go"
        refine Stop.go ?_
        with_reducible rename Fr _ _ _ _ => F8
        with_reducible rename News _ _ _ _ => N8
        rw [List.push_toArray, List.push_toArray] at N8
        refine end09' ⟨r, d, u, l, us ++ [.str (Str.ofString "fig") _], ls ++ [.ref va], dv, rv, k1, k2, k3, k4, cu + 1, cl + 1⟩ F8 N8 hf hoff hD hrest hndr' (OwnOff.tl2 hoffr) (hok.both (by with_unfolding_all rfl)) (Nat.le_succ _) (hlos.trans (refs_same rfl)) (fun q hq => hq) (fun y hy => ?_)
        have hy1 := off_str hy (List.Mem.head _)
        dsimp only
        rw [if_neg hy1, hy]
        rfl
      case done3 =>
        rintro m₁ news₁ h tk ⟨⟨rs, n0⟩, rfl, hf, hD, hm⟩ F6 N6
        clear F5 N5
        rw [mapS hm] at F6
        replace N6 := reorder (own := []) (by rw [List.append_nil]; exact N6)
        obtain ⟨ra, R, rb, rfl, hra⟩ := split4 (k := 0) (show 0 < rs.length by rw [hf.2.1]; decide)
        obtain ⟨rest, hrest, N7, hoffr, hndr⟩ := pick09 hf (own_off ownOff_nil hD) N6
        clear N6
        have hok := hf.2.2 R (by simp)
        have hgo := refs_at (R := R) (rb := rb) hra
        obtain ⟨los, hlos⟩ : ∃ x, x = refs (ra ++ R :: rb) := ⟨_, rfl⟩
        rw [← hlos] at N7 hgo
        obtain ⟨r, d, u, l, us, ls, dv, rv, k1, k2, k3, k4, cu, cl⟩ := R
        have hndr' := hndr
        simp only [adr, List.nodup_cons, List.mem_cons, List.not_mem_nil, not_or, or_false, not_false_eq_true, List.nodup_nil, and_true] at hndr
        obtain ⟨⟨a1, a2, a3, a4, a5⟩, ⟨b1, b2, b3, b4⟩, ⟨c1, c2, c3⟩, ⟨e1, e2⟩, g1⟩ := hndr
        dsimp only [recLed, recDict, List.cons_append, List.nil_append] at N7 hgo a1 a2 a3 a4 a5 b1 b2 b3 b4 c1 c2 c3 e1 e2 g1
        dsimp only [adr] at hoffr
        walk_at "go"
        refine Stop.go ?_
        with_reducible rename News _ _ _ _ => N8
        refine itemL (k := 0) N8 (List.Mem.head _) hgo (by decide) ?_
        walk_at "go"
        refine Stop.go ?_
        with_reducible rename News _ _ _ _ => N9
        obtain ⟨rs, hf2, hoff2, N10⟩ := next09 ⟨r, d, u, l, us, ls, .int 5 _, rv, k1, k2, k3, k4, cu, cl⟩ N9 hf (own_off ownOff_nil hD) hrest hndr' (OwnOff.tl2 hoffr) (hok.setD (.inr ⟨_, _, rfl⟩)) (Nat.le_refl _) (hlos.trans (refs_same rfl)) (fun q hq => hq)
        clear N9 hoffr hndr' hrest hgo hok hf a1 a2 a3 a4 a5 b1 b2 b3 b4 c1 c2 c3 e1 e2 g1
        obtain ⟨ra, R, rb, rfl, hra⟩ := split4 (k := 2) (show 2 < rs.length by rw [hf2.2.1]; decide)
        obtain ⟨rest, hrest, N7, hoffr, hndr⟩ := pick09 hf2 hoff2 N10
        clear N10
        have hok := hf2.2.2 R (by simp)
        have hgo := refs_at (R := R) (rb := rb) hra
        obtain ⟨los, hlos⟩ : ∃ x, x = refs (ra ++ R :: rb) := ⟨_, rfl⟩
        rw [← hlos] at N7 hgo
        obtain ⟨r, d, u, l, us, ls, dv, rv, k1, k2, k3, k4, cu, cl⟩ := R
        have hndr' := hndr
        simp only [adr, List.nodup_cons, List.mem_cons, List.not_mem_nil, not_or, or_false, not_false_eq_true, List.nodup_nil, and_true] at hndr
        obtain ⟨⟨a1, a2, a3, a4, a5⟩, ⟨b1, b2, b3, b4⟩, ⟨c1, c2, c3⟩, ⟨e1, e2⟩, g1⟩ := hndr
        dsimp only [recLed, recDict, List.cons_append, List.nil_append] at N7 hgo a1 a2 a3 a4 a5 b1 b2 b3 b4 c1 c2 c3 e1 e2 g1
        dsimp only [adr] at hoffr
        refine itemL (k := 2) N7 (List.Mem.head _) hgo (by decide) ?_
        walk_at "go"
        refine Stop.go ?_
        with_reducible rename News _ _ _ _ => N9
        obtain ⟨rs, hf3, hoff3, N10⟩ := next09 ⟨r, d, u, l, us, ls, dv, .int 7 _, k1, k2, k3, k4, cu, cl⟩ N9 hf2 hoff2 hrest hndr' (OwnOff.tl2 hoffr) (hok.setR (.inr ⟨_, _, rfl⟩)) (Nat.le_refl _) (hlos.trans (refs_same rfl)) (fun q hq => hq)
        clear N9 hoffr hndr' hrest hgo hok hf2 a1 a2 a3 a4 a5 b1 b2 b3 b4 c1 c2 c3 e1 e2 g1
        replace N10 := back09 N10
        with_reducible rename Fr _ _ _ _ => F7
        refine For_of F7 rfl rfl ?_
        walk_at "go"
        refine Stop.go ?_
        (with_reducible rename Fr _ _ _ _ => F5); (with_reducible rename News _ _ _ _ => N5)
        refine iter_anyGL (l := D0) (vs := ws) (nn := 0) (J09 wd.params lo lr (lst ys) D0 (W.listOf ws.toArray 0) 4 [Str.ofString "x", Str.ofString "one", Str.ofString "step", Str.ofString "rest"] _) rfl (List.Mem.head _) F5 N5 ⟨(rs, _), rfl, hf3, fun a ha e => hoff3 _ (List.Mem.head _) a ha e.symm, fun _ _ => rfl⟩ ?turn4 ?done4
        case turn4 =>
          rintro i v m₁ news₁ h tk own hgi hoff hl1 ⟨⟨rs, n0⟩, rfl, hf, hD, hm⟩ F6 N6
          clear F5 N5 hl1
          obtain ⟨z, tz, rfl⟩ := ints_at hI1 hgi
          have hi : i < 63 := by
            have := (List.getElem?_eq_some_iff.mp hgi).1
            omega
          clear hgi
          rw [mapS hm] at F6
          replace hoff : OwnOff own (D0 :: (Led09 wd.params lo lr (lst ys) (rs, n0)).map (·.1)) := hoff
          rw [led_adr] at hoff
          obtain ⟨k, hk, hk4⟩ := fmod_nat z 4 (by decide)
          obtain ⟨ra, R, rb, rfl, hra⟩ := split4 (show k < rs.length by rw [hf.2.1]; exact hk4)
          obtain ⟨rest, hrest, N7, hoffr, hndr⟩ := pick09 hf (own_off hoff hD) (reorder N6)
          clear N6
          have hok := hf.2.2 R (by simp)
          have hgo := refs_at (R := R) (rb := rb) hra
          obtain ⟨los, hlos⟩ : ∃ x, x = refs (ra ++ R :: rb) := ⟨_, rfl⟩
          rw [← hlos] at N7 hgo
          have hz1 : Fits R.us.toArray.size := by show _ ≤ sizeLine; rw [List.size_toArray, sizeLine_eq]; have := hok.nu; omega
          have hz2 : Fits R.ls.toArray.size := by show _ ≤ sizeLine; rw [List.size_toArray, sizeLine_eq]; have := hok.nl; omega
          obtain ⟨r, d, u, l, us, ls, dv, rv, k1, k2, k3, k4, cu, cl⟩ := R
          have hndr' := hndr
          simp only [adr, List.nodup_cons, List.mem_cons, List.not_mem_nil, not_or, or_false, not_false_eq_true, List.nodup_nil, and_true] at hndr
          obtain ⟨⟨a1, a2, a3, a4, a5⟩, ⟨b1, b2, b3, b4⟩, ⟨c1, c2, c3⟩, ⟨e1, e2⟩, g1⟩ := hndr
          dsimp only [recLed, recDict, List.cons_append, List.nil_append] at N7 hgo hz1 hz2 a1 a2 a3 a4 a5 b1 b2 b3 b4 c1 c2 c3 e1 e2 g1
          dsimp only [adr] at hoffr
          obtain ⟨q5, hq5, hq5l⟩ := fmod_nat (Int.fdiv z 4) 5 (by decide)
          have hst : q5 = 0 ∨ q5 = 1 ∨ q5 = 2 ∨ q5 = 3 ∨ q5 = 4 := by omega
          replace hk : ModIs z 4 (k : Int) := ⟨hk⟩
          replace hq5 : ModIs (Int.fdiv z 4) 5 (q5 : Int) := ⟨hq5⟩
          rcases hst with rfl | rfl | rfl | rfl | rfl
          · walk_at "go"
            refine Stop.go ?_
            with_reducible refine modB (by decide) ?_
            intro z5 _ _ hz0 hz5
            with_reducible rename News _ _ _ _ => N8
            refine itemM N8 (List.Mem.head _) hz0 hz5 (Nat.le_of_ble_eq_true rfl) (fun v hv => ?_)
            obtain ⟨x, t, rfl, hx⟩ : OkStr v := okStr_cons (by with_unfolding_all rfl) (okStr_cons (by with_unfolding_all rfl) (okStr_cons (by with_unfolding_all rfl) (okStr_cons (by with_unfolding_all rfl) (okStr_cons (by with_unfolding_all rfl) (fun _ => okStr_nil))))) v hv
            clear hv
            walk_at "go"
            refine Stop.go ?_
            (with_reducible rename Fr _ _ _ _ => F9); (with_reducible rename News _ _ _ _ => N9)
            rw [List.push_toArray] at N9
            refine InvEndG.mono (end09' ⟨r, d, u, l, us ++ [.str x t], ls, dv, rv, k1, k2, k3, k4, cu + 1, cl⟩ F9 N9 hf hoff hD hrest hndr' (OwnOff.tl2 hoffr) (hok.addU hx) (by omega) (hlos.trans (refs_same rfl)) (fun q hq => List.Mem.tail _ hq) (fun y hy => ?_)) (fun _ _ h => ⟨h.led, h⟩)
            have y1 := off_str hy (List.Mem.head _)
            have y2 := off_str hy (List.Mem.tail _ (List.Mem.head _))
            have y3 := off_str hy (List.Mem.tail _ (List.Mem.tail _ (List.Mem.head _)))
            have y4 := off_str hy (List.Mem.tail _ (List.Mem.tail _ (List.Mem.tail _ (List.Mem.head _))))
            dsimp only
            rw [if_neg y4, if_neg y3, if_neg y2, if_neg y1, hy]
            rfl
          · walk_at "go"
            refine Stop.go ?_
            with_reducible refine modB (by decide) ?_
            intro z5 _ _ hz0 hz5
            with_reducible rename News _ _ _ _ => N8
            refine itemM N8 (List.Mem.tail _ (List.Mem.head _)) hz0 (by rw [hyl]; exact hz5) (by rw [hyl]; decide) (fun v hv => ?_)
            obtain ⟨va, rfl⟩ := hyr v hv
            clear hv
            walk_at "go"
            refine Stop.go ?_
            (with_reducible rename Fr _ _ _ _ => F9); (with_reducible rename News _ _ _ _ => N9)
            rw [List.push_toArray] at N9
            refine InvEndG.mono (end09' ⟨r, d, u, l, us, ls ++ [.ref va], dv, rv, k1, k2, k3, k4, cu, cl + 1⟩ F9 N9 hf hoff hD hrest hndr' (OwnOff.tl2 hoffr) hok.addL (by omega) (hlos.trans (refs_same rfl)) (fun q hq => hq) (fun y hy => ?_)) (fun _ _ h => ⟨h.led, h⟩)
            have y1 := off_str hy (List.Mem.head _)
            have y2 := off_str hy (List.Mem.tail _ (List.Mem.head _))
            have y3 := off_str hy (List.Mem.tail _ (List.Mem.tail _ (List.Mem.head _)))
            have y4 := off_str hy (List.Mem.tail _ (List.Mem.tail _ (List.Mem.tail _ (List.Mem.head _))))
            dsimp only
            rw [if_neg y4, if_neg y3, if_neg y2, if_neg y1, hy]
            rfl
          · walk_at "go"
            refine Stop.go ?_
            with_reducible refine modB (by decide) ?_
            intro z5 _ _ hz0 hz5
            with_reducible rename News _ _ _ _ => N8
            refine itemM N8 (List.Mem.head _) hz0 hz5 (Nat.le_of_ble_eq_true rfl) (fun v hv => ?_)
            have hv' : IsOpt v := isOpt_int (isOpt_int (isOpt_none (fun _ => isOpt_nil))) v hv
            clear hv
            walk_at "go"
            refine Stop.go ?_
            (with_reducible rename Fr _ _ _ _ => F9); (with_reducible rename News _ _ _ _ => N9)
            refine InvEndG.mono (end09' ⟨r, d, u, l, us, ls, v, rv, k1, k2, k3, k4, cu, cl⟩ F9 N9 hf hoff hD hrest hndr' (OwnOff.tl2 hoffr) ((hok.setD hv').mono (Nat.le_succ _)) (by omega) (hlos.trans (refs_same rfl)) (fun q hq => List.Mem.tail _ hq) (fun y hy => ?_)) (fun _ _ h => ⟨h.led, h⟩)
            have y1 := off_str hy (List.Mem.head _)
            have y2 := off_str hy (List.Mem.tail _ (List.Mem.head _))
            have y3 := off_str hy (List.Mem.tail _ (List.Mem.tail _ (List.Mem.head _)))
            have y4 := off_str hy (List.Mem.tail _ (List.Mem.tail _ (List.Mem.tail _ (List.Mem.head _))))
            dsimp only
            rw [if_neg y4, if_neg y3, if_neg y2, if_neg y1, hy]
            rfl
          · walk_at "go"
            refine Stop.go ?_
            with_reducible refine modB (by decide) ?_
            intro z5 _ _ hz0 hz5
            with_reducible rename News _ _ _ _ => N8
            refine itemM N8 (List.Mem.head _) hz0 hz5 (Nat.le_of_ble_eq_true rfl) (fun v hv => ?_)
            have hv' : IsOpt v := isOpt_int (isOpt_int (isOpt_none (fun _ => isOpt_nil))) v hv
            clear hv
            walk_at "go"
            refine Stop.go ?_
            (with_reducible rename Fr _ _ _ _ => F9); (with_reducible rename News _ _ _ _ => N9)
            refine InvEndG.mono (end09' ⟨r, d, u, l, us, ls, dv, v, k1, k2, k3, k4, cu, cl⟩ F9 N9 hf hoff hD hrest hndr' (OwnOff.tl2 hoffr) ((hok.setR hv').mono (Nat.le_succ _)) (by omega) (hlos.trans (refs_same rfl)) (fun q hq => List.Mem.tail _ hq) (fun y hy => ?_)) (fun _ _ h => ⟨h.led, h⟩)
            have y1 := off_str hy (List.Mem.head _)
            have y2 := off_str hy (List.Mem.tail _ (List.Mem.head _))
            have y3 := off_str hy (List.Mem.tail _ (List.Mem.tail _ (List.Mem.head _)))
            have y4 := off_str hy (List.Mem.tail _ (List.Mem.tail _ (List.Mem.tail _ (List.Mem.head _))))
            dsimp only
            rw [if_neg y4, if_neg y3, if_neg y2, if_neg y1, hy]
            rfl
          · walk_at "go"
            refine Stop.go ?_
            (with_reducible rename Fr _ _ _ _ => F8); (with_reducible rename News _ _ _ _ => N8)
            refine ct_new (Frag.In.keeps KX F8.keep) (Top.keeps T F8.keep) (by (simp only [depth_deeper, depth_caller]; decide)) rfl (fun h4 tk4 R e4 x4 q1 q2 q3 q4 hnew hap => ?_)
            obtain ⟨N11, hnd2, hor2, hoff2⟩ := fresh09 (R := ⟨r, d, u, l, us, ls, dv, rv, k1, k2, k3, k4, cu, cl⟩) F8 N8 e4 hoffr a1 x4 hnew hap
            have F11 := F8.keeps e4
            clear F8 N8 e4 x4 hnew
            dsimp only
            walk_at "go"
            refine Stop.go ?_
            (with_reducible rename Fr _ _ _ _ => F12); (with_reducible rename News _ _ _ _ => N12)
            have hll : los.length = 4 := by rw [hlos]; simpa [refs] using hf.2.1
            refine set_led (D := lo) F12 N12 hoff2 (Int.natCast_nonneg _) (by rw [hll]; exact Int.ofNat_lt.mpr hk4) (by omega) (fun h5 F13 N13 => ?_)
            clear F12 N12
            dsimp only
            walk_at "go"
            refine Stop.go ?_
            refine InvEndG.mono (end09' R F13 N13 hf hoff hD hrest hnd2 hor2 ((recOk0 q1 q2 q3 q4).mono (Nat.zero_le _)) (by omega) (by rw [hlos, Int.toNat_natCast, refs_set hra]) (fun q hq => hq) (fun y hy => ?_)) (fun _ _ h => ⟨h.led, h⟩)
            have y1 := off_str hy (List.Mem.head _)
            have y2 := off_str hy (List.Mem.tail _ (List.Mem.head _))
            have y3 := off_str hy (List.Mem.tail _ (List.Mem.tail _ (List.Mem.head _)))
            have y4 := off_str hy (List.Mem.tail _ (List.Mem.tail _ (List.Mem.tail _ (List.Mem.head _))))
            dsimp only
            rw [if_neg y4, if_neg y3, if_neg y2, if_neg y1, hy]
            rfl
        case done4 =>
          rintro m₁ news₁ h tk - ⟨⟨rs, n0⟩, rfl, hf, hD, hm⟩ F6 N6
          clear F5 N5
          rw [mapS hm] at F6
          replace hf : Facts09 lo lr 67 (rs, n0) := ⟨hf.1, hf.2.1, fun R hR => (hf.2.2 R hR).mono (by omega)⟩
          have hoks : ∀ (i : Nat) (R : RecD), rs[i]? = some R → RecOk 67 R := fun i R hR => hf.2.2 R (List.mem_of_getElem? hR)
          have hrl : rs.length = 4 := hf.2.1
          have hrl' : (refs rs).length = 4 := by unfold refs; rw [List.length_map]; exact hrl
          walk_at "go"
          refine Stop.go ?_
          refine compGA (ax := lo) (vs := refs rs) (JC rs ((D0, W.listOf ws.toArray 0) :: Led09 wd.params lo lr (lst ys) (rs, n0))) rfl F6 rfl (by rw [hrl']; decide) (by with_unfolding_all rfl) (by with_unfolding_all rfl) (by decide) rfl (by decide) rfl rfl rfl ?iter5 ⟨[], rfl, rfl, (fun _ _ _ _ h => nomatch h), (fun _ h => h), (fun _ h => nomatch h)⟩ ?turn5 ?fin5
          case iter5 =>
            obtain ⟨X6, hX6⟩ : ∃ X, X = (D0, W.listOf ws.toArray 0) :: Led09 wd.params lo lr (lst ys) (rs, n0) := ⟨_, rfl⟩
            have hlo : (lo, W.listOf (refs rs).toArray n0) ∈ X6 := by rw [hX6]; exact List.Mem.tail _ (List.Mem.head _)
            rw [← hX6] at N6 ⊢
            walk_at "go"
            refine Stop.go ?_
            (with_reducible rename Fr _ _ _ _ => F9); (with_reducible rename News _ _ _ _ => N9)
            exact ⟨rfl, ⟨_, _, rfl, F9, N9⟩, .inr ⟨_, hlo, rfl, _, rfl⟩⟩
          case turn5 =>
            rintro i v ys2 news₁ I oI C oC D m₂ h tk E' hi hv hj hS hC hm5 F2 N2 off ne
            obtain ⟨R, hR, rfl⟩ := refs_get hv
            clear F6 N6
            walk_at "go"
            refine Stop.go ?_
            have hok := hoks i R hR
            obtain ⟨hjB, hj1, hj2, hj3, hj4, hj5⟩ := id hj
            refine ct_parts (Frag.In.keeps KX F2.keep) (Top.keeps T F2.keep) (by (simp only [depth_deeper, depth_caller]; decide)) rfl (recLed_at N2 (fun q hq => List.Mem.tail _ (List.Mem.tail _ (List.Mem.tail _ (hj4 q (led_rec hR q hq)))))) (Nat.le_trans hok.nu (by decide)) (Nat.le_trans hok.nl (by decide)) (isOpt_handed hok.dv) (isOpt_handed hok.rv) (fun h3 tk3 B e3 x3 q1 q2 q3 q4 hnew => ?_)
            obtain ⟨N3, off3⟩ := grown (m := m₁) N2 e3 (book_led F2 x3 hnew) (book_fresh hnew) off
            dsimp only
            walk_at "go"
            refine Stop.go ?_
            exact ⟨_, _, _, rfl, F2.keeps e3, N3, off3, srcAt_mono hS (fun q hq => List.mem_append.mpr (.inr hq)), hj.grow hR ⟨q1, q2, q3, q4⟩⟩
          case fin5 =>
            rintro lb ys2 news' h tk ⟨Bs, rfl, hBl, hSame, hled, hbk⟩ F7 N7 off7
            rw [hrl'] at hBl
            clear F6 N6
            dsimp only
            obtain ⟨X7, hX7⟩ : ∃ X, X = (lb, lst (Bs.map fun B => Value.ref B.b)) :: news' := ⟨_, rfl⟩
            have hled7 : ∀ q ∈ (D0, W.listOf ws.toArray 0) :: Led09 wd.params lo lr (lst ys) (rs, n0), q ∈ X7 := fun q hq => by rw [hX7]; exact List.mem_cons_of_mem _ (hled q hq)
            have hbk7 : ∀ B ∈ Bs, ∀ q ∈ bookLed B, q ∈ X7 := fun B hB q hq => by rw [hX7]; exact List.mem_cons_of_mem _ (hbk B hB q hq)
            have hlb7 : (lb, lst (Bs.map fun B => Value.ref B.b)) ∈ X7 := by rw [hX7]; exact List.Mem.head _
            have hlo7 : (lo, W.listOf (refs rs).toArray n0) ∈ X7 := hled7 _ (List.Mem.tail _ (List.Mem.head _))
            rw [← hX7] at N7
            clear hX7 hled hbk off7
            walk_at "go"
            refine Stop.go ?_
            refine compGA (ax := lo) (vs := refs rs) (JTab wd.params Bs X7) rfl F7 rfl (by rw [hrl']; decide) (by with_unfolding_all rfl) (by with_unfolding_all rfl) (by decide) rfl (by decide) rfl rfl rfl ?iter6 JTab.zero ?turn6 ?fin6
            case iter6 =>
              walk_at "go"
              refine Stop.go ?_
              (with_reducible rename Fr _ _ _ _ => F9); (with_reducible rename News _ _ _ _ => N9)
              exact ⟨rfl, ⟨_, _, rfl, F9, N9⟩, .inr ⟨_, hlo7, rfl, _, rfl⟩⟩
            case turn6 =>
              rintro i v ys2 news₁ I oI C oC D m₂ h tk E' hi hv hj hS hC hm5 F2 N2 off ne
              obtain ⟨R, hR, rfl⟩ := refs_get hv
              clear F7 N7
              walk_at "go"
              refine Stop.go ?_
              (with_reducible rename Fr _ _ _ _ => F9); (with_reducible rename News _ _ _ _ => N9)
              with_reducible rename _ < _ ∧ _ < _ ∧ _ < _ ∧ _ < _ ∧ AllLt _ _ => l1b
              with_reducible rename _ < _ ∧ _ < _ ∧ _ < _ ∧ AllLt _ _ => l1a
              obtain ⟨B, hB⟩ : ∃ B, Bs[i]? = some B := ⟨_, List.getElem?_eq_getElem (by rw [hrl'] at hi; omega)⟩
              obtain ⟨news', hJ, hmem⟩ := hj.grow (rs := rs) hB (hSame i R B hR hB) (fun q hq => hled7 q (led_rec hR q hq)) (allLt_ne' l1a.2.2.2) (allLt_ne' l1b.2.2.2.2) (Nat.ne_of_lt l1b.1)
              refine ⟨_, _, news', rfl, F9, fun q hq => ?_, fun q hq => ?_, srcAt_mono hS (fun q hq => (hmem q).mpr (.inr (.inr hq))), hJ⟩
              · simp only [List.mem_cons] at hq
                rcases hq with h | h | h | h
                · exact N9 q (by simp [h])
                · exact N9 q (by simp [h])
                · exact N9 q (by simp [h])
                · rcases (hmem q).mp h with h | h | h
                  · exact N9 q (by simp [h])
                  · exact N9 q (by simp [h])
                  · exact N9 q (by simp [h])
              · rcases (hmem q).mp hq with h | h | h
                · rw [h]; exact ⟨Nat.ne_of_gt l1b.2.1, Nat.ne_of_gt l1b.2.2.1, Nat.ne_of_gt l1b.2.2.2.1⟩
                · rw [h]; exact ⟨Nat.ne_of_gt l1a.1, Nat.ne_of_gt l1a.2.1, Nat.ne_of_gt l1a.2.2.1⟩
                · exact off q h
            case fin6 =>
              rintro tb ys3 news'' h tk ⟨c, rest, rfl, rfl, hcl, ho, hled3, hrow⟩ F8 N8 off8
              rw [hrl'] at hcl
              clear F7 N7
              dsimp only
              have ho2 : Off (c.map tl) ((tb, lst (c.map fun X => Value.ref X.1)) :: rest) [] := (ho.push off8).pop
              obtain ⟨rest0, hr0⟩ : ∃ X, X = (tb, lst (c.map fun X => Value.ref X.1)) :: rest := ⟨_, rfl⟩
              have hsub0 : ∀ q ∈ rest, q ∈ rest0 := fun q hq => by rw [hr0]; exact List.mem_cons_of_mem _ hq
              have htb0 : (tb, lst (c.map fun X => Value.ref X.1)) ∈ rest0 := by rw [hr0]; exact List.Mem.head _
              have hX70 : ∀ q ∈ X7, q ∈ rest0 := fun q hq => hsub0 q (hled3 q hq)
              have hR0 := rowsOk_first hcl hrow hsub0
              rw [← hr0] at ho2
              obtain ⟨X8, hX8⟩ : ∃ X, X = c.map tl ++ (rest0 ++ []) := ⟨_, rfl⟩
              have N9 : News s₁.heap s₁.heap.objs.size h X8 := fun q hq => N8 q (by
                rw [hX8, hr0] at hq
                simp only [List.mem_append, List.mem_cons, List.not_mem_nil, or_false] at hq ⊢
                rcases hq with h | h | h
                · exact .inr (.inl h)
                · exact .inl h
                · exact .inr (.inr h))
              clear N8 off8 hrow hled3 ho hsub0 hr0
              walk_at "go"
              refine Stop.go ?_
              with_reducible rename Fr _ _ _ _ => F9
              refine For_of F9 rfl rfl ?_
              walk_at "go"
              refine Stop.go ?_
              rename IsRange _ _ _ _ _ _ _ _ => R5
              (with_reducible rename Fr _ _ _ _ => F5); (with_reducible rename News _ _ _ _ => N5)
              refine iter_rangeG (n := 3) (JTO wd.params Bs (c.map (·.1)) rest0 [] [Str.ofString "size", Str.ofString "start", Str.ofString "row", Str.ofString "due", Str.ofString "cut", Str.ofString "left", Str.ofString "right", Str.ofString "one"] _) rfl R5 rfl (by decide) (by decide) (by decide) F5 N5 ⟨c, rest0, hX8, ho2, (fun _ h => h), rfl, hR0, fun _ _ => rfl⟩ ?turn7 ?done7
              case turn7 =>
                rintro i t m₁ news₁ h tk own hi hoff ⟨c2, rest2, rfl, ho3, hb3, hts, hR3, hm⟩ F6 N6
                clear F5 N5
                refine gen_turn (fun Q97 => ?_)
                rw [mapS hm] at F6
                obtain ⟨X9, hX9⟩ : ∃ X, X = c2.map tl ++ (rest2 ++ (own ++ [])) := ⟨_, rfl⟩
                have N7 : News s₁.heap s₁.heap.objs.size h X9 := fun q hq => N6 q (by
                  rw [hX9] at hq
                  simp only [List.mem_append, List.not_mem_nil, or_false] at hq ⊢
                  rcases hq with h | h | h
                  · exact .inl (.inl h)
                  · exact .inl (.inr h)
                  · exact .inr h)
                have ho4 := ho3.own hoff
                clear N6
                have hSl : StopSlice := ⟨trivial⟩
                have hbkok : ∀ B ∈ Bs, BkOk B := fun B hB => by
                  obtain ⟨k, hk⟩ := List.mem_iff_getElem?.mp hB
                  have hk4 := (List.getElem?_eq_some_iff.mp hk).1
                  obtain ⟨R, hR⟩ : ∃ R, rs[k]? = some R := ⟨_, List.getElem?_eq_getElem (by omega)⟩
                  exact (hSame k R B hR hk).bk (hoks k R hR)
                have hoff0 : OwnOff own ([] : List Addr) := fun _ _ _ h => nomatch h
                walk_at "go"
                refine Stop.go ?_
                with_reducible rename Fr _ _ _ _ => F9
                refine For_of F9 rfl rfl ?_
                walk_at "go"
                refine Stop.go ?_
                rename IsRange _ _ _ _ _ _ _ _ => R5
                (with_reducible rename Fr _ _ _ _ => F5); (with_reducible rename News _ _ _ _ => N5)
                refine iter_rangeG (n := 3 - i) (JT wd.params Bs (c.map (·.1)) rest0 (own ++ []) [Str.ofString "start", Str.ofString "row", Str.ofString "due", Str.ofString "cut", Str.ofString "left", Str.ofString "right", Str.ofString "one"] _ (1 + i)) rfl R5 (by omega) (by decide) (by decide) (by omega) F5 N5 ⟨c2, rest2, hX9, ho4, hb3, hts, hR3, fun _ _ => rfl⟩ ?turn8 ?done8
                case turn8 =>
                  rintro j tj m₂ news₂ h tk own2 hj hoff2 ⟨c3, rest3, rfl, ho5, hb5, hts5, hR5, hm5⟩ F6 N6
                  clear F5 N5
                  refine gen_turn (fun Q98 => ?_)
                  rw [mapS hm5, Int.zero_add] at F6
                  obtain ⟨X10, hX10⟩ : ∃ X, X = c3.map tl ++ (rest3 ++ (own2 ++ (own ++ []))) := ⟨_, rfl⟩
                  have N7 : News s₁.heap s₁.heap.objs.size h X10 := fun q hq => N6 q (by
                    rw [hX10] at hq
                    simp only [List.mem_append, List.not_mem_nil, or_false] at hq ⊢
                    rcases hq with h | h | h | h
                    · exact .inl (.inl h)
                    · exact .inl (.inr (.inl h))
                    · exact .inr h
                    · exact .inl (.inr (.inr h)))
                  have ho6 := ho5.own hoff2
                  clear N6
                  have hin10 : ∀ q ∈ rest0, q ∈ X10 := fun q hq => by rw [hX10]; exact List.mem_append.mpr (.inr (List.mem_append.mpr (.inl (hb5 q hq))))
                  have hlb10 := hin10 _ (hX70 _ hlb7)
                  walk_at "go"
                  refine Stop.go ?_
                  (with_reducible rename Fr _ _ _ _ => F9); (with_reducible rename News _ _ _ _ => N9)
                  rename_i rw9 _ _ _ hlt _
                  have hji : j + (1 + i) < 4 := by omega
                  have hlen9 : (Bs.map fun B => Value.ref B.b).length = 4 := by rw [List.length_map]; exact hBl
                  refine kmk_slice_lit (s := ⟨_, _, _, _, _⟩) F9 N9 (News.isList N9 (List.mem_cons_of_mem _ hlb10)) (.int _ _) (.int _ _) (pick_slice _ _ _) (fun D1 h6 F10 N10 hlt6 => ?_) (by with_unfolding_all rfl) (by intro _; with_unfolding_all rfl) (by rw [List.size_toArray, hlen9, sizeLine_eq]; decide)
                  rw [slice2 (a := j) (b := j + (1 + i) + 1) _ rfl (by omega) (by omega) (by rw [hlen9]; omega), show j + (1 + i) + 1 - j = 1 + i + 1 by omega, ← List.map_drop, ← List.map_take] at N10
                  clear F9 N9
                  obtain ⟨B0, bs, hst⟩ : ∃ B0 bs, (Bs.drop j).take (1 + i + 1) = B0 :: bs := by
                    cases hc : (Bs.drop j).take (1 + i + 1) with
                    | nil =>
                      have : ((Bs.drop j).take (1 + i + 1)).length = 0 := by rw [hc]; rfl
                      rw [List.length_take, List.length_drop, hBl] at this
                      omega
                    | cons B0 bs => exact ⟨B0, bs, rfl⟩
                  have hstm : ∀ B ∈ B0 :: bs, B ∈ Bs := fun B hB => stretch_mem (by rw [hst]; exact hB)
                  have hstl : (B0 :: bs).length ≤ 4 := by rw [← hst, List.length_take, List.length_drop]; omega
                  rw [hst, List.map_cons] at N10
                  have hbk10 : ∀ B ∈ Bs, ∀ q ∈ bookLed B, q ∈ X10 := fun B hB q hq => hin10 q (hX70 q (hbk7 B hB q hq))
                  dsimp only
                  walk_at "go"
                  refine Stop.go ?_
                  (with_reducible rename Fr _ _ _ _ => F9); (with_reducible rename News _ _ _ _ => N9)
                  refine ct_due (Frag.In.keeps KX F9.keep) (Top.keeps T F9.keep) (by (simp only [depth_deeper, depth_caller]; decide)) rfl (by ke_room) (N9 _ (List.Mem.head _)).1 ((hbkok B0 (hstm B0 (List.mem_cons_self ..))).book (bookLed_at N9 fun q hq => List.Mem.tail _ (List.Mem.tail _ (hbk10 B0 (hstm B0 (List.mem_cons_self ..)) q hq)))) (fun B hB => (hbkok B (hstm B (List.mem_cons_of_mem _ hB))).book (bookLed_at N9 fun q hq => List.Mem.tail _ (List.Mem.tail _ (hbk10 B (hstm B (List.mem_cons_of_mem _ hB)) q hq)))) (by rw [List.length_cons] at hstl; omega) (fun h7 tk7 D e7 x7 d1 d2 d3 d4 hnew => ?_)
                  have hdue : DueIs D ((Bs.drop j).take (1 + i + 1)) := by rw [hst]; exact ⟨d1, d2, d3, d4⟩
                  have ho7 : Off ((rw9, W.listOf ([] : List Value).toArray 0) :: c3.map tl) rest3 (own2 ++ (own ++ [])) := ho6.push (fun q hq => Nat.ne_of_lt (hlt q (by rw [hX10]; exact hq)))
                  have ho8 := ho7.grow (xs := bookLed D) (fun q hq => N9 q (List.Mem.tail _ (by rw [hX10]; exact hq))) (book_fresh hnew)
                  obtain ⟨rest4, hr4⟩ : ∃ X, X = bookLed D ++ rest3 := ⟨_, rfl⟩
                  rw [← hr4] at ho8
                  have h34 : ∀ q ∈ rest3, q ∈ rest4 := fun q hq => by rw [hr4]; exact List.mem_append.mpr (.inr hq)
                  have hD4 : ∀ q ∈ bookLed D, q ∈ rest4 := fun q hq => by rw [hr4]; exact List.mem_append.mpr (.inl hq)
                  obtain ⟨X11, hX11⟩ : ∃ X, X = c3.map tl ++ (rest4 ++ (own2 ++ (own ++ []))) := ⟨_, rfl⟩
                  have N12 : News s₁.heap s₁.heap.objs.size h7 ((rw9, W.listOf ([] : List Value).toArray 0) :: X11) := by
                    have M := book_led F9 x7 hnew
                    have N' := newsExt N9 e7
                    intro q hq
                    rw [hX11, hr4] at hq
                    rw [hX10] at N'
                    simp only [List.mem_cons, List.mem_append] at hq
                    rcases hq with h | h | (h | h) | h
                    · exact N' q (by simp [h])
                    · exact N' q (by simp [h])
                    · exact M q h
                    · exact N' q (by simp [h])
                    · exact N' q (List.Mem.tail _ (List.Mem.tail _ (List.mem_append.mpr (.inr (List.mem_append.mpr (.inr (by simpa using h)))))))
                  have F11 := F9.keeps e7
                  clear N9 F9 hlt e7 x7 hnew
                  dsimp only
                  walk_at "go"
                  refine Stop.go ?_
                  with_reducible rename Fr _ _ _ _ => F9
                  refine For_of F9 rfl rfl ?_
                  walk_at "go"
                  refine Stop.go ?_
                  rename IsRange _ _ _ _ _ _ _ _ => R5
                  (with_reducible rename Fr _ _ _ _ => F5); (with_reducible rename News _ _ _ _ => N5)
                  refine iter_rangeG (n := 1 + i) (JR wd.params ((Bs.drop j).take (1 + i + 1)) (c3.map tl) rest4 (own2 ++ (own ++ [])) rw9 [Str.ofString "cut", Str.ofString "left", Str.ofString "right", Str.ofString "one"] _) rfl R5 (by omega) (by decide) (by decide) (by omega) F5 N5 ⟨[], 0, rest4, by rw [hX11]; rfl, ho8, (fun _ h => h), rfl, (fun _ h => nomatch h), fun _ _ => rfl⟩ ?turn9 ?done9
                  case turn9 =>
                    rintro q tq m₃ news₃ h tk own3 hq hoff3 ⟨vs, e, rest5, rfl, ho9, hb9, hvl, hvs, hm9⟩ F6 N6
                    clear F5 N5
                    refine gen_turn (fun Q99 => ?_)
                    rw [mapS hm9, Int.zero_add] at F6
                    obtain ⟨X12, hX12⟩ : ∃ X, X = c3.map tl ++ (rest5 ++ (own3 ++ (own2 ++ (own ++ [])))) := ⟨_, rfl⟩
                    have N7 : News s₁.heap s₁.heap.objs.size h ((rw9, W.listOf vs.toArray e) :: X12) := fun q hq => N6 q (by
                      rw [hX12] at hq
                      simp only [List.mem_append, List.mem_cons] at hq ⊢
                      rcases hq with h | h | h | h | h
                      · exact .inl (.inl (.inl h))
                      · exact .inl (.inl (.inr h))
                      · exact .inl (.inr (.inl h))
                      · exact .inr h
                      · exact .inl (.inr (.inr h)))
                    have ho10 := ho9.own hoff3
                    clear N6
                    have h512 : ∀ q ∈ rest5, q ∈ X12 := fun q hq => by rw [hX12]; exact List.mem_append.mpr (.inr (List.mem_append.mpr (.inl hq)))
                    have h312 : ∀ q ∈ rest3, q ∈ X12 := fun q hq => h512 q (hb9 q (h34 q hq))
                    have htb12 := h312 _ (hb5 _ htb0)
                    obtain ⟨⟨xl, vl, el⟩, hXL⟩ := col_at (c := c3) (s := j) (by rw [hR5.1]; omega)
                    obtain ⟨⟨xr, vr, er⟩, hXR⟩ := col_at (c := c3) (s := j + q + 1) (by rw [hR5.1]; omega)
                    obtain ⟨v1, hv1, a1, w1, c1, rfl, hm1, hp1, hq1, hall1⟩ := row_at (z := q) hR5 hXL (by unfold cntR; rw [if_neg (Nat.lt_irrefl _)]; omega)
                    obtain ⟨v2, hv2, a2, w2, c2', rfl, hm2, hp2, hq2, hall2⟩ := row_at (z := 1 + i - q - 1) hR5 hXR (by unfold cntR; rw [if_neg (by omega)]; omega)
                    have hfL : (xl, W.listOf vl.toArray el) ∈ X12 := by rw [hX12]; exact List.mem_append.mpr (.inl (tl_mem hXL))
                    have hfR : (xr, W.listOf vr.toArray er) ∈ X12 := by rw [hX12]; exact List.mem_append.mpr (.inl (tl_mem hXR))
                    have hzv : Fits vs.toArray.size := by show _ ≤ sizeLine; rw [List.size_toArray, sizeLine_eq]; omega
                    walk_at "go"
                    refine Stop.go ?_
                    with_reducible rename News _ _ _ _ => N8
                    refine itemZ (i := j) rfl N8 (List.Mem.tail _ htb12) (ref_at hts5 hXL) (by omega) ?_
                    dsimp only
                    walk_at "go"
                    refine Stop.go ?_
                    with_reducible rename News _ _ _ _ => N8
                    refine itemZ (i := q) rfl N8 (List.Mem.tail _ hfL) hv1 (by omega) ?_
                    walk_at "go"
                    refine Stop.go ?_
                    with_reducible rename News _ _ _ _ => N8
                    refine itemBack N8 (List.Mem.tail _ (h312 _ hm1)) hp1 (fun v hv => ?_)
                    obtain ⟨R1, rfl, hR1, hV1⟩ := hall1 v hv
                    walk_at "go"
                    refine Stop.go ?_
                    with_reducible rename News _ _ _ _ => N8
                    refine itemZ (i := j + q + 1) (by omega) N8 (List.Mem.tail _ htb12) (ref_at hts5 hXR) (by omega) ?_
                    dsimp only
                    walk_at "go"
                    refine Stop.go ?_
                    with_reducible rename News _ _ _ _ => N8
                    refine itemZ (i := 1 + i - q - 1) (by omega) N8 (List.Mem.tail _ hfR) hv2 (by omega) ?_
                    walk_at "go"
                    refine Stop.go ?_
                    with_reducible rename News _ _ _ _ => N8
                    refine itemM N8 (List.Mem.tail _ (h312 _ hm2)) (by decide) (by omega) (by omega) (fun v hv => ?_)
                    obtain ⟨R2, rfl, hR2, hV2⟩ := hall2 v hv
                    walk_at "go"
                    refine Stop.go ?_
                    (with_reducible rename Fr _ _ _ _ => F8); (with_reducible rename News _ _ _ _ => N8)
                    have hk1 := val_ok hV1 (fun B hB => hbkok B (stretch_mem hB))
                    have hk2 := val_ok hV2 (fun B hB => hbkok B (stretch_mem hB))
                    have hl1 := hk1.four (take_len hBl)
                    have hl2 := hk2.four (take_len hBl)
                    have x1 := recLed_at N8 (fun q hq => List.Mem.tail _ (h312 _ (hR1 q hq)))
                    have x2 := recLed_at N8 (fun q hq => List.Mem.tail _ (h312 _ (hR2 q hq)))
                    refine ct_merge (Frag.In.keeps KX F8.keep) (Top.keeps T F8.keep) (by (simp only [depth_deeper, depth_caller]; decide)) rfl x1 x2 (allStr_are hk1.us) (allStr_are hk2.us) (by rw [List.length_map]; exact Nat.le_trans hk1.nu (by decide)) (by rw [List.length_map]; exact Nat.le_trans hk2.nu (by decide)) (Nat.le_trans hl1 (by decide)) (Nat.le_trans hl2 (by decide)) (isOpt_handed hk1.dv) (isOpt_handed hk2.dv) (isOpt_handed hk1.rv) (isOpt_handed hk2.rv) (fun h9 tk9 R e9 x9 u1 u2 u3 u4 hnew hap => ?_)
                    have hV := val_stretch hbkok hq hV1 hV2 u1 u2 u3 u4
                    have hkv := val_ok hV (fun B hB => hbkok B (stretch_mem hB))
                    have hlv := hkv.four (take_len hBl)
                    have hds := due_same hV hdue
                    have n1 := new_ne hnew.2.2.1 x1.hu
                    have n2 := new_ne hnew.2.2.1 x2.hu
                    have n3 := new_ne hnew.2.2.2 x1.hl
                    have n4 := new_ne hnew.2.2.2 x2.hl
                    have ho11 := ho10.grow (xs := recLed wd.params R) (fun q hq => N8 q (by rw [hX12]; exact hq)) (rec_fresh hnew)
                    obtain ⟨rest6, hr6⟩ : ∃ X, X = recLed wd.params R ++ rest5 := ⟨_, rfl⟩
                    rw [← hr6] at ho11
                    have h56 : ∀ q ∈ rest5, q ∈ rest6 := fun q hq => by rw [hr6]; exact List.mem_append.mpr (.inr hq)
                    have hR6 : ∀ q ∈ recLed wd.params R, q ∈ rest6 := fun q hq => by rw [hr6]; exact List.mem_append.mpr (.inl hq)
                    obtain ⟨X13, hX13⟩ : ∃ X, X = c3.map tl ++ (rest6 ++ (own3 ++ (own2 ++ (own ++ [])))) := ⟨_, rfl⟩
                    have N9 : News s₁.heap s₁.heap.objs.size h9 ((rw9, W.listOf vs.toArray e) :: X13) := by
                      have M := news_rec F8 x9 hnew
                      have N' := newsExt N8 e9
                      intro q hq
                      rw [hX13, hr6] at hq
                      rw [hX12] at N'
                      simp only [List.mem_cons, List.mem_append] at hq
                      rcases hq with h | h | (h | h) | h
                      · exact N' q (by simp [h])
                      · exact N' q (by simp [h])
                      · exact M q h
                      · exact N' q (by simp [h])
                      · exact N' q (List.Mem.tail _ (List.mem_append.mpr (.inr (List.mem_append.mpr (.inr (by simpa using h))))))
                    have F10 := F8.keeps e9
                    have h613 : ∀ q ∈ rest6, q ∈ X13 := fun q hq => by rw [hX13]; exact List.mem_append.mpr (.inr (List.mem_append.mpr (.inl hq)))
                    have h313 : ∀ q ∈ rest3, q ∈ X13 := fun q hq => h613 _ (h56 _ (hb9 _ (h34 q hq)))
                    clear N8 F8 e9 hnew x1 x2 x9
                    dsimp only
                    walk_at "go"
                    refine Stop.go ?_
                    (with_reducible rename Fr _ _ _ _ => F8); (with_reducible rename News _ _ _ _ => N8)
                    refine ct_right (Frag.In.keeps KX F8.keep) (Top.keeps T F8.keep) (by (simp only [depth_deeper, depth_caller]; decide)) rfl (by ke_room) (recLed_at N8 fun q hq => List.Mem.tail _ (h613 _ (hR6 q hq))) (recLed_at N8 fun q hq => List.Mem.tail _ (h313 _ (hR1 q hq))) (recLed_at N8 fun q hq => List.Mem.tail _ (h313 _ (hR2 q hq))) (bookLed_at N8 fun q hq => List.Mem.tail _ (h613 _ (h56 _ (hb9 _ (hD4 q hq))))) n1 n2 n3 n4 hkv.us (hds.1 ▸ hkv.us) hkv.ok (by rw [hds.1]) hds.2.1 (hds.2.1 ▸ hkv.ls) (Nat.le_trans hkv.nu (by decide)) (hds.2.1 ▸ Nat.le_trans hlv (by decide)) hds.2.2.1 hds.2.2.2 (hds.2.2.1 ▸ hkv.dv) (hds.2.2.2 ▸ hkv.rv) (fun h10 tk10 e10 => ?_)
                    have N10 := newsExt N8 e10
                    have F11 := F8.keeps e10
                    have hoffh := off_head ho11
                    rw [← hX13] at hoffh
                    clear F8 N8 e10
                    dsimp only
                    walk_at "go"
                    refine Stop.go ?_
                    (with_reducible rename Fr _ _ _ _ => F8); (with_reducible rename News _ _ _ _ => N8)
                    rw [List.push_toArray] at N8
                    have ho12 : Off ((rw9, W.listOf (vs ++ [Value.ref R.r]).toArray (e + 1)) :: c3.map tl) rest6 (own3 ++ (own2 ++ (own ++ []))) := ho11.same rfl
                    refine ho12.finish (ownOff_sub hoff3 (fun q hq => List.mem_append.mpr (.inr (List.mem_append.mpr (.inr hq))))) F8 N8 (fun q hq => by rw [hX13]; exact hq) ⟨_, _, rest6, rfl, ho12.less, fun q hq => h56 _ (hb9 q hq), by rw [List.length_append, hvl]; rfl, fun v hv => ?_, fun y hy => ?_⟩
                    · rcases List.mem_append.mp hv with hv | hv
                      · exact (hvs v hv).mono h56
                      · rw [List.mem_singleton] at hv
                        subst hv
                        exact ⟨R, rfl, hR6, hV⟩
                    · have y1 := off_str hy (List.Mem.head _)
                      have y2 := off_str hy (List.Mem.tail _ (List.Mem.head _))
                      have y3 := off_str hy (List.Mem.tail _ (List.Mem.tail _ (List.Mem.head _)))
                      have y4 := off_str hy (List.Mem.tail _ (List.Mem.tail _ (List.Mem.tail _ (List.Mem.head _))))
                      dsimp only
                      rw [if_neg y4, if_neg y3, if_neg y2, if_neg y1, hy]
                      rfl
                  case done9 =>
                    rintro m₃ news₃ h tk ⟨vs, e, rest5, rfl, ho9, hb9, hvl, hvs, hm9⟩ F6 N6
                    clear F5 N5
                    rw [mapS hm9] at F6
                    obtain ⟨ca, ⟨xl, vl, el⟩, cb, hc3, hca⟩ := split_td (c := c3) (s := j) (by rw [hR5.1]; omega)
                    have hXL : c3[j]? = some (xl, vl, el) := by rw [hc3, ← hca]; simp
                    have hvl5 : vl.length ≤ 4 := by
                      have := (hR5.2 j _ hXL).1
                      dsimp only at this
                      rw [this]; unfold cntR; rw [if_neg (Nat.lt_irrefl _)]; omega
                    rw [hc3] at ho9 N6
                    have hoffx := tab_off ho9
                    obtain ⟨X13, hX13⟩ : ∃ X, X = (rw9, W.listOf vs.toArray e) :: (ca.map tl ++ cb.map tl ++ (rest5 ++ (own2 ++ (own ++ [])))) := ⟨_, rfl⟩
                    have N7 : News s₁.heap s₁.heap.objs.size h ((xl, W.listOf vl.toArray el) :: X13) := fun q hq => N6 q ((tab_in q).mp (by rw [← hX13]; exact hq))
                    have h513 : ∀ q ∈ rest5, q ∈ X13 := fun q hq => by rw [hX13]; exact List.Mem.tail _ (List.mem_append.mpr (.inr (List.mem_append.mpr (.inl hq))))
                    have htb13 := h513 _ (hb9 _ (h34 _ (hb5 _ htb0)))
                    rw [← hX13] at hoffx
                    clear N6
                    dsimp only at hoffx
                    have hzl : Fits vl.toArray.size := by show _ ≤ sizeLine; rw [List.size_toArray, sizeLine_eq]; omega
                    dsimp only
                    walk_at "go"
                    refine Stop.go ?_
                    with_reducible rename News _ _ _ _ => N8
                    refine itemZ (i := j) rfl N8 (List.Mem.tail _ htb13) (ref_at hts5 hXL) (by omega) ?_
                    dsimp only
                    walk_at "go"
                    refine Stop.go ?_
                    (with_reducible rename Fr _ _ _ _ => F8); (with_reducible rename News _ _ _ _ => N8)
                    rw [List.push_toArray] at N8
                    have ho12 : Off ((ca ++ (xl, vl ++ [Value.ref rw9], el + 1) :: cb).map tl) ((rw9, W.listOf vs.toArray e) :: rest5) (own2 ++ (own ++ [])) := ho9.pop.same (by simp [tl])
                    have hs35 : ∀ q ∈ rest3, q ∈ (rw9, W.listOf vs.toArray e) :: rest5 := fun q hq => List.mem_cons_of_mem _ (hb9 q (h34 q hq))
                    refine ho12.finish (ownOff_sub hoff2 (fun q hq => List.mem_append.mpr (.inr (List.mem_append.mpr (.inr hq))))) F8 N8 (fun q hq => ?_) ⟨_, _, rfl, ho12.less, fun q hq => hs35 q (hb5 q hq), ?_, RowsOk.add (hc3 ▸ hR5) hca hji hs35 ⟨rw9, vs, e, rfl, List.Mem.head _, by omega, by omega, fun x hx => (hvs x hx).mono (fun q hq => List.mem_cons_of_mem _ hq)⟩, fun y hy => ?_⟩
                    · rw [hX13]
                      have := (tab_in (X := (xl, vl ++ [Value.ref rw9], el + 1)) (x := (rw9, W.listOf vs.toArray e)) (r := rest5) (k := own2 ++ (own ++ [])) q).mpr (by
                        simp only [List.mem_append, List.mem_cons, List.cons_append] at hq ⊢
                        rcases hq with h | h | h
                        · exact .inr (.inl h)
                        · exact .inl h
                        · exact .inr (.inr h))
                      exact this
                    · rw [← hts5, hc3]; simp
                    · have y1 := off_str hy (List.Mem.head _)
                      have y2 := off_str hy (List.Mem.tail _ (List.Mem.head _))
                      have y3 := off_str hy (List.Mem.tail _ (List.Mem.tail _ (List.Mem.head _)))
                      have y4 := off_subl (l' := [Str.ofString "cut", Str.ofString "left", Str.ofString "right", Str.ofString "one"]) hy (fun a ha => List.mem_cons_of_mem _ (List.mem_cons_of_mem _ (List.mem_cons_of_mem _ ha)))
                      dsimp only
                      rw [y4, if_neg (by decide), if_neg y3, if_neg y2, if_neg y1, hy]
                      rfl
                case done8 =>
                  rintro m₂ news₂ h tk ⟨c3, rest3, rfl, ho5, hb5, hts5, hR5, hm5⟩ F6 N6
                  clear F5 N5
                  rw [mapS hm5] at F6
                  dsimp only
                  walk_at "go"
                  refine Stop.go ?_
                  (with_reducible rename Fr _ _ _ _ => F8); (with_reducible rename News _ _ _ _ => N8)
                  have hR6 : RowsOk wd.params Bs (1 + i + 1) 0 c3 rest3 := RowsOk.next (by rw [show 4 - (1 + i) = 3 - i by omega]; exact hR5)
                  refine ho5.finish (fun _ _ _ h => nomatch h) F8 N8 (fun q hq => hq) ⟨c3, rest3, rfl, ho5.less, hb5, hts5, hR6, fun y hy => ?_⟩
                  have y1 := off_str hy (List.Mem.head _)
                  have y2 := off_subl (l' := [Str.ofString "start", Str.ofString "row", Str.ofString "due", Str.ofString "cut", Str.ofString "left", Str.ofString "right", Str.ofString "one"]) hy (fun a ha => List.mem_cons_of_mem _ ha)
                  dsimp only
                  rw [y2, if_neg (by decide), if_neg y1, hy]
                  rfl
              case done7 =>
                rintro m₁ news₁ h tk ⟨c2, rest2, rfl, ho3, hb3, hts, hR3, hm⟩ F6 N6
                clear F5 N5
                rw [mapS hm] at F6
                obtain ⟨X9, hX9⟩ : ∃ X, X = c2.map tl ++ (rest2 ++ []) := ⟨_, rfl⟩
                rw [← hX9] at N6
                have h79 : ∀ q ∈ X7, q ∈ X9 := fun q hq => by rw [hX9]; exact List.mem_append.mpr (.inr (List.mem_append.mpr (.inl (hb3 _ (hX70 q hq)))))
                have hbkok : ∀ B ∈ Bs, BkOk B := fun B hB => by
                  obtain ⟨k, hk⟩ := List.mem_iff_getElem?.mp hB
                  have hk4 := (List.getElem?_eq_some_iff.mp hk).1
                  obtain ⟨R, hR⟩ : ∃ R, rs[k]? = some R := ⟨_, List.getElem?_eq_getElem (by omega)⟩
                  exact (hSame k R B hR hk).bk (hoks k R hR)
                clear hX9 ho3 hb3 hR3 hts hX70 hR0 htb0 ho2 hX8
                have hSl : StopSlice := ⟨trivial⟩
                dsimp only
                walk_at "go"
                refine Stop.go ?_
                with_reducible rename Fr _ _ _ _ => F9
                refine For_of F9 rfl rfl ?_
                walk_at "go"
                refine Stop.go ?_
                rename IsRange _ _ _ _ _ _ _ _ => R5
                (with_reducible rename Fr _ _ _ _ => F5); (with_reducible rename News _ _ _ _ => N5)
                refine iter_rangeG (n := 4) (JQ X9 [Str.ofString "k", Str.ofString "twice"] _) rfl R5 rfl (by decide) (by decide) (by decide) F5 N5 ⟨rfl, fun _ _ => rfl⟩ ?turn10 ?done10
                case turn10 =>
                  rintro i t m₂ news₂ h tk own hi hoff ⟨rfl, hm2⟩ F6 N6
                  refine gen_turn (fun Q9a => ?_)
                  clear F5 N5
                  rw [mapS hm2, Int.zero_add] at F6
                  obtain ⟨R, hR⟩ : ∃ R, rs[i]? = some R := ⟨_, List.getElem?_eq_getElem (by omega)⟩
                  obtain ⟨B, hB⟩ : ∃ B, Bs[i]? = some B := ⟨_, List.getElem?_eq_getElem (by omega)⟩
                  have hsm := hSame i R B hR hB
                  have hBk := hbkok B (List.mem_of_getElem? hB)
                  have hBm := List.mem_of_getElem? hB
                  have hok := hoks i R hR
                  obtain ⟨XX, hXX⟩ : ∃ X, X = news₂ ++ own := ⟨_, rfl⟩
                  rw [← hXX] at N6
                  have h7x : ∀ q ∈ X7, q ∈ XX := fun q hq => by rw [hXX]; exact List.mem_append.mpr (.inl (h79 q hq))
                  have hgr : (refs rs)[i]? = some (Value.ref R.r) := by unfold refs; rw [List.getElem?_map, hR]; rfl
                  have hgb : (Bs.map fun B => Value.ref B.b)[i]? = some (Value.ref B.b) := by rw [List.getElem?_map, hB]; rfl
                  have hRx : ∀ q ∈ recLed wd.params R, q ∈ XX := fun q hq => h7x q (hled7 q (led_rec hR q hq))
                  have hBx : ∀ q ∈ bookLed B, q ∈ XX := fun q hq => h7x q (hbk7 B hBm q hq)
                  walk_at "go"
                  refine Stop.go ?_
                  with_reducible rename News _ _ _ _ => N8
                  refine itemZ (i := i) rfl N8 (h7x _ hlo7) hgr (by omega) ?_
                  walk_at "go"
                  refine Stop.go ?_
                  with_reducible rename News _ _ _ _ => N8
                  refine itemZ (i := i) rfl N8 (h7x _ hlo7) hgr (by omega) ?_
                  walk_at "go"
                  refine Stop.go ?_
                  (with_reducible rename Fr _ _ _ _ => F8); (with_reducible rename News _ _ _ _ => N8)
                  have x1 := recLed_at N8 hRx
                  have hnu := hok.nu
                  have hnl := hok.nl
                  refine ct_merge (Frag.In.keeps KX F8.keep) (Top.keeps T F8.keep) (by (simp only [depth_deeper, depth_caller]; decide)) rfl x1 x1 (allStr_are hok.us) (allStr_are hok.us) (by rw [List.length_map]; omega) (by rw [List.length_map]; omega) (by omega) (by omega) (isOpt_handed hok.dv) (isOpt_handed hok.dv) (isOpt_handed hok.rv) (isOpt_handed hok.rv) (fun h9 tk9 R' e9 x9 u1 u2 u3 u4 hnew hap => ?_)
                  have hV : ValOf R' [B, B] := val_merge (as := []) (bs := []) hBk.us hsm.val hsm.val u1 u2 u3 u4
                  have hkv := val_ok hV (fun X hX => by simp only [List.mem_cons, List.not_mem_nil, or_false, or_self] at hX; rw [hX]; exact hBk)
                  have hlv := hkv.four (Nat.le_of_ble_eq_true rfl)
                  have n1 := new_ne hnew.2.2.1 x1.hu
                  have n3 := new_ne hnew.2.2.2 x1.hl
                  have N9 := newsApp (news_rec F8 x9 hnew) (newsExt N8 e9)
                  obtain ⟨XY, hXY⟩ : ∃ X, X = recLed wd.params R' ++ XX := ⟨_, rfl⟩
                  rw [← hXY] at N9
                  have hxy : ∀ q ∈ XX, q ∈ XY := fun q hq => by rw [hXY]; exact List.mem_append.mpr (.inr hq)
                  have hRy : ∀ q ∈ recLed wd.params R', q ∈ XY := fun q hq => by rw [hXY]; exact List.mem_append.mpr (.inl hq)
                  have F10 := F8.keeps e9
                  clear N8 F8 e9 hnew x1 x9
                  dsimp only
                  walk_at "go"
                  refine Stop.go ?_
                  with_reducible rename News _ _ _ _ => N8
                  refine itemZ (i := i) rfl N8 (hxy _ (h7x _ hlo7)) hgr (by omega) ?_
                  walk_at "go"
                  refine Stop.go ?_
                  with_reducible rename News _ _ _ _ => N8
                  refine itemZ (i := i) rfl N8 (hxy _ (h7x _ hlo7)) hgr (by omega) ?_
                  walk_at "go"
                  refine Stop.go ?_
                  with_reducible rename News _ _ _ _ => N8
                  refine itemZ (i := i) rfl N8 (hxy _ (h7x _ hlb7)) hgb (by omega) ?_
                  walk_at "go"
                  refine Stop.go ?_
                  with_reducible rename News _ _ _ _ => N8
                  refine itemZ (i := i) rfl N8 (hxy _ (h7x _ hlb7)) hgb (by omega) ?_
                  walk_at "go"
                  refine Stop.go ?_
                  (with_reducible rename Fr _ _ _ _ => F9); (with_reducible rename News _ _ _ _ => N9)
                  have hBo := hBk.book (bookLed_at N9 fun q hq => List.Mem.tail _ (hxy q (hBx q hq)))
                  refine ct_due (B0 := B) (bs := [B]) (Frag.In.keeps KX F9.keep) (Top.keeps T F9.keep) (by (simp only [depth_deeper, depth_caller]; decide)) rfl (by ke_room) (N9 _ (List.Mem.head _)).1 hBo (fun X hX => by rw [List.mem_singleton] at hX; rw [hX]; exact hBo) (Nat.le_of_ble_eq_true rfl) (fun h7 tk7 D e7 x7 d1 d2 d3 d4 hnew => ?_)
                  have hdue : DueIs D [B, B] := ⟨d1, d2, d3, d4⟩
                  have hds := due_same hV hdue
                  have N10 := newsExt N9 e7
                  have F11 := F9.keeps e7
                  clear N9 F9 e7 hnew hBo
                  dsimp only
                  walk_at "go"
                  refine Stop.go ?_
                  (with_reducible rename Fr _ _ _ _ => F8); (with_reducible rename News _ _ _ _ => N8)
                  have xr := recLed_at N8 (fun q hq => List.Mem.tail _ (hxy _ (hRx q hq)))
                  refine ct_right (Frag.In.keeps KX F8.keep) (Top.keeps T F8.keep) (by (simp only [depth_deeper, depth_caller]; decide)) rfl (by ke_room) (recLed_at N8 fun q hq => List.Mem.tail _ (hRy q hq)) xr xr x7 n1 n1 n3 n3 hkv.us (hds.1 ▸ hkv.us) hkv.ok (by rw [hds.1]) hds.2.1 (hds.2.1 ▸ hkv.ls) (Nat.le_trans hkv.nu (by decide)) (hds.2.1 ▸ Nat.le_trans hlv (by decide)) hds.2.2.1 hds.2.2.2 (hds.2.2.1 ▸ hkv.dv) (hds.2.2.2 ▸ hkv.rv) (fun h10 tk10 e10 => ?_)
                  have N11 := newsExt N8 e10
                  have F12 := F8.keeps e10
                  clear F8 N8 e10 xr x7
                  dsimp only
                  walk_at "go"
                  refine Stop.go ?_
                  (with_reducible rename Fr _ _ _ _ => F8); (with_reducible rename News _ _ _ _ => N8)
                  refine JQ.finish hoff F8 N8 (fun q hq => List.Mem.tail _ (hxy _ (by rw [hXX]; exact hq))) (fun y hy => ?_)
                  have y1 := off_str hy (List.Mem.head _)
                  have y2 := off_str hy (List.Mem.tail _ (List.Mem.head _))
                  dsimp only
                  rw [if_neg y2, if_neg y1, hy]
                  rfl
                case done10 =>
                  rintro m₂ news₂ h tk ⟨rfl, hm2⟩ F6 N6
                  clear F5 N5
                  rw [mapS hm2] at F6
                  dsimp only
                  walk_at "go"
                  refine Stop.go ?_
                  with_reducible rename Fr _ _ _ _ => F9
                  refine For_of F9 rfl rfl ?_
                  walk_at "go"
                  refine Stop.go ?_
                  rename IsRange _ _ _ _ _ _ _ _ => R5
                  (with_reducible rename Fr _ _ _ _ => F5); (with_reducible rename News _ _ _ _ => N5)
                  refine iter_rangeG (n := 4) (JQ news₂ [Str.ofString "k"] _) rfl R5 rfl (by decide) (by decide) (by decide) F5 N5 ⟨rfl, fun _ _ => rfl⟩ ?turn11 ?done11
                  case turn11 =>
                    rintro i t m₂ news₂ h tk own hi hoff ⟨rfl, hm2⟩ F6 N6
                    refine gen_turn (fun Q9a => ?_)
                    clear F5 N5
                    rw [mapS hm2, Int.zero_add] at F6
                    obtain ⟨R, hR⟩ : ∃ R, rs[i]? = some R := ⟨_, List.getElem?_eq_getElem (by omega)⟩
                    obtain ⟨B, hB⟩ : ∃ B, Bs[i]? = some B := ⟨_, List.getElem?_eq_getElem (by omega)⟩
                    have hsm := hSame i R B hR hB
                    have hBk := hbkok B (List.mem_of_getElem? hB)
                    have hBm := List.mem_of_getElem? hB
                    have hok := hoks i R hR
                    obtain ⟨XX, hXX⟩ : ∃ X, X = news₂ ++ own := ⟨_, rfl⟩
                    rw [← hXX] at N6
                    have h7x : ∀ q ∈ X7, q ∈ XX := fun q hq => by rw [hXX]; exact List.mem_append.mpr (.inl (h79 q hq))
                    have hgr : (refs rs)[i]? = some (Value.ref R.r) := by unfold refs; rw [List.getElem?_map, hR]; rfl
                    have hgb : (Bs.map fun B => Value.ref B.b)[i]? = some (Value.ref B.b) := by rw [List.getElem?_map, hB]; rfl
                    have hRx : ∀ q ∈ recLed wd.params R, q ∈ XX := fun q hq => h7x q (hled7 q (led_rec hR q hq))
                    have hBx : ∀ q ∈ bookLed B, q ∈ XX := fun q hq => h7x q (hbk7 B hBm q hq)
                    walk_at "go"
                    refine Stop.go ?_
                    with_reducible rename News _ _ _ _ => N8
                    refine itemZ (i := i) rfl N8 (h7x _ hlo7) hgr (by omega) ?_
                    walk_at "go"
                    refine Stop.go ?_
                    (with_reducible rename Fr _ _ _ _ => F8); (with_reducible rename News _ _ _ _ => N8)
                    have hnu := hok.nu
                    have hnl := hok.nl
                    refine ct_parts (Frag.In.keeps KX F8.keep) (Top.keeps T F8.keep) (by (simp only [depth_deeper, depth_caller]; decide)) rfl (recLed_at N8 hRx) (by omega) (by omega) (isOpt_handed hok.dv) (isOpt_handed hok.rv) (fun h3 tk3 P e3 x3 q1 q2 q3 q4 hnew => ?_)
                    have N9 := newsExt N8 e3
                    have F9 := F8.keeps e3
                    clear N8 F8 e3 hnew
                    dsimp only
                    walk_at "go"
                    refine Stop.go ?_
                    with_reducible rename News _ _ _ _ => N8
                    refine itemZ (i := i) rfl N8 (h7x _ hlb7) hgb (by omega) ?_
                    walk_at "go"
                    refine Stop.go ?_
                    (with_reducible rename Fr _ _ _ _ => F8); (with_reducible rename News _ _ _ _ => N8)
                    have hnl2 := hBk.nl
                    refine ct_same (Frag.In.keeps KX F8.keep) (Top.keeps T F8.keep) (by (simp only [depth_deeper, depth_caller]; decide)) rfl (by ke_room) x3 (bookLed_at N8 hBx) (by rw [q1]; exact hok.us) hBk.us (by rw [q1]; exact hok.ok) (by rw [q1, hsm.1]) (by rw [q2, hsm.2.1]) hBk.ls (by omega) (by rw [q3, hsm.2.2.1]) (by rw [q4, hsm.2.2.2]) hBk.dv hBk.rv (fun h10 tk10 e10 => ?_)
                    have N11 := newsExt N8 e10
                    have F12 := F8.keeps e10
                    clear F8 N8 e10 x3
                    dsimp only
                    walk_at "go"
                    refine Stop.go ?_
                    (with_reducible rename Fr _ _ _ _ => F8); (with_reducible rename News _ _ _ _ => N8)
                    refine JQ.finish hoff F8 N8 (fun q hq => by rw [hXX]; exact hq) (fun y hy => ?_)
                    have y1 := off_str hy (List.Mem.head _)
                    dsimp only
                    rw [if_neg y1, hy]
                    rfl
                  case done11 =>
                    rintro m₂ news₂ h tk ⟨rfl, hm2⟩ F6 N6
                    clear F5 N5
                    rw [mapS hm2] at F6
                    dsimp only
                    walk_at "go"
                    k_steps
