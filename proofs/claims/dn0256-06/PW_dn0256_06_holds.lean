import PyProof.Rows.All
import Wide.All
import OpenK.AllK
import Wide.FinOn
import PySem.Challenge.RW_dn0256_06
open PySem PySem.W PyProof.Rows
set_option Elab.async false
set_option maxRecDepth 100000
set_option maxHeartbeats 8000000
section secMBase
namespace Mine
noncomputable def Ext (h h' : Heap) : Prop := ∀ b o, h.get? b = some o → h'.get? b = some o
theorem Ext.refl {h : Heap} : Ext h h := fun _ _ e => e
theorem Ext.trans {h h' h'' : Heap} (a : Ext h h') (b : Ext h' h'') : Ext h h'' := fun x o e => b x o (a x o e)

theorem slot_translate : Slot "str" "translate" "str.translate" :=
  .of (owner := "str") (n := "translate") (by rw [typeLookup_type, builtinLookup_eq_fast]; kernel_rfl) (by decide +kernel) (by decide +kernel) (by decide +kernel)
    (by first | exact .inl (by decide +kernel) | exact .inr (by decide +kernel)) (by rw [isSubtype_type]; kernel_rfl)
theorem type_translate : typeOf (.builtin "str.translate") = pure (.type "method_descriptor") := by show builtinType _ = _; rw [builtinType_eq_fast]; kernel_rfl
theorem entry_translate : entryFor table "str.translate" = some Builtin.«str.translate» := entryFor_of_tree (by kernel_rfl)
theorem args_translate (a b : Value) : argsOk "str.translate" ⟨[a, b], []⟩ := by
  unfold argsOk; kernel_rfl

theorem gm_translate {M : Model} {A : Around} {E : Value → Shared → Prop} {s : Shared} {x : Str} {t : Tok} {pl : Sem Bool} {Q : Value × List Value → Shared → Prop}
    (h : Q (.builtin "str.translate", [.str x t]) s) : wpAny M A (getMethod (.str x t) "translate" pl) Q E s := by
  with_reducible exact GM.of (.str x t) (typeIs_str _ _ _) slot_translate type_translate GM.noRef h

/-- the signs that have a meaning -/
noncomputable def specs : List Nat := [40, 41, 91, 93, 123, 125, 63, 42, 43, 45, 124, 94, 36, 92, 46, 38, 126, 35, 32, 9, 10, 13, 11, 12]
noncomputable def spec (c : Nat) : Bool := specs.contains c

noncomputable def TabEsc (prog : Program) (w : World) (h : Heap) (d : Addr) : Prop :=
  ∃ f, h.MapOf (intKind prog w) d f ∧ ∀ c : Nat, (spec c = true → ∃ t, f (c : Int) = some (.str ⟨#[92, c]⟩ t)) ∧ (spec c = false → f (c : Int) = none)
theorem TabEsc.ext {prog : Program} {w : World} {h h' : Heap} {d : Addr} (T : TabEsc prog w h d) (e : Ext h h') : TabEsc prog w h' d := by
  obtain ⟨f, ⟨o, es, ep, ho, r⟩, hf⟩ := T
  exact ⟨f, ⟨o, es, ep, e _ _ ho, r⟩, hf⟩

noncomputable def entOk (e : DictEntry) : Bool := match e.key with | .int i _ => e.hash == hashInt i | _ => false
noncomputable def escOk (e : DictEntry) : Bool := match e.key, e.val with | .int i _, .str y _ => decide (0 ≤ i) && y == ⟨#[92, i.toNat]⟩ && spec i.toNat | _, _ => false
theorem tabEsc_of {prog : Program} {w : World} {h : Heap} {d : Addr} {es : List DictEntry} {ep : Nat} (ho : h.get? d = some { cls := .type "dict", data := .dict es.toArray ep })
    (h1 : es.all entOk = true) (h2 : es.all escOk = true) (h3 : specs.all (fun c => es.any (fun e => Value.isInt (c : Int) e.key)) = true) : TabEsc prog w h d := by
  refine ⟨fun k => findBy (intKind prog w).is es.toArray k, ⟨_, _, _, ho, ⟨rfl, rfl, rfl⟩, rfl, ?_, fun k => rfl⟩, fun c => ⟨fun hc => ?_, fun hc => ?_⟩⟩
  · intro e he
    have := List.all_eq_true.mp h1 e (by simpa using he)
    unfold entOk at this
    split at this
    · rename_i i t hk
      exact ⟨i, by rw [hk]; exact intKind_is _ _ _ _, beq_iff_eq.mp this⟩
    · cases this
  · have hm : c ∈ specs := by simpa [spec] using hc
    have ha := List.all_eq_true.mp h3 c hm
    show ∃ t, findBy (intKind prog w).is es.toArray (c : Int) = _
    unfold findBy
    rw [← Array.find?_toList]
    cases hf : es.toArray.toList.find? (fun e => (intKind prog w).is (c : Int) e.key) with
    | none =>
      obtain ⟨e, he, hk⟩ := List.any_eq_true.mp ha
      have := List.find?_eq_none.mp hf e (by simpa using he)
      exact absurd hk this
    | some e =>
      have hk := List.find?_some hf
      have he : e ∈ es := by simpa using List.mem_of_find?_eq_some hf
      have h2' := List.all_eq_true.mp h2 e he
      obtain ⟨hash, key, val⟩ := e
      cases key with
      | int i t =>
        cases val with
        | str y tv =>
          simp only [escOk, Bool.and_eq_true, decide_eq_true_eq, beq_iff_eq] at h2'
          have hi : i = (c : Int) := by simpa [intKind, Value.isInt] using hk
          subst hi
          obtain ⟨⟨_, hy⟩, _⟩ := h2'
          exact ⟨tv, by rw [hy]; simp⟩
        | _ => cases h2'
      | _ => cases hk
  · show findBy (intKind prog w).is es.toArray (c : Int) = none
    unfold findBy
    rw [← Array.find?_toList]
    cases hf : es.toArray.toList.find? (fun e => (intKind prog w).is (c : Int) e.key) with
    | none => rfl
    | some e =>
      exfalso
      have hk := List.find?_some hf
      have he : e ∈ es := by simpa using List.mem_of_find?_eq_some hf
      have h2' := List.all_eq_true.mp h2 e he
      obtain ⟨hash, key, val⟩ := e
      cases key with
      | int i t =>
        cases val with
        | str y tv =>
          simp only [escOk, Bool.and_eq_true, decide_eq_true_eq, beq_iff_eq] at h2'
          have hi : i = (c : Int) := by simpa [intKind, Value.isInt] using hk
          subst hi
          have := h2'.2
          simp [hc] at this
        | _ => cases h2'
      | _ => cases hk

open Builtin Builtin.Str in
theorem lookup_esc {prog : Program} {w : World} {A : Around} {E : Value → Shared → Prop} {s : Shared} {d : Addr} {c : Nat} {Q : Mapped → Shared → Prop}
    (hh : A.handled = none) (hd : (d == sysModules) = false) (T : TabEsc prog w s.heap d)
    (hQ : ∀ h' tk, Ext s.heap h' → Q (if spec c = true then .text ⟨#[92, c]⟩ else .keep) { s with heap := h', toks := tk }) :
    wpAny (model prog w) A (tableLookup (.ref d) c) Q E s := by
  obtain ⟨f, hm, hf⟩ := T
  unfold tableLookup
  refine wpAny_bind (wpAny_attempt (wpAny_bind (wpAny_mkInt ?_)))
  cases hc : spec c with
  | true =>
    obtain ⟨t, ht⟩ := (hf c).1 hc
    refine wpAny_getItem_of (intKind_is _ _ _ _) hm ht ?_
    rw [hc] at hQ
    refine wpAny_bind (m := asInt? _) (wpAny_pure ?_)
    refine wpAny_bind (m := asStr? _) (wpAny_pure ?_)
    exact wpAny_pure (hQ _ _ Ext.refl)
  | false =>
    have ht := (hf c).2 hc
    refine wpAny_getItem_missing_of (intKind_is _ _ _ _) hd hh hm ht ?_
    intro h' e hx
    obtain ⟨ob, t, h1, h2, h3⟩ := hx.there
    rw [hc] at hQ
    refine wpAny_bind (wpAny_isInstance (T := "KeyError") (b := true) ⟨ob, h1, h2⟩ (by rw [isSubtype_type]; kernel_rfl) ?_)
    exact wpAny_bind (wpAny_rule (wpAny_pure (hQ _ _ hx.keeps)))

/-- a text with its signs that have a meaning masked -/
noncomputable def escL (l : List Nat) : List Nat := l.flatMap fun c => if spec c = true then [92, c] else [c]
theorem escL_append (a b : List Nat) : escL (a ++ b) = escL a ++ escL b := by simp [escL]
theorem escL_length (l : List Nat) : (escL l).length ≤ 2 * l.length := by
  induction l with
  | nil => simp [escL]
  | cons c r ih =>
    have : escL (c :: r) = (if spec c = true then [92, c] else [c]) ++ escL r := rfl
    rw [this, List.length_append, List.length_cons]
    split <;> simp <;> omega
noncomputable def esc (x : Str) : Str := ⟨(escL x.cps.toList).toArray⟩

theorem foldl_cps (l : List Str) : ∀ a : Array Nat, (l.foldl (fun acc p => acc ++ p.cps) a) = (a.toList ++ (l.map (·.cps.toList)).flatten).toArray := by
  induction l with
  | nil => intro a; simp
  | cons p r ih => intro a; rw [List.foldl_cons, ih]; simp

theorem mem_lookup {α β : Type} [BEq α] [LawfulBEq α] {c : α} {a : β} : ∀ {l : List (α × β)}, l.lookup c = some a → (c, a) ∈ l
  | [], h => by cases h
  | (k, v) :: r, h => by
    rw [List.lookup_cons] at h
    split at h
    · rename_i e; cases h; rw [eq_of_beq e]; exact List.mem_cons_self
    · exact List.mem_cons_of_mem _ (mem_lookup h)

theorem escL_one (c : Nat) : escL [c] = if spec c = true then [92, c] else [c] := by simp [escL]

open Builtin Builtin.Str in
theorem call_translate {prog : Program} {w : World} {A : Around} {E : Value → Shared → Prop} {s : Shared} {d : Addr} {x : Str} {t : Tok} {Q : Value → Shared → Prop}
    (hh : A.handled = none) (hd : (d == sysModules) = false) (T : TabEsc prog w s.heap d) (hx : x.length ≤ 100000)
    (hQ : ∀ h' tk tk', Ext s.heap h' → Q (.str (esc x) tk') { s with heap := h', toks := tk }) :
    wpAny (model prog w) A (call (.builtin "str.translate") [.str x t, .ref d]) Q E s := by
  refine wpAny_call_entry slot_translate (typeIs_str _ _ _) entry_translate ?_ (args_translate _ _)
  unfold Builtin.«str.translate»
  refine wpAny_bind (m := strOneArg _ _) (wpAny_pure ?_)
  dsimp only
  have hlen : x.cps.toList.length = x.length := by simp [Str.length]
  refine wpAny_ite_split (fun h0 => ?_) (fun h0 => ?_)
  · refine wpAny_bind (wpAny_rule ?_)
    refine wpAny_bind (m := strUnchanged _ _) (wpAny_pure ?_)
    have e : x.cps.toList = [] := List.length_eq_zero_iff.mp (by rw [hlen]; simpa using h0)
    have : esc x = x := by
      unfold esc; rw [e]; cases x with | mk cps => simp at e; subst e; rfl
    rw [this] at hQ
    exact wpAny_pure ⟨_, rfl, hQ _ _ _ Ext.refl⟩
  refine wpAny_bind (wpAny_forIn_array' _ (fun rest (b : List Str × Nat × Bool × List (Nat × Option Nat) × Bool) s' =>
    ∃ h' tk pre, s' = { s with heap := h', toks := tk } ∧ Ext s.heap h' ∧ x.cps.toList = pre ++ rest ∧ (b.1.reverse.map (·.cps.toList)).flatten = escL pre ∧ b.2.1 = (escL pre).length ∧ b.2.2.2.2 = false ∧
      ∀ c a, (c, a) ∈ b.2.2.2.1 → a = some c ∧ spec c = false) _ ?_ ?_ _ _ ⟨s.heap, s.toks, [], rfl, Ext.refl, rfl, rfl, rfl, rfl, fun _ _ h => nomatch h⟩)
  · rintro c rest ⟨pieces, total, fast, known, afterDrop⟩ s' ⟨h', tk, pre, rfl, he, hpre, hp, ht, ha, hk⟩
    dsimp only at hp ht ha hk ⊢
    subst ha
    have hlp := escL_length pre
    have hl2 : pre.length ≤ 100000 := by
      have := congrArg List.length hpre
      rw [List.length_append] at this; omega
    have T' : TabEsc prog w h' d := T.ext he
    have htot : tooLong total = false := by
      unfold tooLong; rw [sizeLine_eq, ht]; exact decide_eq_false (by omega)
    rw [htot]
    have keepIt : ∀ (known' : List (Nat × Option Nat)) (fast' : Bool) (h'' : Heap) (tk' : Nat), Ext s.heap h'' → spec c = false → (∀ c a, (c, a) ∈ known' → a = some c ∧ spec c = false) →
        ∃ h₁ tk₁ pre₁, ({ s with heap := h'', toks := tk' } : Shared) = { s with heap := h₁, toks := tk₁ } ∧ Ext s.heap h₁ ∧ x.cps.toList = pre₁ ++ rest ∧ (((⟨#[c]⟩ : Str) :: pieces).reverse.map (·.cps.toList)).flatten = escL pre₁ ∧ total + 1 = (escL pre₁).length ∧ false = false ∧
          ∀ c a, (c, a) ∈ known' → a = some c ∧ spec c = false := by
      intro known' fast' h'' tk' he' hs hk'
      refine ⟨h'', tk', pre ++ [c], rfl, he', by rw [hpre]; simp, ?_, ?_, rfl, hk'⟩
      · rw [escL_append, ← hp, escL_one, hs]; simp
      · rw [escL_append, escL_one, hs, ht]; simp
    have slow : ∀ (known' : List (Nat × Option Nat)) (fast' : Bool) (h'' : Heap) (tk' : Nat), Ext s.heap h'' → (∀ c a, (c, a) ∈ known' → a = some c ∧ spec c = false) →
        wpAny (model prog w) A.in1 (do
          let __do_lift ← tableLookup (.ref d) c
          match __do_lift with
            | Mapped.keep => pure (ForInStep.yield ((⟨#[c]⟩ : Str) :: pieces, total + 1, fast', known', false))
            | Mapped.drop => pure (ForInStep.yield (pieces, total, fast', known', true))
            | Mapped.char d => pure (ForInStep.yield ((⟨#[d]⟩ : Str) :: pieces, total + 1, fast', known', false))
            | Mapped.text t => pure (ForInStep.yield (t :: pieces, total + t.length, fast', known', false)))
          (fun r s' => match r with
            | ForInStep.yield b => ∃ h' tk pre, s' = { s with heap := h', toks := tk } ∧ Ext s.heap h' ∧ x.cps.toList = pre ++ rest ∧ (b.1.reverse.map (·.cps.toList)).flatten = escL pre ∧ b.2.1 = (escL pre).length ∧ b.2.2.2.2 = false ∧
               ∀ c a, (c, a) ∈ b.2.2.2.1 → a = some c ∧ spec c = false
            | ForInStep.done b => False) E { s with heap := h'', toks := tk' } := by
      intro known' fast' h'' tk' he' hk'
      refine wpAny_bind (lookup_esc (A := A.in1) hh hd (T.ext he') fun h₂ tk₂ he₂ => ?_)
      cases hs : spec c with
      | false =>
        simp only [Bool.false_eq_true, if_false]
        exact wpAny_pure (keepIt known' fast' h₂ tk₂ (he'.trans he₂) hs hk')
      | true =>
        simp only [if_true]
        refine wpAny_pure ⟨h₂, tk₂, pre ++ [c], rfl, he'.trans he₂, by rw [hpre]; simp, ?_, ?_, rfl, hk'⟩
        · show ((((⟨#[92, c]⟩ : Str) :: pieces).reverse.map (·.cps.toList)).flatten) = _
          rw [escL_append, ← hp, escL_one, hs]; simp
        · rw [escL_append, escL_one, hs, ht]; simp [Str.length]
    simp only [Bool.false_eq_true, if_false]
    cases fast with
    | false =>
      simp only [Bool.false_eq_true, if_false]
      refine wpAny_mono (slow known false h' tk he hk) (fun r s₂ hr => ?_) (fun _ _ e => e)
      cases r with
      | yield b => exact hr
      | done b => exact hr.elim
    | true =>
      simp only [if_true]
      cases hl : List.lookup c known with
      | some a =>
        obtain ⟨rfl, hs⟩ := hk c a (mem_lookup hl)
        dsimp only
        exact wpAny_bind (wpAny_pure (wpAny_pure (keepIt known true h' tk he hs hk)))
      | none =>
        dsimp only
        refine wpAny_bind (lookup_esc (A := A.in1) hh hd T' fun h₂ tk₂ he₂ => ?_)
        cases hs : spec c with
        | false =>
          simp only [Bool.false_eq_true, if_false]
          refine wpAny_bind (wpAny_pure (wpAny_pure (keepIt _ true h₂ tk₂ (he.trans he₂) hs ?_)))
          intro c' a' hm
          rcases List.mem_cons.mp hm with e | hm
          · cases e; exact ⟨rfl, hs⟩
          · exact hk c' a' hm
        | true =>
          simp only [if_true]
          refine wpAny_bind (wpAny_pure ?_)
          refine wpAny_bind (wpAny_rule ?_)
          refine wpAny_mono (slow known false h₂ tk₂ (he.trans he₂) hk) (fun r s₂ hr => ?_) (fun _ _ e => e)
          cases r with
          | yield b => exact hr
          | done b => exact hr.elim
  · rintro ⟨pieces, total, fast, known, afterDrop⟩ s' ⟨h', tk, pre, rfl, he, hpre, hp, ht, ha, hk⟩
    dsimp only at hp ht ha hk ⊢
    have hlp := escL_length pre
    rw [List.append_nil] at hpre
    have htot : tooLong total = false := by
      unfold tooLong; rw [sizeLine_eq, ht, ← hpre, hlen] at *; exact decide_eq_false (by omega)
    rw [htot]
    simp only [Bool.false_eq_true, if_false]
    rw [foldl_cps]
    have e : ((#[] : Array Nat).toList ++ (pieces.reverse.map (·.cps.toList)).flatten).toArray = (esc x).cps := by
      rw [hp, ← hpre]; simp [esc]
    rw [e]
    refine wpAny_bind (wpAny_mkStr (x := esc x) (wpAny_pure ⟨_, rfl, hQ _ _ _ he⟩) ?_)
    show (esc x).cps.size ≤ _
    rw [sizeLine_eq]; simp only [esc, List.size_toArray]; rw [← hpre] at hlp; omega
end Mine
end secMBase
section secMMap
namespace Mine
section mapfacts
theorem slot_map_init : Slot "map" "__init__" "object.__init__" :=
  .of (owner := "object") (n := "__init__") (by rw [typeLookup_type, builtinLookup_eq_fast]; kernel_rfl) (by decide +kernel) (by decide +kernel) (by decide +kernel)
    (by first | exact .inl (by decide +kernel) | exact .inr (by decide +kernel)) (by rw [isSubtype_type]; kernel_rfl)
theorem slot_map_iter : Slot "map" "__iter__" "map.__iter__" :=
  .of (owner := "map") (n := "__iter__") (by rw [typeLookup_type, builtinLookup_eq_fast]; kernel_rfl) (by decide +kernel) (by decide +kernel) (by decide +kernel)
    (by first | exact .inl (by decide +kernel) | exact .inr (by decide +kernel)) (by rw [isSubtype_type]; kernel_rfl)
theorem slot_map_next : Slot "map" "__next__" "map.__next__" :=
  .of (owner := "map") (n := "__next__") (by rw [typeLookup_type, builtinLookup_eq_fast]; kernel_rfl) (by decide +kernel) (by decide +kernel) (by decide +kernel)
    (by first | exact .inl (by decide +kernel) | exact .inr (by decide +kernel)) (by rw [isSubtype_type]; kernel_rfl)
theorem entry_map_next : entryFor table "map.__next__" = some Builtin.«map.__next__» := entryFor_of_tree (by kernel_rfl)
theorem entry_map_new : entryFor table "map.__new__" = some Builtin.«map.__new__» := entryFor_of_tree (by kernel_rfl)
theorem entry_map_iter : entryFor table "map.__iter__" = some Builtin.«dict_keyiterator.__iter__» :=
  entryFor_alias (id' := "dict_keyiterator.__iter__") (by kernel_rfl) (by first | rfl | decide +kernel | (unfold String.splitOn; simp +decide [String.splitOnAux])) (by decide +kernel) (by kernel_rfl)
theorem args_map_next (a : Value) : argsOk "map.__next__" ⟨[a], []⟩ := by unfold argsOk; kernel_rfl
theorem args_map_iter (a : Value) : argsOk "map.__iter__" ⟨[a], []⟩ := by unfold argsOk; kernel_rfl
theorem mro_map : mroOf (.type "map") = pure [.type "map", .type "object"] := by rw [mroOf_type]; kernel_rfl
theorem lookup_map_new : typeLookup (.type "map") "__new__" = pure (some (.builtin "map.__new__")) := by rw [typeLookup_type, builtinLookup_eq_fast]; kernel_rfl
theorem called_map : TypeCalled "map" "map.__new__" "object.__init__" :=
  ⟨by decide +kernel, by decide +kernel, ⟨_, _, mro_map⟩, madeBy_type mro_map lookup_map_new (by decide +kernel), by decide +kernel, by rw [isSubtype_type]; kernel_rfl, slot_map_init⟩
theorem typeCall_map_2 (a b : Value) : checkTypeCall "map" ⟨[a, b], []⟩ = pure () := by kernel_rfl
theorem newCall_map_2 (a b : Value) : checkBuiltinCall "map.__new__" ⟨[.type "map", a, b], []⟩ = pure () := by kernel_rfl
theorem sub_map : isSubtype (.type "map") (.type "map") = pure true := by rw [isSubtype_type]; kernel_rfl
theorem map_no_len : typeLookup (.type "map") "__len__" = pure none := by rw [typeLookup_type, builtinLookup_eq_fast]; kernel_rfl
theorem map_no_hint : typeLookup (.type "map") "__length_hint__" = pure none := by rw [typeLookup_type, builtinLookup_eq_fast]; kernel_rfl
end mapfacts

noncomputable abbrev mapObj (TI : Addr) (f : Value) : Obj := { cls := .type "map", data := .fields #[.ref TI, f] }
noncomputable abbrev tup1 (a : Value) : Obj := { cls := .type "tuple", data := .seq #[a] }

theorem meets_map_new (f : Value) (l : Addr) (items : Array Value) (n : Nat) (dct : Option Addr) (sl : Array (Option Value)) :
    Meets (Builtin.«map.__new__» ⟨[.type "map", f, .ref l], []⟩) (fun _ R s => s.heap.get? l = some { cls := .type "list", dict := dct, data := .seq items n, slots := sl } ∧
      R (.ok (.ret (.ref ((s.heap.push { cls := .type "list_iterator", data := .fields #[.ref l, .int 0 0] }).push (tup1 (.ref s.heap.objs.size))).objs.size)))
        { s with heap := ((s.heap.push { cls := .type "list_iterator", data := .fields #[.ref l, .int 0 0] }).push (tup1 (.ref s.heap.objs.size))).push (mapObj (s.heap.push { cls := .type "list_iterator", data := .fields #[.ref l, .int 0 0] }).objs.size f) }) :=
  .of_wp fun prog w A R s h => by
    obtain ⟨hp, g, d, tk, os⟩ := s; obtain ⟨hl, h⟩ := h
    have hsub := sub_map
    have hL : Heap.IsList (Shared.heap ⟨hp, g, d, tk, os⟩) l items := ⟨_, hl, rfl, n, rfl⟩
    unfold Builtin.«map.__new__»
    refine wpAny_bind ?_
    wp_walk using wpAny_pyIter_list hL
    exact ⟨_, rfl, h⟩
end Mine
end secMMap
section secMMap2
namespace Mine
theorem call_map {prog : Program} {w : World} {A : Around} {E : Value → Shared → Prop} {s : Shared} {f : Value} {l : Addr} {items : Array Value} {Q : Value → Shared → Prop} (hL : s.heap.IsList l items)
    (h : ∀ h', h'.get? (s.heap.objs.size + 2) = some (mapObj (s.heap.objs.size + 1) f) → h'.get? (s.heap.objs.size + 1) = some (tup1 (.ref s.heap.objs.size)) → h'.IsListIter s.heap.objs.size l 0 → h'.objs.size = s.heap.objs.size + 3 →
      Ext s.heap h' → Q (.ref (s.heap.objs.size + 2)) { s with heap := h' }) :
    wpAny (model prog w) A (call (.type "map") [f, .ref l]) Q E s := by
  obtain ⟨⟨c, dct, dt, sl⟩, hl, hc, n, hd⟩ := hL
  replace hc : c = .type "list" := hc
  replace hd : dt = .seq items n := hd
  subst hc hd
  refine callType_new called_map (by decide) (typeCall_map_2 _ _) (newCall_map_2 _ _) (fun obj => F.args_object_init_3 obj _ _) entry_map_new
    (meets_map_new f l items n dct sl) ⟨hl, ?_⟩
  have hz : (s.heap.push { cls := .type "list_iterator", data := .fields #[.ref l, .int 0 0] }).objs.size = s.heap.objs.size + 1 := Heap.size_push ..
  have hz2 : ((s.heap.push { cls := .type "list_iterator", data := .fields #[.ref l, .int 0 0] }).push (tup1 (.ref s.heap.objs.size))).objs.size = s.heap.objs.size + 2 := by rw [Heap.size_push, hz]
  show _ ∧ _
  rw [hz2, hz]
  have h1 := Heap.get?_push_size ((s.heap.push { cls := .type "list_iterator", data := .fields #[.ref l, .int 0 0] }).push (tup1 (.ref s.heap.objs.size))) (o := mapObj (s.heap.objs.size + 1) f) rfl
  rw [hz2] at h1
  have h2 := Heap.get?_push_of_some (mapObj (s.heap.objs.size + 1) f) (Heap.get?_push_size (s.heap.push { cls := .type "list_iterator", data := .fields #[.ref l, .int 0 0] }) (o := tup1 (.ref s.heap.objs.size)) rfl)
  rw [hz] at h2
  refine ⟨⟨_, h1, rfl⟩, h _ h1 h2 ⟨_, Heap.get?_push_of_some _ (Heap.get?_push_of_some _ (Heap.get?_push_size _ rfl)), rfl, rfl⟩ (by rw [Heap.size_push, hz2]) fun b o e => Heap.get?_push_of_some _ (Heap.get?_push_of_some _ (Heap.get?_push_of_some _ e))⟩

/-- what the walk of a map keeps of the heap at its start -/
noncomputable abbrev OffIt (it : Addr) (h₀ h : Heap) : Prop := ∀ b o, b ≠ it → h₀.get? b = some o → h.get? b = some o

theorem walks_map {prog : Program} {w : World} {A : Around} (hh : A.handled = none) {h₀ : Heap} {I TI it l : Addr} {f : Value} {items : Array Value} {P : Nat → Value → Prop}
    (hI : h₀.get? I = some (mapObj TI f)) (hTI : h₀.get? TI = some (tup1 (.ref it))) (hl : h₀.IsList l items) (hit : it < h₀.objs.size) (n1 : I ≠ it) (n2 : TI ≠ it) (n3 : l ≠ it)
    (hf : ∀ i x (s : Shared) (Q E : Value → Shared → Prop), items[i]? = some x → OffIt it h₀ s.heap → (∀ v h' tk, P i v → Ext s.heap h' → Q v { s with heap := h', toks := tk }) → wpAny (model prog w) A.in1 (call f [x]) Q E s) :
    Walks prog w A I (List.range h₀.objs.size) [it] items.size P (fun i h => OffIt it h₀ h ∧ h.IsListIter it l i) where
  sub := fun b hb => by rw [List.mem_singleton.mp hb]; exact List.mem_range.mpr hit
  frame := fun i h h' st hk => ⟨fun b o hb e => hk b (List.mem_range.mpr (Heap.lt_size e)) o (st.1 b o hb e), st.2.at fun o e => hk it (List.mem_range.mpr hit) o e⟩
  item := fun i s Q E hi st hQ => by
    have hIs := st.1 I _ n1 hI
    have hTIs := st.1 TI _ n2 hTI
    have hls : s.heap.IsList l items := hl.at fun o e => st.1 l o n3 e
    have hT : s.TypeIs (.ref I) "map" := ⟨_, hIs, rfl⟩
    unfold pyNext
    refine wpAny_bind (wpAny_attempt (wpAny_callSpecial?_slot (name := Str.ofString "__next__") hT slot_map_next
      (wpAny_call_entry slot_map_next hT entry_map_next ?_ (args_map_next _))))
    show wpAny _ _ (field (.ref I) 0 >>= _) _ _ _
    refine wpAny_bind (wpAny_field hIs rfl (x := .ref TI) rfl ?_)
    refine wpAny_bind (wpAny_seqItems hTIs rfl ?_)
    have hx : items[i]? = some items[i] := by simp [hi]
    dsimp only
    rw [← Array.forIn_toList]
    simp only [List.forIn_cons, List.forIn_nil]
    refine wpAny_bind (wpAny_bind (wpAny_bind (wpAny_holding (wpAny_nextOf_list_item st.2 hls hx fun h₁ hit₁ hs₁ => ?_))))
    refine wpAny_pure (wpAny_pure ?_)
    have hIs₁ := hs₁.extBut I _ n1 hIs
    refine wpAny_bind (wpAny_field hIs₁ rfl (x := f) rfl ?_)
    refine wpAny_bind (wpAny_holding ?_)
    have ho₁ : OffIt it h₀ h₁ := fun b o hb e => hs₁.extBut b o hb (st.1 b o hb e)
    refine hf i _ _ _ _ hx ho₁ fun v h₂ tk hP he => ?_
    refine wpAny_bind (wpAny_letGo (wpAny_pure ⟨_, rfl, wpAny_pure (hQ v h₂ tk hP ⟨fun b o hb e => he b o (ho₁ b o hb e), hit₁.at fun o e => he it o e⟩ fun b o hb e => he b o (hs₁.extBut b o (fun e' => hb (List.mem_singleton.mpr e')) e))⟩))
  done := fun s Q E st hQ => by
    have hIs := st.1 I _ n1 hI
    have hTIs := st.1 TI _ n2 hTI
    have hls : s.heap.IsList l items := hl.at fun o e => st.1 l o n3 e
    have hT : s.TypeIs (.ref I) "map" := ⟨_, hIs, rfl⟩
    unfold pyNext
    refine wpAny_bind (wpAny_attempt (wpAny_callSpecial?_slot (name := Str.ofString "__next__") hT slot_map_next
      (wpAny_call_entry slot_map_next hT entry_map_next ?_ (args_map_next _))))
    show wpAny _ _ (field (.ref I) 0 >>= _) _ _ _
    refine wpAny_bind (wpAny_field hIs rfl (x := .ref TI) rfl ?_)
    refine wpAny_bind (wpAny_seqItems hTIs rfl ?_)
    dsimp only
    rw [← Array.forIn_toList]
    simp only [List.forIn_cons, List.forIn_nil]
    refine wpAny_bind (wpAny_bind (wpAny_bind (wpAny_holding (wpAny_nextOf_list_end (A := A.in1) hh st.2 hls (by simp) fun h₁ e he hx => ?_))))
    obtain ⟨o, ho, hc⟩ := hx
    refine wpAny_bind (wpAny_isInstance (T := "StopIteration") (b := true) ⟨o, ho, hc⟩ isSubtype_stop ?_)
    exact wpAny_pure (hQ h₁ s.toks fun b o hb e => he b o (fun e' => hb (List.mem_singleton.mpr e')) e)
  self := fun i s Q E st hQ => by
    have hIs := st.1 I _ n1 hI
    have hT : s.TypeIs (.ref I) "map" := ⟨_, hIs, rfl⟩
    refine wpAny_pyIter_slot hT slot_map_iter (wpAny_call_entry slot_map_iter hT entry_map_iter ?_ (args_map_iter _))
    show wpAny _ _ (ret (.ref I)) _ _ s
    exact wpAny_pure ⟨_, rfl, "map", _, hT, slot_map_next.lookup, hQ⟩
end Mine
end secMMap2
section secMList
namespace Mine
section
variable {prog : Program} {w : World} {A : Around} {E : Value → Shared → Prop} {s : Shared} {I : Addr} {fp wr : List Addr} {n : Nat} {P : Nat → Value → Prop} {St : Nat → Heap → Prop}

theorem extend_walk {T : String} {R : Result → Shared → Prop} (W : Walks prog w A.in1 I fp wr n P St) (hT : ∀ s : Shared, St 0 s.heap → s.TypeIs (.ref I) T)
    (h2 : (Value.type T == Value.type "list") = false) (h3 : (Value.type T == Value.type "tuple") = false)
    (hlen : typeLookup (.type T) "__len__" = pure none) (hhint : typeLookup (.type T) "__length_hint__" = pure none)
    (hst : St 0 s.heap) (hn : n ≤ sizeLine) (S : Addr) (hSf : S ∉ fp) (hIf : I ∈ fp) (res : Value) (c₀ : Nat) (hS : s.heap.get? S = some { cls := .type "list", data := .seq #[] c₀ })
    (hR : ∀ h' tk acc' c', (∀ b o, b ≠ S → b ∉ wr → s.heap.get? b = some o → h'.get? b = some o) → h'.get? S = some { cls := .type "list", dict := none, data := .seq acc' c', slots := #[] } →
      ItemsOf P acc' n → R (.ok (.ret res)) { s with heap := h', toks := tk }) :
    wpAny (model prog w) A.in1 (Builtin.List.listExtendWith (.ref S) (.ref I) res)
      (fun fin s' => match fin with | .done f => R (.ok f) s' | .again c' => c'.quiet = true ∧ codeAny (model prog w) A c' R s') (fun e s' => R (.error e) s') s := by
  have hSI : S ≠ I := fun e => hSf (e ▸ hIf)
  unfold Builtin.List.listExtendWith
  refine wpAny_bind (wpAny_typeOf (hT s hst) ?_)
  have h1 : Builtin.List.listSameRef (.ref S) (.ref I) = false := by simp [Builtin.List.listSameRef, hSI]
  simp only [h1, h2, h3, Bool.or_false, Bool.false_eq_true, if_false]
  refine wpAny_bind (W.self 0 _ _ _ hst ?_)
  refine wpAny_bind (wpAny_holding ?_)
  unfold Builtin.List.listLengthHint
  refine wpAny_bind (wpAny_specialOf (hT s hst) hlen ?_)
  show wpAny _ A.in1 (specialOf (Value.ref I) (Str.ofString "__length_hint__") >>= _) _ _ _
  refine wpAny_bind (wpAny_specialOf (hT s hst) hhint ?_)
  refine wpAny_pure ?_
  show wpAny _ A.in1 (rule "list.extend.makes-room" >>= fun _ => Builtin.List.listTouch (.ref S) >>= fun _ =>
    again (.builtin "list.extend.loop" ⟨[.ref S, .ref I, res], []⟩)) _ _ _
  refine wpAny_bind (wpAny_rule ?_)
  refine wpAny_bind ?_
  show wpAny _ A.in1 (updateSeq S (·.push .none) >>= fun _ => updateSeq S (·.pop)) _ _ _
  refine wpAny_bind (wpAny_updateSeq hS rfl ?_)
  have hS₂ := Heap.get?_update_self (Obj.mapSeq (·.push Value.none)) hS rfl
  refine wpAny_updateSeq (hz := by seq_fits) hS₂ rfl ?_
  have hS₃ := Heap.get?_update_self (Obj.mapSeq (·.pop)) hS₂ rfl
  have oth : ∀ b o, b ≠ S → s.heap.get? b = some o → ((s.heap.update S (Obj.mapSeq (·.push Value.none))).update S (Obj.mapSeq (·.pop))).get? b = some o :=
    fun b o hb e => (Heap.get?_update_other _ _ (Ne.symm hb)).trans ((Heap.get?_update_other _ _ (Ne.symm hb)).trans e)
  refine wpAny_pure ⟨plainId_quiet F.plain_extend_loop _, codeAny_extend_loopS W.toS hn _ hSf _ n 0 _ _ _ rfl (Nat.zero_le _)
    (W.frame 0 s.heap _ hst fun b hb o e => oth b o (fun h => hSf (h ▸ hb)) e) hS₃ (ItemsOf.nil P) fun s' acc' c' hm hS' hacc => ?_⟩
  rw [Moved.eq_with hm]
  refine hR s'.heap s'.toks acc' c' (fun b o hb hw e => hm.heap b o (fun hmem => ?_) (oth b o hb e)) hS' hacc
  rcases List.mem_cons.mp hmem with e' | hmem
  · exact hb e'
  · exact hw hmem

theorem call_list_walk {T : String} {Q : Value → Shared → Prop} (W : Walks prog w A.in1.in1 I fp wr n P St) (hT : ∀ s : Shared, St 0 s.heap → s.TypeIs (.ref I) T)
    (h2 : (Value.type T == Value.type "list") = false) (h3 : (Value.type T == Value.type "tuple") = false)
    (hlen : typeLookup (.type T) "__len__" = pure none) (hhint : typeLookup (.type T) "__length_hint__" = pure none)
    (hst : St 0 s.heap) (hn : n ≤ sizeLine) (hIf : I ∈ fp) (hfp : ∀ b ∈ fp, b < s.heap.objs.size)
    (hQ : ∀ h' tk acc' c', (∀ b o, b ∉ wr → s.heap.get? b = some o → h'.get? b = some o) →
      h'.get? s.heap.objs.size = some { cls := .type "list", dict := none, data := .seq acc' c', slots := #[] } → ItemsOf P acc' n → Q (.ref s.heap.objs.size) { s with heap := h', toks := tk }) :
    wpAny (model prog w) A (call (.type "list") [.ref I]) Q E s := by
  refine callType_codes (Q₁ := fun obj s₁ => obj = .ref s.heap.objs.size ∧ s₁ = { s with heap := s.heap.push { cls := .type "list", data := .seq #[] } }) F.called_list (F.typeCall_list_1 _) F.entry_list_init
    (code_list_new _ ⟨rfl, rfl⟩) fun obj s₁ h₁ => ?_
  obtain ⟨rfl, rfl⟩ := h₁
  have hS : (s.heap.push { cls := .type "list", data := .seq #[] }).get? s.heap.objs.size = some { cls := .type "list", data := .seq #[] } := Heap.get?_push_size _ rfl
  have hSf : s.heap.objs.size ∉ fp := fun hm => Nat.lt_irrefl _ (hfp _ hm)
  refine ⟨⟨_, hS, rfl⟩, F.args_list_init_2 _ _, ?_⟩
  show wpAny _ _ (do let old ← Builtin.List.listItems (.ref s.heap.objs.size); Builtin.List.listUpdate (.ref s.heap.objs.size) (fun _ => #[]); letGo old.toList.reverse; Builtin.List.listExtendWith (.ref s.heap.objs.size) (.ref I) .none) _ _ _
  refine wpAny_bind ?_
  unfold Builtin.List.listItems
  refine wpAny_bind (wpAny_seqItems hS rfl (wpAny_pure ?_))
  show wpAny _ _ (updateSeq s.heap.objs.size (fun _ => #[]) >>= fun _ => letGo (#[] : Array Value).toList.reverse >>= fun _ => Builtin.List.listExtendWith (.ref s.heap.objs.size) (.ref I) .none) _ _ _
  refine wpAny_bind (wpAny_updateSeq hS rfl ?_)
  have hS₂ := Heap.get?_update_self (Obj.mapSeq (fun _ => (#[] : Array Value))) hS rfl
  refine wpAny_bind (wpAny_letGo ?_)
  have up : ∀ b o, s.heap.get? b = some o → ((s.heap.push { cls := .type "list", data := .seq #[] }).update s.heap.objs.size (Obj.mapSeq (fun _ => (#[] : Array Value)))).get? b = some o :=
    fun b o e => (Heap.get?_update_other _ _ (Nat.ne_of_gt (Heap.lt_size e))).trans (Heap.get?_push_of_some _ e)
  refine extend_walk (A := A.in1) W hT h2 h3 hlen hhint (W.frame 0 s.heap _ hst fun b _ o e => up b o e) hn s.heap.objs.size hSf hIf .none _ hS₂ fun h' tk acc' c' hk hS' hacc => ?_
  exact ⟨rfl, hQ h' tk acc' c' (fun b o hw e => hk b o (Nat.ne_of_lt (Heap.lt_size e)) hw (up b o e)) hS' hacc⟩
end
end Mine
namespace Mine
theorem ne_add (a k : Nat) : a + (k + 1) ≠ a := by omega
theorem lt_add (a b k : Nat) (h : b = a + (k + 1)) : a < b := by omega
theorem call_list_map {prog : Program} {w : World} {A : Around} {E : Value → Shared → Prop} {s : Shared} {h₁ : Heap} {l : Addr} {f : Value} {items : Array Value} {P : Nat → Value → Prop} {Q : Value → Shared → Prop}
    (hh : A.handled = none) (e1 : Ext h₁ s.heap) (hz : s.heap.objs.size = h₁.objs.size + 3) (hM : s.heap.get? (h₁.objs.size + 2) = some (mapObj (h₁.objs.size + 1) f)) (hTI : s.heap.get? (h₁.objs.size + 1) = some (tup1 (.ref h₁.objs.size)))
    (hIt : s.heap.IsListIter h₁.objs.size l 0) (hl : h₁.IsList l items) (hn : items.size ≤ sizeLine)
    (hf : ∀ i x (s' : Shared) (Q E : Value → Shared → Prop), items[i]? = some x → Ext h₁ s'.heap → (∀ v h' tk, P i v → Ext s'.heap h' → Q v { s' with heap := h', toks := tk }) → wpAny (model prog w) A.in1.in1.in1 (call f [x]) Q E s')
    (hQ : ∀ h' tk acc c, Ext h₁ h' → h₁.get? s.heap.objs.size = none → h'.get? s.heap.objs.size = some (W.listOf acc c) → ItemsOf P acc items.size → Q (.ref s.heap.objs.size) { s with heap := h', toks := tk }) :
    wpAny (model prog w) A (call (.type "list") [.ref (h₁.objs.size + 2)]) Q E s := by
  have nin : ∀ b o, h₁.get? b = some o → b ≠ h₁.objs.size := fun b o e => Nat.ne_of_lt (Heap.lt_size e)
  have hl1 : l ≠ h₁.objs.size := by obtain ⟨o, ho, _⟩ := hl; exact nin _ _ ho
  have W := walks_map (prog := prog) (w := w) (A := A.in1.in1) hh (P := P) hM hTI (hl.at fun o e => e1 l o e) (lt_add _ _ 2 hz) (ne_add _ 1) (ne_add _ 0) hl1
    (fun i x s' Q E hx ho hq => hf i x s' Q E hx (fun b o e => ho b o (nin b o e) (e1 b o e)) hq)
  refine call_list_walk W (T := "map") (fun s' st => ⟨_, st.1 _ _ (ne_add _ 1) hM, rfl⟩) (by decide) (by decide) map_no_len map_no_hint ⟨fun _ _ _ e => e, hIt⟩ hn (List.mem_range.mpr (by rw [hz]; exact Nat.lt_succ_self _)) (fun b hb => List.mem_range.mp hb) ?_
  intro h' tk acc c hk hS hacc
  refine hQ h' tk acc c (fun b o e => hk b o (fun hm => nin b o e (List.mem_singleton.mp hm)) (e1 b o e)) ?_ hS hacc
  cases hq : h₁.get? s.heap.objs.size with
  | none => rfl
  | some o => exact absurd (Heap.lt_size hq) (by rw [hz]; exact Nat.not_lt.mpr (Nat.le_add_right _ _))
end Mine
end secMList
section secMLed
namespace Mine
section
variable {prog : Program} {w : World} {A : Around} {E : Value → Shared → Prop} {s : Shared} {h₀ : Heap} {L D : Addr} {m : Str → Option Value} {rest : List (Addr × Obj)} {vs : List Value} {n : Nat} {v : Value}

theorem news_put {f : Array Value → Array Value} {vs' : List Value} {n' : Nat} (N : News h₀ L s.heap ((D, W.listOf vs.toArray n) :: rest)) (hoff : ∀ p ∈ rest, p.1 ≠ D) (he : f vs.toArray = vs'.toArray) (hn : (if vs'.length == vs.length then n else n + 1) = n') :
    News h₀ L (s.heap.update D (Obj.mapSeq f)) ((D, W.listOf vs'.toArray n') :: rest) := by
  have := ki_turn (pre := []) f N (fun _ h => nomatch h) hoff he (by simpa using hn)
  exact this

theorem fr_put {f : Obj → Obj} {o : Obj} (F : Fr h₀ L s.heap m) (N : News h₀ L s.heap ((D, o) :: rest)) : Fr h₀ L (s.heap.update D f) m :=
  F.change (Heap.SameBut.update ..) (N _ (.head _)).2.1 (N _ (.head _)).2.2

theorem set_led {k : Int} {t : Tok} {Q : Unit → Shared → Prop} (F : Fr h₀ L s.heap m) (N : News h₀ L s.heap ((D, W.listOf vs.toArray n) :: rest)) (hoff : ∀ p ∈ rest, p.1 ≠ D) (h0 : 0 ≤ k) (hk : k < vs.length) (hfit : k < 2 ^ 63)
    (h : ∀ h', Fr h₀ L h' m → News h₀ L h' ((D, W.listOf (vs.set k.toNat v).toArray n) :: rest) → Q () { s with heap := h' }) : wpAny (model prog w) A (setItem (.ref D) (.int k t) v) Q E s := by
  refine ki_setAt (N _ (.head _)).1 h0 hfit (by simpa using hk) (h _ (fr_put F N) (news_put N hoff ?_ ?_))
  · simp
  · simp

theorem setBack_led {k : Int} {t : Tok} {Q : Unit → Shared → Prop} (F : Fr h₀ L s.heap m) (N : News h₀ L s.heap ((D, W.listOf vs.toArray n) :: rest)) (hoff : ∀ p ∈ rest, p.1 ≠ D) (h0 : k < 0) (hk : -(vs.length : Int) ≤ k) (hfit : -(2 ^ 63) ≤ k)
    (h : ∀ h', Fr h₀ L h' m → News h₀ L h' ((D, W.listOf (vs.set (k + vs.length).toNat v).toArray n) :: rest) → Q () { s with heap := h' }) : wpAny (model prog w) A (setItem (.ref D) (.int k t) v) Q E s := by
  refine ki_setBack (N _ (.head _)).1 h0 (by simpa using hk) hfit (h _ (fr_put F N) (news_put N hoff ?_ ?_))
  · simp
  · simp
end
theorem strValues_get {c : List (Str × Tok)} {i : Nat} {p : Str × Tok} (h : c[i]? = some p) : (strValues c)[i]? = some (.str p.1 p.2) := by simp [strValues, h]
theorem strValues_length (c : List (Str × Tok)) : (strValues c).length = c.length := by simp [strValues]
theorem strValues_set (c : List (Str × Tok)) (i : Nat) (y : Str) (t : Tok) : (strValues c).set i (.str y t) = strValues (c.set i (y, t)) := by simp [strValues, List.map_set]
end Mine
end secMLed
section secMTp
namespace Mine
theorem itemsOf_strs {n : Nat} {acc : Array Value} {ys : List Str} (hn : ys.length = n) (h : ItemsOf (fun i v => ∃ y t, ys[i]? = some y ∧ v = Value.str y t) acc n) :
    ∃ l : List (Str × Tok), acc = (strValues l).toArray ∧ l.map (·.1) = ys := by
  obtain ⟨h1, h2⟩ := h
  have key : ∀ (vs : List Value) (ys : List Str), vs.length = ys.length → (∀ (j : Nat) (v : Value), vs[j]? = some v → ∃ y t, ys[j]? = some y ∧ v = Value.str y t) → ∃ l : List (Str × Tok), vs = strValues l ∧ l.map (·.1) = ys := by
    intro vs
    induction vs with
    | nil =>
      intro ys hl _
      refine ⟨[], rfl, ?_⟩
      (cases ys with
      | nil => rfl
      | cons _ _ => cases hl)
    | cons v vs ih =>
      intro ys hl hv
      cases ys with
      | nil => cases hl
      | cons y ys =>
        obtain ⟨y', t, e1, e2⟩ := hv 0 v rfl
        obtain ⟨l, e3, e4⟩ := ih ys (by simpa using hl) (fun j v' hj => hv (j + 1) v' hj)
        cases e1
        exact ⟨(y, t) :: l, by rw [e2, e3]; rfl, by simp [e4]⟩
  obtain ⟨l, e1, e2⟩ := key acc.toList ys (by simp [h1, hn]) (fun j v hj => h2 j v (by simpa using hj))
  exact ⟨l, by rw [← e1], e2⟩

noncomputable def wrapS (y : Str) : Str := Str.ofString "(?>.*?" ++ y ++ Str.ofString ")"
/-- the first k behind the head are wrapped -/
noncomputable def wrapTo (k : Nat) (ys : List Str) : List Str := ys.mapIdx fun i y => if 1 ≤ i ∧ i < 1 + k then wrapS y else y


noncomputable def partsS (x : Str) : List Str := (Txt.split x (Str.ofString "*")).map esc
noncomputable def finS (x : Str) : List Str := (wrapTo ((partsS x).length - 2) (partsS x)).set ((partsS x).length - 1) (Str.ofString ".*" ++ ((wrapTo ((partsS x).length - 2) (partsS x)).getD ((partsS x).length - 1) Str.empty))
noncomputable def tpS (x : Str) : Str := Txt.join (Str.ofString "") (finS x)

theorem partsS_pos (x : Str) : 1 ≤ (partsS x).length := by
  unfold partsS
  rw [List.length_map]
  unfold Txt.split
  split
  · simp
  · rw [StrLaws.partsBetween_eq]
    obtain ⟨p, r, e⟩ := StrLaws.partsFrom_ne x (Str.ofString "*").length 0 _
    rw [e]; split <;> simp
theorem esc_length (x : Str) : (esc x).length ≤ 2 * x.length := by
  show (escL x.cps.toList).toArray.size ≤ 2 * x.cps.size
  have := escL_length x.cps.toList
  simpa using this
theorem partsS_short {x y : Str} (h : y ∈ partsS x) : y.length ≤ 2 * x.length := by
  unfold partsS at h
  obtain ⟨z, hz, rfl⟩ := List.mem_map.mp h
  have := part_short hz
  have := esc_length z
  omega
theorem partsS_len (x : Str) : (partsS x).length ≤ x.length + 1 := by
  unfold partsS
  rw [List.length_map]
  have := split_weight x (Str.ofString "*") (by decide)
  omega
theorem wrapTo_length (k : Nat) (ys : List Str) : (wrapTo k ys).length = ys.length := by simp [wrapTo]
theorem wrapTo_get (k : Nat) (ys : List Str) (i : Nat) : (wrapTo k ys)[i]? = ys[i]?.map fun y => if 1 ≤ i ∧ i < 1 + k then wrapS y else y := by simp [wrapTo]
theorem wrapTo_zero (ys : List Str) : wrapTo 0 ys = ys := by
  apply List.ext_getElem?
  intro i
  rw [wrapTo_get]
  have h : ¬ (1 ≤ i ∧ i < 1 + 0) := by omega
  simp only [if_neg h]
  cases ys[i]? <;> rfl
theorem wrapTo_step (k : Nat) (ys : List Str) (y : Str) (h : ys[1 + k]? = some y) : (wrapTo k ys).set (1 + k) (wrapS y) = wrapTo (k + 1) ys := by
  apply List.ext_getElem?
  intro i
  rw [List.getElem?_set, wrapTo_get, wrapTo_get, wrapTo_length]
  by_cases hi : 1 + k = i
  · subst hi
    have hl : 1 + k < ys.length := (List.getElem?_eq_some_iff.mp h).1
    have h1 : 1 ≤ 1 + k ∧ 1 + k < 1 + (k + 1) := by omega
    rw [if_pos rfl, if_pos hl, h]
    simp only [Option.map_some, if_pos h1]
  · rw [if_neg hi]
    cases ys[i]? with
    | none => rfl
    | some z =>
      simp only [Option.map_some]
      by_cases h1 : 1 ≤ i ∧ i < 1 + k
      · rw [if_pos h1, if_pos (by omega)]
      · rw [if_neg h1, if_neg (by omega)]
theorem wrapS_length (y : Str) : (wrapS y).length = y.length + 7 := by
  unfold wrapS
  rw [Str.length_append, Str.length_append]
  have h1 : (Str.ofString "(?>.*?").length = 6 := by decide
  have h2 : (Str.ofString ")").length = 1 := by decide
  omega
theorem mem_wrapTo {k : Nat} {ys : List Str} {z : Str} {B : Nat} (hb : ∀ y ∈ ys, y.length ≤ B) (h : z ∈ wrapTo k ys) : z.length ≤ B + 7 := by
  obtain ⟨i, hi⟩ := List.mem_iff_getElem?.mp h
  rw [wrapTo_get] at hi
  obtain ⟨y, hy, rfl⟩ := Option.map_eq_some_iff.mp hi
  have := hb y (List.mem_of_getElem? hy)
  split
  · rw [wrapS_length]; omega
  · omega
theorem sum_le {l : List Nat} {B : Nat} (h : ∀ n ∈ l, n ≤ B) : l.sum ≤ l.length * B := by
  induction l with
  | nil => simp
  | cons a r ih =>
    rw [List.sum_cons, List.length_cons, Nat.succ_mul]
    have := h a List.mem_cons_self
    have := ih fun n hn => h n (List.mem_cons_of_mem _ hn)
    omega
theorem strsAre_values (c : List (Str × Tok)) : StrsAre (strValues c) (c.map (·.1)) := by
  induction c with
  | nil => exact .nil
  | cons p r ih => exact .cons _ _ ih
end Mine
namespace Mine
/-- a goal that the walk is to leave -/
noncomputable def Stop (P : Prop) : Prop := P
theorem Stop.of {P : Prop} (h : Stop P) : P := h
theorem Stop.go {P : Prop} (h : P) : Stop P := h
end Mine
end secMTp
section secMTxt
namespace Mine
/-- a text by its signs' numbers -/
noncomputable def S (l : List Nat) : Str := ⟨l.toArray⟩
theorem S_cps (l : List Nat) : (S l).cps.toList = l := by simp [S]
theorem S_of (x : Str) : S x.cps.toList = x := by cases x; simp [S]
theorem S_length (l : List Nat) : (S l).length = l.length := by simp [S, Str.length]
theorem S_inj {a b : List Nat} (h : S a = S b) : a = b := by rw [← S_cps a, h, S_cps]
theorem S_eq_iff {a b : List Nat} : S a = S b ↔ a = b := ⟨S_inj, congrArg S⟩
theorem S_append (a b : List Nat) : S a ++ S b = S (a ++ b) := by
  apply Str.ext'
  rw [Str.cps_append]
  simp [S]
theorem esc_S (l : List Nat) : esc (S l) = S (escL l) := by simp [esc, S]

theorem clipN (a n : Nat) : max (0 : Int) (min (if (a : Int) < 0 then (a : Int) + n else (a : Int)) n) = ((min a n : Nat) : Int) := by
  rw [if_neg (Int.not_lt.mpr (Int.natCast_nonneg a)), show min (a : Int) (n : Int) = ((min a n : Nat) : Int) by omega, Int.max_eq_right (Int.natCast_nonneg _)]
theorem sliceIdxN (a b n : Nat) : Builtin.Str.strSliceIndices (some (a : Int)) (some (b : Int)) 1 n = sliceRange ((min a n : Nat) : Int) ((min b n : Nat) : Int) 1 := by
  unfold Builtin.Str.strSliceIndices
  simp only [show (1 : Int) > 0 by decide, if_true, clipN]
theorem sliceN {xs : List Nat} {a b : Nat} : Txt.slice (S xs) (some (a : Int)) (some (b : Int)) = S ((xs.drop a).take (b - a)) := by
  have e : Txt.slice (S xs) (some (a : Int)) (some (b : Int)) = Txt.slice (S xs) (some ((min a xs.length : Nat) : Int)) (some ((min b xs.length : Nat) : Int)) := by
    unfold Txt.slice
    rw [S_length, sliceIdxN, sliceIdxN, Nat.min_assoc, Nat.min_self, Nat.min_assoc, Nat.min_self]
  rw [e]
  have hd : (xs.drop a).take (b - a) = (xs.drop (min a xs.length)).take (min b xs.length - min a xs.length) := by
    rcases Nat.le_total a xs.length with h | h
    · rw [Nat.min_eq_left h]
      rcases Nat.le_total b xs.length with h2 | h2
      · rw [Nat.min_eq_left h2]
      · rw [Nat.min_eq_right h2, List.take_of_length_le (by rw [List.length_drop]; omega), List.take_of_length_le (Nat.le_of_eq List.length_drop)]
    · rw [Nat.min_eq_right h, List.drop_of_length_le h, List.drop_of_length_le (Nat.le_refl _), List.take_nil, List.take_nil]
  rw [hd]
  rcases Nat.le_total (min a xs.length) (min b xs.length) with h | h
  · have := slice_closes (x := S xs) (i := ((min a xs.length : Nat) : Int)) (j := ((min b xs.length : Nat) : Int)) ⟨Int.natCast_nonneg _, Int.ofNat_le.mpr h, by rw [S_cps]; exact Int.ofNat_le.mpr (Nat.min_le_right ..)⟩
    rw [beq_iff_eq.mp this, S_cps, Int.toNat_natCast, Int.toNat_sub]
    rfl
  · have h0 : Builtin.Str.strSliceIndices (some ((min a xs.length : Nat) : Int)) (some ((min b xs.length : Nat) : Int)) 1 xs.length = [] := by
      rw [sliceIdxN, Nat.min_assoc, Nat.min_self, Nat.min_assoc, Nat.min_self]
      unfold sliceRange
      rw [if_pos (by decide), if_neg (Int.not_lt.mpr (Int.ofNat_le.mpr h))]
      rfl
    unfold Txt.slice
    rw [S_length, h0, Nat.sub_eq_zero_of_le h, List.take_zero]
    cases xs with
    | nil => rfl
    | cons x r => rfl
theorem slice_S {xs : List Nat} {i j : Int} (hi : 0 ≤ i) (hj : 0 ≤ j) : Txt.slice (S xs) (some i) (some j) = S ((xs.drop i.toNat).take (j.toNat - i.toNat)) := by
  rw [← Int.toNat_of_nonneg hi, ← Int.toNat_of_nonneg hj]
  exact sliceN

section
variable {prog : Program} {w : World} {A : Around} {E : Value → Shared → Prop} {s : Shared} {t u : Tok} {value slice : PySem.Expr} {Q : Value → Shared → Prop} {h₀ : Heap} {L : Addr} {m : Str → Option Value} {news : List (Addr × Obj)}

theorem item_S {xs : List Nat} {k : Int} {c : Nat} (h0 : 0 ≤ k) (hfit : k < 2 ^ 62) (hx : xs[k.toNat]? = some c) (h : ∀ t' tk, Q (.str (S [c]) t') { s with toks := tk })
    (hs : subscripted slice false (.str (S xs) t) (.int k u) = operate [.str (S xs) t, .int k u] (getItem (.str (S xs) t) (.int k u)) := by with_unfolding_all rfl)
    (ht : ∀ r, letTemporaryGo value (.str (S xs) t) r = pure () := by intro _; with_unfolding_all rfl) :
    wpAny (model prog w) A (subscriptTail value slice (.str (S xs) t) (.int k u)) Q E s := by
  have hlt : k.toNat < xs.length := (List.getElem?_eq_some_iff.mp hx).1
  refine item_str (fitsSsize_of (N := 2 ^ 62) (by omega) (by omega) (by decide)) (by omega) (by rw [S_length]; omega) (fun _ => ?_) hs ht
  have e : Txt.item (S xs) k = S [c] := by
    unfold Txt.item Txt.charAt
    have h1 : seqIndex? k (S xs).length = some k.toNat := by
      rw [S_length]
      unfold seqIndex?
      have h1 : ¬ k < 0 := by omega
      have h2 : (0 : Int) ≤ k ∧ k < (xs.length : Int) := by omega
      simp only [if_neg h1]
      simp [h2]
    rw [h1]
    simp [S, hx]
  rw [e]
  exact h _ _

theorem cut_S {xs : List Nat} {i j : Int} {ui uj : Tok} (hi : 0 ≤ i) (hj : 0 ≤ j) (hF : Fr h₀ L s.heap m) (hN : News h₀ L s.heap news)
    (h : ∀ h' t' k, Fr h₀ L h' m → News h₀ L h' news → Q (.str (S ((xs.drop i.toNat).take (j.toNat - i.toNat))) t') { s with heap := h', toks := k })
    (hs : subscripted slice false (.str (S xs) t) (.ref s.heap.objs.size) = operate [.ref s.heap.objs.size, .str (S xs) t] (getItem (.str (S xs) t) (.ref s.heap.objs.size)) := by with_unfolding_all rfl)
    (ht : ∀ r, letTemporaryGo value (.str (S xs) t) r = pure () := by intro _; with_unfolding_all rfl) (hsz : xs.length ≤ 16777216) :
    wpAny (model prog w) A (subscriptTail value slice (.str (S xs) t) (.ref s.heap.objs.size)) Q E { s with heap := s.heap.push { cls := .type "slice", data := .fields #[.int i ui, .int j uj, .none] } } := by
  refine slice_strN_ss_len hF hN (fun h' t' k F' N' _ => ?_) hs ht (by rw [S_length, sizeLine_eq]; exact hsz)
  rw [slice_S hi hj]
  exact h h' t' k F' N'

theorem eq_S {a b : List Nat} (h : Q (.bool (decide (a = b))) s) : wpAny (model prog w) A (compareOp .Eq (.str (S a) t) (.str (S b) u)) Q E s := by
  refine PyProof.Rows.eq_str ?_
  have : (S a == S b) = decide (a = b) := by
    rw [Bool.eq_iff_iff, beq_iff_eq, S_eq_iff, decide_eq_true_eq]
  rw [this]; exact h
theorem iadd_S {a b : List Nat} (hsz : a.length + b.length ≤ 16777216) (h : ∀ t' tk, Q (.str (S (a ++ b)) t') { s with toks := tk }) : wpAny (model prog w) A (inplaceOp .Add (.str (S a) t) (.str (S b) u)) Q E s := by
  refine PyProof.Rows.iadd_str (fun t' tk => ?_) (by rw [S_length, S_length, sizeLine_eq]; exact hsz)
  rw [S_append]; exact h t' tk
theorem add_S {a b : List Nat} (hsz : a.length + b.length ≤ 16777216) (h : ∀ t' tk, Q (.str (S (a ++ b)) t') { s with toks := tk }) : wpAny (model prog w) A (binaryOp .Add (.str (S a) t) (.str (S b) u)) Q E s := by
  refine PyProof.Rows.add_str (fun t' tk => ?_) (by rw [S_length, S_length, sizeLine_eq]; exact hsz)
  rw [S_append]; exact h t' tk
theorem ltI_t {a b : Int} (h : a < b) (hq : Q (.bool true) s) : wpAny (model prog w) A (compareOp .Lt (.int a t) (.int b u)) Q E s := by
  refine PyProof.Rows.lt_int ?_; rw [decide_eq_true h]; exact hq
theorem ltI_f {a b : Int} (h : b ≤ a) (hq : Q (.bool false) s) : wpAny (model prog w) A (compareOp .Lt (.int a t) (.int b u)) Q E s := by
  refine PyProof.Rows.lt_int ?_; rw [decide_eq_false (Int.not_lt.mpr h)]; exact hq
theorem gtI_t {a b : Int} (h : b < a) (hq : Q (.bool true) s) : wpAny (model prog w) A (compareOp .Gt (.int a t) (.int b u)) Q E s := by
  refine PyProof.Rows.gt_int ?_; rw [decide_eq_true h]; exact hq
theorem gtI_f {a b : Int} (h : a ≤ b) (hq : Q (.bool false) s) : wpAny (model prog w) A (compareOp .Gt (.int a t) (.int b u)) Q E s := by
  refine PyProof.Rows.gt_int ?_; rw [decide_eq_false (Int.not_lt.mpr h)]; exact hq
theorem eqL_t {x y : Str} (h : x = y) (hq : Q (.bool true) s) : wpAny (model prog w) A (compareOp .Eq (.str x t) (.str y u)) Q E s := by
  refine PyProof.Rows.eq_str ?_
  rw [h, beq_self_eq_true]; exact hq
theorem eqL_f {x y : Str} (h : x ≠ y) (hq : Q (.bool false) s) : wpAny (model prog w) A (compareOp .Eq (.str x t) (.str y u)) Q E s := by
  refine PyProof.Rows.eq_str ?_
  rw [beq_eq_false_iff_ne.mpr h]; exact hq
theorem neL_t {x y : Str} (h : x ≠ y) (hq : Q (.bool true) s) : wpAny (model prog w) A (compareOp .NotEq (.str x t) (.str y u)) Q E s := by
  refine ne_str ?_
  rw [bne, beq_eq_false_iff_ne.mpr h]; exact hq
theorem neL_f {x y : Str} (h : x = y) (hq : Q (.bool false) s) : wpAny (model prog w) A (compareOp .NotEq (.str x t) (.str y u)) Q E s := by
  refine ne_str ?_
  rw [h, bne, beq_self_eq_true]; exact hq
theorem inL_t {x y : Str} (h : Txt.contains x y = true) (hq : Q (.bool true) s) : wpAny (model prog w) A (compareOp .In (.str y u) (.str x t)) Q E s := by
  refine PyProof.Rows.in_str ?_
  rw [show (!(Builtin.Str.occurrences x y 0 x.length 1).isEmpty) = true from h]; exact hq
theorem inL_f {x y : Str} (h : Txt.contains x y = false) (hq : Q (.bool false) s) : wpAny (model prog w) A (compareOp .In (.str y u) (.str x t)) Q E s := by
  refine PyProof.Rows.in_str ?_
  rw [show (!(Builtin.Str.occurrences x y 0 x.length 1).isEmpty) = false from h]; exact hq
end
theorem contains_S (b : List Nat) (c : Nat) : Txt.contains (S b) (S [c]) = decide (c ∈ b) := by
  have := StrLaws.found_one (S b) c
  rw [S_cps] at this
  exact this
end Mine
end secMTxt
section secMCut
namespace Mine
/-- a text cut at its stars -/
noncomputable def cut : List Nat → List (List Nat)
  | [] => [[]]
  | c :: r => if c = 42 then [] :: cut r else match cut r with
    | [] => [[c]]
    | p :: ps => (c :: p) :: ps
theorem cut_ne (l : List Nat) : ∃ p ps, cut l = p :: ps := by
  cases l with
  | nil => exact ⟨_, _, rfl⟩
  | cons c r =>
    rw [cut]
    split
    · exact ⟨_, _, rfl⟩
    · split <;> exact ⟨_, _, rfl⟩
/-- pieces put together by stars -/
noncomputable def glue : List (List Nat) → List Nat
  | [] => []
  | [p] => p
  | p :: q :: r => p ++ 42 :: glue (q :: r)
theorem glue_cut (l : List Nat) : glue (cut l) = l := by
  induction l with
  | nil => rfl
  | cons c r ih =>
    rw [cut]
    obtain ⟨p, ps, e⟩ := cut_ne r
    rw [e] at ih ⊢
    split
    · rename_i h; subst h
      show [] ++ 42 :: glue (p :: ps) = _
      rw [ih]; rfl
    · cases ps with
      | nil => show c :: p = _; rw [show p = r from ih]
      | cons q ps =>
        have h2 : p ++ 42 :: glue (q :: ps) = r := ih
        show (c :: p) ++ 42 :: glue (q :: ps) = _
        rw [List.cons_append, h2]
theorem cut_free (l : List Nat) : ∀ p ∈ cut l, 42 ∉ p := by
  induction l with
  | nil => intro p hp; rw [List.mem_singleton.mp hp]; simp
  | cons c r ih =>
    rw [cut]
    obtain ⟨p, ps, e⟩ := cut_ne r
    rw [e] at ih ⊢
    split
    · intro q hq
      rcases List.mem_cons.mp hq with rfl | hq
      · simp
      · exact ih q hq
    · rename_i hc
      intro q hq
      rcases List.mem_cons.mp hq with rfl | hq
      · have := ih p List.mem_cons_self
        simp [this, Ne.symm hc]
      · exact ih q (List.mem_cons_of_mem _ hq)
theorem cut_free_eq (p : List Nat) (h : 42 ∉ p) : cut p = [p] := by
  induction p with
  | nil => rfl
  | cons c r ih =>
    have h1 : c ≠ 42 := fun e => h (by simp [e])
    rw [cut, if_neg h1, ih (fun e => h (by simp [e]))]
theorem cut_star (p r : List Nat) (h : 42 ∉ p) : cut (p ++ 42 :: r) = p :: cut r := by
  induction p with
  | nil => simp [cut]
  | cons c q ih =>
    have h1 : c ≠ 42 := fun e => h (by simp [e])
    rw [List.cons_append, cut, if_neg h1, ih (fun e => h (by simp [e]))]
theorem cut_glue : ∀ (ps : List (List Nat)), ps ≠ [] → (∀ p ∈ ps, 42 ∉ p) → cut (glue ps) = ps
  | [], h, _ => absurd rfl h
  | [p], _, h => by rw [glue, cut_free_eq p (h p (by simp))]
  | p :: q :: r, _, h => by
    rw [glue, cut_star p _ (h p (by simp)), cut_glue (q :: r) (by simp) (fun x hx => h x (List.mem_cons_of_mem _ hx))]

theorem glued_list (sep : Str) (ps : List Str) : (Builtin.Str.glued sep ps).cps.toList = (ps.headD Str.empty).cps.toList ++ ((ps.drop 1).map fun p => sep.cps.toList ++ p.cps.toList).flatten := by
  unfold Builtin.Str.glued
  have key : ∀ (l : List Str) (a : Array Nat), (l.foldl (fun acc p => acc ++ sep.cps ++ p.cps) a).toList = a.toList ++ (l.map fun p => sep.cps.toList ++ p.cps.toList).flatten := by
    intro l
    induction l with
    | nil => intro a; simp
    | cons p r ih => intro a; rw [List.foldl_cons, ih]; simp
  exact key _ _
theorem glue_list (p : List Nat) (ps : List (List Nat)) : glue (p :: ps) = p ++ (ps.map fun q => 42 :: q).flatten := by
  induction ps generalizing p with
  | nil => simp [glue]
  | cons q r ih => rw [glue, ih]; simp
theorem split_S (l : List Nat) : Txt.split (S l) (Str.ofString "*") = (cut l).map S := by
  have h1 : Str.ofString "*" = ⟨#[42]⟩ := by decide +kernel
  have hj := StrLaws.join_split (S l) (Str.ofString "*")
  have hf := StrLaws.split_free (S l) 42
  rw [← h1] at hf
  have hpos := partsS_pos (S l)
  unfold partsS at hpos
  rw [List.length_map] at hpos
  generalize Txt.split (S l) (Str.ofString "*") = ys at *
  have e1 : ys = (ys.map (·.cps.toList)).map S := by
    rw [List.map_map]
    conv => lhs; rw [← List.map_id ys]
    apply List.map_congr_left
    intro y _
    exact (S_of y).symm
  have hg : glue (ys.map (·.cps.toList)) = l := by
    cases ys with
    | nil => simp at hpos
    | cons y r =>
      rw [List.map_cons, glue_list]
      rw [← StrLaws.glued_eq_join] at hj
      have h2 := congrArg (fun z : Str => z.cps.toList) hj
      simp only [S_cps] at h2
      rw [glued_list, h1] at h2
      rw [← h2]
      simp [Function.comp_def]
  rw [e1]
  congr 1
  rw [← hg, cut_glue]
  · cases ys with
    | nil => simp at hpos
    | cons y r => simp
  · intro p hp
    obtain ⟨y, hy, rfl⟩ := List.mem_map.mp hp
    exact hf y hy

/-- what a part in the middle becomes -/
noncomputable def wrapL (p : List Nat) : List Nat := [40, 63, 62, 46, 42, 63] ++ p ++ [41]
noncomputable def tailP : List (List Nat) → List Nat
  | [] => []
  | [l] => 46 :: 42 :: l
  | m :: q :: r => wrapL m ++ tailP (q :: r)
/-- the pattern of a path whose masked parts are these -/
noncomputable def tpP : List (List Nat) → List Nat
  | [] => []
  | [p] => 46 :: 42 :: p
  | p :: q :: r => p ++ tailP (q :: r)
noncomputable def tpL (l : List Nat) : List Nat := tpP ((cut l).map escL)

theorem wrapS_S (p : List Nat) : wrapS (S p) = S (wrapL p) := by
  unfold wrapS wrapL
  have h1 : Str.ofString "(?>.*?" = S [40, 63, 62, 46, 42, 63] := by decide +kernel
  have h2 : Str.ofString ")" = S [41] := by decide +kernel
  rw [h1, h2, S_append, S_append]
theorem partsS_S (l : List Nat) : partsS (S l) = ((cut l).map escL).map S := by
  unfold partsS
  rw [split_S, List.map_map, List.map_map]
  apply List.map_congr_left
  intro p _
  exact esc_S p
/-- the list behind the loop and the last store, by lists of numbers -/
noncomputable def finL (ps : List (List Nat)) : List (List Nat) := match ps with
  | [] => []
  | [p] => [46 :: 42 :: p]
  | p :: q :: r => p :: finT (q :: r)
where finT : List (List Nat) → List (List Nat)
  | [] => []
  | [l] => [46 :: 42 :: l]
  | m :: q :: r => wrapL m :: finT (q :: r)
theorem finT_flat : ∀ ps, (finL.finT ps).flatten = tailP ps
  | [] => rfl
  | [l] => by simp [finL.finT, tailP]
  | m :: q :: r => by rw [finL.finT, tailP, List.flatten_cons, finT_flat (q :: r)]
theorem finL_flat (ps : List (List Nat)) : (finL ps).flatten = tpP ps := by
  match ps with
  | [] => rfl
  | [p] => simp [finL, tpP]
  | p :: q :: r => rw [finL, tpP, List.flatten_cons, finT_flat]
theorem finT_get : ∀ (ps : List (List Nat)) (i : Nat), (finL.finT ps)[i]? = ps[i]?.map fun p => if i + 1 < ps.length then wrapL p else 46 :: 42 :: p
  | [], i => by simp [finL.finT]
  | [l], i => by
    cases i with
    | zero => rfl
    | succ i => simp [finL.finT]
  | m :: q :: r, i => by
    cases i with
    | zero => simp [finL.finT]
    | succ i =>
      rw [finL.finT, List.getElem?_cons_succ, finT_get (q :: r) i, List.getElem?_cons_succ]
      simp only [List.length_cons]
      congr 1
      funext p
      by_cases h : i + 1 < r.length + 1
      · rw [if_pos h, if_pos (by omega)]
      · rw [if_neg h, if_neg (by omega)]
theorem finL_get (ps : List (List Nat)) (i : Nat) : (finL ps)[i]? = ps[i]?.map fun p => if i + 1 = ps.length then 46 :: 42 :: p else if i = 0 then p else wrapL p := by
  match ps with
  | [] => simp [finL]
  | [p] =>
    cases i with
    | zero => rfl
    | succ i => simp [finL]
  | p :: q :: r =>
    cases i with
    | zero => simp [finL]
    | succ i =>
      rw [finL, List.getElem?_cons_succ, List.getElem?_cons_succ, finT_get]
      cases hq : (q :: r)[i]? with
      | none => rfl
      | some z =>
        have hl : i < (q :: r).length := (List.getElem?_eq_some_iff.mp hq).1
        simp only [Option.map_some, List.length_cons] at hl ⊢
        by_cases h : i + 1 < r.length + 1
        · rw [if_pos h, if_neg (by omega), if_neg (by omega)]
        · rw [if_neg h, if_pos (by omega)]
theorem finS_S (l : List Nat) : finS (S l) = (finL ((cut l).map escL)).map S := by
  apply List.ext_getElem?
  intro i
  unfold finS
  rw [partsS_S]
  generalize (cut l).map escL = ps
  rw [List.length_map, List.getElem?_set, wrapTo_length, List.length_map, List.getElem?_map, finL_get, wrapTo_get, List.getElem?_map]
  have hS : Str.ofString ".*" = S [46, 42] := by decide +kernel
  by_cases h1 : ps.length - 1 = i
  · subst h1
    rw [if_pos rfl]
    by_cases h2 : ps.length - 1 < ps.length
    · rw [if_pos h2]
      obtain ⟨p, hp⟩ : ∃ p, ps[ps.length - 1]? = some p := ⟨ps[ps.length - 1], by simp⟩
      rw [List.getD_eq_getElem?_getD, wrapTo_get, List.getElem?_map, hp]
      have h3 : ¬ (1 ≤ ps.length - 1 ∧ ps.length - 1 < 1 + (ps.length - 2)) := by omega
      have h4 : ps.length - 1 + 1 = ps.length := by omega
      simp only [Option.map_some, if_neg h3, if_pos h4, Option.getD_some, hS, S_append]
      rfl
    · rw [if_neg h2]
      have : ps[ps.length - 1]? = none := List.getElem?_eq_none (by omega)
      rw [this]; rfl
  · rw [if_neg h1]
    cases hp : ps[i]? with
    | none => rfl
    | some p =>
      have hl : i < ps.length := (List.getElem?_eq_some_iff.mp hp).1
      have h3 : ¬ (i + 1 = ps.length) := by omega
      simp only [Option.map_some, if_neg h3]
      by_cases h2 : i = 0
      · rw [if_pos h2, if_neg (by omega)]
      · rw [if_neg h2, if_pos (by omega), wrapS_S]
theorem tpS_S (l : List Nat) : tpS (S l) = S (tpL l) := by
  have : (tpS (S l)).cps.toList = tpL l := by
    unfold tpS Txt.join
    rw [glued_list, finS_S]
    unfold tpL
    rw [← finL_flat]
    have h0 : (Str.ofString "").cps.toList = [] := by decide +kernel
    rw [h0]
    cases finL ((cut l).map escL) with
    | nil => rfl
    | cons p r =>
      simp only [List.map_cons, List.headD_cons, List.drop_succ_cons, List.drop_zero, List.nil_append, S_cps, List.flatten_cons, List.map_map]
      congr 2
      conv => rhs; rw [← List.map_id r]
      apply List.map_congr_left
      intro q _
      exact S_cps q
  rw [← S_of (tpS (S l)), this]

theorem cut_sum (l : List Nat) : ((cut l).map (·.length)).sum + (cut l).length = l.length + 1 := by
  induction l with
  | nil => rfl
  | cons c r ih =>
    rw [cut]
    obtain ⟨p, ps, e⟩ := cut_ne r
    rw [e] at ih ⊢
    split
    · simp only [List.map_cons, List.sum_cons, List.length_cons, List.length_nil] at ih ⊢; omega
    · simp only [List.map_cons, List.sum_cons, List.length_cons] at ih ⊢; omega
theorem tailP_len : ∀ ps : List (List Nat), (tailP ps).length ≤ (ps.map (·.length)).sum + 7 * ps.length
  | [] => by simp [tailP]
  | [l] => by simp [tailP]
  | m :: q :: r => by
    have ih := tailP_len (q :: r)
    rw [tailP]
    simp only [wrapL, List.length_append, List.length_cons, List.length_nil, List.map_cons, List.sum_cons] at ih ⊢
    omega
theorem tpP_len (ps : List (List Nat)) : (tpP ps).length ≤ (ps.map (·.length)).sum + 7 * ps.length := by
  match ps with
  | [] => simp [tpP]
  | [l] => simp [tpP]
  | p :: q :: r =>
    have := tailP_len (q :: r)
    rw [tpP]
    simp only [List.length_append, List.length_cons, List.map_cons, List.sum_cons] at this ⊢
    omega
theorem tpL_len (l : List Nat) : (tpL l).length ≤ 9 * l.length + 9 := by
  have h1 := tpP_len ((cut l).map escL)
  have h2 := cut_sum l
  have h3 : (((cut l).map escL).map (·.length)).sum ≤ 2 * ((cut l).map (·.length)).sum := by
    generalize cut l = ps
    induction ps with
    | nil => simp
    | cons p r ih =>
      have := escL_length p
      simp only [List.map_cons, List.sum_cons] at ih ⊢
      omega
  rw [List.length_map] at h1
  unfold tpL
  omega
end Mine
end secMCut
section secMJoin
namespace Mine
section
variable {prog : Program} {w : World} {A : Around} {E : Value → Shared → Prop} {s : Shared} {u : Tok} {value slice : PySem.Expr} {Q : Value → Shared → Prop} {a : Addr} {l : List (Str × Tok)}
end

section
variable {prog : Program} {w : World} {A : Around} {E : Value → Shared → Prop} {s : Shared} {t u : Tok} {value slice : PySem.Expr} {Q : Value → Shared → Prop} {h₀ : Heap} {L : Addr} {m : Str → Option Value} {news : List (Addr × Obj)}
theorem len_S {xs : List Nat} (hsz : xs.length ≤ 16777216) (h : ∀ t' tk, Q (.int (xs.length : Int) t') { s with toks := tk }) : wpAny (model prog w) A (call (.builtin "len") [.str (S xs) t]) Q E s := by
  refine PyProof.Rows.len_str (by rw [S_length]; omega) ?_
  rw [S_length]
  exact h _ _
theorem len_Sn {xs : List Nat} {n : Nat} (hn : xs.length = n) (hsz : n ≤ 16777216) (h : ∀ t' tk, Q (.int (n : Int) t') { s with toks := tk }) : wpAny (model prog w) A (call (.builtin "len") [.str (S xs) t]) Q E s := by
  subst hn; exact len_S hsz h
end
end Mine
end secMJoin
namespace Mine
open_top hd06 for PySem.Challenge.rw_dn0256_06
end Mine
open Mine
local macro_rules | `(tactic| walk_at "go") => `(tactic| repeat' (first | (k_unfold; (try dsimp only)) | walk1 | (dsimp only; walk1)))
section secA06
namespace Mine
theorem tab06 {w : World} {h : Heap} (X : (hd06.heap_39 w.params).In h) : TabEsc Challenge.rw_dn0256_06.row.prog w h 16 :=
  tabEsc_of (X 16 _ rfl) (by decide +kernel) (by decide +kernel) (by decide +kernel)
local macro_rules | `(tactic| walk_at "getMethod str") => `(tactic| (k_here; (with_reducible show wpAny _ _ (getMethod (Value.str _ _) (Str.ofString "translate") _) _ _ _); refine gm_translate ?_))
local macro_rules | `(tactic| walk_at "call builtin:str.translate") => `(tactic| (k_here; k_dflt (refine call_translate (by assumption) (by decide) (TabEsc.ext (tab06 (by k_asm)) (Fr.keep (by k_asm))) (by assumption) ?_); intro h' tk tk' e'))
theorem ct_escape {w : World} {A : Around} {s : Shared} {x : Str} {t : Tok} {Q E : Value → Shared → Prop} {mean : ExcName → Option Value} {mg mb : Str → Option Value}
   (X : (hd06.heap_39 w.params).In s.heap) (T : Top hd06.view_39 (looseW hd06.view_39 ["_special_chars_map"]) mean mg mb s.heap) (hd : A.depth < recursionLimit) (hh : A.handled = none)
   (hx : x.length ≤ 100000)
   (hQ : ∀ h' tk tk', Ext s.heap h' → Q (.str (esc x) tk') {s with heap := h', toks := tk}) :
   wpAny (model Challenge.rw_dn0256_06.row.prog w) A (call (.ref 26) [.str x t]) Q E s := by
  revert X
  k_fill
  intro X
  refine wpAny_call ?_
  refine call_pos_ret (by omega) (X _ _ rfl) rfl T.nolimit (codeRec_of X (by k_is)) rfl (locs rfl) (fun h₁ F => ?_) 
  replace F : Fr s.heap s.heap.objs.size h₁ (fun y => [(Str.ofString "pattern", Value.str x t)].reverse.lookup y) := F
  have N : News s.heap s.heap.objs.size h₁ [] := News.nil
  walk_at "go"
  exact hQ _ _ _ (Ext.trans F.keep (by assumption))
end Mine
end secA06
section secA06t
namespace Mine
local macro_rules | `(tactic| walk_at "subscriptTail Name Name ref int") => `(tactic| (k_here; k_dflt (refine kim_list (by k_asm) (List.Mem.head _) rfl rfl (by assumption) (by omega) (by assumption) ?_)))
theorem ct_tp {w : World} {A : Around} {s : Shared} {x : Str} {t : Tok} {Q E : Value → Shared → Prop} {mean : ExcName → Option Value} {mg mb : Str → Option Value}
   (X : (hd06.heap_39 w.params).In s.heap) (T : Top hd06.view_39 (looseW hd06.view_39 ["_special_chars_map"]) mean mg mb s.heap) (hd : A.depth + 10 < recursionLimit) (hh : A.handled = none)
   (hx : x.length ≤ 1000)
   (hQ : ∀ h' tk tk', Ext s.heap h' → Q (.str (tpS x) tk') {s with heap := h', toks := tk}) :
   wpAny (model Challenge.rw_dn0256_06.row.prog w) A (call (.ref 33) [.str x t]) Q E s := by
  revert X
  k_fill
  intro X
  have hdeep : ∀ env : Env, (A.deeper env).in1.in1.in1.depth < recursionLimit := fun env => by
    show A.depth + 1 < recursionLimit
    omega
  refine wpAny_call ?_
  refine call_pos_ret (by omega) (X _ _ rfl) rfl T.nolimit (codeRec_of X (by k_is)) rfl (locs rfl) (fun h₁ F => ?_)
  replace F : Fr s.heap s.heap.objs.size h₁ (fun y => [(Str.ofString "path", Value.str x t)].reverse.lookup y) := F
  have N : News s.heap s.heap.objs.size h₁ [] := News.nil
  walk_at "go"
  rename_i l h2 k e1 e2 e3 e4 F2 N2
  dsimp only at e4 N2
  refine call_map e4 (fun h3 hM hTI hIt hz he3 => ?_)
  dsimp only at hM hTI hIt hz he3 ⊢
  walk_at "go"
  refine call_list_map (P := fun i v => ∃ y t, ((partsS x))[i]? = some y ∧ v = Value.str y t) hh he3 hz hM hTI hIt e4 ?_ ?_ ?_
  · have h1 := congrArg List.length e1
    have h2 := partsS_len x
    rw [List.length_map] at h1
    rw [partsS, List.length_map] at h2
    rw [List.size_toArray, strValues_length, sizeLine_eq]; omega
  · intro i v s' Q' E' hi he' hq'
    rw [List.getElem?_toArray] at hi
    obtain ⟨p, hp, rfl⟩ : ∃ p, l[i]? = some p ∧ v = Value.str p.1 p.2 := by
      simp only [strValues, List.getElem?_map] at hi
      obtain ⟨p, h1, h2⟩ := Option.map_eq_some_iff.mp hi
      exact ⟨p, h1, h2.symm⟩
    have hk' : ∀ b o, s.heap.get? b = some o → s'.heap.get? b = some o := fun b o e => he' b o (F2.keep b o e)
    have hpm : p.1 ∈ l.map (·.1) := List.mem_map_of_mem (List.mem_of_getElem? hp)
    have hp1 := e3 _ hpm
    refine ct_escape (X.keeps hk') (T.keeps hk') (hdeep _) (by exact hh) (by omega) (fun h' tk tk' he'' => hq' _ h' tk ⟨_, _, ?_, rfl⟩ he'')
    have : (l.map (·.1))[i]? = some p.1 := by simp [hp]
    rw [e1] at this
    simp [partsS, this]
  intro h4 tk4 acc c4 he4 hn4 hS4 hacc
  rw [List.size_toArray, strValues_length] at hacc
  obtain ⟨l4, rfl, hl4⟩ := itemsOf_strs (ys := partsS x) (by simp [partsS, ← e1]) hacc
  have F4 := F2.keeps he4
  have N4 : News s.heap s.heap.objs.size h4 [(h3.objs.size, W.listOf (strValues l4).toArray c4)] := by
    intro p hp
    rw [List.mem_singleton.mp hp]
    refine ⟨hS4, ?_, ?_⟩
    · have : s.heap.objs.size < h2.objs.size := F2.ns.lt
      exact Nat.ne_of_gt (Nat.lt_of_lt_of_le this (by rw [hz]; exact Nat.le_add_right _ _))
    · cases hq : s.heap.get? h3.objs.size with
      | none => rfl
      | some o => rw [F2.keep _ _ hq] at hn4; cases hn4
  have hlen4 : l4.length ≤ 1001 := by
    have h1 := congrArg List.length hl4
    have h2 := partsS_len x
    rw [List.length_map] at h1
    omega
  have hl4n : l4.length = (partsS x).length := by
    have h1 := congrArg List.length hl4
    rwa [List.length_map] at h1
  clear hM hTI hIt hz N2 F2 e4
  dsimp only
  walk_at "go"
  (rename Fr _ _ _ _ => F5); (rename News _ _ _ _ => N5)
  refine kst_range (σ := List (Str × Tok)) (fun c => [(h3.objs.size, W.listOf (strValues c).toArray c4)]) (fun _ => []) (fun c => c.length = l4.length) [] (fun pre c => c.map (·.1) = wrapTo pre.length (partsS x)) l4 (n := (l4.length - 2 : Nat)) hh (by assumption) ?_ ?_ F5 N5 rfl (fun _ h => nomatch h) ?_ ?_ ?_
  · exact small_one (by omega) (by omega) (by omega) (by omega)
  · rw [rangeSize_nat]; omega
  · rw [List.length_nil, wrapTo_zero]; assumption
  · intro c pre k t u h tk own hk hlt2 hoff hf hP F6 N6
    dsimp only [kstB] at F6
    have hkc : k.toNat < c.length := by omega
    have hk0 : 0 ≤ k := by omega
    have hkn : k.toNat = 1 + pre.length := by omega
    obtain ⟨⟨y0, t0⟩, hc⟩ : ∃ p, c[k.toNat]? = some p := ⟨c[k.toNat], by simp [hkc]⟩
    have hx0 := strValues_get hc
    have hys : (partsS x)[1 + pre.length]? = some y0 := by
      have h1 : (c.map (·.1))[k.toNat]? = some y0 := by simp [hc]
      rw [hP, wrapTo_get, hkn] at h1
      have h2 : ¬ (1 ≤ 1 + pre.length ∧ 1 + pre.length < 1 + pre.length) := by omega
      simpa [h2] using h1
    have hy0 : y0.length ≤ 2000 := by
      have := partsS_short (List.mem_of_getElem? hys)
      omega
    have hkl : k < (strValues c).length := by rw [strValues_length]; omega
    simp only [List.singleton_append] at N6
    walk_at "go"
    refine set_led F6 N6 (fun p hp => hoff p hp _ (List.Mem.head _)) hk0 hkl (by omega) (fun h7 F7 N7 => ?_)
    rw [strValues_set] at N7
    dsimp only
    walk_at "go"
    obtain ⟨tok, N8⟩ : ∃ tok, News s.heap s.heap.objs.size h7 ((h3.objs.size, W.listOf (strValues (c.set k.toNat (wrapS y0, tok))).toArray c4) :: own) := ⟨_, N7⟩
    refine InvEndN.intro (nx := [(h3.objs.size, W.listOf (strValues (c.set k.toNat (wrapS y0, tok))).toArray c4)]) F7 N8 ⟨c.set k.toNat (wrapS y0, tok), rfl, by simp [hf], (fun _ h => nomatch h), ?_, ?_⟩ rfl (fun p hp => ?_) (fun p hp => List.mem_cons_of_mem _ hp)
    · intro z hz _ _
      simp [hz]
    · show List.map (fun x => x.fst) (c.set k.toNat (wrapS y0, tok)) = wrapTo (pre ++ [k]).length (partsS x)
      rw [List.map_set, hP, hkn, List.length_append]
      exact wrapTo_step pre.length (partsS x) y0 hys
    · rw [List.mem_singleton.mp hp]; exact List.Mem.head _
  · intro c u h tk hf hP F6 N6
    dsimp only [kstB] at F6
    dsimp only
    have hpos := partsS_pos x
    have hcl : c.length = (partsS x).length := by
      have := congrArg List.length hP
      rw [List.length_map, wrapTo_length] at this
      exact this
    obtain ⟨⟨y0, t0⟩, hc⟩ : ∃ p, c[c.length - 1]? = some p := ⟨c[c.length - 1]'(by omega), by simp⟩
    have hx0 := strValues_get hc
    have hx1 : (strValues c)[((-1 : Int) + ((strValues c).length : Int)).toNat]? = some (Value.str y0 t0) := by
      rw [strValues_length, show ((-1 : Int) + (c.length : Int)).toNat = c.length - 1 by omega]; exact hx0
    have hb : ∀ y ∈ partsS x, y.length ≤ 2000 := fun y hy => by
      have := partsS_short hy
      omega
    have hmem : ∀ p ∈ c, p.1.length ≤ 2007 := fun p hp => by
      have h1 : p.1 ∈ c.map (·.1) := List.mem_map_of_mem hp
      rw [hP] at h1
      exact mem_wrapTo hb h1
    have hy0 : y0.length ≤ 2007 := hmem _ (List.mem_of_getElem? hc)
    have hneg : -((strValues c).length : Int) ≤ -1 := by rw [strValues_length]; omega
    walk_at "go"
    refine kim_back (l := strValues c) N6 (List.Mem.head _) rfl rfl (by decide) hneg (by decide) hx1 ?_
    walk_at "go"
    refine setBack_led F6 N6 (fun p hp => nomatch hp) (by decide) hneg (by decide) (fun h7 F7 N7 => ?_)
    rw [strValues_set] at N7
    obtain ⟨tok, N8⟩ : ∃ tok, News s.heap s.heap.objs.size h7 [(h3.objs.size, W.listOf (strValues (c.set (c.length - 1) (Str.ofString ".*" ++ y0, tok))).toArray c4)] :=
      ⟨_, by rw [strValues_length, show ((-1 : Int) + (c.length : Int)).toNat = c.length - 1 by omega] at N7; exact N7⟩
    clear N7
    have hfin : (c.set (c.length - 1) (Str.ofString ".*" ++ y0, tok)).map (·.1) = finS x := by
      rw [List.map_set, hP]
      have h1 : (c.map (·.1))[c.length - 1]? = some y0 := by simp [hc]
      rw [hP] at h1
      unfold finS
      rw [rangeKs_length, hl4n] at hP ⊢
      rw [rangeKs_length, hl4n, hcl] at h1
      rw [hcl, List.getD_eq_getElem?_getD, h1]
      rfl
    walk_at "go"
    refine join_list (ys := finS x) (News.isList N8 (.head _)) ?_ ?_ (fun t' k' => ?_)
    · have h1 := Mine.strsAre_values (c.set (c.length - 1) (Str.ofString ".*" ++ y0, tok))
      rw [hfin] at h1
      simpa using h1
    · rw [← hfin]
      have hsl : (Str.ofString "").length = 0 := by decide
      rw [hsl, Nat.mul_zero, Nat.add_zero]
      have h2 : ((List.map (·.1) (c.set (c.length - 1) (Str.ofString ".*" ++ y0, tok))).map (·.length)).sum ≤ 1001 * 2009 := by
        refine Nat.le_trans (sum_le (B := 2009) fun n hn => ?_) ?_
        · obtain ⟨z, hz, rfl⟩ := List.mem_map.mp hn
          obtain ⟨q, hq, rfl⟩ := List.mem_map.mp hz
          rcases List.mem_or_eq_of_mem_set hq with h3 | rfl
          · have := hmem q h3; omega
          · show (Str.ofString ".*" ++ y0).length ≤ 2009
            rw [Str.length_append]
            have : (Str.ofString ".*").length = 2 := by decide
            omega
        · rw [List.length_map, List.length_map, List.length_set]
          exact Nat.mul_le_mul_right _ (by omega)
      omega
    · exact hQ _ _ _ (fun b o e => F7.keep b o e)
end Mine
end secA06t
section secP06
namespace Mine
/-- a part of a pattern -/
inductive Tk where
  | lit (c : Nat)
  | far
  | near
  | grp (q : List Nat)
noncomputable def Tk.code : Tk → List Nat
  | .lit c => if spec c = true then [92, c] else [c]
  | .far => [46, 42]
  | .near => [46, 42, 63]
  | .grp q => [40, 63, 62] ++ ([46, 42, 63] ++ escL q) ++ [41]
noncomputable def codes (ts : List Tk) : List Nat := ts.flatMap Tk.code
theorem codes_lits (q : List Nat) : codes (q.map .lit) = escL q := by
  unfold codes escL; rw [List.flatMap_map]; rfl
theorem codes_append (a b : List Tk) : codes (a ++ b) = codes a ++ codes b := by simp [codes]
theorem codes_cons (a : Tk) (b : List Tk) : codes (a :: b) = a.code ++ codes b := by simp [codes]
/-- the places behind one sign -/
noncomputable def stepLit (nm : List Nat) (c : Nat) (ws : List Nat) : List Nat := (ws.filter fun p => decide (nm[p]? = some c)).map (· + 1)
noncomputable def goDown (n p : Nat) : List Nat := (List.range (n + 1 - p)).map (n - ·)
noncomputable def goUp (n p : Nat) : List Nat := (List.range (n + 1 - p)).map (p + ·)
noncomputable def lits (nm q ws : List Nat) : List Nat := q.foldl (fun ws c => stepLit nm c ws) ws
noncomputable def run1 (nm : List Nat) : Tk → List Nat → List Nat
  | .lit c, ws => stepLit nm c ws
  | .far, ws => ws.flatMap (goDown nm.length)
  | .near, ws => ws.flatMap (goUp nm.length)
  | .grp q, ws => ws.flatMap fun p => (lits nm q (goUp nm.length p)).take 1
noncomputable def run (nm : List Nat) (ts : List Tk) (ws : List Nat) : List Nat := ts.foldl (fun ws t => run1 nm t ws) ws
/-- at no step are there more ways than places -/
noncomputable def okRun (nm : List Nat) : List Tk → List Nat → Prop
  | [], _ => True
  | t :: r, ws => (ws.length ≤ nm.length + 1 ∧ ∀ p ∈ ws, p ≤ nm.length) ∧ okRun nm r (run1 nm t ws)
theorem run_cons (nm : List Nat) (t : Tk) (r : List Tk) (ws : List Nat) : run nm (t :: r) ws = run nm r (run1 nm t ws) := rfl
theorem run_append (nm : List Nat) (a b : List Tk) (ws : List Nat) : run nm (a ++ b) ws = run nm b (run nm a ws) := by simp [run]
theorem run_lits (nm q ws : List Nat) : run nm (q.map .lit) ws = lits nm q ws := by
  unfold run lits; rw [List.foldl_map]; rfl
theorem stepLit_len (nm : List Nat) (c : Nat) (ws : List Nat) : (stepLit nm c ws).length ≤ ws.length := by
  unfold stepLit; rw [List.length_map]; exact List.length_filter_le _ _
theorem lits_len (nm : List Nat) : ∀ (q ws : List Nat), (lits nm q ws).length ≤ ws.length
  | [], _ => Nat.le_refl _
  | c :: q, ws => Nat.le_trans (lits_len nm q (stepLit nm c ws)) (stepLit_len nm c ws)
theorem stepLit_le {nm : List Nat} {c : Nat} {ws : List Nat} : ∀ z ∈ stepLit nm c ws, z ≤ nm.length := by
  intro z hz
  simp only [stepLit, List.mem_map, List.mem_filter, decide_eq_true_eq] at hz
  obtain ⟨a, ⟨_, ha⟩, rfl⟩ := hz
  have := (List.getElem?_eq_some_iff.mp ha).1
  omega
theorem lits_le {nm : List Nat} : ∀ (q ws : List Nat), (∀ z ∈ ws, z ≤ nm.length) → ∀ z ∈ lits nm q ws, z ≤ nm.length
  | [], _, h => h
  | _ :: q, _, _ => lits_le q _ stepLit_le
theorem okRun_lits (nm : List Nat) : ∀ (q ws : List Nat), ws.length ≤ nm.length + 1 → (∀ p ∈ ws, p ≤ nm.length) → okRun nm (q.map .lit) ws
  | [], _, _, _ => trivial
  | c :: q, ws, h, h2 => ⟨⟨h, h2⟩, okRun_lits nm q _ (Nat.le_trans (stepLit_len nm c ws) h) stepLit_le⟩
theorem okRun_append (nm : List Nat) : ∀ (a b : List Tk) (ws : List Nat), okRun nm a ws → okRun nm b (run nm a ws) → okRun nm (a ++ b) ws
  | [], _, _, _, h => h
  | t :: a, b, ws, h1, h2 => ⟨h1.1, okRun_append nm a b _ h1.2 h2⟩
theorem goUp_len (n p : Nat) : (goUp n p).length = n + 1 - p := by simp [goUp]
theorem goDown_len (n p : Nat) : (goDown n p).length = n + 1 - p := by simp [goDown]
theorem goUp_le {n p z : Nat} (h : z ∈ goUp n p) : z ≤ n := by
  simp only [goUp, List.mem_map, List.mem_range] at h
  obtain ⟨i, hi, rfl⟩ := h
  omega
theorem goDown_le {n p z : Nat} (h : z ∈ goDown n p) : z ≤ n := by
  simp only [goDown, List.mem_map, List.mem_range] at h
  obtain ⟨i, hi, rfl⟩ := h
  omega
theorem okRun_near (nm : List Nat) (q : List Nat) (p : Nat) (hp : p ≤ nm.length) : okRun nm (.near :: q.map .lit) [p] := by
  refine ⟨⟨by simp, by simpa using hp⟩, okRun_lits nm q _ ?_ ?_⟩
  · simp only [run1, List.flatMap_cons, List.flatMap_nil, List.append_nil, goUp_len]; omega
  · simp only [run1, List.flatMap_cons, List.flatMap_nil, List.append_nil]; exact fun z hz => goUp_le hz
theorem run_near (nm : List Nat) (q : List Nat) (p : Nat) : run nm (.near :: q.map .lit) [p] = lits nm q (goUp nm.length p) := by
  rw [run_cons, run_lits]; simp [run1]
theorem goDown_rev (n p : Nat) (h : p ≤ n) : goDown n p = (goUp n p).reverse := by
  apply List.ext_getElem
  · simp [goDown, goUp]
  · intro i h1 h2
    simp only [goDown, goUp, List.length_map, List.length_range, List.getElem_map, List.getElem_range, List.getElem_reverse] at h1 h2 ⊢
    omega
theorem goDown_none (n p : Nat) (h : n < p) : goDown n p = [] ∧ goUp n p = [] := by
  simp [goDown, goUp, show n + 1 - p = 0 by omega]
theorem goDown_rev' (n p : Nat) : goDown n p = (goUp n p).reverse := by
  rcases Nat.lt_or_ge n p with h | h
  · obtain ⟨a, b⟩ := goDown_none n p h; rw [a, b]; rfl
  · exact goDown_rev n p h
theorem stepLit_rev (nm : List Nat) (c : Nat) (ws : List Nat) : stepLit nm c ws.reverse = (stepLit nm c ws).reverse := by
  unfold stepLit; rw [List.filter_reverse, List.map_reverse]
theorem lits_rev (nm : List Nat) : ∀ (q ws : List Nat), lits nm q ws.reverse = (lits nm q ws).reverse
  | [], _ => rfl
  | c :: q, ws => by
    show lits nm q (stepLit nm c ws.reverse) = (lits nm q (stepLit nm c ws)).reverse
    rw [stepLit_rev, lits_rev nm q]
theorem lits_nil (nm : List Nat) : ∀ q : List Nat, lits nm q [] = []
  | [] => rfl
  | _ :: q => lits_nil nm q
/-- the law's own places -/
noncomputable def plStep (nm : List Nat) (pl : List Nat) (c : Nat) : List Nat :=
  if c = 42 then (match pl with | [] => [] | p :: _ => goUp nm.length p) else stepLit nm c pl
noncomputable def plRun (nm : List Nat) (l : List Nat) (pl : List Nat) : List Nat := l.foldl (plStep nm) pl
theorem plRun_lits (nm : List Nat) : ∀ (q pl : List Nat), 42 ∉ q → plRun nm q pl = lits nm q pl
  | [], _, _ => rfl
  | c :: q, pl, h => by
    show plRun nm q (plStep nm pl c) = lits nm q (stepLit nm c pl)
    have hc : c ≠ 42 := fun e => h (by simp [e])
    rw [plRun_lits nm q _ (fun hq => h (List.mem_cons_of_mem _ hq))]; unfold plStep; rw [if_neg hc]
theorem plRun_append (nm a b pl : List Nat) : plRun nm (a ++ b) pl = plRun nm b (plRun nm a pl) := by simp [plRun]
theorem plStep_le (nm : List Nat) {pl : List Nat} {c : Nat} (h : ∀ p ∈ pl, p ≤ nm.length) : ∀ p ∈ plStep nm pl c, p ≤ nm.length := by
  unfold plStep
  split
  · cases pl with
    | nil => intro p hp; cases hp
    | cons p r =>
      intro z hz
      simp only [goUp, List.mem_map, List.mem_range] at hz
      obtain ⟨i, hi, rfl⟩ := hz
      omega
  · intro z hz
    simp only [stepLit, List.mem_map, List.mem_filter, decide_eq_true_eq] at hz
    obtain ⟨a, ⟨_, ha⟩, rfl⟩ := hz
    have := (List.getElem?_eq_some_iff.mp ha).1
    omega
/-- the tokens of the pattern behind the first piece -/
noncomputable def tailT : List (List Nat) → List Tk
  | [] => []
  | [q] => .far :: q.map .lit
  | q :: q2 :: r => .grp q :: tailT (q2 :: r)
theorem tailT_codes : ∀ rest : List (List Nat), rest ≠ [] → codes (tailT rest) = tailP (rest.map escL)
  | [], h => absurd rfl h
  | [q], _ => by
    show codes (.far :: q.map .lit) = _
    rw [codes_cons, codes_lits]; rfl
  | q :: q2 :: r, _ => by
    show codes (.grp q :: tailT (q2 :: r)) = _
    rw [codes_cons, tailT_codes (q2 :: r) (by simp)]
    show [40, 63, 62] ++ ([46, 42, 63] ++ escL q) ++ [41] ++ _ = wrapL (escL q) ++ _
    simp [wrapL]
/-- the whole: the ways are the places from behind -/
theorem tail_run (nm : List Nat) : ∀ (rest : List (List Nat)) (ws pl : List Nat), rest ≠ [] → (∀ q ∈ rest, 42 ∉ q) → (∀ p ∈ pl, p ≤ nm.length) → ws = pl.take 1 →
    run nm (tailT rest) ws = (plRun nm (rest.map fun q => 42 :: q).flatten pl).reverse ∧ okRun nm (tailT rest) ws
  | [], _, _, h, _, _, _ => absurd rfl h
  | [q], ws, pl, _, h42, hle, hw => by
    have hq := h42 q (by simp)
    have e : plRun nm ([q].map fun q => 42 :: q).flatten pl = lits nm q (plStep nm pl 42) := by
      simp only [List.map_cons, List.map_nil, List.flatten_cons, List.flatten_nil, List.append_nil]
      show plRun nm q (plStep nm pl 42) = _
      exact plRun_lits nm q _ hq
    rw [e]
    show run nm (.far :: q.map .lit) ws = _ ∧ okRun nm (.far :: q.map .lit) ws
    rw [run_cons, run_lits]
    cases pl with
    | nil =>
      subst hw
      simp only [List.take_nil, run1, List.flatMap_nil, lits_nil, plStep, if_true, List.reverse_nil, true_and]
      exact ⟨⟨by simp, by simp⟩, okRun_lits nm q _ (by simp [run1]) (by simp [run1])⟩
    | cons p r =>
      subst hw
      simp only [List.take_succ_cons, List.take_zero, run1, List.flatMap_cons, List.flatMap_nil, List.append_nil, plStep, if_true]
      rw [goDown_rev', lits_rev]
      refine ⟨rfl, ⟨by simp, fun z hz => hle z (by simp at hz; simp [hz])⟩, okRun_lits nm q _ ?_ ?_⟩
      · simp only [run1, List.flatMap_cons, List.flatMap_nil, List.append_nil, goDown_len]; omega
      · simp only [run1, List.flatMap_cons, List.flatMap_nil, List.append_nil]; exact fun z hz => goDown_le hz
  | q :: q2 :: r, ws, pl, _, h42, hle, hw => by
    have hq := h42 q (by simp)
    have ih := tail_run nm (q2 :: r)
    have e : plRun nm ((q :: q2 :: r).map fun q => 42 :: q).flatten pl = plRun nm ((q2 :: r).map fun q => 42 :: q).flatten (lits nm q (plStep nm pl 42)) := by
      rw [List.map_cons, List.flatten_cons, plRun_append]
      show plRun nm _ (plRun nm q (plStep nm pl 42)) = _
      rw [plRun_lits nm q _ hq]
    rw [e]
    show run nm (.grp q :: tailT (q2 :: r)) ws = _ ∧ okRun nm (.grp q :: tailT (q2 :: r)) ws
    rw [run_cons]
    have hw' : run1 nm (.grp q) ws = (lits nm q (plStep nm pl 42)).take 1 := by
      subst hw
      cases pl with
      | nil => simp [run1, plStep, lits_nil]
      | cons p s => simp [run1, plStep]
    obtain ⟨a, b⟩ := ih _ _ (by simp) (fun z hz => h42 z (List.mem_cons_of_mem _ hz)) (lits_le q _ (plStep_le nm hle)) hw'
    refine ⟨a, ⟨?_, fun z hz => hle z (List.mem_of_mem_take (hw ▸ hz))⟩, b⟩
    rw [hw]
    have := List.length_take_le 1 pl
    omega
/-- the pattern's tokens -/
noncomputable def patT (ps : List (List Nat)) : List Tk := match ps with
  | [] => []
  | [q] => .far :: q.map .lit
  | p0 :: q :: r => p0.map .lit ++ tailT (q :: r)
theorem patT_codes (ps : List (List Nat)) (h : ps ≠ []) : codes (patT ps) = tpP (ps.map escL) := by
  match ps, h with
  | [q], _ => show codes (.far :: q.map .lit) = _; rw [codes_cons, codes_lits]; rfl
  | p0 :: q :: r, _ => show codes (p0.map .lit ++ tailT (q :: r)) = _; rw [codes_append, codes_lits, tailT_codes _ (by simp)]; rfl
/-- the path as the law reads it -/
noncomputable def starred (l : List Nat) : List Nat := if 42 ∈ l then l else 42 :: l
theorem pat_run (nm l : List Nat) : run nm (patT (cut l)) [0] = (plRun nm (starred l) [0]).reverse ∧ okRun nm (patT (cut l)) [0] := by
  have hfree := cut_free l
  have hg := glue_cut l
  obtain ⟨p, ps, hc⟩ := cut_ne l
  rw [hc] at hfree hg ⊢
  rw [glue_list] at hg
  cases ps with
  | nil =>
    have hl : l = p := by simpa using hg.symm
    subst hl
    have h42 := hfree l (by simp)
    have := tail_run nm [l] [0] [0] (by simp) (by simpa using h42) (by simp) rfl
    rw [starred, if_neg h42]
    simpa [patT, tailT] using this
  | cons q r =>
    have h42 : 42 ∈ l := by rw [← hg]; simp
    rw [starred, if_pos h42]
    have hp := hfree p (by simp)
    show run nm (p.map .lit ++ tailT (q :: r)) [0] = _ ∧ okRun nm (p.map .lit ++ tailT (q :: r)) [0]
    have hl1 : (lits nm p [0]).length ≤ 1 := lits_len nm p [0]
    obtain ⟨a, b⟩ := tail_run nm (q :: r) (lits nm p [0]) (lits nm p [0]) (by simp) (fun z hz => hfree z (List.mem_cons_of_mem _ hz)) (lits_le p _ (by simp)) (by
      rw [List.take_of_length_le hl1])
    rw [run_append, run_lits, ← hg, plRun_append, plRun_lits nm p _ hp]
    refine ⟨a, okRun_append nm _ _ _ (okRun_lits nm p _ (by simp) (by simp)) ?_⟩
    rw [run_lits]; exact b
/-- the places rise -/
theorem goUp_sorted (n p : Nat) : (goUp n p).Pairwise (· < ·) := by
  unfold goUp
  rw [List.pairwise_map]
  exact List.pairwise_lt_range.imp fun h => by omega
theorem stepLit_sorted {nm : List Nat} {c : Nat} {ws : List Nat} (h : ws.Pairwise (· < ·)) : (stepLit nm c ws).Pairwise (· < ·) := by
  unfold stepLit
  rw [List.pairwise_map]
  exact (h.filter _).imp fun h => by omega
theorem plRun_sorted (nm : List Nat) : ∀ (l pl : List Nat), pl.Pairwise (· < ·) → (plRun nm l pl).Pairwise (· < ·)
  | [], _, h => h
  | c :: l, pl, h => by
    refine plRun_sorted nm l (plStep nm pl c) ?_
    unfold plStep
    split
    · cases pl with
      | nil => exact .nil
      | cons p r => exact goUp_sorted _ _
    · exact stepLit_sorted h
theorem sorted_len {n : Nat} : ∀ {l : List Nat}, l.Pairwise (· < ·) → (∀ p ∈ l, p ≤ n) → l.length ≤ n + 1 := by
  intro l h1 h2
  have hn : l.Nodup := h1.imp fun h => Nat.ne_of_lt h
  have hsub : l ⊆ List.range (n + 1) := fun p hp => List.mem_range.mpr (by have := h2 p hp; omega)
  have := List.Nodup.length_le_of_subset hn hsub
  simpa using this
end Mine
end secP06
local macro_rules | `(tactic| walk_at "subscriptTail Name Name str int") => `(tactic| (k_here; k_dflt (refine item_S (by omega) (by omega) (by assumption) ?_); intro _ _))
local macro_rules | `(tactic| walk_at "compareOp NotEq str str") => `(tactic| (k_here; first | refine neL_t (by with_reducible assumption) ?_ | refine neL_f (by with_reducible assumption) ?_))
local macro_rules | `(tactic| walk_at "compareOp Lt int int") => `(tactic| (k_here; first | refine ltI_t (by omega) ?_ | refine ltI_f (by omega) ?_))
section secA06c
namespace Mine
theorem bs_eq : Str.ofString "\\" = S [92] := by decide +kernel
theorem cl_eq : Str.ofString ")" = S [41] := by decide +kernel
inductive Skip : List Nat → Prop
  | nil : Skip []
  | one {c : Nat} {r : List Nat} : c ≠ 41 → c ≠ 92 → Skip r → Skip (c :: r)
  | two {c : Nat} {r : List Nat} : Skip r → Skip (92 :: c :: r)
theorem skip_esc : ∀ q : List Nat, Skip (escL q)
  | [] => .nil
  | c :: q => by
    cases hs : spec c with
    | true => rw [show escL (c :: q) = 92 :: c :: escL q by simp [escL, hs]]; exact .two (skip_esc q)
    | false =>
      rw [show escL (c :: q) = c :: escL q by simp [escL, hs]]
      exact .one (fun h => by subst h; exact absurd hs (by decide)) (fun h => by subst h; exact absurd hs (by decide)) (skip_esc q)
theorem skip_near (q : List Nat) : Skip ([46, 42, 63] ++ escL q) := .one (by decide) (by decide) (.one (by decide) (by decide) (.one (by decide) (by decide) (skip_esc q)))
local macro_rules | `(tactic| walk_at "exec While BoolOp cons nil") => `(tactic| refine Stop.of ?_)
local macro_rules | `(tactic| walk_at "compareOp Eq str str") => `(tactic| (k_here; first | refine eqL_t (by with_reducible assumption) ?_ | refine eqL_f (by with_reducible assumption) ?_))
theorem ct_close {w : World} {A : Around} {s : Shared} {t ta : Tok} {Q E : Value → Shared → Prop} {mean : ExcName → Option Value} {mg mb : Str → Option Value} {xs pre body post : List Nat} {k : Int}
   (X : (hd06.heap_39 w.params).In s.heap) (T : Top hd06.view_39 (looseW hd06.view_39 ["_special_chars_map"]) mean mg mb s.heap) (hd : A.depth + 10 < recursionLimit) (hh : A.handled = none)
   (hx : xs.length ≤ 1000000) (hk : k = (pre.length : Int)) (e : xs = pre ++ body ++ 41 :: post) (hb : Skip body)
   (hQ : ∀ h' tk t1, Ext s.heap h' → Q (.int ((pre.length + body.length : Nat) : Int) t1) {s with heap := h', toks := tk}) :
   wpAny (model Challenge.rw_dn0256_06.row.prog w) A (call (.ref 40) [.str (S xs) t, .int k ta]) Q E s := by
  subst hk
  revert X
  k_fill
  intro X
  refine wpAny_call ?_
  refine call_pos_ret (by omega) (X _ _ rfl) rfl T.nolimit (codeRec_of X (by k_is)) rfl (locs rfl) (fun h₁ F => ?_)
  replace F : Fr s.heap s.heap.objs.size h₁ (fun y => [(Str.ofString "text", Value.str (S xs) t), (Str.ofString "at", .int (pre.length : Int) ta)].reverse.lookup y) := F
  have N : News s.heap s.heap.objs.size h₁ [] := News.nil
  walk_at "go"
  refine Stop.go ?_
  (rename Fr _ _ _ _ => F5); (rename News _ _ _ _ => N5)
  refine ksw_while (σ := List Nat × List Nat × Tok) (fun _ => []) (fun c => [(Str.ofString "at", .int ((c.1.length : Nat) : Int) c.2.2)]) (fun _ => True) []
    (fun c => xs = c.1 ++ c.2.1 ++ 41 :: post ∧ Skip c.2.1 ∧ c.1 ++ c.2.1 = pre ++ body) (fun c => c.2.1.length) (pre, body, ta) F5 N5 trivial ?_ ⟨e, hb, rfl⟩ ?_
  · intro q hq
    rw [List.mem_singleton.mp hq]; rfl
  · rintro ⟨p1, p2, t1⟩ u h tk _ ⟨e1, hs1, hpb⟩ F6 N6
    dsimp only [kstB] at F6 e1 hs1 hpb
    clear F5 N5
    have hlen := congrArg List.length e1
    have hlb := congrArg List.length hpb
    simp only [List.length_append, List.length_cons] at hlen hlb
    have hsl := S_length xs
    cases hs1 with
    | nil =>
      have hx0 : xs[((p1.length : Nat) : Int).toNat]? = some 41 := by rw [e1, Int.toNat_natCast]; simp
      have hn1 : S [41] = Str.ofString ")" := cl_eq.symm
      simp only [List.length_nil] at hlen hlb
      walk_at "go"
      (rename Fr _ _ _ _ => F7)
      rw [show p1.length = pre.length + body.length by omega]
      exact hQ _ _ _ (fun b o e => F7.keep b o e)
    | @one c r h41 h92 hr =>
      have hx0 : xs[((p1.length : Nat) : Int).toNat]? = some c := by rw [e1, Int.toNat_natCast]; simp
      have hn1 : S [c] ≠ Str.ofString ")" := by rw [cl_eq, Ne, S_eq_iff]; simpa using h41
      have hn2 : S [c] ≠ Str.ofString "\\" := by rw [bs_eq, Ne, S_eq_iff]; simpa using h92
      simp only [List.length_cons] at hlen hlb
      walk_at "go"
      (rename Fr _ _ _ _ => F7); (rename News _ _ _ _ => N7)
      have eat : ((p1.length : Nat) : Int) + 1 = (((p1 ++ [c]).length : Nat) : Int) := by simp
      rw [eat] at F7
      refine ⟨(p1 ++ [c], r, ?tk8), _, _, _, _, rfl, F7, N7, ?h1, trivial, ?h2, ?h3, ?h4, ?h5⟩
      case h1 => intro _ h; exact nomatch h
      case h2 => intro q hq; rw [List.mem_singleton.mp hq]; rfl
      case h3 =>
        intro z hz hp
        have k0 := hz _ (List.Mem.head _)
        dsimp only at k0
        simp only [if_neg k0, hp, Bool.false_eq_true, if_false]
      case h4 => exact ⟨by rw [e1]; simp, hr, by rw [← hpb]; simp⟩
      case h5 => simp
    | @two c r hr =>
      have hx0 : xs[((p1.length : Nat) : Int).toNat]? = some 92 := by rw [e1, Int.toNat_natCast]; simp
      have hn1 : S [92] ≠ Str.ofString ")" := by rw [cl_eq, Ne, S_eq_iff]; decide
      have hn2 : S [92] = Str.ofString "\\" := bs_eq.symm
      simp only [List.length_cons] at hlen hlb
      walk_at "go"
      (rename Fr _ _ _ _ => F7); (rename News _ _ _ _ => N7)
      have eat : ((p1.length : Nat) : Int) + 2 = (((p1 ++ [92, c]).length : Nat) : Int) := by simp
      rw [eat] at F7
      refine ⟨(p1 ++ [92, c], r, ?tk9), _, _, _, _, rfl, F7, N7, ?h1, trivial, ?h2, ?h3, ?h4, ?h5⟩
      case h1 => intro _ h; exact nomatch h
      case h2 => intro q hq; rw [List.mem_singleton.mp hq]; rfl
      case h3 =>
        intro z hz hp
        have k0 := hz _ (List.Mem.head _)
        dsimp only at k0
        simp only [if_neg k0, hp, Bool.false_eq_true, if_false]
      case h4 => exact ⟨by rw [e1]; simp, hr, by rw [← hpb]; simp⟩
      case h5 => show r.length < r.length + 1 + 1; omega
end Mine
end secA06c
section secMCell
open PySem PySem.W PyProof.Rows PySem.Calls PySem.Spec
namespace Mine
section
variable {prog : Program} {w : World} {A : Around} {s : Shared}
  {R : Result → Shared → Prop} {name qual : Str} {params : Arguments} {body : List Stmt} {scope : Scope} {dV kV doc pm cdv ct : Value} {an : Option Addr} {fo : Obj} {f : Addr} {args : Args} {binds : List (Str × Value)}
/-- the same, with one list of the caller's that is none of the base's -/
theorem call_cellsH {K : Frag} {oc : Value} {od : Option Addr} {osl : Array (Option Value)} {h₀ : Heap} {l : Addr} {ol : Obj} (X : K.In h₀) (hkeep : ∀ b o, h₀.get? b = some o → s.heap.get? b = some o) (hl : s.heap.get? l = some ol) (hl0 : h₀.get? l = none)
    (ho : K.lookup f = some ⟨oc, od, .func (fnOf name qual params body scope dV kV doc pm an cdv ct), osl⟩) (hcd : codeIn K cdv qual = true) (hlim : h₀.NoLimit) (hroom : A.depth < recursionLimit)
    (hbind : BindsTo s (fnOf name qual params body scope dV kV doc pm an cdv ct) args binds)
    (hkind : (binds.all fun y => scope.names.lookup y.1 == some .local || scope.names.lookup y.1 == some .cell) = true)
    (hnd : ((cellsFrom 0 scope.names []).map (·.1)).Nodup)
    (h : ∀ g h₁ tk cells, (∀ b o, h₀.get? b = some o → g.get? b = some o) → (∀ b o, b ≠ l → s.heap.get? b = some o → g.get? b = some o) → (@LT.lt Nat _ l s.heap.objs.size) → Fr g s.heap.objs.size h₁ (bindL (envOfC qual scope s.heap.objs.size f cdv).kindOf binds fun _ => none) → News g s.heap.objs.size h₁ (cells ++ [(l, ol)]) →
      CellsAre (bindC (envOfC qual scope s.heap.objs.size f cdv).kindOf binds fun _ => none) (cellsFrom (s.heap.objs.size + 1) scope.names []) cells →
      wpAny (model prog w) (A.deeper (envOfC qual scope s.heap.objs.size f cdv)) (execs body (envOfC qual scope s.heap.objs.size f cdv))
        (fun fl s' => R (.ok (.ret (match fl with | .ret v => v | _ => .none))) s') (fun _ _ => False)
        { s with heap := h₁, toks := tk })
    (hco : scope.isCoroutine = false) (hgen : scope.isGenerator = false) (hk : scope.kind = .function) : codeAny (model prog w) A (.call (.ref f) args) R s := by
  refine codeAny_call_function hroom (hkeep _ _ (X _ _ ho)) rfl hco hgen rfl (codeRec_of (X.keeps hkeep) hcd) (hbind _ _ _ _ ?_)
  refine wpAny_newFunctionEnv_cells hk (kindsX hkind _) fun env' he s' x => ?_
  subst he
  refine ⟨(hlim.keeps hkeep).keeps x.toInCall.keep, codeAny_func ?_⟩
  obtain ⟨h₁, tk, rfl, _⟩ := x.done
  have hk₁ := x.toInCall.keep
  obtain ⟨cells, NC, Y⟩ := Cl.news (h₀ := s.heap) (Nat.le_refl _) fun n c hm => ⟨x.cell n c (lookup_of_mem_nodup (cellsFrom_names scope.names 0 (s.heap.objs.size + 1) [] [] rfl ▸ hnd) hm), x.above n c hm⟩
  refine wpAny_mono (h (hideAll s.heap [l]) h₁ tk cells (fun b o e => hideAll_get _ (hkeep b o e) fun q => ?_) (fun b o hb e => hideAll_get _ e fun q => hb (List.mem_singleton.mp q)) (Heap.lt_size hl) ⟨x.toInCall.ns, fun b o e => hk₁ b o (of_hideAll _ e), Nat.le_of_eq (hideAll_size _ _)⟩ (fun p hp => ?_) Y) (fun fl s' hl => hl) fun _ _ y => y.elim
  · rw [List.mem_singleton.mp q, hl0] at e; cases e
  · rcases List.mem_append.mp hp with hp | hp
    · refine ⟨(NC p hp).1, (NC p hp).2.1, ?_⟩
      cases q : (hideAll s.heap [l]).get? p.1 with
      | none => rfl
      | some o => have := of_hideAll _ q; rw [(NC p hp).2.2] at this; cases this
    · rw [List.mem_singleton.mp hp]
      exact ⟨hk₁ _ _ hl, Nat.ne_of_lt (Heap.lt_size hl), hideAll_none _ (List.mem_singleton.mpr rfl)⟩
end
end Mine
end secMCell
section secMComp2
open PySem PySem.W PyProof.Rows PySem.Calls PySem.Spec PyProof.Rows.LCg PyProof.Rows.LCt
namespace Mine
noncomputable abbrev comp2 (x y : Str) (px py pe : Pos) (iter iter2 : PySem.Expr) (scope : Scope) (pos : Pos) : PySem.Expr :=
  .ListComp (.Name y pe) [⟨.Name x px, iter, [], 0⟩, ⟨.Name y py, iter2, [], 0⟩] scope pos
theorem compTurn_outer (x y : Str) (px py pe : Pos) (iter iter2 : PySem.Expr) (scope : Scope) (pos : Pos) (it acc : Value) (env : Env) :
    compTurn (comp2 x y px py pe iter iter2 scope pos) 0 it acc env = (standAt iter.pos >>= fun _ => pyNext it >>= fun r => match r with
      | none => pure (.done .next)
      | some v => letOwnedTupleGo (.Name x px) it v >>= fun _ => assign (.Name x px) env v >>= fun _ =>
        eval iter2 env >>= fun z => standAt iter2.pos >>= fun _ => foldedSetIterable iter2 env z >>= fun z => holding [z] (pyIter z) >>= fun i => runOwn (.compStart (comp2 x y px py pe iter iter2 scope pos) 1 i acc env) env >>= fun _ =>
          again (.compLoop (comp2 x y px py pe iter iter2 scope pos) 0 it acc env)) := by rfl
theorem compTurn_inner (x y : Str) (px py pe : Pos) (iter iter2 : PySem.Expr) (scope : Scope) (pos : Pos) (it acc : Value) (env : Env) :
    compTurn (comp2 x y px py pe iter iter2 scope pos) 1 it acc env = (standAt iter2.pos >>= fun _ => pyNext it >>= fun r => match r with
      | none => pure (.done .next)
      | some v => letOwnedTupleGo (.Name y py) it v >>= fun _ => assign (.Name y py) env v >>= fun _ =>
        (eval (.Name y pe) env >>= fun z => call (.builtin "list.append") [acc, z] >>= fun _ => pure ()) >>= fun _ =>
          again (.compLoop (comp2 x y px py pe iter iter2 scope pos) 1 it acc env)) := by rfl
section
variable {prog : Program} {w : World} {A : Around} {E : Value → Shared → Prop} {R : Result → Shared → Prop} {s : Shared} {x y : Str} {px py pe : Pos} {iter iter2 : PySem.Expr} {scope : Scope} {pos : Pos}
theorem codeAny_inner {it acc : Value} {env : Env} (I : Nat → Shared → Prop)
    (turn : ∀ n s, I n s → wpAny (model prog w) A (pyNext it) (fun r s₁ => match r with
      | none => R (.ok .next) s₁
      | some v => wpAny (model prog w) A (assign (.Name y py) env v) (fun _ s₂ => wpAny (model prog w) A (eval (.Name y pe) env) (fun z s₃ =>
          wpAny (model prog w) A (call (.builtin "list.append") [acc, z]) (fun _ s₄ => ∃ m, m < n ∧ I m s₄) (notedBy (model prog w) A env fun e s' => R (.error e) s') s₃)
          (notedBy (model prog w) A env fun e s' => R (.error e) s') s₂) (notedBy (model prog w) A env fun e s' => R (.error e) s') s₁) (notedBy (model prog w) A env fun e s' => R (.error e) s') s)
    (n : Nat) (h : I n s) : codeAny (model prog w) A (.compLoop (comp2 x y px py pe iter iter2 scope pos) 1 it acc env) R s := by
  refine codeAny_loop rfl I (fun n s hI => ?_) n h
  show wpAny _ _ ((compTurn (comp2 x y px py pe iter iter2 scope pos) 1 it acc env).onRaise (fun x => do noteFrame x env; theTreesLotGoes x)) _ _ s
  refine wpAny_noted ?_
  rw [compTurn_inner]
  refine wpAny_bind (wpAny_standAt (wpAny_bind (wpAny_mono (turn n s hI) (fun r s₁ h₁ => ?_) fun _ _ h' => h')))
  cases r with
  | none => exact wpAny_pure h₁
  | some v =>
    refine wpAny_bind (wpAny_of_eq (show letOwnedTupleGo (.Name y py) it v = pure () from rfl) ?_)
    exact wpAny_bind (wpAny_mono h₁ (fun _ s₂ h₂ => wpAny_bind (wpAny_bind (wpAny_mono h₂ (fun x s₃ h₃ => wpAny_bind (wpAny_mono h₃
      (fun _ s₄ h₄ => wpAny_pure (wpAny_pure ⟨rfl, h₄⟩)) fun _ _ h' => h')) fun _ _ h' => h'))) fun _ _ h' => h')
theorem codeAny_start1 {it acc : Value} {env : Env}
    (h0 : codeAny (model prog w) A (.compLoop (comp2 x y px py pe iter iter2 scope pos) 1 it acc env) R s)
    (h : wpAny (model prog w) A (pyIter it) (fun it' s' => codeAny (model prog w) A (.compLoop (comp2 x y px py pe iter iter2 scope pos) 1 it' acc env) R s')
      (notedBy (model prog w) A env fun x s' => R (.error x) s') s) :
    codeAny (model prog w) A (.compStart (comp2 x y px py pe iter iter2 scope pos) 1 it acc env) R s := by
  refine codeAny_of_tree ?_
  show wpAny _ _ ((compStart (comp2 x y px py pe iter iter2 scope pos) 1 it acc env).onRaise (fun x => do noteFrame x env; standAt theWindowsPlace)) _ _ s
  refine wpAny_notedAt ?_
  unfold compStart
  show wpAny _ _ (ask >>= _) _ _ s
  refine wpAny_bind (wpAny_askSetting (wpAny_ite ?_))
  split
  · first
      | exact wpAny_bind (wpAny_pure (wpAny_pure (And.intro rfl h0)))
      | exact wpAny_pure (And.intro rfl h0)
  · first
      | exact wpAny_bind (wpAny_rule (wpAny_bind (wpAny_standAt (wpAny_bind (wpAny_mono h (fun it' s' h' => wpAny_pure (And.intro rfl h')) fun _ _ x => x)))))
      | (refine wpAny_bind (wpAny_rule ?_); show wpAny _ _ (standAt iter2.pos >>= _) _ _ s; exact wpAny_bind (wpAny_standAt (wpAny_bind (wpAny_mono h (fun it' s' h' => wpAny_pure (And.intro rfl h')) fun _ _ x => x))))
theorem codeAny_outer {it acc : Value} {env : Env} (I : Nat → Shared → Prop)
    (turn : ∀ n s, I n s → wpAny (model prog w) A (pyNext it) (fun r s₁ => match r with
      | none => R (.ok .next) s₁
      | some v => wpAny (model prog w) A (assign (.Name x px) env v) (fun _ s₂ => wpAny (model prog w) A (eval iter2 env) (fun z s₃ =>
          wpAny (model prog w) A (pyIter z) (fun i s₄ => codeAny (model prog w) (A.mark none) (.compStart (comp2 x y px py pe iter iter2 scope pos) 1 i acc env)
            (fun r s₅ => match r with | .ok _ => ∃ m, m < n ∧ I m s₅ | .error e => cameBackBy (model prog w) A env (notedBy (model prog w) A env fun e s' => R (.error e) s') e s₅) s₄) (notedBy (model prog w) A env fun e s' => R (.error e) s') s₃)
          (notedBy (model prog w) A env fun e s' => R (.error e) s') s₂) (notedBy (model prog w) A env fun e s' => R (.error e) s') s₁) (notedBy (model prog w) A env fun e s' => R (.error e) s') s)
    (n : Nat) (h : I n s) (hs : ∀ z, foldedSetIterable iter2 env z = pure z) : codeAny (model prog w) A (.compLoop (comp2 x y px py pe iter iter2 scope pos) 0 it acc env) R s := by
  refine codeAny_loop rfl I (fun n s hI => ?_) n h
  show wpAny _ _ ((compTurn (comp2 x y px py pe iter iter2 scope pos) 0 it acc env).onRaise (fun x => do noteFrame x env; theTreesLotGoes x)) _ _ s
  refine wpAny_noted ?_
  rw [compTurn_outer]
  refine wpAny_bind (wpAny_standAt (wpAny_bind (wpAny_mono (turn n s hI) (fun r s₁ h₁ => ?_) fun _ _ h' => h')))
  cases r with
  | none => exact wpAny_pure h₁
  | some v =>
    refine wpAny_bind (wpAny_of_eq (show letOwnedTupleGo (.Name x px) it v = pure () from rfl) ?_)
    refine wpAny_bind (wpAny_mono h₁ (fun _ s₂ h₂ => wpAny_bind (wpAny_mono h₂ (fun z s₃ h₃ => wpAny_bind (wpAny_standAt (wpAny_bind (wpAny_of_eq (hs z) (wpAny_bind (wpAny_holding (wpAny_mono h₃
      (fun i s₄ h₄ => wpAny_bind (wpAny_runOwn (codeAny_mono h₄ fun r s₅ h₅ => ?_))) fun _ _ h' => h'))))))) fun _ _ h' => h')) fun _ _ h' => h')
    cases r with
    | ok f => exact wpAny_pure ⟨rfl, h₅⟩
    | error e => exact h₅
/-- the inner loop: what the inner walk gives is put to the list's end -/
theorem inner_loop {J D C : Addr} {n : Nat} {P : Nat → Value → Prop} {St : Nat → Heap → Prop} {ys : List Value} {m : Str → Option Value} {env : Env} (W : Walks prog w A J [J] [J] n P St) (hst : St 0 s.heap) (hD : s.heap.get? D = some (lst ys)) (hn : s.heap.Ns C m)
    (hDC : D ≠ C) (hJD : J ≠ D) (hJC : J ≠ C) (hsz : ys.length + n ≤ sizeLine) (hC : env.locals = C) (hy : env.kindOf y = some .local) (hk : env.scope.kind = .function) (hyd : (y == ("__debug__" : Str)) = false)
    (hR : ∀ h' tk us m', us.length = n → (∀ (j : Nat) u, us[j]? = some u → P j u) → h'.get? D = some (lst (ys ++ us)) → h'.Ns C m' → (∀ b o, b ≠ J → b ≠ D → b ≠ C → s.heap.get? b = some o → h'.get? b = some o) → R (.ok .next) { s with heap := h', toks := tk }) :
    codeAny (model prog w) A (.compStart (comp2 x y px py pe iter iter2 scope pos) 1 (.ref J) (.ref D) env) R s := by
  have loop : codeAny (model prog w) A (.compLoop (comp2 x y px py pe iter iter2 scope pos) 1 (.ref J) (.ref D) env) R s := by
    refine codeAny_inner (fun k s' => ∃ h' tk i us m', s' = { s with heap := h', toks := tk } ∧ i ≤ n ∧ k = n + 1 - i ∧ us.length = i ∧ (∀ (j : Nat) u, us[j]? = some u → P j u) ∧ St i h' ∧ h'.get? D = some (lst (ys ++ us)) ∧ h'.Ns C m' ∧ ∀ b o, b ≠ J → b ≠ D → b ≠ C → s.heap.get? b = some o → h'.get? b = some o) ?_ (n + 1)
      ⟨s.heap, s.toks, 0, [], m, rfl, Nat.zero_le _, rfl, rfl, (fun j u h => by cases h), hst, by rw [List.append_nil]; exact hD, hn, fun _ _ _ _ _ e => e⟩
    rintro k s' ⟨h', tk, i, us, m', rfl, hi, rfl, hul, hP, hst', hD', hn', hkp⟩
    by_cases hlt : i < n
    · refine W.item i _ _ _ hlt hst' fun v h₂ tk₂ hPv hst₂ hk₂ => ?_
      have hn₂ : h₂.Ns C m' := hn'.at' fun o e => hk₂ _ o (by simpa using Ne.symm hJC) e
      have hD₂ : h₂.get? D = some (lst (ys ++ us)) := hk₂ _ _ (by simpa using Ne.symm hJD) hD'
      subst hC
      refine wpAny_assign_Name (wpAny_storeName_local hy hn₂ (fun h₃ hn₃ hs₃ => ?_) (by rw [hk]; rfl))
      refine wpAny_Name (wpAny_loadName_local hk hy hn₃ (if_pos rfl) ?_) hyd
      have hD₃ : h₃.get? D = some (lst (ys ++ us)) := hs₃.extBut _ _ hDC hD₂
      refine append_at (hsz := by show (ys ++ us).toArray.size ≤ sizeLine; rw [List.size_toArray, List.length_append]; omega) hD₃ fun h₄ hs₄ hD₄ => ?_
      refine ⟨n + 1 - (i + 1), by omega, h₄, _, i + 1, us ++ [v], _, rfl, hlt, rfl, by rw [List.length_append, hul]; rfl, ?_, ?_, ?_, hn₃.sameBut hs₄ (Ne.symm hDC), ?_⟩
      · intro j u hj
        rcases Nat.lt_or_ge j us.length with h | h
        · rw [List.getElem?_append_left h] at hj; exact hP j u hj
        · rw [List.getElem?_append_right h] at hj
          have hj0 : j - us.length = 0 := by
            rcases Nat.eq_zero_or_pos (j - us.length) with h0 | h0
            · exact h0
            · rw [List.getElem?_eq_none (by simp; omega)] at hj; cases hj
          rw [hj0] at hj
          cases hj
          have : j = i := by omega
          rw [this]; exact hPv
      · refine W.frame _ _ _ hst₂ fun b hb o e => ?_
        have hbJ : b = J := List.mem_singleton.mp hb
        subst hbJ
        exact hs₄.extBut _ _ hJD (hs₃.extBut _ _ hJC e)
      · rw [hD₄, ← List.append_assoc]; exact congrArg some (lst_snoc (ys ++ us) v)
      · intro b o h1 h2 h3 e
        exact hs₄.extBut _ _ h2 (hs₃.extBut _ _ h3 (hk₂ b o (by simpa using h1) (hkp b o h1 h2 h3 e)))
    · obtain rfl : i = n := by omega
      refine W.done _ _ _ hst' fun h₂ tk₂ hk₂ => ?_
      exact hR h₂ tk₂ us m' hul hP (hk₂ _ _ (by simpa using Ne.symm hJD) hD') (hn'.at' fun o e => hk₂ _ o (by simpa using Ne.symm hJC) e) fun b o h1 h2 h3 e => hk₂ b o (by simpa using h1) (hkp b o h1 h2 h3 e)
  exact codeAny_start1 loop (W.self 0 _ _ _ hst loop)
end
end Mine
end secMComp2
section secMComp3
open PySem PySem.W PyProof.Rows PySem.Calls PySem.Spec PyProof.Rows.LCg PyProof.Rows.LCt
namespace Mine
/-- a step that leaves the frame and the ledger as they stand -/
noncomputable def Quiet (h₀ : Heap) (L : Addr) (m : Str → Option Value) (led : List (Addr × Obj)) (s s' : Shared) : Prop := ∃ h' tk, s' = { s with heap := h', toks := tk } ∧ Fr h₀ L h' m ∧ News h₀ L h' led
/-- the source of a comprehension -/
noncomputable def SrcIs (h₀ : Heap) (L : Addr) (m : Str → Option Value) (news : List (Addr × Obj)) (s : Shared) (ax : Addr) (vs : List Value) (xv : Value) (s₁ : Shared) : Prop := xv = .ref ax ∧ Quiet h₀ L m news s s₁ ∧ SrcAt h₀ ax vs.toArray news
/-- what a test must answer -/
noncomputable def TestIs (b : Bool) (Y N : Shared → Prop) (ok : Bool) (s' : Shared) : Prop := ok = b ∧ if ok = true then Y s' else N s'
/-- what an element must be -/
noncomputable def EltIs (h₀ : Heap) (L : Addr) (m : Str → Option Value) (led : List (Addr × Obj)) (s : Shared) (k : Int) (z : Value) (s' : Shared) : Prop := (∃ t', z = .int k t') ∧ Quiet h₀ L m led s s'
theorem IntsAre.append' {vs us : List Value} {ns ms : List Int} (h : IntsAre vs ns) (h2 : IntsAre us ms) : IntsAre (vs ++ us) (ns ++ ms) := by
  induction h with
  | nil => exact h2
  | cons n t _ ih => exact .cons n t ih
theorem intsAre_of : ∀ (us : List Value) (ms : List Int), us.length = ms.length → (∀ (j : Nat) u, us[j]? = some u → ∃ t n, ms[j]? = some n ∧ u = .int n t) → IntsAre us ms
  | [], [], _, _ => .nil
  | u :: us, n :: ms, hl, h => by
    obtain ⟨t, n', hn, rfl⟩ := h 0 u rfl
    cases hn
    exact .cons _ _ (intsAre_of us ms (by simpa using hl) fun j u hu => h (j + 1) u hu)
  | [], _ :: _, hl, _ => by simp at hl
  | _ :: _, [], hl, _ => by simp at hl
section
variable {prog : Program} {w : World} {A : Around} {E : Value → Shared → Prop} {s : Shared} {h₀ : Heap} {L : Addr} {m : Str → Option Value} {env : Env}
theorem rest1 {ct elt : PySem.Expr} {x : Str} {scope : Scope} {cl : List (Str × Addr)} {ax : Addr} {vs : List Value} {ns : List Int} {news : List (Addr × Obj)} {Fin : List Value → List (Addr × Obj) → Prop} (p : Int → Bool) (f : Int → Int) (hi : IntsAre vs ns) (hS : SrcAt h₀ ax vs.toArray news)
    (turn : ∀ n t I oI C oC D oD m₂ h tk (E' : Value → Shared → Prop), n ∈ ns → NsObj oC m₂ → m₂ x = some (.int n t) → Fr h₀ L h m → News h₀ L h ((I, oI) :: (C, oC) :: (D, oD) :: news) → (∀ q ∈ news, q.1 ≠ I ∧ q.1 ≠ C ∧ q.1 ≠ D) → ((@Ne Nat I C) ∧ (@Ne Nat I D) ∧ (@Ne Nat C D)) →
      wpAny (model prog w) A (isTrue ct (compEnvC scope cl C env) (eval ct (compEnvC scope cl C env))) (TestIs (p n) (fun s' => wpAny (model prog w) A (eval elt (compEnvC scope cl C env)) (EltIs h₀ L m ((I, oI) :: (C, oC) :: (D, oD) :: news) { s with heap := h, toks := tk } (f n)) E' s') (Quiet h₀ L m ((I, oI) :: (C, oC) :: (D, oD) :: news) { s with heap := h, toks := tk })) E' { s with heap := h, toks := tk })
    (fin : ∀ ys, IntsAre ys ((ns.filter p).map f) → Fin ys news) :
    ∀ (k i : Nat) (ys : List Value), i + k = ns.length → IntsAre ys (((ns.take i).filter p).map f) → CompRestT prog w A h₀ L m env ct elt x scope cl s (SrcAt h₀ ax vs.toArray) (fun i v => vs.toArray[i]? = some v) Fin k i ys news := by
  intro k
  induction k with
  | zero =>
    intro i ys hk hy
    refine CompRestT.zero (fin ys ?_)
    rw [show i = ns.length by omega, List.take_length] at hy
    exact hy
  | succ k ih =>
    intro i ys hk hy
    refine CompRestT.succ fun v I oI C oC D m₂ h tk E' hv hC hx F N off ne => ?_
    have hlt : i < ns.length := by omega
    obtain ⟨t, ht⟩ := hi.get i ns[i] (List.getElem?_eq_getElem hlt)
    have hvv : v = .int ns[i] t := by
      have hv' : vs[i]? = some v := by rw [List.getElem?_toArray] at hv; exact hv
      rw [ht] at hv'; exact (Option.some.inj hv').symm
    subst hvv
    have hs : ns.take (i + 1) = ns.take i ++ [ns[i]] := by rw [List.take_add_one, List.getElem?_eq_getElem hlt]; rfl
    refine wpAny_mono (turn ns[i] t I oI C oC D (lst ys) m₂ h tk E' (List.getElem_mem _) hC hx F N off.mem ne) (fun ok s' h1 => ?_) fun _ _ e => e
    obtain ⟨hok, h1⟩ := h1
    cases ok with
    | true =>
      simp only [if_true] at h1 ⊢
      refine wpAny_mono h1 (fun z s'' h2 => ?_) fun _ _ e => e
      obtain ⟨⟨t', rfl⟩, h', tk', rfl, F', N'⟩ := h2
      refine ⟨h', tk', news, rfl, F', N', off, hS, ih (i + 1) _ (by omega) ?_⟩
      rw [hs, List.filter_append, List.filter_cons_of_pos (by rw [← hok]), List.filter_nil, List.map_append]
      exact IntsAre.append' hy (.cons _ _ .nil)
    | false =>
      simp only [Bool.false_eq_true, if_false] at h1 ⊢
      obtain ⟨h', tk', rfl, F', N'⟩ := h1
      refine ⟨h', tk', news, rfl, F', N', off, hS, ih (i + 1) _ (by omega) ?_⟩
      rw [hs, List.filter_append, List.filter_cons_of_neg (by rw [← hok]; decide), List.filter_nil, List.append_nil]
      exact hy
/-- y = [elt for x in src if ct], of ints to ints -/
theorem comp1_ints {ct elt iter : PySem.Expr} {x y : Str} {px py : Pos} {scope : Scope} {cl : List (Str × Addr)} {pos spos : Pos} {Q : Flow → Shared → Prop} {ax : Addr} {vs : List Value} {ns : List Int} {news : List (Addr × Obj)} (p : Int → Bool) (f : Int → Int)
    (hh : A.handled = none) (F₀ : Fr h₀ L s.heap m) (_N₀ : News h₀ L s.heap news) (hLe : env.locals = L) (hi : IntsAre vs ns) (hsz : ns.length ≤ 16777216)
    (hsw : swapsWith (.ListComp elt [⟨.Name x px, iter, [ct], 0⟩] scope pos) (some (.Name y py)) spos.line env = pure true)
    (hclos : closureFor scope env = pure cl) (hcell : ∀ z ∈ scope.names, z.2 ≠ .cell) (hkind : scope.kind = .function)
    (hnames : ∀ z ∈ scope.names, z.2 = .local → scope.names.lookup z.1 = some .local) (hx : scope.names.lookup x = some .local)
    (hy : env.kindOf y = some .local) (hp : (env.scope.kind == .class || (env.scope.kind == .module && env.locals != env.globals)) = false)
    (hiter : wpAny (model prog w) A (eval iter env) (SrcIs h₀ L m news s ax vs) E s)
    (turn : ∀ n t I oI C oC D oD m₂ h tk (E' : Value → Shared → Prop), n ∈ ns → NsObj oC m₂ → m₂ x = some (.int n t) → Fr h₀ L h m → News h₀ L h ((I, oI) :: (C, oC) :: (D, oD) :: news) → (∀ q ∈ news, q.1 ≠ I ∧ q.1 ≠ C ∧ q.1 ≠ D) → ((@Ne Nat I C) ∧ (@Ne Nat I D) ∧ (@Ne Nat C D)) →
      wpAny (model prog w) A (isTrue ct (compEnvC scope cl C env) (eval ct (compEnvC scope cl C env))) (TestIs (p n) (fun s' => wpAny (model prog w) A (eval elt (compEnvC scope cl C env)) (EltIs h₀ L m ((I, oI) :: (C, oC) :: (D, oD) :: news) { s with heap := h, toks := tk } (f n)) E' s') (Quiet h₀ L m ((I, oI) :: (C, oC) :: (D, oD) :: news) { s with heap := h, toks := tk })) E' { s with heap := h, toks := tk })
    (fin : ∀ D ys h tk, IntsAre ys ((ns.filter p).map f) → Fr h₀ L h (fun z => if z = y then some (.ref D) else m z) → News h₀ L h ((D, lst ys) :: news) → (∀ q ∈ news, q.1 ≠ D) → Q .next { s with heap := h, toks := tk })
    (hs : ∀ x, foldedSetIterable iter env x = pure x := by intro _; rfl) :
    wpAny (model prog w) A (exec (.Assign [.Name y py] (.ListComp elt [⟨.Name x px, iter, [ct], 0⟩] scope pos) spos) env) Q E s := by
  refine Assign_ListComp_T F₀ hLe hsw hclos hcell hkind hnames hx hy hp (wpAny_mono hiter (fun xv s₁ h₁ => ?_) fun _ _ e => e) hs
  obtain ⟨rfl, ⟨h₁, tk₁, rfl, F₁, N₁⟩, hS⟩ := h₁
  refine .inl ⟨ax, vs.toArray, news, rfl, hh, F₁, N₁, hS, by rw [List.size_toArray, hi.length]; rw [sizeLine_eq]; exact hsz, ?_⟩
  rintro s₂ ⟨g, rfl⟩
  have hlen : vs.toArray.size = ns.length := by rw [List.size_toArray, hi.length]
  rw [hlen]
  refine rest1 (s := ⟨g, s.gens, s.drawn, tk₁, s.os⟩) (Fin := FinA h₀ L m ⟨g, s.gens, s.drawn, tk₁, s.os⟩ y Q) p f hi hS (fun n t I oI C oC D oD m₂ h tk E' hn hC hx F N off ne => turn n t I oI C oC D oD m₂ h tk E' hn hC hx F N off ne) (fun ys hys D h tk F N off => fin D ys h tk hys F N ?_) ns.length 0 [] (by omega) .nil
  intro q hq
  have : ∀ {l : List (Addr × Obj)}, Off1 D l → ∀ p ∈ l, p.1 ≠ D := by
    intro l
    induction l with
    | nil => intro _ p hp; cases hp
    | cons a r ih =>
      intro o p hp
      rcases List.mem_cons.mp hp with rfl | hp
      · exact o.1
      · exact ih o.2 p hp
  exact this off q hq
/-- what an inner range of a comprehension must be -/
noncomputable def RangeIs (h₀ : Heap) (L : Addr) (m : Str → Option Value) (led : List (Addr × Obj)) (s : Shared) (ks : List Int) (xv : Value) (s' : Shared) : Prop :=
  ∃ (r : Addr) (a b st : Int) (t u v : Tok), xv = .ref r ∧ Quiet h₀ L m led s s' ∧ IsRange s'.heap r a b st t u v ∧ Builtin.Range.small a b st = true ∧ Builtin.Range.rangeSize a b st = (ks.length : Int) ∧ ∀ (j : Nat) k, ks[j]? = some k → k = a + j * st
theorem block2 {iter iter2 : PySem.Expr} {x y : Str} {px py pe : Pos} {scope : Scope} {cl : List (Str × Addr)} {pos : Pos} {s₂ : Shared} {I ax : Addr} {vs : List Value} {ns : List Int} {news : List (Addr × Obj)} (g : Int → List Int) {RR : Value → Addr → Result → Shared → Prop}
    (hh : A.handled = none) (hh' : (A.mark none).handled = none) (hi : IntsAre vs ns) (hne : ax ≠ I) (hsz : (ns.flatMap g).length ≤ sizeLine)
    (hcell : ∀ y ∈ scope.names, y.2 ≠ .cell) (hkind : scope.kind = .function) (hx : scope.names.lookup x = some .local) (hy : scope.names.lookup y = some .local) (hyd : (y == ("__debug__" : Str)) = false)
    (hst : s₂.heap.IsListIter I ax 0 ∧ s₂.heap.IsList ax vs.toArray)
    (F : Fr h₀ L s₂.heap m) (N : News h₀ L s₂.heap news) (hIL : L ≠ I) (hI₀ : h₀.get? I = none) (off : ∀ p ∈ news, p.1 ≠ I) (hS : SrcAt h₀ ax vs.toArray news)
    (turn : ∀ n t I oI C oC D oD m₂ h tk (E' : Value → Shared → Prop), n ∈ ns → NsObj oC m₂ → m₂ x = some (.int n t) → Fr h₀ L h m → News h₀ L h ((I, oI) :: (C, oC) :: (D, oD) :: news) → (∀ q ∈ news, q.1 ≠ I ∧ q.1 ≠ C ∧ q.1 ≠ D) → ((@Ne Nat I C) ∧ (@Ne Nat I D) ∧ (@Ne Nat C D)) →
      wpAny (model prog w) A (eval iter2 (compEnvC scope cl C env)) (RangeIs h₀ L m ((I, oI) :: (C, oC) :: (D, oD) :: news) { s₂ with heap := h, toks := tk } (g n)) E' { s₂ with heap := h, toks := tk })
    (hs2 : ∀ C z, foldedSetIterable iter2 (compEnvC scope cl C env) z = pure z)
    (hRR : ∀ D C h tk m' ys, IntsAre ys (ns.flatMap g) → Fr h₀ L h m → News h₀ L h ((D, lst ys) :: news) → (∀ p ∈ news, p.1 ≠ D) → h.Ns C m' → h₀.get? C = none → h₀.get? D = none → C ≠ L → D ≠ L → C ≠ D → (∀ p ∈ news, p.1 ≠ C) → RR (.ref D) C (.ok .next) { s₂ with heap := h, toks := tk }) :
    wpAny (model prog w) A (newList []) (fun acc s₃ => wpAny (model prog w) A (newFunctionEnv scope env.globals cl [] env.qual none .none (some env)) (fun cenv s₄ =>
      codeAny (model prog w) A (.compStart (comp2 x y px py pe iter iter2 scope pos) 0 (.ref I) acc { cenv with scope := relabel scope env }) (RR acc cenv.locals) s₄) E s₃) E s₂ := by
  have W := Walks.list (prog := prog) (w := w) hh I ax hne vs.toArray
  have hlen : vs.toArray.size = ns.length := by rw [List.size_toArray, hi.length]
  rw [hlen] at W
  have hIlt : I < s₂.heap.objs.size := by obtain ⟨o, e, _⟩ := hst.1; exact Heap.lt_size e
  have hAlt : ax < s₂.heap.objs.size := by obtain ⟨o, e, _⟩ := hst.2; exact Heap.lt_size e
  refine wpAny_newObj_type (wpAny_newFunctionEnv hcell (by intro y hy; simp at hy) (fun h₁ hns₁ hsb₁ => ?_) hkind)
  dsimp only at hns₁ hsb₁ ⊢
  generalize hH2 : s₂.heap.push { cls := .type "list", dict := none, data := .seq ([] : List Value).toArray } = H2 at hns₁ hsb₁ ⊢
  have hC : H2.objs.size = s₂.heap.objs.size + 1 := by rw [← hH2, Heap.size_push]
  have hDC : s₂.heap.objs.size ≠ H2.objs.size := by rw [hC]; exact Nat.ne_of_lt (Nat.lt_succ_self _)
  have below : ∀ b, b < s₂.heap.objs.size → b ≠ H2.objs.size ∧ b ≠ s₂.heap.objs.size := fun b hb => ⟨by rw [hC]; exact Nat.ne_of_lt (Nat.lt_succ_of_lt hb), Nat.ne_of_lt hb⟩
  have old : ∀ b o, s₂.heap.get? b = some o → h₁.get? b = some o := fun b o e => hsb₁.extBut b o (below b (Heap.lt_size e)).1 (Heap.get?_push_of_some _ (hH2 ▸ Heap.get?_push_of_some _ e))
  have hacc : h₁.get? s₂.heap.objs.size = some (lst []) := hsb₁.extBut _ _ hDC (Heap.get?_push_of_some _ (hH2 ▸ Heap.get?_push_size _ rfl))
  have hst₁ : h₁.IsListIter I ax 0 ∧ h₁.IsList ax vs.toArray := W.frame _ _ _ hst fun b _ o e => old b o e
  have fresh : ∀ a, s₂.heap.objs.size ≤ a → s₂.heap.get? a = none := fun a ha => by
    cases e : s₂.heap.get? a with
    | none => rfl
    | some o' => exact absurd (Heap.lt_size e) (Nat.not_lt.mpr ha)
  have fresh₀ : ∀ a, s₂.heap.objs.size ≤ a → h₀.get? a = none := fun a ha => by
    cases e : h₀.get? a with
    | none => rfl
    | some o' => have := F.keep a o' e; rw [fresh a ha] at this; cases this
  have hD₀ : h₀.get? s₂.heap.objs.size = none := fresh₀ _ (Nat.le_refl _)
  have hC₀ : h₀.get? H2.objs.size = none := fresh₀ _ (by rw [hC]; exact Nat.le_succ _)
  have hLlt : L < s₂.heap.objs.size := F.ns.lt
  have hDL : s₂.heap.objs.size ≠ L := Ne.symm (below L hLlt).2
  have hCL : H2.objs.size ≠ L := Ne.symm (below L hLlt).1
  have hCI : I ≠ H2.objs.size := (below I hIlt).1
  have hDI : I ≠ s₂.heap.objs.size := (below I hIlt).2
  have off3 : ∀ p ∈ news, p.1 ≠ I ∧ p.1 ≠ H2.objs.size ∧ p.1 ≠ s₂.heap.objs.size := fun p hp => ⟨off p hp, (below _ (Heap.lt_size (N p hp).1)).1, (below _ (Heap.lt_size (N p hp).1)).2⟩
  have loop : ∀ s₃ : Shared, s₃ = { s₂ with heap := h₁, toks := s₂.toks + ([] : List (Str × Value)).length } →
      codeAny (model prog w) A (.compLoop (comp2 x y px py pe iter iter2 scope pos) 0 (.ref I) (.ref s₂.heap.objs.size) (compEnvC scope cl H2.objs.size env))
        (RR (.ref s₂.heap.objs.size) H2.objs.size) s₃ := by
    rintro s₃ rfl
    refine codeAny_outer
      (fun k s' => ∃ h' tk i ys m', s' = { s₂ with heap := h', toks := tk } ∧ i ≤ ns.length ∧ k = ns.length + 1 - i ∧ IntsAre ys ((ns.take i).flatMap g) ∧ (h'.IsListIter I ax i ∧ h'.IsList ax vs.toArray) ∧ Fr h₀ L h' m ∧ h'.Ns H2.objs.size m' ∧ News h₀ L h' ((s₂.heap.objs.size, lst ys) :: news)) ?_ (ns.length + 1)
      ⟨h₁, _, 0, [], _, rfl, Nat.zero_le _, rfl, .nil, hst₁, F.keeps old, hns₁, fun p hp => ?_⟩ (hs2 _)
    · rintro k s' ⟨h', tk, i, ys, m', rfl, hi', rfl, hys, hst', F', hn', N'⟩
      by_cases hlt : i < ns.length
      · refine W.item i _ _ _ hlt hst' fun v h₂ tk₂ hPv hst₂ hk₂ => ?_
        obtain ⟨t, ht⟩ := hi.get i ns[i] (List.getElem?_eq_getElem hlt)
        have hvv : v = .int ns[i] t := by
          have hv' : vs[i]? = some v := by rw [List.getElem?_toArray] at hPv; exact hPv
          rw [ht] at hv'; exact (Option.some.inj hv').symm
        subst hvv
        have hts : ns.take (i + 1) = ns.take i ++ [ns[i]] := by rw [List.take_add_one, List.getElem?_eq_getElem hlt]; rfl
        refine wpAny_assign_Name (wpAny_storeName_local (lookup_relabel_local hx) (hn'.at' fun o e => hk₂ _ o (by simpa using Ne.symm hCI) e) (fun h₃ hn₃ hs₃ => ?_) (by simp [compEnvC, relabel, hkind]))
        have hst₃ : h₃.IsListIter I ax (i + 1) ∧ h₃.IsList ax vs.toArray := W.frame _ _ _ hst₂ fun b hb o e => hs₃.extBut b o (fun q => by
          have q' : b = H2.objs.size := q
          rcases List.mem_cons.mp hb with h | h
          · exact hCI (h ▸ q')
          · exact (below ax hAlt).1 (by rw [← List.mem_singleton.mp h]; exact q')) e
        obtain ⟨oI, heI, hoI⟩ := id hst₃.1
        obtain ⟨oC, heC, hoC⟩ := ns_obj hn₃
        have F₃ : Fr h₀ L h₃ m := (fr_but F' hk₂ hIL hI₀).change hs₃ hCL hC₀
        have N₂ : News h₀ L h₂ ((s₂.heap.objs.size, lst ys) :: news) := news_but N' hk₂ fun p hp => by
          rcases List.mem_cons.mp hp with rfl | hp
          · exact Ne.symm hDI
          · exact (off3 p hp).1
        have N₃ : News h₀ L h₃ ((I, oI) :: (H2.objs.size, oC) :: (s₂.heap.objs.size, lst ys) :: news) := fun p hp => by
          rcases List.mem_cons.mp hp with rfl | hp
          · exact ⟨heI, Ne.symm hIL, hI₀⟩
          · rcases List.mem_cons.mp hp with rfl | hp
            · exact ⟨heC, hCL, hC₀⟩
            · have z := N₂ p hp
              refine ⟨hs₃.extBut _ _ ?_ z.1, z.2⟩
              rcases List.mem_cons.mp hp with rfl | hp
              · exact hDC
              · exact (off3 p hp).2.1
        refine wpAny_mono (turn ns[i] t I oI H2.objs.size oC s₂.heap.objs.size (lst ys) _ h₃ _ _ (List.getElem_mem _) hoC (by simp) F₃ N₃ off3 ⟨hCI, hDI, Ne.symm hDC⟩) (fun xv s₄ h₄ => ?_) fun _ _ e => e
        obtain ⟨r, a, b, st, t1, u1, v1, rfl, ⟨h₄, tk₄, rfl, F₄, N₄⟩, hr, hsm, hsize, hks⟩ := h₄
        refine wpAny_pyIter_range hr hsm ?_
        have zI := N₄ (I, oI) List.mem_cons_self
        have zC := N₄ (H2.objs.size, oC) (List.mem_cons_of_mem _ List.mem_cons_self)
        have zD := N₄ (s₂.heap.objs.size, lst ys) (List.mem_cons_of_mem _ (List.mem_cons_of_mem _ List.mem_cons_self))
        have N₄' : News h₀ L h₄ news := fun p hp => N₄ p (List.mem_cons_of_mem _ (List.mem_cons_of_mem _ (List.mem_cons_of_mem _ hp)))
        have up : ∀ c o, h₄.get? c = some o → (h₄.push { cls := .type "range_iterator", data := .fields #[rawInt a, rawInt (Builtin.Range.rangeSize a b st), rawInt st] }).get? c = some o := fun c o e => Heap.get?_push_of_some _ e
        have ltJ : ∀ b o, h₄.get? b = some o → h₄.objs.size ≠ b := fun b o e q => by
          have := Heap.lt_size e; rw [← q] at this; exact Nat.lt_irrefl _ this
        have hlen2 : ys.length + (g ns[i]).length ≤ sizeLine := by
          have h1 : ys.length = ((ns.take i).flatMap g).length := hys.length
          have h2 : ((ns.take (i + 1)).flatMap g).length ≤ (ns.flatMap g).length := by
            have := congrArg (fun l => (List.flatMap g l).length) (List.take_append_drop (i + 1) ns)
            simp only [List.flatMap_append, List.length_append] at this
            omega
          rw [hts, List.flatMap_append, List.flatMap_cons, List.flatMap_nil, List.append_nil, List.length_append] at h2
          rw [h1]; exact Nat.le_trans h2 hsz
        refine inner_loop (Walks.range hh' h₄.objs.size a st (g ns[i]).length) (by show IsRangeIter _ _ _ _ _; rw [← hsize]; simpa using Heap.get?_push_size _ rfl) (up _ _ zD.1) ((hoC.ns zC.1).at' fun o e => up _ o e) hDC (ltJ _ _ zD.1) (ltJ _ _ zC.1) hlen2 rfl (lookup_relabel_local hy) (by simp [compEnvC, relabel, hkind]) hyd ?_
        intro h₅ tk₅ us m₅ hul hus hD₅ hn₅ hk₅
        have hLJ : ∀ o, h₄.get? L = some o → h₅.get? L = some o := fun o e => hk₅ L o (fun q => ltJ _ _ e q.symm) (Ne.symm hDL) (Ne.symm hCL) (up _ _ e)
        have keep₅ : ∀ b o, h₀.get? b = some o → h₅.get? b = some o := fun b o e => by
          have e4 := F₄.keep b o e
          refine hk₅ b o (fun q => ltJ _ _ e4 q.symm) (fun q => ?_) (fun q => ?_) (up _ _ e4)
          · rw [q, hD₀] at e; cases e
          · rw [q, hC₀] at e; cases e
        have F₅ : Fr h₀ L h₅ m := ⟨F₄.ns.at' hLJ, keep₅, F₄.above⟩
        have N₅ : News h₀ L h₅ ((s₂.heap.objs.size, lst (ys ++ us)) :: news) := fun p hp => by
          rcases List.mem_cons.mp hp with rfl | hp
          · exact ⟨hD₅, hDL, hD₀⟩
          · have z := N₄' p hp
            exact ⟨hk₅ _ _ (fun q => ltJ _ _ z.1 q.symm) (off3 p hp).2.2 (off3 p hp).2.1 (up _ _ z.1), z.2⟩
        have zI₅ : h₅.get? I = some oI := hk₅ _ _ (fun q => ltJ _ _ zI.1 q.symm) hDI hCI (up _ _ zI.1)
        refine ⟨ns.length + 1 - (i + 1), by omega, h₅, tk₅, i + 1, ys ++ us, m₅, rfl, hlt, rfl, ?_, list_st (i + 1) h₃ h₅ oI news hst₃ heI zI₅ keep₅ (fun p hp => N₅ p (List.mem_cons_of_mem _ hp)) hS, F₅, hn₅, N₅⟩
        rw [hts, List.flatMap_append, List.flatMap_cons, List.flatMap_nil, List.append_nil]
        refine IntsAre.append' hys (intsAre_of us (g ns[i]) hul fun j u hu => ?_)
        obtain ⟨t', rfl⟩ := hus j u hu
        have hj : j < (g ns[i]).length := by rw [← hul]; exact (List.getElem?_eq_some_iff.mp hu).1
        exact ⟨t', _, by rw [List.getElem?_eq_getElem hj, hks j _ (List.getElem?_eq_getElem hj)], rfl⟩
      · obtain rfl : i = ns.length := Nat.le_antisymm hi' (Nat.not_lt.mp hlt)
        rw [List.take_length] at hys
        refine W.done _ _ _ hst' fun h₂ tk₂ hk₂ => ?_
        exact hRR _ _ h₂ tk₂ _ ys hys (fr_but F' hk₂ hIL hI₀) (news_but N' hk₂ fun p hp => by
          rcases List.mem_cons.mp hp with rfl | hp
          · exact Ne.symm hDI
          · exact (off3 p hp).1) (fun p hp => (off3 p hp).2.2) (hn'.at' fun o e => hk₂ _ o (by simpa using Ne.symm hCI) e) hC₀ hD₀ hCL hDL (Ne.symm hDC) (fun p hp => (off3 p hp).2.1)
    · rcases List.mem_cons.mp hp with rfl | hp
      · exact ⟨hacc, hDL, hD₀⟩
      · exact ⟨old _ _ (N p hp).1, (N p hp).2⟩
  exact codeAny_compStart_list (loop _ rfl) (W.self 0 _ _ _ hst₁ (loop _ rfl))
/-- z = [y for x in src for y in range(..)] -/
theorem comp2_ints {iter iter2 : PySem.Expr} {x y z : Str} {px py pe pz : Pos} {scope : Scope} {cl : List (Str × Addr)} {pos spos : Pos} {Q : Flow → Shared → Prop} {ax : Addr} {vs : List Value} {ns : List Int} {news : List (Addr × Obj)} (g : Int → List Int)
    (hh : A.handled = none) (hh' : (A.mark none).handled = none) (_F₀ : Fr h₀ L s.heap m) (_N₀ : News h₀ L s.heap news) (hLe : env.locals = L) (hi : IntsAre vs ns) (hsz : (ns.flatMap g).length ≤ 16777216)
    (hsw : swapsWith (comp2 x y px py pe iter iter2 scope pos) (some (.Name z pz)) spos.line env = pure true)
    (hclos : closureFor scope env = pure cl) (hcell : ∀ z ∈ scope.names, z.2 ≠ .cell) (hkind : scope.kind = .function)
    (hnames : ∀ z ∈ scope.names, z.2 = .local → scope.names.lookup z.1 = some .local) (hx : scope.names.lookup x = some .local) (hy : scope.names.lookup y = some .local) (hyd : (y == ("__debug__" : Str)) = false)
    (hz : env.kindOf z = some .local) (hp : (env.scope.kind == .class || (env.scope.kind == .module && env.locals != env.globals)) = false)
    (hiter : wpAny (model prog w) A (eval iter env) (SrcIs h₀ L m news s ax vs) E s)
    (turn : ∀ n t I oI C oC D oD m₂ h tk (E' : Value → Shared → Prop), n ∈ ns → NsObj oC m₂ → m₂ x = some (.int n t) → Fr h₀ L h m → News h₀ L h ((I, oI) :: (C, oC) :: (D, oD) :: news) → (∀ q ∈ news, q.1 ≠ I ∧ q.1 ≠ C ∧ q.1 ≠ D) → ((@Ne Nat I C) ∧ (@Ne Nat I D) ∧ (@Ne Nat C D)) →
      wpAny (model prog w) A (eval iter2 (compEnvC scope cl C env)) (RangeIs h₀ L m ((I, oI) :: (C, oC) :: (D, oD) :: news) { s with heap := h, toks := tk } (g n)) E' { s with heap := h, toks := tk })
    (fin : ∀ D ys h tk, IntsAre ys (ns.flatMap g) → Fr h₀ L h (fun y => if y = z then some (.ref D) else m y) → News h₀ L h ((D, lst ys) :: news) → (∀ q ∈ news, q.1 ≠ D) → Q .next { s with heap := h, toks := tk })
    (hs2 : ∀ C z, foldedSetIterable iter2 (compEnvC scope cl C env) z = pure z := by intro _ _; rfl)
    (hs : ∀ x, foldedSetIterable iter env x = pure x := by intro _; rfl) :
    wpAny (model prog w) A (exec (.Assign [.Name z pz] (comp2 x y px py pe iter iter2 scope pos) spos) env) Q E s := by
  subst hLe
  rw [exec_Assign_Name_used _ _ _ _ hsw]
  refine wpAny_bind (wpAny_standAt (wpAny_bind ?_))
  show wpAny _ A (do let _ ← comprehension (comp2 x y px py pe iter iter2 scope pos) scope env _ (newList []) false (eval iter env) (some (assign (.Name z pz) env))) _ _ s
  refine wpAny_bind (wpAny_mono (wpAny_comprehension_free (use := some (assign (.Name z pz) env)) (Q := fun _ s' => Q .next s') rfl hs hclos hkind hnames
    (wpAny_mono hiter (fun xv s₁ h₁ => ?_) fun _ _ e => e)) (fun _ s' hq => wpAny_pure (wpAny_pure hq)) fun _ _ e => e)
  obtain ⟨rfl, ⟨h₁, tk₁, rfl, F, N⟩, hS⟩ := h₁
  have hl := hS.list F.keep N
  have hlt : ax < h₁.objs.size := by obtain ⟨_, e, _⟩ := hl; exact Heap.lt_size e
  refine wpAny_pyIter_list hl ?_
  have up : ∀ b o, h₁.get? b = some o → (h₁.push { cls := .type "list_iterator", data := .fields #[.ref ax, .int 0 0] }).get? b = some o := fun b o e => Heap.get?_push_of_some _ e
  refine block2 (s₂ := ⟨_, s.gens, s.drawn, tk₁, s.os⟩) g hh hh' hi (Nat.ne_of_lt hlt) (by rw [sizeLine_eq]; exact hsz) hcell hkind hx hy hyd ⟨⟨_, Heap.get?_push_size _ rfl, rfl, rfl⟩, hl.push _⟩ (F.keeps up) (N.grown up) (Nat.ne_of_lt F.ns.lt) (next_is_new F) (fun p hp => Nat.ne_of_lt (Heap.lt_size (N p hp).1)) hS turn hs2 ?_
  intro D C h' tk m' ys hys F' N' o1 hn hC₀ hD₀ hCL hDL hCD offC
  show wpAny _ A (assign (.Name z pz) env (.ref D)) _ _ _
  refine wpAny_assign_Name (wpAny_storeName_local hz F'.ns (fun h₂ hn₂ hs₂ => ?_) hp)
  have hL₀ : h₀.get? env.locals = none := Heap.get?_none_of_le F'.above
  have F₂ : Fr h₀ env.locals h₂ (fun y => if y = z then some (.ref D) else m y) := ⟨hn₂, fun b o e => hs₂.extBut b o (fun q => by rw [q, hL₀] at e; cases e) (F'.keep b o e), F'.above⟩
  refine ⟨m', hn.sameBut hs₂ hCL, fun h'' hs'' => fin D ys h'' _ hys (F₂.change hs'' hCL hC₀) (fun p hp => ?_) o1⟩
  have zz : h₂.get? p.1 = some p.2 := hs₂.extBut _ _ (N' p hp).2.1 (N' p hp).1
  refine ⟨hs''.extBut _ _ ?_ zz, (N' p hp).2⟩
  rcases List.mem_cons.mp hp with rfl | hp
  · exact Ne.symm hCD
  · exact offC p hp
end
end Mine
end secMComp3
section secMComp4
open PySem PySem.W PyProof.Rows PySem.Calls PySem.Spec PyProof.Rows.LCg PyProof.Rows.LCt
namespace Mine
noncomputable def EltG (h₀ : Heap) (L : Addr) (m : Str → Option Value) (led : List (Addr × Obj)) (s : Shared) (G : Value → Prop) (z : Value) (s' : Shared) : Prop := G z ∧ Quiet h₀ L m led s s'
section
variable {prog : Program} {w : World} {A : Around} {E : Value → Shared → Prop} {s : Shared} {h₀ : Heap} {L : Addr} {m : Str → Option Value} {env : Env}
theorem restU {elt : PySem.Expr} {x : Str} {scope : Scope} {cl : List (Str × Addr)} {ax : Addr} {vs : List Value} {news : List (Addr × Obj)} {Fin : List Value → List (Addr × Obj) → Prop} (G : Value → Value → Prop) (hS : SrcAt h₀ ax vs.toArray news)
    (turn : ∀ v I oI C oC D oD m₂ h tk (E' : Value → Shared → Prop), v ∈ vs → NsObj oC m₂ → m₂ x = some v → Fr h₀ L h m → News h₀ L h ((I, oI) :: (C, oC) :: (D, oD) :: news) → (∀ q ∈ news, q.1 ≠ I ∧ q.1 ≠ C ∧ q.1 ≠ D) → ((@Ne Nat I C) ∧ (@Ne Nat I D) ∧ (@Ne Nat C D)) →
      wpAny (model prog w) A (eval elt (compEnvC scope cl C env)) (EltG h₀ L m ((I, oI) :: (C, oC) :: (D, oD) :: news) { s with heap := h, toks := tk } (G v)) E' { s with heap := h, toks := tk })
    (fin : ∀ ys, Paired G vs ys → Fin ys news) :
    ∀ (k i : Nat) (ys : List Value), i + k = vs.length → Paired G (vs.take i) ys → CompRest prog w A h₀ L m env elt x scope cl s (SrcAt h₀ ax vs.toArray) (fun i v => vs.toArray[i]? = some v) Fin k i ys news := by
  intro k
  induction k with
  | zero =>
    intro i ys hk hy
    refine CompRest.zero (fin ys ?_)
    rw [show i = vs.length by omega, List.take_length] at hy
    exact hy
  | succ k ih =>
    intro i ys hk hy
    refine CompRest.succ fun v I oI C oC D m₂ h tk E' hv hC hx F N off ne => ?_
    have hlt : i < vs.length := by omega
    have hv' : vs[i]? = some v := by rw [List.getElem?_toArray] at hv; exact hv
    have hvv : vs[i] = v := by rw [List.getElem?_eq_getElem hlt] at hv'; exact Option.some.inj hv'
    have hs : vs.take (i + 1) = vs.take i ++ [v] := by rw [List.take_add_one, hv']; rfl
    refine wpAny_mono (turn v I oI C oC D (lst ys) m₂ h tk E' (hvv ▸ List.getElem_mem _) hC hx F N off.mem ne) (fun z s'' h2 => ?_) fun _ _ e => e
    obtain ⟨hg, h', tk', rfl, F', N'⟩ := h2
    refine ⟨h', tk', news, rfl, F', N', off, hS, ih (i + 1) _ (by omega) ?_⟩
    rw [hs]
    exact hy.snoc hg
/-- [elt for x in src], as a value -/
theorem compU {elt iter : PySem.Expr} {x : Str} {px : Pos} {scope : Scope} {cl : List (Str × Addr)} {pos : Pos} {Q : Value → Shared → Prop} {ax : Addr} {vs : List Value} {news : List (Addr × Obj)} (G : Value → Value → Prop)
    (hh : A.handled = none) (F₀ : Fr h₀ L s.heap m) (_N₀ : News h₀ L s.heap news) (hsz : vs.length ≤ 16777216)
    (hclos : closureFor scope env = pure cl) (hcell : ∀ z ∈ scope.names, z.2 ≠ .cell) (hkind : scope.kind = .function)
    (hnames : ∀ z ∈ scope.names, z.2 = .local → scope.names.lookup z.1 = some .local) (hx : scope.names.lookup x = some .local)
    (hiter : wpAny (model prog w) A (eval iter env) (SrcIs h₀ L m news s ax vs) E s)
    (turn : ∀ v I oI C oC D oD m₂ h tk (E' : Value → Shared → Prop), v ∈ vs → NsObj oC m₂ → m₂ x = some v → Fr h₀ L h m → News h₀ L h ((I, oI) :: (C, oC) :: (D, oD) :: news) → (∀ q ∈ news, q.1 ≠ I ∧ q.1 ≠ C ∧ q.1 ≠ D) → ((@Ne Nat I C) ∧ (@Ne Nat I D) ∧ (@Ne Nat C D)) →
      wpAny (model prog w) A (eval elt (compEnvC scope cl C env)) (EltG h₀ L m ((I, oI) :: (C, oC) :: (D, oD) :: news) { s with heap := h, toks := tk } (G v)) E' { s with heap := h, toks := tk })
    (fin : ∀ D ys h tk, Paired G vs ys → Fr h₀ L h m → News h₀ L h ((D, lst ys) :: news) → (∀ q ∈ news, q.1 ≠ D) → Q (.ref D) { s with heap := h, toks := tk })
    (hs : ∀ x, foldedSetIterable iter env x = pure x := by intro _; rfl) :
    wpAny (model prog w) A (eval (.ListComp elt [⟨.Name x px, iter, [], 0⟩] scope pos) env) Q E s := by
  refine ListComp_U F₀ hclos hcell hkind hnames hx (wpAny_mono hiter (fun xv s₁ h₁ => ?_) fun _ _ e => e) hs
  obtain ⟨rfl, ⟨h₁, tk₁, rfl, F₁, N₁⟩, hS⟩ := h₁
  refine .inl ⟨ax, vs.toArray, news, rfl, hh, F₁, N₁, hS, by rw [List.size_toArray, sizeLine_eq]; exact hsz, ?_⟩
  rintro s₂ ⟨g, rfl⟩
  rw [List.size_toArray]
  refine restU (s := ⟨g, s.gens, s.drawn, tk₁, s.os⟩) (Fin := FinE h₀ L m ⟨g, s.gens, s.drawn, tk₁, s.os⟩ Q) G hS turn (fun ys hys D h tk F N off => fin D ys h tk hys F N ?_) vs.length 0 [] (by omega) .nil
  intro q hq
  have : ∀ {l : List (Addr × Obj)}, Off1 D l → ∀ p ∈ l, p.1 ≠ D := by
    intro l
    induction l with
    | nil => intro _ p hp; cases hp
    | cons a r ih =>
      intro o p hp
      rcases List.mem_cons.mp hp with rfl | hp
      · exact o.1
      · exact ih o.2 p hp
  exact this off q hq
end
end Mine
end secMComp4
section secMTurn
open PySem PySem.W PyProof.Rows PySem.Calls PySem.Spec PyProof.V
namespace Mine
section
variable {prog : Program} {w : World} {A : Around} {E : Value → Shared → Prop} {s : Shared} {env : Env} {h₀ : Heap} {body : List Stmt} {Q : Flow → Shared → Prop} {x : Str} {px : Pos}
noncomputable def TxtEnd (h₀ : Heap) (L : Addr) (own : List (Addr × Obj)) (J : (Str → Option Value) → List (Addr × Obj) → Prop) (s₁ s₂ : Shared) : Prop :=
  ∃ h' tk m' news' nx, s₂ = { s₁ with heap := h', toks := tk } ∧ Fr h₀ L h' m' ∧ News h₀ L h' news' ∧ (∀ p ∈ nx, p ∈ news') ∧ (∀ p ∈ own, p ∈ news') ∧ OwnOff own (nx.map (·.1)) ∧ J m' nx
noncomputable def TxtPost (h₀ : Heap) (L : Addr) (own : List (Addr × Obj)) (J : (Str → Option Value) → List (Addr × Obj) → Prop) (s₁ : Shared) (Q : Flow → Shared → Prop) (f : Flow) (s₂ : Shared) : Prop :=
  match f with
  | .ret v => Q (.ret v) s₂
  | .brk => Q .next s₂
  | _ => TxtEnd h₀ L own J s₁ s₂
theorem text_core {I : Addr} {n : Nat} {P : Nat → Value → Prop} {St : Nat → Heap → Prop} {m₀ : Str → Option Value} {news : List (Addr × Obj)} (J : Nat → (Str → Option Value) → List (Addr × Obj) → Prop)
    (W : Walks prog w A I [I] [I] n P St) (hI : ∀ i h, St i h → ∃ o, h.get? I = some o) (hst : St 0 s.heap) (hI0 : h₀.get? I = none) (hL : env.locals ≠ I) (F : Fr h₀ env.locals s.heap m₀) (N : News h₀ env.locals s.heap news) (hoff : ∀ p ∈ news, p.1 ≠ I) (hj : J 0 m₀ news)
    (turn : ∀ i v m₁ news₁ h tk own, i < n → P i v → OwnOff own (news₁.map (·.1)) → J i m₁ news₁ → Fr h₀ env.locals h m₁ → News h₀ env.locals h (news₁ ++ own) →
      wpAny (model prog w) A (assign (.Name x px) env v) (fun _ s₃ => wpAny (model prog w) A (execs body env) (TxtPost h₀ env.locals own (J (i + 1)) { s with heap := h, toks := tk } Q) E s₃) E { s with heap := h, toks := tk })
    (done : ∀ m₁ news₁ h tk, J n m₁ news₁ → Fr h₀ env.locals h m₁ → News h₀ env.locals h news₁ → Q .next { s with heap := h, toks := tk }) :
    TurnsAt prog w A h₀ env (.Name x px) body Q E (.ref I) s := by
  refine ⟨I, [I], [I], n, fun i v _ => P i v, _, St, m₀, news, J, rfl, KTurns.ofWalks W (fun i v s Q E _ q => wpAny_of_eq (show letOwnedTupleGo (.Name x px) (.ref I) v = pure () from rfl) q), by simpa using hL, by simpa using hI0, fun p hp => by simpa using hoff p hp, hst, F, N, hj, ?_, ?_⟩
  · intro i v m₁ news₁ h₁ tk₁ own hin hP hJ hnw hown hval hall hst₁ F₁ N₁
    obtain ⟨oI, hoI⟩ := hI _ _ hst₁
    have hIown : (I, oI) ∈ own := hall I (by simp) hI0 _ hoI
    have hsep : OwnOff own (news₁.map (·.1)) := by
      intro p hp b hb e
      obtain ⟨q, hq, rfl⟩ := List.mem_map.mp hb
      have h1 : p.1 = I := by simpa using hown p hp
      exact hnw q hq (by simp [← e, h1])
    have N₂ : News h₀ env.locals h₁ (news₁ ++ own) := fun p hp => N₁ p ((List.mem_append.mp hp).elim (fun h => List.mem_append.mpr (.inr h)) fun h => List.mem_append.mpr (.inl h))
    refine wpAny_mono (turn i v m₁ news₁ h₁ tk₁ own hin hP hsep hJ F₁ N₂) (fun _ s₂ h₂ => wpAny_mono h₂ (fun f s₃ p => ?_) fun _ _ e => e) fun _ _ e => e
    have fin : TxtEnd h₀ env.locals own (J (i + 1)) { s with heap := h₁, toks := tk₁ } s₃ → LoopStepU h₀ env.locals [I] own (J (i + 1)) { s with heap := h₁, toks := tk₁ } .next s₃ := by
      rintro ⟨h', tk, m', news', nx, e, F', N', hn, ho, ha, hm⟩
      refine ⟨rfl, h', tk, m', nx, e, F', fun p hp => N' p ((List.mem_append.mp hp).elim (ho p) (hn p)), fun p hp hq => ?_, hm⟩
      exact ha _ hIown p.1 (List.mem_map.mpr ⟨p, hp, rfl⟩) (List.mem_singleton.mp hq).symm
    cases f with
    | ret v => exact .ret p
    | brk => exact .brk p
    | next => exact .next (fin p)
    | cont => exact .cont (fin p)
  · intro h' tk m' news' F' N' _ hJ
    exact done m' news' h' tk hJ F' N'
/-- a for over a text, whatever its target's kind -/
theorem text_loop {l : List Nat} {t : Tok} {m₀ : Str → Option Value} {news : List (Addr × Obj)} (J : Nat → (Str → Option Value) → List (Addr × Obj) → Prop)
    (hh : A.handled = none) (F : Fr h₀ env.locals s.heap m₀) (N : News h₀ env.locals s.heap news) (hj : J 0 m₀ news)
    (turn : ∀ i c tc m₁ news₁ h tk own, l[i]? = some c → OwnOff own (news₁.map (·.1)) → J i m₁ news₁ → Fr h₀ env.locals h m₁ → News h₀ env.locals h (news₁ ++ own) →
      wpAny (model prog w) A (assign (.Name x px) env (.str (S [c]) tc)) (fun _ s₃ => wpAny (model prog w) A (execs body env) (TxtPost h₀ env.locals own (J (i + 1)) { s with heap := h, toks := tk } Q) E s₃) E { s with heap := h, toks := tk })
    (done : ∀ m₁ news₁ h tk, J l.length m₁ news₁ → Fr h₀ env.locals h m₁ → News h₀ env.locals h news₁ → Q .next { s with heap := h, toks := tk }) :
    wpAny (model prog w) A (pyIter (.str (S l) t)) (fun it s₂ => TurnsAt prog w A h₀ env (.Name x px) body Q E it s₂) E s := by
  have up : ∀ (o : Obj) b o', s.heap.get? b = some o' → (s.heap.push o).get? b = some o' := fun o b o' e => Heap.get?_push_of_some _ e
  have hsz : (S l).cps.size = l.length := by simp [S]
  have trn : ∀ (o : Obj) i v m₁ news₁ h tk own, i < (S l).cps.size → SignAt (S l) i v → OwnOff own (news₁.map (·.1)) → J i m₁ news₁ → Fr h₀ env.locals h m₁ → News h₀ env.locals h (news₁ ++ own) →
      wpAny (model prog w) A (assign (.Name x px) env v) (fun _ s₃ => wpAny (model prog w) A (execs body env) (TxtPost h₀ env.locals own (J (i + 1)) { ({ s with heap := s.heap.push o } : Shared) with heap := h, toks := tk } Q) E s₃) E { ({ s with heap := s.heap.push o } : Shared) with heap := h, toks := tk } := by
    rintro o i v m₁ news₁ h tk own _ ⟨c, u, hc, rfl⟩ hoff hJ F₁ N₁
    exact turn i c u m₁ news₁ h tk own (by simpa [S] using hc) hoff hJ F₁ N₁
  have offI : ∀ p ∈ news, p.1 ≠ s.heap.objs.size := fun p hp => Nat.ne_of_lt (Heap.lt_size (N p hp).1)
  cases ha : (S l).cps.all (· < 128)
  · refine wpAny_pyIter_wide ha ?_
    exact text_core J (Walks.strWide hh _ (S l) t) (fun i h st => let ⟨o, ho, _⟩ := st; ⟨o, ho⟩) ⟨_, Heap.get?_push_size _ rfl, rfl, rfl⟩ (next_is_new F) (Nat.ne_of_lt F.ns.lt) (F.keeps (up _)) (N.grown (up _)) offI hj (trn _) fun m₁ news₁ h tk hJ F₁ N₁ => done m₁ news₁ h tk (hsz ▸ hJ) F₁ N₁
  · refine wpAny_pyIter_ascii ha ?_
    exact text_core J (Walks.strAscii hh _ (S l) t) (fun i h st => let ⟨o, ho, _⟩ := st; ⟨o, ho⟩) ⟨_, Heap.get?_push_size _ rfl, rfl, rfl⟩ (next_is_new F) (Nat.ne_of_lt F.ns.lt) (F.keeps (up _)) (N.grown (up _)) offI hj (trn _) fun m₁ news₁ h tk hJ F₁ N₁ => done m₁ news₁ h tk (hsz ▸ hJ) F₁ N₁
end
end Mine
end secMTurn
section secMSort
namespace Mine
/-- sorted() of a falling list of ints, whatever its length -/
noncomputable def Falls (xs : Array Keyed) (k : Nat) : Prop := ∀ i j, i < j → j < k → K xs j < K xs i
theorem minRun_le : ∀ (f n r : Nat), r ≤ 1 → minRun' f n r ≤ n + r
  | 0, _, _, _ => Nat.le_refl _
  | f + 1, n, r, hr => by
    rw [minRun'_succ]
    split
    · exact Nat.le_refl _
    · have := minRun_le f (n / 2) (max r (n % 2)) (by omega)
      omega
section
variable {prog : Program} {w : World} {A : Around} {E : Value → Shared → Prop} {s : Shared} {a₀ : Array Keyed}
theorem falls_desc {st : SortSt} {nrem : Nat} {Q : DescSt → SortSt → Prop} (h0 : IntKeys a₀) (hn : nrem ≤ a₀.size) (h2 : 2 ≤ nrem) (hB : SBase a₀ st) (hf : Falls (arrOf st) nrem)
    (h : Q (none, nrem, 0) st) : wpS (model prog w) A E s (descLoop 2 nrem) Q st := by
  unfold descLoop
  refine wpS_forRange (I := fun x c st' => c = (none, x, 0) ∧ st' = st) ?step ?fin ⟨rfl, rfl⟩
  case fin =>
    rintro c st' ⟨rfl, rfl⟩
    rw [show max 2 nrem = nrem by omega]; exact h
  case step =>
    rintro x c st' hx hxn ⟨rfl, rfl⟩
    dsimp only
    refine wpS_bind (wpS_ltK hB h0 (by omega) (by omega) ?_)
    have hl : K (arrOf st') x < K (arrOf st') (x - 1) := hf _ _ (by omega) hxn
    simp only [hl, decide_true, if_true]
    rw [if_neg (by omega)]
    exact wpS_pure ⟨rfl, rfl⟩
theorem falls_tail {st : SortSt} {nrem : Nat} {Q : Option Nat → SortSt → Prop} (h0 : IntKeys a₀) (hn : nrem ≤ a₀.size) (h1 : 1 ≤ nrem) (hB : SBase a₀ st) (hf : Falls (arrOf st) nrem)
    (h : ∀ st', SBase a₀ st' → SortedTo (arrOf st') nrem → Q (some nrem) st') : wpS (model prog w) A E s (tail3 nrem nrem) Q st := by
  have hs : NonInc (arrOf st) nrem := fun i j hij hj => by
    rcases Nat.lt_or_eq_of_le hij with hl | he
    · exact Int.le_of_lt (hf i j hl hj)
    · rw [he]; exact Int.le_refl _
  unfold tail3
  have hsz : nrem ≤ (arrOf st).size := by rw [hB.size]; omega
  refine wpS_bind (wpS_reverse ?_)
  have hB' : SBase a₀ (setArr st (mirror (arrOf st) 0 nrem ((nrem - 0) / 2))) := hB.setArr (mirror_perm _ _ _ _)
  refine wpS_bind (wpS_ascLoop h0 hn h1 (Nat.le_refl _) hB' ?_ fun m hm1 hm2 hsm _ => ?_)
  · intro i j hij hj
    show K (mirror (arrOf st) 0 nrem ((nrem - 0) / 2)) i ≤ K (mirror (arrOf st) 0 nrem ((nrem - 0) / 2)) j
    rw [K_mirror hsz, K_mirror hsz, if_pos (by omega), if_pos (by omega)]
    exact hs _ _ (by omega) (by omega)
  · have e : m = nrem := by omega
    rw [e] at hsm ⊢
    exact wpS_pure (h _ hB' hsm)
theorem falls_run {st : SortSt} {nrem : Nat} {Q : Option Nat → SortSt → Prop} (h0 : IntKeys a₀) (hn : nrem ≤ a₀.size) (h2 : 2 ≤ nrem) (hB : SBase a₀ st) (hf : Falls (arrOf st) nrem)
    (h : ∀ st', SBase a₀ st' → SortedTo (arrOf st') nrem → Q (some nrem) st') : wpS (model prog w) A E s (countRun' 0 nrem) Q st := by
  rw [countRun0_eq]
  refine wpS_bind (wpS_ascLoop h0 hn (Nat.le_refl 1) (by omega) hB (fun i j hij hj => by
    have : i = j := by omega
    subst this; exact Int.le_refl _) fun n hn1 hn2 hsn _ => ?_)
  dsimp only
  have e : n = 1 := by
    rcases Nat.lt_or_ge 1 n with h1 | h1
    · have a := hsn 0 1 (by omega) h1
      have b := hf 0 1 (by omega) (by omega)
      omega
    · omega
  subst e
  rw [if_neg (by simp; omega), if_neg (by omega)]
  unfold descPart
  refine wpS_bind (wpS_lift (wpAny_rule ⟨rfl, ?_⟩))
  refine wpS_bind (falls_desc h0 hn h2 hB hf ?_)
  dsimp only
  rw [if_neg (by omega)]
  exact falls_tail h0 hn (by omega) hB hf h
theorem falls_sort {st : SortSt} {Q : Unit → SortSt → Prop} (h0 : IntKeys a₀) (hB : SBase a₀ st) (h2 : 2 ≤ a₀.size) (hf : Falls (arrOf st) a₀.size)
    (h : ∀ st', (arrOf st').Perm a₀ → failedOf st' = none → SortedTo (arrOf st') a₀.size → Q () st') : wpS (model prog w) A E s sortRuns' Q st := by
  rw [sortRuns'_eq]
  refine wpS_bind (wpS_get ?_)
  dsimp only
  have hmr : minRun' a₀.size a₀.size 0 ≤ a₀.size := minRun_le _ _ 0 (by omega)
  simp only [hB.size]
  refine wpS_bind (wpS_mono (wpS_forRange
    (I := fun x c st' => (x = 0 ∧ c = (none, 0) ∧ st' = st) ∨ (1 ≤ x ∧ c = (none, a₀.size) ∧ SDone a₀ st'))
    (Q := fun c st' => c = (none, a₀.size) ∧ SDone a₀ st') ?step ?fin (.inl ⟨rfl, rfl, rfl⟩)) ?post)
  case fin =>
    rintro c st' (⟨hx, _, _⟩ | ⟨_, hc, hD⟩)
    · omega
    · exact ⟨hc, hD⟩
  case step =>
    rintro x c st' _ hx (⟨rfl, rfl, rfl⟩ | ⟨hx1, rfl, hD⟩)
    · dsimp only
      rw [if_neg (by omega)]
      simp only [Nat.sub_zero, Nat.zero_add]
      refine wpS_bind (falls_run h0 (Nat.le_refl _) h2 hB hf fun st2 hB2 hs2 => ?_)
      dsimp only
      rw [if_neg (by omega)]
      refine wpS_bind (wpS_get ?_)
      have hb : (pendingOf st2).back? = none := by rw [hB2.pend]; rfl
      rw [hb]
      dsimp only
      exact wpS_bind (wpS_modify (wpS_pure (.inr ⟨by omega, rfl, hB2.done hs2⟩)))
    · dsimp only
      rw [if_pos (Nat.le_refl _)]
      exact wpS_pure ⟨rfl, hD⟩
  case post =>
    rintro c st' ⟨rfl, hD⟩
    dsimp only
    refine wpS_bind (wpS_mono (wpS_forRange (I := fun _ c st'' => st'' = st' ∧ c = (none, ())) (Q := fun c st'' => st'' = st' ∧ c = (none, ())) ?_ (fun _ _ hh => hh) ⟨rfl, rfl⟩) ?_)
    · rintro x c st'' _ _ ⟨rfl, rfl⟩
      refine wpS_bind (wpS_get ?_)
      rw [if_pos (by rw [hD.2.2.1]; exact Nat.le_refl 1)]
      exact wpS_pure ⟨rfl, rfl⟩
    · rintro c st'' ⟨rfl, rfl⟩
      exact wpS_pure (h _ hD.1 hD.2.1 hD.2.2.2)
theorem falls_of {vs : List Value} {ns : List Int} (hI : IntsAre vs ns) (hp : ns.Pairwise (· > ·)) : Falls (pairsOf vs) (pairsOf vs).size := by
  intro i j hij hj
  have hn := hI.nums
  rw [← hn, List.pairwise_map, List.pairwise_iff_getElem] at hp
  rw [K_eq hj, K_eq (Nat.lt_trans hij hj)]
  rw [pairsOf_size] at hj
  have := hp i j (by omega) hj hij
  simpa [pairsOf] using this
theorem falls_tree {a : Addr} {vs : List Value} {ns : List Int} {n : Nat} {P : Fin → Shared → Prop} (ho : s.heap.get? a = some (seqObj "list" vs.toArray n))
    (hI : IntsAre vs ns) (hd : ns.Pairwise (· > ·)) (hsm : vs.length ≤ 1000)
    (h : ∀ (out : Array Value) (ns' : List Int), IntsAre out.toList ns' → ns'.Perm ns → ns'.Pairwise (· ≤ ·) → P (.done (.ret .none)) { s with heap := sortedHeap s.heap a vs out }) :
    wpAny (model prog w) A (Builtin.«list.sort» ⟨[.ref a], []⟩) P E s := by
  have hszl : vs.length ≤ sizeLine := by rw [sizeLine_eq]; omega
  rw [list_sort_plain]
  have ha : a < s.heap.objs.size := Heap.lt_size ho
  refine wpAny_bind (listItems_at ho rfl ?_)
  refine wpAny_bind (listUpdate_at ho rfl ?_ (hsz := by simpa using hszl))
  obtain ⟨e1, ho1⟩ : ∃ e1, (s.heap.update a (Obj.mapSeq fun _ => #[])).get? a = some (seqObj "list" #[] e1) := ⟨_, get?_update_seq ho (fun _ => #[])⟩
  refine wpAny_bind (seqEpoch_at ho1 rfl ?_)
  refine wpAny_bind (wpAny_newTuple ?_)
  refine wpAny_bind (wpAny_newList ?_)
  refine wpAny_holding ?_
  have ho6 : (((s.heap.update a (Obj.mapSeq fun _ => #[])).push (seqObj "tuple" vs.toArray 0)).push (seqObj "list" #[] 0)).get? a = some (seqObj "list" #[] e1) := by
    rw [Heap.get?_push_ne _ _ _ (by rw [size_push', Heap.size_update]; exact Nat.ne_of_lt (Nat.lt_succ_of_lt ha)), Heap.get?_push_ne _ _ _ (by rw [Heap.size_update]; exact Nat.ne_of_lt ha)]
    exact ho1
  show wpAny (model prog w) A _ P E { s with heap := ((s.heap.update a (Obj.mapSeq fun _ => #[])).push (seqObj "tuple" vs.toArray 0)).push (seqObj "list" #[] 0) }
  dsimp only
  have hsz : vs.toArray.size = vs.length := by simp
  have fin : ∀ st' : SortSt, (arrOf st').Perm (pairsOf vs) → SortedTo (arrOf st') (pairsOf vs).size →
      P (.done (.ret .none)) { s with heap := sortedHeap s.heap a vs ((arrOf st').map (·.2)) } := by
    intro st' hp hs
    obtain ⟨ns', h1, h2, h3⟩ := sorted_out hI hp hs
    exact h _ ns' h1 h2 h3
  by_cases h2 : vs.toArray.size < 2
  · rw [if_pos h2, if_pos h2]
    refine wpAny_bind (wpAny_pure ?_)
    rw [StateT.run_pure]
    refine wpAny_bind (wpAny_pure ?_)
    dsimp only
    refine wpAny_bind (seqEpoch_at ho6 rfl ?_)
    refine wpAny_bind (listUpdate_at ho6 rfl ?_ (hsz2 := by rw [Array.size_map]; show (pairsOf vs).size ≤ _; rw [pairsOf_size, sizeLine_eq]; omega))
    simp only [bne_self_eq_false, Bool.false_eq_true, if_false]
    refine wpAny_pure (fin (SortSt.mk' general' (vs.toArray.zip vs.toArray) #[] 7 none) (Array.Perm.refl _) ?_)
    intro i j hij hj
    have : i = j := by rw [pairsOf_size] at hj; omega
    subst this; exact Int.le_refl _
  · rw [if_neg h2, if_neg h2]
    obtain ⟨v₁, v₂, rest, rfl⟩ : ∃ v₁ v₂ rest, vs = v₁ :: v₂ :: rest := by
      match vs, hsz, h2 with
      | [], _, h2 => simp at h2
      | [_], _, h2 => simp at h2
      | v₁ :: v₂ :: rest, _, _ => exact ⟨v₁, v₂, rest, rfl⟩
    rw [keyKind_ints hI]
    refine wpAny_bind (wpAny_pure ?_)
    refine wpAny_bind (wpAny_mono (falls_sort (a₀ := pairsOf (v₁ :: v₂ :: rest)) (st := SortSt.mk' oneType' ((v₁ :: v₂ :: rest).toArray.zip (v₁ :: v₂ :: rest).toArray) #[] 7 none)
      (Q := fun _ st' => (arrOf st').Perm (pairsOf (v₁ :: v₂ :: rest)) ∧ failedOf st' = none ∧ SortedTo (arrOf st') (pairsOf (v₁ :: v₂ :: rest)).size)
      hI.intKeys ⟨Array.Perm.refl _, rfl, rfl, rfl⟩ (by rw [pairsOf_size]; simp) (falls_of hI hd) fun st' a1 a2 a3 => ⟨a1, a2, a3⟩) ?_ fun _ _ e => e)
    rintro ⟨⟨⟩, st'⟩ s' ⟨rfl, hp, hf, hs⟩
    dsimp only
    refine wpAny_bind (seqEpoch_at ho6 rfl ?_)
    refine wpAny_bind (listUpdate_at ho6 rfl ?_ (hsz2 := by refine Nat.le_trans (Nat.le_of_eq ((Array.size_map ..).trans (hp.size_eq.trans (pairsOf_size _)))) ?_; omega))
    rw [hf]
    simp only [bne_self_eq_false, Bool.false_eq_true, if_false]
    exact wpAny_pure (fin st' hp hs)
theorem falls_sorted {l : Addr} {vs : List Value} {ns : List Int} {Q : Value → Shared → Prop} (hl : s.heap.IsList l vs.toArray) (hI : IntsAre vs ns) (hd : ns.Pairwise (· > ·)) (hsm : vs.length ≤ 1000)
    (h : ∀ (out : Array Value) (ns' : List Int), IntsAre out.toList ns' → ns'.Perm ns → ns'.Pairwise (· ≤ ·) → Q (.ref (s.heap.objs.size + 1)) { s with heap := sortedAll s.heap vs out }) :
    wpAny (model prog w) A (call (.builtin "sorted") [.ref l]) Q E s := by
  have hszl : vs.length ≤ sizeLine := by rw [sizeLine_eq]; omega
  refine PySem.Calls.call_function_entry kind_sorted plain_sorted entry_sorted (args_sorted1 _) ?_
  unfold Builtin.«sorted»
  refine wpAny_bind (m := checkCount "sorted" 1 1 _) (wpAny_pure ?_)
  refine wpAny_bind (collect_list hl ?_ hszl)
  refine wpAny_bind (wpAny_newList ?_)
  have hsz : ((s.heap.push (seqObj "list" #[] 0)).update s.heap.objs.size (Obj.mapSeq (· ++ vs.toArray))).objs.size = s.heap.objs.size + 1 := by
    rw [Heap.size_update, size_push']
  have hoL : (((s.heap.push (seqObj "list" #[] 0)).update s.heap.objs.size (Obj.mapSeq (· ++ vs.toArray))).push (seqObj "list" vs.toArray 0)).get? (s.heap.objs.size + 1) = some (seqObj "list" vs.toArray 0) := by
    rw [← hsz]; exact Heap.get?_push_size _ rfl
  show wpAny _ _ _ _ _ { s with heap := ((s.heap.push (seqObj "list" #[] 0)).update s.heap.objs.size (Obj.mapSeq (· ++ vs.toArray))).push (seqObj "list" vs.toArray 0) }
  rw [hsz]
  refine wpAny_bind (wpAny_holding (wpAny_call_entry slot_list_sort ⟨_, hoL, rfl⟩ entry_list_sort (falls_tree hoL hI hd hsm fun out ns' a1 a2 a3 => ⟨_, rfl, ?_⟩) (args_list_sort _)))
  exact wpAny_pure ⟨_, rfl, h out ns' a1 a2 a3⟩
theorem sorted_down {h₀ : Heap} {L : Addr} {m : Str → Option Value} {news : List (Addr × Obj)} {l : Addr} {vs : List Value} {ns : List Int} {Q : Value → Shared → Prop}
    (F : Fr h₀ L s.heap m) (N : News h₀ L s.heap news) (hl : s.heap.IsList l vs.toArray) (hI : IntsAre vs ns) (hd : ns.Pairwise (· > ·)) (hsm : vs.length ≤ 1000)
    (h : ∀ D vs' ns' c h', Fr h₀ L h' m → News h₀ L h' ((D, W.listOf vs'.toArray c) :: news) → (∀ q ∈ news, q.1 < D) → IntsAre vs' ns' → ns' = ns.reverse → Q (.ref D) { s with heap := h' }) :
    wpAny (model prog w) A (call (.builtin "sorted") [.ref l]) Q E s := by
  refine falls_sorted hl hI hd hsm fun out ns' a1 a2 a3 => ?_
  obtain ⟨e, he⟩ := sortedAll_at s.heap vs out
  refine h _ out.toList ns' e _ (F.kept fun _ _ => sortedAll_old) (N.kept_cons F (fun _ _ => sortedAll_old) (Nat.le_succ _) he) (fun p hp => Nat.lt_succ_of_lt (Heap.lt_size (N p hp).1)) a1 ?_
  refine List.Perm.eq_of_pairwise (le := (· ≤ ·)) (fun a b _ _ h1 h2 => Int.le_antisymm h1 h2) a3 ?_ (a2.trans ns.reverse_perm.symm)
  rw [List.pairwise_reverse]
  exact hd.imp fun h => Int.le_of_lt h
end
end Mine
end secMSort
local macro_rules | `(tactic| walk_at "subscriptTail Name Slice str ref") => `(tactic| (k_here; (with_reducible rename Fr _ _ _ _ => F'); (with_reducible rename News _ _ _ _ => N'); refine cut_S (s := ⟨_, _, _, _, _⟩) (by omega) (by omega) F' N' ?_ (hsz := by omega); intro _ _ _ _ _))
local macro_rules | `(tactic| walk_at "compareOp Eq str str") => `(tactic| (k_here; first | refine eqL_t (by with_reducible assumption) ?_ | refine eqL_f (by with_reducible assumption) ?_ | refine eq_S ?_))
local macro_rules | `(tactic| walk_at "compareOp In str str") => `(tactic| (k_here; first | refine inL_t (by with_reducible assumption) ?_ | refine inL_f (by with_reducible assumption) ?_))
section secA06w
open PySem PySem.W PyProof.Rows PyProof.Rows.LCg
namespace Mine
structure W06 where
  dn : List Tk
  rs : List Tk
  ws : List Nat
  l : Addr
  vs : List Value
  n : Nat
  oa : Obj
  ta : Tok
noncomputable def cast06 (ws : List Nat) : List Int := ws.map fun k : Nat => (k : Int)
theorem cast06_len (ws : List Nat) : (cast06 ws).length = ws.length := by simp [cast06]
section
variable {prog : Program} {w : World} {A : Around} {E : Value → Shared → Prop} {s : Shared} {t u : Tok} {Q : Value → Shared → Prop} {h₀ : Heap} {L a : Addr} {news : List (Addr × Obj)} {vs : List Value} {n : Nat}
theorem len_led {k : Nat} (N : News h₀ L s.heap news) (hm : (a, W.listOf vs.toArray n) ∈ news) (hk : vs.length = k) (h9 : k ≤ 16777216) (h : ∀ t' tk, Q (.int (k : Int) t') { s with toks := tk }) : wpAny (model prog w) A (call (.builtin "len") [.ref a]) Q E s := by
  refine Calls.call_len_list (News.isList N hm) (by rw [List.size_toArray]; omega) ?_
  rw [List.size_toArray, hk]; exact h _ _
end
theorem grp_eq : Str.ofString "(?>" = S [40, 63, 62] := by decide +kernel
theorem near_eq : Str.ofString ".*?" = S [46, 42, 63] := by decide +kernel
theorem far_eq : Str.ofString ".*" = S [46, 42] := by decide +kernel
noncomputable def bareL : List Nat := [40, 41, 91, 93, 123, 125, 63, 42, 43, 124, 94, 36, 46]
theorem bare_eq : Str.ofString "()[]{}?*+|^$." = S bareL := by decide +kernel
noncomputable def wordL : List Nat := [97, 98, 99, 100, 101, 102, 103, 104, 105, 106, 107, 108, 109, 110, 111, 112, 113, 114, 115, 116, 117, 118, 119, 120, 121, 122, 65, 66, 67, 68, 69, 70, 71, 72, 73, 74, 75, 76, 77, 78, 79, 80, 81, 82, 83, 84, 85, 86, 87, 88, 89, 90, 48, 49, 50, 51, 52, 53, 54, 55, 56, 57]
theorem word_eq : Str.ofString "abcdefghijklmnopqrstuvwxyzABCDEFGHIJKLMNOPQRSTUVWXYZ0123456789" = S wordL := by decide +kernel
theorem bare_spec : ∀ c ∈ bareL, spec c = true := by decide +kernel
theorem spec_word : ∀ c ∈ specs, c ∉ wordL := by decide +kernel
/-- no part begins with a question mark -/
theorem codes_head (ts : List Tk) : ∀ c r, codes ts = c :: r → c ≠ 63 := by
  intro c r h
  cases ts with
  | nil => cases h
  | cons t ts =>
    rw [codes_cons] at h
    cases t with
    | lit a =>
      cases hs : spec a with
      | true =>
        have : Tk.code (.lit a) = [92, a] := by simp [Tk.code, hs]
        rw [this] at h; cases h; decide
      | false =>
        have : Tk.code (.lit a) = [a] := by simp [Tk.code, hs]
        rw [this] at h; cases h
        intro e; subst e; exact absurd hs (by decide)
    | far => cases h; decide
    | near => cases h; decide
    | grp q => cases h; decide
theorem testIs {b b' : Bool} {Y N : Shared → Prop} {s : Shared} (h : b' = b) (hy : b' = true → Y s) (hn : b' = false → N s) : TestIs b Y N b' s := by
  refine ⟨h, ?_⟩
  cases b' with
  | true => rw [if_pos rfl]; exact hy rfl
  | false => rw [if_neg (by decide)]; exact hn rfl
theorem cast_step {nm : List Nat} {c : Nat} {ws : List Nat} : ((cast06 ws).filter fun k => decide (nm[k.toNat]? = some c)).map (fun k => k + 1) = cast06 (stepLit nm c ws) := by
  unfold cast06 stepLit
  rw [List.filter_map, List.map_map, List.map_map]
  rfl
theorem fresh_or {s : Shared} {g : Heap} {l D : Addr} (hg2 : ∀ b o, b ≠ l → s.heap.get? b = some o → g.get? b = some o) (h : g.get? D = none) : s.heap.get? D = none ∨ D = l := by
  by_cases e : D = l
  · exact .inr e
  · left
    cases q : s.heap.get? D with
    | none => rfl
    | some o => rw [hg2 D o e q] at h; cases h
noncomputable def Led06 (sz : Nat) (on ot : Obj) (c : W06) : List (Addr × Obj) := [(sz + 1 + 1 + 1, c.oa), (sz + 1 + 1, on), (sz + 1, ot), (c.l, W.listOf c.vs.toArray c.n)]
noncomputable def ps06 (c : W06) : List (Str × Value) := [(Str.ofString "ways", .ref c.l)]
noncomputable def Fa06 (s : Shared) (sz : Nat) (l : Addr) (c : W06) : Prop := c.oa.data = .cell (some (.int ((codes c.dn).length : Int) c.ta)) ∧ IntsAre c.vs (cast06 c.ws) ∧ (@Ne Nat c.l (sz + 1) ∧ @Ne Nat c.l (sz + 1 + 1) ∧ @Ne Nat c.l (sz + 1 + 1 + 1)) ∧ (s.heap.get? c.l = none ∨ c.l = l)
noncomputable def Pr06 (xs nm R : List Nat) (kk : Nat) (c : W06) : Prop := codes c.dn ++ codes c.rs = xs ∧ run nm c.rs c.ws = R ∧ okRun nm c.rs c.ws ∧ (kk = 0 → ∀ q, Tk.grp q ∉ c.rs)
noncomputable def st06 : List Str := [Str.ofString "end", Str.ofString "firsts", Str.ofString "place", Str.ofString "inner"]
theorem end06 {g h' : Heap} {s s₁ : Shared} {sz : Nat} {on ot o' : Obj} {l D l1 : Addr} {ys vs1 : List Value} {nn n1 kk at1 : Nat} {m' m₀ : Str → Option Value} {v : Int} {t' ta1 : Tok} {dn rs : List Tk} {tok : Tk} {ws1 xs nm R : List Nat} {rest : List (Addr × Obj)} {tk : Nat} {oa1 : Obj}
    (F5 : Fr g sz h' m') (N5 : News g sz h' ((D, W.listOf ys.toArray nn) :: (sz + 1 + 1 + 1, o') :: (sz + 1 + 1, on) :: (sz + 1, ot) :: rest)) (d5 : o'.data = .cell (some (.int v t'))) (hat : (codes dn).length = at1) (hv : v = (at1 : Int) + (tok.code.length : Int)) (hys : IntsAre ys (cast06 (run1 nm tok ws1)))
    (off : ∀ q ∈ [(sz + 1 + 1 + 1, o'), (sz + 1 + 1, on), (sz + 1, ot)], q.1 ≠ D) (hg2 : ∀ b o, b ≠ l → s.heap.get? b = some o → g.get? b = some o) (hway : m' (Str.ofString "ways") = some (.ref D)) (hr : ∀ z, z ≠ Str.ofString "ways" → st06.contains z = false → m' z = m₀ z)
    (p1 : codes dn ++ (tok.code ++ codes rs) = xs) (p2 : run nm rs (run1 nm tok ws1) = R) (p5 : okRun nm rs (run1 nm tok ws1)) (p4 : kk = 0 → ∀ q, Tk.grp q ∉ tok :: rs) :
    KswEnd g sz s₁ (Led06 sz on ot) ps06 (Fa06 s sz l) st06 m₀ (Pr06 xs nm R kk) (fun c => c.rs.length) ⟨dn, tok :: rs, ws1, l1, vs1, n1, oa1, ta1⟩ { s₁ with heap := h', toks := tk } := by
  have hD0 := (N5 _ (List.Mem.head _)).2.2
  refine ksw_end ⟨dn ++ [tok], rs, run1 nm tok ws1, D, ys, nn, o', t'⟩ F5 N5 ?n1 ⟨?n2, hys, ⟨Ne.symm (off _ (List.Mem.tail _ (List.Mem.tail _ (List.Mem.head _)))), Ne.symm (off _ (List.Mem.tail _ (List.Mem.head _))), Ne.symm (off _ (List.Mem.head _))⟩, fresh_or hg2 hD0⟩ ?n3 ?n4 ⟨?n5, p2, p5, fun e q hq => p4 e q (List.mem_cons_of_mem _ hq)⟩ ?n6
  case n1 =>
    intro q hq
    simp only [Led06, List.mem_cons, List.not_mem_nil, or_false] at hq ⊢
    rcases hq with h | h | h | h <;> simp [h]
  case n2 =>
    show o'.data = _
    rw [d5, hv, codes_append, List.length_append, hat, codes_cons, show codes [] = [] from rfl, List.append_nil]
    congr 3
  case n3 => intro q hq; rw [show q = _ from List.mem_singleton.mp hq]; exact hway
  case n4 => intro z hz hst; exact hr z (hz _ (List.Mem.head _)) hst
  case n5 =>
    show codes (dn ++ [tok]) ++ codes rs = xs
    rw [codes_append, codes_cons, show codes [] = [] from rfl, ← p1]; simp
  case n6 => exact Nat.lt_succ_self _
theorem cast_flat (ws : List Nat) (f : Nat → List Nat) : (cast06 ws).flatMap (fun k => cast06 (f k.toNat)) = cast06 (ws.flatMap f) := by
  unfold cast06
  rw [List.flatMap_map, List.map_flatMap]
  rfl
theorem flat_len (ws : List Nat) (f : Nat → List Nat) (h : (ws.flatMap f).length ≤ 16777216) : ((cast06 ws).flatMap fun k => cast06 (f k.toNat)).length ≤ 16777216 := by
  rw [cast_flat, cast06_len]; exact h
theorem flat_bound {n : Nat} (f : Nat → List Nat) (hf : ∀ p, (f p).length ≤ n + 1) : ∀ ws : List Nat, (ws.flatMap f).length ≤ ws.length * (n + 1)
  | [] => by simp
  | p :: r => by
    have := flat_bound f hf r
    have := hf p
    rw [List.flatMap_cons, List.length_append, List.length_cons, Nat.succ_mul]; omega
theorem flat_size {n : Nat} {ws : List Nat} (f : Nat → List Nat) (hf : ∀ p, (f p).length ≤ n + 1) (hw : ws.length ≤ n + 1) (hn : n ≤ 1000) : (ws.flatMap f).length ≤ 16777216 := by
  have h1 := flat_bound f hf ws
  have h2 : ws.length * (n + 1) ≤ 1001 * 1001 := Nat.mul_le_mul (by omega) (by omega)
  omega
theorem size_down (n k : Nat) (h : k ≤ n) : Builtin.Range.rangeSize (n : Int) ((k : Int) - 1) (-1) = ((n + 1 - k : Nat) : Int) := by
  unfold Builtin.Range.rangeSize
  rw [if_neg (by decide), if_pos (by omega)]
  simp only [Int.neg_neg, Int.ediv_one]; omega
theorem size_up (n k : Nat) (h : k ≤ n) : Builtin.Range.rangeSize (k : Int) ((n : Int) + 1) 1 = ((n + 1 - k : Nat) : Int) := by
  unfold Builtin.Range.rangeSize
  rw [if_pos (by decide), if_pos (by omega)]
  simp only [Int.ediv_one]; omega
theorem fits06 {i : Int} (h1 : -2 ≤ i) (h2 : i ≤ 10000) : Builtin.Range.rangeFitsLong i = true := by
  unfold Builtin.Range.rangeFitsLong
  rw [Bool.and_eq_true]
  exact ⟨decide_eq_true (by omega), decide_eq_true (by omega)⟩
theorem small_down (n k : Nat) (h : k ≤ n) (hn : n ≤ 1000) : Builtin.Range.small (n : Int) ((k : Int) - 1) (-1) = true := by
  unfold Builtin.Range.small
  simp only [size_down n k h]
  rw [fits06 (i := (n : Int)) (by omega) (by omega), fits06 (i := (k : Int) - 1) (by omega) (by omega), fits06 (i := -1) (by omega) (by omega), fits06 (i := ((n + 1 - k : Nat) : Int)) (by omega) (by omega), if_neg (by decide), fits06 (i := (k : Int) - 1 + (-1 + 1)) (by omega) (by omega)]
  simp only [Bool.or_true, Bool.and_self]
theorem small_up (n k : Nat) (h : k ≤ n) (hn : n ≤ 1000) : Builtin.Range.small (k : Int) ((n : Int) + 1) 1 = true := by
  unfold Builtin.Range.small
  simp only [size_up n k h]
  rw [fits06 (i := (k : Int)) (by omega) (by omega), fits06 (i := (n : Int) + 1) (by omega) (by omega), fits06 (i := 1) (by omega) (by omega), fits06 (i := ((n + 1 - k : Nat) : Int)) (by omega) (by omega), if_pos (by decide), fits06 (i := (n : Int) + 1 + (1 - 1)) (by omega) (by omega)]
  simp only [Bool.or_true, Bool.and_self]
theorem items_down (n k j : Nat) (v : Int) (h : (cast06 (goDown n k))[j]? = some v) : v = (n : Int) + (j : Int) * (-1) := by
  unfold cast06 goDown at h
  simp only [List.getElem?_map, List.getElem?_range'] at h
  rcases Nat.lt_or_ge j (n + 1 - k) with hj | hj
  · rw [List.getElem?_range hj] at h
    simp only [Option.map_some, Option.some.injEq] at h
    omega
  · rw [List.getElem?_eq_none (by simpa using hj)] at h; cases h
theorem items_up (n k j : Nat) (v : Int) (h : (cast06 (goUp n k))[j]? = some v) : v = (k : Int) + (j : Int) * 1 := by
  unfold cast06 goUp at h
  simp only [List.getElem?_map] at h
  rcases Nat.lt_or_ge j (n + 1 - k) with hj | hj
  · rw [List.getElem?_range hj] at h
    simp only [Option.map_some, Option.some.injEq] at h
    omega
  · rw [List.getElem?_eq_none (by simpa using hj)] at h; cases h
theorem newsExt {h₀ h h' : Heap} {L : Addr} {news : List (Addr × Obj)} (N : News h₀ L h news) (e : Ext h h') : News h₀ L h' news := fun q hq => ⟨e _ _ (N q hq).1, (N q hq).2⟩
theorem For_of {prog : Program} {w : World} {A : Around} {E : Value → Shared → Prop} {s : Shared} {env : Env} {Q : Flow → Shared → Prop} {x : Str} {px pos : Pos} {iter : PySem.Expr} {body : List Stmt} {h₀ : Heap} {m : Str → Option Value}
    (_F : Fr h₀ env.locals s.heap m) (hx : env.kindOf x = some .local) (hp : (env.scope.kind == .class || (env.scope.kind == .module && env.locals != env.globals)) = false)
    (h1 : wpAny (model prog w) A (eval iter env) (fun v s' => wpAny (model prog w) A (pyIter v) (fun it s₂ => LoopAtV prog w A h₀ env x body Q E it s₂) E s') E s)
    (hs : ∀ x, foldedSetIterable iter env x = pure x := by intro _; rfl) (hE : PassesOwn (model prog w) A env E := by passes_own) :
    wpAny (model prog w) A (exec (.For (.Name x px) iter body [] pos) env) Q E s := For_invV h₀ hx hp h1 hs hE
theorem after_ways {g h h' : Heap} {sz pl l' : Addr} {m : Str → Option Value} {o o' : Obj} {rest : List (Addr × Obj)} (F : Fr g sz h m) (N : News g sz h ((pl, o) :: rest)) (hoff : ∀ p ∈ rest, p.1 ≠ pl) (hk : ∀ b o, b ≠ pl → h.get? b = some o → h'.get? b = some o)
    (hl' : h'.get? l' = some o') (hfr : h.get? l' = none ∨ l' = pl) : Fr g sz h' m ∧ News g sz h' ((l', o') :: rest) := by
  have hp := N _ (List.Mem.head _)
  refine ⟨⟨F.ns.at' fun o e => hk _ o (Ne.symm hp.2.1) e, fun b o e => hk b o (fun q => by rw [q] at e; rw [hp.2.2] at e; cases e) (F.keep b o e), F.above⟩, fun q hq => ?_⟩
  rcases List.mem_cons.mp hq with rfl | hq
  · refine ⟨hl', ?_, ?_⟩
    · rcases hfr with e | e
      · rintro rfl
        obtain ⟨oL, _, _, hL, _⟩ := F.ns
        have hL' : h.get? _ = _ := hL
        rw [e] at hL'; cases hL'
      · rw [show (l', o').1 = pl from e]; exact hp.2.1
    · rcases hfr with e | e
      · cases q : g.get? l' with
        | none => rfl
        | some o => have := F.keep _ _ q; rw [e] at this; cases this
      · rw [show (l', o').1 = pl from e]; exact hp.2.2
  · have z := N q (List.mem_cons_of_mem _ hq)
    exact ⟨hk _ _ (hoff q hq) z.1, z.2⟩
theorem ext_any {prog : Program} {w : World} {A : Around} {E : Value → Shared → Prop} {s : Shared} {Q : Value → Shared → Prop} {h₀ : Heap} {L D b : Addr} {m : Str → Option Value} {news : List (Addr × Obj)} {fvs ws : List Value} {n n2 : Nat} {nw : Nat → List (Addr × Obj)}
    (F : Fr h₀ L s.heap m) (N : News h₀ L s.heap news) (hb : (b, W.listOf ws.toArray n2) ∈ news) (U : ∀ n', Upd D (W.listOf fvs.toArray n) (W.listOf (fvs ++ ws).toArray n') news (nw n')) (hz : fvs.length + ws.length ≤ 1000000)
    (h : ∀ h' n', Fr h₀ L h' m → News h₀ L h' (nw n') → Q .none { s with heap := h' }) : wpAny (model prog w) A (call (.builtin "list.extend") [.ref D, .ref b]) Q E s := by
  have hd : ¬(!fvs.toArray.isEmpty && Builtin.List.listTooLong (fvs.toArray.size + ws.toArray.size)) = true := by
    rw [Bool.and_eq_true, not_and]
    intro _
    have hs : fvs.toArray.size + ws.toArray.size ≤ 1000000 := by simpa using hz
    generalize fvs.toArray.size + ws.toArray.size = z at hs
    simp only [Builtin.List.listTooLong, decide_eq_true_eq, sizeLine_eq]
    omega
  have hz1 : fvs.toArray.toList.length ≤ sizeLine := by rw [sizeLine_eq]; simp; omega
  have hz2 : fvs.toArray.size + ws.toArray.size ≤ sizeLine + 1 := by rw [sizeLine_eq]; simp; omega
  by_cases hw : ws = []
  · subst hw
    have U' := U n
    rw [List.append_nil] at U'
    exact kxn_extend F N hb rfl U' hd hz1 hz2 fun h' F' N' => h h' n F' N'
  · exact kl_extend F N hb rfl (by simpa using hw) (by simpa using U (n + 1)) hd hz1 hz2 fun h' F' N' => h h' (n + 1) F' N'
theorem cast06_inj : ∀ {a b : List Nat}, cast06 a = cast06 b → a = b
  | [], [], _ => rfl
  | [], _ :: _, h => by cases h
  | _ :: _, [], h => by cases h
  | x :: a, y :: b, h => by
    have h' := List.cons.inj (show (x : Int) :: cast06 a = (y : Int) :: cast06 b from h)
    rw [cast06_inj h'.2, show x = y by omega]
theorem test06 {nm : List Nat} {k c : Nat} : decide (List.take (((k : Int) + 1).toNat - (k : Int).toNat) (List.drop (k : Int).toNat nm) = [c]) = decide (nm[(k : Int).toNat]? = some c) := by
  rw [show ((k : Int) + 1).toNat - (k : Int).toNat = 1 by omega, Int.toNat_natCast]
  congr 1
  rw [List.take_one, List.head?_drop]
  cases nm[k]? with
  | none => simp
  | some x => simp
local macro_rules | `(tactic| walk_at $k9:str) => if ["SrcIs", "TestIs", "EltIs", "RangeIs", "KswEnd", "subscriptTail Name Slice ref ref", "newList", "InvEndN", "call builtin:list.extend", "exec While Compare cons nil", "exec Assign cons ListComp", "call ref", "pyIter ref", "exec For Name Name cons nil"].contains k9.getString then `(tactic| refine Stop.of ?_) else Lean.Macro.throwUnsupported
local macro_rules | `(tactic| walk_at "compareOp Gt int int") => `(tactic| (k_here; first | refine gtI_t (by omega) ?_ | refine gtI_f (by omega) ?_))
local macro_rules | `(tactic| walk_at "call builtin:len cons nil") => `(tactic| (k_here; first | (refine len_Sn (by with_reducible assumption) (by omega) ?_; intro _ _) | ((with_reducible rename News _ _ _ _ => N'); refine len_led N' (by k_mem) (by with_reducible assumption) (by omega) ?_; intro _ _)))
/-- what _law_ways answers, with kk levels of groups -/
noncomputable def Ways06 (w : World) (mean : ExcName → Option Value) (mg mb : Str → Option Value) (kk : Nat) : Prop := ∀ (A : Around) (s : Shared) (t tn : Tok) (Q E : Value → Shared → Prop) (h₀ : Heap) (xs nm : List Nat) (ts : List Tk) (ws : List Nat) (vs : List Value) (l : Addr) (n : Nat)
   (_X₀ : (hd06.heap_39 w.params).In h₀) (_T₀ : Top hd06.view_39 (looseW hd06.view_39 ["_special_chars_map"]) mean mg mb h₀) (_hkeep : ∀ b o, h₀.get? b = some o → s.heap.get? b = some o) (_hl : s.heap.get? l = some (W.listOf vs.toArray n)) (_hl0 : h₀.get? l = none) (_hd : A.depth + 10 * (kk + 1) < recursionLimit) (_hh : A.handled = none)
   (_hxs : xs = codes ts) (_hx : xs.length ≤ 1000000) (_hnm : nm.length ≤ 1000) (_hi : IntsAre vs (cast06 ws)) (_hok : okRun nm ts ws) (_hng : kk = 0 → ∀ q, Tk.grp q ∉ ts)
   (_hQ : ∀ h' tk l' vs' n', (∀ b o, b ≠ l → s.heap.get? b = some o → h'.get? b = some o) → h'.get? l' = some (W.listOf vs'.toArray n') → (s.heap.get? l' = none ∨ l' = l) → IntsAre vs' (cast06 (run nm ts ws)) → Q (.ref l') {s with heap := h', toks := tk}),
   wpAny (model Challenge.rw_dn0256_06.row.prog w) A (call (.ref 45) [.str (S xs) t, .str (S nm) tn, .ref l]) Q E s
theorem ct_ways {w : World} {mean : ExcName → Option Value} {mg mb : Str → Option Value} : ∀ kk : Nat, Ways06 w mean mg mb kk := by
  intro kk
  induction kk using Nat.strongRecOn with
  | _ kk ih =>
  intro A s t tn Q E h₀ xs nm ts ws vs l n X₀ T₀ hkeep hl hl0 hd hh hxs hx hnm hi hok hng hQ
  revert X₀
  k_fill
  intro X₀
  refine wpAny_call ?_
  refine' call_cellsH X₀ hkeep hl hl0 ?k6 ?k7 T₀.nolimit (by omega) ?k9 ?kB ?kD ?_ ?c2 ?c3 ?c4
  case k6 => k_is
  case k7 => k_is
  case k9 => exact BindsTo.of_eq rfl
  case kB => exact rfl
  case kD => decide +kernel
  case c2 => exact rfl
  case c3 => exact rfl
  case c4 => exact rfl
  intro g h₁ tk cells hg1 hg2 hlt F N Y
  obtain ⟨oa, on, ot, hE, d1, d2, d3⟩ := CellsAre.three Y
  subst hE
  clear Y
  have X : (hd06.heap_39 w.params).In g := X₀.keeps hg1
  have T := T₀.keeps hg1
  clear X₀ T₀
  replace F : Fr g s.heap.objs.size h₁ (fun y => if y = Str.ofString "ways" then some (.ref l) else none) := F
  replace d2 : on.data = .cell (some (.str (S nm) tn)) := d2
  replace d3 : ot.data = .cell (some (.str (S xs) t)) := d3
  dsimp only [List.cons_append, List.nil_append] at N
  have hfresh : ∀ b, @LE.le Nat _ s.heap.objs.size b → s.heap.get? b = none := fun b hb => by
    cases e : s.heap.get? b with
    | none => rfl
    | some o => exact absurd (Heap.lt_size e) (Nat.not_lt.mpr hb)
  generalize hszE : s.heap.objs.size = sz at *
  have ll1 : @Ne Nat l (sz + 1) := by intro e; rw [e] at hlt; revert hlt; exact Nat.not_lt.mpr (Nat.le_add_right _ _)
  have ll2 : @Ne Nat l (sz + 1 + 1) := by intro e; rw [e] at hlt; revert hlt; exact Nat.not_lt.mpr (Nat.le_add_right _ 2)
  have ll3 : @Ne Nat l (sz + 1 + 1 + 1) := by intro e; rw [e] at hlt; revert hlt; exact Nat.not_lt.mpr (Nat.le_add_right _ 3)
  walk_at "go"
  refine Stop.go ?_
  clear d1
  (rename Fr _ _ _ _ => F1); (rename News _ _ _ _ => N1); (rename _ = Data.cell (some (Value.int 0 _)) => d1)
  refine ksw_while (σ := W06) (Led06 sz on ot) ps06 (Fa06 s sz l) st06 (Pr06 xs nm (run nm ts ws) kk) (fun c => c.rs.length) ⟨[], ts, ws, l, vs, n, _, _⟩ F1 N1 ⟨d1, hi, ⟨ll1, ll2, ll3⟩, .inr rfl⟩ ?_ ⟨hxs.symm, rfl, hok, hng⟩ ?_
  · intro q hq
    rw [show q = _ from List.mem_singleton.mp hq]; rfl
  rintro ⟨dn, rs, ws1, l1, vs1, n1, oa1, ta1⟩ u h tk ⟨f1, f2, ⟨f3, f4, f5⟩, f6⟩ ⟨p1, p2, p3, p4⟩ F2 N2
  generalize run nm ts ws = RR at *
  clear F1 N1 d1 hi hok hng hxs ll1 ll2 ll3
  dsimp only [kstB, ps06, Led06] at F2 N2 f1 f2 f3 f4 f5 f6 p1 p2 p3 p4
  have hlen := congrArg List.length p1
  rw [List.length_append] at hlen
  have hsl := S_length xs
  obtain ⟨xl, hxl⟩ : ∃ k, xs.length = k := ⟨_, rfl⟩
  obtain ⟨nl, hnl⟩ : ∃ k, nm.length = k := ⟨_, rfl⟩
  obtain ⟨wl, hwl⟩ : ∃ k, vs1.length = k := ⟨_, rfl⟩
  have hwl' : wl = ws1.length := by rw [← hwl, f2.length, cast06_len]
  obtain ⟨at1, hat⟩ : ∃ k, (codes dn).length = k := ⟨_, rfl⟩
  rw [hat] at f1 hlen
  rw [hxl] at hlen hx
  have hcutA : ∀ (k : Nat) (b : List Nat), xs = codes dn ++ b → (List.take (((at1 : Int) + (k : Int)).toNat - (at1 : Int).toNat) (List.drop (at1 : Int).toNat xs)) = List.take k b := by
    intro k b hb
    rw [show ((at1 : Int) + (k : Int)).toNat - (at1 : Int).toNat = k by omega, Int.toNat_natCast, hb, ← hat, List.drop_left]
  cases rs with
  | nil =>
    rw [show codes [] = [] from rfl, List.length_nil] at hlen
    walk_at "go"
    (rename Fr _ _ _ _ => F3); (rename News _ _ _ _ => N3)
    rw [show run nm [] ws1 = ws1 from rfl] at p2
    subst p2
    refine hQ _ _ _ _ _ (fun b o hb e => F3.keep b o (hg2 b o hb e)) (N3 _ (List.Mem.tail _ (List.Mem.tail _ (List.Mem.tail _ (List.Mem.head _))))).1 f6 f2
  | cons tok rs =>
  rw [codes_cons] at p1 hlen
  rw [run_cons] at p2
  obtain ⟨⟨p3, p6⟩, p5⟩ := p3
  rw [hnl] at p3 p6 hnm
  have p1' := p1.symm
  cases tok with
  | lit c =>
    cases hs : spec c with
    | true =>
      have hcd : Tk.code (.lit c) = [92, c] := by simp [Tk.code, hs]
      rw [hcd] at p1' hlen
      simp only [List.length_append, List.length_cons, List.length_nil] at hlen
      have hn1 : S (List.take (((at1 : Int) + 3).toNat - (at1 : Int).toNat) (List.drop (at1 : Int).toNat xs)) ≠ Str.ofString "(?>" := by
        have := hcutA 3 _ p1'
        rw [show ((3 : Nat) : Int) = 3 from rfl] at this
        rw [this, grp_eq, Ne, S_eq_iff]
        intro h; cases h
      have hn2 : S (List.take (((at1 : Int) + 3).toNat - (at1 : Int).toNat) (List.drop (at1 : Int).toNat xs)) ≠ Str.ofString ".*?" := by
        have := hcutA 3 _ p1'
        rw [show ((3 : Nat) : Int) = 3 from rfl] at this
        rw [this, near_eq, Ne, S_eq_iff]
        intro h; cases h
      have hn3 : S (List.take (((at1 : Int) + 2).toNat - (at1 : Int).toNat) (List.drop (at1 : Int).toNat xs)) ≠ Str.ofString ".*" := by
        have := hcutA 2 _ p1'
        rw [show ((2 : Nat) : Int) = 2 from rfl] at this
        rw [this, far_eq, Ne, S_eq_iff]
        intro h; cases h
      have hx0 : xs[(at1 : Int).toNat]? = some 92 := by rw [p1', Int.toNat_natCast, ← hat]; simp
      have hx1 : xs[((at1 : Int) + 1).toNat]? = some c := by rw [p1', show ((at1 : Int) + 1).toNat = at1 + 1 by omega, ← hat]; simp
      have hn4 : Txt.contains (Str.ofString "()[]{}?*+|^$.") (S [92]) = false := by rw [bare_eq, contains_S]; decide
      have hn5 : S [92] = Str.ofString "\\" := bs_eq.symm
      have hn6 : Txt.contains (Str.ofString "abcdefghijklmnopqrstuvwxyzABCDEFGHIJKLMNOPQRSTUVWXYZ0123456789") (S (List.take (((at1 : Int) + 1 + 1).toNat - ((at1 : Int) + 1).toNat) (List.drop ((at1 : Int) + 1).toNat xs))) = false := by
        rw [show ((at1 : Int) + 1 + 1).toNat - ((at1 : Int) + 1).toNat = 1 by omega, show ((at1 : Int) + 1).toNat = at1 + 1 by omega, p1', ← hat, ← List.drop_drop, List.drop_left]
        rw [show List.take 1 (List.drop 1 ([92, c] ++ codes rs)) = [c] from rfl, word_eq, contains_S]
        exact decide_eq_false (spec_word c (by simpa [spec] using hs))
      walk_at "go"
      refine Stop.go ?_
      (rename Fr _ _ _ _ => F3); (rename News _ _ _ _ => N3); (rename _ = Data.cell (some (Value.int ((at1 : Int) + 1) _)) => d4)
      refine comp1_ints (ns := cast06 ws1) (ax := l1) (vs := vs1) (fun k => decide (nm[k.toNat]? = some c)) (fun k => k + 1) hh F3 N3 rfl f2 (by rw [cast06_len]; omega) (by with_unfolding_all rfl) (by with_unfolding_all rfl) (by decide) rfl (by decide) rfl rfl rfl ?iter ?turn ?fin
      case iter =>
        walk_at "go"
        refine Stop.go ?_
        exact ⟨rfl, ⟨_, _, rfl, F3, N3⟩, .inr ⟨_, List.Mem.tail _ (List.Mem.tail _ (List.Mem.tail _ (List.Mem.head _))), rfl, _, rfl⟩⟩
      case turn =>
        clear F3 N3
        intro k tk1 I oI C oC D oD m₂ h tk E' hk hC hx F4 N4 off ne
        obtain ⟨k, hk', rfl⟩ := List.mem_map.mp hk
        walk_at "go"
        refine Stop.go ?_
        refine testIs test06 (fun hb => ?_) (fun hb => ?_)
        · walk_at "go"
          refine Stop.go ?_
          (rename Fr _ _ _ _ => F5); (rename News _ _ _ _ => N5)
          exact ⟨⟨_, rfl⟩, ⟨_, _, rfl, F5, N5⟩⟩
        · (rename Fr _ _ _ _ => F5); (rename News _ _ _ _ => N5)
          exact ⟨_, _, rfl, F5, N5⟩
      case fin =>
        clear F3 N3
        intro D ys h tk hys F4 N4 off4
        have o1 : @Ne Nat D (sz + 1 + 1 + 1) := Ne.symm (off4 _ (List.Mem.head _))
        have o2 : @Ne Nat D (sz + 1 + 1) := Ne.symm (off4 _ (List.Mem.tail _ (List.Mem.head _)))
        have o3 : @Ne Nat D (sz + 1) := Ne.symm (off4 _ (List.Mem.tail _ (List.Mem.tail _ (List.Mem.head _))))
        rw [cast_step] at hys
        walk_at "go"
        refine Stop.go ?_
        (rename Fr _ _ _ _ => F5); (rename News _ _ _ _ => N5); (rename _ = Data.cell (some (Value.int ((at1 : Int) + 1 + 1) _)) => d5)
        refine end06 F5 N5 d5 hat (by rw [hcd]; show (at1 : Int) + 1 + 1 = (at1 : Int) + ((2 : Nat) : Int); omega) hys (fun q hq => ?_) hg2 rfl (fun z hz hst => ?_) p1 p2 p5 p4
        · simp only [List.mem_cons, List.not_mem_nil, or_false] at hq
          rcases hq with rfl | rfl | rfl
          · exact Ne.symm o1
          · exact Ne.symm o2
          · exact Ne.symm o3
        · simp only [if_neg hz, hst, Bool.false_eq_true, if_false]
    | false =>
      have hcd : Tk.code (.lit c) = [c] := by simp [Tk.code, hs]
      rw [hcd] at p1' hlen
      simp only [List.length_append, List.length_cons, List.length_nil] at hlen
      have c40 : c ≠ 40 := fun e => by subst e; exact absurd hs (by decide)
      have c46 : c ≠ 46 := fun e => by subst e; exact absurd hs (by decide)
      have c92 : c ≠ 92 := fun e => by subst e; exact absurd hs (by decide)
      have hn1 : S (List.take (((at1 : Int) + 3).toNat - (at1 : Int).toNat) (List.drop (at1 : Int).toNat xs)) ≠ Str.ofString "(?>" := by
        have := hcutA 3 _ p1'
        rw [show ((3 : Nat) : Int) = 3 from rfl] at this
        rw [this, grp_eq, Ne, S_eq_iff]
        intro h; exact c40 (List.cons.inj (show c :: List.take 2 (codes rs) = _ from h)).1
      have hn2 : S (List.take (((at1 : Int) + 3).toNat - (at1 : Int).toNat) (List.drop (at1 : Int).toNat xs)) ≠ Str.ofString ".*?" := by
        have := hcutA 3 _ p1'
        rw [show ((3 : Nat) : Int) = 3 from rfl] at this
        rw [this, near_eq, Ne, S_eq_iff]
        intro h; exact c46 (List.cons.inj (show c :: List.take 2 (codes rs) = _ from h)).1
      have hn3 : S (List.take (((at1 : Int) + 2).toNat - (at1 : Int).toNat) (List.drop (at1 : Int).toNat xs)) ≠ Str.ofString ".*" := by
        have := hcutA 2 _ p1'
        rw [show ((2 : Nat) : Int) = 2 from rfl] at this
        rw [this, far_eq, Ne, S_eq_iff]
        intro h; exact c46 (List.cons.inj (show c :: List.take 1 (codes rs) = _ from h)).1
      have hx0 : xs[(at1 : Int).toNat]? = some c := by rw [p1', Int.toNat_natCast, ← hat]; simp
      have hn4 : Txt.contains (Str.ofString "()[]{}?*+|^$.") (S [c]) = false := by
        rw [bare_eq, contains_S]
        exact decide_eq_false fun hm => by rw [bare_spec c hm] at hs; cases hs
      have hn5 : S [c] ≠ Str.ofString "\\" := by rw [bs_eq, Ne, S_eq_iff]; simpa using c92
      walk_at "go"
      refine Stop.go ?_
      (rename Fr _ _ _ _ => F3); (rename News _ _ _ _ => N3); skip
      refine comp1_ints (ns := cast06 ws1) (ax := l1) (vs := vs1) (fun k => decide (nm[k.toNat]? = some c)) (fun k => k + 1) hh F3 N3 rfl f2 (by rw [cast06_len]; omega) (by with_unfolding_all rfl) (by with_unfolding_all rfl) (by decide) rfl (by decide) rfl rfl rfl ?iter ?turn ?fin
      case iter =>
        walk_at "go"
        refine Stop.go ?_
        exact ⟨rfl, ⟨_, _, rfl, F3, N3⟩, .inr ⟨_, List.Mem.tail _ (List.Mem.tail _ (List.Mem.tail _ (List.Mem.head _))), rfl, _, rfl⟩⟩
      case turn =>
        clear F3 N3
        intro k tk1 I oI C oC D oD m₂ h tk E' hk hC hx F4 N4 off ne
        obtain ⟨k, hk', rfl⟩ := List.mem_map.mp hk
        walk_at "go"
        refine Stop.go ?_
        refine testIs test06 (fun hb => ?_) (fun hb => ?_)
        · walk_at "go"
          refine Stop.go ?_
          (rename Fr _ _ _ _ => F5); (rename News _ _ _ _ => N5)
          exact ⟨⟨_, rfl⟩, ⟨_, _, rfl, F5, N5⟩⟩
        · (rename Fr _ _ _ _ => F5); (rename News _ _ _ _ => N5)
          exact ⟨_, _, rfl, F5, N5⟩
      case fin =>
        clear F3 N3
        intro D ys h tk hys F4 N4 off4
        have o1 : @Ne Nat D (sz + 1 + 1 + 1) := Ne.symm (off4 _ (List.Mem.head _))
        have o2 : @Ne Nat D (sz + 1 + 1) := Ne.symm (off4 _ (List.Mem.tail _ (List.Mem.head _)))
        have o3 : @Ne Nat D (sz + 1) := Ne.symm (off4 _ (List.Mem.tail _ (List.Mem.tail _ (List.Mem.head _))))
        rw [cast_step] at hys
        walk_at "go"
        refine Stop.go ?_
        (rename Fr _ _ _ _ => F5); (rename News _ _ _ _ => N5); (rename _ = Data.cell (some (Value.int ((at1 : Int) + 1) _)) => d5)
        refine end06 F5 N5 d5 hat (by rw [hcd]; show (at1 : Int) + 1 = (at1 : Int) + ((1 : Nat) : Int); omega) hys (fun q hq => ?_) hg2 rfl (fun z hz hst => ?_) p1 p2 p5 p4
        · simp only [List.mem_cons, List.not_mem_nil, or_false] at hq
          rcases hq with rfl | rfl | rfl
          · exact Ne.symm o1
          · exact Ne.symm o2
          · exact Ne.symm o3
        · simp only [if_neg hz, hst, Bool.false_eq_true, if_false]
  | far =>
    have hcd : Tk.code .far = [46, 42] := rfl
    rw [hcd] at p1' hlen
    simp only [List.length_append, List.length_cons, List.length_nil] at hlen
    have hn1 : S (List.take (((at1 : Int) + 3).toNat - (at1 : Int).toNat) (List.drop (at1 : Int).toNat xs)) ≠ Str.ofString "(?>" := by
      have := hcutA 3 _ p1'
      rw [show ((3 : Nat) : Int) = 3 from rfl] at this
      rw [this, grp_eq, Ne, S_eq_iff]
      intro h; cases h
    have hn2 : S (List.take (((at1 : Int) + 3).toNat - (at1 : Int).toNat) (List.drop (at1 : Int).toNat xs)) ≠ Str.ofString ".*?" := by
      have := hcutA 3 _ p1'
      rw [show ((3 : Nat) : Int) = 3 from rfl] at this
      rw [this, near_eq, Ne, S_eq_iff]
      intro h
      have h' : List.take 1 (codes rs) = [63] := (List.cons.inj (List.cons.inj (show 46 :: 42 :: List.take 1 (codes rs) = _ from h)).2).2
      cases hr : codes rs with
      | nil => rw [hr] at h'; cases h'
      | cons a b => rw [hr] at h'; exact codes_head rs a b hr (List.cons.inj h').1
    have hn3 : S (List.take (((at1 : Int) + 2).toNat - (at1 : Int).toNat) (List.drop (at1 : Int).toNat xs)) = Str.ofString ".*" := by
      have := hcutA 2 _ p1'
      rw [show ((2 : Nat) : Int) = 2 from rfl] at this
      rw [this, far_eq, S_eq_iff]; rfl
    walk_at "go"
    refine Stop.go ?_
    (rename Fr _ _ _ _ => F3); (rename News _ _ _ _ => N3)
    refine comp2_ints (ns := cast06 ws1) (ax := l1) (vs := vs1) (fun k => cast06 (goDown nl k.toNat)) hh hh F3 N3 rfl f2 (flat_len ws1 (fun k => goDown nl k) ?sz) (by with_unfolding_all rfl) (by with_unfolding_all rfl) (by decide) rfl (by decide) rfl rfl rfl rfl rfl ?iter ?turn ?fin
    case sz => exact flat_size _ (fun p => by rw [goDown_len]; omega) (by omega) hnm
    case iter =>
      walk_at "go"
      refine Stop.go ?_
      exact ⟨rfl, ⟨_, _, rfl, F3, N3⟩, .inr ⟨_, List.Mem.tail _ (List.Mem.tail _ (List.Mem.tail _ (List.Mem.head _))), rfl, _, rfl⟩⟩
    case turn =>
      clear F3 N3
      intro k tk1 I oI C oC D oD m₂ h tk E' hk hC hx F4 N4 off ne
      obtain ⟨k, hk', rfl⟩ := List.mem_map.mp hk
      walk_at "go"
      refine Stop.go ?_
      have hkn := p6 k hk'
      (rename Fr _ _ _ _ => F5); (rename News _ _ _ _ => N5)
      refine ⟨_, _, _, _, _, _, _, rfl, ⟨_, _, rfl, F5, N5⟩, by with_reducible assumption, small_down _ _ hkn hnm, ?_, fun j v hj => items_down nl k j v hj⟩
      rw [cast06_len, goDown_len, Int.toNat_natCast]
      exact size_down nl k hkn
    case fin =>
      clear F3 N3
      intro D ys h tk hys F4 N4 off4
      have o1 : @Ne Nat D (sz + 1 + 1 + 1) := Ne.symm (off4 _ (List.Mem.head _))
      have o2 : @Ne Nat D (sz + 1 + 1) := Ne.symm (off4 _ (List.Mem.tail _ (List.Mem.head _)))
      have o3 : @Ne Nat D (sz + 1) := Ne.symm (off4 _ (List.Mem.tail _ (List.Mem.tail _ (List.Mem.head _))))
      rw [cast_flat, ← hnl] at hys
      walk_at "go"
      refine Stop.go ?_
      (rename Fr _ _ _ _ => F5); (rename News _ _ _ _ => N5); (rename _ = Data.cell (some (Value.int ((at1 : Int) + 2) _)) => d5)
      refine end06 F5 N5 d5 hat rfl hys (fun q hq => ?_) hg2 rfl (fun z hz hst => ?_) p1 p2 p5 p4
      · simp only [List.mem_cons, List.not_mem_nil, or_false] at hq
        rcases hq with rfl | rfl | rfl
        · exact Ne.symm o1
        · exact Ne.symm o2
        · exact Ne.symm o3
      · simp only [if_neg hz, hst, Bool.false_eq_true, if_false]
  | near =>
    have hcd : Tk.code .near = [46, 42, 63] := rfl
    rw [hcd] at p1' hlen
    simp only [List.length_append, List.length_cons, List.length_nil] at hlen
    have hn1 : S (List.take (((at1 : Int) + 3).toNat - (at1 : Int).toNat) (List.drop (at1 : Int).toNat xs)) ≠ Str.ofString "(?>" := by
      have := hcutA 3 _ p1'
      rw [show ((3 : Nat) : Int) = 3 from rfl] at this
      rw [this, grp_eq, Ne, S_eq_iff]
      intro h; cases h
    have hn2 : S (List.take (((at1 : Int) + 3).toNat - (at1 : Int).toNat) (List.drop (at1 : Int).toNat xs)) = Str.ofString ".*?" := by
      have := hcutA 3 _ p1'
      rw [show ((3 : Nat) : Int) = 3 from rfl] at this
      rw [this, near_eq, S_eq_iff]; rfl
    walk_at "go"
    refine Stop.go ?_
    (rename Fr _ _ _ _ => F3); (rename News _ _ _ _ => N3)
    refine comp2_ints (ns := cast06 ws1) (ax := l1) (vs := vs1) (fun k => cast06 (goUp nl k.toNat)) hh hh F3 N3 rfl f2 (flat_len ws1 (fun k => goUp nl k) ?sz) (by with_unfolding_all rfl) (by with_unfolding_all rfl) (by decide) rfl (by decide) rfl rfl rfl rfl rfl ?iter ?turn ?fin
    case sz => exact flat_size _ (fun p => by rw [goUp_len]; omega) (by omega) hnm
    case iter =>
      walk_at "go"
      refine Stop.go ?_
      exact ⟨rfl, ⟨_, _, rfl, F3, N3⟩, .inr ⟨_, List.Mem.tail _ (List.Mem.tail _ (List.Mem.tail _ (List.Mem.head _))), rfl, _, rfl⟩⟩
    case turn =>
      clear F3 N3
      intro k tk1 I oI C oC D oD m₂ h tk E' hk hC hx F4 N4 off ne
      obtain ⟨k, hk', rfl⟩ := List.mem_map.mp hk
      walk_at "go"
      refine Stop.go ?_
      have hkn := p6 k hk'
      (rename Fr _ _ _ _ => F5); (rename News _ _ _ _ => N5)
      refine ⟨_, _, _, _, _, _, _, rfl, ⟨_, _, rfl, F5, N5⟩, by with_reducible assumption, small_up _ _ hkn hnm, ?_, fun j v hj => items_up nl k j v hj⟩
      rw [cast06_len, goUp_len, Int.toNat_natCast]
      exact size_up nl k hkn
    case fin =>
      clear F3 N3
      intro D ys h tk hys F4 N4 off4
      have o1 : @Ne Nat D (sz + 1 + 1 + 1) := Ne.symm (off4 _ (List.Mem.head _))
      have o2 : @Ne Nat D (sz + 1 + 1) := Ne.symm (off4 _ (List.Mem.tail _ (List.Mem.head _)))
      have o3 : @Ne Nat D (sz + 1) := Ne.symm (off4 _ (List.Mem.tail _ (List.Mem.tail _ (List.Mem.head _))))
      rw [cast_flat, ← hnl] at hys
      walk_at "go"
      refine Stop.go ?_
      (rename Fr _ _ _ _ => F5); (rename News _ _ _ _ => N5); (rename _ = Data.cell (some (Value.int ((at1 : Int) + 3) _)) => d5)
      refine end06 F5 N5 d5 hat rfl hys (fun q hq => ?_) hg2 rfl (fun z hz hst => ?_) p1 p2 p5 p4
      · simp only [List.mem_cons, List.not_mem_nil, or_false] at hq
        rcases hq with rfl | rfl | rfl
        · exact Ne.symm o1
        · exact Ne.symm o2
        · exact Ne.symm o3
      · simp only [if_neg hz, hst, Bool.false_eq_true, if_false]
  | grp q =>
    have hcd : Tk.code (.grp q) = [40, 63, 62] ++ ([46, 42, 63] ++ escL q) ++ [41] := rfl
    rw [hcd] at p1' hlen
    simp only [List.length_append, List.length_cons, List.length_nil] at hlen
    have hn1 : S (List.take (((at1 : Int) + 3).toNat - (at1 : Int).toNat) (List.drop (at1 : Int).toNat xs)) = Str.ofString "(?>" := by
      have := hcutA 3 _ p1'
      rw [show ((3 : Nat) : Int) = 3 from rfl] at this
      rw [this, grp_eq, S_eq_iff]; rfl
    have hkk : kk ≠ 0 := fun e => p4 e q (List.mem_cons_self ..)
    have hcl : xs = (codes dn ++ [40, 63, 62]) ++ ([46, 42, 63] ++ escL q) ++ 41 :: codes rs := by rw [p1']; simp
    walk_at "go"
    refine Stop.go ?_
    (rename Fr _ _ _ _ => F3); (rename News _ _ _ _ => N3)
    refine ct_close (X.keeps F3.keep) (T.keeps F3.keep) (by show A.depth + 1 + 10 < recursionLimit; omega) hh (by rw [hxl]; exact hx) (by rw [List.length_append, hat]; rfl) hcl (skip_near q) (fun h4 tk4 t4 he4 => ?_)
    have F4 := F3.keeps he4
    have N4 := newsExt N3 he4
    clear F3 N3
    dsimp only
    obtain ⟨en, hen⟩ : ∃ k, (codes dn ++ [40, 63, 62]).length + ([46, 42, 63] ++ escL q).length = k := ⟨_, rfl⟩
    rw [hen]
    walk_at "go"
    refine Stop.go ?_
    (rename Fr _ _ _ _ => F5); (rename News _ _ _ _ => N5)
    refine newList_K F5 N5 (fun fl h6 F6 N6 hlt6 => ?_) (by rw [sizeLine_eq]; decide)
    have e1 : @LT.lt Nat _ (sz + 1 + 1 + 1) fl := hlt6 _ (List.Mem.head _)
    have e2 : @LT.lt Nat _ l1 fl := hlt6 _ (List.Mem.tail _ (List.Mem.tail _ (List.Mem.tail _ (List.Mem.head _))))
    clear F5 N5 hlt6
    walk_at "go"
    refine Stop.go ?_
    (rename Fr _ _ _ _ => F7); (rename News _ _ _ _ => N7)
    refine For_of F7 rfl rfl ?_
    walk_at "go"
    refine Stop.go ?_
    refine kst_listL (σ := List Value × Nat) (fun c => [(fl, W.listOf c.1.toArray c.2), (sz + 1 + 1 + 1, oa1), (sz + 1 + 1, on), (sz + 1, ot), (l1, W.listOf vs1.toArray n1)]) (fun _ => []) (fun _ => True) [Str.ofString "inner"]
      (fun pre c => ∃ wp, pre = cast06 wp ∧ c.1.length ≤ wp.length ∧ IntsAre c.1 (cast06 (wp.flatMap fun p => (lits nm q (goUp nl p)).take 1))) ([], 0) hh (fun c => List.Mem.tail _ (List.Mem.tail _ (List.Mem.tail _ (List.Mem.tail _ (List.Mem.head _))))) f2 F7 N7 trivial (fun _ h => nomatch h) ⟨[], rfl, Nat.le_refl _, .nil⟩ ?turn ?done
    case turn =>
      rintro ⟨fvs, fn⟩ pre post k tk1 u2 h tk own hns hkin hoff _ ⟨wp, hwp, hfl, hfi⟩ F8 N8
      clear F7 N7
      dsimp only [kstB] at F8 hfl hfi
      dsimp only [List.cons_append, List.nil_append] at N8
      dsimp only [List.map_cons, List.map_nil] at hoff
      obtain ⟨k, hk', rfl⟩ := List.mem_map.mp hkin
      have hcutB : List.take ((en : Int).toNat - ((at1 : Int) + 3).toNat) (List.drop ((at1 : Int) + 3).toNat xs) = codes (.near :: q.map .lit) := by
        have h3 : ((at1 : Int) + 3).toNat = (codes dn ++ [40, 63, 62]).length := by rw [List.length_append, hat]; simp; omega
        rw [h3, Int.toNat_natCast, ← hen, Nat.add_sub_cancel_left, hcl, List.append_assoc, List.drop_left, List.take_left, codes_cons, codes_lits]; rfl
      have hen2 : en ≤ xl := by
        have := congrArg List.length hcl
        rw [List.length_append, List.length_append, hxl, hen] at this
        omega
      walk_at "go"
      refine Stop.go ?_
      (rename Fr _ _ _ _ => F9); (rename News _ _ _ _ => N9)
      refine newList_K F9 N9 (fun pl h10 F10 N10 hlt10 => ?_) (by rw [sizeLine_eq]; exact Nat.le_of_ble_eq_true rfl)
      clear F9 N9
      walk_at "go"
      refine Stop.go ?_
      have hkn := p6 k hk'
      rw [hcutB]
      refine ih (kk - 1) (by omega) _ _ _ _ _ _ g _ _ (.near :: q.map .lit) [k] _ pl 0 X T F10.keep (N10 _ (List.Mem.head _)).1 (N10 _ (List.Mem.head _)).2.2 (by show A.depth + 1 + 10 * (kk - 1 + 1) < recursionLimit; omega) hh rfl (by rw [← hcutB]; exact Nat.le_trans (List.length_take_le' _ _) (by rw [List.length_drop]; omega)) (by rw [hnl]; exact hnm) (.cons _ _ .nil) (okRun_near nm q k (by rw [hnl]; exact hkn)) (fun _ z hz => by
        rcases List.mem_cons.mp hz with h | h
        · cases h
        · obtain ⟨c, _, hc⟩ := List.mem_map.mp h; cases hc) (fun h11 tk11 l11 vs11 n11 hk11 hl11 hf11 hi11 => ?_)
      obtain ⟨F11, N11⟩ := after_ways F10 N10 (fun p hp => Nat.ne_of_lt (hlt10 p hp)) hk11 hl11 hf11
      rw [run_near, hnl] at hi11
      have hoff11 : ∀ p ∈ (fl, W.listOf fvs.toArray fn) :: (sz + 1 + 1 + 1, oa1) :: (sz + 1 + 1, on) :: (sz + 1, ot) :: (l1, W.listOf vs1.toArray n1) :: own, p.1 ≠ l11 := fun p hp => by
        rcases hf11 with e | e
        · rintro rfl
          have := (N10 p (List.mem_cons_of_mem _ hp)).1
          rw [show h10.get? p.1 = none from e] at this; cases this
        · rw [e]; exact Nat.ne_of_lt (hlt10 p hp)
      have i1 : @Ne Nat l11 fl := Ne.symm (hoff11 _ (List.Mem.head _))
      clear F10 N10
      dsimp only
      walk_at "go"
      refine Stop.go ?_
      (rename Fr _ _ _ _ => F12); (rename News _ _ _ _ => N12)
      have hvl : vs11.length ≤ nl + 1 := by
        rw [hi11.length, cast06_len]
        exact Nat.le_trans (lits_len nm q _) (by rw [goUp_len]; omega)
      refine kmk_slice_ints (s := ⟨_, _, _, _, _⟩) F12 N12 (News.isList N12 (List.Mem.head _)) IsPart.none (IsPart.int _ _) hi11 (kmk_upto hi11 (by decide)) rfl (fun D wsD h13 F13 N13 hlt13 hI13 _ _ => ?_) (by with_unfolding_all rfl) (by intro _; with_unfolding_all rfl) (by rw [List.size_toArray, sizeLine_eq]; omega)
      have j1 : @Ne Nat fl D := Nat.ne_of_lt (hlt13 _ (List.Mem.tail _ (List.Mem.head _)))
      clear F12 N12
      walk_at "go"
      refine Stop.go ?_
      (rename Fr _ _ _ _ => F14); (rename News _ _ _ _ => N14)
      have hfw : fvs.length + wsD.length ≤ 1000000 := by
        have h1 : wsD.length ≤ 1 := by rw [hI13.length]; exact List.length_take_le _ _
        have h2 : wp.length ≤ ws1.length := by
          have := congrArg List.length hns
          rw [hwp, List.length_append, cast06_len, cast06_len] at this
          omega
        omega
      refine ext_any F14 N14 (List.Mem.head _) (fun n' => Upd.tail (Ne.symm j1) (Upd.tail i1 (Upd.head ?_))) hfw (fun h15 n15 F15 N15 => ?_)
      · intro p hp
        have ee1 : ∀ {z : Nat}, @LT.lt Nat _ z fl → z ≠ fl := fun h => Nat.ne_of_lt h
        rcases List.mem_cons.mp hp with rfl | hp
        · exact ee1 e1
        rcases List.mem_cons.mp hp with rfl | hp
        · exact ee1 (Nat.lt_of_succ_lt e1)
        rcases List.mem_cons.mp hp with rfl | hp
        · exact ee1 (Nat.lt_of_succ_lt (Nat.lt_of_succ_lt e1))
        rcases List.mem_cons.mp hp with rfl | hp
        · exact ee1 e2
        · exact hoff p hp _ (List.Mem.head _)
      clear F14 N14
      walk_at "go"
      refine Stop.go ?_
      (rename Fr _ _ _ _ => F16); (rename News _ _ _ _ => N16)
      refine kst_end (fvs ++ wsD, n15) F16 N16 (fun p hp => ?_) (fun p hp => ?_) rfl trivial (fun _ h => nomatch h) (fun z hz _ hst => ?_) ?_
      · simp only [List.mem_cons, List.not_mem_nil, or_false] at hp ⊢
        rcases hp with h | h | h | h | h <;> simp [h]
      · simp [hp]
      · have z1 : z ≠ Str.ofString "inner" := fun e => by rw [e] at hst; exact absurd hst (by decide)
        simp only [if_neg z1, if_neg hz, hst, Bool.false_eq_true, if_false]
      · refine ⟨wp ++ [k], by rw [hwp]; simp [cast06], ?_, ?_⟩
        · have h1 : wsD.length ≤ 1 := by rw [hI13.length]; exact List.length_take_le _ _
          simp only [List.length_append, List.length_cons, List.length_nil]; omega
        · rw [List.flatMap_append, List.flatMap_cons, List.flatMap_nil, List.append_nil]
          have hc2 : cast06 (List.flatMap (fun p => List.take 1 (lits nm q (goUp nl p))) wp ++ List.take 1 (lits nm q (goUp nl k))) = cast06 (List.flatMap (fun p => List.take 1 (lits nm q (goUp nl p))) wp) ++ List.take (Int.toNat 1) (cast06 (lits nm q (goUp nl k))) := by
            unfold cast06; rw [List.map_append, List.map_take]; rfl
          rw [hc2]
          exact IntsAre.append' hfi hI13
    case done =>
      rintro ⟨fvs, fn⟩ u2 h tk _ ⟨wp, hwp, hfl, hfi⟩ F8 N8
      clear F7 N7
      dsimp only [kstB] at F8 hfl hfi N8
      have hwp' : ws1 = wp := cast06_inj hwp
      subst hwp'
      dsimp only
      walk_at "go"
      refine Stop.go ?_
      (rename Fr _ _ _ _ => F9); (rename News _ _ _ _ => N9); (rename _ = Data.cell (some (Value.int ((en : Int) + 1) _)) => d9)
      have hen3 : (en : Int) + 1 = (at1 : Int) + ((Tk.code (.grp q)).length : Int) := by
        rw [hcd, ← hen]
        simp only [List.length_append, List.length_cons, List.length_nil, hat]; omega
      refine end06 F9 N9 d9 hat hen3 (by rw [show run1 nm (.grp q) ws1 = List.flatMap (fun p => List.take 1 (lits nm q (goUp nl p))) ws1 by rw [← hnl]; rfl]; exact hfi) (fun p hp => ?_) hg2 rfl (fun z hz hst => ?_) p1 p2 p5 p4
      · have ee1 : ∀ {z : Nat}, @LT.lt Nat _ z fl → z ≠ fl := fun h => Nat.ne_of_lt h
        simp only [List.mem_cons, List.not_mem_nil, or_false] at hp
        rcases hp with rfl | rfl | rfl
        · exact ee1 e1
        · exact ee1 (Nat.lt_of_succ_lt e1)
        · exact ee1 (Nat.lt_of_succ_lt (Nat.lt_of_succ_lt e1))
      · have hin : ∀ a ∈ st06, z ≠ a := fun a ha e => by
          rw [e] at hst
          rw [List.contains_iff_mem.mpr ha] at hst; cases hst
        have z1 := hin (Str.ofString "end") (by decide)
        have z2 := hin (Str.ofString "firsts") (by decide)
        have z3 := hin (Str.ofString "place") (by decide)
        have z4 := hin (Str.ofString "inner") (by decide)
        have z5 : [Str.ofString "inner"].contains z = false := by
          cases hq : [Str.ofString "inner"].contains z with
          | false => rfl
          | true => exact absurd (List.mem_singleton.mp (List.contains_iff_mem.mp hq)) z4
        simp only [if_neg hz, if_neg z1, if_neg z2, if_neg z3, hst, z5, Bool.false_eq_true, if_false]
end Mine
end secA06w
section secA06s
namespace Mine
theorem star_eq : Str.ofString "*" = S [42] := by decide +kernel
theorem emp_eq : Str.ofString "" = S [] := by decide +kernel
theorem fmod_lo (a : Int) {n : Int} (h : 0 < n) : 0 ≤ Int.fmod a n := Int.fmod_nonneg_of_pos a h
theorem fmod_hi (a : Int) {n : Int} (h : 0 < n) : Int.fmod a n < n := Int.fmod_lt_of_pos a h
theorem rep_fold (x : Array Nat) : ∀ (k : Nat) (a : Array Nat), ((List.replicate k x).foldl (· ++ ·) a).toList = a.toList ++ (List.replicate k x.toList).flatten
  | 0, a => by simp
  | k + 1, a => by
    rw [List.replicate_succ, List.foldl_cons, rep_fold x k, List.replicate_succ, List.flatten_cons, Array.toList_append, List.append_assoc]
theorem mul_list (l : List Nat) (n : Int) (h : 1 ≤ n) : Txt.mul (S l) n = S (List.replicate n.toNat l).flatten := by
  unfold Txt.mul
  rw [if_neg (by omega)]
  split
  · rename_i h2
    rw [Bool.or_eq_true] at h2
    rcases h2 with h2 | h2
    · rw [eq_of_beq h2]; simp
    · have : l = [] := by
        have := eq_of_beq h2
        rw [S_length] at this
        exact List.length_eq_zero_iff.mp this
      subst this
      congr 1
      simp
  · have := rep_fold (S l).cps n.toNat #[]
    rw [S_cps] at this
    rw [← S_of ⟨_⟩]
    rw [this]; simp
section
variable {prog : Program} {w : World} {A : Around} {E : Value → Shared → Prop} {s : Shared} {t u : Tok} {value slice : PySem.Expr} {Q : Value → Shared → Prop}
theorem mul_S {l : List Nat} {n : Int} (h1 : 1 ≤ n) (h2 : n ≤ 1024) (hl : l.length ≤ 1024) (h : ∀ t' tk, Q (.str (S (List.replicate n.toNat l).flatten) t') { s with toks := tk }) :
    wpAny (model prog w) A (binaryOp .Mult (.str (S l) t) (.int n u)) Q E s := by
  refine SB.mul (mulOk_of 1024 1024 (by rw [S_length]; exact hl) (by omega) (by omega) (by decide) (by decide)) (fun t' k => ?_)
  rw [mul_list _ _ h1]; exact h _ _
theorem item_of {l : List Nat} {x : Str} {r n : Int} (hx : x = S l) (hn : l.length = n.toNat) (h0 : 0 < n) (h1 : n < 100) (h : ∀ c t' tk, c ∈ l → Q (.str (S [c]) t') { s with toks := tk })
    (hs : subscripted slice false (.str x t) (.int (Int.fmod r n) u) = operate [.str x t, .int (Int.fmod r n) u] (getItem (.str x t) (.int (Int.fmod r n) u)) := by with_unfolding_all rfl)
    (ht : ∀ r, letTemporaryGo value (.str x t) r = pure () := by intro _; with_unfolding_all rfl) :
    wpAny (model prog w) A (subscriptTail value slice (.str x t) (.int (Int.fmod r n) u)) Q E s := by
  subst hx
  have a := fmod_lo r h0
  have b := fmod_hi r h0
  have hlt : (Int.fmod r n).toNat < l.length := by omega
  exact item_S (c := l[(Int.fmod r n).toNat]) a (by omega) (List.getElem?_eq_getElem hlt) (fun t' tk => h _ _ _ (List.getElem_mem hlt)) hs ht
theorem chr_S {i : Int} (h0 : 0 ≤ i) (h1 : i ≤ 1114111) (h : ∀ t' tk, Q (.str (S [i.toNat]) t') { s with toks := tk }) : wpAny (model prog w) A (call (.builtin "chr") [.int i t]) Q E s :=
  chr_of_range h0 h1 (h _ _)
theorem chrA {r : Int} (h : ∀ n t' tk, Q (.str (S [n]) t') { s with toks := tk }) : wpAny (model prog w) A (call (.builtin "chr") [.int (Int.fmod r 1112064) t]) Q E s := by
  have a := fmod_lo r (n := 1112064) (by decide)
  have b := fmod_hi r (n := 1112064) (by decide)
  exact chr_S (by omega) (by omega) (h _)
theorem chrB {r : Int} (h : ∀ n t' tk, Q (.str (S [n]) t') { s with toks := tk }) : wpAny (model prog w) A (call (.builtin "chr") [.int (Int.fmod r 1112064 + 2048) t]) Q E s := by
  have a := fmod_lo r (n := 1112064) (by decide)
  have b := fmod_hi r (n := 1112064) (by decide)
  exact chr_S (by omega) (by omega) (h _)
theorem add_LR {a b : List Nat} {x y : Str} (hx : x = S a) (hy : y = S b) (hsz : a.length + b.length ≤ 16777216) (h : ∀ t' tk, Q (.str (S (a ++ b)) t') { s with toks := tk }) : wpAny (model prog w) A (binaryOp .Add (.str x t) (.str y u)) Q E s := by
  subst hx hy; exact add_S hsz h
end
noncomputable def sgA : List Nat := [46, 63, 43, 36, 40, 41, 91, 93, 123, 125, 124, 94, 92]
noncomputable def sgB : List Nat := [100, 68, 115, 83, 119, 87, 98, 66, 65, 90, 122, 110, 116, 120, 48, 57]
noncomputable def sgC : List Nat := [97, 98, 32, 32, 32, 42, 42, 42]
theorem sgA_eq : Str.ofString ".?+$()[]{}|^\\" = S sgA := by decide +kernel
theorem sgB_eq : Str.ofString "dDsSwWbBAZzntx09" = S sgB := by decide +kernel
theorem sgC_eq : Str.ofString "ab   ***" = S sgC := by decide +kernel
local macro_rules | `(tactic| walk_at "call builtin:chr") => `(tactic| (k_here; first | (refine chrA ?_; intro _ _ _) | (refine chrB ?_; intro _ _ _)))
local macro_rules | `(tactic| walk_at "subscriptTail Constant BinOp str int") => `(tactic| (k_here; first | (refine item_of sgA_eq rfl (by decide) (by decide) ?_; intro _ _ _ _) | (refine item_of sgB_eq rfl (by decide) (by decide) ?_; intro _ _ _ _) | (refine item_of sgC_eq rfl (by decide) (by decide) ?_; intro _ _ _ _)))
theorem ct_sign {w : World} {A : Around} {s : Shared} {t : Tok} {Q E : Value → Shared → Prop} {mean : ExcName → Option Value} {mg mb : Str → Option Value} {x : Int}
   (X : (hd06.heap_39 w.params).In s.heap) (T : Top hd06.view_39 (looseW hd06.view_39 ["_special_chars_map"]) mean mg mb s.heap) (hd : A.depth + 10 < recursionLimit) (hh : A.handled = none)
   (hQ : ∀ h' tk t1 c, Ext s.heap h' → Q (.str (S [c]) t1) {s with heap := h', toks := tk}) :
   wpAny (model Challenge.rw_dn0256_06.row.prog w) A (call (.ref 52) [.int x t]) Q E s := by
  revert X
  k_fill
  intro X
  refine wpAny_call ?_
  refine call_pos_ret (by omega) (X _ _ rfl) rfl T.nolimit (codeRec_of X (by k_is)) rfl (locs rfl) (fun h₁ F => ?_)
  replace F : Fr s.heap s.heap.objs.size h₁ (fun y => [(Str.ofString "x", Value.int x t)].reverse.lookup y) := F
  have N : News s.heap s.heap.objs.size h₁ [] := News.nil
  walk_at "go"
  all_goals (rename Fr _ _ _ _ => F7)
  all_goals exact hQ _ _ _ _ (fun b o e => F7.keep b o e)
end Mine
end secA06s
open PySem PySem.W PyProof.Rows PyProof.Rows.LCg
namespace Mine
noncomputable def SignV (_ y : Value) : Prop := ∃ c t, y = .str (S [c]) t
theorem signs_of : ∀ {vs ys : List Value}, Paired SignV vs ys → ∃ cs : List Nat, cs.length = vs.length ∧ StrsAre ys (cs.map fun c => S [c])
  | _, _, .nil => ⟨[], rfl, .nil⟩
  | _, _, .cons (a := a) (b := b) ⟨c, t, e⟩ h => by
    obtain ⟨cs, hl, hs⟩ := signs_of h
    subst e
    exact ⟨c :: cs, by simp [hl], .cons _ _ hs⟩
theorem join_signs (cs : List Nat) : Txt.join (Str.ofString "") (cs.map fun c => S [c]) = S cs := by
  unfold Txt.join
  rw [← S_of (Builtin.Str.glued _ _), glued_list]
  congr 1
  cases cs with
  | nil => rfl
  | cons c cs =>
    have h0 : (Str.ofString "").cps.toList = [] := by decide
    simp only [List.map_cons, List.headD_cons, List.drop_succ_cons, List.drop_zero, h0, List.nil_append, List.map_map, S_cps]
    show [c] ++ _ = _
    rw [List.singleton_append]
    congr 1
    induction cs with
    | nil => rfl
    | cons a r ih => simp only [List.map_cons, List.flatten_cons, ih, Function.comp, S_cps]; rfl
theorem mem_int {vs : List Value} {ns : List Int} (h : IntsAre vs ns) : ∀ v ∈ vs, ∃ n t, v = .int n t := by
  induction h with
  | nil => intro v hv; cases hv
  | cons n t _ ih =>
    intro v hv
    rcases List.mem_cons.mp hv with rfl | hv
    · exact ⟨n, t, rfl⟩
    · exact ih v hv
theorem sum_signs (cs : List Nat) : ((cs.map fun c => S [c]).map (·.length)).sum = cs.length := by
  induction cs with
  | nil => rfl
  | cons c r ih => rw [List.map_cons, List.map_cons, List.sum_cons, ih, S_length]; simp; omega
noncomputable def oth : List Nat := [97, 65, 10]
theorem oth_eq : Str.ofString "aA\n" = S oth := by decide +kernel
structure L06 where
  nm : List Nat
  on : Obj
  tn : Tok
  os : Obj
  v0 : Option Value
noncomputable def ledL (D0 a1 a2 : Addr) (wv : List Value) (n0 : Nat) (c : L06) : List (Addr × Obj) := [(D0, W.listOf wv.toArray n0), (a1, c.os), (a2, c.on)]
noncomputable def faL (c : L06) : Prop := c.on.data = .cell (some (.str (S c.nm) c.tn)) ∧ c.os.data = .cell c.v0
noncomputable def prL (pre : List Int) (c : L06) : Prop := c.nm.length ≤ 2 * pre.length
noncomputable def stL : List Str := [Str.ofString "way", Str.ofString "more", Str.ofString "j"]
section
variable {prog : Program} {w : World} {A : Around} {E : Value → Shared → Prop} {s : Shared} {env : Env} {h₀ : Heap} {x : Str} {body : List Stmt} {Q : Flow → Shared → Prop}
theorem loop06 {D0 a1 a2 : Addr} {wv : List Value} {ns : List Int} {n0 : Nat} {m₀ : Str → Option Value} {oS oN : Obj} {vS : Option Value} {tN : Tok} (hh : A.handled = none) (hi : IntsAre wv ns) (F : Fr h₀ env.locals s.heap m₀) (N : News h₀ env.locals s.heap [(D0, W.listOf wv.toArray n0), (a1, oS), (a2, oN)])
    (dS : oS.data = .cell vS) (dN : oN.data = .cell (some (.str (S []) tN)))
    (turn : ∀ (c : L06) pre post n t (u : Str → Option Value) h tk own, ns = pre ++ n :: post → n ∈ ns → OwnOff own [D0, a1, a2] → faL c → prL pre c →
      Fr h₀ env.locals h (fun y => if y = x then some (.int n t) else if stL.contains y then u y else m₀ y) → News h₀ env.locals h ((D0, W.listOf wv.toArray n0) :: (a1, c.os) :: (a2, c.on) :: own) →
      wpAny (model prog w) A (execs body env) (InvPostN h₀ env.locals (KstS (ledL D0 a1 a2 wv n0) (fun _ => []) faL x stL m₀ prL (pre ++ [n])) own [D0, a1, a2] { s with heap := h, toks := tk } Q) E { s with heap := h, toks := tk })
    (done : ∀ (c : L06) (u : Str → Option Value) h tk, faL c → prL ns c → Fr h₀ env.locals h (fun y => if y = x then u y else if stL.contains y then u y else m₀ y) → News h₀ env.locals h (ledL D0 a1 a2 wv n0 c) → Q .next { s with heap := h, toks := tk }) :
    wpAny (model prog w) A (pyIter (.ref D0)) (fun it s₂ => LoopAtV prog w A h₀ env x body Q E it s₂) E s :=
  kst_listL (ledL D0 a1 a2 wv n0) (fun _ => []) faL stL prL ⟨[], oN, tN, oS, vS⟩ hh (fun _ => List.Mem.head _) hi F N ⟨dN, dS⟩ (fun _ h => nomatch h) (Nat.le_refl _) turn done
end
theorem dropHead {h₀ h : Heap} {L : Addr} {a : Addr × Obj} {r : List (Addr × Obj)} (N : News h₀ L h (a :: r)) : News h₀ L h r := fun q hq => N q (List.mem_cons_of_mem _ hq)
theorem endL {h₀ h' : Heap} {L : Addr} {s₁ : Shared} {D0 a1 a2 : Addr} {wv : List Value} {n0 tk : Nat} {m₀ m' : Str → Option Value} {oS oN : Obj} {vS : Option Value} {tN : Tok} {nm' : List Nat} {pre : List Int} {n : Int} {x : Str} {own : List (Addr × Obj)} (F : Fr h₀ L h' m') (N : News h₀ L h' ((D0, W.listOf wv.toArray n0) :: (a1, oS) :: (a2, oN) :: own))
    (dS : oS.data = .cell vS) (dN : oN.data = .cell (some (.str (S nm') tN))) (hl : nm'.length ≤ 2 * (pre.length + 1)) (hr : ∀ z, z ≠ x → stL.contains z = false → m' z = m₀ z) :
    InvEndN h₀ L (KstS (ledL D0 a1 a2 wv n0) (fun _ => []) faL x stL m₀ prL (pre ++ [n])) own [D0, a1, a2] s₁ { s₁ with heap := h', toks := tk } := by
  refine kst_end ⟨nm', oN, tN, oS, vS⟩ F N (fun p hp => ?_) (fun p hp => ?_) rfl ⟨dN, dS⟩ (fun _ h => nomatch h) (fun z hz _ hst => hr z hz hst) ?_
  · simp only [ledL, List.mem_cons, List.not_mem_nil, or_false] at hp ⊢
    rcases hp with h | h | h <;> simp [h]
  · simp [hp]
  · show nm'.length ≤ 2 * (pre ++ [n]).length
    rw [List.length_append]; exact hl
theorem offL {z : Str} (hst : stL.contains z = false) : z ≠ Str.ofString "way" ∧ z ≠ Str.ofString "more" ∧ z ≠ Str.ofString "j" := by
  have hin : ∀ a ∈ stL, z ≠ a := fun a ha e => by
    rw [e] at hst
    rw [List.contains_iff_mem.mpr ha] at hst; cases hst
  exact ⟨hin _ (by decide), hin _ (by decide), hin _ (by decide)⟩
noncomputable def Mk3 : Prop := True
section
variable {prog : Program} {w : World} {A : Around} {E : Value → Shared → Prop} {s : Shared} {t u : Tok} {Q : Value → Shared → Prop}
theorem modEq {a b r : Int} (h : Int.fmod a b = r) (hb : b ≠ 0) (hq : ∀ t' tk, Q (.int r t') { s with toks := tk }) : wpAny (model prog w) A (binaryOp .Mod (.int a t) (.int b u)) Q E s := by
  refine mod_int hb ?_
  rw [h]; exact hq _ _
theorem modN {a : Int} {m : Nat} (hm : 1 ≤ m) (hq : ∀ t' tk, Q (.int (Int.fmod a (m : Int)) t') { s with toks := tk }) : wpAny (model prog w) A (binaryOp .Mod (.int a t) (.int (m : Int) u)) Q E s :=
  mod_int (by omega) (hq _ _)
end
theorem allLt_ne {d : Nat} : ∀ {l : List (Addr × Obj)}, AllLt d l → ∀ p ∈ l, p.1 ≠ d
  | [], _, _, h => nomatch h
  | _ :: _, x, p, h => by
    rcases List.mem_cons.mp h with rfl | h
    · exact Nat.ne_of_lt x.1
    · exact allLt_ne x.2 p h
theorem unr3 {d : Nat} {a b c : Addr × Obj} {own : List (Addr × Obj)} (h : @LT.lt Nat _ a.1 d ∧ @LT.lt Nat _ b.1 d ∧ @LT.lt Nat _ c.1 d ∧ AllLt d own) : ∀ p ∈ a :: b :: c :: own, p.1 ≠ d := allLt_ne (l := a :: b :: c :: own) h
theorem tp_codes (l : List Nat) : tpL l = codes (patT (cut l)) := by
  obtain ⟨p, ps, hc⟩ := cut_ne l
  exact (patT_codes (cut l) (by rw [hc]; simp)).symm
noncomputable def TxtIs (h₀ : Heap) (L : Addr) (m : Str → Option Value) (news : List (Addr × Obj)) (s : Shared) (l : List Nat) (xv : Value) (s₁ : Shared) : Prop := ∃ t, xv = .str (S l) t ∧ Quiet h₀ L m news s s₁
noncomputable def J06 (nm l : List Nat) (m₀ : Str → Option Value) (lw a1 a2 : Addr) (ow on : Obj) (i : Nat) (m₁ : Str → Option Value) (nx : List (Addr × Obj)) : Prop :=
  ∃ (pl : Addr) (pv : List Value) (pn : Nat) (os : Obj) (v0 : Option Value), nx = [(pl, W.listOf pv.toArray pn), (lw, ow), (a1, os), (a2, on)] ∧ os.data = .cell v0 ∧ IntsAre pv (cast06 (plRun nm (l.take i) [0])) ∧ (m₁ = fun y => if y = Str.ofString "places" then some (.ref pl) else m₀ y) ∧ (@Ne Nat pl lw ∧ @Ne Nat pl a1 ∧ @Ne Nat pl a2)
theorem For_text {prog : Program} {w : World} {A : Around} {E : Value → Shared → Prop} {s : Shared} {env : Env} {h₀ : Heap} {body : List Stmt} {Q : Flow → Shared → Prop} {x : Str} {px pos : Pos} {iter : PySem.Expr} {l nm : List Nat} {m₀ : Str → Option Value} {lw a1 a2 pl : Addr} {ow on os : Obj} {v0 : Option Value} {pv : List Value} {pn : Nat}
    (hh : A.handled = none) (F : Fr h₀ env.locals s.heap (fun y => if y = Str.ofString "places" then some (.ref pl) else m₀ y)) (N : News h₀ env.locals s.heap [(pl, W.listOf pv.toArray pn), (lw, ow), (a1, os), (a2, on)]) (hos : os.data = .cell v0) (hpv : IntsAre pv [0]) (hne : @Ne Nat pl lw ∧ @Ne Nat pl a1 ∧ @Ne Nat pl a2)
    (hiter : wpAny (model prog w) A (eval iter env) (TxtIs h₀ env.locals (fun y => if y = Str.ofString "places" then some (.ref pl) else m₀ y) [(pl, W.listOf pv.toArray pn), (lw, ow), (a1, os), (a2, on)] s l) E s)
    (turn : ∀ i c tc (pl : Addr) (pv : List Value) (pn : Nat) (os : Obj) (v0 : Option Value) h tk own, l[i]? = some c → os.data = .cell v0 → IntsAre pv (cast06 (plRun nm (l.take i) [0])) → (@Ne Nat pl lw ∧ @Ne Nat pl a1 ∧ @Ne Nat pl a2) → OwnOff own [pl, lw, a1, a2] →
      Fr h₀ env.locals h (fun y => if y = Str.ofString "places" then some (.ref pl) else m₀ y) → News h₀ env.locals h ((pl, W.listOf pv.toArray pn) :: (lw, ow) :: (a1, os) :: (a2, on) :: own) →
      wpAny (model prog w) A (assign (.Name x px) env (.str (S [c]) tc)) (fun _ s₃ => wpAny (model prog w) A (execs body env) (TxtPost h₀ env.locals own (J06 nm l m₀ lw a1 a2 ow on (i + 1)) { s with heap := h, toks := tk } Q) E s₃) E { s with heap := h, toks := tk })
    (done : ∀ (pl : Addr) (pv : List Value) (pn : Nat) (os : Obj) h tk, IntsAre pv (cast06 (plRun nm l [0])) → (@Ne Nat pl lw ∧ @Ne Nat pl a1 ∧ @Ne Nat pl a2) → Fr h₀ env.locals h (fun y => if y = Str.ofString "places" then some (.ref pl) else m₀ y) → News h₀ env.locals h [(pl, W.listOf pv.toArray pn), (lw, ow), (a1, os), (a2, on)] → Q .next { s with heap := h, toks := tk })
    (hs : ∀ x, foldedSetIterable iter env x = pure x := by intro _; rfl) (hE : PassesOwn (model prog w) A env E := by passes_own) :
    wpAny (model prog w) A (exec (.For (.Name x px) iter body [] pos) env) Q E s := by
  refine For_turns F (wpAny_mono hiter (fun xv s₁ h₁ => ?_) fun _ _ e => e) hs hE
  obtain ⟨t, rfl, h₁, tk₁, rfl, F₁, N₁⟩ := h₁
  refine text_loop (J06 nm l m₀ lw a1 a2 ow on) hh F₁ N₁ ⟨pl, pv, pn, os, v0, rfl, hos, by rw [List.take_zero]; exact hpv, rfl, hne⟩ ?_ ?_
  · rintro i c tc m₁ news₁ h tk own hc hoff ⟨pl, pv, pn, os, v0, rfl, hos, hpv, rfl, hne⟩ F₂ N₂
    exact turn i c tc pl pv pn os v0 h tk own hc hos hpv hne hoff F₂ N₂
  · rintro m₁ news₁ h tk ⟨pl, pv, pn, os, v0, rfl, hos, hpv, rfl, hne⟩ F₂ N₂
    rw [List.take_length] at hpv
    exact done pl pv pn os h tk hpv hne F₂ N₂
theorem pick4 {h₀ h : Heap} {L : Addr} {a b c d e : Addr × Obj} (N : News h₀ L h [a, b, c, d, e]) : News h₀ L h [a, b, d, e] := fun q hq => N q (by
  simp only [List.mem_cons, List.not_mem_nil, or_false] at hq ⊢
  rcases hq with h | h | h | h <;> simp [h])
theorem end06b {g h' : Heap} {L : Addr} {s₁ : Shared} {m₀ m' : Str → Option Value} {nm l : List Nat} {lw a1 a2 D : Addr} {ow on os : Obj} {v0 : Option Value} {ys : List Value} {nn i tk : Nat} {c : Nat} {own news' : List (Addr × Obj)}
    (F : Fr g L h' m') (N : News g L h' news') (hin : ∀ p ∈ (D, W.listOf ys.toArray nn) :: (lw, ow) :: (a1, os) :: (a2, on) :: own, p ∈ news') (hos : os.data = .cell v0) (hc : l[i]? = some c) (hys : IntsAre ys (cast06 (plStep nm (plRun nm (l.take i) [0]) c))) (hoff : OwnOff own [D, lw, a1, a2])
    (hne : @Ne Nat D lw ∧ @Ne Nat D a1 ∧ @Ne Nat D a2) (hm : m' = fun y => if y = Str.ofString "places" then some (.ref D) else m₀ y) :
    TxtEnd g L own (J06 nm l m₀ lw a1 a2 ow on (i + 1)) s₁ { s₁ with heap := h', toks := tk } := by
  refine ⟨h', tk, m', news', [(D, W.listOf ys.toArray nn), (lw, ow), (a1, os), (a2, on)], rfl, F, N, fun p hp => hin p ?_, fun p hp => hin p (by simp [hp]), hoff, D, ys, nn, os, v0, rfl, hos, ?_, hm, hne⟩
  · simp only [List.mem_cons, List.not_mem_nil, or_false] at hp ⊢
    rcases hp with h | h | h | h <;> simp [h]
  · rw [List.take_add_one, hc]
    show IntsAre ys (cast06 (plRun nm (l.take i ++ [c]) [0]))
    rw [plRun_append]; exact hys
theorem off_new {g h : Heap} {L pl l' : Addr} {o : Obj} {rest : List (Addr × Obj)} (N : News g L h ((pl, o) :: rest)) (hlt : ∀ p ∈ rest, p.1 < pl) (hf : h.get? l' = none ∨ l' = pl) : ∀ p ∈ rest, p.1 ≠ l' := fun p hp => by
  rcases hf with e | e
  · rintro rfl
    have := (N p (List.mem_cons_of_mem _ hp)).1
    rw [e] at this; cases this
  · rw [e]; exact Nat.ne_of_lt (hlt p hp)
theorem neNat {a b : Addr} (h : a ≠ b) : @Ne Nat a b := h
theorem plRun_le (nm : List Nat) : ∀ (l pl : List Nat), (∀ p ∈ pl, p ≤ nm.length) → ∀ p ∈ plRun nm l pl, p ≤ nm.length
  | [], _, h => h
  | _ :: l, _, h => plRun_le nm l _ (plStep_le nm h)
theorem plRun_len (nm l : List Nat) : (plRun nm l [0]).length ≤ nm.length + 1 :=
  sorted_len (plRun_sorted nm l [0] (List.pairwise_singleton _ _)) (plRun_le nm l [0] (by simp))
theorem end06c {g h' : Heap} {L : Addr} {s₁ : Shared} {m₀ m' : Str → Option Value} {nm l : List Nat} {lw a1 a2 D pl : Addr} {ow on os : Obj} {v0 : Option Value} {ys : List Value} {nn i tk : Nat} {c : Nat} {own : List (Addr × Obj)} {x1 : Addr × Obj}
    (F : Fr g L h' m') (N : News g L h' ((D, W.listOf ys.toArray nn) :: x1 :: (lw, ow) :: (a1, os) :: (a2, on) :: own)) (hos : os.data = .cell v0) (hc : l[i]? = some c) (hys : IntsAre ys (cast06 (plStep nm (plRun nm (l.take i) [0]) c))) (hoff : OwnOff own [pl, lw, a1, a2])
    (off : ∀ q ∈ x1 :: (lw, ow) :: (a1, os) :: (a2, on) :: own, q.1 ≠ D) (hm : m' = fun y => if y = Str.ofString "places" then some (.ref D) else m₀ y) :
    TxtEnd g L own (J06 nm l m₀ lw a1 a2 ow on (i + 1)) s₁ { s₁ with heap := h', toks := tk } := by
  refine end06b (D := D) (nn := nn) F N (fun p hp => ?_) hos hc hys (fun p hp b hb => ?_) ⟨Ne.symm (off _ (List.Mem.tail _ (List.Mem.head _))), Ne.symm (off _ (List.Mem.tail _ (List.Mem.tail _ (List.Mem.head _)))), Ne.symm (off _ (List.Mem.tail _ (List.Mem.tail _ (List.Mem.tail _ (List.Mem.head _)))))⟩ hm
  · rcases List.mem_cons.mp hp with rfl | hp
    · exact List.Mem.head _
    · exact List.Mem.tail _ (List.Mem.tail _ hp)
  · rcases List.mem_cons.mp hb with rfl | hb
    · exact off p (List.mem_cons_of_mem _ (List.mem_cons_of_mem _ (List.mem_cons_of_mem _ (List.mem_cons_of_mem _ hp))))
    · exact hoff p hp b (List.mem_cons_of_mem _ hb)
noncomputable def Mk9 : Prop := True
theorem min_up {p : Nat} {r : List Nat} {M : Int} (h : (p :: r).Pairwise (· < ·)) (h1 : M ∈ cast06 (p :: r)) (h2 : ∀ a, a ∈ cast06 (p :: r) → M ≤ a) : M = (p : Int) := by
  have ha := h2 (p : Int) (List.Mem.head _)
  obtain ⟨q, hq, rfl⟩ := List.mem_map.mp h1
  rcases List.mem_cons.mp hq with rfl | hq
  · rfl
  · have := (List.pairwise_cons.mp h).1 q hq
    omega
theorem down06 {l : List Nat} (h : l.Pairwise (· < ·)) : (cast06 l.reverse).Pairwise (· > ·) := by
  unfold cast06
  rw [List.pairwise_map, List.pairwise_reverse]
  exact h.imp fun h => by omega
theorem rev06 (l : List Nat) : (cast06 l.reverse).reverse = cast06 l := by
  unfold cast06; rw [List.map_reverse, List.reverse_reverse]
theorem last06 (l : List Nat) : decide ((cast06 l.reverse).take (1 : Int).toNat = (cast06 l).drop ((cast06 l).length - (-(-1 : Int)).toNat)) = true := by
  apply decide_eq_true
  rw [← List.reverse_reverse (cast06 l), show (cast06 l).reverse = cast06 l.reverse by unfold cast06; rw [List.map_reverse], List.length_reverse, ← List.reverse_take]
  cases cast06 l.reverse with
  | nil => rfl
  | cons a r => rfl
theorem drop2 {h₀ h : Heap} {L : Addr} {a b : Addr × Obj} {r : List (Addr × Obj)} (N : News h₀ L h (a :: b :: r)) : News h₀ L h (a :: r) := fun q hq => N q (by
  rcases List.mem_cons.mp hq with h | h
  · exact h ▸ List.Mem.head _
  · exact List.Mem.tail _ (List.Mem.tail _ h))
theorem range06 {p n : Nat} (h : p ≤ n) : rangeKs (p : Int) (((n : Int) + 1 - (p : Int)).toNat) = cast06 (goUp n p) := by
  unfold rangeKs cast06 goUp
  rw [List.map_map, show ((n : Int) + 1 - (p : Int)).toNat = n + 1 - p by omega]
  refine List.map_congr_left fun i _ => ?_
  show (p : Int) + (i : Int) = ((p + i : Nat) : Int)
  omega
end Mine
local macro_rules | `(tactic| walk_at "exec For Name Call cons nil") => `(tactic| ((fail_if_success (with_reducible rename Mk3 => hM9)); refine Stop.of ?_))
local macro_rules | `(tactic| walk_at "call builtin:len cons nil") => `(tactic| (k_here; (refine len_Sn (by with_reducible assumption) (by omega) ?_; intro _ _)))
local macro_rules | `(tactic| walk_at "binaryOp Mult str int") => `(tactic| (k_here; (refine mul_S (by decide) (by decide) (by (simp only [List.length_cons, List.length_nil]; decide)) ?_; intro _ _)))
local macro_rules | `(tactic| walk_at "binaryOp Mod int int") => `(tactic| (k_here; first | (with_reducible refine modEq (by with_reducible assumption) (by decide) ?_; intro _ _) | (with_reducible refine modN (by with_reducible assumption) ?_; intro _ _)))
local macro_rules | `(tactic| walk_at "subscriptTail Name BinOp str int") => `(tactic| (k_here; (refine item_of rfl (by rw [Int.toNat_natCast]; with_reducible assumption) (by omega) (by omega) ?_; intro _ _ _ _)))
local macro_rules | `(tactic| walk_at "inplaceOp Add str str") => `(tactic| (k_here; (refine iadd_S (by (try simp only [List.length_append, List.length_cons, List.length_nil, List.length_flatten, List.map_replicate, List.sum_replicate]); first | omega | (simp; omega)) ?_; intro _ _)))
local macro_rules | `(tactic| walk_at "pyIter ref") => `(tactic| ((fail_if_success (with_reducible rename Mk3 => hM9)); refine Stop.of ?_))
local macro_rules | `(tactic| walk_at "UnrEnd") => `(tactic| (k_here; (with_reducible rename Fr _ _ _ _ => F'); (with_reducible rename News _ _ _ _ => N'); refine UnrEnd.intro F' N' _ (fun p hp => hp) (unr3 (by with_reducible assumption)) ?_))
local macro_rules | `(tactic| walk_at "TxtPost") => `(tactic| (dsimp only [TxtPost]))
local macro_rules | `(tactic| walk_at $k9:str) => if ["InvEndN", "SrcIs", "TestIs", "EltIs", "EltG", "exec For Name Name cons nil", "exec For Name IfExp cons nil", "call ref", "eval ListComp", "call builtin:str.join", "binaryOp Add str str", "newList", "TxtIs", "TxtEnd", "exec Assign cons ListComp", "compareOp NotEq ref ref", "compareOp Eq ref ref", "call builtin:min", "call builtin:sorted", "call type:list"].contains k9.getString then `(tactic| refine Stop.of ?_) else Lean.Macro.throwUnsupported
local macro_rules | `(tactic| walk_at "subscriptTail Name Slice ref ref") => `(tactic| ((with_reducible rename Mk9 => hM9); refine Stop.of ?_))
set_option maxRecDepth 100000 in
set_option maxHeartbeats 8000000 in
theorem PySem.Challenge.cw_dn0256_06_holds : PySem.Challenge.rw_dn0256_06.Holds := by
  refine Mine.hd06 ?_
  k_go0
  (all_goals try k_fold)
  walk_at "go"
  refine Stop.go ?_
  (rename Fr _ _ _ _ => F1); (rename News _ _ _ _ => N1); (rename IntsAre _ _ => hI1)
  have F2 : Fr _ _ _ (fun y => if y = Str.ofString "script" then some (.ref _) else if y = Str.ofString "script" then some (.ref _) else none) := F1
  clear F1
  rename_i D0 wv hpA hC0 hL0 hl10 hpB
  have hln := hI1.length
  rw [List.length_take] at hln
  have hwl : wv.length ≤ 63 := by omega
  clear hC0 hL0
  refine compU (vs := wv) (ax := D0) SignV rfl F2 N1 (by omega) (by with_unfolding_all rfl) (by decide) rfl (by decide) rfl ?iter ?turn ?fin
  case iter =>
    walk_at "go"
    refine Stop.go ?_
    exact ⟨rfl, ⟨_, _, rfl, F2, N1⟩, .inr ⟨_, List.Mem.head _, rfl, _, rfl⟩⟩
  case turn =>
    intro v I oI C oC D oD m₂ h tk E' hv hC hx F3 N3 off ne
    clear F2 N1
    obtain ⟨n, t, rfl⟩ := mem_int hI1 v hv
    walk_at "go"
    refine Stop.go ?_
    (rename Fr _ _ _ _ => F4); (rename News _ _ _ _ => N4)
    refine ct_sign (Frag.In.keeps (by with_reducible assumption) F4.keep) (Top.keeps (by with_reducible assumption) F4.keep) (by (simp only [depth_deeper, depth_caller]; decide)) rfl (fun h5 tk5 t5 c5 he5 => ?_)
    dsimp only
    walk_at "go"
    refine Stop.go ?_
    exact ⟨⟨c5, _, rfl⟩, ⟨_, _, rfl, F4.keeps he5, newsExt N4 he5⟩⟩
  case fin =>
    intro D ys h tk hys F3 N3 off3
    clear F2 N1
    obtain ⟨cs, hcl, hcs⟩ := signs_of hys
    (rename Obj.data _ = Data.cell _ => dN0)
    obtain ⟨oN, vN, rfl, dN⟩ : ∃ o v, o = _ ∧ Obj.data o = Data.cell v := ⟨_, _, rfl, dN0⟩
    clear dN0
    revert dN
    (rename Obj.data _ = Data.cell _ => dS0)
    obtain ⟨oS, vS, rfl, dS⟩ : ∃ o v, o = _ ∧ Obj.data o = Data.cell v := ⟨_, _, rfl, dS0⟩
    clear dS0
    intro dN
    walk_at "go"
    refine Stop.go ?_
    refine join_listW (ys := cs.map fun c => S [c]) (News.isList N3 (List.Mem.head _)) (by simpa using hcs) (by decide) (by rw [sum_signs, List.length_map]; omega) (fun t4 tk4 => ?_)
    rw [join_signs]
    dsimp only
    walk_at "go"
    refine Stop.go ?_
    refine add_LR rfl oth_eq (by simp [oth]; omega) (fun t5 tk5 => ?_)
    dsimp only
    walk_at "go"
    refine Stop.go ?_
    (rename Fr _ _ _ _ => F5); (rename News _ _ _ _ => N5); (rename _ = Data.cell (some (Value.str (Str.ofString "") _)) => dN5)
    dsimp only [List.cons_append, List.nil_append] at N5
    have N6 := dropHead N5
    rw [emp_eq] at dN5
    clear N5 dN
    refine For_of F5 rfl rfl ?_
    walk_at "go"
    refine Stop.go ?_
    (rename Fr _ _ _ _ => F5); (rename News _ _ _ _ => N6)
    refine loop06 rfl hI1 F5 N6 dS dN5 ?turn2 ?done2
    case turn2 =>
      rintro ⟨nm, on, tn, os, v0⟩ pre post n t u h tk own hns hn hoff ⟨g1, g2⟩ hp F7 N7
      clear dS dN5
      dsimp only [prL] at g1 g2 hp N7
      walk_at "go"
      refine Stop.go ?_
      (rename Fr _ _ _ _ => F8); (rename News _ _ _ _ => N8)
      refine ct_sign (Frag.In.keeps (by with_reducible assumption) F8.keep) (Top.keeps (by with_reducible assumption) F8.keep) (by (simp only [depth_deeper, depth_caller]; decide)) rfl (fun h9 tk9 t9 c9 he9 => ?_)
      have F9 := F8.keeps he9
      have N9 := newsExt N8 he9
      clear F8 N8
      dsimp only
      obtain ⟨ol, hol⟩ : ∃ k, (cs ++ oth).length = k := ⟨_, rfl⟩
      have hol1 : 1 ≤ ol := by rw [← hol, List.length_append]; simp [oth]
      have hol2 : ol < 100 := by rw [← hol, List.length_append]; simp [oth]; omega
      have hnm : nm.length ≤ 126 := by
        have := congrArg List.length hns
        rw [List.length_take, List.length_append, List.length_cons] at this
        omega
      walk_at "go"
      rotate_left
      iterate 3 (next => (refine Stop.go ?_; (rename Fr _ _ _ _ => F10); (rename News _ _ _ _ => N10); (with_reducible rename _ = Data.cell (some (Value.str (S [c9]) _)) => dS10); (first | (with_reducible rename _ = Data.cell (some (Value.str (S (_ ++ _)) _)) => dN10) | (with_reducible rename _ = Data.cell (some (Value.str (S nm) _)) => dN10)); refine endL F10 N10 dS10 dN10 (by (try simp only [List.length_append, List.length_cons, List.length_nil, List.length_flatten, List.map_replicate, List.sum_replicate]); first | omega | (simp; omega)) (fun z hz hst => ?_); obtain ⟨z1, z2, z3⟩ := offL hst; simp only [if_neg hz, if_neg z1, if_neg z2, if_neg z3, hst, Bool.false_eq_true, if_false]))
      refine Stop.go ?_
      have h3 : Int.fmod (Int.fmod (Int.fdiv n 8) 4) 3 = 0 ∨ Int.fmod (Int.fmod (Int.fdiv n 8) 4) 3 = 1 ∨ Int.fmod (Int.fmod (Int.fdiv n 8) 4) 3 = 2 := by
        have := Int.fmod_nonneg_of_pos (Int.fmod (Int.fdiv n 8) 4) (b := 3) (by decide)
        have := Int.fmod_lt_of_pos (Int.fmod (Int.fdiv n 8) 4) (b := 3) (by decide)
        omega
      have hM : Mk3 := trivial
      rcases h3 with h3 | h3 | h3
      all_goals walk_at "go"
      all_goals (refine Stop.go ?_; (rename Fr _ _ _ _ => F10); (rename News _ _ _ _ => N10); (with_reducible rename _ = Data.cell (some (Value.str (S [c9]) _)) => dS10); (first | (with_reducible rename _ = Data.cell (some (Value.str (S (_ ++ _)) _)) => dN10) | (with_reducible rename _ = Data.cell (some (Value.str (S nm) _)) => dN10)); refine endL F10 N10 dS10 dN10 (by (try simp only [List.length_append, List.length_cons, List.length_nil, List.length_flatten, List.map_replicate, List.sum_replicate]); first | omega | (simp; omega)) (fun z hz hst => ?_); obtain ⟨z1, z2, z3⟩ := offL hst; simp only [if_neg hz, if_neg z1, if_neg z2, if_neg z3, hst, Bool.false_eq_true, if_false])
    case done2 =>
      rintro ⟨nm, on, tn, os, v0⟩ u h tk ⟨g1, g2⟩ hp F7 N7
      clear dS dN5
      dsimp only [prL, ledL] at g1 g2 hp N7
      have hnm : nm.length ≤ 126 := by rw [List.length_take] at hp; omega
      dsimp only
      walk_at "go"
      refine Stop.go ?_
      (rename Fr _ _ _ _ => F8); (rename News _ _ _ _ => N8)
      refine ct_tp (x := S cs) (Frag.In.keeps (by with_reducible assumption) F8.keep) (Top.keeps (by with_reducible assumption) F8.keep) (by (simp only [depth_deeper, depth_caller]; decide)) rfl (by rw [S_length]; omega) (fun h9 tk9 t9 he9 => ?_)
      have F9 := F8.keeps he9
      have N9 := newsExt N8 he9
      rw [tpS_S]
      clear F8 N8
      dsimp only
      walk_at "go"
      refine Stop.go ?_
      (rename Fr _ _ _ _ => F10); (rename News _ _ _ _ => N10)
      refine newList_K F10 N10 (fun pl h11 F11 N11 hlt11 => ?_) (by rw [sizeLine_eq]; exact Nat.le_of_ble_eq_true rfl)
      clear F10 N10
      walk_at "go"
      refine Stop.go ?_
      refine ct_ways 1 _ _ _ _ _ _ _ _ _ (patT (cut cs)) [0] _ pl 0 (by with_reducible assumption) (by with_reducible assumption) F11.keep (N11 _ (List.Mem.head _)).1 (N11 _ (List.Mem.head _)).2.2 (by (simp only [depth_deeper, depth_caller]; decide)) rfl (tp_codes cs) (by have := tpL_len cs; omega) (by omega) (.cons _ _ .nil) (pat_run nm cs).2 (fun e => absurd e (by decide)) (fun h12 tk12 l12 vs12 n12 hk12 hl12 hf12 hi12 => ?_)
      obtain ⟨F12, N12⟩ := after_ways F11 N11 (fun p hp => Nat.ne_of_lt (hlt11 p hp)) hk12 hl12 hf12
      rw [(pat_run nm cs).1] at hi12
      have y1 := neNat (off_new N11 hlt11 hf12 _ (List.Mem.tail _ (List.Mem.head _)))
      have y2 := neNat (off_new N11 hlt11 hf12 _ (List.Mem.tail _ (List.Mem.tail _ (List.Mem.head _))))
      dsimp only at y1 y2
      clear F11 N11
      dsimp only
      walk_at "go"
      refine Stop.go ?_
      (rename Fr _ _ _ _ => F13); (rename News _ _ _ _ => N13)
      refine newList_K F13 N13 (fun pp h14 F14 N14 hlt14 => ?_) (by rw [sizeLine_eq]; exact Nat.le_of_ble_eq_true rfl)
      have q1 : @Ne Nat pp l12 := Nat.ne_of_gt (hlt14 _ (List.Mem.head _))
      have q2 := hlt14 _ (List.Mem.tail _ (List.Mem.tail _ (List.Mem.head _)))
      have q3 := hlt14 _ (List.Mem.tail _ (List.Mem.tail _ (List.Mem.tail _ (List.Mem.head _))))
      clear F13 N13 hlt14
      walk_at "go"
      refine Stop.go ?_
      (rename Fr _ _ _ _ => F15); (rename News _ _ _ _ => N15)
      have N16 := pick4 N15
      clear N15
      have hst : (42 ∈ cs ∧ Txt.contains (S cs) (Str.ofString "*") = true) ∨ (42 ∉ cs ∧ Txt.contains (S cs) (Str.ofString "*") = false) := by
        rw [star_eq, contains_S]
        by_cases h : 42 ∈ cs
        · exact .inl ⟨h, decide_eq_true h⟩
        · exact .inr ⟨h, decide_eq_false h⟩
      refine For_text (l := starred cs) (nm := nm) rfl F15 N16 g2 (.cons _ _ .nil) ⟨q1, Nat.ne_of_gt q2, Nat.ne_of_gt q3⟩ ?src ?trn ?dn
      case src =>
        unfold starred
        rcases hst with ⟨h1, h2⟩ | ⟨h1, h2⟩
        · rw [if_pos h1]
          walk_at "go"
          refine Stop.go ?_
          exact ⟨_, rfl, ⟨_, _, rfl, F15, N16⟩⟩
        · rw [if_neg h1]
          walk_at "go"
          refine Stop.go ?_
          refine add_LR star_eq rfl (by simp; omega) (fun t17 tk17 => ?_)
          walk_at "go"
          refine Stop.go ?_
          exact ⟨_, rfl, ⟨_, _, rfl, F15, N16⟩⟩
      case trn =>
        intro i c tc pl pv pn os1 v1 h tk own hc hos hpv hne hoff F17 N17
        clear F15 N16
        obtain ⟨w1, w2, w3⟩ := hne
        by_cases hc42 : c = 42
        · have hce : S [c] = Str.ofString "*" := by rw [star_eq, hc42]
          have hpl := plRun_len nm (List.take i (starred cs))
          have hps := plRun_sorted nm (List.take i (starred cs)) [0] (List.pairwise_singleton _ _)
          have hpz := plRun_le nm (List.take i (starred cs)) [0] (by simp)
          rcases hpp : plRun nm (List.take i (starred cs)) [0] with _ | ⟨p, r⟩
          · rw [hpp] at hpv
            walk_at "go"
            refine Stop.go ?_
            (rename Fr _ _ _ _ => F18); (rename News _ _ _ _ => N18)
            refine newList_K F18 N18 (fun pe h19 F19 N19 hlt19 => ?_) (by rw [sizeLine_eq]; exact Nat.le_of_ble_eq_true rfl)
            clear F18 N18
            walk_at "go"
            refine Stop.go ?_
            refine ne_intsK (us := []) (News.isList N19 (List.Mem.tail _ (List.Mem.head _))) hpv (News.isList N19 (List.Mem.head _)) .nil (by ke_room) ?_
            rw [show (!decide (cast06 [] = ([] : List Int))) = false from rfl]
            walk_at "go"
            refine Stop.go ?_
            (rename Fr _ _ _ _ => F20); (rename News _ _ _ _ => N20)
            refine newList_K F20 N20 (fun pf h21 F21 N21 hlt21 => ?_) (by rw [sizeLine_eq]; exact Nat.le_of_ble_eq_true rfl)
            clear F20 N20
            walk_at "go"
            refine Stop.go ?_
            (rename Fr _ _ _ _ => F22); (rename News _ _ _ _ => N22)
            (with_reducible rename _ = Data.cell (some (Value.str (S [c]) _)) => d18)
            refine end06c (ys := []) F22 (drop2 N22) d18 hc (by rw [hpp, hc42]; exact .nil) hoff (fun q hq => Nat.ne_of_lt (hlt21 q (List.Mem.tail _ hq))) (funext fun y => ?_)
            by_cases hy : y = Str.ofString "places"
            · simp only [if_pos hy]
            · simp only [if_neg hy]
          · rw [hpp] at hpv hpl hps hpz
            walk_at "go"
            refine Stop.go ?_
            (rename Fr _ _ _ _ => F18); (rename News _ _ _ _ => N18)
            refine newList_K F18 N18 (fun pe h19 F19 N19 hlt19 => ?_) (by rw [sizeLine_eq]; exact Nat.le_of_ble_eq_true rfl)
            clear F18 N18
            walk_at "go"
            refine Stop.go ?_
            refine ne_intsK (us := []) (News.isList N19 (List.Mem.tail _ (List.Mem.head _))) hpv (News.isList N19 (List.Mem.head _)) .nil (by ke_room) ?_
            rw [show (!decide (cast06 (p :: r) = ([] : List Int))) = true from rfl]
            walk_at "go"
            refine Stop.go ?_
            (rename Fr _ _ _ _ => F20); (rename News _ _ _ _ => N20)
            refine kso_min F20 N20 (News.isList N20 (List.Mem.tail _ (List.Mem.head _))) hpv (by rw [cast06_len]; exact Nat.succ_pos _) rfl (fun h21 M t21 tk21 F21 N21 hM1 hM2 => ?_)
            have hMp := min_up hps hM1 hM2
            subst hMp
            clear F20 N20
            obtain ⟨nl, hnl⟩ : ∃ k, nm.length = k := ⟨_, rfl⟩
            have hpn : p ≤ nl := by rw [← hnl]; exact hpz p (List.Mem.head _)
            have hnl9 : nl ≤ 126 := by omega
            walk_at "go"
            refine Stop.go ?_
            (rename Fr _ _ _ _ => F22); (rename News _ _ _ _ => N22); (rename IsRange _ _ _ _ _ _ _ _ => R22)
            refine kll_range rfl F22 N22 R22 (small_one (by omega) (by omega) (by omega) (by omega)) (rangeSize_nat _ _) (by omega) (fun D ys c23 h23 tk23 F23 N23 hlt23 hys23 => ?_)
            rw [range06 hpn] at hys23
            clear F22 N22
            walk_at "go"
            refine Stop.go ?_
            (rename Fr _ _ _ _ => F24); (rename News _ _ _ _ => N24)
            (with_reducible rename _ = Data.cell (some (Value.str (S [c]) _)) => d18)
            refine end06c F24 (drop2 N24) d18 hc (by rw [hpp, hc42]; show IntsAre _ (cast06 (goUp nm.length p)); rw [hnl]; exact hys23) hoff (fun q hq => Nat.ne_of_lt (hlt23 q (List.Mem.tail _ hq))) (funext fun y => ?_)
            by_cases hy : y = Str.ofString "places"
            · simp only [if_pos hy]
            · simp only [if_neg hy]
        · have hcs42 : S [c] ≠ Str.ofString "*" := by rw [star_eq, Ne, S_eq_iff]; simpa using hc42
          walk_at "go"
          refine Stop.go ?_
          (rename Fr _ _ _ _ => F18); (rename News _ _ _ _ => N18)
          (with_reducible rename _ = Data.cell (some (Value.str (S [c]) _)) => d18)
          have hpl := plRun_len nm (List.take i (starred cs))
          refine comp1_ints (ns := cast06 (plRun nm (List.take i (starred cs)) [0])) (ax := pl) (vs := pv) (fun k => decide (nm[k.toNat]? = some c)) (fun k => k + 1) rfl F18 N18 rfl hpv (by rw [cast06_len]; omega) (by with_unfolding_all rfl) (by with_unfolding_all rfl) (by decide) rfl (by decide) rfl rfl rfl ?iter ?turn ?fin
          case iter =>
            walk_at "go"
            refine Stop.go ?_
            exact ⟨rfl, ⟨_, _, rfl, F18, N18⟩, .inr ⟨_, List.Mem.head _, rfl, _, rfl⟩⟩
          case turn =>
            clear F18 N18
            intro k tk1 I oI C oC D oD m₂ h tk E' hk hC hx F19 N19 off ne
            obtain ⟨k, hk', rfl⟩ := List.mem_map.mp hk
            walk_at "go"
            refine Stop.go ?_
            refine testIs test06 (fun hb => ?_) (fun hb => ?_)
            · walk_at "go"
              refine Stop.go ?_
              (rename Fr _ _ _ _ => F20); (rename News _ _ _ _ => N20)
              exact ⟨⟨_, rfl⟩, ⟨_, _, rfl, F20, N20⟩⟩
            · (rename Fr _ _ _ _ => F20); (rename News _ _ _ _ => N20)
              exact ⟨_, _, rfl, F20, N20⟩
          case fin =>
            clear F18 N18
            intro D ys h tk hys F19 N19 off19
            rw [cast_step] at hys
            walk_at "go"
            refine Stop.go ?_
            (rename Fr _ _ _ _ => F20); (rename News _ _ _ _ => N20)
            refine end06c F20 N20 d18 hc (by unfold plStep; rw [if_neg hc42]; exact hys) hoff off19 (funext fun y => ?_)
            by_cases hy : y = Str.ofString "places"
            · simp only [if_pos hy]
            · simp only [if_neg hy]
      case dn =>
        intro pl pv pn os1 h tk hpv hne F17 N17
        clear F15 N16
        have hM9 : Mk9 := trivial
        walk_at "go"
        refine Stop.go ?_
        (rename Fr _ _ _ _ => F18); (rename News _ _ _ _ => N18)
        have hpl := plRun_len nm (starred cs)
        have hps := plRun_sorted nm (starred cs) [0] (List.pairwise_singleton _ _)
        refine sorted_down F18 N18 (News.isList N18 (List.Mem.tail _ (List.Mem.head _))) hi12 (down06 hps) (by rw [hi12.length, cast06_len, List.length_reverse]; omega) (fun D vs' ns' c' h19 F19 N19 hlt19 hi19 he19 => ?_)
        rw [rev06] at he19
        subst he19
        clear F18 N18
        walk_at "go"
        refine Stop.go ?_
        refine ne_intsK (News.isList N19 (List.Mem.head _)) hi19 (News.isList N19 (List.Mem.tail _ (List.Mem.head _))) hpv (by ke_room) ?_
        rw [decide_eq_true rfl]
        walk_at "go"
        refine Stop.go ?_
        (rename Fr _ _ _ _ => F20); (rename News _ _ _ _ => N20)
        refine kmk_slice_ints (s := ⟨_, _, _, _, _⟩) F20 N20 (News.isList N20 (List.Mem.tail _ (List.Mem.tail _ (List.Mem.head _)))) .none (.int _ _) hi12 (kmk_upto hi12 (by decide)) rfl (fun D1 ws1 h21 F21 N21 hlt21 hw1 _ _ => ?_) (by with_unfolding_all rfl) (by intro _; with_unfolding_all rfl) (by rw [List.size_toArray, hi12.length, cast06_len, List.length_reverse, sizeLine_eq]; omega)
        clear F20 N20
        walk_at "go"
        refine Stop.go ?_
        (rename Fr _ _ _ _ => F22); (rename News _ _ _ _ => N22)
        refine kmk_slice_ints (s := ⟨_, _, _, _, _⟩) F22 N22 (News.isList N22 (List.Mem.tail _ (List.Mem.tail _ (List.Mem.head _)))) (.int _ _) .none hpv (kmk_from_neg hpv (by decide)) rfl (fun D2 ws2 h23 F23 N23 hlt23 hw2 _ _ => ?_) (by with_unfolding_all rfl) (by intro _; with_unfolding_all rfl) (by rw [List.size_toArray, hpv.length, cast06_len, sizeLine_eq]; omega)
        clear F22 N22
        walk_at "go"
        refine Stop.go ?_
        refine eq_intsK (News.isList N23 (List.Mem.tail _ (List.Mem.head _))) hw1 (News.isList N23 (List.Mem.head _)) hw2 (by ke_room) ?_
        rw [last06]
        walk_at "go"
        k_steps
