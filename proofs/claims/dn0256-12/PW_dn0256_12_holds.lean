import PyProof.Rows.All
import Wide.All
import OpenK.AllK
import Wide.FinOn
import PySem.Challenge.RW_dn0256_12
open PySem PySem.W PyProof.Rows
set_option Elab.async false
set_option maxRecDepth 100000
set_option maxHeartbeats 8000000
section secMBase
namespace Mine
def Ext (h h' : Heap) : Prop := ∀ b o, h.get? b = some o → h'.get? b = some o
theorem Ext.refl {h : Heap} : Ext h h := fun _ _ e => e
theorem Ext.trans {h h' h'' : Heap} (a : Ext h h') (b : Ext h' h'') : Ext h h'' := fun x o e => b x o (a x o e)

theorem slot_translate : Slot "str" "translate" "str.translate" :=
  .of (owner := "str") (n := "translate") (by rw [typeLookup_type, builtinLookup_eq_fast]; kernel_rfl) (by decide +kernel) (by decide +kernel) (by decide +kernel)
    (by first | exact .inl (by decide +kernel) | exact .inr (by decide +kernel)) (by rw [isSubtype_type]; kernel_rfl)
theorem type_translate : typeOf (.builtin "str.translate") = pure (.type "method_descriptor") := by show builtinType _ = _; rw [builtinType_eq_fast]; kernel_rfl
theorem entry_translate : entryFor table "str.translate" = some Builtin.«str.translate» := entryFor_of_tree (by kernel_rfl)
theorem args_translate (a b : Value) : argsOk "str.translate" ⟨[a, b], []⟩ := by
  unfold argsOk; kernel_rfl

theorem gm_translate {M : Model} {A : Around} {E : Value → Shared → Prop} {s : Shared} {x : Str} {t : Tok} {pl : Sem Bool} {Q : Value × List Value → Shared → Prop}
    (h : Q (.builtin "str.translate", [.str x t]) s) : wpAny M A (getMethod (.str x t) "translate" pl) Q E s := by
  with_reducible exact GM.of (.str x t) (typeIs_str _ _ _) slot_translate type_translate GM.noRef h

/-- the signs that have a meaning -/
def specs : List Nat := [40, 41, 91, 93, 123, 125, 63, 42, 43, 45, 124, 94, 36, 92, 46, 38, 126, 35, 32, 9, 10, 13, 11, 12]
def spec (c : Nat) : Bool := specs.contains c

def TabEsc (prog : Program) (w : World) (h : Heap) (d : Addr) : Prop :=
  ∃ f, h.MapOf (intKind prog w) d f ∧ ∀ c : Nat, (spec c = true → ∃ t, f (c : Int) = some (.str ⟨#[92, c]⟩ t)) ∧ (spec c = false → f (c : Int) = none)
theorem TabEsc.ext {prog : Program} {w : World} {h h' : Heap} {d : Addr} (T : TabEsc prog w h d) (e : Ext h h') : TabEsc prog w h' d := by
  obtain ⟨f, ⟨o, es, ep, ho, r⟩, hf⟩ := T
  exact ⟨f, ⟨o, es, ep, e _ _ ho, r⟩, hf⟩

def entOk (e : DictEntry) : Bool := match e.key with | .int i _ => e.hash == hashInt i | _ => false
def escOk (e : DictEntry) : Bool := match e.key, e.val with | .int i _, .str y _ => decide (0 ≤ i) && y == ⟨#[92, i.toNat]⟩ && spec i.toNat | _, _ => false
theorem tabEsc_of {prog : Program} {w : World} {h : Heap} {d : Addr} {es : List DictEntry} {ep : Nat} (ho : h.get? d = some { cls := .type "dict", data := .dict es.toArray ep })
    (h1 : es.all entOk = true) (h2 : es.all escOk = true) (h3 : specs.all (fun c => es.any (fun e => Value.isInt (c : Int) e.key)) = true) : TabEsc prog w h d := by
  refine ⟨fun k => findBy (intKind prog w).is es.toArray k, ⟨_, _, _, ho, ⟨rfl, rfl, rfl⟩, rfl, ?_, fun k => rfl⟩, fun c => ⟨fun hc => ?_, fun hc => ?_⟩⟩
  · intro e he
    have := List.all_eq_true.mp h1 e (by simpa using he)
    unfold entOk at this
    split at this
    · rename_i i t hk
      exact ⟨i, by rw [hk]; exact intKind_is _ _ _ _, beq_iff_eq.mp this⟩
    · cases this
  · have hm : c ∈ specs := by simpa [spec] using hc
    have ha := List.all_eq_true.mp h3 c hm
    show ∃ t, findBy (intKind prog w).is es.toArray (c : Int) = _
    unfold findBy
    rw [← Array.find?_toList]
    cases hf : es.toArray.toList.find? (fun e => (intKind prog w).is (c : Int) e.key) with
    | none =>
      obtain ⟨e, he, hk⟩ := List.any_eq_true.mp ha
      have := List.find?_eq_none.mp hf e (by simpa using he)
      exact absurd hk this
    | some e =>
      have hk := List.find?_some hf
      have he : e ∈ es := by simpa using List.mem_of_find?_eq_some hf
      have h2' := List.all_eq_true.mp h2 e he
      obtain ⟨hash, key, val⟩ := e
      cases key with
      | int i t =>
        cases val with
        | str y tv =>
          simp only [escOk, Bool.and_eq_true, decide_eq_true_eq, beq_iff_eq] at h2'
          have hi : i = (c : Int) := by simpa [intKind, Value.isInt] using hk
          subst hi
          obtain ⟨⟨_, hy⟩, _⟩ := h2'
          exact ⟨tv, by rw [hy]; simp⟩
        | _ => cases h2'
      | _ => cases hk
  · show findBy (intKind prog w).is es.toArray (c : Int) = none
    unfold findBy
    rw [← Array.find?_toList]
    cases hf : es.toArray.toList.find? (fun e => (intKind prog w).is (c : Int) e.key) with
    | none => rfl
    | some e =>
      exfalso
      have hk := List.find?_some hf
      have he : e ∈ es := by simpa using List.mem_of_find?_eq_some hf
      have h2' := List.all_eq_true.mp h2 e he
      obtain ⟨hash, key, val⟩ := e
      cases key with
      | int i t =>
        cases val with
        | str y tv =>
          simp only [escOk, Bool.and_eq_true, decide_eq_true_eq, beq_iff_eq] at h2'
          have hi : i = (c : Int) := by simpa [intKind, Value.isInt] using hk
          subst hi
          have := h2'.2
          simp [hc] at this
        | _ => cases h2'
      | _ => cases hk

open Builtin Builtin.Str in
theorem lookup_esc {prog : Program} {w : World} {A : Around} {E : Value → Shared → Prop} {s : Shared} {d : Addr} {c : Nat} {Q : Mapped → Shared → Prop}
    (hh : A.handled = none) (hd : (d == sysModules) = false) (T : TabEsc prog w s.heap d)
    (hQ : ∀ h' tk, Ext s.heap h' → Q (if spec c = true then .text ⟨#[92, c]⟩ else .keep) { s with heap := h', toks := tk }) :
    wpAny (model prog w) A (tableLookup (.ref d) c) Q E s := by
  obtain ⟨f, hm, hf⟩ := T
  unfold tableLookup
  refine wpAny_bind (wpAny_attempt (wpAny_bind (wpAny_mkInt ?_)))
  cases hc : spec c with
  | true =>
    obtain ⟨t, ht⟩ := (hf c).1 hc
    refine wpAny_getItem_of (intKind_is _ _ _ _) hm ht ?_
    rw [hc] at hQ
    refine wpAny_bind (m := asInt? _) (wpAny_pure ?_)
    refine wpAny_bind (m := asStr? _) (wpAny_pure ?_)
    exact wpAny_pure (hQ _ _ Ext.refl)
  | false =>
    have ht := (hf c).2 hc
    refine wpAny_getItem_missing_of (intKind_is _ _ _ _) hd hh hm ht ?_
    intro h' e hx
    obtain ⟨ob, t, h1, h2, h3⟩ := hx.there
    rw [hc] at hQ
    refine wpAny_bind (wpAny_isInstance (T := "KeyError") (b := true) ⟨ob, h1, h2⟩ (by rw [isSubtype_type]; kernel_rfl) ?_)
    exact wpAny_bind (wpAny_rule (wpAny_pure (hQ _ _ hx.keeps)))

/-- a text with its signs that have a meaning masked -/
def escL (l : List Nat) : List Nat := l.flatMap fun c => if spec c = true then [92, c] else [c]
theorem escL_append (a b : List Nat) : escL (a ++ b) = escL a ++ escL b := by simp [escL]
theorem escL_length (l : List Nat) : (escL l).length ≤ 2 * l.length := by
  induction l with
  | nil => simp [escL]
  | cons c r ih =>
    have : escL (c :: r) = (if spec c = true then [92, c] else [c]) ++ escL r := rfl
    rw [this, List.length_append, List.length_cons]
    split <;> simp <;> omega
def esc (x : Str) : Str := ⟨(escL x.cps.toList).toArray⟩

theorem foldl_cps (l : List Str) : ∀ a : Array Nat, (l.foldl (fun acc p => acc ++ p.cps) a) = (a.toList ++ (l.map (·.cps.toList)).flatten).toArray := by
  induction l with
  | nil => intro a; simp
  | cons p r ih => intro a; rw [List.foldl_cons, ih]; simp

theorem mem_lookup {α β : Type} [BEq α] [LawfulBEq α] {c : α} {a : β} : ∀ {l : List (α × β)}, l.lookup c = some a → (c, a) ∈ l
  | [], h => by cases h
  | (k, v) :: r, h => by
    rw [List.lookup_cons] at h
    split at h
    · rename_i e; cases h; rw [eq_of_beq e]; exact List.mem_cons_self
    · exact List.mem_cons_of_mem _ (mem_lookup h)

theorem escL_one (c : Nat) : escL [c] = if spec c = true then [92, c] else [c] := by simp [escL]

open Builtin Builtin.Str in
theorem call_translate {prog : Program} {w : World} {A : Around} {E : Value → Shared → Prop} {s : Shared} {d : Addr} {x : Str} {t : Tok} {Q : Value → Shared → Prop}
    (hh : A.handled = none) (hd : (d == sysModules) = false) (T : TabEsc prog w s.heap d) (hx : x.length ≤ 100000)
    (hQ : ∀ h' tk tk', Ext s.heap h' → Q (.str (esc x) tk') { s with heap := h', toks := tk }) :
    wpAny (model prog w) A (call (.builtin "str.translate") [.str x t, .ref d]) Q E s := by
  refine wpAny_call_entry slot_translate (typeIs_str _ _ _) entry_translate ?_ (args_translate _ _)
  unfold Builtin.«str.translate»
  refine wpAny_bind (m := strOneArg _ _) (wpAny_pure ?_)
  dsimp only
  have hlen : x.cps.toList.length = x.length := by simp [Str.length]
  refine wpAny_ite_split (fun h0 => ?_) (fun h0 => ?_)
  · refine wpAny_bind (wpAny_rule ?_)
    refine wpAny_bind (m := strUnchanged _ _) (wpAny_pure ?_)
    have e : x.cps.toList = [] := List.length_eq_zero_iff.mp (by rw [hlen]; simpa using h0)
    have : esc x = x := by
      unfold esc; rw [e]; cases x with | mk cps => simp at e; subst e; rfl
    rw [this] at hQ
    exact wpAny_pure ⟨_, rfl, hQ _ _ _ Ext.refl⟩
  refine wpAny_bind (wpAny_forIn_array' _ (fun rest (b : List Str × Nat × Bool × List (Nat × Option Nat) × Bool) s' =>
    ∃ h' tk pre, s' = { s with heap := h', toks := tk } ∧ Ext s.heap h' ∧ x.cps.toList = pre ++ rest ∧ (b.1.reverse.map (·.cps.toList)).flatten = escL pre ∧ b.2.1 = (escL pre).length ∧ b.2.2.2.2 = false ∧
      ∀ c a, (c, a) ∈ b.2.2.2.1 → a = some c ∧ spec c = false) _ ?_ ?_ _ _ ⟨s.heap, s.toks, [], rfl, Ext.refl, rfl, rfl, rfl, rfl, fun _ _ h => nomatch h⟩)
  · rintro c rest ⟨pieces, total, fast, known, afterDrop⟩ s' ⟨h', tk, pre, rfl, he, hpre, hp, ht, ha, hk⟩
    dsimp only at hp ht ha hk ⊢
    subst ha
    have hlp := escL_length pre
    have hl2 : pre.length ≤ 100000 := by
      have := congrArg List.length hpre
      rw [List.length_append] at this; omega
    have T' : TabEsc prog w h' d := T.ext he
    have htot : tooLong total = false := by
      unfold tooLong; rw [sizeLine_eq, ht]; exact decide_eq_false (by omega)
    rw [htot]
    have keepIt : ∀ (known' : List (Nat × Option Nat)) (fast' : Bool) (h'' : Heap) (tk' : Nat), Ext s.heap h'' → spec c = false → (∀ c a, (c, a) ∈ known' → a = some c ∧ spec c = false) →
        ∃ h₁ tk₁ pre₁, ({ s with heap := h'', toks := tk' } : Shared) = { s with heap := h₁, toks := tk₁ } ∧ Ext s.heap h₁ ∧ x.cps.toList = pre₁ ++ rest ∧ (((⟨#[c]⟩ : Str) :: pieces).reverse.map (·.cps.toList)).flatten = escL pre₁ ∧ total + 1 = (escL pre₁).length ∧ false = false ∧
          ∀ c a, (c, a) ∈ known' → a = some c ∧ spec c = false := by
      intro known' fast' h'' tk' he' hs hk'
      refine ⟨h'', tk', pre ++ [c], rfl, he', by rw [hpre]; simp, ?_, ?_, rfl, hk'⟩
      · rw [escL_append, ← hp, escL_one, hs]; simp
      · rw [escL_append, escL_one, hs, ht]; simp
    have slow : ∀ (known' : List (Nat × Option Nat)) (fast' : Bool) (h'' : Heap) (tk' : Nat), Ext s.heap h'' → (∀ c a, (c, a) ∈ known' → a = some c ∧ spec c = false) →
        wpAny (model prog w) A.in1 (do
          let __do_lift ← tableLookup (.ref d) c
          match __do_lift with
            | Mapped.keep => pure (ForInStep.yield ((⟨#[c]⟩ : Str) :: pieces, total + 1, fast', known', false))
            | Mapped.drop => pure (ForInStep.yield (pieces, total, fast', known', true))
            | Mapped.char d => pure (ForInStep.yield ((⟨#[d]⟩ : Str) :: pieces, total + 1, fast', known', false))
            | Mapped.text t => pure (ForInStep.yield (t :: pieces, total + t.length, fast', known', false)))
          (fun r s' => match r with
            | ForInStep.yield b => ∃ h' tk pre, s' = { s with heap := h', toks := tk } ∧ Ext s.heap h' ∧ x.cps.toList = pre ++ rest ∧ (b.1.reverse.map (·.cps.toList)).flatten = escL pre ∧ b.2.1 = (escL pre).length ∧ b.2.2.2.2 = false ∧
               ∀ c a, (c, a) ∈ b.2.2.2.1 → a = some c ∧ spec c = false
            | ForInStep.done b => False) E { s with heap := h'', toks := tk' } := by
      intro known' fast' h'' tk' he' hk'
      refine wpAny_bind (lookup_esc (A := A.in1) hh hd (T.ext he') fun h₂ tk₂ he₂ => ?_)
      cases hs : spec c with
      | false =>
        simp only [Bool.false_eq_true, if_false]
        exact wpAny_pure (keepIt known' fast' h₂ tk₂ (he'.trans he₂) hs hk')
      | true =>
        simp only [if_true]
        refine wpAny_pure ⟨h₂, tk₂, pre ++ [c], rfl, he'.trans he₂, by rw [hpre]; simp, ?_, ?_, rfl, hk'⟩
        · show ((((⟨#[92, c]⟩ : Str) :: pieces).reverse.map (·.cps.toList)).flatten) = _
          rw [escL_append, ← hp, escL_one, hs]; simp
        · rw [escL_append, escL_one, hs, ht]; simp [Str.length]
    simp only [Bool.false_eq_true, if_false]
    cases fast with
    | false =>
      simp only [Bool.false_eq_true, if_false]
      refine wpAny_mono (slow known false h' tk he hk) (fun r s₂ hr => ?_) (fun _ _ e => e)
      cases r with
      | yield b => exact hr
      | done b => exact hr.elim
    | true =>
      simp only [if_true]
      cases hl : List.lookup c known with
      | some a =>
        obtain ⟨rfl, hs⟩ := hk c a (mem_lookup hl)
        dsimp only
        exact wpAny_bind (wpAny_pure (wpAny_pure (keepIt known true h' tk he hs hk)))
      | none =>
        dsimp only
        refine wpAny_bind (lookup_esc (A := A.in1) hh hd T' fun h₂ tk₂ he₂ => ?_)
        cases hs : spec c with
        | false =>
          simp only [Bool.false_eq_true, if_false]
          refine wpAny_bind (wpAny_pure (wpAny_pure (keepIt _ true h₂ tk₂ (he.trans he₂) hs ?_)))
          intro c' a' hm
          rcases List.mem_cons.mp hm with e | hm
          · cases e; exact ⟨rfl, hs⟩
          · exact hk c' a' hm
        | true =>
          simp only [if_true]
          refine wpAny_bind (wpAny_pure ?_)
          refine wpAny_bind (wpAny_rule ?_)
          refine wpAny_mono (slow known false h₂ tk₂ (he.trans he₂) hk) (fun r s₂ hr => ?_) (fun _ _ e => e)
          cases r with
          | yield b => exact hr
          | done b => exact hr.elim
  · rintro ⟨pieces, total, fast, known, afterDrop⟩ s' ⟨h', tk, pre, rfl, he, hpre, hp, ht, ha, hk⟩
    dsimp only at hp ht ha hk ⊢
    have hlp := escL_length pre
    rw [List.append_nil] at hpre
    have htot : tooLong total = false := by
      unfold tooLong; rw [sizeLine_eq, ht, ← hpre, hlen] at *; exact decide_eq_false (by omega)
    rw [htot]
    simp only [Bool.false_eq_true, if_false]
    rw [foldl_cps]
    have e : ((#[] : Array Nat).toList ++ (pieces.reverse.map (·.cps.toList)).flatten).toArray = (esc x).cps := by
      rw [hp, ← hpre]; simp [esc]
    rw [e]
    refine wpAny_bind (wpAny_mkStr (x := esc x) (wpAny_pure ⟨_, rfl, hQ _ _ _ he⟩) ?_)
    show (esc x).cps.size ≤ _
    rw [sizeLine_eq]; simp only [esc, List.size_toArray]; rw [← hpre] at hlp; omega
end Mine
end secMBase
section secMMap
namespace Mine
section mapfacts
theorem slot_map_init : Slot "map" "__init__" "object.__init__" :=
  .of (owner := "object") (n := "__init__") (by rw [typeLookup_type, builtinLookup_eq_fast]; kernel_rfl) (by decide +kernel) (by decide +kernel) (by decide +kernel)
    (by first | exact .inl (by decide +kernel) | exact .inr (by decide +kernel)) (by rw [isSubtype_type]; kernel_rfl)
theorem slot_map_iter : Slot "map" "__iter__" "map.__iter__" :=
  .of (owner := "map") (n := "__iter__") (by rw [typeLookup_type, builtinLookup_eq_fast]; kernel_rfl) (by decide +kernel) (by decide +kernel) (by decide +kernel)
    (by first | exact .inl (by decide +kernel) | exact .inr (by decide +kernel)) (by rw [isSubtype_type]; kernel_rfl)
theorem slot_map_next : Slot "map" "__next__" "map.__next__" :=
  .of (owner := "map") (n := "__next__") (by rw [typeLookup_type, builtinLookup_eq_fast]; kernel_rfl) (by decide +kernel) (by decide +kernel) (by decide +kernel)
    (by first | exact .inl (by decide +kernel) | exact .inr (by decide +kernel)) (by rw [isSubtype_type]; kernel_rfl)
theorem entry_map_next : entryFor table "map.__next__" = some Builtin.«map.__next__» := entryFor_of_tree (by kernel_rfl)
theorem entry_map_new : entryFor table "map.__new__" = some Builtin.«map.__new__» := entryFor_of_tree (by kernel_rfl)
theorem entry_map_iter : entryFor table "map.__iter__" = some Builtin.«dict_keyiterator.__iter__» :=
  entryFor_alias (id' := "dict_keyiterator.__iter__") (by kernel_rfl) (by first | rfl | decide +kernel | (unfold String.splitOn; simp +decide [String.splitOnAux])) (by decide +kernel) (by kernel_rfl)
theorem args_map_next (a : Value) : argsOk "map.__next__" ⟨[a], []⟩ := by unfold argsOk; kernel_rfl
theorem args_map_iter (a : Value) : argsOk "map.__iter__" ⟨[a], []⟩ := by unfold argsOk; kernel_rfl
theorem mro_map : mroOf (.type "map") = pure [.type "map", .type "object"] := by rw [mroOf_type]; kernel_rfl
theorem lookup_map_new : typeLookup (.type "map") "__new__" = pure (some (.builtin "map.__new__")) := by rw [typeLookup_type, builtinLookup_eq_fast]; kernel_rfl
theorem called_map : TypeCalled "map" "map.__new__" "object.__init__" :=
  ⟨by decide +kernel, by decide +kernel, ⟨_, _, mro_map⟩, madeBy_type mro_map lookup_map_new (by decide +kernel), by decide +kernel, by rw [isSubtype_type]; kernel_rfl, slot_map_init⟩
theorem typeCall_map_2 (a b : Value) : checkTypeCall "map" ⟨[a, b], []⟩ = pure () := by kernel_rfl
theorem newCall_map_2 (a b : Value) : checkBuiltinCall "map.__new__" ⟨[.type "map", a, b], []⟩ = pure () := by kernel_rfl
theorem sub_map : isSubtype (.type "map") (.type "map") = pure true := by rw [isSubtype_type]; kernel_rfl
theorem map_no_len : typeLookup (.type "map") "__len__" = pure none := by rw [typeLookup_type, builtinLookup_eq_fast]; kernel_rfl
theorem map_no_hint : typeLookup (.type "map") "__length_hint__" = pure none := by rw [typeLookup_type, builtinLookup_eq_fast]; kernel_rfl
end mapfacts

abbrev mapObj (TI : Addr) (f : Value) : Obj := { cls := .type "map", data := .fields #[.ref TI, f] }
abbrev tup1 (a : Value) : Obj := { cls := .type "tuple", data := .seq #[a] }

theorem meets_map_new (f : Value) (l : Addr) (items : Array Value) (n : Nat) (dct : Option Addr) (sl : Array (Option Value)) :
    Meets (Builtin.«map.__new__» ⟨[.type "map", f, .ref l], []⟩) (fun _ R s => s.heap.get? l = some { cls := .type "list", dict := dct, data := .seq items n, slots := sl } ∧
      R (.ok (.ret (.ref ((s.heap.push { cls := .type "list_iterator", data := .fields #[.ref l, .int 0 0] }).push (tup1 (.ref s.heap.objs.size))).objs.size)))
        { s with heap := ((s.heap.push { cls := .type "list_iterator", data := .fields #[.ref l, .int 0 0] }).push (tup1 (.ref s.heap.objs.size))).push (mapObj (s.heap.push { cls := .type "list_iterator", data := .fields #[.ref l, .int 0 0] }).objs.size f) }) :=
  .of_wp fun prog w A R s h => by
    obtain ⟨hp, g, d, tk, os⟩ := s; obtain ⟨hl, h⟩ := h
    have hsub := sub_map
    have hL : Heap.IsList (Shared.heap ⟨hp, g, d, tk, os⟩) l items := ⟨_, hl, rfl, n, rfl⟩
    unfold Builtin.«map.__new__»
    refine wpAny_bind ?_
    wp_walk using wpAny_pyIter_list hL
    exact ⟨_, rfl, h⟩
end Mine
end secMMap
section secMMap2
namespace Mine
theorem call_map {prog : Program} {w : World} {A : Around} {E : Value → Shared → Prop} {s : Shared} {f : Value} {l : Addr} {items : Array Value} {Q : Value → Shared → Prop} (hL : s.heap.IsList l items)
    (h : ∀ h', h'.get? (s.heap.objs.size + 2) = some (mapObj (s.heap.objs.size + 1) f) → h'.get? (s.heap.objs.size + 1) = some (tup1 (.ref s.heap.objs.size)) → h'.IsListIter s.heap.objs.size l 0 → h'.objs.size = s.heap.objs.size + 3 →
      Ext s.heap h' → Q (.ref (s.heap.objs.size + 2)) { s with heap := h' }) :
    wpAny (model prog w) A (call (.type "map") [f, .ref l]) Q E s := by
  obtain ⟨⟨c, dct, dt, sl⟩, hl, hc, n, hd⟩ := hL
  replace hc : c = .type "list" := hc
  replace hd : dt = .seq items n := hd
  subst hc hd
  refine callType_new called_map (by decide) (typeCall_map_2 _ _) (newCall_map_2 _ _) (fun obj => F.args_object_init_3 obj _ _) entry_map_new
    (meets_map_new f l items n dct sl) ⟨hl, ?_⟩
  have hz : (s.heap.push { cls := .type "list_iterator", data := .fields #[.ref l, .int 0 0] }).objs.size = s.heap.objs.size + 1 := Heap.size_push ..
  have hz2 : ((s.heap.push { cls := .type "list_iterator", data := .fields #[.ref l, .int 0 0] }).push (tup1 (.ref s.heap.objs.size))).objs.size = s.heap.objs.size + 2 := by rw [Heap.size_push, hz]
  show _ ∧ _
  rw [hz2, hz]
  have h1 := Heap.get?_push_size ((s.heap.push { cls := .type "list_iterator", data := .fields #[.ref l, .int 0 0] }).push (tup1 (.ref s.heap.objs.size))) (o := mapObj (s.heap.objs.size + 1) f) rfl
  rw [hz2] at h1
  have h2 := Heap.get?_push_of_some (mapObj (s.heap.objs.size + 1) f) (Heap.get?_push_size (s.heap.push { cls := .type "list_iterator", data := .fields #[.ref l, .int 0 0] }) (o := tup1 (.ref s.heap.objs.size)) rfl)
  rw [hz] at h2
  refine ⟨⟨_, h1, rfl⟩, h _ h1 h2 ⟨_, Heap.get?_push_of_some _ (Heap.get?_push_of_some _ (Heap.get?_push_size _ rfl)), rfl, rfl⟩ (by rw [Heap.size_push, hz2]) fun b o e => Heap.get?_push_of_some _ (Heap.get?_push_of_some _ (Heap.get?_push_of_some _ e))⟩

/-- what the walk of a map keeps of the heap at its start -/
abbrev OffIt (it : Addr) (h₀ h : Heap) : Prop := ∀ b o, b ≠ it → h₀.get? b = some o → h.get? b = some o

theorem walks_map {prog : Program} {w : World} {A : Around} (hh : A.handled = none) {h₀ : Heap} {I TI it l : Addr} {f : Value} {items : Array Value} {P : Nat → Value → Prop}
    (hI : h₀.get? I = some (mapObj TI f)) (hTI : h₀.get? TI = some (tup1 (.ref it))) (hl : h₀.IsList l items) (hit : it < h₀.objs.size) (n1 : I ≠ it) (n2 : TI ≠ it) (n3 : l ≠ it)
    (hf : ∀ i x (s : Shared) (Q E : Value → Shared → Prop), items[i]? = some x → OffIt it h₀ s.heap → (∀ v h' tk, P i v → Ext s.heap h' → Q v { s with heap := h', toks := tk }) → wpAny (model prog w) A.in1 (call f [x]) Q E s) :
    Walks prog w A I (List.range h₀.objs.size) [it] items.size P (fun i h => OffIt it h₀ h ∧ h.IsListIter it l i) where
  sub := fun b hb => by rw [List.mem_singleton.mp hb]; exact List.mem_range.mpr hit
  frame := fun i h h' st hk => ⟨fun b o hb e => hk b (List.mem_range.mpr (Heap.lt_size e)) o (st.1 b o hb e), st.2.at fun o e => hk it (List.mem_range.mpr hit) o e⟩
  item := fun i s Q E hi st hQ => by
    have hIs := st.1 I _ n1 hI
    have hTIs := st.1 TI _ n2 hTI
    have hls : s.heap.IsList l items := hl.at fun o e => st.1 l o n3 e
    have hT : s.TypeIs (.ref I) "map" := ⟨_, hIs, rfl⟩
    unfold pyNext
    refine wpAny_bind (wpAny_attempt (wpAny_callSpecial?_slot (name := Str.ofString "__next__") hT slot_map_next
      (wpAny_call_entry slot_map_next hT entry_map_next ?_ (args_map_next _))))
    show wpAny _ _ (field (.ref I) 0 >>= _) _ _ _
    refine wpAny_bind (wpAny_field hIs rfl (x := .ref TI) rfl ?_)
    refine wpAny_bind (wpAny_seqItems hTIs rfl ?_)
    have hx : items[i]? = some items[i] := by simp [hi]
    dsimp only
    rw [← Array.forIn_toList]
    simp only [List.forIn_cons, List.forIn_nil]
    refine wpAny_bind (wpAny_bind (wpAny_bind (wpAny_holding (wpAny_nextOf_list_item st.2 hls hx fun h₁ hit₁ hs₁ => ?_))))
    refine wpAny_pure (wpAny_pure ?_)
    have hIs₁ := hs₁.extBut I _ n1 hIs
    refine wpAny_bind (wpAny_field hIs₁ rfl (x := f) rfl ?_)
    refine wpAny_bind (wpAny_holding ?_)
    have ho₁ : OffIt it h₀ h₁ := fun b o hb e => hs₁.extBut b o hb (st.1 b o hb e)
    refine hf i _ _ _ _ hx ho₁ fun v h₂ tk hP he => ?_
    refine wpAny_bind (wpAny_letGo (wpAny_pure ⟨_, rfl, wpAny_pure (hQ v h₂ tk hP ⟨fun b o hb e => he b o (ho₁ b o hb e), hit₁.at fun o e => he it o e⟩ fun b o hb e => he b o (hs₁.extBut b o (fun e' => hb (List.mem_singleton.mpr e')) e))⟩))
  done := fun s Q E st hQ => by
    have hIs := st.1 I _ n1 hI
    have hTIs := st.1 TI _ n2 hTI
    have hls : s.heap.IsList l items := hl.at fun o e => st.1 l o n3 e
    have hT : s.TypeIs (.ref I) "map" := ⟨_, hIs, rfl⟩
    unfold pyNext
    refine wpAny_bind (wpAny_attempt (wpAny_callSpecial?_slot (name := Str.ofString "__next__") hT slot_map_next
      (wpAny_call_entry slot_map_next hT entry_map_next ?_ (args_map_next _))))
    show wpAny _ _ (field (.ref I) 0 >>= _) _ _ _
    refine wpAny_bind (wpAny_field hIs rfl (x := .ref TI) rfl ?_)
    refine wpAny_bind (wpAny_seqItems hTIs rfl ?_)
    dsimp only
    rw [← Array.forIn_toList]
    simp only [List.forIn_cons, List.forIn_nil]
    refine wpAny_bind (wpAny_bind (wpAny_bind (wpAny_holding (wpAny_nextOf_list_end (A := A.in1) hh st.2 hls (by simp) fun h₁ e he hx => ?_))))
    obtain ⟨o, ho, hc⟩ := hx
    refine wpAny_bind (wpAny_isInstance (T := "StopIteration") (b := true) ⟨o, ho, hc⟩ isSubtype_stop ?_)
    exact wpAny_pure (hQ h₁ s.toks fun b o hb e => he b o (fun e' => hb (List.mem_singleton.mpr e')) e)
  self := fun i s Q E st hQ => by
    have hIs := st.1 I _ n1 hI
    have hT : s.TypeIs (.ref I) "map" := ⟨_, hIs, rfl⟩
    refine wpAny_pyIter_slot hT slot_map_iter (wpAny_call_entry slot_map_iter hT entry_map_iter ?_ (args_map_iter _))
    show wpAny _ _ (ret (.ref I)) _ _ s
    exact wpAny_pure ⟨_, rfl, "map", _, hT, slot_map_next.lookup, hQ⟩
end Mine
end secMMap2
section secMList
namespace Mine
section
variable {prog : Program} {w : World} {A : Around} {E : Value → Shared → Prop} {s : Shared} {I : Addr} {fp wr : List Addr} {n : Nat} {P : Nat → Value → Prop} {St : Nat → Heap → Prop}

theorem extend_walk {T : String} {R : Result → Shared → Prop} (W : Walks prog w A.in1 I fp wr n P St) (hT : ∀ s : Shared, St 0 s.heap → s.TypeIs (.ref I) T)
    (h2 : (Value.type T == Value.type "list") = false) (h3 : (Value.type T == Value.type "tuple") = false)
    (hlen : typeLookup (.type T) "__len__" = pure none) (hhint : typeLookup (.type T) "__length_hint__" = pure none)
    (hst : St 0 s.heap) (hn : n ≤ sizeLine) (S : Addr) (hSf : S ∉ fp) (hIf : I ∈ fp) (res : Value) (c₀ : Nat) (hS : s.heap.get? S = some { cls := .type "list", data := .seq #[] c₀ })
    (hR : ∀ h' tk acc' c', (∀ b o, b ≠ S → b ∉ wr → s.heap.get? b = some o → h'.get? b = some o) → h'.get? S = some { cls := .type "list", dict := none, data := .seq acc' c', slots := #[] } →
      ItemsOf P acc' n → R (.ok (.ret res)) { s with heap := h', toks := tk }) :
    wpAny (model prog w) A.in1 (Builtin.List.listExtendWith (.ref S) (.ref I) res)
      (fun fin s' => match fin with | .done f => R (.ok f) s' | .again c' => c'.quiet = true ∧ codeAny (model prog w) A c' R s') (fun e s' => R (.error e) s') s := by
  have hSI : S ≠ I := fun e => hSf (e ▸ hIf)
  unfold Builtin.List.listExtendWith
  refine wpAny_bind (wpAny_typeOf (hT s hst) ?_)
  have h1 : Builtin.List.listSameRef (.ref S) (.ref I) = false := by simp [Builtin.List.listSameRef, hSI]
  simp only [h1, h2, h3, Bool.or_false, Bool.false_eq_true, if_false]
  refine wpAny_bind (W.self 0 _ _ _ hst ?_)
  refine wpAny_bind (wpAny_holding ?_)
  unfold Builtin.List.listLengthHint
  refine wpAny_bind (wpAny_specialOf (hT s hst) hlen ?_)
  show wpAny _ A.in1 (specialOf (Value.ref I) (Str.ofString "__length_hint__") >>= _) _ _ _
  refine wpAny_bind (wpAny_specialOf (hT s hst) hhint ?_)
  refine wpAny_pure ?_
  show wpAny _ A.in1 (rule "list.extend.makes-room" >>= fun _ => Builtin.List.listTouch (.ref S) >>= fun _ =>
    again (.builtin "list.extend.loop" ⟨[.ref S, .ref I, res], []⟩)) _ _ _
  refine wpAny_bind (wpAny_rule ?_)
  refine wpAny_bind ?_
  show wpAny _ A.in1 (updateSeq S (·.push .none) >>= fun _ => updateSeq S (·.pop)) _ _ _
  refine wpAny_bind (wpAny_updateSeq hS rfl ?_)
  have hS₂ := Heap.get?_update_self (Obj.mapSeq (·.push Value.none)) hS rfl
  refine wpAny_updateSeq (hz := by seq_fits) hS₂ rfl ?_
  have hS₃ := Heap.get?_update_self (Obj.mapSeq (·.pop)) hS₂ rfl
  have oth : ∀ b o, b ≠ S → s.heap.get? b = some o → ((s.heap.update S (Obj.mapSeq (·.push Value.none))).update S (Obj.mapSeq (·.pop))).get? b = some o :=
    fun b o hb e => (Heap.get?_update_other _ _ (Ne.symm hb)).trans ((Heap.get?_update_other _ _ (Ne.symm hb)).trans e)
  refine wpAny_pure ⟨plainId_quiet F.plain_extend_loop _, codeAny_extend_loopS W.toS hn _ hSf _ n 0 _ _ _ rfl (Nat.zero_le _)
    (W.frame 0 s.heap _ hst fun b hb o e => oth b o (fun h => hSf (h ▸ hb)) e) hS₃ (ItemsOf.nil P) fun s' acc' c' hm hS' hacc => ?_⟩
  rw [Moved.eq_with hm]
  refine hR s'.heap s'.toks acc' c' (fun b o hb hw e => hm.heap b o (fun hmem => ?_) (oth b o hb e)) hS' hacc
  rcases List.mem_cons.mp hmem with e' | hmem
  · exact hb e'
  · exact hw hmem

theorem call_list_walk {T : String} {Q : Value → Shared → Prop} (W : Walks prog w A.in1.in1 I fp wr n P St) (hT : ∀ s : Shared, St 0 s.heap → s.TypeIs (.ref I) T)
    (h2 : (Value.type T == Value.type "list") = false) (h3 : (Value.type T == Value.type "tuple") = false)
    (hlen : typeLookup (.type T) "__len__" = pure none) (hhint : typeLookup (.type T) "__length_hint__" = pure none)
    (hst : St 0 s.heap) (hn : n ≤ sizeLine) (hIf : I ∈ fp) (hfp : ∀ b ∈ fp, b < s.heap.objs.size)
    (hQ : ∀ h' tk acc' c', (∀ b o, b ∉ wr → s.heap.get? b = some o → h'.get? b = some o) →
      h'.get? s.heap.objs.size = some { cls := .type "list", dict := none, data := .seq acc' c', slots := #[] } → ItemsOf P acc' n → Q (.ref s.heap.objs.size) { s with heap := h', toks := tk }) :
    wpAny (model prog w) A (call (.type "list") [.ref I]) Q E s := by
  refine callType_codes (Q₁ := fun obj s₁ => obj = .ref s.heap.objs.size ∧ s₁ = { s with heap := s.heap.push { cls := .type "list", data := .seq #[] } }) F.called_list (F.typeCall_list_1 _) F.entry_list_init
    (code_list_new _ ⟨rfl, rfl⟩) fun obj s₁ h₁ => ?_
  obtain ⟨rfl, rfl⟩ := h₁
  have hS : (s.heap.push { cls := .type "list", data := .seq #[] }).get? s.heap.objs.size = some { cls := .type "list", data := .seq #[] } := Heap.get?_push_size _ rfl
  have hSf : s.heap.objs.size ∉ fp := fun hm => Nat.lt_irrefl _ (hfp _ hm)
  refine ⟨⟨_, hS, rfl⟩, F.args_list_init_2 _ _, ?_⟩
  show wpAny _ _ (do let old ← Builtin.List.listItems (.ref s.heap.objs.size); Builtin.List.listUpdate (.ref s.heap.objs.size) (fun _ => #[]); letGo old.toList.reverse; Builtin.List.listExtendWith (.ref s.heap.objs.size) (.ref I) .none) _ _ _
  refine wpAny_bind ?_
  unfold Builtin.List.listItems
  refine wpAny_bind (wpAny_seqItems hS rfl (wpAny_pure ?_))
  show wpAny _ _ (updateSeq s.heap.objs.size (fun _ => #[]) >>= fun _ => letGo (#[] : Array Value).toList.reverse >>= fun _ => Builtin.List.listExtendWith (.ref s.heap.objs.size) (.ref I) .none) _ _ _
  refine wpAny_bind (wpAny_updateSeq hS rfl ?_)
  have hS₂ := Heap.get?_update_self (Obj.mapSeq (fun _ => (#[] : Array Value))) hS rfl
  refine wpAny_bind (wpAny_letGo ?_)
  have up : ∀ b o, s.heap.get? b = some o → ((s.heap.push { cls := .type "list", data := .seq #[] }).update s.heap.objs.size (Obj.mapSeq (fun _ => (#[] : Array Value)))).get? b = some o :=
    fun b o e => (Heap.get?_update_other _ _ (Nat.ne_of_gt (Heap.lt_size e))).trans (Heap.get?_push_of_some _ e)
  refine extend_walk (A := A.in1) W hT h2 h3 hlen hhint (W.frame 0 s.heap _ hst fun b _ o e => up b o e) hn s.heap.objs.size hSf hIf .none _ hS₂ fun h' tk acc' c' hk hS' hacc => ?_
  exact ⟨rfl, hQ h' tk acc' c' (fun b o hw e => hk b o (Nat.ne_of_lt (Heap.lt_size e)) hw (up b o e)) hS' hacc⟩
end
end Mine
namespace Mine
theorem ne_add (a k : Nat) : a + (k + 1) ≠ a := by omega
theorem lt_add (a b k : Nat) (h : b = a + (k + 1)) : a < b := by omega
theorem call_list_map {prog : Program} {w : World} {A : Around} {E : Value → Shared → Prop} {s : Shared} {h₁ : Heap} {l : Addr} {f : Value} {items : Array Value} {P : Nat → Value → Prop} {Q : Value → Shared → Prop}
    (hh : A.handled = none) (e1 : Ext h₁ s.heap) (hz : s.heap.objs.size = h₁.objs.size + 3) (hM : s.heap.get? (h₁.objs.size + 2) = some (mapObj (h₁.objs.size + 1) f)) (hTI : s.heap.get? (h₁.objs.size + 1) = some (tup1 (.ref h₁.objs.size)))
    (hIt : s.heap.IsListIter h₁.objs.size l 0) (hl : h₁.IsList l items) (hn : items.size ≤ sizeLine)
    (hf : ∀ i x (s' : Shared) (Q E : Value → Shared → Prop), items[i]? = some x → Ext h₁ s'.heap → (∀ v h' tk, P i v → Ext s'.heap h' → Q v { s' with heap := h', toks := tk }) → wpAny (model prog w) A.in1.in1.in1 (call f [x]) Q E s')
    (hQ : ∀ h' tk acc c, Ext h₁ h' → h₁.get? s.heap.objs.size = none → h'.get? s.heap.objs.size = some (W.listOf acc c) → ItemsOf P acc items.size → Q (.ref s.heap.objs.size) { s with heap := h', toks := tk }) :
    wpAny (model prog w) A (call (.type "list") [.ref (h₁.objs.size + 2)]) Q E s := by
  have nin : ∀ b o, h₁.get? b = some o → b ≠ h₁.objs.size := fun b o e => Nat.ne_of_lt (Heap.lt_size e)
  have hl1 : l ≠ h₁.objs.size := by obtain ⟨o, ho, _⟩ := hl; exact nin _ _ ho
  have W := walks_map (prog := prog) (w := w) (A := A.in1.in1) hh (P := P) hM hTI (hl.at fun o e => e1 l o e) (lt_add _ _ 2 hz) (ne_add _ 1) (ne_add _ 0) hl1
    (fun i x s' Q E hx ho hq => hf i x s' Q E hx (fun b o e => ho b o (nin b o e) (e1 b o e)) hq)
  refine call_list_walk W (T := "map") (fun s' st => ⟨_, st.1 _ _ (ne_add _ 1) hM, rfl⟩) (by decide) (by decide) map_no_len map_no_hint ⟨fun _ _ _ e => e, hIt⟩ hn (List.mem_range.mpr (by rw [hz]; exact Nat.lt_succ_self _)) (fun b hb => List.mem_range.mp hb) ?_
  intro h' tk acc c hk hS hacc
  refine hQ h' tk acc c (fun b o e => hk b o (fun hm => nin b o e (List.mem_singleton.mp hm)) (e1 b o e)) ?_ hS hacc
  cases hq : h₁.get? s.heap.objs.size with
  | none => rfl
  | some o => exact absurd (Heap.lt_size hq) (by rw [hz]; exact Nat.not_lt.mpr (Nat.le_add_right _ _))
end Mine
end secMList
section secMLed
namespace Mine
section
variable {prog : Program} {w : World} {A : Around} {E : Value → Shared → Prop} {s : Shared} {h₀ : Heap} {L D : Addr} {m : Str → Option Value} {rest : List (Addr × Obj)} {vs : List Value} {n : Nat} {v : Value}

theorem news_put {f : Array Value → Array Value} {vs' : List Value} {n' : Nat} (N : News h₀ L s.heap ((D, W.listOf vs.toArray n) :: rest)) (hoff : ∀ p ∈ rest, p.1 ≠ D) (he : f vs.toArray = vs'.toArray) (hn : (if vs'.length == vs.length then n else n + 1) = n') :
    News h₀ L (s.heap.update D (Obj.mapSeq f)) ((D, W.listOf vs'.toArray n') :: rest) := by
  have := ki_turn (pre := []) f N (fun _ h => nomatch h) hoff he (by simpa using hn)
  exact this

theorem fr_put {f : Obj → Obj} {o : Obj} (F : Fr h₀ L s.heap m) (N : News h₀ L s.heap ((D, o) :: rest)) : Fr h₀ L (s.heap.update D f) m :=
  F.change (Heap.SameBut.update ..) (N _ (.head _)).2.1 (N _ (.head _)).2.2

theorem set_led {k : Int} {t : Tok} {Q : Unit → Shared → Prop} (F : Fr h₀ L s.heap m) (N : News h₀ L s.heap ((D, W.listOf vs.toArray n) :: rest)) (hoff : ∀ p ∈ rest, p.1 ≠ D) (h0 : 0 ≤ k) (hk : k < vs.length) (hfit : k < 2 ^ 63)
    (h : ∀ h', Fr h₀ L h' m → News h₀ L h' ((D, W.listOf (vs.set k.toNat v).toArray n) :: rest) → Q () { s with heap := h' }) : wpAny (model prog w) A (setItem (.ref D) (.int k t) v) Q E s := by
  refine ki_setAt (N _ (.head _)).1 h0 hfit (by simpa using hk) (h _ (fr_put F N) (news_put N hoff ?_ ?_))
  · simp
  · simp

theorem setBack_led {k : Int} {t : Tok} {Q : Unit → Shared → Prop} (F : Fr h₀ L s.heap m) (N : News h₀ L s.heap ((D, W.listOf vs.toArray n) :: rest)) (hoff : ∀ p ∈ rest, p.1 ≠ D) (h0 : k < 0) (hk : -(vs.length : Int) ≤ k) (hfit : -(2 ^ 63) ≤ k)
    (h : ∀ h', Fr h₀ L h' m → News h₀ L h' ((D, W.listOf (vs.set (k + vs.length).toNat v).toArray n) :: rest) → Q () { s with heap := h' }) : wpAny (model prog w) A (setItem (.ref D) (.int k t) v) Q E s := by
  refine ki_setBack (N _ (.head _)).1 h0 (by simpa using hk) hfit (h _ (fr_put F N) (news_put N hoff ?_ ?_))
  · simp
  · simp
end
theorem strValues_get {c : List (Str × Tok)} {i : Nat} {p : Str × Tok} (h : c[i]? = some p) : (strValues c)[i]? = some (.str p.1 p.2) := by simp [strValues, h]
theorem strValues_length (c : List (Str × Tok)) : (strValues c).length = c.length := by simp [strValues]
theorem strValues_set (c : List (Str × Tok)) (i : Nat) (y : Str) (t : Tok) : (strValues c).set i (.str y t) = strValues (c.set i (y, t)) := by simp [strValues, List.map_set]
end Mine
end secMLed
section secMTp
namespace Mine
theorem itemsOf_strs {n : Nat} {acc : Array Value} {ys : List Str} (hn : ys.length = n) (h : ItemsOf (fun i v => ∃ y t, ys[i]? = some y ∧ v = Value.str y t) acc n) :
    ∃ l : List (Str × Tok), acc = (strValues l).toArray ∧ l.map (·.1) = ys := by
  obtain ⟨h1, h2⟩ := h
  have key : ∀ (vs : List Value) (ys : List Str), vs.length = ys.length → (∀ (j : Nat) (v : Value), vs[j]? = some v → ∃ y t, ys[j]? = some y ∧ v = Value.str y t) → ∃ l : List (Str × Tok), vs = strValues l ∧ l.map (·.1) = ys := by
    intro vs
    induction vs with
    | nil =>
      intro ys hl _
      refine ⟨[], rfl, ?_⟩
      (cases ys with
      | nil => rfl
      | cons _ _ => cases hl)
    | cons v vs ih =>
      intro ys hl hv
      cases ys with
      | nil => cases hl
      | cons y ys =>
        obtain ⟨y', t, e1, e2⟩ := hv 0 v rfl
        obtain ⟨l, e3, e4⟩ := ih ys (by simpa using hl) (fun j v' hj => hv (j + 1) v' hj)
        cases e1
        exact ⟨(y, t) :: l, by rw [e2, e3]; rfl, by simp [e4]⟩
  obtain ⟨l, e1, e2⟩ := key acc.toList ys (by simp [h1, hn]) (fun j v hj => h2 j v (by simpa using hj))
  exact ⟨l, by rw [← e1], e2⟩

def wrapS (y : Str) : Str := Str.ofString "(?>.*?" ++ y ++ Str.ofString ")"
/-- the first k behind the head are wrapped -/
def wrapTo (k : Nat) (ys : List Str) : List Str := ys.mapIdx fun i y => if 1 ≤ i ∧ i < 1 + k then wrapS y else y


def partsS (x : Str) : List Str := (Txt.split x (Str.ofString "*")).map esc
def finS (x : Str) : List Str := (wrapTo ((partsS x).length - 2) (partsS x)).set ((partsS x).length - 1) (Str.ofString ".*" ++ ((wrapTo ((partsS x).length - 2) (partsS x)).getD ((partsS x).length - 1) Str.empty))
def tpS (x : Str) : Str := Txt.join (Str.ofString "") (finS x)

theorem partsS_pos (x : Str) : 1 ≤ (partsS x).length := by
  unfold partsS
  rw [List.length_map]
  unfold Txt.split
  split
  · simp
  · rw [StrLaws.partsBetween_eq]
    obtain ⟨p, r, e⟩ := StrLaws.partsFrom_ne x (Str.ofString "*").length 0 _
    rw [e]; split <;> simp
theorem esc_length (x : Str) : (esc x).length ≤ 2 * x.length := by
  show (escL x.cps.toList).toArray.size ≤ 2 * x.cps.size
  have := escL_length x.cps.toList
  simpa using this
theorem partsS_short {x y : Str} (h : y ∈ partsS x) : y.length ≤ 2 * x.length := by
  unfold partsS at h
  obtain ⟨z, hz, rfl⟩ := List.mem_map.mp h
  have := part_short hz
  have := esc_length z
  omega
theorem partsS_len (x : Str) : (partsS x).length ≤ x.length + 1 := by
  unfold partsS
  rw [List.length_map]
  have := split_weight x (Str.ofString "*") (by decide)
  omega
theorem wrapTo_length (k : Nat) (ys : List Str) : (wrapTo k ys).length = ys.length := by simp [wrapTo]
theorem wrapTo_get (k : Nat) (ys : List Str) (i : Nat) : (wrapTo k ys)[i]? = ys[i]?.map fun y => if 1 ≤ i ∧ i < 1 + k then wrapS y else y := by simp [wrapTo]
theorem wrapTo_zero (ys : List Str) : wrapTo 0 ys = ys := by
  apply List.ext_getElem?
  intro i
  rw [wrapTo_get]
  have h : ¬ (1 ≤ i ∧ i < 1 + 0) := by omega
  simp only [if_neg h]
  cases ys[i]? <;> rfl
theorem wrapTo_step (k : Nat) (ys : List Str) (y : Str) (h : ys[1 + k]? = some y) : (wrapTo k ys).set (1 + k) (wrapS y) = wrapTo (k + 1) ys := by
  apply List.ext_getElem?
  intro i
  rw [List.getElem?_set, wrapTo_get, wrapTo_get, wrapTo_length]
  by_cases hi : 1 + k = i
  · subst hi
    have hl : 1 + k < ys.length := (List.getElem?_eq_some_iff.mp h).1
    have h1 : 1 ≤ 1 + k ∧ 1 + k < 1 + (k + 1) := by omega
    rw [if_pos rfl, if_pos hl, h]
    simp only [Option.map_some, if_pos h1]
  · rw [if_neg hi]
    cases ys[i]? with
    | none => rfl
    | some z =>
      simp only [Option.map_some]
      by_cases h1 : 1 ≤ i ∧ i < 1 + k
      · rw [if_pos h1, if_pos (by omega)]
      · rw [if_neg h1, if_neg (by omega)]
theorem wrapS_length (y : Str) : (wrapS y).length = y.length + 7 := by
  unfold wrapS
  rw [Str.length_append, Str.length_append]
  have h1 : (Str.ofString "(?>.*?").length = 6 := by decide
  have h2 : (Str.ofString ")").length = 1 := by decide
  omega
theorem mem_wrapTo {k : Nat} {ys : List Str} {z : Str} {B : Nat} (hb : ∀ y ∈ ys, y.length ≤ B) (h : z ∈ wrapTo k ys) : z.length ≤ B + 7 := by
  obtain ⟨i, hi⟩ := List.mem_iff_getElem?.mp h
  rw [wrapTo_get] at hi
  obtain ⟨y, hy, rfl⟩ := Option.map_eq_some_iff.mp hi
  have := hb y (List.mem_of_getElem? hy)
  split
  · rw [wrapS_length]; omega
  · omega
theorem sum_le {l : List Nat} {B : Nat} (h : ∀ n ∈ l, n ≤ B) : l.sum ≤ l.length * B := by
  induction l with
  | nil => simp
  | cons a r ih =>
    rw [List.sum_cons, List.length_cons, Nat.succ_mul]
    have := h a List.mem_cons_self
    have := ih fun n hn => h n (List.mem_cons_of_mem _ hn)
    omega
theorem strsAre_values (c : List (Str × Tok)) : StrsAre (strValues c) (c.map (·.1)) := by
  induction c with
  | nil => exact .nil
  | cons p r ih => exact .cons _ _ ih
end Mine
namespace Mine
/-- a goal that the walk is to leave -/
def Stop (P : Prop) : Prop := P
theorem Stop.of {P : Prop} (h : Stop P) : P := h
theorem Stop.go {P : Prop} (h : P) : Stop P := h
end Mine
end secMTp
section secMTxt
namespace Mine
/-- a text by its signs' numbers -/
def S (l : List Nat) : Str := ⟨l.toArray⟩
theorem S_cps (l : List Nat) : (S l).cps.toList = l := by simp [S]
theorem S_of (x : Str) : S x.cps.toList = x := by cases x; simp [S]
theorem S_length (l : List Nat) : (S l).length = l.length := by simp [S, Str.length]
theorem S_inj {a b : List Nat} (h : S a = S b) : a = b := by rw [← S_cps a, h, S_cps]
theorem S_eq_iff {a b : List Nat} : S a = S b ↔ a = b := ⟨S_inj, congrArg S⟩
theorem S_append (a b : List Nat) : S a ++ S b = S (a ++ b) := by
  apply Str.ext'
  rw [Str.cps_append]
  simp [S]
theorem esc_S (l : List Nat) : esc (S l) = S (escL l) := by simp [esc, S]

theorem sliceIdx (i j : Int) (n : Nat) (hi : 0 ≤ i) (hj : 0 ≤ j) : Builtin.Str.strSliceIndices (some i) (some j) 1 n = Builtin.Str.strSliceIndices (some (min i n)) (some (min j n)) 1 n := by
  unfold Builtin.Str.strSliceIndices
  simp only [show (1 : Int) > 0 by decide, if_true]
  have h1 : ¬ i < 0 := by omega
  have h2 : ¬ j < 0 := by omega
  have h3 : ¬ min i (n : Int) < 0 := by omega
  have h4 : ¬ min j (n : Int) < 0 := by omega
  simp only [if_neg h1, if_neg h2, if_neg h3, if_neg h4]
  congr 1 <;> omega

theorem slice_S {xs : List Nat} {i j : Int} (hi : 0 ≤ i) (hj : 0 ≤ j) : Txt.slice (S xs) (some i) (some j) = S ((xs.drop i.toNat).take (j.toNat - i.toNat)) := by
  have e : Txt.slice (S xs) (some i) (some j) = Txt.slice (S xs) (some (min i xs.length)) (some (min j xs.length)) := by
    unfold Txt.slice
    rw [S_length, sliceIdx i j xs.length hi hj]
  rw [e]
  by_cases h : min i (xs.length : Int) ≤ min j (xs.length : Int)
  · have := slice_closes (x := S xs) (i := min i xs.length) (j := min j xs.length) ⟨by omega, h, by rw [S_cps]; omega⟩
    rw [beq_iff_eq.mp this, S_cps]
    show S _ = S _
    rw [S_eq_iff]
    by_cases hl : i ≤ xs.length
    · rw [show (min i (xs.length : Int)).toNat = i.toNat by omega]
      by_cases hl2 : j ≤ xs.length
      · rw [show (min j (xs.length : Int) - min i (xs.length : Int)).toNat = j.toNat - i.toNat by omega]
      · rw [List.take_of_length_le (by rw [List.length_drop]; omega), List.take_of_length_le (by rw [List.length_drop]; omega)]
    · rw [List.drop_of_length_le (by omega), List.drop_of_length_le (by omega)]; simp
  · have h0 : Builtin.Str.strSliceIndices (some (min i xs.length)) (some (min j xs.length)) 1 xs.length = [] := by
      unfold Builtin.Str.strSliceIndices sliceRange
      simp only [show (1 : Int) > 0 by decide, if_true]
      have h3 : ¬ min i (xs.length : Int) < 0 := by omega
      have h4 : ¬ min j (xs.length : Int) < 0 := by omega
      simp only [if_neg h3, if_neg h4]
      rw [if_neg (by omega)]
      rfl
    unfold Txt.slice
    rw [S_length, h0]
    have hx : xs.length ≠ 0 := by omega
    have : ¬ ((1 : Int) == 1 && ([] : List Nat).length == xs.length) = true := by
      simp; omega
    rw [if_neg this]
    rw [show j.toNat - i.toNat = 0 by omega]
    simp [S]

section
variable {prog : Program} {w : World} {A : Around} {E : Value → Shared → Prop} {s : Shared} {t u : Tok} {value slice : PySem.Expr} {Q : Value → Shared → Prop} {h₀ : Heap} {L : Addr} {m : Str → Option Value} {news : List (Addr × Obj)}

theorem item_S {xs : List Nat} {k : Int} {c : Nat} (h0 : 0 ≤ k) (hfit : k < 2 ^ 62) (hx : xs[k.toNat]? = some c) (h : ∀ t' tk, Q (.str (S [c]) t') { s with toks := tk })
    (hs : subscripted slice false (.str (S xs) t) (.int k u) = operate [.str (S xs) t, .int k u] (getItem (.str (S xs) t) (.int k u)) := by with_unfolding_all rfl)
    (ht : ∀ r, letTemporaryGo value (.str (S xs) t) r = pure () := by intro _; with_unfolding_all rfl) :
    wpAny (model prog w) A (subscriptTail value slice (.str (S xs) t) (.int k u)) Q E s := by
  have hlt : k.toNat < xs.length := (List.getElem?_eq_some_iff.mp hx).1
  refine item_str (fitsSsize_of (N := 2 ^ 62) (by omega) (by omega) (by decide)) (by omega) (by rw [S_length]; omega) (fun _ => ?_) hs ht
  have e : Txt.item (S xs) k = S [c] := by
    unfold Txt.item Txt.charAt
    have h1 : seqIndex? k (S xs).length = some k.toNat := by
      rw [S_length]
      unfold seqIndex?
      have h1 : ¬ k < 0 := by omega
      have h2 : (0 : Int) ≤ k ∧ k < (xs.length : Int) := by omega
      simp only [if_neg h1]
      simp [h2]
    rw [h1]
    simp [S, hx]
  rw [e]
  exact h _ _

theorem cut_S {xs : List Nat} {i j : Int} {ui uj : Tok} (hi : 0 ≤ i) (hj : 0 ≤ j) (hF : Fr h₀ L s.heap m) (hN : News h₀ L s.heap news)
    (h : ∀ h' t' k, Fr h₀ L h' m → News h₀ L h' news → Q (.str (S ((xs.drop i.toNat).take (j.toNat - i.toNat))) t') { s with heap := h', toks := k })
    (hs : subscripted slice false (.str (S xs) t) (.ref s.heap.objs.size) = operate [.ref s.heap.objs.size, .str (S xs) t] (getItem (.str (S xs) t) (.ref s.heap.objs.size)) := by with_unfolding_all rfl)
    (ht : ∀ r, letTemporaryGo value (.str (S xs) t) r = pure () := by intro _; with_unfolding_all rfl) (hsz : xs.length ≤ 16777216) :
    wpAny (model prog w) A (subscriptTail value slice (.str (S xs) t) (.ref s.heap.objs.size)) Q E { s with heap := s.heap.push { cls := .type "slice", data := .fields #[.int i ui, .int j uj, .none] } } := by
  refine slice_strN_ss_len hF hN (fun h' t' k F' N' _ => ?_) hs ht (by rw [S_length, sizeLine_eq]; exact hsz)
  rw [slice_S hi hj]
  exact h h' t' k F' N'

theorem eq_S {a b : List Nat} (h : Q (.bool (decide (a = b))) s) : wpAny (model prog w) A (compareOp .Eq (.str (S a) t) (.str (S b) u)) Q E s := by
  refine PyProof.Rows.eq_str ?_
  have : (S a == S b) = decide (a = b) := by
    rw [Bool.eq_iff_iff, beq_iff_eq, S_eq_iff, decide_eq_true_eq]
  rw [this]; exact h
theorem ne_S {a b : List Nat} (h : Q (.bool (!decide (a = b))) s) : wpAny (model prog w) A (compareOp .NotEq (.str (S a) t) (.str (S b) u)) Q E s := by
  refine ne_str ?_
  have : (S a != S b) = !decide (a = b) := by
    rw [Bool.eq_iff_iff]; simp [S_eq_iff]
  rw [this]; exact h
theorem in_S {b : List Nat} {c : Nat} (h : Q (.bool (decide (c ∈ b))) s) : wpAny (model prog w) A (compareOp .In (.str (S [c]) t) (.str (S b) u)) Q E s := by
  refine PyProof.Rows.in_str ?_
  have := StrLaws.found_one (S b) c
  rw [S_cps] at this
  rw [show S [c] = (⟨#[c]⟩ : Str) from rfl, this]
  exact h
theorem notIn_S {b : List Nat} {c : Nat} (h : Q (.bool (!decide (c ∈ b))) s) : wpAny (model prog w) A (compareOp .NotIn (.str (S [c]) t) (.str (S b) u)) Q E s := by
  refine PyProof.Rows.notIn_str ?_
  have := StrLaws.found_one (S b) c
  rw [S_cps] at this
  rw [show S [c] = (⟨#[c]⟩ : Str) from rfl, this]
  exact h
theorem iadd_S {a b : List Nat} (hsz : a.length + b.length ≤ 16777216) (h : ∀ t' tk, Q (.str (S (a ++ b)) t') { s with toks := tk }) : wpAny (model prog w) A (inplaceOp .Add (.str (S a) t) (.str (S b) u)) Q E s := by
  refine PyProof.Rows.iadd_str (fun t' tk => ?_) (by rw [S_length, S_length, sizeLine_eq]; exact hsz)
  rw [S_append]; exact h t' tk
theorem add_S {a b : List Nat} (hsz : a.length + b.length ≤ 16777216) (h : ∀ t' tk, Q (.str (S (a ++ b)) t') { s with toks := tk }) : wpAny (model prog w) A (binaryOp .Add (.str (S a) t) (.str (S b) u)) Q E s := by
  refine PyProof.Rows.add_str (fun t' tk => ?_) (by rw [S_length, S_length, sizeLine_eq]; exact hsz)
  rw [S_append]; exact h t' tk
theorem add_R {a b : List Nat} {y : Str} (hy : y = S b) (hsz : a.length + b.length ≤ 16777216) (h : ∀ t' tk, Q (.str (S (a ++ b)) t') { s with toks := tk }) : wpAny (model prog w) A (binaryOp .Add (.str (S a) t) (.str y u)) Q E s := by
  subst hy; exact add_S hsz h
theorem add_L {a b : List Nat} {x : Str} (hx : x = S a) (hsz : a.length + b.length ≤ 16777216) (h : ∀ t' tk, Q (.str (S (a ++ b)) t') { s with toks := tk }) : wpAny (model prog w) A (binaryOp .Add (.str x t) (.str (S b) u)) Q E s := by
  subst hx; exact add_S hsz h
theorem ltI_t {a b : Int} (h : a < b) (hq : Q (.bool true) s) : wpAny (model prog w) A (compareOp .Lt (.int a t) (.int b u)) Q E s := by
  refine PyProof.Rows.lt_int ?_; rw [decide_eq_true h]; exact hq
theorem ltI_f {a b : Int} (h : b ≤ a) (hq : Q (.bool false) s) : wpAny (model prog w) A (compareOp .Lt (.int a t) (.int b u)) Q E s := by
  refine PyProof.Rows.lt_int ?_; rw [decide_eq_false (Int.not_lt.mpr h)]; exact hq
theorem gtI_t {a b : Int} (h : b < a) (hq : Q (.bool true) s) : wpAny (model prog w) A (compareOp .Gt (.int a t) (.int b u)) Q E s := by
  refine PyProof.Rows.gt_int ?_; rw [decide_eq_true h]; exact hq
theorem gtI_f {a b : Int} (h : a ≤ b) (hq : Q (.bool false) s) : wpAny (model prog w) A (compareOp .Gt (.int a t) (.int b u)) Q E s := by
  refine PyProof.Rows.gt_int ?_; rw [decide_eq_false (Int.not_lt.mpr h)]; exact hq
theorem eqI_t {a b : Int} (h : a = b) (hq : Q (.bool true) s) : wpAny (model prog w) A (compareOp .Eq (.int a t) (.int b u)) Q E s := by
  refine PyProof.Rows.eq_int ?_; rw [beq_iff_eq.mpr h]; exact hq
theorem eqI_f {a b : Int} (h : a ≠ b) (hq : Q (.bool false) s) : wpAny (model prog w) A (compareOp .Eq (.int a t) (.int b u)) Q E s := by
  refine PyProof.Rows.eq_int ?_; rw [beq_eq_false_iff_ne.mpr h]; exact hq
theorem neI_t {a b : Int} (h : a ≠ b) (hq : Q (.bool true) s) : wpAny (model prog w) A (compareOp .NotEq (.int a t) (.int b u)) Q E s := by
  refine PyProof.Rows.ne_int ?_; rw [bne, beq_eq_false_iff_ne.mpr h]; exact hq
theorem neI_f {a b : Int} (h : a = b) (hq : Q (.bool false) s) : wpAny (model prog w) A (compareOp .NotEq (.int a t) (.int b u)) Q E s := by
  refine PyProof.Rows.ne_int ?_; rw [bne, beq_iff_eq.mpr h]; exact hq
theorem eqL_t {x y : Str} (h : x = y) (hq : Q (.bool true) s) : wpAny (model prog w) A (compareOp .Eq (.str x t) (.str y u)) Q E s := by
  refine PyProof.Rows.eq_str ?_
  rw [h, beq_self_eq_true]; exact hq
theorem eqL_f {x y : Str} (h : x ≠ y) (hq : Q (.bool false) s) : wpAny (model prog w) A (compareOp .Eq (.str x t) (.str y u)) Q E s := by
  refine PyProof.Rows.eq_str ?_
  rw [beq_eq_false_iff_ne.mpr h]; exact hq
theorem neL_t {x y : Str} (h : x ≠ y) (hq : Q (.bool true) s) : wpAny (model prog w) A (compareOp .NotEq (.str x t) (.str y u)) Q E s := by
  refine ne_str ?_
  rw [bne, beq_eq_false_iff_ne.mpr h]; exact hq
theorem neL_f {x y : Str} (h : x = y) (hq : Q (.bool false) s) : wpAny (model prog w) A (compareOp .NotEq (.str x t) (.str y u)) Q E s := by
  refine ne_str ?_
  rw [h, bne, beq_self_eq_true]; exact hq
theorem inL_t {x y : Str} (h : Txt.contains x y = true) (hq : Q (.bool true) s) : wpAny (model prog w) A (compareOp .In (.str y u) (.str x t)) Q E s := by
  refine PyProof.Rows.in_str ?_
  rw [show (!(Builtin.Str.occurrences x y 0 x.length 1).isEmpty) = true from h]; exact hq
theorem inL_f {x y : Str} (h : Txt.contains x y = false) (hq : Q (.bool false) s) : wpAny (model prog w) A (compareOp .In (.str y u) (.str x t)) Q E s := by
  refine PyProof.Rows.in_str ?_
  rw [show (!(Builtin.Str.occurrences x y 0 x.length 1).isEmpty) = false from h]; exact hq
theorem notInL_f {x y : Str} (h : Txt.contains x y = true) (hq : Q (.bool false) s) : wpAny (model prog w) A (compareOp .NotIn (.str y u) (.str x t)) Q E s := by
  refine PyProof.Rows.notIn_str ?_
  rw [show (!(Builtin.Str.occurrences x y 0 x.length 1).isEmpty) = true from h]; exact hq
theorem notInL_t {x y : Str} (h : Txt.contains x y = false) (hq : Q (.bool true) s) : wpAny (model prog w) A (compareOp .NotIn (.str y u) (.str x t)) Q E s := by
  refine PyProof.Rows.notIn_str ?_
  rw [show (!(Builtin.Str.occurrences x y 0 x.length 1).isEmpty) = false from h]; exact hq
end
theorem escL_ge (l : List Nat) : l.length ≤ (escL l).length := by
  induction l with
  | nil => simp
  | cons c r ih =>
    have : escL (c :: r) = (if spec c = true then [92, c] else [c]) ++ escL r := rfl
    rw [this, List.length_append, List.length_cons]
    split <;> simp <;> omega
theorem contains_S (b : List Nat) (c : Nat) : Txt.contains (S b) (S [c]) = decide (c ∈ b) := by
  have := StrLaws.found_one (S b) c
  rw [S_cps] at this
  exact this
end Mine
end secMTxt
namespace Mine
open_top hd12 for PySem.Challenge.rw_dn0256_12
end Mine
section secMGrow
namespace Mine
section
variable {prog : Program} {w : World} {A : Around} {E : Value → Shared → Prop} {s : Shared} {env : Env} {h₀ : Heap} {x : Str} {body : List Stmt} {Q : Flow → Shared → Prop}
/-- a loop over a list of ints, with a state of one's own whose ledger may grow -/
theorem kst_listG {σ : Type} {l : Addr} {vs : List Value} {ns : List Int} {m₀ : Str → Option Value} (Led : σ → List (Addr × Obj)) (ps : σ → List (Str × Value)) (Facts : σ → Prop) (stored : List Str) (P : List Int → σ → Prop) (c₀ : σ)
    (hh : A.handled = none) (hl : h₀.IsList l vs.toArray) (hi : IntsAre vs ns) (F : Fr h₀ env.locals s.heap m₀) (N : News h₀ env.locals s.heap (Led c₀)) (hf : Facts c₀) (hk : ∀ p ∈ ps c₀, m₀ p.1 = some p.2) (hp : P [] c₀)
    (turn : ∀ (c : σ) pre post n t (u : Str → Option Value) h tk own, ns = pre ++ n :: post → n ∈ ns → OwnOff own ((Led c).map (·.1)) → Facts c → P pre c →
      Fr h₀ env.locals h (fun y => if y = x then some (.int n t) else kstB (fun z => if stored.contains z then u z else m₀ z) (ps c) y) → News h₀ env.locals h (Led c ++ own) →
      wpAny (model prog w) A (execs body env) (InvPostG h₀ env.locals (KstS Led ps Facts x stored m₀ P (pre ++ [n])) own { s with heap := h, toks := tk } Q) E { s with heap := h, toks := tk })
    (done : ∀ (c : σ) (u : Str → Option Value) h tk, Facts c → P ns c → Fr h₀ env.locals h (fun y => if y = x then u y else kstB (fun z => if stored.contains z then u z else m₀ z) (ps c) y) → News h₀ env.locals h (Led c) → Q .next { s with heap := h, toks := tk }) :
    wpAny (model prog w) A (pyIter (.ref l)) (fun it s₂ => LoopAtV prog w A h₀ env x body Q E it s₂) E s := by
  refine iter_invG (fun i m nx => KstS Led ps Facts x stored m₀ P (ns.take i) m nx) hh hl hi F N ⟨c₀, rfl, hf, hk, fun _ _ _ _ => rfl, by simpa using hp⟩ ?_ ?_
  · rintro i n t m₁ nx h tk own hn _ hoff ⟨c, rfl, hf', h1, h2, hp'⟩ F₁ N₁
    have hs : ns.take (i + 1) = ns.take i ++ [n] := by simp [List.take_add_one, hn]
    have e : ns = ns.take i ++ n :: ns.drop (i + 1) := by
      have ht := List.take_append_drop (i + 1) ns
      rw [hs, List.append_assoc] at ht
      exact ht.symm
    rw [hs]
    exact turn c _ _ n t m₁ h tk own e (List.mem_of_getElem? hn) hoff hf' hp' (kst_fr h1 h2 F₁) N₁
  · rintro m₁ nx h tk ⟨c, rfl, hf', h1, h2, hp'⟩ F₁ N₁
    rw [List.take_length] at hp'
    exact done c m₁ h tk hf' hp' (kst_frOut h1 h2 F₁) N₁
theorem kstG_end {σ : Type} {Led : σ → List (Addr × Obj)} {ps : σ → List (Str × Value)} {Facts : σ → Prop} {stored : List Str} {m₀ : Str → Option Value} {P : List Int → σ → Prop} {pre : List Int} (c : σ) {L : Addr} {m' : Str → Option Value} {own news' : List (Addr × Obj)} {s₁ : Shared} {h' : Heap} {tk : Nat}
    (F : Fr h₀ L h' m') (N : News h₀ L h' news') (hn : ∀ p ∈ Led c, p ∈ news') (ho : ∀ p ∈ own, p ∈ news') (ha : OwnOff own ((Led c).map (·.1))) (hf : Facts c) (hk : ∀ p ∈ ps c, m' p.1 = some p.2) (hr : ∀ z, z ≠ x → (∀ p ∈ ps c, z ≠ p.1) → stored.contains z = false → m' z = m₀ z) (hp : P pre c) :
    InvEndG h₀ L (KstS Led ps Facts x stored m₀ P pre) own s₁ { s₁ with heap := h', toks := tk } :=
  InvEndG.intro F N ⟨c, rfl, hf, hk, hr, hp⟩ ha hn ho
end
/-- one record of 12, with the book that says what was put into it -/
structure Rec where
  r : Addr
  d : Addr
  u : Addr
  l : Addr
  b : Addr
  bu : Addr
  bl : Addr
  us : List (Str × Tok)
  ls : List (Str × Tok)
  dv : Option (Int × Tok)
  rv : Option (Int × Tok)
  k1 : Tok
  k2 : Tok
  k3 : Tok
  k4 : Tok
  cu : Nat
  cl : Nat
  cb : Nat
  cbu : Nat
  cbl : Nat
def optV : Option (Int × Tok) → Value
  | none => .none
  | some (n, t) => .int n t
end Mine
end secMGrow
section secA12a
namespace Mine
def recLed (p : Params) (R : Rec) : List (Addr × Obj) :=
  [(R.u, W.listOf (strValues R.us).toArray R.cu), (R.l, W.listOf (strValues R.ls).toArray R.cl), (R.r, instObj 59 R.d),
   (R.d, dictOf [{ hash := PyData.keyHash p (Str.ofString "useragents"), key := Value.str (Str.ofString "useragents") R.k1, val := Value.ref R.u },
     { hash := PyData.keyHash p (Str.ofString "rulelines"), key := Value.str (Str.ofString "rulelines") R.k2, val := Value.ref R.l },
     { hash := PyData.keyHash p (Str.ofString "delay"), key := Value.str (Str.ofString "delay") R.k3, val := optV R.dv },
     { hash := PyData.keyHash p (Str.ofString "req_rate"), key := Value.str (Str.ofString "req_rate") R.k4, val := optV R.rv }] 4),
   (R.bu, W.listOf (strValues R.us).toArray R.cbu), (R.bl, W.listOf (strValues R.ls).toArray R.cbl), (R.b, W.listOf #[.ref R.bu, .ref R.bl, optV R.dv, optV R.rv] R.cb)]
def led12 (p : Params) (lb lo lr la : Addr) (orr oa : Obj) (c : List Rec × Nat × Nat) : List (Addr × Obj) :=
  (lb, W.listOf (c.1.map fun R => Value.ref R.b).toArray c.2.1) :: (lo, W.listOf (c.1.map fun R => Value.ref R.r).toArray c.2.2) :: (lr, orr) :: (la, oa) :: c.1.flatMap (recLed p)
def agentsL : List Str := [Str.ofString "", Str.ofString "*", Str.ofString "fig"]
def rulesL : List Str := [Str.ofString "", Str.ofString "Allow: /", Str.ofString "Disallow: /x"]
def optOk (v : Option (Int × Tok)) : Prop := ∀ n t, v = some (n, t) → 0 ≤ n ∧ n < 3
structure RecOk (R : Rec) : Prop where
  us : ∀ p ∈ R.us, p.1 ∈ agentsL
  ls : ∀ p ∈ R.ls, p.1 ∈ rulesL
  dv : optOk R.dv
  rv : optOk R.rv
def facts12 (p : Params) (lb lo lr la : Addr) (orr oa : Obj) (c : List Rec × Nat × Nat) : Prop :=
  ((led12 p lb lo lr la orr oa c).map (·.1)).Nodup ∧ 1 ≤ c.1.length ∧ c.1.length ≤ 8 ∧ ∀ R ∈ c.1, RecOk R
def len12 (pre : List Int) (c : List Rec × Nat × Nat) : Prop := ∀ R ∈ c.1, R.us.length ≤ pre.length ∧ R.ls.length ≤ pre.length
section
variable {prog : Program} {w : World} {A : Around} {E : Value → Shared → Prop} {s : Shared} {env : Env} {h₀ : Heap} {x : Str} {body : List Stmt} {Q : Flow → Shared → Prop}
theorem loop12 {p : Params} {sc : Addr} {vs : List Value} {ns : List Int} {m₀ : Str → Option Value} {lb lo lr la r d u l b bu bl : Addr} {orr oa : Obj} {k1 k2 k3 k4 : Tok} (stored : List Str)
    (hh : A.handled = none) (hl : h₀.IsList sc vs.toArray) (hi : IntsAre vs ns) (F : Fr h₀ env.locals s.heap m₀)
    (N : News h₀ env.locals s.heap [(lb, W.listOf #[.ref b] 0), (b, W.listOf #[.ref bu, .ref bl, .none, .none] 0), (bl, W.listOf #[] 0), (bu, W.listOf #[] 0), (lo, W.listOf #[.ref r] 0), (l, W.listOf #[] 0), (u, W.listOf #[] 0), (r, instObj 59 d),
      (d, dictOf [{ hash := PyData.keyHash p (Str.ofString "useragents"), key := Value.str (Str.ofString "useragents") k1, val := Value.ref u },
        { hash := PyData.keyHash p (Str.ofString "rulelines"), key := Value.str (Str.ofString "rulelines") k2, val := Value.ref l },
        { hash := PyData.keyHash p (Str.ofString "delay"), key := Value.str (Str.ofString "delay") k3, val := .none },
        { hash := PyData.keyHash p (Str.ofString "req_rate"), key := Value.str (Str.ofString "req_rate") k4, val := .none }] 4), (lr, orr), (la, oa)])
    (hnd : [lb, lo, lr, la, u, l, r, d, bu, bl, b].Nodup)
    (turn : ∀ (c : List Rec × Nat × Nat) pre post n t (um : Str → Option Value) h tk own, ns = pre ++ n :: post → n ∈ ns → OwnOff own ((led12 p lb lo lr la orr oa c).map (·.1)) → facts12 p lb lo lr la orr oa c → len12 pre c →
      Fr h₀ env.locals h (fun y => if y = x then some (.int n t) else if stored.contains y then um y else m₀ y) → News h₀ env.locals h (led12 p lb lo lr la orr oa c ++ own) →
      wpAny (model prog w) A (execs body env) (InvPostG h₀ env.locals (KstS (led12 p lb lo lr la orr oa) (fun _ => []) (facts12 p lb lo lr la orr oa) x stored m₀ len12 (pre ++ [n])) own { s with heap := h, toks := tk } Q) E { s with heap := h, toks := tk })
    (done : ∀ (c : List Rec × Nat × Nat) (um : Str → Option Value) h tk, facts12 p lb lo lr la orr oa c → len12 ns c → Fr h₀ env.locals h (fun y => if y = x then um y else if stored.contains y then um y else m₀ y) → News h₀ env.locals h (led12 p lb lo lr la orr oa c) → Q .next { s with heap := h, toks := tk }) :
    wpAny (model prog w) A (pyIter (.ref sc)) (fun it s₂ => LoopAtV prog w A h₀ env x body Q E it s₂) E s := by
  refine kst_listG (led12 p lb lo lr la orr oa) (fun _ => []) (facts12 p lb lo lr la orr oa) stored len12
    ([{ r, d, u, l, b, bu, bl, us := [], ls := [], dv := none, rv := none, k1, k2, k3, k4, cu := 0, cl := 0, cb := 0, cbu := 0, cbl := 0 }], 0, 0) hh hl hi F ?_ ⟨?_, by simp, by simp, ?_⟩ (fun _ h => nomatch h) ?_ turn done
  · intro q hq
    refine N q ?_
    simp only [led12, recLed, List.map_cons, List.map_nil, List.flatMap_cons, List.flatMap_nil, List.append_nil, strValues, optV, List.mem_cons, List.not_mem_nil, or_false] at hq ⊢
    rcases hq with h | h | h | h | h | h | h | h | h | h | h <;> simp [h]
  · simpa [led12, recLed] using hnd
  · intro R hR
    cases List.mem_singleton.mp hR
    exact ⟨(fun _ h => nomatch h), (fun _ h => nomatch h), (fun _ _ h => nomatch h), (fun _ _ h => nomatch h)⟩
  · intro R hR
    cases List.mem_singleton.mp hR
    exact ⟨Nat.le_refl _, Nat.le_refl _⟩
end
end Mine
end secA12a
section secA12b
namespace Mine
def adrs (R : Rec) : List Addr := [R.u, R.l, R.r, R.d, R.bu, R.bl, R.b]
theorem adrs_led (p : Params) (R : Rec) : (recLed p R).map (·.1) = adrs R := rfl
theorem adrs_flat (p : Params) (rs : List Rec) : (rs.flatMap (recLed p)).map (·.1) = rs.flatMap adrs := by
  rw [List.map_flatMap]; rfl
theorem adrs12 {p : Params} {lb lo lr la : Addr} {orr oa : Obj} {c : List Rec × Nat × Nat} : (led12 p lb lo lr la orr oa c).map (·.1) = lb :: lo :: lr :: la :: c.1.flatMap adrs := by
  unfold led12
  rw [List.map_cons, List.map_cons, List.map_cons, List.map_cons, adrs_flat]
theorem pickRec {p : Params} {lb lo lr la L : Addr} {orr oa : Obj} {h₀ h : Heap} {ra rb : List Rec} {R : Rec} {n1 n2 : Nat} {own : List (Addr × Obj)} (hf : facts12 p lb lo lr la orr oa (ra ++ R :: rb, n1, n2)) (hoff : OwnOff own ((led12 p lb lo lr la orr oa (ra ++ R :: rb, n1, n2)).map (·.1)))
    (N : News h₀ L h (led12 p lb lo lr la orr oa (ra ++ R :: rb, n1, n2) ++ own)) :
    ∃ rest, rest = ra.flatMap (recLed p) ++ rb.flatMap (recLed p) ++ own ∧
      News h₀ L h ((lb, W.listOf ((ra ++ R :: rb).map fun R => Value.ref R.b).toArray n1) :: (lo, W.listOf ((ra ++ R :: rb).map fun R => Value.ref R.r).toArray n2) :: (lr, orr) :: (la, oa) :: (recLed p R ++ rest)) ∧
      OwnOff rest (lb :: lo :: lr :: la :: adrs R) ∧ (lb :: lo :: lr :: la :: adrs R).Nodup := by
  have hnd := hf.1
  rw [adrs12] at hnd hoff
  dsimp only at hnd hoff
  rw [List.flatMap_append, List.flatMap_cons] at hnd hoff
  have hsub : (lb :: lo :: lr :: la :: adrs R).Sublist (lb :: lo :: lr :: la :: (ra.flatMap adrs ++ (adrs R ++ rb.flatMap adrs))) :=
    .cons_cons _ (.cons_cons _ (.cons_cons _ (.cons_cons _ ((List.sublist_append_left _ _).trans (List.sublist_append_right _ _)))))
  refine ⟨_, rfl, fun q hq => N q ?_, fun q hq a ha => ?_, hsub.nodup hnd⟩
  · unfold led12
    dsimp only
    rw [List.flatMap_append, List.flatMap_cons]
    simp only [List.mem_cons, List.mem_append, List.cons_append] at hq ⊢
    rcases hq with h | h | h | h | h | (h | h) | h <;> simp [h]
  · rcases List.mem_append.mp hq with hq | hq
    · intro e
      have hq' : q.1 ∈ ra.flatMap adrs ∨ q.1 ∈ rb.flatMap adrs := by
        rcases List.mem_append.mp hq with hq | hq
        · left; rw [← adrs_flat p]; exact List.mem_map_of_mem hq
        · right; rw [← adrs_flat p]; exact List.mem_map_of_mem hq
      rw [e] at hq'
      simp only [List.nodup_cons, List.nodup_append, List.mem_cons, List.mem_append, not_or] at hnd
      simp only [List.mem_cons] at ha
      rcases ha with rfl | rfl | rfl | rfl | ha
      · rcases hq' with x | x
        · exact hnd.1.2.2.2.1 x
        · exact hnd.1.2.2.2.2.2 x
      · rcases hq' with x | x
        · exact hnd.2.1.2.2.1 x
        · exact hnd.2.1.2.2.2.2 x
      · rcases hq' with x | x
        · exact hnd.2.2.1.2.1 x
        · exact hnd.2.2.1.2.2.2 x
      · rcases hq' with x | x
        · exact hnd.2.2.2.1.1 x
        · exact hnd.2.2.2.1.2.2 x
      · rcases hq' with x | x
        · exact hnd.2.2.2.2.2.2 a x a (.inl ha) rfl
        · exact hnd.2.2.2.2.2.1.2.2 a ha a x rfl
    · exact hoff q hq a (hsub.subset ha)

theorem putRec {p : Params} {lb lo lr la : Addr} {orr oa : Obj} {ra rb : List Rec} {R R' : Rec} {n1 n2 : Nat} {own rest : List (Addr × Obj)} (hf : facts12 p lb lo lr la orr oa (ra ++ R :: rb, n1, n2)) (hoff : OwnOff own ((led12 p lb lo lr la orr oa (ra ++ R :: rb, n1, n2)).map (·.1)))
    (hr : rest = ra.flatMap (recLed p) ++ rb.flatMap (recLed p) ++ own) (ha : adrs R' = adrs R) (hok : RecOk R') {news' : List (Addr × Obj)}
    (hn : ∀ q ∈ (lb, W.listOf ((ra ++ R :: rb).map fun R => Value.ref R.b).toArray n1) :: (lo, W.listOf ((ra ++ R :: rb).map fun R => Value.ref R.r).toArray n2) :: (lr, orr) :: (la, oa) :: (recLed p R' ++ rest), q ∈ news') :
    facts12 p lb lo lr la orr oa (ra ++ R' :: rb, n1, n2) ∧ OwnOff own ((led12 p lb lo lr la orr oa (ra ++ R' :: rb, n1, n2)).map (·.1)) ∧ (∀ q ∈ led12 p lb lo lr la orr oa (ra ++ R' :: rb, n1, n2), q ∈ news') ∧ ∀ q ∈ own, q ∈ news' := by
  have hadr : (led12 p lb lo lr la orr oa (ra ++ R' :: rb, n1, n2)).map (·.1) = (led12 p lb lo lr la orr oa (ra ++ R :: rb, n1, n2)).map (·.1) := by
    rw [adrs12, adrs12]
    dsimp only
    rw [List.flatMap_append, List.flatMap_cons, List.flatMap_append, List.flatMap_cons, ha]
  have hb : R'.b = R.b := by
    have := congrArg (fun l : List Addr => l.getD 6 0) ha; exact this
  have hrr : R'.r = R.r := by
    have := congrArg (fun l : List Addr => l.getD 2 0) ha; exact this
  have e1 : ((ra ++ R' :: rb).map fun R => Value.ref R.b) = (ra ++ R :: rb).map fun R => Value.ref R.b := by
    rw [List.map_append, List.map_append, List.map_cons, List.map_cons, hb]
  have e2 : ((ra ++ R' :: rb).map fun R => Value.ref R.r) = (ra ++ R :: rb).map fun R => Value.ref R.r := by
    rw [List.map_append, List.map_append, List.map_cons, List.map_cons, hrr]
  refine ⟨⟨hadr ▸ hf.1, ?_, ?_, ?_⟩, hadr ▸ hoff, fun q hq => hn q ?_, fun q hq => hn q ?_⟩
  · have := hf.2.1; simp only [List.length_append, List.length_cons] at this ⊢; omega
  · have := hf.2.2.1; simp only [List.length_append, List.length_cons] at this ⊢; omega
  · intro Z hZ
    rcases List.mem_append.mp hZ with h | h
    · exact hf.2.2.2 Z (List.mem_append.mpr (.inl h))
    · rcases List.mem_cons.mp h with rfl | h
      · exact hok
      · exact hf.2.2.2 Z (List.mem_append.mpr (.inr (List.mem_cons_of_mem _ h)))
  · unfold led12 at hq
    dsimp only at hq
    rw [e1, e2, List.flatMap_append, List.flatMap_cons] at hq
    rw [hr]
    simp only [List.mem_cons, List.mem_append] at hq ⊢
    rcases hq with h | h | h | h | h | h | h <;> simp [h]
  · rw [hr]; simp [hq]
theorem growRec {p : Params} {lb lo lr la : Addr} {orr oa : Obj} {rs : List Rec} {R' : Rec} {n1 n2 m1 m2 : Nat} {own : List (Addr × Obj)} (hf : facts12 p lb lo lr la orr oa (rs, n1, n2)) (hoff : OwnOff own ((led12 p lb lo lr la orr oa (rs, n1, n2)).map (·.1)))
    (h8 : rs.length < 8) (hok : RecOk R') (hnd : (adrs R').Nodup) (h1 : ∀ a ∈ adrs R', a ∉ (led12 p lb lo lr la orr oa (rs, n1, n2)).map (·.1)) (h2 : ∀ a ∈ adrs R', ∀ q ∈ own, q.1 ≠ a) {news' : List (Addr × Obj)}
    (hn : ∀ q ∈ (lb, W.listOf ((rs.map (fun R : Rec => Value.ref R.b)) ++ [Value.ref R'.b]).toArray m1) :: (lo, W.listOf ((rs.map (fun R : Rec => Value.ref R.r)) ++ [Value.ref R'.r]).toArray m2) :: (lr, orr) :: (la, oa) :: (recLed p R' ++ (rs.flatMap (recLed p) ++ own)), q ∈ news') :
    facts12 p lb lo lr la orr oa (rs ++ [R'], m1, m2) ∧ OwnOff own ((led12 p lb lo lr la orr oa (rs ++ [R'], m1, m2)).map (·.1)) ∧ (∀ q ∈ led12 p lb lo lr la orr oa (rs ++ [R'], m1, m2), q ∈ news') ∧ ∀ q ∈ own, q ∈ news' := by
  have hadr : (led12 p lb lo lr la orr oa (rs ++ [R'], m1, m2)).map (·.1) = (led12 p lb lo lr la orr oa (rs, n1, n2)).map (·.1) ++ adrs R' := by
    rw [adrs12, adrs12]
    dsimp only
    rw [List.flatMap_append, List.flatMap_cons, List.flatMap_nil, List.append_nil]
    rfl
  refine ⟨⟨?_, ?_, ?_, ?_⟩, ?_, fun q hq => hn q ?_, fun q hq => hn q ?_⟩
  · rw [hadr, List.nodup_append]
    exact ⟨hf.1, hnd, fun a ha b hb e => h1 b hb (e ▸ ha)⟩
  · simp
  · simp only [List.length_append, List.length_cons, List.length_nil]; omega
  · intro Z hZ
    rcases List.mem_append.mp hZ with h | h
    · exact hf.2.2.2 Z h
    · cases List.mem_singleton.mp h; exact hok
  · rw [hadr]
    intro q hq a ha
    rcases List.mem_append.mp ha with h | h
    · exact hoff q hq a h
    · exact h2 a h q hq
  · unfold led12 at hq
    dsimp only at hq
    rw [List.map_append, List.map_append, List.flatMap_append, List.flatMap_cons, List.flatMap_nil, List.append_nil, List.map_cons, List.map_nil, List.map_cons, List.map_nil] at hq
    simp only [List.mem_cons, List.mem_append] at hq ⊢
    rcases hq with h | h | h | h | h | h <;> simp [h]
  · simp [hq]
end Mine
end secA12b
section secA12c
namespace Mine
section
variable {prog : Program} {w : World} {A : Around} {E : Value → Shared → Prop} {s : Shared} {t u : Tok} {value slice : PySem.Expr} {Q : Value → Shared → Prop} {h₀ : Heap} {L a : Addr} {news : List (Addr × Obj)} {vs : List Value} {n : Nat}
theorem isL (N : News h₀ L s.heap news) (hm : (a, W.listOf vs.toArray n) ∈ news) : s.heap.IsList a vs.toArray := News.isList N hm
theorem lenL {k : Nat} (N : News h₀ L s.heap news) (hm : (a, W.listOf vs.toArray n) ∈ news) (hk : vs.length = k) (h9 : k ≤ 1000) (h : ∀ t' tk, Q (.int (k : Int) t') { s with toks := tk }) : wpAny (model prog w) A (call (.builtin "len") [.ref a]) Q E s := by
  refine Calls.call_len_list (isL N hm) (by rw [List.size_toArray]; omega) ?_
  rw [List.size_toArray, hk]; exact h _ _
theorem itemL {k : Nat} {v : Value} (N : News h₀ L s.heap news) (hm : (a, W.listOf vs.toArray n) ∈ news) (hk : vs[k]? = some v) (h9 : k ≤ 1000) (h : Q v s)
    (hs : subscripted slice false (.ref a) (.int (k : Int) u) = operate [.ref a, .int (k : Int) u] (getItem (.ref a) (.int (k : Int) u)) := by with_unfolding_all rfl) :
    wpAny (model prog w) A (subscriptTail value slice (.ref a) (.int (k : Int) u)) Q E s := by
  refine item_listR (isL N hm) (by omega) (by omega) (x := v) ?_ h hs
  rw [Int.toNat_natCast, List.getElem?_toArray]; exact hk
theorem modL {m k : Nat} {b : Int} (hm : 1 ≤ m) (h9 : m ≤ 1000) (hk : Int.fmod b m = (k : Int)) (h : ∀ t' tk, Q (.int (k : Int) t') { s with toks := tk }) : wpAny (model prog w) A (binaryOp .Mod (.int b t) (.int (m : Int) u)) Q E s := by
  refine mod_int (by omega) ?_
  rw [hk]; exact h _ _
theorem divL {m : Nat} {b : Int} (hm : 1 ≤ m) (h9 : m ≤ 1000) (h : ∀ q t' tk, Q (.int q t') { s with toks := tk }) : wpAny (model prog w) A (binaryOp .FloorDiv (.int b t) (.int (m : Int) u)) Q E s := by
  refine floordiv_int (by omega) (h _ _ _) (Or.inl (PyProof.noPylong_small (by omega)))
theorem mod3 {b : Int} (h : ∀ k t' tk, k < 3 → Q (.int ((k : Nat) : Int) t') { s with toks := tk }) : wpAny (model prog w) A (binaryOp .Mod (.int b t) (.int 3 u)) Q E s := by
  have a := Int.fmod_nonneg_of_pos b (b := 3) (by decide)
  have c := Int.fmod_lt_of_pos b (b := 3) (by decide)
  refine mod_int (by decide) ?_
  have := h (Int.fmod b 3).toNat s.toks (s.toks + 1) (by omega)
  rw [Int.toNat_of_nonneg a] at this
  exact this
end
theorem three_str (y0 y1 y2 : Str) (t0 t1 t2 : Tok) : ∃ f : Nat → Str × Tok, ∀ k, k < 3 → [Value.str y0 t0, Value.str y1 t1, Value.str y2 t2][k]? = some (.str (f k).1 (f k).2) ∧ (f k).1 ∈ [y0, y1, y2] :=
  ⟨fun k => match k with | 0 => (y0, t0) | 1 => (y1, t1) | _ => (y2, t2), fun k hk => by
    match k, hk with
    | 0, _ => exact ⟨rfl, by simp⟩
    | 1, _ => exact ⟨rfl, by simp⟩
    | 2, _ => exact ⟨rfl, by simp⟩⟩
theorem three_of {h₀ h : Heap} {L : Addr} {a b : Addr × Obj} {lr la : Addr} {r0 r1 r2 a0 a1 a2 : Str} {s0 s1 s2 t0 t1 t2 : Tok} {c c' : Nat} {rest : List (Addr × Obj)}
    (_N : News h₀ L h (a :: b :: (lr, W.listOf #[Value.str r0 s0, Value.str r1 s1, Value.str r2 s2] c) :: (la, W.listOf #[Value.str a0 t0, Value.str a1 t1, Value.str a2 t2] c') :: rest)) :
    (∃ f : Nat → Str × Tok, ∀ k, k < 3 → [Value.str r0 s0, Value.str r1 s1, Value.str r2 s2][k]? = some (.str (f k).1 (f k).2) ∧ (f k).1 ∈ [r0, r1, r2]) ∧
    ∃ f : Nat → Str × Tok, ∀ k, k < 3 → [Value.str a0 t0, Value.str a1 t1, Value.str a2 t2][k]? = some (.str (f k).1 (f k).2) ∧ (f k).1 ∈ [a0, a1, a2] := ⟨three_str .., three_str ..⟩
theorem pick_get {ra rb : List Rec} {R : Rec} {k : Nat} (h : ra.length = k) (f : Rec → Value) : ((ra ++ R :: rb).map f)[k]? = some (f R) := by
  subst h; simp
end Mine
end secA12c
section secA12d
namespace Mine
def What (k : Nat) (_ : Tok) : Prop := k < 3
theorem What.name {k : Nat} {t : Tok} (h : What k t) : ∃ (k' : Nat) (t' : Tok), k' = k ∧ t' = t ∧ k' < 3 := ⟨k, t, rfl, rfl, h⟩
section
variable {prog : Program} {w : World} {A : Around} {E : Value → Shared → Prop} {s : Shared} {t u : Tok} {Q : Value → Shared → Prop}
theorem mod3b {b : Int} {f g : Nat → Str × Tok} {lr la : List Value} {sr sa : List Str}
    (hf : (∀ k, k < 3 → lr[k]? = some (.str (f k).1 (f k).2) ∧ (f k).1 ∈ sr) ∧ ∀ k, k < 3 → la[k]? = some (.str (g k).1 (g k).2) ∧ (g k).1 ∈ sa)
    (h : ∀ k t' tk, What k t' → k < 3 → lr[k]? = some (.str (f k).1 (f k).2) → la[k]? = some (.str (g k).1 (g k).2) → (f k).1 ∈ sr → (g k).1 ∈ sa → Q (.int ((k : Nat) : Int) t') { s with toks := tk }) : wpAny (model prog w) A (binaryOp .Mod (.int b t) (.int 3 u)) Q E s :=
  mod3 fun k t' tk hk => h k t' tk hk hk (hf.1 k hk).1 (hf.2 k hk).1 (hf.1 k hk).2 (hf.2 k hk).2
end
theorem strValues_push (c : List (Str × Tok)) (p : Str × Tok) : (strValues c).toArray.push (.str p.1 p.2) = (strValues (c ++ [p])).toArray := by simp [strValues]
theorem For_of {prog : Program} {w : World} {A : Around} {E : Value → Shared → Prop} {s : Shared} {env : Env} {Q : Flow → Shared → Prop} {x : Str} {px pos : Pos} {iter : PySem.Expr} {body : List Stmt} {h₀ : Heap} {m : Str → Option Value}
    (_F : Fr h₀ env.locals s.heap m) (hx : env.kindOf x = some .local) (hp : (env.scope.kind == .class || (env.scope.kind == .module && env.locals != env.globals)) = false)
    (h1 : wpAny (model prog w) A (eval iter env) (fun v s' => wpAny (model prog w) A (pyIter v) (fun it s₂ => LoopAtV prog w A h₀ env x body Q E it s₂) E s') E s)
    (hs : ∀ x, foldedSetIterable iter env x = pure x := by intro _; rfl) (hE : PassesOwn (model prog w) A env E := by passes_own) :
    wpAny (model prog w) A (exec (.For (.Name x px) iter body [] pos) env) Q E s := For_invV h₀ hx hp h1 hs hE
theorem growPick {p : Params} {lb lo lr la L : Addr} {orr oa : Obj} {h₀ h : Heap} {rs : List Rec} {n1 n2 : Nat} {own : List (Addr × Obj)} (hf : facts12 p lb lo lr la orr oa (rs, n1, n2)) (hoff : OwnOff own ((led12 p lb lo lr la orr oa (rs, n1, n2)).map (·.1)))
    (N : News h₀ L h (led12 p lb lo lr la orr oa (rs, n1, n2) ++ own)) :
    ∃ rest, rest = rs.flatMap (recLed p) ++ own ∧
      News h₀ L h ((lb, W.listOf (rs.map fun R => Value.ref R.b).toArray n1) :: (lo, W.listOf (rs.map fun R => Value.ref R.r).toArray n2) :: (lr, orr) :: (la, oa) :: rest) ∧
      OwnOff rest [lb, lo, lr, la] ∧ [lb, lo, lr, la].Nodup := by
  have hnd := hf.1
  rw [adrs12] at hnd hoff
  dsimp only at hnd hoff
  have hsub : [lb, lo, lr, la].Sublist (lb :: lo :: lr :: la :: rs.flatMap adrs) :=
    .cons_cons _ (.cons_cons _ (.cons_cons _ (.cons_cons _ (List.nil_sublist _))))
  refine ⟨_, rfl, N, fun q hq a ha => ?_, hsub.nodup hnd⟩
  rcases List.mem_append.mp hq with hq | hq
  · intro e
    have hq' : q.1 ∈ rs.flatMap adrs := by rw [← adrs_flat p]; exact List.mem_map_of_mem hq
    rw [e] at hq'
    simp only [List.nodup_cons, List.mem_cons, not_or] at hnd
    simp only [List.mem_cons, List.not_mem_nil, or_false] at ha
    rcases ha with rfl | rfl | rfl | rfl
    · exact hnd.1.2.2.2 hq'
    · exact hnd.2.1.2.2 hq'
    · exact hnd.2.2.1.2 hq'
    · exact hnd.2.2.2.1 hq'
  · exact hoff q hq a (hsub.subset ha)
theorem all_of_mem {a : Addr × Obj} {l news : List (Addr × Obj)} (h : a ∈ news) (h2 : ∀ q ∈ l, q ∈ news) : ∀ q ∈ a :: l, q ∈ news := fun q hq => by
  rcases List.mem_cons.mp hq with rfl | hq
  · exact h
  · exact h2 q hq
end Mine
namespace Mine
theorem strValues_push' (c : List (Str × Tok)) (p : Str × Tok) : (strValues (c ++ [p])).toArray = (strValues c).toArray.push (.str p.1 p.2) := (strValues_push c p).symm
theorem okU {r d u l b bu bl : Addr} {us ls : List (Str × Tok)} {dv rv : Option (Int × Tok)} {q1 q2 q3 q4 : Tok} {cu cl cb cbu cbl cu' cl' cb' cbu' cbl' : Nat} {p : Str × Tok} (h : RecOk ⟨r, d, u, l, b, bu, bl, us, ls, dv, rv, q1, q2, q3, q4, cu, cl, cb, cbu, cbl⟩) (hp : p.1 ∈ [Str.ofString "", Str.ofString "*", Str.ofString "fig"]) :
    RecOk ⟨r, d, u, l, b, bu, bl, us ++ [p], ls, dv, rv, q1, q2, q3, q4, cu', cl', cb', cbu', cbl'⟩ := ⟨fun q hq => (List.mem_append.mp hq).elim (h.us q) fun hq => by cases List.mem_singleton.mp hq; exact hp, h.ls, h.dv, h.rv⟩
theorem okL {r d u l b bu bl : Addr} {us ls : List (Str × Tok)} {dv rv : Option (Int × Tok)} {q1 q2 q3 q4 : Tok} {cu cl cb cbu cbl cu' cl' cb' cbu' cbl' : Nat} {p : Str × Tok} (h : RecOk ⟨r, d, u, l, b, bu, bl, us, ls, dv, rv, q1, q2, q3, q4, cu, cl, cb, cbu, cbl⟩) (hp : p.1 ∈ [Str.ofString "", Str.ofString "Allow: /", Str.ofString "Disallow: /x"]) :
    RecOk ⟨r, d, u, l, b, bu, bl, us, ls ++ [p], dv, rv, q1, q2, q3, q4, cu', cl', cb', cbu', cbl'⟩ := ⟨h.us, fun q hq => (List.mem_append.mp hq).elim (h.ls q) fun hq => by cases List.mem_singleton.mp hq; exact hp, h.dv, h.rv⟩
theorem okD {r d u l b bu bl : Addr} {us ls : List (Str × Tok)} {dv rv : Option (Int × Tok)} {q1 q2 q3 q4 : Tok} {cu cl cb cbu cbl cu' cl' cb' cbu' cbl' k : Nat} {t : Tok} (h : RecOk ⟨r, d, u, l, b, bu, bl, us, ls, dv, rv, q1, q2, q3, q4, cu, cl, cb, cbu, cbl⟩) (hp : k < 3) :
    RecOk ⟨r, d, u, l, b, bu, bl, us, ls, some ((k : Int), t), rv, q1, q2, q3, q4, cu', cl', cb', cbu', cbl'⟩ := ⟨h.us, h.ls, fun n t' e => by cases e; omega, h.rv⟩
theorem okR {r d u l b bu bl : Addr} {us ls : List (Str × Tok)} {dv rv : Option (Int × Tok)} {q1 q2 q3 q4 : Tok} {cu cl cb cbu cbl cu' cl' cb' cbu' cbl' k : Nat} {t : Tok} (h : RecOk ⟨r, d, u, l, b, bu, bl, us, ls, dv, rv, q1, q2, q3, q4, cu, cl, cb, cbu, cbl⟩) (hp : k < 3) :
    RecOk ⟨r, d, u, l, b, bu, bl, us, ls, dv, some ((k : Int), t), q1, q2, q3, q4, cu', cl', cb', cbu', cbl'⟩ := ⟨h.us, h.ls, h.dv, fun n t' e => by cases e; omega⟩
theorem putLen {pre : List Int} {n : Int} {ra rb : List Rec} {R R' : Rec} {n1 n2 m1 m2 : Nat} (h : len12 pre (ra ++ R :: rb, n1, n2)) (h' : R'.us.length ≤ R.us.length + 1 ∧ R'.ls.length ≤ R.ls.length + 1) : len12 (pre ++ [n]) (ra ++ R' :: rb, m1, m2) := by
  intro Z hZ
  simp only [List.length_append, List.length_cons, List.length_nil]
  have hR := h R (List.mem_append.mpr (.inr (List.mem_cons_self ..)))
  rcases List.mem_append.mp hZ with g | g
  · have := h Z (List.mem_append.mpr (.inl g)); omega
  · rcases List.mem_cons.mp g with rfl | g
    · omega
    · have := h Z (List.mem_append.mpr (.inr (List.mem_cons_of_mem _ g))); omega
theorem strValues_snoc (c : List (Str × Tok)) (p : Str × Tok) : strValues (c ++ [p]) = strValues c ++ [.str p.1 p.2] := by simp [strValues]
/-- the ledger's greatest address -/
theorem top_of {p : Params} {rs : List Rec} {rest own : List (Addr × Obj)} (hr : rest = rs.flatMap (recLed p) ++ own) (h1 : 1 ≤ rs.length) : ∃ z ∈ rest, ∀ q ∈ rest, @LE.le Nat _ q.1 z.1 := by
  have hne : rest ≠ [] := by
    cases rs with
    | nil => simp at h1
    | cons R r => rw [hr, List.flatMap_cons]; simp [recLed]
  clear hr h1
  induction rest with
  | nil => exact absurd rfl hne
  | cons a r ih =>
    by_cases hr : r = []
    · subst hr
      exact ⟨a, List.mem_cons_self .., fun q hq => by cases List.mem_singleton.mp hq; exact Nat.le_refl _⟩
    · obtain ⟨z, hz, hm⟩ := ih hr
      by_cases hc : @LE.le Nat _ a.1 z.1
      · exact ⟨z, List.mem_cons_of_mem _ hz, fun q hq => by
          rcases List.mem_cons.mp hq with rfl | hq
          · exact hc
          · exact hm q hq⟩
      · exact ⟨a, List.mem_cons_self .., fun q hq => by
          rcases List.mem_cons.mp hq with rfl | hq
          · exact Nat.le_refl _
          · exact Nat.le_trans (hm q hq) (Nat.le_of_lt (Nat.lt_of_not_le hc))⟩
theorem growRec' {p : Params} {lb lo lr la : Addr} {orr oa : Obj} {rs : List Rec} {R' : Rec} {n1 n2 m1 m2 : Nat} {own rest : List (Addr × Obj)} {z : Addr} (hf : facts12 p lb lo lr la orr oa (rs, n1, n2)) (hoff : OwnOff own ((led12 p lb lo lr la orr oa (rs, n1, n2)).map (·.1)))
    (hr : rest = rs.flatMap (recLed p) ++ own) (hz : ∀ q ∈ rest, @LE.le Nat _ q.1 z) (h8 : rs.length < 8) (hok : RecOk R') (hnd : (adrs R').Nodup) (h4 : ∀ a ∈ adrs R', @LT.lt Nat _ lb a ∧ @LT.lt Nat _ lo a ∧ @LT.lt Nat _ lr a ∧ @LT.lt Nat _ la a ∧ @LT.lt Nat _ z a) {news' : List (Addr × Obj)}
    (hn : ∀ q ∈ (lb, W.listOf ((rs.map (fun R : Rec => Value.ref R.b)) ++ [Value.ref R'.b]).toArray m1) :: (lo, W.listOf ((rs.map (fun R : Rec => Value.ref R.r)) ++ [Value.ref R'.r]).toArray m2) :: (lr, orr) :: (la, oa) :: (recLed p R' ++ rest), q ∈ news') :
    facts12 p lb lo lr la orr oa (rs ++ [R'], m1, m2) ∧ OwnOff own ((led12 p lb lo lr la orr oa (rs ++ [R'], m1, m2)).map (·.1)) ∧ (∀ q ∈ led12 p lb lo lr la orr oa (rs ++ [R'], m1, m2), q ∈ news') ∧ ∀ q ∈ own, q ∈ news' := by
  subst hr
  refine growRec hf hoff h8 hok hnd ?_ ?_ hn
  · intro a ha hm
    obtain ⟨e1, e2, e3, e4, e5⟩ := h4 a ha
    rw [adrs12] at hm
    simp only [List.mem_cons] at hm
    rcases hm with rfl | rfl | rfl | rfl | hm
    · exact Nat.lt_irrefl _ e1
    · exact Nat.lt_irrefl _ e2
    · exact Nat.lt_irrefl _ e3
    · exact Nat.lt_irrefl _ e4
    · rw [← adrs_flat p] at hm
      obtain ⟨q, hq, rfl⟩ := List.mem_map.mp hm
      exact Nat.lt_irrefl _ (Nat.lt_of_lt_of_le e5 (hz q (List.mem_append.mpr (.inl hq))))
  · intro a ha q hq e
    obtain ⟨_, _, _, _, e5⟩ := h4 a ha
    exact Nat.lt_irrefl _ (Nat.lt_of_lt_of_le e5 (e ▸ hz q (List.mem_append.mpr (.inr hq))))
theorem growLen {pre : List Int} {n : Int} {rs : List Rec} {R' : Rec} {n1 n2 m1 m2 : Nat} (h : len12 pre (rs, n1, n2)) (h' : R'.us = [] ∧ R'.ls = []) : len12 (pre ++ [n]) (rs ++ [R'], m1, m2) := by
  intro Z hZ
  simp only [List.length_append, List.length_cons, List.length_nil]
  rcases List.mem_append.mp hZ with g | g
  · have := h Z g; omega
  · cases List.mem_singleton.mp g
    rw [h'.1, h'.2]; simp
theorem okNew {r d u l b bu bl : Addr} {q1 q2 q3 q4 : Tok} {cu cl cb cbu cbl : Nat} : RecOk ⟨r, d, u, l, b, bu, bl, [], [], none, none, q1, q2, q3, q4, cu, cl, cb, cbu, cbl⟩ :=
  ⟨(fun _ h => nomatch h), (fun _ h => nomatch h), (fun _ _ h => nomatch h), (fun _ _ h => nomatch h)⟩
theorem pairRec {rs : List Rec} {i : Nat} {x y : Value} (hx : (rs.map fun R => Value.ref R.r)[i]? = some x) (hy : (rs.map fun R => Value.ref R.b)[i]? = some y) : ∃ R ∈ rs, x = .ref R.r ∧ y = .ref R.b := by
  rw [List.getElem?_map] at hx hy
  cases h : rs[i]? with
  | none => rw [h] at hx; cases hx
  | some R => rw [h] at hx hy; cases hx; cases hy; exact ⟨R, List.mem_of_getElem? h, rfl, rfl⟩
theorem recIn {p : Params} {lb lo lr la L : Addr} {orr oa : Obj} {h₀ h : Heap} {rs : List Rec} {R : Rec} {n1 n2 : Nat} {its : List (Addr × Obj)} (hR : R ∈ rs) (N : News h₀ L h (its ++ led12 p lb lo lr la orr oa (rs, n1, n2))) :
    ∃ rest, rest = its ++ led12 p lb lo lr la orr oa (rs, n1, n2) ∧ News h₀ L h (recLed p R ++ rest) :=
  ⟨_, rfl, fun q hq => by
    rcases List.mem_append.mp hq with hq | hq
    · refine N q (List.mem_append.mpr (.inr ?_))
      unfold led12
      refine List.mem_cons_of_mem _ (List.mem_cons_of_mem _ (List.mem_cons_of_mem _ (List.mem_cons_of_mem _ (List.mem_flatMap.mpr ⟨R, hR, hq⟩))))
    · exact N q hq⟩
theorem topNews {h₀ h : Heap} {L : Addr} {a b c d z : Addr × Obj} {rest : List (Addr × Obj)} (N : News h₀ L h (a :: b :: c :: d :: rest)) (hz : z ∈ rest) : News h₀ L h (a :: b :: c :: d :: z :: rest) := fun q hq => N q (by
  simp only [List.mem_cons] at hq ⊢
  rcases hq with h | h | h | h | h | h
  · exact .inl h
  · exact .inr (.inl h)
  · exact .inr (.inr (.inl h))
  · exact .inr (.inr (.inr (.inl h)))
  · exact .inr (.inr (.inr (.inr (h ▸ hz))))
  · exact .inr (.inr (.inr (.inr h))))
theorem growNew {p : Params} {h₀ h : Heap} {L lb lo lr la r d u l b bu bl : Addr} {orr oa : Obj} {rs : List Rec} {lbs los : List Value} {k1 k2 k3 k4 : Tok} {m1 m2 : Nat} {rest : List (Addr × Obj)} {x1 x2 x3 x4 x5 x6 x7 x8 z : Addr × Obj}
    (N : News h₀ L h (x1 :: x2 :: x3 :: x4 :: x5 :: x6 :: x7 :: x8 :: (b, W.listOf #[.ref bu, .ref bl, .none, .none] 0) :: (bl, W.listOf #[] 0) :: (bu, W.listOf #[] 0) :: (l, W.listOf #[] 0) :: (u, W.listOf #[] 0) :: (r, instObj 59 d) ::
      (d, dictOf [{ hash := PyData.keyHash p (Str.ofString "useragents"), key := Value.str (Str.ofString "useragents") k1, val := Value.ref u },
        { hash := PyData.keyHash p (Str.ofString "rulelines"), key := Value.str (Str.ofString "rulelines") k2, val := Value.ref l },
        { hash := PyData.keyHash p (Str.ofString "delay"), key := Value.str (Str.ofString "delay") k3, val := .none },
        { hash := PyData.keyHash p (Str.ofString "req_rate"), key := Value.str (Str.ofString "req_rate") k4, val := .none }] 4) ::
      (lb, W.listOf (lbs ++ [Value.ref b]).toArray m1) :: (lo, W.listOf (los ++ [Value.ref r]).toArray m2) :: (lr, orr) :: (la, oa) :: z :: rest))
    (hb : lbs = rs.map fun R => Value.ref R.b) (ho : los = rs.map fun R => Value.ref R.r) :
    ∃ news' R', News h₀ L h news' ∧ RecOk R' ∧ (R'.us = [] ∧ R'.ls = []) ∧ adrs R' = [u, l, r, d, bu, bl, b] ∧
      ∀ q ∈ (lb, W.listOf ((rs.map (fun R : Rec => Value.ref R.b)) ++ [Value.ref R'.b]).toArray m1) :: (lo, W.listOf ((rs.map (fun R : Rec => Value.ref R.r)) ++ [Value.ref R'.r]).toArray m2) :: (lr, orr) :: (la, oa) :: (recLed p R' ++ rest), q ∈ news' := by
  refine ⟨_, ⟨r, d, u, l, b, bu, bl, [], [], none, none, k1, k2, k3, k4, 0, 0, 0, 0, 0⟩, N, okNew, ⟨rfl, rfl⟩, rfl, ?_⟩
  subst hb ho
  simp only [recLed, List.cons_append, List.nil_append, optV, strValues, List.map_nil]
  iterate 11 (refine all_of_mem (by k_mem) ?_)
  exact fun q hq => by iterate 20 (refine List.mem_cons_of_mem _ ?_)
                       exact hq
end Mine
end secA12d
section secA12e
namespace Mine
section
variable {prog : Program} {w : World} {A : Around} {E : Value → Shared → Prop} {s : Shared} {env : Env} {h₀ : Heap} {target : PySem.Expr} {body : List Stmt} {Q : Flow → Shared → Prop}
def ZipEnd (h₀ : Heap) (L : Addr) (its news : List (Addr × Obj)) (s₁ s₂ : Shared) : Prop :=
  ∃ h' tk m' news', s₂ = { s₁ with heap := h', toks := tk } ∧ Fr h₀ L h' m' ∧ News h₀ L h' news' ∧ ∀ q ∈ its ++ news, q ∈ news'
def ZipPost (h₀ : Heap) (L : Addr) (its news : List (Addr × Obj)) (s₁ : Shared) (Q : Flow → Shared → Prop) (f : Flow) (s₂ : Shared) : Prop :=
  match f with
  | .ret v => Q (.ret v) s₂
  | .brk => Q .next s₂
  | _ => ZipEnd h₀ L its news s₁ s₂
theorem allObj_of {ws : List (Addr × String)} {k : List (Addr × Obj) → Prop} (h : ∀ its, Objs ws its → k its) : AllObj ws k := by
  induction ws generalizing k with
  | nil => exact h [] trivial
  | cons a r ih => exact fun o ho => ih fun its hi => h ((a.1, o) :: its) ⟨⟨rfl, ho⟩, hi⟩
theorem items_zip {ws : List (Addr × String)} {keep news : List (Addr × Obj)} (hk : SubL keep news) (hoff : ∀ its, Objs ws its → ∀ p ∈ news, ∀ q ∈ its, p.1 ≠ q.1) : ∀ (xs ys : List Value),
    (∀ (i : Nat) x y T m h tk its, xs[i]? = some x → ys[i]? = some y → IsTup h T #[x, y] → Fr h₀ env.locals h m → News h₀ env.locals h (its ++ news) →
      wpAny (model prog w) A (assign target env (.ref T)) (fun _ s₂ => wpAny (model prog w) A (execs body env) (ZipPost h₀ env.locals its news { s with heap := h, toks := tk } Q) E s₂) E { s with heap := h, toks := tk }) →
    (∀ m h tk, Fr h₀ env.locals h m → News h₀ env.locals h news → Q .next { s with heap := h, toks := tk }) →
    ∀ m, ItemsRest prog w A E h₀ env target body Q s ws keep (zipItems xs ys) m news := by
  intro xs
  induction xs with
  | nil => intro ys _ done m; simp only [zipItems]; exact fun h tk F N => done m h tk F N
  | cons x r ih =>
    intro ys turn done m
    cases ys with
    | nil => simp only [zipItems]; exact fun h tk F N => done m h tk F N
    | cons y q =>
      simp only [zipItems]
      refine ItemsRest.pair fun T t h tk hT F => allObj_of fun its hits N => ?_
      refine wpAny_mono (turn 0 x y T m h tk its rfl rfl hT F N) (fun _ s₂ h₂ => wpAny_mono h₂ (fun f s₃ p => ?_) fun _ _ e => e) fun _ _ e => e
      have ih' := ih q (fun i x' y' T' m' h' tk' its' hx hy => turn (i + 1) x' y' T' m' h' tk' its' hx hy) done
      cases f with
      | ret v => exact p
      | brk => exact p
      | next =>
        obtain ⟨h', tk', m', news', e, F', N', hs⟩ := p
        exact ⟨h', tk', m', news, e, F', fun z hz => N' z (hs z hz), hoff its hits, hk, ih' m'⟩
      | cont =>
        obtain ⟨h', tk', m', news', e, F', N', hs⟩ := p
        exact ⟨h', tk', m', news, e, F', fun z hz => N' z (hs z hz), hoff its hits, hk, ih' m'⟩
theorem zip_loop {elts : List PySem.Expr} {k : Nat} {pos : Pos} {l1 l2 : Addr} {xs ys : List Value} {n1 n2 : Nat} {m₀ : Str → Option Value} {news : List (Addr × Obj)}
    (hh : A.handled = none) (F : Fr h₀ env.locals s.heap m₀) (N : News h₀ env.locals s.heap news) (hm1 : (l1, W.listOf xs.toArray n1) ∈ news) (hm2 : (l2, W.listOf ys.toArray n2) ∈ news)
    (turn : ∀ (i : Nat) x y T m h tk its, xs[i]? = some x → ys[i]? = some y → IsTup h T #[x, y] → Fr h₀ env.locals h m → News h₀ env.locals h (its ++ news) →
      wpAny (model prog w) A (assign (.Tuple elts k pos) env (.ref T)) (fun _ s₂ => wpAny (model prog w) A (execs body env) (ZipPost h₀ env.locals its news { s with heap := h, toks := tk } Q) E s₂) E { s with heap := h, toks := tk })
    (done : ∀ m h tk, Fr h₀ env.locals h m → News h₀ env.locals h news → Q .next { s with heap := h, toks := tk }) :
    wpAny (model prog w) A (call (.type "zip") [.ref l1, .ref l2]) (fun xv s₁ => wpAny (model prog w) A (pyIter xv) (fun it s₂ => TurnsAt prog w A h₀ env (.Tuple elts k pos) body Q E it s₂) E s₁) E s := by
  refine ktu_zip hh F N hm1 rfl rfl hm2 rfl rfl fun I hI => items_zip ?_ ?_ xs ys turn done m₀
  · exact And.intro hm1 (And.intro hm2 trivial)
  · intro its hits p hp q hq e
    have hq' : q.1 ∈ its.map (·.1) := List.mem_map_of_mem hq
    rw [hits.map] at hq'
    have := hI p hp
    simp only [List.map_cons, List.map_nil, List.mem_cons, List.not_mem_nil, or_false] at hq'
    rw [← e] at hq'
    have h1 : @LT.lt Nat _ p.1 I := this
    rcases hq' with h | h | h | h | h <;> (rw [h] at h1; revert h1; first | exact Nat.lt_irrefl _ | exact fun h => absurd (Nat.lt_of_le_of_lt (Nat.le_add_right I _) h) (Nat.lt_irrefl _))
end
section
variable {prog : Program} {w : World} {A : Around} {E : Value → Shared → Prop} {s : Shared} {Q : Value → Shared → Prop} {h₀ : Heap} {L : Addr} {news : List (Addr × Obj)}
theorem readsStrs (h : Heap) : ∀ c : List (Str × Tok), ReadsAll h (strValues c) (c.map fun p => .str p.1) []
  | [] => .nil
  | p :: r => .cons (as := []) (bs := []) (.str _ _) (readsStrs h r)
def optD : Option (Int × Tok) → PyData
  | none => .none
  | some (n, _) => .int n
theorem readsOpt (h : Heap) : ∀ v : Option (Int × Tok), Reads h (optV v) (optD v) []
  | none => .none
  | some _ => .int _ _
theorem strs_lay {c : List (Str × Tok)} {L : List Str} (hL : L.all PyData.strOk = true) (hc : ∀ p ∈ c, p.1 ∈ L) : PyData.canLayAll0 (c.map fun p => .str p.1) = true ∧ PyData.depthAll (c.map fun p => .str p.1) = 0 := by
  induction c with
  | nil => exact ⟨rfl, rfl⟩
  | cons p r ih =>
    obtain ⟨a, b⟩ := ih fun q hq => hc q (List.mem_cons_of_mem _ hq)
    have h1 := List.all_eq_true.mp hL _ (hc p (List.mem_cons_self ..))
    exact ⟨by simp only [List.map_cons, PyData.canLayAll0, PyData.canLay0, h1, a, Bool.and_self], by simp only [List.map_cons, PyData.depthAll, PyData.depth, b]; rfl⟩
theorem opt_lay (v : Option (Int × Tok)) : (optD v).canLay0 = true ∧ (optD v).depth = 0 := by
  cases v with
  | none => exact ⟨rfl, rfl⟩
  | some p => exact ⟨rfl, rfl⟩
theorem ne_parts {pl u l b bu bl : Addr} {us ls : List (Str × Tok)} {dv rv : Option (Int × Tok)} {n1 n2 n3 n4 n5 n6 : Nat} (N : News h₀ L s.heap news)
    (m1 : (pl, W.listOf #[.ref u, .ref l, optV dv, optV rv] n1) ∈ news) (m2 : (u, W.listOf (strValues us).toArray n2) ∈ news) (m3 : (l, W.listOf (strValues ls).toArray n3) ∈ news)
    (m4 : (b, W.listOf #[.ref bu, .ref bl, optV dv, optV rv] n4) ∈ news) (m5 : (bu, W.listOf (strValues us).toArray n5) ∈ news) (m6 : (bl, W.listOf (strValues ls).toArray n6) ∈ news)
    (hus : ∀ p ∈ us, p.1 ∈ agentsL) (hls : ∀ p ∈ ls, p.1 ∈ rulesL) (hu : A.units + 64 < cLine) (h : Q (.bool false) s) : wpAny (model prog w) A (compareOp .NotEq (.ref pl) (.ref b)) Q E s := by
  obtain ⟨a1, b1⟩ := strs_lay (L := agentsL) (by decide +kernel) hus
  obtain ⟨a2, b2⟩ := strs_lay (L := rulesL) (by decide +kernel) hls
  obtain ⟨a3, b3⟩ := opt_lay dv
  obtain ⟨a4, b4⟩ := opt_lay rv
  have rd : ∀ {p u l : Addr} {n m k : Nat}, (p, W.listOf #[.ref u, .ref l, optV dv, optV rv] n) ∈ news → (u, W.listOf (strValues us).toArray m) ∈ news → (l, W.listOf (strValues ls).toArray k) ∈ news →
      ∃ as, Reads s.heap (.ref p) (.list [.list (us.map fun p => .str p.1), .list (ls.map fun p => .str p.1), optD dv, optD rv]) as := by
    intro p u l n m k i1 i2 i3
    exact ⟨_, reads_list_at (N _ i1).1 rfl rfl (.cons (reads_list_at (N _ i2).1 rfl rfl (by simpa using readsStrs s.heap us)) (.cons (reads_list_at (N _ i3).1 rfl rfl (by simpa using readsStrs s.heap ls)) (.cons (readsOpt _ dv) (.cons (readsOpt _ rv) .nil))))⟩
  obtain ⟨as, r1⟩ := rd m1 m2 m3
  obtain ⟨bs, r2⟩ := rd m4 m5 m6
  have hl : PyData.canLay0 (.list [.list (us.map fun p => .str p.1), .list (ls.map fun p => .str p.1), optD dv, optD rv]) = true := by
    simp only [PyData.canLay0, PyData.canLayAll0, a1, a2, a3, a4, Bool.and_self]
  have hs : SeqAt.shaped (.list [.list (us.map fun p => .str p.1), .list (ls.map fun p => .str p.1), optD dv, optD rv]) = true := by
    unfold SeqAt.shaped
    rw [hl]
    simp only [PyData.depth, PyData.depthAll, b1, b2, b3, b4]
    decide
  refine ne_dataH r1 r2 hs hs hu ?_
  rw [SeqAt.eqv_refl _ hl]
  exact h
end
end Mine
end secA12e
namespace Mine
def Fits (n : Nat) : Prop := n ≤ sizeLine
theorem Fits.out {n : Nat} (h : Fits n) : n ≤ sizeLine := h
theorem off_list {z : Str} {l : List Str} (h : l.contains z = false) {a : Str} (ha : a ∈ l) : z ≠ a := by
  intro e; subst e; rw [List.contains_iff_mem.mpr ha] at h; cases h
def RecDone (us ls : List (Str × Tok)) : Prop := (∀ p ∈ us, p.1 ∈ agentsL) ∧ ∀ p ∈ ls, p.1 ∈ rulesL
theorem handed_opt (v : Option (Int × Tok)) : handedIn (optV v) = true := by cases v <;> rfl
theorem nameNews {h₀ h : Heap} {L : Addr} {news : List (Addr × Obj)} (N : News h₀ L h news) : ∃ n', n' = news ∧ News h₀ L h n' := ⟨_, rfl, N⟩
end Mine
open Mine
local macro_rules | `(tactic| walk_at "go") => `(tactic| repeat' (first | (k_unfold; (try dsimp only)) | walk1 | (dsimp only; walk1)))
local macro_rules | `(tactic| walk_at "pyIter ref") => `(tactic| refine Stop.of ?_)
local macro_rules | `(tactic| walk_at "exec For Name Name cons nil") => `(tactic| refine Stop.of ?_)
local macro_rules | `(tactic| walk_at "call builtin:len cons nil") => `(tactic| (k_here; (with_reducible rename News _ _ _ _ => N'); refine lenL N' (List.Mem.tail _ (List.Mem.head _)) (by with_reducible assumption) (by omega) ?_; intro _ _))
local macro_rules | `(tactic| walk_at "compareOp Lt int int") => `(tactic| (k_here; first | refine ltI_t (by omega) ?_ | refine ltI_f (by omega) ?_))
local macro_rules | `(tactic| walk_at "compareOp Eq int int") => `(tactic| (k_here; first | refine eqI_t (by omega) ?_ | refine eqI_f (by omega) ?_))
local macro_rules | `(tactic| walk_at "binaryOp Mod int int") => `(tactic| (k_here; first | (with_reducible refine mod3b (by with_reducible assumption) ?_; intro _ _ _ _ _ _ _ _ _) | (with_reducible refine modL (by assumption) (by omega) (by with_reducible assumption) ?_; intro _ _)))
local macro_rules | `(tactic| walk_at "binaryOp FloorDiv int int") => `(tactic| (k_here; (with_reducible refine divL (by assumption) (by omega) ?_; intro _ _ _)))
local macro_rules | `(tactic| walk_at "subscriptTail Name Name ref int") => `(tactic| (k_here; (with_reducible rename News _ _ _ _ => N'); first | (refine itemL N' (List.Mem.tail _ (List.Mem.head _)) (by with_reducible assumption) (by omega) ?_) | (refine itemL N' (List.Mem.head _) (by with_reducible assumption) (by omega) ?_) | (refine itemL N' (List.Mem.tail _ (List.Mem.tail _ (List.Mem.head _))) (by with_reducible assumption) (by omega) ?_) | (refine itemL N' (List.Mem.tail _ (List.Mem.tail _ (List.Mem.tail _ (List.Mem.head _)))) (by with_reducible assumption) (by omega) ?_) | refine Stop.of ?_))
local macro_rules | `(tactic| walk_at "callWith ref") => `(tactic| (k_here; k_dflt (first | (refine' callWith_K ?k1 ?k2 ?_; (case k1 => with_reducible assumption); (case k2 => k_is); k_whole) | (refine' callWith_K0 ?k1 ?k2 ?_; (case k1 => first | with_reducible assumption | exact Frag.In.keeps (by with_reducible assumption) (Fr.keep (by with_reducible assumption))); (case k2 => k_is); k_whole))))
local macro_rules | `(tactic| walk_at "newList") => `(tactic| (k_here; k_dflt (refine' newList_K ?k1 ?k2 ?_ ?z; (case k1 => with_reducible assumption); (case k2 => with_reducible assumption); (case z => rw [sizeLine_eq]; exact Nat.le_of_ble_eq_true rfl); k_whole); intro l' h' F' N' l1; (try k_lt l1); (try k_sweep)))
local macro_rules | `(tactic| walk_at "exec For Tuple Call") => `(tactic| refine Stop.of ?_)
local macro_rules | `(tactic| walk_at "call type:zip") => `(tactic| refine Stop.of ?_)
local macro_rules | `(tactic| walk_at "ZipPost") => `(tactic| (dsimp only [ZipPost]))
local macro_rules | `(tactic| walk_at "compareOp NotEq ref ref") => `(tactic| (k_here; (with_reducible rename RecDone _ _ => hD9); refine Stop.of ?_))
local macro_rules | `(tactic| k_handed) => `(tactic| exact handed_opt _)
local macro_rules | `(tactic| walk_at "ZipEnd") => `(tactic| refine Stop.of ?_)
local macro_rules | `(tactic| walk_at "call builtin:list.append") => `(tactic| (k_here; (with_reducible show wpAny _ _ (call (Value.builtin _) [Value.ref _, _]) _ _ _); k_dflt (refine' append_K ?k1 ?k2 ?k3 ?_ ?z; (case k1 => k_asm); (case k2 => k_asm); (case k3 => k_upd); (case z => exact Fits.out (by with_reducible assumption)); k_whole); intro h' F' N'; (try k_sweep)))
local macro_rules | `(tactic| k_ne) => `(tactic| first | with_reducible assumption | (refine Ne.symm ?_; with_reducible assumption))
local macro_rules | `(tactic| k_all) => `(tactic| ((with_reducible rename OwnOff _ _ => hOff9); exact fun q hq => hOff9 q hq _ (by k_mem)))
local macro_rules | `(tactic| walk_at "InvEndG") => `(tactic| refine Stop.of ?_)
set_option maxRecDepth 100000 in
set_option maxHeartbeats 8000000 in
theorem PySem.Challenge.cw_dn0256_12_holds : PySem.Challenge.rw_dn0256_12.Holds := by
  refine Mine.hd12 ?_
  k_go0
  (all_goals try k_fold)
  walk_at "go"
  refine Stop.go ?_
  (rename Fr _ _ _ _ => F1); (rename News _ _ _ _ => N1); (rename IntsAre _ _ => hI1)
  refine For_of F1 rfl rfl ?_
  walk_at "go"
  refine Stop.go ?_
  refine loop12 [Str.ofString "step", Str.ofString "rest", Str.ofString "k", Str.ofString "what"] rfl (by assumption) hI1 F1 N1 ?nd ?turn ?done
  case nd =>
    simp only [List.nodup_cons, List.mem_cons, List.not_mem_nil, not_or, or_false, not_false_eq_true, List.nodup_nil, and_true]
    refine ⟨⟨?_, ?_, ?_, ?_, ?_, ?_, ?_, ?_, ?_, ?_⟩, ⟨?_, ?_, ?_, ?_, ?_, ?_, ?_, ?_, ?_⟩, ⟨?_, ?_, ?_, ?_, ?_, ?_, ?_, ?_⟩, ⟨?_, ?_, ?_, ?_, ?_, ?_, ?_⟩, ⟨?_, ?_, ?_, ?_, ?_, ?_⟩, ⟨?_, ?_, ?_, ?_, ?_⟩, ⟨?_, ?_, ?_, ?_⟩, ⟨?_, ?_, ?_⟩, ⟨?_, ?_⟩, ?_⟩ <;> (intro e; revert e; first | (apply Nat.ne_of_lt; omega) | (apply Nat.ne_of_gt; omega))
  case turn =>
    rintro ⟨rs, n1, n2⟩ pre post n t um h tk own hns hn hoff hf hlen F2 N2
    clear F1 N1
    have hr1 : 1 ≤ rs.length := hf.2.1
    have hr8 : rs.length ≤ 8 := hf.2.2.1
    have hnl : pre.length ≤ 63 := by
      have := congrArg List.length hns
      simp only [List.length_append, List.length_cons] at this
      omega
    by_cases h0 : n.fmod 5 = 0 ∧ rs.length < 8
    · obtain ⟨rest, hrest, N3, hoffr, hnd⟩ := growPick hf hoff N2
      clear N2
      obtain ⟨h00, h08⟩ := h0
      simp only [List.nodup_cons, List.mem_cons, List.not_mem_nil, not_or, or_false, not_false_eq_true, List.nodup_nil, and_true] at hnd
      obtain ⟨⟨a1, a2, a3⟩, ⟨b1, b2⟩, c1⟩ := hnd
      obtain ⟨⟨za, zo⟩, hzm, hzl⟩ := top_of hrest hr1
      have z1 := hoffr _ hzm _ (List.Mem.head _)
      have z2 := hoffr _ hzm _ (List.Mem.tail _ (List.Mem.head _))
      have z3 := hoffr _ hzm _ (List.Mem.tail _ (List.Mem.tail _ (List.Mem.head _)))
      have z4 := hoffr _ hzm _ (List.Mem.tail _ (List.Mem.tail _ (List.Mem.tail _ (List.Mem.head _))))
      dsimp only at z1 z2 z3 z4 hzl
      obtain ⟨los, hlos⟩ : ∃ x, x = List.map (fun R => Value.ref R.r) rs := ⟨_, rfl⟩
      obtain ⟨lbs, hlbs⟩ : ∃ x, x = List.map (fun R => Value.ref R.b) rs := ⟨_, rfl⟩
      obtain ⟨len, hlen'⟩ : ∃ len, rs.length = len := ⟨_, rfl⟩
      rw [hlen'] at h08 hr1 hr8
      have hlb : lbs.length = len := by rw [hlbs, List.length_map]; exact hlen'
      have hlo : los.length = len := by rw [hlos, List.length_map]; exact hlen'
      have hzb : Fits lbs.toArray.size := by unfold Fits; rw [List.size_toArray, sizeLine_eq]; omega
      have hzo : Fits los.toArray.size := by unfold Fits; rw [List.size_toArray, sizeLine_eq]; omega
      rw [← hlos, ← hlbs] at N3
      replace N3 := topNews N3 hzm
      walk_at "go"
      refine Stop.go ?_
      (rename Fr _ _ _ _ => F4); (rename News _ _ _ _ => N4)
      simp only [List.push_toArray] at N4
      obtain ⟨news', R', N5, hok', hlen0, hadr, hn'⟩ := growNew N4 hlbs hlos
      have P := growRec' hf hoff hrest hzl (by rw [hlen']; exact h08) hok' (by
        rw [hadr]
        simp only [List.nodup_cons, List.mem_cons, List.not_mem_nil, not_or, or_false, not_false_eq_true, List.nodup_nil, and_true]
        refine ⟨⟨?_, ?_, ?_, ?_, ?_, ?_⟩, ⟨?_, ?_, ?_, ?_, ?_⟩, ⟨?_, ?_, ?_, ?_⟩, ⟨?_, ?_, ?_⟩, ⟨?_, ?_⟩, ?_⟩ <;> (intro e; revert e; first | (apply Nat.ne_of_lt; omega) | (apply Nat.ne_of_gt; omega))) (by
        rw [hadr]
        intro a ha
        simp only [List.mem_cons, List.not_mem_nil, or_false] at ha
        rcases ha with rfl | rfl | rfl | rfl | rfl | rfl | rfl <;> refine ⟨?_, ?_, ?_, ?_, ?_⟩ <;> omega) hn'
      refine kstG_end (rs ++ [R'], n1 + 1, n2 + 1) F4 N5 P.2.2.1 P.2.2.2 P.2.1 P.1 (fun _ h => nomatch h) (fun z hz _ hst => ?_) (growLen hlen hlen0)
      · have k1 := off_list hst (a := Str.ofString "step") (by decide)
        have k2 := off_list hst (a := Str.ofString "rest") (by decide)
        simp only [if_neg hz, if_neg k1, if_neg k2, hst, Bool.false_eq_true, if_false]
    · obtain ⟨k, hk⟩ : ∃ k : Nat, Int.fmod (Int.fdiv n 5) (rs.length : Int) = (k : Int) := ⟨_, (Int.toNat_of_nonneg (Int.fmod_nonneg_of_pos _ (by omega))).symm⟩
      have hkl : k < rs.length := by
        have := Int.fmod_lt_of_pos (Int.fdiv n 5) (b := (rs.length : Int)) (by omega)
        omega
      obtain ⟨ra, R, rb, hrs, hra⟩ : ∃ ra R rb, rs = ra ++ R :: rb ∧ ra.length = k := ⟨rs.take k, rs[k], rs.drop (k + 1), by simp, by simp; omega⟩
      obtain ⟨len, hlen'⟩ : ∃ len, rs.length = len := ⟨_, rfl⟩
      rw [hlen'] at hk hr1 hr8 h0 hkl
      subst hrs
      have hlb : (List.map (fun R => Value.ref R.b) (ra ++ R :: rb)).length = len := by rw [List.length_map]; exact hlen'
      have hlo : (List.map (fun R => Value.ref R.r) (ra ++ R :: rb)).length = len := by rw [List.length_map]; exact hlen'
      obtain ⟨rest, hrest, N3, hoffr, hnd⟩ := pickRec hf hoff N2
      clear N2
      simp only [adrs, List.nodup_cons, List.mem_cons, List.not_mem_nil, not_or, or_false, not_false_eq_true, List.nodup_nil, and_true] at hnd
      obtain ⟨⟨a1, a2, a3, a4, a5, a6, a7, a8, a9, a10⟩, ⟨b1, b2, b3, b4, b5, b6, b7, b8, b9⟩, ⟨c1, c2, c3, c4, c5, c6, c7, c8⟩, ⟨d1, d2, d3, d4, d5, d6, d7⟩, ⟨e1, e2, e3, e4, e5, e6⟩, ⟨f1, f2, f3, f4, f5⟩, ⟨g1, g2, g3, g4⟩, ⟨i1, i2, i3⟩, ⟨j1, j2⟩, k1⟩ := hnd
      obtain ⟨⟨fr, hfr⟩, ⟨fa, hfa⟩⟩ := three_of N3
      have hfra := And.intro hfr hfa
      have hgo := pick_get (rb := rb) (R := R) hra fun R => Value.ref R.r
      have hgb := pick_get (rb := rb) (R := R) hra fun R => Value.ref R.b
      have hRl := hlen R (by simp)
      have hus : Fits (strValues R.us).toArray.size := by unfold Fits; rw [List.size_toArray, strValues_length, sizeLine_eq]; omega
      have hls : Fits (strValues R.ls).toArray.size := by unfold Fits; rw [List.size_toArray, strValues_length, sizeLine_eq]; omega
      obtain ⟨los, hlos⟩ : ∃ x, x = List.map (fun R => Value.ref R.r) (ra ++ R :: rb) := ⟨_, rfl⟩
      obtain ⟨lbs, hlbs⟩ : ∃ x, x = List.map (fun R => Value.ref R.b) (ra ++ R :: rb) := ⟨_, rfl⟩
      rw [← hlos] at N3 hlo hgo
      rw [← hlbs] at N3 hlb hgb
      obtain ⟨r, d, u, l, b, bu, bl, us, ls, dv, rv, q1, q2, q3, q4, cu, cl, cb, cbu, cbl⟩ := R
      dsimp only [recLed, List.cons_append, List.nil_append] at N3 hgo hgb hus hls a1 a2 a3 a4 a5 a6 a7 a8 a9 a10 b1 b2 b3 b4 b5 b6 b7 b8 b9 c1 c2 c3 c4 c5 c6 c7 c8 d1 d2 d3 d4 d5 d6 d7 e1 e2 e3 e4 e5 e6 f1 f2 f3 f4 f5 g1 g2 g3 g4 i1 i2 i3 j1 j2 k1
      dsimp only [adrs] at hoffr
      have hst : n.fmod 5 = 0 ∨ n.fmod 5 = 1 ∨ n.fmod 5 = 2 ∨ n.fmod 5 = 3 ∨ n.fmod 5 = 4 := by
        have := Int.fmod_nonneg_of_pos n (b := 5) (by decide)
        have := Int.fmod_lt_of_pos n (b := 5) (by decide)
        omega
      have hok0 := hf.2.2.2 _ (List.mem_append.mpr (.inr (List.mem_cons_self ..)))
      rcases hst with h5 | h5 | h5 | h5 | h5
      · walk_at "go"
        refine Stop.go ?_
        (rename Fr _ _ _ _ => F4); (rename News _ _ _ _ => N4); (with_reducible rename What _ _ => hW)
        obtain ⟨kq, tq, rfl, rfl, hk3⟩ := hW.name
        simp only [List.push_toArray] at N4
        obtain ⟨news', hnews, N5⟩ := nameNews N4
        have P := putRec (R' := ⟨r, d, u, l, b, bu, bl, us, ls, dv, some ((kq : Int), tq), q1, q2, q3, q4, cu, cl, cb, cbu, cbl⟩) hf hoff hrest rfl (okR hok0 hk3) (news' := news') (by
          rw [hnews, ← hlos, ← hlbs]
          simp only [recLed, strValues_snoc, List.cons_append, List.nil_append]
          repeat (refine all_of_mem (by k_mem) ?_)
          exact fun q hq => by (repeat (first | exact hq | refine List.mem_cons_of_mem _ ?_)))
        refine kstG_end (ra ++ _ :: rb, n1, n2) F4 N5 P.2.2.1 P.2.2.2 P.2.1 P.1 (fun _ h => nomatch h) (fun z hz _ hst => ?_) (putLen hlen ?_)
        · have k1 := off_list hst (a := Str.ofString "step") (by decide)
          have k2 := off_list hst (a := Str.ofString "rest") (by decide)
          have k3 := off_list hst (a := Str.ofString "k") (by decide)
          have k4 := off_list hst (a := Str.ofString "what") (by decide)
          simp only [if_neg hz, if_neg k1, if_neg k2, if_neg k3, if_neg k4, hst, Bool.false_eq_true, if_false]
        · simp only [List.length_append, List.length_cons, List.length_nil]; omega
      · walk_at "go"
        refine Stop.go ?_
        (rename Fr _ _ _ _ => F4); (rename News _ _ _ _ => N4); (with_reducible rename What _ _ => hW)
        obtain ⟨kq, tq, rfl, rfl, hk3⟩ := hW.name
        simp only [List.push_toArray] at N4
        obtain ⟨news', hnews, N5⟩ := nameNews N4
        have P := putRec (R' := ⟨r, d, u, l, b, bu, bl, us ++ [fa kq], ls, dv, rv, q1, q2, q3, q4, cu + 1, cl, cb, cbu + 1, cbl⟩) hf hoff hrest rfl (okU hok0 (by with_reducible assumption)) (news' := news') (by
          rw [hnews, ← hlos, ← hlbs]
          simp only [recLed, strValues_snoc, List.cons_append, List.nil_append]
          repeat (refine all_of_mem (by k_mem) ?_)
          exact fun q hq => by (repeat (first | exact hq | refine List.mem_cons_of_mem _ ?_)))
        refine kstG_end (ra ++ _ :: rb, n1, n2) F4 N5 P.2.2.1 P.2.2.2 P.2.1 P.1 (fun _ h => nomatch h) (fun z hz _ hst => ?_) (putLen hlen ?_)
        · have k1 := off_list hst (a := Str.ofString "step") (by decide)
          have k2 := off_list hst (a := Str.ofString "rest") (by decide)
          have k3 := off_list hst (a := Str.ofString "k") (by decide)
          have k4 := off_list hst (a := Str.ofString "what") (by decide)
          simp only [if_neg hz, if_neg k1, if_neg k2, if_neg k3, if_neg k4, hst, Bool.false_eq_true, if_false]
        · simp only [List.length_append, List.length_cons, List.length_nil]; omega
      · walk_at "go"
        refine Stop.go ?_
        (rename Fr _ _ _ _ => F4); (rename News _ _ _ _ => N4); (with_reducible rename What _ _ => hW)
        obtain ⟨kq, tq, rfl, rfl, hk3⟩ := hW.name
        simp only [List.push_toArray] at N4
        obtain ⟨news', hnews, N5⟩ := nameNews N4
        have P := putRec (R' := ⟨r, d, u, l, b, bu, bl, us, ls ++ [fr kq], dv, rv, q1, q2, q3, q4, cu, cl + 1, cb, cbu, cbl + 1⟩) hf hoff hrest rfl (okL hok0 (by with_reducible assumption)) (news' := news') (by
          rw [hnews, ← hlos, ← hlbs]
          simp only [recLed, strValues_snoc, List.cons_append, List.nil_append]
          repeat (refine all_of_mem (by k_mem) ?_)
          exact fun q hq => by (repeat (first | exact hq | refine List.mem_cons_of_mem _ ?_)))
        refine kstG_end (ra ++ _ :: rb, n1, n2) F4 N5 P.2.2.1 P.2.2.2 P.2.1 P.1 (fun _ h => nomatch h) (fun z hz _ hst => ?_) (putLen hlen ?_)
        · have k1 := off_list hst (a := Str.ofString "step") (by decide)
          have k2 := off_list hst (a := Str.ofString "rest") (by decide)
          have k3 := off_list hst (a := Str.ofString "k") (by decide)
          have k4 := off_list hst (a := Str.ofString "what") (by decide)
          simp only [if_neg hz, if_neg k1, if_neg k2, if_neg k3, if_neg k4, hst, Bool.false_eq_true, if_false]
        · simp only [List.length_append, List.length_cons, List.length_nil]; omega
      · walk_at "go"
        refine Stop.go ?_
        (rename Fr _ _ _ _ => F4); (rename News _ _ _ _ => N4); (with_reducible rename What _ _ => hW)
        obtain ⟨kq, tq, rfl, rfl, hk3⟩ := hW.name
        simp only [List.push_toArray] at N4
        obtain ⟨news', hnews, N5⟩ := nameNews N4
        have P := putRec (R' := ⟨r, d, u, l, b, bu, bl, us, ls, some ((kq : Int), tq), rv, q1, q2, q3, q4, cu, cl, cb, cbu, cbl⟩) hf hoff hrest rfl (okD hok0 hk3) (news' := news') (by
          rw [hnews, ← hlos, ← hlbs]
          simp only [recLed, strValues_snoc, List.cons_append, List.nil_append]
          repeat (refine all_of_mem (by k_mem) ?_)
          exact fun q hq => by (repeat (first | exact hq | refine List.mem_cons_of_mem _ ?_)))
        refine kstG_end (ra ++ _ :: rb, n1, n2) F4 N5 P.2.2.1 P.2.2.2 P.2.1 P.1 (fun _ h => nomatch h) (fun z hz _ hst => ?_) (putLen hlen ?_)
        · have k1 := off_list hst (a := Str.ofString "step") (by decide)
          have k2 := off_list hst (a := Str.ofString "rest") (by decide)
          have k3 := off_list hst (a := Str.ofString "k") (by decide)
          have k4 := off_list hst (a := Str.ofString "what") (by decide)
          simp only [if_neg hz, if_neg k1, if_neg k2, if_neg k3, if_neg k4, hst, Bool.false_eq_true, if_false]
        · simp only [List.length_append, List.length_cons, List.length_nil]; omega
      · walk_at "go"
        refine Stop.go ?_
        (rename Fr _ _ _ _ => F4); (rename News _ _ _ _ => N4); (with_reducible rename What _ _ => hW)
        obtain ⟨kq, tq, rfl, rfl, hk3⟩ := hW.name
        simp only [List.push_toArray] at N4
        obtain ⟨news', hnews, N5⟩ := nameNews N4
        have P := putRec (R' := ⟨r, d, u, l, b, bu, bl, us, ls, dv, some ((kq : Int), tq), q1, q2, q3, q4, cu, cl, cb, cbu, cbl⟩) hf hoff hrest rfl (okR hok0 hk3) (news' := news') (by
          rw [hnews, ← hlos, ← hlbs]
          simp only [recLed, strValues_snoc, List.cons_append, List.nil_append]
          repeat (refine all_of_mem (by k_mem) ?_)
          exact fun q hq => by (repeat (first | exact hq | refine List.mem_cons_of_mem _ ?_)))
        refine kstG_end (ra ++ _ :: rb, n1, n2) F4 N5 P.2.2.1 P.2.2.2 P.2.1 P.1 (fun _ h => nomatch h) (fun z hz _ hst => ?_) (putLen hlen ?_)
        · have k1 := off_list hst (a := Str.ofString "step") (by decide)
          have k2 := off_list hst (a := Str.ofString "rest") (by decide)
          have k3 := off_list hst (a := Str.ofString "k") (by decide)
          have k4 := off_list hst (a := Str.ofString "what") (by decide)
          simp only [if_neg hz, if_neg k1, if_neg k2, if_neg k3, if_neg k4, hst, Bool.false_eq_true, if_false]
        · simp only [List.length_append, List.length_cons, List.length_nil]; omega
  case done =>
    rintro ⟨rs, n1, n2⟩ um h tk hf hlen F2 N2
    clear F1 N1
    dsimp only
    walk_at "go"
    refine Stop.go ?_
    (rename Fr _ _ _ _ => F2)
    refine For_turns F2 ?_
    walk_at "go"
    refine Stop.go ?_
    (rename Fr _ _ _ _ => F3); (rename News _ _ _ _ => N3)
    refine zip_loop rfl F3 N3 (List.Mem.tail _ (List.Mem.head _)) (List.Mem.head _) ?zt ?zd
    case zd =>
      clear F3 N3
      intro m h tk F4 N4
      walk_at "go"
      k_steps
    case zt =>
      clear F3 N3
      intro i x y T m h tk its hx hy hT F4 N4
      obtain ⟨R, hR, rfl, rfl⟩ := pairRec hx hy
      obtain ⟨rest, hrest, N5⟩ := recIn hR N4
      clear N4 hx hy
      have hok : RecDone R.us R.ls := ⟨(hf.2.2.2 R hR).us, (hf.2.2.2 R hR).ls⟩
      obtain ⟨r, d, u, l, b, bu, bl, us, ls, dv, rv, q1, q2, q3, q4, cu, cl, cb, cbu, cbl⟩ := R
      dsimp only [recLed, List.cons_append, List.nil_append] at N5 hT hok ⊢
      walk_at "go"
      refine Stop.go ?_
      (rename News _ _ _ _ => N6); (with_reducible rename RecDone _ _ => hok)
      refine ne_parts N6 (List.Mem.head _) (List.Mem.tail _ (List.Mem.head _)) (List.Mem.tail _ (List.Mem.tail _ (List.Mem.head _))) (List.Mem.tail _ (List.Mem.tail _ (List.Mem.tail _ (List.Mem.tail _ (List.Mem.tail _ (List.Mem.tail _ (List.Mem.tail _ (List.Mem.head _)))))))) (List.Mem.tail _ (List.Mem.tail _ (List.Mem.tail _ (List.Mem.tail _ (List.Mem.tail _ (List.Mem.head _)))))) (List.Mem.tail _ (List.Mem.tail _ (List.Mem.tail _ (List.Mem.tail _ (List.Mem.tail _ (List.Mem.tail _ (List.Mem.head _))))))) hok.1 hok.2 (by ke_room) ?_
      walk_at "go"
      refine Stop.go ?_
      (rename Fr _ _ _ _ => F6); (rename News _ _ _ _ => N6)
      refine ⟨_, _, _, _, rfl, F6, N6, ?_⟩
      rw [← hrest]
      exact fun q hq => by (repeat (first | exact hq | refine List.mem_cons_of_mem _ ?_))
