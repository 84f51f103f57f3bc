import PyProof.Rows.All
import Wide.All
import OpenK.AllK
import Wide.FinOn
import PySem.Challenge.RW_dn0256_07
open PySem PySem.W PyProof.Rows
set_option Elab.async false
set_option maxRecDepth 100000
set_option maxHeartbeats 8000000
section secMBase
namespace Mine
def Ext (h h' : Heap) : Prop := ∀ b o, h.get? b = some o → h'.get? b = some o
theorem Ext.refl {h : Heap} : Ext h h := fun _ _ e => e
theorem Ext.trans {h h' h'' : Heap} (a : Ext h h') (b : Ext h' h'') : Ext h h'' := fun x o e => b x o (a x o e)

theorem slot_translate : Slot "str" "translate" "str.translate" :=
  .of (owner := "str") (n := "translate") (by rw [typeLookup_type, builtinLookup_eq_fast]; kernel_rfl) (by decide +kernel) (by decide +kernel) (by decide +kernel)
    (by first | exact .inl (by decide +kernel) | exact .inr (by decide +kernel)) (by rw [isSubtype_type]; kernel_rfl)
theorem type_translate : typeOf (.builtin "str.translate") = pure (.type "method_descriptor") := by show builtinType _ = _; rw [builtinType_eq_fast]; kernel_rfl
theorem entry_translate : entryFor table "str.translate" = some Builtin.«str.translate» := entryFor_of_tree (by kernel_rfl)
theorem args_translate (a b : Value) : argsOk "str.translate" ⟨[a, b], []⟩ := by
  unfold argsOk; kernel_rfl

theorem gm_translate {M : Model} {A : Around} {E : Value → Shared → Prop} {s : Shared} {x : Str} {t : Tok} {pl : Sem Bool} {Q : Value × List Value → Shared → Prop}
    (h : Q (.builtin "str.translate", [.str x t]) s) : wpAny M A (getMethod (.str x t) "translate" pl) Q E s := by
  with_reducible exact GM.of (.str x t) (typeIs_str _ _ _) slot_translate type_translate GM.noRef h

/-- the signs that have a meaning -/
def specs : List Nat := [40, 41, 91, 93, 123, 125, 63, 42, 43, 45, 124, 94, 36, 92, 46, 38, 126, 35, 32, 9, 10, 13, 11, 12]
def spec (c : Nat) : Bool := specs.contains c

def TabEsc (prog : Program) (w : World) (h : Heap) (d : Addr) : Prop :=
  ∃ f, h.MapOf (intKind prog w) d f ∧ ∀ c : Nat, (spec c = true → ∃ t, f (c : Int) = some (.str ⟨#[92, c]⟩ t)) ∧ (spec c = false → f (c : Int) = none)
theorem TabEsc.ext {prog : Program} {w : World} {h h' : Heap} {d : Addr} (T : TabEsc prog w h d) (e : Ext h h') : TabEsc prog w h' d := by
  obtain ⟨f, ⟨o, es, ep, ho, r⟩, hf⟩ := T
  exact ⟨f, ⟨o, es, ep, e _ _ ho, r⟩, hf⟩

def entOk (e : DictEntry) : Bool := match e.key with | .int i _ => e.hash == hashInt i | _ => false
def escOk (e : DictEntry) : Bool := match e.key, e.val with | .int i _, .str y _ => decide (0 ≤ i) && y == ⟨#[92, i.toNat]⟩ && spec i.toNat | _, _ => false
theorem tabEsc_of {prog : Program} {w : World} {h : Heap} {d : Addr} {es : List DictEntry} {ep : Nat} (ho : h.get? d = some { cls := .type "dict", data := .dict es.toArray ep })
    (h1 : es.all entOk = true) (h2 : es.all escOk = true) (h3 : specs.all (fun c => es.any (fun e => Value.isInt (c : Int) e.key)) = true) : TabEsc prog w h d := by
  refine ⟨fun k => findBy (intKind prog w).is es.toArray k, ⟨_, _, _, ho, ⟨rfl, rfl, rfl⟩, rfl, ?_, fun k => rfl⟩, fun c => ⟨fun hc => ?_, fun hc => ?_⟩⟩
  · intro e he
    have := List.all_eq_true.mp h1 e (by simpa using he)
    unfold entOk at this
    split at this
    · rename_i i t hk
      exact ⟨i, by rw [hk]; exact intKind_is _ _ _ _, beq_iff_eq.mp this⟩
    · cases this
  · have hm : c ∈ specs := by simpa [spec] using hc
    have ha := List.all_eq_true.mp h3 c hm
    show ∃ t, findBy (intKind prog w).is es.toArray (c : Int) = _
    unfold findBy
    rw [← Array.find?_toList]
    cases hf : es.toArray.toList.find? (fun e => (intKind prog w).is (c : Int) e.key) with
    | none =>
      obtain ⟨e, he, hk⟩ := List.any_eq_true.mp ha
      have := List.find?_eq_none.mp hf e (by simpa using he)
      exact absurd hk this
    | some e =>
      have hk := List.find?_some hf
      have he : e ∈ es := by simpa using List.mem_of_find?_eq_some hf
      have h2' := List.all_eq_true.mp h2 e he
      obtain ⟨hash, key, val⟩ := e
      cases key with
      | int i t =>
        cases val with
        | str y tv =>
          simp only [escOk, Bool.and_eq_true, decide_eq_true_eq, beq_iff_eq] at h2'
          have hi : i = (c : Int) := by simpa [intKind, Value.isInt] using hk
          subst hi
          obtain ⟨⟨_, hy⟩, _⟩ := h2'
          exact ⟨tv, by rw [hy]; simp⟩
        | _ => cases h2'
      | _ => cases hk
  · show findBy (intKind prog w).is es.toArray (c : Int) = none
    unfold findBy
    rw [← Array.find?_toList]
    cases hf : es.toArray.toList.find? (fun e => (intKind prog w).is (c : Int) e.key) with
    | none => rfl
    | some e =>
      exfalso
      have hk := List.find?_some hf
      have he : e ∈ es := by simpa using List.mem_of_find?_eq_some hf
      have h2' := List.all_eq_true.mp h2 e he
      obtain ⟨hash, key, val⟩ := e
      cases key with
      | int i t =>
        cases val with
        | str y tv =>
          simp only [escOk, Bool.and_eq_true, decide_eq_true_eq, beq_iff_eq] at h2'
          have hi : i = (c : Int) := by simpa [intKind, Value.isInt] using hk
          subst hi
          have := h2'.2
          simp [hc] at this
        | _ => cases h2'
      | _ => cases hk

open Builtin Builtin.Str in
theorem lookup_esc {prog : Program} {w : World} {A : Around} {E : Value → Shared → Prop} {s : Shared} {d : Addr} {c : Nat} {Q : Mapped → Shared → Prop}
    (hh : A.handled = none) (hd : (d == sysModules) = false) (T : TabEsc prog w s.heap d)
    (hQ : ∀ h' tk, Ext s.heap h' → Q (if spec c = true then .text ⟨#[92, c]⟩ else .keep) { s with heap := h', toks := tk }) :
    wpAny (model prog w) A (tableLookup (.ref d) c) Q E s := by
  obtain ⟨f, hm, hf⟩ := T
  unfold tableLookup
  refine wpAny_bind (wpAny_attempt (wpAny_bind (wpAny_mkInt ?_)))
  cases hc : spec c with
  | true =>
    obtain ⟨t, ht⟩ := (hf c).1 hc
    refine wpAny_getItem_of (intKind_is _ _ _ _) hm ht ?_
    rw [hc] at hQ
    refine wpAny_bind (m := asInt? _) (wpAny_pure ?_)
    refine wpAny_bind (m := asStr? _) (wpAny_pure ?_)
    exact wpAny_pure (hQ _ _ Ext.refl)
  | false =>
    have ht := (hf c).2 hc
    refine wpAny_getItem_missing_of (intKind_is _ _ _ _) hd hh hm ht ?_
    intro h' e hx
    obtain ⟨ob, t, h1, h2, h3⟩ := hx.there
    rw [hc] at hQ
    refine wpAny_bind (wpAny_isInstance (T := "KeyError") (b := true) ⟨ob, h1, h2⟩ (by rw [isSubtype_type]; kernel_rfl) ?_)
    exact wpAny_bind (wpAny_rule (wpAny_pure (hQ _ _ hx.keeps)))

/-- a text with its signs that have a meaning masked -/
def escL (l : List Nat) : List Nat := l.flatMap fun c => if spec c = true then [92, c] else [c]
theorem escL_append (a b : List Nat) : escL (a ++ b) = escL a ++ escL b := by simp [escL]
theorem escL_length (l : List Nat) : (escL l).length ≤ 2 * l.length := by
  induction l with
  | nil => simp [escL]
  | cons c r ih =>
    have : escL (c :: r) = (if spec c = true then [92, c] else [c]) ++ escL r := rfl
    rw [this, List.length_append, List.length_cons]
    split <;> simp <;> omega
def esc (x : Str) : Str := ⟨(escL x.cps.toList).toArray⟩

theorem foldl_cps (l : List Str) : ∀ a : Array Nat, (l.foldl (fun acc p => acc ++ p.cps) a) = (a.toList ++ (l.map (·.cps.toList)).flatten).toArray := by
  induction l with
  | nil => intro a; simp
  | cons p r ih => intro a; rw [List.foldl_cons, ih]; simp

theorem mem_lookup {α β : Type} [BEq α] [LawfulBEq α] {c : α} {a : β} : ∀ {l : List (α × β)}, l.lookup c = some a → (c, a) ∈ l
  | [], h => by cases h
  | (k, v) :: r, h => by
    rw [List.lookup_cons] at h
    split at h
    · rename_i e; cases h; rw [eq_of_beq e]; exact List.mem_cons_self
    · exact List.mem_cons_of_mem _ (mem_lookup h)

theorem escL_one (c : Nat) : escL [c] = if spec c = true then [92, c] else [c] := by simp [escL]

open Builtin Builtin.Str in
theorem call_translate {prog : Program} {w : World} {A : Around} {E : Value → Shared → Prop} {s : Shared} {d : Addr} {x : Str} {t : Tok} {Q : Value → Shared → Prop}
    (hh : A.handled = none) (hd : (d == sysModules) = false) (T : TabEsc prog w s.heap d) (hx : x.length ≤ 100000)
    (hQ : ∀ h' tk tk', Ext s.heap h' → Q (.str (esc x) tk') { s with heap := h', toks := tk }) :
    wpAny (model prog w) A (call (.builtin "str.translate") [.str x t, .ref d]) Q E s := by
  refine wpAny_call_entry slot_translate (typeIs_str _ _ _) entry_translate ?_ (args_translate _ _)
  unfold Builtin.«str.translate»
  refine wpAny_bind (m := strOneArg _ _) (wpAny_pure ?_)
  dsimp only
  have hlen : x.cps.toList.length = x.length := by simp [Str.length]
  refine wpAny_ite_split (fun h0 => ?_) (fun h0 => ?_)
  · refine wpAny_bind (wpAny_rule ?_)
    refine wpAny_bind (m := strUnchanged _ _) (wpAny_pure ?_)
    have e : x.cps.toList = [] := List.length_eq_zero_iff.mp (by rw [hlen]; simpa using h0)
    have : esc x = x := by
      unfold esc; rw [e]; cases x with | mk cps => simp at e; subst e; rfl
    rw [this] at hQ
    exact wpAny_pure ⟨_, rfl, hQ _ _ _ Ext.refl⟩
  refine wpAny_bind (wpAny_forIn_array' _ (fun rest (b : List Str × Nat × Bool × List (Nat × Option Nat) × Bool) s' =>
    ∃ h' tk pre, s' = { s with heap := h', toks := tk } ∧ Ext s.heap h' ∧ x.cps.toList = pre ++ rest ∧ (b.1.reverse.map (·.cps.toList)).flatten = escL pre ∧ b.2.1 = (escL pre).length ∧ b.2.2.2.2 = false ∧
      ∀ c a, (c, a) ∈ b.2.2.2.1 → a = some c ∧ spec c = false) _ ?_ ?_ _ _ ⟨s.heap, s.toks, [], rfl, Ext.refl, rfl, rfl, rfl, rfl, fun _ _ h => nomatch h⟩)
  · rintro c rest ⟨pieces, total, fast, known, afterDrop⟩ s' ⟨h', tk, pre, rfl, he, hpre, hp, ht, ha, hk⟩
    dsimp only at hp ht ha hk ⊢
    subst ha
    have hlp := escL_length pre
    have hl2 : pre.length ≤ 100000 := by
      have := congrArg List.length hpre
      rw [List.length_append] at this; omega
    have T' : TabEsc prog w h' d := T.ext he
    have htot : tooLong total = false := by
      unfold tooLong; rw [sizeLine_eq, ht]; exact decide_eq_false (by omega)
    rw [htot]
    have keepIt : ∀ (known' : List (Nat × Option Nat)) (fast' : Bool) (h'' : Heap) (tk' : Nat), Ext s.heap h'' → spec c = false → (∀ c a, (c, a) ∈ known' → a = some c ∧ spec c = false) →
        ∃ h₁ tk₁ pre₁, ({ s with heap := h'', toks := tk' } : Shared) = { s with heap := h₁, toks := tk₁ } ∧ Ext s.heap h₁ ∧ x.cps.toList = pre₁ ++ rest ∧ (((⟨#[c]⟩ : Str) :: pieces).reverse.map (·.cps.toList)).flatten = escL pre₁ ∧ total + 1 = (escL pre₁).length ∧ false = false ∧
          ∀ c a, (c, a) ∈ known' → a = some c ∧ spec c = false := by
      intro known' fast' h'' tk' he' hs hk'
      refine ⟨h'', tk', pre ++ [c], rfl, he', by rw [hpre]; simp, ?_, ?_, rfl, hk'⟩
      · rw [escL_append, ← hp, escL_one, hs]; simp
      · rw [escL_append, escL_one, hs, ht]; simp
    have slow : ∀ (known' : List (Nat × Option Nat)) (fast' : Bool) (h'' : Heap) (tk' : Nat), Ext s.heap h'' → (∀ c a, (c, a) ∈ known' → a = some c ∧ spec c = false) →
        wpAny (model prog w) A.in1 (do
          let __do_lift ← tableLookup (.ref d) c
          match __do_lift with
            | Mapped.keep => pure (ForInStep.yield ((⟨#[c]⟩ : Str) :: pieces, total + 1, fast', known', false))
            | Mapped.drop => pure (ForInStep.yield (pieces, total, fast', known', true))
            | Mapped.char d => pure (ForInStep.yield ((⟨#[d]⟩ : Str) :: pieces, total + 1, fast', known', false))
            | Mapped.text t => pure (ForInStep.yield (t :: pieces, total + t.length, fast', known', false)))
          (fun r s' => match r with
            | ForInStep.yield b => ∃ h' tk pre, s' = { s with heap := h', toks := tk } ∧ Ext s.heap h' ∧ x.cps.toList = pre ++ rest ∧ (b.1.reverse.map (·.cps.toList)).flatten = escL pre ∧ b.2.1 = (escL pre).length ∧ b.2.2.2.2 = false ∧
               ∀ c a, (c, a) ∈ b.2.2.2.1 → a = some c ∧ spec c = false
            | ForInStep.done b => False) E { s with heap := h'', toks := tk' } := by
      intro known' fast' h'' tk' he' hk'
      refine wpAny_bind (lookup_esc (A := A.in1) hh hd (T.ext he') fun h₂ tk₂ he₂ => ?_)
      cases hs : spec c with
      | false =>
        simp only [Bool.false_eq_true, if_false]
        exact wpAny_pure (keepIt known' fast' h₂ tk₂ (he'.trans he₂) hs hk')
      | true =>
        simp only [if_true]
        refine wpAny_pure ⟨h₂, tk₂, pre ++ [c], rfl, he'.trans he₂, by rw [hpre]; simp, ?_, ?_, rfl, hk'⟩
        · show ((((⟨#[92, c]⟩ : Str) :: pieces).reverse.map (·.cps.toList)).flatten) = _
          rw [escL_append, ← hp, escL_one, hs]; simp
        · rw [escL_append, escL_one, hs, ht]; simp [Str.length]
    simp only [Bool.false_eq_true, if_false]
    cases fast with
    | false =>
      simp only [Bool.false_eq_true, if_false]
      refine wpAny_mono (slow known false h' tk he hk) (fun r s₂ hr => ?_) (fun _ _ e => e)
      cases r with
      | yield b => exact hr
      | done b => exact hr.elim
    | true =>
      simp only [if_true]
      cases hl : List.lookup c known with
      | some a =>
        obtain ⟨rfl, hs⟩ := hk c a (mem_lookup hl)
        dsimp only
        exact wpAny_bind (wpAny_pure (wpAny_pure (keepIt known true h' tk he hs hk)))
      | none =>
        dsimp only
        refine wpAny_bind (lookup_esc (A := A.in1) hh hd T' fun h₂ tk₂ he₂ => ?_)
        cases hs : spec c with
        | false =>
          simp only [Bool.false_eq_true, if_false]
          refine wpAny_bind (wpAny_pure (wpAny_pure (keepIt _ true h₂ tk₂ (he.trans he₂) hs ?_)))
          intro c' a' hm
          rcases List.mem_cons.mp hm with e | hm
          · cases e; exact ⟨rfl, hs⟩
          · exact hk c' a' hm
        | true =>
          simp only [if_true]
          refine wpAny_bind (wpAny_pure ?_)
          refine wpAny_bind (wpAny_rule ?_)
          refine wpAny_mono (slow known false h₂ tk₂ (he.trans he₂) hk) (fun r s₂ hr => ?_) (fun _ _ e => e)
          cases r with
          | yield b => exact hr
          | done b => exact hr.elim
  · rintro ⟨pieces, total, fast, known, afterDrop⟩ s' ⟨h', tk, pre, rfl, he, hpre, hp, ht, ha, hk⟩
    dsimp only at hp ht ha hk ⊢
    have hlp := escL_length pre
    rw [List.append_nil] at hpre
    have htot : tooLong total = false := by
      unfold tooLong; rw [sizeLine_eq, ht, ← hpre, hlen] at *; exact decide_eq_false (by omega)
    rw [htot]
    simp only [Bool.false_eq_true, if_false]
    rw [foldl_cps]
    have e : ((#[] : Array Nat).toList ++ (pieces.reverse.map (·.cps.toList)).flatten).toArray = (esc x).cps := by
      rw [hp, ← hpre]; simp [esc]
    rw [e]
    refine wpAny_bind (wpAny_mkStr (x := esc x) (wpAny_pure ⟨_, rfl, hQ _ _ _ he⟩) ?_)
    show (esc x).cps.size ≤ _
    rw [sizeLine_eq]; simp only [esc, List.size_toArray]; rw [← hpre] at hlp; omega
end Mine
end secMBase
section secMMap
namespace Mine
section mapfacts
theorem slot_map_init : Slot "map" "__init__" "object.__init__" :=
  .of (owner := "object") (n := "__init__") (by rw [typeLookup_type, builtinLookup_eq_fast]; kernel_rfl) (by decide +kernel) (by decide +kernel) (by decide +kernel)
    (by first | exact .inl (by decide +kernel) | exact .inr (by decide +kernel)) (by rw [isSubtype_type]; kernel_rfl)
theorem slot_map_iter : Slot "map" "__iter__" "map.__iter__" :=
  .of (owner := "map") (n := "__iter__") (by rw [typeLookup_type, builtinLookup_eq_fast]; kernel_rfl) (by decide +kernel) (by decide +kernel) (by decide +kernel)
    (by first | exact .inl (by decide +kernel) | exact .inr (by decide +kernel)) (by rw [isSubtype_type]; kernel_rfl)
theorem slot_map_next : Slot "map" "__next__" "map.__next__" :=
  .of (owner := "map") (n := "__next__") (by rw [typeLookup_type, builtinLookup_eq_fast]; kernel_rfl) (by decide +kernel) (by decide +kernel) (by decide +kernel)
    (by first | exact .inl (by decide +kernel) | exact .inr (by decide +kernel)) (by rw [isSubtype_type]; kernel_rfl)
theorem entry_map_next : entryFor table "map.__next__" = some Builtin.«map.__next__» := entryFor_of_tree (by kernel_rfl)
theorem entry_map_new : entryFor table "map.__new__" = some Builtin.«map.__new__» := entryFor_of_tree (by kernel_rfl)
theorem entry_map_iter : entryFor table "map.__iter__" = some Builtin.«dict_keyiterator.__iter__» :=
  entryFor_alias (id' := "dict_keyiterator.__iter__") (by kernel_rfl) (by first | rfl | decide +kernel | (unfold String.splitOn; simp +decide [String.splitOnAux])) (by decide +kernel) (by kernel_rfl)
theorem args_map_next (a : Value) : argsOk "map.__next__" ⟨[a], []⟩ := by unfold argsOk; kernel_rfl
theorem args_map_iter (a : Value) : argsOk "map.__iter__" ⟨[a], []⟩ := by unfold argsOk; kernel_rfl
theorem mro_map : mroOf (.type "map") = pure [.type "map", .type "object"] := by rw [mroOf_type]; kernel_rfl
theorem lookup_map_new : typeLookup (.type "map") "__new__" = pure (some (.builtin "map.__new__")) := by rw [typeLookup_type, builtinLookup_eq_fast]; kernel_rfl
theorem called_map : TypeCalled "map" "map.__new__" "object.__init__" :=
  ⟨by decide +kernel, by decide +kernel, ⟨_, _, mro_map⟩, madeBy_type mro_map lookup_map_new (by decide +kernel), by decide +kernel, by rw [isSubtype_type]; kernel_rfl, slot_map_init⟩
theorem typeCall_map_2 (a b : Value) : checkTypeCall "map" ⟨[a, b], []⟩ = pure () := by kernel_rfl
theorem newCall_map_2 (a b : Value) : checkBuiltinCall "map.__new__" ⟨[.type "map", a, b], []⟩ = pure () := by kernel_rfl
theorem sub_map : isSubtype (.type "map") (.type "map") = pure true := by rw [isSubtype_type]; kernel_rfl
theorem map_no_len : typeLookup (.type "map") "__len__" = pure none := by rw [typeLookup_type, builtinLookup_eq_fast]; kernel_rfl
theorem map_no_hint : typeLookup (.type "map") "__length_hint__" = pure none := by rw [typeLookup_type, builtinLookup_eq_fast]; kernel_rfl
end mapfacts

abbrev mapObj (TI : Addr) (f : Value) : Obj := { cls := .type "map", data := .fields #[.ref TI, f] }
abbrev tup1 (a : Value) : Obj := { cls := .type "tuple", data := .seq #[a] }

theorem meets_map_new (f : Value) (l : Addr) (items : Array Value) (n : Nat) (dct : Option Addr) (sl : Array (Option Value)) :
    Meets (Builtin.«map.__new__» ⟨[.type "map", f, .ref l], []⟩) (fun _ R s => s.heap.get? l = some { cls := .type "list", dict := dct, data := .seq items n, slots := sl } ∧
      R (.ok (.ret (.ref ((s.heap.push { cls := .type "list_iterator", data := .fields #[.ref l, .int 0 0] }).push (tup1 (.ref s.heap.objs.size))).objs.size)))
        { s with heap := ((s.heap.push { cls := .type "list_iterator", data := .fields #[.ref l, .int 0 0] }).push (tup1 (.ref s.heap.objs.size))).push (mapObj (s.heap.push { cls := .type "list_iterator", data := .fields #[.ref l, .int 0 0] }).objs.size f) }) :=
  .of_wp fun prog w A R s h => by
    obtain ⟨hp, g, d, tk, os⟩ := s; obtain ⟨hl, h⟩ := h
    have hsub := sub_map
    have hL : Heap.IsList (Shared.heap ⟨hp, g, d, tk, os⟩) l items := ⟨_, hl, rfl, n, rfl⟩
    unfold Builtin.«map.__new__»
    refine wpAny_bind ?_
    wp_walk using wpAny_pyIter_list hL
    exact ⟨_, rfl, h⟩
end Mine
end secMMap
section secMMap2
namespace Mine
theorem call_map {prog : Program} {w : World} {A : Around} {E : Value → Shared → Prop} {s : Shared} {f : Value} {l : Addr} {items : Array Value} {Q : Value → Shared → Prop} (hL : s.heap.IsList l items)
    (h : ∀ h', h'.get? (s.heap.objs.size + 2) = some (mapObj (s.heap.objs.size + 1) f) → h'.get? (s.heap.objs.size + 1) = some (tup1 (.ref s.heap.objs.size)) → h'.IsListIter s.heap.objs.size l 0 → h'.objs.size = s.heap.objs.size + 3 →
      Ext s.heap h' → Q (.ref (s.heap.objs.size + 2)) { s with heap := h' }) :
    wpAny (model prog w) A (call (.type "map") [f, .ref l]) Q E s := by
  obtain ⟨⟨c, dct, dt, sl⟩, hl, hc, n, hd⟩ := hL
  replace hc : c = .type "list" := hc
  replace hd : dt = .seq items n := hd
  subst hc hd
  refine callType_new called_map (by decide) (typeCall_map_2 _ _) (newCall_map_2 _ _) (fun obj => F.args_object_init_3 obj _ _) entry_map_new
    (meets_map_new f l items n dct sl) ⟨hl, ?_⟩
  have hz : (s.heap.push { cls := .type "list_iterator", data := .fields #[.ref l, .int 0 0] }).objs.size = s.heap.objs.size + 1 := Heap.size_push ..
  have hz2 : ((s.heap.push { cls := .type "list_iterator", data := .fields #[.ref l, .int 0 0] }).push (tup1 (.ref s.heap.objs.size))).objs.size = s.heap.objs.size + 2 := by rw [Heap.size_push, hz]
  show _ ∧ _
  rw [hz2, hz]
  have h1 := Heap.get?_push_size ((s.heap.push { cls := .type "list_iterator", data := .fields #[.ref l, .int 0 0] }).push (tup1 (.ref s.heap.objs.size))) (o := mapObj (s.heap.objs.size + 1) f) rfl
  rw [hz2] at h1
  have h2 := Heap.get?_push_of_some (mapObj (s.heap.objs.size + 1) f) (Heap.get?_push_size (s.heap.push { cls := .type "list_iterator", data := .fields #[.ref l, .int 0 0] }) (o := tup1 (.ref s.heap.objs.size)) rfl)
  rw [hz] at h2
  refine ⟨⟨_, h1, rfl⟩, h _ h1 h2 ⟨_, Heap.get?_push_of_some _ (Heap.get?_push_of_some _ (Heap.get?_push_size _ rfl)), rfl, rfl⟩ (by rw [Heap.size_push, hz2]) fun b o e => Heap.get?_push_of_some _ (Heap.get?_push_of_some _ (Heap.get?_push_of_some _ e))⟩

/-- what the walk of a map keeps of the heap at its start -/
abbrev OffIt (it : Addr) (h₀ h : Heap) : Prop := ∀ b o, b ≠ it → h₀.get? b = some o → h.get? b = some o

theorem walks_map {prog : Program} {w : World} {A : Around} (hh : A.handled = none) {h₀ : Heap} {I TI it l : Addr} {f : Value} {items : Array Value} {P : Nat → Value → Prop}
    (hI : h₀.get? I = some (mapObj TI f)) (hTI : h₀.get? TI = some (tup1 (.ref it))) (hl : h₀.IsList l items) (hit : it < h₀.objs.size) (n1 : I ≠ it) (n2 : TI ≠ it) (n3 : l ≠ it)
    (hf : ∀ i x (s : Shared) (Q E : Value → Shared → Prop), items[i]? = some x → OffIt it h₀ s.heap → (∀ v h' tk, P i v → Ext s.heap h' → Q v { s with heap := h', toks := tk }) → wpAny (model prog w) A.in1 (call f [x]) Q E s) :
    Walks prog w A I (List.range h₀.objs.size) [it] items.size P (fun i h => OffIt it h₀ h ∧ h.IsListIter it l i) where
  sub := fun b hb => by rw [List.mem_singleton.mp hb]; exact List.mem_range.mpr hit
  frame := fun i h h' st hk => ⟨fun b o hb e => hk b (List.mem_range.mpr (Heap.lt_size e)) o (st.1 b o hb e), st.2.at fun o e => hk it (List.mem_range.mpr hit) o e⟩
  item := fun i s Q E hi st hQ => by
    have hIs := st.1 I _ n1 hI
    have hTIs := st.1 TI _ n2 hTI
    have hls : s.heap.IsList l items := hl.at fun o e => st.1 l o n3 e
    have hT : s.TypeIs (.ref I) "map" := ⟨_, hIs, rfl⟩
    unfold pyNext
    refine wpAny_bind (wpAny_attempt (wpAny_callSpecial?_slot (name := Str.ofString "__next__") hT slot_map_next
      (wpAny_call_entry slot_map_next hT entry_map_next ?_ (args_map_next _))))
    show wpAny _ _ (field (.ref I) 0 >>= _) _ _ _
    refine wpAny_bind (wpAny_field hIs rfl (x := .ref TI) rfl ?_)
    refine wpAny_bind (wpAny_seqItems hTIs rfl ?_)
    have hx : items[i]? = some items[i] := by simp [hi]
    dsimp only
    rw [← Array.forIn_toList]
    simp only [List.forIn_cons, List.forIn_nil]
    refine wpAny_bind (wpAny_bind (wpAny_bind (wpAny_holding (wpAny_nextOf_list_item st.2 hls hx fun h₁ hit₁ hs₁ => ?_))))
    refine wpAny_pure (wpAny_pure ?_)
    have hIs₁ := hs₁.extBut I _ n1 hIs
    refine wpAny_bind (wpAny_field hIs₁ rfl (x := f) rfl ?_)
    refine wpAny_bind (wpAny_holding ?_)
    have ho₁ : OffIt it h₀ h₁ := fun b o hb e => hs₁.extBut b o hb (st.1 b o hb e)
    refine hf i _ _ _ _ hx ho₁ fun v h₂ tk hP he => ?_
    refine wpAny_bind (wpAny_letGo (wpAny_pure ⟨_, rfl, wpAny_pure (hQ v h₂ tk hP ⟨fun b o hb e => he b o (ho₁ b o hb e), hit₁.at fun o e => he it o e⟩ fun b o hb e => he b o (hs₁.extBut b o (fun e' => hb (List.mem_singleton.mpr e')) e))⟩))
  done := fun s Q E st hQ => by
    have hIs := st.1 I _ n1 hI
    have hTIs := st.1 TI _ n2 hTI
    have hls : s.heap.IsList l items := hl.at fun o e => st.1 l o n3 e
    have hT : s.TypeIs (.ref I) "map" := ⟨_, hIs, rfl⟩
    unfold pyNext
    refine wpAny_bind (wpAny_attempt (wpAny_callSpecial?_slot (name := Str.ofString "__next__") hT slot_map_next
      (wpAny_call_entry slot_map_next hT entry_map_next ?_ (args_map_next _))))
    show wpAny _ _ (field (.ref I) 0 >>= _) _ _ _
    refine wpAny_bind (wpAny_field hIs rfl (x := .ref TI) rfl ?_)
    refine wpAny_bind (wpAny_seqItems hTIs rfl ?_)
    dsimp only
    rw [← Array.forIn_toList]
    simp only [List.forIn_cons, List.forIn_nil]
    refine wpAny_bind (wpAny_bind (wpAny_bind (wpAny_holding (wpAny_nextOf_list_end (A := A.in1) hh st.2 hls (by simp) fun h₁ e he hx => ?_))))
    obtain ⟨o, ho, hc⟩ := hx
    refine wpAny_bind (wpAny_isInstance (T := "StopIteration") (b := true) ⟨o, ho, hc⟩ isSubtype_stop ?_)
    exact wpAny_pure (hQ h₁ s.toks fun b o hb e => he b o (fun e' => hb (List.mem_singleton.mpr e')) e)
  self := fun i s Q E st hQ => by
    have hIs := st.1 I _ n1 hI
    have hT : s.TypeIs (.ref I) "map" := ⟨_, hIs, rfl⟩
    refine wpAny_pyIter_slot hT slot_map_iter (wpAny_call_entry slot_map_iter hT entry_map_iter ?_ (args_map_iter _))
    show wpAny _ _ (ret (.ref I)) _ _ s
    exact wpAny_pure ⟨_, rfl, "map", _, hT, slot_map_next.lookup, hQ⟩
end Mine
end secMMap2
section secMList
namespace Mine
section
variable {prog : Program} {w : World} {A : Around} {E : Value → Shared → Prop} {s : Shared} {I : Addr} {fp wr : List Addr} {n : Nat} {P : Nat → Value → Prop} {St : Nat → Heap → Prop}

theorem extend_walk {T : String} {R : Result → Shared → Prop} (W : Walks prog w A.in1 I fp wr n P St) (hT : ∀ s : Shared, St 0 s.heap → s.TypeIs (.ref I) T)
    (h2 : (Value.type T == Value.type "list") = false) (h3 : (Value.type T == Value.type "tuple") = false)
    (hlen : typeLookup (.type T) "__len__" = pure none) (hhint : typeLookup (.type T) "__length_hint__" = pure none)
    (hst : St 0 s.heap) (hn : n ≤ sizeLine) (S : Addr) (hSf : S ∉ fp) (hIf : I ∈ fp) (res : Value) (c₀ : Nat) (hS : s.heap.get? S = some { cls := .type "list", data := .seq #[] c₀ })
    (hR : ∀ h' tk acc' c', (∀ b o, b ≠ S → b ∉ wr → s.heap.get? b = some o → h'.get? b = some o) → h'.get? S = some { cls := .type "list", dict := none, data := .seq acc' c', slots := #[] } →
      ItemsOf P acc' n → R (.ok (.ret res)) { s with heap := h', toks := tk }) :
    wpAny (model prog w) A.in1 (Builtin.List.listExtendWith (.ref S) (.ref I) res)
      (fun fin s' => match fin with | .done f => R (.ok f) s' | .again c' => c'.quiet = true ∧ codeAny (model prog w) A c' R s') (fun e s' => R (.error e) s') s := by
  have hSI : S ≠ I := fun e => hSf (e ▸ hIf)
  unfold Builtin.List.listExtendWith
  refine wpAny_bind (wpAny_typeOf (hT s hst) ?_)
  have h1 : Builtin.List.listSameRef (.ref S) (.ref I) = false := by simp [Builtin.List.listSameRef, hSI]
  simp only [h1, h2, h3, Bool.or_false, Bool.false_eq_true, if_false]
  refine wpAny_bind (W.self 0 _ _ _ hst ?_)
  refine wpAny_bind (wpAny_holding ?_)
  unfold Builtin.List.listLengthHint
  refine wpAny_bind (wpAny_specialOf (hT s hst) hlen ?_)
  show wpAny _ A.in1 (specialOf (Value.ref I) (Str.ofString "__length_hint__") >>= _) _ _ _
  refine wpAny_bind (wpAny_specialOf (hT s hst) hhint ?_)
  refine wpAny_pure ?_
  show wpAny _ A.in1 (rule "list.extend.makes-room" >>= fun _ => Builtin.List.listTouch (.ref S) >>= fun _ =>
    again (.builtin "list.extend.loop" ⟨[.ref S, .ref I, res], []⟩)) _ _ _
  refine wpAny_bind (wpAny_rule ?_)
  refine wpAny_bind ?_
  show wpAny _ A.in1 (updateSeq S (·.push .none) >>= fun _ => updateSeq S (·.pop)) _ _ _
  refine wpAny_bind (wpAny_updateSeq hS rfl ?_)
  have hS₂ := Heap.get?_update_self (Obj.mapSeq (·.push Value.none)) hS rfl
  refine wpAny_updateSeq (hz := by seq_fits) hS₂ rfl ?_
  have hS₃ := Heap.get?_update_self (Obj.mapSeq (·.pop)) hS₂ rfl
  have oth : ∀ b o, b ≠ S → s.heap.get? b = some o → ((s.heap.update S (Obj.mapSeq (·.push Value.none))).update S (Obj.mapSeq (·.pop))).get? b = some o :=
    fun b o hb e => (Heap.get?_update_other _ _ (Ne.symm hb)).trans ((Heap.get?_update_other _ _ (Ne.symm hb)).trans e)
  refine wpAny_pure ⟨plainId_quiet F.plain_extend_loop _, codeAny_extend_loopS W.toS hn _ hSf _ n 0 _ _ _ rfl (Nat.zero_le _)
    (W.frame 0 s.heap _ hst fun b hb o e => oth b o (fun h => hSf (h ▸ hb)) e) hS₃ (ItemsOf.nil P) fun s' acc' c' hm hS' hacc => ?_⟩
  rw [Moved.eq_with hm]
  refine hR s'.heap s'.toks acc' c' (fun b o hb hw e => hm.heap b o (fun hmem => ?_) (oth b o hb e)) hS' hacc
  rcases List.mem_cons.mp hmem with e' | hmem
  · exact hb e'
  · exact hw hmem

theorem call_list_walk {T : String} {Q : Value → Shared → Prop} (W : Walks prog w A.in1.in1 I fp wr n P St) (hT : ∀ s : Shared, St 0 s.heap → s.TypeIs (.ref I) T)
    (h2 : (Value.type T == Value.type "list") = false) (h3 : (Value.type T == Value.type "tuple") = false)
    (hlen : typeLookup (.type T) "__len__" = pure none) (hhint : typeLookup (.type T) "__length_hint__" = pure none)
    (hst : St 0 s.heap) (hn : n ≤ sizeLine) (hIf : I ∈ fp) (hfp : ∀ b ∈ fp, b < s.heap.objs.size)
    (hQ : ∀ h' tk acc' c', (∀ b o, b ∉ wr → s.heap.get? b = some o → h'.get? b = some o) →
      h'.get? s.heap.objs.size = some { cls := .type "list", dict := none, data := .seq acc' c', slots := #[] } → ItemsOf P acc' n → Q (.ref s.heap.objs.size) { s with heap := h', toks := tk }) :
    wpAny (model prog w) A (call (.type "list") [.ref I]) Q E s := by
  refine callType_codes (Q₁ := fun obj s₁ => obj = .ref s.heap.objs.size ∧ s₁ = { s with heap := s.heap.push { cls := .type "list", data := .seq #[] } }) F.called_list (F.typeCall_list_1 _) F.entry_list_init
    (code_list_new _ ⟨rfl, rfl⟩) fun obj s₁ h₁ => ?_
  obtain ⟨rfl, rfl⟩ := h₁
  have hS : (s.heap.push { cls := .type "list", data := .seq #[] }).get? s.heap.objs.size = some { cls := .type "list", data := .seq #[] } := Heap.get?_push_size _ rfl
  have hSf : s.heap.objs.size ∉ fp := fun hm => Nat.lt_irrefl _ (hfp _ hm)
  refine ⟨⟨_, hS, rfl⟩, F.args_list_init_2 _ _, ?_⟩
  show wpAny _ _ (do let old ← Builtin.List.listItems (.ref s.heap.objs.size); Builtin.List.listUpdate (.ref s.heap.objs.size) (fun _ => #[]); letGo old.toList.reverse; Builtin.List.listExtendWith (.ref s.heap.objs.size) (.ref I) .none) _ _ _
  refine wpAny_bind ?_
  unfold Builtin.List.listItems
  refine wpAny_bind (wpAny_seqItems hS rfl (wpAny_pure ?_))
  show wpAny _ _ (updateSeq s.heap.objs.size (fun _ => #[]) >>= fun _ => letGo (#[] : Array Value).toList.reverse >>= fun _ => Builtin.List.listExtendWith (.ref s.heap.objs.size) (.ref I) .none) _ _ _
  refine wpAny_bind (wpAny_updateSeq hS rfl ?_)
  have hS₂ := Heap.get?_update_self (Obj.mapSeq (fun _ => (#[] : Array Value))) hS rfl
  refine wpAny_bind (wpAny_letGo ?_)
  have up : ∀ b o, s.heap.get? b = some o → ((s.heap.push { cls := .type "list", data := .seq #[] }).update s.heap.objs.size (Obj.mapSeq (fun _ => (#[] : Array Value)))).get? b = some o :=
    fun b o e => (Heap.get?_update_other _ _ (Nat.ne_of_gt (Heap.lt_size e))).trans (Heap.get?_push_of_some _ e)
  refine extend_walk (A := A.in1) W hT h2 h3 hlen hhint (W.frame 0 s.heap _ hst fun b _ o e => up b o e) hn s.heap.objs.size hSf hIf .none _ hS₂ fun h' tk acc' c' hk hS' hacc => ?_
  exact ⟨rfl, hQ h' tk acc' c' (fun b o hw e => hk b o (Nat.ne_of_lt (Heap.lt_size e)) hw (up b o e)) hS' hacc⟩
end
end Mine
namespace Mine
theorem ne_add (a k : Nat) : a + (k + 1) ≠ a := by omega
theorem lt_add (a b k : Nat) (h : b = a + (k + 1)) : a < b := by omega
theorem call_list_map {prog : Program} {w : World} {A : Around} {E : Value → Shared → Prop} {s : Shared} {h₁ : Heap} {l : Addr} {f : Value} {items : Array Value} {P : Nat → Value → Prop} {Q : Value → Shared → Prop}
    (hh : A.handled = none) (e1 : Ext h₁ s.heap) (hz : s.heap.objs.size = h₁.objs.size + 3) (hM : s.heap.get? (h₁.objs.size + 2) = some (mapObj (h₁.objs.size + 1) f)) (hTI : s.heap.get? (h₁.objs.size + 1) = some (tup1 (.ref h₁.objs.size)))
    (hIt : s.heap.IsListIter h₁.objs.size l 0) (hl : h₁.IsList l items) (hn : items.size ≤ sizeLine)
    (hf : ∀ i x (s' : Shared) (Q E : Value → Shared → Prop), items[i]? = some x → Ext h₁ s'.heap → (∀ v h' tk, P i v → Ext s'.heap h' → Q v { s' with heap := h', toks := tk }) → wpAny (model prog w) A.in1.in1.in1 (call f [x]) Q E s')
    (hQ : ∀ h' tk acc c, Ext h₁ h' → h₁.get? s.heap.objs.size = none → h'.get? s.heap.objs.size = some (W.listOf acc c) → ItemsOf P acc items.size → Q (.ref s.heap.objs.size) { s with heap := h', toks := tk }) :
    wpAny (model prog w) A (call (.type "list") [.ref (h₁.objs.size + 2)]) Q E s := by
  have nin : ∀ b o, h₁.get? b = some o → b ≠ h₁.objs.size := fun b o e => Nat.ne_of_lt (Heap.lt_size e)
  have hl1 : l ≠ h₁.objs.size := by obtain ⟨o, ho, _⟩ := hl; exact nin _ _ ho
  have W := walks_map (prog := prog) (w := w) (A := A.in1.in1) hh (P := P) hM hTI (hl.at fun o e => e1 l o e) (lt_add _ _ 2 hz) (ne_add _ 1) (ne_add _ 0) hl1
    (fun i x s' Q E hx ho hq => hf i x s' Q E hx (fun b o e => ho b o (nin b o e) (e1 b o e)) hq)
  refine call_list_walk W (T := "map") (fun s' st => ⟨_, st.1 _ _ (ne_add _ 1) hM, rfl⟩) (by decide) (by decide) map_no_len map_no_hint ⟨fun _ _ _ e => e, hIt⟩ hn (List.mem_range.mpr (by rw [hz]; exact Nat.lt_succ_self _)) (fun b hb => List.mem_range.mp hb) ?_
  intro h' tk acc c hk hS hacc
  refine hQ h' tk acc c (fun b o e => hk b o (fun hm => nin b o e (List.mem_singleton.mp hm)) (e1 b o e)) ?_ hS hacc
  cases hq : h₁.get? s.heap.objs.size with
  | none => rfl
  | some o => exact absurd (Heap.lt_size hq) (by rw [hz]; exact Nat.not_lt.mpr (Nat.le_add_right _ _))
end Mine
end secMList
section secMLed
namespace Mine
section
variable {prog : Program} {w : World} {A : Around} {E : Value → Shared → Prop} {s : Shared} {h₀ : Heap} {L D : Addr} {m : Str → Option Value} {rest : List (Addr × Obj)} {vs : List Value} {n : Nat} {v : Value}

theorem news_put {f : Array Value → Array Value} {vs' : List Value} {n' : Nat} (N : News h₀ L s.heap ((D, W.listOf vs.toArray n) :: rest)) (hoff : ∀ p ∈ rest, p.1 ≠ D) (he : f vs.toArray = vs'.toArray) (hn : (if vs'.length == vs.length then n else n + 1) = n') :
    News h₀ L (s.heap.update D (Obj.mapSeq f)) ((D, W.listOf vs'.toArray n') :: rest) := by
  have := ki_turn (pre := []) f N (fun _ h => nomatch h) hoff he (by simpa using hn)
  exact this

theorem fr_put {f : Obj → Obj} {o : Obj} (F : Fr h₀ L s.heap m) (N : News h₀ L s.heap ((D, o) :: rest)) : Fr h₀ L (s.heap.update D f) m :=
  F.change (Heap.SameBut.update ..) (N _ (.head _)).2.1 (N _ (.head _)).2.2

theorem set_led {k : Int} {t : Tok} {Q : Unit → Shared → Prop} (F : Fr h₀ L s.heap m) (N : News h₀ L s.heap ((D, W.listOf vs.toArray n) :: rest)) (hoff : ∀ p ∈ rest, p.1 ≠ D) (h0 : 0 ≤ k) (hk : k < vs.length) (hfit : k < 2 ^ 63)
    (h : ∀ h', Fr h₀ L h' m → News h₀ L h' ((D, W.listOf (vs.set k.toNat v).toArray n) :: rest) → Q () { s with heap := h' }) : wpAny (model prog w) A (setItem (.ref D) (.int k t) v) Q E s := by
  refine ki_setAt (N _ (.head _)).1 h0 hfit (by simpa using hk) (h _ (fr_put F N) (news_put N hoff ?_ ?_))
  · simp
  · simp

theorem setBack_led {k : Int} {t : Tok} {Q : Unit → Shared → Prop} (F : Fr h₀ L s.heap m) (N : News h₀ L s.heap ((D, W.listOf vs.toArray n) :: rest)) (hoff : ∀ p ∈ rest, p.1 ≠ D) (h0 : k < 0) (hk : -(vs.length : Int) ≤ k) (hfit : -(2 ^ 63) ≤ k)
    (h : ∀ h', Fr h₀ L h' m → News h₀ L h' ((D, W.listOf (vs.set (k + vs.length).toNat v).toArray n) :: rest) → Q () { s with heap := h' }) : wpAny (model prog w) A (setItem (.ref D) (.int k t) v) Q E s := by
  refine ki_setBack (N _ (.head _)).1 h0 (by simpa using hk) hfit (h _ (fr_put F N) (news_put N hoff ?_ ?_))
  · simp
  · simp
end
theorem strValues_get {c : List (Str × Tok)} {i : Nat} {p : Str × Tok} (h : c[i]? = some p) : (strValues c)[i]? = some (.str p.1 p.2) := by simp [strValues, h]
theorem strValues_length (c : List (Str × Tok)) : (strValues c).length = c.length := by simp [strValues]
theorem strValues_set (c : List (Str × Tok)) (i : Nat) (y : Str) (t : Tok) : (strValues c).set i (.str y t) = strValues (c.set i (y, t)) := by simp [strValues, List.map_set]
end Mine
end secMLed
section secMTp
namespace Mine
theorem itemsOf_strs {n : Nat} {acc : Array Value} {ys : List Str} (hn : ys.length = n) (h : ItemsOf (fun i v => ∃ y t, ys[i]? = some y ∧ v = Value.str y t) acc n) :
    ∃ l : List (Str × Tok), acc = (strValues l).toArray ∧ l.map (·.1) = ys := by
  obtain ⟨h1, h2⟩ := h
  have key : ∀ (vs : List Value) (ys : List Str), vs.length = ys.length → (∀ (j : Nat) (v : Value), vs[j]? = some v → ∃ y t, ys[j]? = some y ∧ v = Value.str y t) → ∃ l : List (Str × Tok), vs = strValues l ∧ l.map (·.1) = ys := by
    intro vs
    induction vs with
    | nil =>
      intro ys hl _
      refine ⟨[], rfl, ?_⟩
      (cases ys with
      | nil => rfl
      | cons _ _ => cases hl)
    | cons v vs ih =>
      intro ys hl hv
      cases ys with
      | nil => cases hl
      | cons y ys =>
        obtain ⟨y', t, e1, e2⟩ := hv 0 v rfl
        obtain ⟨l, e3, e4⟩ := ih ys (by simpa using hl) (fun j v' hj => hv (j + 1) v' hj)
        cases e1
        exact ⟨(y, t) :: l, by rw [e2, e3]; rfl, by simp [e4]⟩
  obtain ⟨l, e1, e2⟩ := key acc.toList ys (by simp [h1, hn]) (fun j v hj => h2 j v (by simpa using hj))
  exact ⟨l, by rw [← e1], e2⟩

def wrapS (y : Str) : Str := Str.ofString "(?>.*?" ++ y ++ Str.ofString ")"
/-- the first k behind the head are wrapped -/
def wrapTo (k : Nat) (ys : List Str) : List Str := ys.mapIdx fun i y => if 1 ≤ i ∧ i < 1 + k then wrapS y else y


def partsS (x : Str) : List Str := (Txt.split x (Str.ofString "*")).map esc
def finS (x : Str) : List Str := (wrapTo ((partsS x).length - 2) (partsS x)).set ((partsS x).length - 1) (Str.ofString ".*" ++ ((wrapTo ((partsS x).length - 2) (partsS x)).getD ((partsS x).length - 1) Str.empty))
def tpS (x : Str) : Str := Txt.join (Str.ofString "") (finS x)

theorem partsS_pos (x : Str) : 1 ≤ (partsS x).length := by
  unfold partsS
  rw [List.length_map]
  unfold Txt.split
  split
  · simp
  · rw [StrLaws.partsBetween_eq]
    obtain ⟨p, r, e⟩ := StrLaws.partsFrom_ne x (Str.ofString "*").length 0 _
    rw [e]; split <;> simp
theorem esc_length (x : Str) : (esc x).length ≤ 2 * x.length := by
  show (escL x.cps.toList).toArray.size ≤ 2 * x.cps.size
  have := escL_length x.cps.toList
  simpa using this
theorem partsS_short {x y : Str} (h : y ∈ partsS x) : y.length ≤ 2 * x.length := by
  unfold partsS at h
  obtain ⟨z, hz, rfl⟩ := List.mem_map.mp h
  have := part_short hz
  have := esc_length z
  omega
theorem partsS_len (x : Str) : (partsS x).length ≤ x.length + 1 := by
  unfold partsS
  rw [List.length_map]
  have := split_weight x (Str.ofString "*") (by decide)
  omega
theorem wrapTo_length (k : Nat) (ys : List Str) : (wrapTo k ys).length = ys.length := by simp [wrapTo]
theorem wrapTo_get (k : Nat) (ys : List Str) (i : Nat) : (wrapTo k ys)[i]? = ys[i]?.map fun y => if 1 ≤ i ∧ i < 1 + k then wrapS y else y := by simp [wrapTo]
theorem wrapTo_zero (ys : List Str) : wrapTo 0 ys = ys := by
  apply List.ext_getElem?
  intro i
  rw [wrapTo_get]
  have h : ¬ (1 ≤ i ∧ i < 1 + 0) := by omega
  simp only [if_neg h]
  cases ys[i]? <;> rfl
theorem wrapTo_step (k : Nat) (ys : List Str) (y : Str) (h : ys[1 + k]? = some y) : (wrapTo k ys).set (1 + k) (wrapS y) = wrapTo (k + 1) ys := by
  apply List.ext_getElem?
  intro i
  rw [List.getElem?_set, wrapTo_get, wrapTo_get, wrapTo_length]
  by_cases hi : 1 + k = i
  · subst hi
    have hl : 1 + k < ys.length := (List.getElem?_eq_some_iff.mp h).1
    have h1 : 1 ≤ 1 + k ∧ 1 + k < 1 + (k + 1) := by omega
    rw [if_pos rfl, if_pos hl, h]
    simp only [Option.map_some, if_pos h1]
  · rw [if_neg hi]
    cases ys[i]? with
    | none => rfl
    | some z =>
      simp only [Option.map_some]
      by_cases h1 : 1 ≤ i ∧ i < 1 + k
      · rw [if_pos h1, if_pos (by omega)]
      · rw [if_neg h1, if_neg (by omega)]
theorem wrapS_length (y : Str) : (wrapS y).length = y.length + 7 := by
  unfold wrapS
  rw [Str.length_append, Str.length_append]
  have h1 : (Str.ofString "(?>.*?").length = 6 := by decide
  have h2 : (Str.ofString ")").length = 1 := by decide
  omega
theorem mem_wrapTo {k : Nat} {ys : List Str} {z : Str} {B : Nat} (hb : ∀ y ∈ ys, y.length ≤ B) (h : z ∈ wrapTo k ys) : z.length ≤ B + 7 := by
  obtain ⟨i, hi⟩ := List.mem_iff_getElem?.mp h
  rw [wrapTo_get] at hi
  obtain ⟨y, hy, rfl⟩ := Option.map_eq_some_iff.mp hi
  have := hb y (List.mem_of_getElem? hy)
  split
  · rw [wrapS_length]; omega
  · omega
theorem sum_le {l : List Nat} {B : Nat} (h : ∀ n ∈ l, n ≤ B) : l.sum ≤ l.length * B := by
  induction l with
  | nil => simp
  | cons a r ih =>
    rw [List.sum_cons, List.length_cons, Nat.succ_mul]
    have := h a List.mem_cons_self
    have := ih fun n hn => h n (List.mem_cons_of_mem _ hn)
    omega
theorem strsAre_values (c : List (Str × Tok)) : StrsAre (strValues c) (c.map (·.1)) := by
  induction c with
  | nil => exact .nil
  | cons p r ih => exact .cons _ _ ih
end Mine
namespace Mine
/-- a goal that the walk is to leave -/
def Stop (P : Prop) : Prop := P
theorem Stop.of {P : Prop} (h : Stop P) : P := h
theorem Stop.go {P : Prop} (h : P) : Stop P := h
end Mine
end secMTp
section secMTxt
namespace Mine
/-- a text by its signs' numbers -/
def S (l : List Nat) : Str := ⟨l.toArray⟩
theorem S_cps (l : List Nat) : (S l).cps.toList = l := by simp [S]
theorem S_of (x : Str) : S x.cps.toList = x := by cases x; simp [S]
theorem S_length (l : List Nat) : (S l).length = l.length := by simp [S, Str.length]
theorem S_inj {a b : List Nat} (h : S a = S b) : a = b := by rw [← S_cps a, h, S_cps]
theorem S_eq_iff {a b : List Nat} : S a = S b ↔ a = b := ⟨S_inj, congrArg S⟩
theorem S_append (a b : List Nat) : S a ++ S b = S (a ++ b) := by
  apply Str.ext'
  rw [Str.cps_append]
  simp [S]
theorem esc_S (l : List Nat) : esc (S l) = S (escL l) := by simp [esc, S]

theorem sliceIdx (i j : Int) (n : Nat) (hi : 0 ≤ i) (hj : 0 ≤ j) : Builtin.Str.strSliceIndices (some i) (some j) 1 n = Builtin.Str.strSliceIndices (some (min i n)) (some (min j n)) 1 n := by
  unfold Builtin.Str.strSliceIndices
  simp only [show (1 : Int) > 0 by decide, if_true]
  have h1 : ¬ i < 0 := by omega
  have h2 : ¬ j < 0 := by omega
  have h3 : ¬ min i (n : Int) < 0 := by omega
  have h4 : ¬ min j (n : Int) < 0 := by omega
  simp only [if_neg h1, if_neg h2, if_neg h3, if_neg h4]
  congr 1 <;> omega

theorem slice_S {xs : List Nat} {i j : Int} (hi : 0 ≤ i) (hj : 0 ≤ j) : Txt.slice (S xs) (some i) (some j) = S ((xs.drop i.toNat).take (j.toNat - i.toNat)) := by
  have e : Txt.slice (S xs) (some i) (some j) = Txt.slice (S xs) (some (min i xs.length)) (some (min j xs.length)) := by
    unfold Txt.slice
    rw [S_length, sliceIdx i j xs.length hi hj]
  rw [e]
  by_cases h : min i (xs.length : Int) ≤ min j (xs.length : Int)
  · have := slice_closes (x := S xs) (i := min i xs.length) (j := min j xs.length) ⟨by omega, h, by rw [S_cps]; omega⟩
    rw [beq_iff_eq.mp this, S_cps]
    show S _ = S _
    rw [S_eq_iff]
    by_cases hl : i ≤ xs.length
    · rw [show (min i (xs.length : Int)).toNat = i.toNat by omega]
      by_cases hl2 : j ≤ xs.length
      · rw [show (min j (xs.length : Int) - min i (xs.length : Int)).toNat = j.toNat - i.toNat by omega]
      · rw [List.take_of_length_le (by rw [List.length_drop]; omega), List.take_of_length_le (by rw [List.length_drop]; omega)]
    · rw [List.drop_of_length_le (by omega), List.drop_of_length_le (by omega)]; simp
  · have h0 : Builtin.Str.strSliceIndices (some (min i xs.length)) (some (min j xs.length)) 1 xs.length = [] := by
      unfold Builtin.Str.strSliceIndices sliceRange
      simp only [show (1 : Int) > 0 by decide, if_true]
      have h3 : ¬ min i (xs.length : Int) < 0 := by omega
      have h4 : ¬ min j (xs.length : Int) < 0 := by omega
      simp only [if_neg h3, if_neg h4]
      rw [if_neg (by omega)]
      rfl
    unfold Txt.slice
    rw [S_length, h0]
    have hx : xs.length ≠ 0 := by omega
    have : ¬ ((1 : Int) == 1 && ([] : List Nat).length == xs.length) = true := by
      simp; omega
    rw [if_neg this]
    rw [show j.toNat - i.toNat = 0 by omega]
    simp [S]

section
variable {prog : Program} {w : World} {A : Around} {E : Value → Shared → Prop} {s : Shared} {t u : Tok} {value slice : PySem.Expr} {Q : Value → Shared → Prop} {h₀ : Heap} {L : Addr} {m : Str → Option Value} {news : List (Addr × Obj)}

theorem item_S {xs : List Nat} {k : Int} {c : Nat} (h0 : 0 ≤ k) (hfit : k < 2 ^ 62) (hx : xs[k.toNat]? = some c) (h : ∀ t' tk, Q (.str (S [c]) t') { s with toks := tk })
    (hs : subscripted slice false (.str (S xs) t) (.int k u) = operate [.str (S xs) t, .int k u] (getItem (.str (S xs) t) (.int k u)) := by with_unfolding_all rfl)
    (ht : ∀ r, letTemporaryGo value (.str (S xs) t) r = pure () := by intro _; with_unfolding_all rfl) :
    wpAny (model prog w) A (subscriptTail value slice (.str (S xs) t) (.int k u)) Q E s := by
  have hlt : k.toNat < xs.length := (List.getElem?_eq_some_iff.mp hx).1
  refine item_str (fitsSsize_of (N := 2 ^ 62) (by omega) (by omega) (by decide)) (by omega) (by rw [S_length]; omega) (fun _ => ?_) hs ht
  have e : Txt.item (S xs) k = S [c] := by
    unfold Txt.item Txt.charAt
    have h1 : seqIndex? k (S xs).length = some k.toNat := by
      rw [S_length]
      unfold seqIndex?
      have h1 : ¬ k < 0 := by omega
      have h2 : (0 : Int) ≤ k ∧ k < (xs.length : Int) := by omega
      simp only [if_neg h1]
      simp [h2]
    rw [h1]
    simp [S, hx]
  rw [e]
  exact h _ _

theorem cut_S {xs : List Nat} {i j : Int} {ui uj : Tok} (hi : 0 ≤ i) (hj : 0 ≤ j) (hF : Fr h₀ L s.heap m) (hN : News h₀ L s.heap news)
    (h : ∀ h' t' k, Fr h₀ L h' m → News h₀ L h' news → Q (.str (S ((xs.drop i.toNat).take (j.toNat - i.toNat))) t') { s with heap := h', toks := k })
    (hs : subscripted slice false (.str (S xs) t) (.ref s.heap.objs.size) = operate [.ref s.heap.objs.size, .str (S xs) t] (getItem (.str (S xs) t) (.ref s.heap.objs.size)) := by with_unfolding_all rfl)
    (ht : ∀ r, letTemporaryGo value (.str (S xs) t) r = pure () := by intro _; with_unfolding_all rfl) (hsz : xs.length ≤ 16777216) :
    wpAny (model prog w) A (subscriptTail value slice (.str (S xs) t) (.ref s.heap.objs.size)) Q E { s with heap := s.heap.push { cls := .type "slice", data := .fields #[.int i ui, .int j uj, .none] } } := by
  refine slice_strN_ss_len hF hN (fun h' t' k F' N' _ => ?_) hs ht (by rw [S_length, sizeLine_eq]; exact hsz)
  rw [slice_S hi hj]
  exact h h' t' k F' N'

theorem eq_S {a b : List Nat} (h : Q (.bool (decide (a = b))) s) : wpAny (model prog w) A (compareOp .Eq (.str (S a) t) (.str (S b) u)) Q E s := by
  refine PyProof.Rows.eq_str ?_
  have : (S a == S b) = decide (a = b) := by
    rw [Bool.eq_iff_iff, beq_iff_eq, S_eq_iff, decide_eq_true_eq]
  rw [this]; exact h
theorem ne_S {a b : List Nat} (h : Q (.bool (!decide (a = b))) s) : wpAny (model prog w) A (compareOp .NotEq (.str (S a) t) (.str (S b) u)) Q E s := by
  refine ne_str ?_
  have : (S a != S b) = !decide (a = b) := by
    rw [Bool.eq_iff_iff]; simp [S_eq_iff]
  rw [this]; exact h
theorem in_S {b : List Nat} {c : Nat} (h : Q (.bool (decide (c ∈ b))) s) : wpAny (model prog w) A (compareOp .In (.str (S [c]) t) (.str (S b) u)) Q E s := by
  refine PyProof.Rows.in_str ?_
  have := StrLaws.found_one (S b) c
  rw [S_cps] at this
  rw [show S [c] = (⟨#[c]⟩ : Str) from rfl, this]
  exact h
theorem notIn_S {b : List Nat} {c : Nat} (h : Q (.bool (!decide (c ∈ b))) s) : wpAny (model prog w) A (compareOp .NotIn (.str (S [c]) t) (.str (S b) u)) Q E s := by
  refine PyProof.Rows.notIn_str ?_
  have := StrLaws.found_one (S b) c
  rw [S_cps] at this
  rw [show S [c] = (⟨#[c]⟩ : Str) from rfl, this]
  exact h
theorem iadd_S {a b : List Nat} (hsz : a.length + b.length ≤ 16777216) (h : ∀ t' tk, Q (.str (S (a ++ b)) t') { s with toks := tk }) : wpAny (model prog w) A (inplaceOp .Add (.str (S a) t) (.str (S b) u)) Q E s := by
  refine PyProof.Rows.iadd_str (fun t' tk => ?_) (by rw [S_length, S_length, sizeLine_eq]; exact hsz)
  rw [S_append]; exact h t' tk
theorem add_S {a b : List Nat} (hsz : a.length + b.length ≤ 16777216) (h : ∀ t' tk, Q (.str (S (a ++ b)) t') { s with toks := tk }) : wpAny (model prog w) A (binaryOp .Add (.str (S a) t) (.str (S b) u)) Q E s := by
  refine PyProof.Rows.add_str (fun t' tk => ?_) (by rw [S_length, S_length, sizeLine_eq]; exact hsz)
  rw [S_append]; exact h t' tk
theorem add_R {a b : List Nat} {y : Str} (hy : y = S b) (hsz : a.length + b.length ≤ 16777216) (h : ∀ t' tk, Q (.str (S (a ++ b)) t') { s with toks := tk }) : wpAny (model prog w) A (binaryOp .Add (.str (S a) t) (.str y u)) Q E s := by
  subst hy; exact add_S hsz h
theorem add_L {a b : List Nat} {x : Str} (hx : x = S a) (hsz : a.length + b.length ≤ 16777216) (h : ∀ t' tk, Q (.str (S (a ++ b)) t') { s with toks := tk }) : wpAny (model prog w) A (binaryOp .Add (.str x t) (.str (S b) u)) Q E s := by
  subst hx; exact add_S hsz h
theorem ltI_t {a b : Int} (h : a < b) (hq : Q (.bool true) s) : wpAny (model prog w) A (compareOp .Lt (.int a t) (.int b u)) Q E s := by
  refine PyProof.Rows.lt_int ?_; rw [decide_eq_true h]; exact hq
theorem ltI_f {a b : Int} (h : b ≤ a) (hq : Q (.bool false) s) : wpAny (model prog w) A (compareOp .Lt (.int a t) (.int b u)) Q E s := by
  refine PyProof.Rows.lt_int ?_; rw [decide_eq_false (Int.not_lt.mpr h)]; exact hq
theorem gtI_t {a b : Int} (h : b < a) (hq : Q (.bool true) s) : wpAny (model prog w) A (compareOp .Gt (.int a t) (.int b u)) Q E s := by
  refine PyProof.Rows.gt_int ?_; rw [decide_eq_true h]; exact hq
theorem gtI_f {a b : Int} (h : a ≤ b) (hq : Q (.bool false) s) : wpAny (model prog w) A (compareOp .Gt (.int a t) (.int b u)) Q E s := by
  refine PyProof.Rows.gt_int ?_; rw [decide_eq_false (Int.not_lt.mpr h)]; exact hq
theorem eqI_t {a b : Int} (h : a = b) (hq : Q (.bool true) s) : wpAny (model prog w) A (compareOp .Eq (.int a t) (.int b u)) Q E s := by
  refine PyProof.Rows.eq_int ?_; rw [beq_iff_eq.mpr h]; exact hq
theorem eqI_f {a b : Int} (h : a ≠ b) (hq : Q (.bool false) s) : wpAny (model prog w) A (compareOp .Eq (.int a t) (.int b u)) Q E s := by
  refine PyProof.Rows.eq_int ?_; rw [beq_eq_false_iff_ne.mpr h]; exact hq
theorem neI_t {a b : Int} (h : a ≠ b) (hq : Q (.bool true) s) : wpAny (model prog w) A (compareOp .NotEq (.int a t) (.int b u)) Q E s := by
  refine PyProof.Rows.ne_int ?_; rw [bne, beq_eq_false_iff_ne.mpr h]; exact hq
theorem neI_f {a b : Int} (h : a = b) (hq : Q (.bool false) s) : wpAny (model prog w) A (compareOp .NotEq (.int a t) (.int b u)) Q E s := by
  refine PyProof.Rows.ne_int ?_; rw [bne, beq_iff_eq.mpr h]; exact hq
theorem eqL_t {x y : Str} (h : x = y) (hq : Q (.bool true) s) : wpAny (model prog w) A (compareOp .Eq (.str x t) (.str y u)) Q E s := by
  refine PyProof.Rows.eq_str ?_
  rw [h, beq_self_eq_true]; exact hq
theorem eqL_f {x y : Str} (h : x ≠ y) (hq : Q (.bool false) s) : wpAny (model prog w) A (compareOp .Eq (.str x t) (.str y u)) Q E s := by
  refine PyProof.Rows.eq_str ?_
  rw [beq_eq_false_iff_ne.mpr h]; exact hq
theorem neL_t {x y : Str} (h : x ≠ y) (hq : Q (.bool true) s) : wpAny (model prog w) A (compareOp .NotEq (.str x t) (.str y u)) Q E s := by
  refine ne_str ?_
  rw [bne, beq_eq_false_iff_ne.mpr h]; exact hq
theorem neL_f {x y : Str} (h : x = y) (hq : Q (.bool false) s) : wpAny (model prog w) A (compareOp .NotEq (.str x t) (.str y u)) Q E s := by
  refine ne_str ?_
  rw [h, bne, beq_self_eq_true]; exact hq
theorem inL_t {x y : Str} (h : Txt.contains x y = true) (hq : Q (.bool true) s) : wpAny (model prog w) A (compareOp .In (.str y u) (.str x t)) Q E s := by
  refine PyProof.Rows.in_str ?_
  rw [show (!(Builtin.Str.occurrences x y 0 x.length 1).isEmpty) = true from h]; exact hq
theorem inL_f {x y : Str} (h : Txt.contains x y = false) (hq : Q (.bool false) s) : wpAny (model prog w) A (compareOp .In (.str y u) (.str x t)) Q E s := by
  refine PyProof.Rows.in_str ?_
  rw [show (!(Builtin.Str.occurrences x y 0 x.length 1).isEmpty) = false from h]; exact hq
theorem notInL_f {x y : Str} (h : Txt.contains x y = true) (hq : Q (.bool false) s) : wpAny (model prog w) A (compareOp .NotIn (.str y u) (.str x t)) Q E s := by
  refine PyProof.Rows.notIn_str ?_
  rw [show (!(Builtin.Str.occurrences x y 0 x.length 1).isEmpty) = true from h]; exact hq
theorem notInL_t {x y : Str} (h : Txt.contains x y = false) (hq : Q (.bool true) s) : wpAny (model prog w) A (compareOp .NotIn (.str y u) (.str x t)) Q E s := by
  refine PyProof.Rows.notIn_str ?_
  rw [show (!(Builtin.Str.occurrences x y 0 x.length 1).isEmpty) = false from h]; exact hq
end
theorem escL_ge (l : List Nat) : l.length ≤ (escL l).length := by
  induction l with
  | nil => simp
  | cons c r ih =>
    have : escL (c :: r) = (if spec c = true then [92, c] else [c]) ++ escL r := rfl
    rw [this, List.length_append, List.length_cons]
    split <;> simp <;> omega
theorem contains_S (b : List Nat) (c : Nat) : Txt.contains (S b) (S [c]) = decide (c ∈ b) := by
  have := StrLaws.found_one (S b) c
  rw [S_cps] at this
  exact this
end Mine
end secMTxt
section secMCut
namespace Mine
/-- a text cut at its stars -/
def cut : List Nat → List (List Nat)
  | [] => [[]]
  | c :: r => if c = 42 then [] :: cut r else match cut r with
    | [] => [[c]]
    | p :: ps => (c :: p) :: ps
theorem cut_ne (l : List Nat) : ∃ p ps, cut l = p :: ps := by
  cases l with
  | nil => exact ⟨_, _, rfl⟩
  | cons c r =>
    rw [cut]
    split
    · exact ⟨_, _, rfl⟩
    · split <;> exact ⟨_, _, rfl⟩
/-- pieces put together by stars -/
def glue : List (List Nat) → List Nat
  | [] => []
  | [p] => p
  | p :: q :: r => p ++ 42 :: glue (q :: r)
theorem glue_cut (l : List Nat) : glue (cut l) = l := by
  induction l with
  | nil => rfl
  | cons c r ih =>
    rw [cut]
    obtain ⟨p, ps, e⟩ := cut_ne r
    rw [e] at ih ⊢
    split
    · rename_i h; subst h
      show [] ++ 42 :: glue (p :: ps) = _
      rw [ih]; rfl
    · cases ps with
      | nil => show c :: p = _; rw [show p = r from ih]
      | cons q ps =>
        have h2 : p ++ 42 :: glue (q :: ps) = r := ih
        show (c :: p) ++ 42 :: glue (q :: ps) = _
        rw [List.cons_append, h2]
theorem cut_free (l : List Nat) : ∀ p ∈ cut l, 42 ∉ p := by
  induction l with
  | nil => intro p hp; rw [List.mem_singleton.mp hp]; simp
  | cons c r ih =>
    rw [cut]
    obtain ⟨p, ps, e⟩ := cut_ne r
    rw [e] at ih ⊢
    split
    · intro q hq
      rcases List.mem_cons.mp hq with rfl | hq
      · simp
      · exact ih q hq
    · rename_i hc
      intro q hq
      rcases List.mem_cons.mp hq with rfl | hq
      · have := ih p List.mem_cons_self
        simp [this, Ne.symm hc]
      · exact ih q (List.mem_cons_of_mem _ hq)
theorem cut_free_eq (p : List Nat) (h : 42 ∉ p) : cut p = [p] := by
  induction p with
  | nil => rfl
  | cons c r ih =>
    have h1 : c ≠ 42 := fun e => h (by simp [e])
    rw [cut, if_neg h1, ih (fun e => h (by simp [e]))]
theorem cut_star (p r : List Nat) (h : 42 ∉ p) : cut (p ++ 42 :: r) = p :: cut r := by
  induction p with
  | nil => simp [cut]
  | cons c q ih =>
    have h1 : c ≠ 42 := fun e => h (by simp [e])
    rw [List.cons_append, cut, if_neg h1, ih (fun e => h (by simp [e]))]
theorem cut_glue : ∀ (ps : List (List Nat)), ps ≠ [] → (∀ p ∈ ps, 42 ∉ p) → cut (glue ps) = ps
  | [], h, _ => absurd rfl h
  | [p], _, h => by rw [glue, cut_free_eq p (h p (by simp))]
  | p :: q :: r, _, h => by
    rw [glue, cut_star p _ (h p (by simp)), cut_glue (q :: r) (by simp) (fun x hx => h x (List.mem_cons_of_mem _ hx))]

theorem glued_list (sep : Str) (ps : List Str) : (Builtin.Str.glued sep ps).cps.toList = (ps.headD Str.empty).cps.toList ++ ((ps.drop 1).map fun p => sep.cps.toList ++ p.cps.toList).flatten := by
  unfold Builtin.Str.glued
  have key : ∀ (l : List Str) (a : Array Nat), (l.foldl (fun acc p => acc ++ sep.cps ++ p.cps) a).toList = a.toList ++ (l.map fun p => sep.cps.toList ++ p.cps.toList).flatten := by
    intro l
    induction l with
    | nil => intro a; simp
    | cons p r ih => intro a; rw [List.foldl_cons, ih]; simp
  exact key _ _
theorem glue_list (p : List Nat) (ps : List (List Nat)) : glue (p :: ps) = p ++ (ps.map fun q => 42 :: q).flatten := by
  induction ps generalizing p with
  | nil => simp [glue]
  | cons q r ih => rw [glue, ih]; simp
theorem split_S (l : List Nat) : Txt.split (S l) (Str.ofString "*") = (cut l).map S := by
  have h1 : Str.ofString "*" = ⟨#[42]⟩ := by decide +kernel
  have hj := StrLaws.join_split (S l) (Str.ofString "*")
  have hf := StrLaws.split_free (S l) 42
  rw [← h1] at hf
  have hpos := partsS_pos (S l)
  unfold partsS at hpos
  rw [List.length_map] at hpos
  generalize Txt.split (S l) (Str.ofString "*") = ys at *
  have e1 : ys = (ys.map (·.cps.toList)).map S := by
    rw [List.map_map]
    conv => lhs; rw [← List.map_id ys]
    apply List.map_congr_left
    intro y _
    exact (S_of y).symm
  have hg : glue (ys.map (·.cps.toList)) = l := by
    cases ys with
    | nil => simp at hpos
    | cons y r =>
      rw [List.map_cons, glue_list]
      rw [← StrLaws.glued_eq_join] at hj
      have h2 := congrArg (fun z : Str => z.cps.toList) hj
      simp only [S_cps] at h2
      rw [glued_list, h1] at h2
      rw [← h2]
      simp [Function.comp_def]
  rw [e1]
  congr 1
  rw [← hg, cut_glue]
  · cases ys with
    | nil => simp at hpos
    | cons y r => simp
  · intro p hp
    obtain ⟨y, hy, rfl⟩ := List.mem_map.mp hp
    exact hf y hy

/-- what a part in the middle becomes -/
def wrapL (p : List Nat) : List Nat := [40, 63, 62, 46, 42, 63] ++ p ++ [41]
def tailP : List (List Nat) → List Nat
  | [] => []
  | [l] => 46 :: 42 :: l
  | m :: q :: r => wrapL m ++ tailP (q :: r)
/-- the pattern of a path whose masked parts are these -/
def tpP : List (List Nat) → List Nat
  | [] => []
  | [p] => 46 :: 42 :: p
  | p :: q :: r => p ++ tailP (q :: r)
def tpL (l : List Nat) : List Nat := tpP ((cut l).map escL)

theorem wrapS_S (p : List Nat) : wrapS (S p) = S (wrapL p) := by
  unfold wrapS wrapL
  have h1 : Str.ofString "(?>.*?" = S [40, 63, 62, 46, 42, 63] := by decide +kernel
  have h2 : Str.ofString ")" = S [41] := by decide +kernel
  rw [h1, h2, S_append, S_append]
theorem partsS_S (l : List Nat) : partsS (S l) = ((cut l).map escL).map S := by
  unfold partsS
  rw [split_S, List.map_map, List.map_map]
  apply List.map_congr_left
  intro p _
  exact esc_S p
/-- the list behind the loop and the last store, by lists of numbers -/
def finL (ps : List (List Nat)) : List (List Nat) := match ps with
  | [] => []
  | [p] => [46 :: 42 :: p]
  | p :: q :: r => p :: finT (q :: r)
where finT : List (List Nat) → List (List Nat)
  | [] => []
  | [l] => [46 :: 42 :: l]
  | m :: q :: r => wrapL m :: finT (q :: r)
theorem finT_flat : ∀ ps, (finL.finT ps).flatten = tailP ps
  | [] => rfl
  | [l] => by simp [finL.finT, tailP]
  | m :: q :: r => by rw [finL.finT, tailP, List.flatten_cons, finT_flat (q :: r)]
theorem finL_flat (ps : List (List Nat)) : (finL ps).flatten = tpP ps := by
  match ps with
  | [] => rfl
  | [p] => simp [finL, tpP]
  | p :: q :: r => rw [finL, tpP, List.flatten_cons, finT_flat]
theorem finT_length : ∀ ps, (finL.finT ps).length = ps.length
  | [] => rfl
  | [l] => rfl
  | m :: q :: r => by rw [finL.finT, List.length_cons, finT_length (q :: r)]; rfl
theorem finT_get : ∀ (ps : List (List Nat)) (i : Nat), (finL.finT ps)[i]? = ps[i]?.map fun p => if i + 1 < ps.length then wrapL p else 46 :: 42 :: p
  | [], i => by simp [finL.finT]
  | [l], i => by
    cases i with
    | zero => rfl
    | succ i => simp [finL.finT]
  | m :: q :: r, i => by
    cases i with
    | zero => simp [finL.finT]
    | succ i =>
      rw [finL.finT, List.getElem?_cons_succ, finT_get (q :: r) i, List.getElem?_cons_succ]
      simp only [List.length_cons]
      congr 1
      funext p
      by_cases h : i + 1 < r.length + 1
      · rw [if_pos h, if_pos (by omega)]
      · rw [if_neg h, if_neg (by omega)]
theorem finL_get (ps : List (List Nat)) (i : Nat) : (finL ps)[i]? = ps[i]?.map fun p => if i + 1 = ps.length then 46 :: 42 :: p else if i = 0 then p else wrapL p := by
  match ps with
  | [] => simp [finL]
  | [p] =>
    cases i with
    | zero => rfl
    | succ i => simp [finL]
  | p :: q :: r =>
    cases i with
    | zero => simp [finL]
    | succ i =>
      rw [finL, List.getElem?_cons_succ, List.getElem?_cons_succ, finT_get]
      cases hq : (q :: r)[i]? with
      | none => rfl
      | some z =>
        have hl : i < (q :: r).length := (List.getElem?_eq_some_iff.mp hq).1
        simp only [Option.map_some, List.length_cons] at hl ⊢
        by_cases h : i + 1 < r.length + 1
        · rw [if_pos h, if_neg (by omega), if_neg (by omega)]
        · rw [if_neg h, if_pos (by omega)]
theorem finS_S (l : List Nat) : finS (S l) = (finL ((cut l).map escL)).map S := by
  apply List.ext_getElem?
  intro i
  unfold finS
  rw [partsS_S]
  generalize (cut l).map escL = ps
  rw [List.length_map, List.getElem?_set, wrapTo_length, List.length_map, List.getElem?_map, finL_get, wrapTo_get, List.getElem?_map]
  have hS : Str.ofString ".*" = S [46, 42] := by decide +kernel
  by_cases h1 : ps.length - 1 = i
  · subst h1
    rw [if_pos rfl]
    by_cases h2 : ps.length - 1 < ps.length
    · rw [if_pos h2]
      obtain ⟨p, hp⟩ : ∃ p, ps[ps.length - 1]? = some p := ⟨ps[ps.length - 1], by simp⟩
      rw [List.getD_eq_getElem?_getD, wrapTo_get, List.getElem?_map, hp]
      have h3 : ¬ (1 ≤ ps.length - 1 ∧ ps.length - 1 < 1 + (ps.length - 2)) := by omega
      have h4 : ps.length - 1 + 1 = ps.length := by omega
      simp only [Option.map_some, if_neg h3, if_pos h4, Option.getD_some, hS, S_append]
      rfl
    · rw [if_neg h2]
      have : ps[ps.length - 1]? = none := List.getElem?_eq_none (by omega)
      rw [this]; rfl
  · rw [if_neg h1]
    cases hp : ps[i]? with
    | none => rfl
    | some p =>
      have hl : i < ps.length := (List.getElem?_eq_some_iff.mp hp).1
      have h3 : ¬ (i + 1 = ps.length) := by omega
      simp only [Option.map_some, if_neg h3]
      by_cases h2 : i = 0
      · rw [if_pos h2, if_neg (by omega)]
      · rw [if_neg h2, if_pos (by omega), wrapS_S]
theorem tpS_S (l : List Nat) : tpS (S l) = S (tpL l) := by
  have : (tpS (S l)).cps.toList = tpL l := by
    unfold tpS Txt.join
    rw [glued_list, finS_S]
    unfold tpL
    rw [← finL_flat]
    have h0 : (Str.ofString "").cps.toList = [] := by decide +kernel
    rw [h0]
    cases finL ((cut l).map escL) with
    | nil => rfl
    | cons p r =>
      simp only [List.map_cons, List.headD_cons, List.drop_succ_cons, List.drop_zero, List.nil_append, S_cps, List.flatten_cons, List.map_map]
      congr 2
      conv => rhs; rw [← List.map_id r]
      apply List.map_congr_left
      intro q _
      exact S_cps q
  rw [← S_of (tpS (S l)), this]

theorem tailP_head : ∀ (rest : List (List Nat)), rest ≠ [] → ∀ c r, tailP rest = c :: r → spec c = true ∧ c ≠ 92
  | [], h, _, _, _ => absurd rfl h
  | [l], _, c, r, e => by
    rw [tailP] at e
    cases e
    decide
  | m :: q :: s, _, c, r, e => by
    rw [tailP, wrapL] at e
    cases e
    decide
theorem read_start (ps : List (List Nat)) (hne : ps ≠ []) (h42 : ∀ p ∈ ps, 42 ∉ p) : ∃ p0 rest0, tpP (ps.map escL) = escL p0 ++ tailP (rest0.map escL) ∧ rest0 ≠ [] ∧ 42 ∉ p0 ∧ (∀ p ∈ rest0, 42 ∉ p) ∧
    p0 ++ (rest0.map fun q => 42 :: q).flatten = (if ps.length = 1 then 42 :: glue ps else glue ps) := by
  match ps with
  | [] => exact absurd rfl hne
  | [p] => exact ⟨[], [p], rfl, by simp, by simp, h42, by simp [glue]⟩
  | p :: q :: r =>
    refine ⟨p, q :: r, rfl, by simp, h42 p (by simp), fun x hx => h42 x (List.mem_cons_of_mem _ hx), ?_⟩
    rw [if_neg (by simp), glue_list]

theorem cut_sum (l : List Nat) : ((cut l).map (·.length)).sum + (cut l).length = l.length + 1 := by
  induction l with
  | nil => rfl
  | cons c r ih =>
    rw [cut]
    obtain ⟨p, ps, e⟩ := cut_ne r
    rw [e] at ih ⊢
    split
    · simp only [List.map_cons, List.sum_cons, List.length_cons, List.length_nil] at ih ⊢; omega
    · simp only [List.map_cons, List.sum_cons, List.length_cons] at ih ⊢; omega
theorem tailP_len : ∀ ps : List (List Nat), (tailP ps).length ≤ (ps.map (·.length)).sum + 7 * ps.length
  | [] => by simp [tailP]
  | [l] => by simp [tailP]
  | m :: q :: r => by
    have ih := tailP_len (q :: r)
    rw [tailP]
    simp only [wrapL, List.length_append, List.length_cons, List.length_nil, List.map_cons, List.sum_cons] at ih ⊢
    omega
theorem tpP_len (ps : List (List Nat)) : (tpP ps).length ≤ (ps.map (·.length)).sum + 7 * ps.length := by
  match ps with
  | [] => simp [tpP]
  | [l] => simp [tpP]
  | p :: q :: r =>
    have := tailP_len (q :: r)
    rw [tpP]
    simp only [List.length_append, List.length_cons, List.map_cons, List.sum_cons] at this ⊢
    omega
theorem tpL_len (l : List Nat) : (tpL l).length ≤ 9 * l.length + 9 := by
  have h1 := tpP_len ((cut l).map escL)
  have h2 := cut_sum l
  have h3 : (((cut l).map escL).map (·.length)).sum ≤ 2 * ((cut l).map (·.length)).sum := by
    generalize cut l = ps
    induction ps with
    | nil => simp
    | cons p r ih =>
      have := escL_length p
      simp only [List.map_cons, List.sum_cons] at ih ⊢
      omega
  rw [List.length_map] at h1
  unfold tpL
  omega
theorem cut_one (l : List Nat) (h : 42 ∉ l) : (if (cut l).length = 1 then 42 :: glue (cut l) else glue (cut l)) = 42 :: l := by
  rw [cut_free_eq l h]; rfl
theorem cut_two (l : List Nat) (h : 42 ∈ l) : (if (cut l).length = 1 then 42 :: glue (cut l) else glue (cut l)) = l := by
  have : (cut l).length ≠ 1 := by
    intro e
    obtain ⟨p, ps, e2⟩ := cut_ne l
    rw [e2] at e
    have : ps = [] := by simpa using e
    subst this
    have g := glue_cut l
    rw [e2] at g
    have : p = l := g
    subst this
    exact cut_free p p (by rw [e2]; simp) h
  rw [if_neg this, glue_cut]
end Mine
end secMCut
section secMJoin
namespace Mine
theorem glue_cons (p : List Nat) (q : List Nat) (r : List (List Nat)) : glue (p :: q :: r) = p ++ 42 :: glue (q :: r) := rfl
theorem glue_join (al b0 : List Nat) (bs : List (List Nat)) : ∀ as : List (List Nat), glue (as ++ [al]) ++ glue (b0 :: bs) = glue (as ++ (al ++ b0) :: bs)
  | [] => by
    show al ++ glue (b0 :: bs) = glue ((al ++ b0) :: bs)
    rw [glue_list, glue_list, List.append_assoc]
  | [p] => by
    have ih := glue_join al b0 bs []
    show (p ++ 42 :: glue ([] ++ [al])) ++ glue (b0 :: bs) = p ++ 42 :: glue ([] ++ (al ++ b0) :: bs)
    rw [← ih]; simp
  | p :: q :: r => by
    have ih := glue_join al b0 bs (q :: r)
    show (p ++ 42 :: glue ((q :: r) ++ [al])) ++ glue (b0 :: bs) = p ++ 42 :: glue ((q :: r) ++ (al ++ b0) :: bs)
    rw [← ih]; simp
theorem cut_append {a b al b0 : List Nat} {as bs : List (List Nat)} (ha : cut a = as ++ [al]) (hb : cut b = b0 :: bs) : cut (a ++ b) = as ++ (al ++ b0) :: bs := by
  have h1 := glue_join al b0 bs as
  rw [← ha, ← hb, glue_cut, glue_cut] at h1
  rw [h1]
  apply cut_glue
  · simp
  · intro p hp
    have fa := cut_free a
    have fb := cut_free b
    rw [ha] at fa
    rw [hb] at fb
    rcases List.mem_append.mp hp with h | h
    · exact fa p (List.mem_append.mpr (.inl h))
    · rcases List.mem_cons.mp h with rfl | h
      · have h2 := fa al (by simp)
        have h3 := fb b0 (by simp)
        simp [h2, h3]
      · exact fb p (List.mem_cons_of_mem _ h)
theorem cut_snoc (a : List Nat) : ∃ as al, cut a = as ++ [al] := by
  obtain ⟨p, ps, e⟩ := cut_ne a
  rw [e]
  exact ⟨(p :: ps).dropLast, (p :: ps).getLast (by simp), (List.dropLast_concat_getLast (by simp)).symm⟩
theorem cut_mem {a : List Nat} : 42 ∈ a ↔ 2 ≤ (cut a).length := by
  constructor
  · intro h
    have := cut_two a h
    obtain ⟨p, ps, e⟩ := cut_ne a
    cases ps with
    | nil =>
      have g := glue_cut a
      rw [e] at g
      have e2 : p = a := g
      exact absurd h (e2 ▸ cut_free a p (by rw [e]; simp))
    | cons q r => rw [e]; simp
  · intro h
    apply Classical.byContradiction
    intro hn
    rw [cut_free_eq a hn] at h
    simp at h
/-- what stands ahead of the last dot and star -/
def preP : List (List Nat) → List Nat
  | [] => []
  | p :: r => p ++ (r.map wrapL).flatten
theorem tailP_snoc (x : List Nat) : ∀ r : List (List Nat), tailP (r ++ [x]) = (r.map wrapL).flatten ++ 46 :: 42 :: x
  | [] => rfl
  | [m] => by simp [tailP]
  | m :: q :: r => by
    have ih := tailP_snoc x (q :: r)
    show wrapL m ++ tailP ((q :: r) ++ [x]) = _
    rw [ih]; simp
theorem tpP_snoc (as : List (List Nat)) (x : List Nat) : tpP (as ++ [x]) = preP as ++ 46 :: 42 :: x := by
  match as with
  | [] => rfl
  | [p] => simp [tpP, tailP, preP]
  | p :: q :: r =>
    show p ++ tailP ((q :: r) ++ [x]) = _
    rw [tailP_snoc]; simp [preP]
theorem tailP_mid (y : List Nat) (bs : List (List Nat)) (hb : bs ≠ []) : ∀ r : List (List Nat), tailP (r ++ y :: bs) = (r.map wrapL).flatten ++ wrapL y ++ tailP bs
  | [] => by
    cases bs with
    | nil => exact absurd rfl hb
    | cons b c => simp [tailP]
  | [m] => by
    cases bs with
    | nil => exact absurd rfl hb
    | cons b c => simp [tailP]
  | m :: q :: r => by
    have ih := tailP_mid y bs hb (q :: r)
    show wrapL m ++ tailP ((q :: r) ++ y :: bs) = _
    rw [ih]; simp
theorem tpP_mid (as : List (List Nat)) (y : List Nat) (bs : List (List Nat)) (ha : as ≠ []) (hb : bs ≠ []) : tpP (as ++ y :: bs) = preP as ++ wrapL y ++ tailP bs := by
  match as with
  | [] => exact absurd rfl ha
  | [p] =>
    cases bs with
    | nil => exact absurd rfl hb
    | cons b c => simp [tpP, preP, tailP]
  | p :: q :: r =>
    show p ++ tailP ((q :: r) ++ y :: bs) = _
    rw [tailP_mid y bs hb]; simp [preP]
theorem tpP_head (y : List Nat) (bs : List (List Nat)) (hb : bs ≠ []) : tpP (y :: bs) = y ++ tailP bs := by
  cases bs with
  | nil => exact absurd rfl hb
  | cons b c => rfl
theorem escL_free {p : List Nat} (h : 42 ∉ p) : 42 ∉ escL p := by
  intro hm
  unfold escL at hm
  obtain ⟨c, hc, h2⟩ := List.mem_flatMap.mp hm
  split at h2
  · rcases List.mem_cons.mp h2 with h3 | h3
    · cases h3
    · rw [List.mem_singleton] at h3; exact h (h3 ▸ hc)
  · rw [List.mem_singleton] at h2; exact h (h2 ▸ hc)
/-- the last part behind a star -/
theorem cut_behind (u v : List Nat) (h : 42 ∉ v) : ∃ us, cut (u ++ 42 :: v) = us ++ [v] := by
  obtain ⟨as, al, e⟩ := cut_snoc u
  have h2 := cut_append (b := 42 :: v) e (b0 := []) (bs := [v]) (by rw [cut, if_pos rfl, cut_free_eq v h])
  exact ⟨as ++ [al ++ []], by rw [h2]; simp⟩
/-- the parts of a pattern at its stars: the last one -/
theorem cut_tp_last {a al : List Nat} {as : List (List Nat)} (ha : cut a = as ++ [al]) : ∃ us, cut (tpL a) = us ++ [escL al] := by
  unfold tpL
  rw [ha, List.map_append, List.map_cons, List.map_nil, tpP_snoc]
  have hf : 42 ∉ escL al := escL_free (cut_free a al (by rw [ha]; simp))
  have := cut_behind (preP (as.map escL) ++ [46]) (escL al) hf
  simpa using this
theorem join_plain {a b : List Nat} {as : List (List Nat)} {al : List Nat} (ha : cut a = as ++ [al]) (hb : 42 ∉ b) : tpL (a ++ b) = tpL a ++ escL b := by
  unfold tpL
  rw [cut_append ha (cut_free_eq b hb), ha]
  simp only [List.map_append, List.map_cons, List.map_nil]
  rw [tpP_snoc, tpP_snoc, escL_append]
  simp
theorem join_bare {a b b0 : List Nat} {bs : List (List Nat)} (ha : 42 ∉ a) (hb : cut b = b0 :: bs) (hbs : bs ≠ []) : tpL (a ++ b) = escL a ++ tpL b := by
  unfold tpL
  rw [cut_append (as := []) (al := a) (by rw [cut_free_eq a ha]; rfl) hb, hb]
  simp only [List.nil_append, List.map_cons]
  rw [tpP_head _ _ (by simpa using hbs), tpP_head _ _ (by simpa using hbs), escL_append]
  simp
theorem join_group {a b al b0 : List Nat} {as bs : List (List Nat)} (ha : cut a = as ++ [al]) (has : as ≠ []) (hb : cut b = b0 :: bs) (hbs : bs ≠ []) :
    tpL (a ++ b) = preP (as.map escL) ++ ([40, 63, 62, 46, 42, 63] ++ (escL al ++ (escL b0 ++ ([41] ++ tailP (bs.map escL))))) := by
  unfold tpL
  rw [cut_append ha hb]
  simp only [List.map_append, List.map_cons]
  rw [tpP_mid _ _ _ (by simpa using has) (by simpa using hbs), escL_append]
  simp [wrapL]
/-- the first part of a pattern at its stars -/
theorem cut_tp_head {b b0 : List Nat} {bs : List (List Nat)} (hb : cut b = b0 :: bs) (hbs : bs ≠ []) :
    (∃ us, cut (tpL b) = (escL b0 ++ [46]) :: us ∧ (tpL b).drop (escL b0).length = tailP (bs.map escL) ∧ (∀ r, (tpL b).drop ((escL b0).length + 2) ≠ 63 :: r) ) ∨
    (∃ us, cut (tpL b) = (escL b0 ++ [40, 63, 62, 46]) :: us ∧ (tpL b).drop (escL b0).length = tailP (bs.map escL) ∧ ∃ r, (tpL b).drop ((escL b0).length + 5) = 63 :: r) := by
  have e : tpL b = escL b0 ++ tailP (bs.map escL) := by
    unfold tpL; rw [hb, List.map_cons, tpP_head _ _ (by simpa using hbs)]
  have hf : 42 ∉ escL b0 := escL_free (cut_free b b0 (by rw [hb]; simp))
  have hd : (tpL b).drop (escL b0).length = tailP (bs.map escL) := by rw [e, List.drop_left]
  match bs, hbs with
  | [q], _ =>
    left
    have e2 : tpL b = (escL b0 ++ [46]) ++ 42 :: escL q := by rw [e]; simp [tailP]
    refine ⟨_, by rw [e2]; exact cut_star _ _ (by simp [hf]), hd, ?_⟩
    intro r h
    rw [e, List.drop_append, List.drop_of_length_le (by omega)] at h
    simp [tailP] at h
    cases q with
    | nil => simp [escL] at h
    | cons c s =>
      have : escL (c :: s) = (if spec c = true then [92, c] else [c]) ++ escL s := rfl
      rw [this] at h
      split at h
      · simp at h
      · rename_i hc
        simp at h
        rw [h.1] at hc
        exact hc (by decide)
  | q :: q2 :: r, _ =>
    right
    have e2 : tpL b = (escL b0 ++ [40, 63, 62, 46]) ++ 42 :: (63 :: (escL q ++ ([41] ++ tailP ((q2 :: r).map escL)))) := by rw [e]; simp [tailP, wrapL]
    refine ⟨_, by rw [e2]; exact cut_star _ _ (by simp [hf]), hd, escL q ++ ([41] ++ tailP ((q2 :: r).map escL)), ?_⟩
    · rw [e2, show (escL b0).length + 5 = (escL b0 ++ [40, 63, 62, 46]).length + 1 by simp, List.drop_append, List.drop_of_length_le (by omega)]
      simp

section
variable {prog : Program} {w : World} {A : Around} {E : Value → Shared → Prop} {s : Shared} {u : Tok} {value slice : PySem.Expr} {Q : Value → Shared → Prop} {a : Addr} {l : List (Str × Tok)}
theorem sub_last {us : List (List Nat)} {v : List Nat} (hl : s.heap.IsList a (strValues l).toArray) (e : l.map (·.1) = (us ++ [v]).map S) (h : ∀ t, Q (.str (S v) t) s)
    (hs : subscripted slice false (.ref a) (.int (-1) u) = operate [.ref a, .int (-1) u] (getItem (.ref a) (.int (-1) u)) := by with_unfolding_all rfl) :
    wpAny (model prog w) A (subscriptTail value slice (.ref a) (.int (-1) u)) Q E s := by
  have hlen : l.length = us.length + 1 := by
    have := congrArg List.length e
    simpa using this
  obtain ⟨p, hp⟩ : ∃ p, l[us.length]? = some p := ⟨l[us.length]'(by omega), by simp⟩
  have hv : p.1 = S v := by
    have h1 : (l.map (·.1))[us.length]? = some p.1 := by simp [hp]
    rw [e] at h1
    simp at h1
    exact h1.symm
  have hx := strValues_get hp
  rw [hv] at hx
  have hsz : (strValues l).toArray.size = us.length + 1 := by rw [List.size_toArray, strValues_length, hlen]
  refine subscriptTail_builtinR (x := .str (S v) p.2) hl.typeIs slot_list_getitem.lookup (wpAny_getItem_list_neg (Q := fun r s' => r = .str (S v) p.2 ∧ Q r s') hl (by decide) (by rw [hsz]; omega) (by decide) ?_ ⟨rfl, h _⟩) hs
  rw [hsz, show ((-1 : Int) + ((us.length + 1 : Nat) : Int)).toNat = us.length by omega, List.getElem?_toArray]
  exact hx
theorem sub_head {us : List (List Nat)} {v : List Nat} (hl : s.heap.IsList a (strValues l).toArray) (e : l.map (·.1) = (v :: us).map S) (h : ∀ t, Q (.str (S v) t) s)
    (hs : subscripted slice false (.ref a) (.int 0 u) = operate [.ref a, .int 0 u] (getItem (.ref a) (.int 0 u)) := by with_unfolding_all rfl) :
    wpAny (model prog w) A (subscriptTail value slice (.ref a) (.int 0 u)) Q E s := by
  cases l with
  | nil => cases e
  | cons p r =>
    simp only [List.map_cons, List.cons.injEq] at e
    refine item_listR hl (by decide) (by decide) (x := .str (S v) p.2) ?_ (h _) hs
    rw [List.getElem?_toArray, ← e.1]; rfl
end

theorem slice_to_S {xs : List Nat} {j : Int} (hj : 0 ≤ j) : Txt.slice (S xs) none (some j) = S (xs.take j.toNat) := by
  have e : Txt.slice (S xs) none (some j) = Txt.slice (S xs) (some 0) (some j) := by
    unfold Txt.slice Builtin.Str.strSliceIndices
    have h1 : max 0 (min (0 : Int) ((S xs).length : Int)) = 0 := by omega
    simp [h1]
  rw [e, slice_S (by decide) hj]
  simp
theorem slice_from_S {xs : List Nat} {i : Int} (hi : 0 ≤ i) : Txt.slice (S xs) (some i) none = S (xs.drop i.toNat) := by
  have e : Txt.slice (S xs) (some i) none = Txt.slice (S xs) (some i) (some (xs.length : Int)) := by
    unfold Txt.slice Builtin.Str.strSliceIndices
    rw [S_length]
    have h1 : max 0 (min (xs.length : Int) (xs.length : Int)) = xs.length := by omega
    have h2 : ¬ ((xs.length : Int) < 0) := by omega
    simp [h1, h2]
  rw [e, slice_S hi (by omega)]
  rw [S_eq_iff, List.take_of_length_le]
  rw [List.length_drop]; omega
section
variable {prog : Program} {w : World} {A : Around} {E : Value → Shared → Prop} {s : Shared} {t u : Tok} {value slice : PySem.Expr} {Q : Value → Shared → Prop} {h₀ : Heap} {L : Addr} {m : Str → Option Value} {news : List (Addr × Obj)}
theorem len_S {xs : List Nat} (hsz : xs.length ≤ 16777216) (h : ∀ t' tk, Q (.int (xs.length : Int) t') { s with toks := tk }) : wpAny (model prog w) A (call (.builtin "len") [.str (S xs) t]) Q E s := by
  refine PyProof.Rows.len_str (by rw [S_length]; omega) ?_
  rw [S_length]
  exact h _ _
theorem len_Sn {xs : List Nat} {n : Nat} (hn : xs.length = n) (hsz : n ≤ 16777216) (h : ∀ t' tk, Q (.int (n : Int) t') { s with toks := tk }) : wpAny (model prog w) A (call (.builtin "len") [.str (S xs) t]) Q E s := by
  subst hn; exact len_S hsz h
theorem cutTo_S {xs : List Nat} {j : Int} {uj : Tok} (hj : 0 ≤ j) (hF : Fr h₀ L s.heap m) (hN : News h₀ L s.heap news)
    (h : ∀ h' t' k, Fr h₀ L h' m → News h₀ L h' news → Q (.str (S (xs.take j.toNat)) t') { s with heap := h', toks := k })
    (hs : subscripted slice false (.str (S xs) t) (.ref s.heap.objs.size) = operate [.ref s.heap.objs.size, .str (S xs) t] (getItem (.str (S xs) t) (.ref s.heap.objs.size)) := by with_unfolding_all rfl)
    (ht : ∀ r, letTemporaryGo value (.str (S xs) t) r = pure () := by intro _; with_unfolding_all rfl) (hsz : xs.length ≤ 16777216) :
    wpAny (model prog w) A (subscriptTail value slice (.str (S xs) t) (.ref s.heap.objs.size)) Q E { s with heap := s.heap.push { cls := .type "slice", data := .fields #[.none, .int j uj, .none] } } := by
  refine slice_strN_ns hF hN (fun h' t' k F' N' => ?_) hs ht (by rw [S_length, sizeLine_eq]; exact hsz)
  rw [slice_to_S hj]
  exact h h' t' k F' N'
theorem cutFrom_S {xs : List Nat} {i : Int} {ui : Tok} (hi : 0 ≤ i) (hF : Fr h₀ L s.heap m) (hN : News h₀ L s.heap news)
    (h : ∀ h' t' k, Fr h₀ L h' m → News h₀ L h' news → Q (.str (S (xs.drop i.toNat)) t') { s with heap := h', toks := k })
    (hs : subscripted slice false (.str (S xs) t) (.ref s.heap.objs.size) = operate [.ref s.heap.objs.size, .str (S xs) t] (getItem (.str (S xs) t) (.ref s.heap.objs.size)) := by with_unfolding_all rfl)
    (ht : ∀ r, letTemporaryGo value (.str (S xs) t) r = pure () := by intro _; with_unfolding_all rfl) (hsz : xs.length ≤ 16777216) :
    wpAny (model prog w) A (subscriptTail value slice (.str (S xs) t) (.ref s.heap.objs.size)) Q E { s with heap := s.heap.push { cls := .type "slice", data := .fields #[.int i ui, .none, .none] } } := by
  refine slice_strN_sn hF hN (fun h' t' k F' N' => ?_) hs ht (by rw [S_length, sizeLine_eq]; exact hsz)
  rw [slice_from_S hi]
  exact h h' t' k F' N'
end
end Mine
end secMJoin
namespace Mine
open_top hd07 for PySem.Challenge.rw_dn0256_07
end Mine
section secA07
namespace Mine
theorem tab07 {w : World} {h : Heap} (X : (hd07.heap_39 w.params).In h) : TabEsc Challenge.rw_dn0256_07.row.prog w h 16 :=
  tabEsc_of (X 16 _ rfl) (by decide +kernel) (by decide +kernel) (by decide +kernel)
local macro_rules | `(tactic| walk_at "getMethod str") => `(tactic| (k_here; (with_reducible show wpAny _ _ (getMethod (Value.str _ _) (Str.ofString "translate") _) _ _ _); refine gm_translate ?_))
local macro_rules | `(tactic| walk_at "call builtin:str.translate") => `(tactic| (k_here; k_dflt (refine call_translate (by assumption) (by decide) (TabEsc.ext (tab07 (by k_asm)) (Fr.keep (by k_asm))) (by assumption) ?_); intro h' tk tk' e'))
local macro_rules | `(tactic| walk_at "go") => `(tactic| repeat' (first | (k_unfold; (try dsimp only)) | walk1 | (dsimp only; walk1)))
theorem ct_escape {w : World} {A : Around} {s : Shared} {x : Str} {t : Tok} {Q E : Value → Shared → Prop} {mean : ExcName → Option Value} {mg mb : Str → Option Value}
   (X : (hd07.heap_39 w.params).In s.heap) (T : Top hd07.view_39 (looseW hd07.view_39 ["_special_chars_map"]) mean mg mb s.heap) (hd : A.depth < recursionLimit) (hh : A.handled = none)
   (hx : x.length ≤ 100000)
   (hQ : ∀ h' tk tk', Ext s.heap h' → Q (.str (esc x) tk') {s with heap := h', toks := tk}) :
   wpAny (model Challenge.rw_dn0256_07.row.prog w) A (call (.ref 26) [.str x t]) Q E s := by
  revert X
  k_fill
  intro X
  refine wpAny_call ?_
  refine call_pos_ret (by omega) (X _ _ rfl) rfl T.nolimit (codeRec_of X (by k_is)) rfl (locs rfl) (fun h₁ F => ?_) 
  replace F : Fr s.heap s.heap.objs.size h₁ (fun y => [(Str.ofString "pattern", Value.str x t)].reverse.lookup y) := F
  have N : News s.heap s.heap.objs.size h₁ [] := News.nil
  walk_at "go"
  exact hQ _ _ _ (Ext.trans F.keep (by assumption))
end Mine
end secA07
section secA07t
namespace Mine
local macro_rules | `(tactic| walk_at "go") => `(tactic| repeat' (first | (k_unfold; (try dsimp only)) | walk1 | (dsimp only; walk1)))
local macro_rules | `(tactic| walk_at "subscriptTail Name Name ref int") => `(tactic| (k_here; k_dflt (refine kim_list (by k_asm) (List.Mem.head _) rfl rfl (by assumption) (by omega) (by assumption) ?_)))
theorem ct_tp {w : World} {A : Around} {s : Shared} {x : Str} {t : Tok} {Q E : Value → Shared → Prop} {mean : ExcName → Option Value} {mg mb : Str → Option Value}
   (X : (hd07.heap_39 w.params).In s.heap) (T : Top hd07.view_39 (looseW hd07.view_39 ["_special_chars_map"]) mean mg mb s.heap) (hd : A.depth + 10 < recursionLimit) (hh : A.handled = none)
   (hx : x.length ≤ 1000)
   (hQ : ∀ h' tk tk', Ext s.heap h' → Q (.str (tpS x) tk') {s with heap := h', toks := tk}) :
   wpAny (model Challenge.rw_dn0256_07.row.prog w) A (call (.ref 33) [.str x t]) Q E s := by
  revert X
  k_fill
  intro X
  have hdeep : ∀ env : Env, (A.deeper env).in1.in1.in1.depth < recursionLimit := fun env => by
    show A.depth + 1 < recursionLimit
    omega
  refine wpAny_call ?_
  refine call_pos_ret (by omega) (X _ _ rfl) rfl T.nolimit (codeRec_of X (by k_is)) rfl (locs rfl) (fun h₁ F => ?_)
  replace F : Fr s.heap s.heap.objs.size h₁ (fun y => [(Str.ofString "path", Value.str x t)].reverse.lookup y) := F
  have N : News s.heap s.heap.objs.size h₁ [] := News.nil
  walk_at "go"
  rename_i l h2 k e1 e2 e3 e4 F2 N2
  dsimp only at e4 N2
  refine call_map e4 (fun h3 hM hTI hIt hz he3 => ?_)
  dsimp only at hM hTI hIt hz he3 ⊢
  walk_at "go"
  refine call_list_map (P := fun i v => ∃ y t, ((partsS x))[i]? = some y ∧ v = Value.str y t) hh he3 hz hM hTI hIt e4 ?_ ?_ ?_
  · have h1 := congrArg List.length e1
    have h2 := partsS_len x
    rw [List.length_map] at h1
    rw [partsS, List.length_map] at h2
    rw [List.size_toArray, strValues_length, sizeLine_eq]; omega
  · intro i v s' Q' E' hi he' hq'
    rw [List.getElem?_toArray] at hi
    obtain ⟨p, hp, rfl⟩ : ∃ p, l[i]? = some p ∧ v = Value.str p.1 p.2 := by
      simp only [strValues, List.getElem?_map] at hi
      obtain ⟨p, h1, h2⟩ := Option.map_eq_some_iff.mp hi
      exact ⟨p, h1, h2.symm⟩
    have hk' : ∀ b o, s.heap.get? b = some o → s'.heap.get? b = some o := fun b o e => he' b o (F2.keep b o e)
    have hpm : p.1 ∈ l.map (·.1) := List.mem_map_of_mem (List.mem_of_getElem? hp)
    have hp1 := e3 _ hpm
    refine ct_escape (X.keeps hk') (T.keeps hk') (hdeep _) (by exact hh) (by omega) (fun h' tk tk' he'' => hq' _ h' tk ⟨_, _, ?_, rfl⟩ he'')
    have : (l.map (·.1))[i]? = some p.1 := by simp [hp]
    rw [e1] at this
    simp [partsS, this]
  intro h4 tk4 acc c4 he4 hn4 hS4 hacc
  rw [List.size_toArray, strValues_length] at hacc
  obtain ⟨l4, rfl, hl4⟩ := itemsOf_strs (ys := partsS x) (by simp [partsS, ← e1]) hacc
  have F4 := F2.keeps he4
  have N4 : News s.heap s.heap.objs.size h4 [(h3.objs.size, W.listOf (strValues l4).toArray c4)] := by
    intro p hp
    rw [List.mem_singleton.mp hp]
    refine ⟨hS4, ?_, ?_⟩
    · have : s.heap.objs.size < h2.objs.size := F2.ns.lt
      exact Nat.ne_of_gt (Nat.lt_of_lt_of_le this (by rw [hz]; exact Nat.le_add_right _ _))
    · cases hq : s.heap.get? h3.objs.size with
      | none => rfl
      | some o => rw [F2.keep _ _ hq] at hn4; cases hn4
  have hlen4 : l4.length ≤ 1001 := by
    have h1 := congrArg List.length hl4
    have h2 := partsS_len x
    rw [List.length_map] at h1
    omega
  have hl4n : l4.length = (partsS x).length := by
    have h1 := congrArg List.length hl4
    rwa [List.length_map] at h1
  clear hM hTI hIt hz N2 F2 e4
  dsimp only
  walk_at "go"
  (rename Fr _ _ _ _ => F5); (rename News _ _ _ _ => N5)
  refine kst_range (σ := List (Str × Tok)) (fun c => [(h3.objs.size, W.listOf (strValues c).toArray c4)]) (fun _ => []) (fun c => c.length = l4.length) [] (fun pre c => c.map (·.1) = wrapTo pre.length (partsS x)) l4 (n := (l4.length - 2 : Nat)) hh (by assumption) ?_ ?_ F5 N5 rfl (fun _ h => nomatch h) ?_ ?_ ?_
  · exact small_one (by omega) (by omega) (by omega) (by omega)
  · rw [rangeSize_nat]; omega
  · rw [List.length_nil, wrapTo_zero]; assumption
  · intro c pre k t u h tk own hk hlt2 hoff hf hP F6 N6
    dsimp only [kstB] at F6
    have hkc : k.toNat < c.length := by omega
    have hk0 : 0 ≤ k := by omega
    have hkn : k.toNat = 1 + pre.length := by omega
    obtain ⟨⟨y0, t0⟩, hc⟩ : ∃ p, c[k.toNat]? = some p := ⟨c[k.toNat], by simp [hkc]⟩
    have hx0 := strValues_get hc
    have hys : (partsS x)[1 + pre.length]? = some y0 := by
      have h1 : (c.map (·.1))[k.toNat]? = some y0 := by simp [hc]
      rw [hP, wrapTo_get, hkn] at h1
      have h2 : ¬ (1 ≤ 1 + pre.length ∧ 1 + pre.length < 1 + pre.length) := by omega
      simpa [h2] using h1
    have hy0 : y0.length ≤ 2000 := by
      have := partsS_short (List.mem_of_getElem? hys)
      omega
    have hkl : k < (strValues c).length := by rw [strValues_length]; omega
    simp only [List.singleton_append] at N6
    walk_at "go"
    refine set_led F6 N6 (fun p hp => hoff p hp _ (List.Mem.head _)) hk0 hkl (by omega) (fun h7 F7 N7 => ?_)
    rw [strValues_set] at N7
    dsimp only
    walk_at "go"
    obtain ⟨tok, N8⟩ : ∃ tok, News s.heap s.heap.objs.size h7 ((h3.objs.size, W.listOf (strValues (c.set k.toNat (wrapS y0, tok))).toArray c4) :: own) := ⟨_, N7⟩
    refine InvEndN.intro (nx := [(h3.objs.size, W.listOf (strValues (c.set k.toNat (wrapS y0, tok))).toArray c4)]) F7 N8 ⟨c.set k.toNat (wrapS y0, tok), rfl, by simp [hf], (fun _ h => nomatch h), ?_, ?_⟩ rfl (fun p hp => ?_) (fun p hp => List.mem_cons_of_mem _ hp)
    · intro z hz _ _
      simp [hz]
    · show List.map (fun x => x.fst) (c.set k.toNat (wrapS y0, tok)) = wrapTo (pre ++ [k]).length (partsS x)
      rw [List.map_set, hP, hkn, List.length_append]
      exact wrapTo_step pre.length (partsS x) y0 hys
    · rw [List.mem_singleton.mp hp]; exact List.Mem.head _
  · intro c u h tk hf hP F6 N6
    dsimp only [kstB] at F6
    dsimp only
    have hpos := partsS_pos x
    have hcl : c.length = (partsS x).length := by
      have := congrArg List.length hP
      rw [List.length_map, wrapTo_length] at this
      exact this
    obtain ⟨⟨y0, t0⟩, hc⟩ : ∃ p, c[c.length - 1]? = some p := ⟨c[c.length - 1]'(by omega), by simp⟩
    have hx0 := strValues_get hc
    have hx1 : (strValues c)[((-1 : Int) + ((strValues c).length : Int)).toNat]? = some (Value.str y0 t0) := by
      rw [strValues_length, show ((-1 : Int) + (c.length : Int)).toNat = c.length - 1 by omega]; exact hx0
    have hb : ∀ y ∈ partsS x, y.length ≤ 2000 := fun y hy => by
      have := partsS_short hy
      omega
    have hmem : ∀ p ∈ c, p.1.length ≤ 2007 := fun p hp => by
      have h1 : p.1 ∈ c.map (·.1) := List.mem_map_of_mem hp
      rw [hP] at h1
      exact mem_wrapTo hb h1
    have hy0 : y0.length ≤ 2007 := hmem _ (List.mem_of_getElem? hc)
    have hneg : -((strValues c).length : Int) ≤ -1 := by rw [strValues_length]; omega
    walk_at "go"
    refine kim_back (l := strValues c) N6 (List.Mem.head _) rfl rfl (by decide) hneg (by decide) hx1 ?_
    walk_at "go"
    refine setBack_led F6 N6 (fun p hp => nomatch hp) (by decide) hneg (by decide) (fun h7 F7 N7 => ?_)
    rw [strValues_set] at N7
    obtain ⟨tok, N8⟩ : ∃ tok, News s.heap s.heap.objs.size h7 [(h3.objs.size, W.listOf (strValues (c.set (c.length - 1) (Str.ofString ".*" ++ y0, tok))).toArray c4)] :=
      ⟨_, by rw [strValues_length, show ((-1 : Int) + (c.length : Int)).toNat = c.length - 1 by omega] at N7; exact N7⟩
    clear N7
    have hfin : (c.set (c.length - 1) (Str.ofString ".*" ++ y0, tok)).map (·.1) = finS x := by
      rw [List.map_set, hP]
      have h1 : (c.map (·.1))[c.length - 1]? = some y0 := by simp [hc]
      rw [hP] at h1
      unfold finS
      rw [rangeKs_length, hl4n] at hP ⊢
      rw [rangeKs_length, hl4n, hcl] at h1
      rw [hcl, List.getD_eq_getElem?_getD, h1]
      rfl
    walk_at "go"
    refine join_list (ys := finS x) (News.isList N8 (.head _)) ?_ ?_ (fun t' k' => ?_)
    · have h1 := Mine.strsAre_values (c.set (c.length - 1) (Str.ofString ".*" ++ y0, tok))
      rw [hfin] at h1
      simpa using h1
    · rw [← hfin]
      have hsl : (Str.ofString "").length = 0 := by decide
      rw [hsl, Nat.mul_zero, Nat.add_zero]
      have h2 : ((List.map (·.1) (c.set (c.length - 1) (Str.ofString ".*" ++ y0, tok))).map (·.length)).sum ≤ 1001 * 2009 := by
        refine Nat.le_trans (sum_le (B := 2009) fun n hn => ?_) ?_
        · obtain ⟨z, hz, rfl⟩ := List.mem_map.mp hn
          obtain ⟨q, hq, rfl⟩ := List.mem_map.mp hz
          rcases List.mem_or_eq_of_mem_set hq with h3 | rfl
          · have := hmem q h3; omega
          · show (Str.ofString ".*" ++ y0).length ≤ 2009
            rw [Str.length_append]
            have : (Str.ofString ".*").length = 2 := by decide
            omega
        · rw [List.length_map, List.length_map, List.length_set]
          exact Nat.mul_le_mul_right _ (by omega)
      omega
    · exact hQ _ _ _ (fun b o e => F7.keep b o e)
end Mine
end secA07t
section secA07j
namespace Mine
theorem wop_eq : Str.ofString "(?>.*?" = S [40, 63, 62, 46, 42, 63] := by decide +kernel
theorem wcl_eq : Str.ofString ")" = S [41] := by decide +kernel
theorem dst_eq : Str.ofString ".*" = S [46, 42] := by decide +kernel
theorem que_eq : Str.ofString "?" = S [63] := by decide +kernel
local macro_rules | `(tactic| walk_at "go") => `(tactic| repeat' (first | (k_unfold; (try dsimp only)) | walk1 | (dsimp only; walk1)))
local macro_rules | `(tactic| walk_at "subscriptTail Call Attribute cons nil UnaryOp ref int") => `(tactic| refine Stop.of ?_)
local macro_rules | `(tactic| walk_at "subscriptTail Call Attribute cons nil Constant ref int") => `(tactic| refine Stop.of ?_)
local macro_rules | `(tactic| walk_at "subscriptTail Name Slice str ref") => `(tactic| (k_here; (with_reducible rename Fr _ _ _ _ => F'); (with_reducible rename News _ _ _ _ => N'); first
  | (refine cut_S (s := ⟨_, _, _, _, _⟩) (by omega) (by omega) F' N' ?_ (hsz := by omega); intro _ _ _ _ _)
  | (refine cutTo_S (s := ⟨_, _, _, _, _⟩) (by omega) F' N' ?_ (hsz := by omega); intro _ _ _ _ _)
  | (refine cutFrom_S (s := ⟨_, _, _, _, _⟩) (by omega) F' N' ?_ (hsz := by omega); intro _ _ _ _ _)))
local macro_rules | `(tactic| walk_at "call builtin:len") => `(tactic| (k_here; first | (refine len_Sn (by with_reducible assumption) (by omega) ?_; intro _ _) | (refine len_S (by (try simp only [List.length_append, List.length_cons, List.length_nil, List.length_take, List.length_drop]); omega) ?_; intro _ _)))
local macro_rules | `(tactic| walk_at "compareOp Eq str str") => `(tactic| (k_here; first | refine eqL_t (by with_reducible assumption) ?_ | refine eqL_f (by with_reducible assumption) ?_))
local macro_rules | `(tactic| walk_at "binaryOp Add str str") => `(tactic| (k_here; first | (refine add_S (by (try simp only [List.length_append, List.length_cons, List.length_nil, List.length_take, List.length_drop]); omega) ?_; intro _ _) | (refine add_R wop_eq (by (try simp only [List.length_append, List.length_cons, List.length_nil, List.length_take, List.length_drop]); omega) ?_; intro _ _) | (refine add_R wcl_eq (by (try simp only [List.length_append, List.length_cons, List.length_nil, List.length_take, List.length_drop]); omega) ?_; intro _ _)))
theorem ct_joined {w : World} {A : Around} {s : Shared} {t1 t2 : Tok} {Q E : Value → Shared → Prop} {mean : ExcName → Option Value} {mg mb : Str → Option Value} {a b : List Nat} {st mo : Bool}
   (X : (hd07.heap_39 w.params).In s.heap) (T : Top hd07.view_39 (looseW hd07.view_39 ["_special_chars_map"]) mean mg mb s.heap) (hd : A.depth + 10 < recursionLimit) (hh : A.handled = none)
   (ha : a.length ≤ 1000) (hb : b.length ≤ 1000) (hst : st = decide (42 ∈ a)) (hmo : mo = decide (42 ∈ b))
   (hQ : ∀ h' tk t', Ext s.heap h' → Q (.str (S (tpL (a ++ b))) t') {s with heap := h', toks := tk}) :
   wpAny (model Challenge.rw_dn0256_07.row.prog w) A (call (.ref 40) [.str (S (tpL a)) t1, .str (S (tpL b)) t2, .bool st, .bool mo]) Q E s := by
  revert X
  k_fill
  intro X
  refine wpAny_call ?_
  refine call_pos_ret (by omega) (X _ _ rfl) rfl T.nolimit (codeRec_of X (by k_is)) rfl (locs rfl) (fun h₁ F => ?_)
  replace F : Fr s.heap s.heap.objs.size h₁ (fun y => [(Str.ofString "first", Value.str (S (tpL a)) t1), (Str.ofString "second", Value.str (S (tpL b)) t2), (Str.ofString "starred", .bool st), (Str.ofString "more", .bool mo)].reverse.lookup y) := F
  have N : News s.heap s.heap.objs.size h₁ [] := News.nil
  have hla := tpL_len a
  have hlb := tpL_len b
  have hSa := S_length (tpL a)
  have hSb := S_length (tpL b)
  obtain ⟨as, al, ea⟩ := cut_snoc a
  obtain ⟨ua, eta⟩ := cut_tp_last ea
  have hal : (escL al).length ≤ 3000 := by
    have h1 := cut_sum a
    rw [ea] at h1
    simp only [List.map_append, List.map_cons, List.map_nil, List.sum_append, List.sum_cons, List.sum_nil, List.length_append, List.length_cons, List.length_nil] at h1
    have := escL_length al
    omega
  by_cases h42b : 42 ∈ b
  · rw [decide_eq_true h42b] at hmo
    subst hmo
    obtain ⟨b0, bs, eb⟩ := cut_ne b
    have hbs : bs ≠ [] := by
      intro h; have := cut_mem.mp h42b; rw [eb, h] at this; simp at this
    have hb0 : (escL b0).length ≤ 3000 := by
      have h1 := cut_sum b
      rw [eb] at h1
      simp only [List.map_cons, List.sum_cons, List.length_cons] at h1
      have := escL_length b0
      omega
    by_cases h42a : 42 ∈ a
    · rw [decide_eq_true h42a] at hst
      subst hst
      have has : as ≠ [] := by
        intro h; have := cut_mem.mp h42a; rw [ea, h] at this; simp at this
      walk_at "go"
      refine Stop.go ?_
      refine sub_last (by assumption) (by rw [‹List.map _ _ = Txt.split _ _›, split_S, eta]) (fun t => ?_)
      walk_at "go"
      refine Stop.go ?_
      have etp : tpL a = preP (as.map escL) ++ ([46, 42] ++ escL al) := by
        unfold tpL; rw [ea, List.map_append, List.map_cons, List.map_nil, tpP_snoc]; simp
      have etb : tpL b = escL b0 ++ tailP (bs.map escL) := by
        unfold tpL; rw [eb, List.map_cons, tpP_head _ _ (by simpa using hbs)]
      have hlenA := congrArg List.length etp
      have hlenB := congrArg List.length etb
      simp only [List.length_append, List.length_cons, List.length_nil] at hlenA hlenB
      obtain ⟨na, hna⟩ : ∃ n : Nat, (tpL a).length = n := ⟨_, rfl⟩
      obtain ⟨nl, hnl⟩ : ∃ n : Nat, (escL al).length = n := ⟨_, rfl⟩
      rw [hna, hnl] at hlenA
      have fin : ∀ (x y z : List Nat), x = preP (as.map escL) → y = escL b0 → z = tailP (bs.map escL) → x ++ [40, 63, 62, 46, 42, 63] ++ escL al ++ y ++ [41] ++ z = tpL (a ++ b) := by
        rintro _ _ _ rfl rfl rfl
        rw [join_group ea has eb hbs]; simp
      rcases cut_tp_head eb hbs with ⟨us, e1, e2, e3⟩ | ⟨us, e1, e2, e3⟩
      · refine sub_head (v := escL b0 ++ [46]) (by assumption) (by rw [‹List.map _ _ = Txt.split (S (tpL b)) _›, split_S, e1]) (fun t => ?_)
        obtain ⟨star, hst⟩ : ∃ n : Nat, (escL b0 ++ [46]).length = n := ⟨_, rfl⟩
        have hst2 : star = (escL b0).length + 1 := by rw [← hst]; simp
        have hn1 : S (List.take (((star : Int) + 2).toNat - ((star : Int) + 1).toNat) (List.drop ((star : Int) + 1).toNat (tpL b))) ≠ Str.ofString "?" := by
          rw [show ((star : Int) + 2).toNat - ((star : Int) + 1).toNat = 1 by omega, show ((star : Int) + 1).toNat = (escL b0).length + 2 by omega, que_eq, Ne, S_eq_iff]
          intro h
          cases hd : List.drop ((escL b0).length + 2) (tpL b) with
          | nil => rw [hd] at h; cases h
          | cons c r => rw [hd] at h; simp at h; exact e3 r (by rw [hd, h])
        walk_at "go"
        (rename Fr _ _ _ _ => F9)
        have e9 := fin (List.take ((na : Int) - (nl : Int) - 2).toNat (tpL a)) (List.take ((star : Int) - 1).toNat (tpL b)) (List.drop ((star : Int) - 1).toNat (tpL b))
          (by rw [show ((na : Int) - (nl : Int) - 2).toNat = (preP (as.map escL)).length by omega, etp, List.take_left])
          (by rw [show ((star : Int) - 1).toNat = (escL b0).length by omega, etb, List.take_left])
          (by rw [show ((star : Int) - 1).toNat = (escL b0).length by omega, e2])
        rw [← e9] at hQ
        exact hQ _ _ _ (fun b o e => F9.keep b o e)
      · refine sub_head (v := escL b0 ++ [40, 63, 62, 46]) (by assumption) (by rw [‹List.map _ _ = Txt.split (S (tpL b)) _›, split_S, e1]) (fun t => ?_)
        obtain ⟨star, hst⟩ : ∃ n : Nat, (escL b0 ++ [40, 63, 62, 46]).length = n := ⟨_, rfl⟩
        have hst2 : star = (escL b0).length + 4 := by rw [← hst]; simp
        have hn1 : S (List.take (((star : Int) + 2).toNat - ((star : Int) + 1).toNat) (List.drop ((star : Int) + 1).toNat (tpL b))) = Str.ofString "?" := by
          rw [show ((star : Int) + 2).toNat - ((star : Int) + 1).toNat = 1 by omega, show ((star : Int) + 1).toNat = (escL b0).length + 5 by omega, que_eq, S_eq_iff]
          obtain ⟨r, hr⟩ := e3
          rw [hr]; rfl
        walk_at "go"
        (rename Fr _ _ _ _ => F9)
        have e9 := fin (List.take ((na : Int) - (nl : Int) - 2).toNat (tpL a)) (List.take ((star : Int) - 4).toNat (tpL b)) (List.drop ((star : Int) - 4).toNat (tpL b))
          (by rw [show ((na : Int) - (nl : Int) - 2).toNat = (preP (as.map escL)).length by omega, etp, List.take_left])
          (by rw [show ((star : Int) - 4).toNat = (escL b0).length by omega, etb, List.take_left])
          (by rw [show ((star : Int) - 4).toNat = (escL b0).length by omega, e2])
        rw [← e9] at hQ
        exact hQ _ _ _ (fun b o e => F9.keep b o e)
    · rw [decide_eq_false h42a] at hst
      subst hst
      rw [cut_free_eq a h42a] at ea
      have hala : al = a := by
        have : as ++ [al] = [] ++ [a] := ea.symm
        exact (List.append_inj' this rfl).2 |> fun h => by simpa using h
      subst hala
      walk_at "go"
      refine Stop.go ?_
      refine sub_last (by assumption) (by rw [‹List.map _ _ = Txt.split _ _›, split_S, eta]) (fun t => ?_)
      walk_at "go"
      (rename Fr _ _ _ _ => F9)
      rw [← join_bare h42a eb hbs]
      exact hQ _ _ _ (fun b o e => F9.keep b o e)
  · rw [decide_eq_false h42b] at hmo
    subst hmo
    obtain ⟨ub, etb⟩ := cut_tp_last (a := b) (as := []) (al := b) (by rw [cut_free_eq b h42b]; rfl)
    have hlb2 := escL_length b
    walk_at "go"
    refine Stop.go ?_
    refine sub_last (by assumption) (by rw [‹List.map _ _ = Txt.split _ _›, split_S, etb]) (fun t => ?_)
    walk_at "go"
    (rename Fr _ _ _ _ => F9)
    rw [← join_plain ea h42b]
    exact hQ _ _ _ (fun b o e => F9.keep b o e)
end Mine
end secA07j
section secA07d
namespace Mine
theorem star_eq : Str.ofString "*" = S [42] := by decide +kernel
/-- the dict at d says of each of these signs its pattern -/
def AloneAt (prog : Program) (w : World) (h : Heap) (d : Addr) (l : List Nat) : Prop :=
  ∃ f, h.MapOf (strKind prog w) d f ∧ ∀ c ∈ l, ∃ t, f (S [c]) = some (.str (S (tpL [c])) t)
theorem AloneAt.ext {prog : Program} {w : World} {h h' : Heap} {d : Addr} {l : List Nat} (x : AloneAt prog w h d l) (e : Ext h h') : AloneAt prog w h' d l := by
  obtain ⟨f, ⟨o, es, ep, ho, r⟩, hf⟩ := x
  exact ⟨f, ⟨o, es, ep, e _ _ ho, r⟩, hf⟩
theorem AloneAt.sub {prog : Program} {w : World} {h : Heap} {d : Addr} {l l' : List Nat} (x : AloneAt prog w h d l) (e : ∀ c ∈ l', c ∈ l) : AloneAt prog w h d l' := by
  obtain ⟨f, m, hf⟩ := x
  exact ⟨f, m, fun c hc => hf c (e c hc)⟩
section
variable {prog : Program} {w : World} {A : Around} {E : Value → Shared → Prop} {s : Shared} {t u : Tok} {value slice : PySem.Expr} {Q : Value → Shared → Prop}
theorem in_star {b : List Nat} (h : Q (.bool (decide (42 ∈ b))) s) : wpAny (model prog w) A (compareOp .In (.str (Str.ofString "*") u) (.str (S b) t)) Q E s := by
  rw [star_eq]; exact in_S h
theorem dictItem {d : Addr} {f : Str → Option Value} {x : Str} {v : Value} (hm : s.heap.MapOf (strKind prog w) d f) (hv : f x = some v) (h : ∀ tk, Q v { s with toks := tk })
    (hs : subscripted slice false (.ref d) (.str x t) = operate [.ref d, .str x t] (getItem (.ref d) (.str x t)) := by with_unfolding_all rfl)
    (ht : ∀ r, letTemporaryGo value (.ref d) r = pure () := by intro _; with_unfolding_all rfl) :
    wpAny (model prog w) A (subscriptTail value slice (.ref d) (.str x t)) Q E s :=
  subscriptTail_builtin hm.typeIs slot_dict_getitem.lookup (wpAny_getItem_of (strKind_is _ _ _ _) hm hv (h _)) hs ht
end
local macro_rules | `(tactic| walk_at "go") => `(tactic| repeat' (first | (k_unfold; (try dsimp only)) | walk1 | (dsimp only; walk1)))
local macro_rules | `(tactic| walk_at "call ref") => `(tactic| refine Stop.of ?_)
local macro_rules | `(tactic| walk_at "subscriptTail Name Name ref str") => `(tactic| refine Stop.of ?_)
local macro_rules | `(tactic| walk_at "compareOp Eq int int") => `(tactic| (k_here; first | refine eqI_t (by omega) ?_ | refine eqI_f (by omega) ?_))
local macro_rules | `(tactic| walk_at "compareOp In str str") => `(tactic| (k_here; refine in_star ?_))
local macro_rules | `(tactic| walk_at "call builtin:len") => `(tactic| (k_here; first | (refine len_Sn (by with_reducible assumption) (by omega) ?_; intro _ _)))
local macro_rules | `(tactic| walk_at "subscriptTail Name Slice str ref") => `(tactic| (k_here; (with_reducible rename Fr _ _ _ _ => F'); (with_reducible rename News _ _ _ _ => N'); first
  | (refine cutTo_S (s := ⟨_, _, _, _, _⟩) (by omega) F' N' ?_ (hsz := by omega); intro _ _ _ _ _)
  | (refine cutFrom_S (s := ⟨_, _, _, _, _⟩) (by omega) F' N' ?_ (hsz := by omega); intro _ _ _ _ _)))
theorem ct_due {w : World} {mean : ExcName → Option Value} {mg mb : Str → Option Value} {d : Addr} : ∀ (n : Nat) {A : Around} {s : Shared} {t1 : Tok} {Q E : Value → Shared → Prop} {l : List Nat}
   (X : (hd07.heap_39 w.params).In s.heap) (T : Top hd07.view_39 (looseW hd07.view_39 ["_special_chars_map"]) mean mg mb s.heap) (hd : A.depth + n + 20 < recursionLimit) (hh : A.handled = none)
   (hn : l.length ≤ n) (h1 : l ≠ []) (h1000 : l.length ≤ 1000) (D : AloneAt Challenge.rw_dn0256_07.row.prog w s.heap d l)
   (hQ : ∀ h' tk t', Ext s.heap h' → Q (.str (S (tpL l)) t') {s with heap := h', toks := tk}),
   wpAny (model Challenge.rw_dn0256_07.row.prog w) A (call (.ref 47) [.str (S l) t1, .ref d]) Q E s := by
  intro n
  induction n with
  | zero =>
    intro A s t1 Q E l X T hd hh hn h1
    exact absurd (List.length_eq_zero_iff.mp (by omega)) h1
  | succ n ih =>
  intro A s t1 Q E l X T hd hh hn h1 h1000 D hQ
  revert X
  k_fill
  intro X
  refine wpAny_call ?_
  refine call_pos_ret (by omega) (X _ _ rfl) rfl T.nolimit (codeRec_of X (by k_is)) rfl (locs rfl) (fun h₁ F => ?_)
  replace F : Fr s.heap s.heap.objs.size h₁ (fun y => [(Str.ofString "path", Value.str (S l) t1), (Str.ofString "alone", .ref d)].reverse.lookup y) := F
  have N : News s.heap s.heap.objs.size h₁ [] := News.nil
  obtain ⟨ln, hln⟩ : ∃ k : Nat, l.length = k := ⟨_, rfl⟩
  by_cases hone : ln = 1
  · subst hone
    walk_at "go"
    refine Stop.go ?_
    obtain ⟨c, rfl⟩ : ∃ c, l = [c] := by
      cases l with
      | nil => exact absurd rfl h1
      | cons c r =>
        cases r with
        | nil => exact ⟨c, rfl⟩
        | cons e r => simp at hln
    (rename Fr _ _ _ _ => F2)
    obtain ⟨f, hm, hf⟩ := D.ext F2.keep
    obtain ⟨t, ht⟩ := hf c (by simp)
    refine dictItem hm ht (fun tk => ?_)
    walk_at "go"
    exact hQ _ _ _ (fun b o e => F2.keep b o e)
  · have h2 : 2 ≤ ln := by
      have : ln ≠ 0 := by
        intro h; rw [h] at hln; exact h1 (List.length_eq_zero_iff.mp hln)
      omega
    have hfd : Int.fdiv (ln : Int) 2 = ((ln / 2 : Nat) : Int) := by
      rw [Int.fdiv_eq_ediv_of_nonneg _ (by decide)]; omega
    walk_at "go"
    refine Stop.go ?_
    rw [hfd, Int.toNat_natCast]
    have hdp : ∀ env : Env, (A.deeper env).depth + n + 20 < recursionLimit := fun env => by
      show A.depth + 1 + n + 20 < recursionLimit
      omega
    have hab : l.take (ln / 2) ++ l.drop (ln / 2) = l := List.take_append_drop _ _
    have hla : (l.take (ln / 2)).length = ln / 2 := by rw [List.length_take]; omega
    have hlb : (l.drop (ln / 2)).length = ln - ln / 2 := by rw [List.length_drop]; omega
    (rename Fr _ _ _ _ => F2); (rename News _ _ _ _ => N2)
    refine ih (l := l.take (ln / 2)) (X.keeps F2.keep) (T.keeps F2.keep) (hdp _) hh (by omega) (by intro h; rw [h] at hla; simp at hla; omega) (by omega) ((D.ext F2.keep).sub fun c hc => List.mem_of_mem_take hc) (fun h3 tk3 t3 e3 => ?_)
    have F3 := F2.keeps e3
    have N3 : News s.heap s.heap.objs.size h3 [] := News.nil
    clear F2 N2
    dsimp only
    walk_at "go"
    refine Stop.go ?_
    rw [hfd, Int.toNat_natCast]
    refine ih (l := l.drop (ln / 2)) (X.keeps F3.keep) (T.keeps F3.keep) (hdp _) hh (by omega) (by intro h; rw [h] at hlb; simp at hlb; omega) (by omega) ((D.ext F3.keep).sub fun c hc => List.mem_of_mem_drop hc) (fun h4 tk4 t4 e4 => ?_)
    have F4 := F3.keeps e4
    have N4 : News s.heap s.heap.objs.size h4 [] := News.nil
    clear F3 N3
    dsimp only
    walk_at "go"
    refine Stop.go ?_
    rw [hfd, Int.toNat_natCast]
    refine ct_joined (a := l.take (ln / 2)) (b := l.drop (ln / 2)) (X.keeps F4.keep) (T.keeps F4.keep) (by have := hdp (envOf Str.empty default 0 0 .none); show A.depth + 1 + 10 < recursionLimit; omega) hh (by omega) (by omega) rfl rfl (fun h5 tk5 t5 e5 => ?_)
    rw [hab]
    have F5 := F4.keeps e5
    dsimp only
    walk_at "go"
    exact hQ _ _ _ (fun b o e => F5.keep b o e)
end Mine
end secA07d
section secA07h
namespace Mine
def meanL : List Nat := [40, 41, 91, 93, 123, 125, 63, 43, 45, 124, 94, 36, 92, 46, 38, 126, 35, 32, 9, 10, 13, 11, 12]
def lessL : List Nat := [97, 98, 66, 100, 68, 115, 83, 119, 87, 65, 90, 122, 120, 117, 78, 48, 57, 95, 47, 37, 61, 44, 33, 58]
theorem mean_S : Str.ofString "()[]{}?+-|^$\\.&~# \t\n\r\x0b\x0c" = S meanL := by decide +kernel
theorem less_S : Str.ofString "abBdDsSwWAZzxuN09_/%=,!:" = S lessL := by decide +kernel
theorem mean_spec : ∀ c ∈ meanL, spec c = true ∧ c ≠ 42 := by decide +kernel
theorem less_spec : ∀ c ∈ lessL, spec c = false ∧ c ≠ 42 := by decide +kernel
theorem specs_mean : ∀ c ∈ specs, c = 42 ∨ c ∈ meanL := by decide +kernel
theorem spec_of_mean {c : Nat} (h : c ∉ meanL) (h42 : c ≠ 42) : spec c = false := by
  cases hs : spec c with
  | false => rfl
  | true =>
    exfalso
    have : c ∈ specs := by
      unfold spec at hs
      simpa using hs
    rcases specs_mean c this with e | e
    · exact h42 e
    · exact h e
theorem tp_star : tpL [42] = [46, 42] := by decide +kernel
theorem tp_one {c : Nat} (h : c ≠ 42) : tpL [c] = 46 :: 42 :: escL [c] := by
  unfold tpL
  rw [cut_free_eq [c] (by simpa using fun e => h e.symm)]
  rfl
theorem tp_back {c : Nat} (h : c ∈ meanL) : tpL [c] = [46, 42, 92] ++ [c] := by
  obtain ⟨a, b⟩ := mean_spec c h
  rw [tp_one b]
  simp [escL, a]
theorem tp_bare {c : Nat} (h : spec c = false) (h42 : c ≠ 42) : tpL [c] = [46, 42] ++ [c] := by
  rw [tp_one h42]
  simp [escL, h]
theorem dot_eq : Str.ofString ".*" = S [46, 42] := by decide +kernel
theorem dotb_eq : Str.ofString ".*\\" = S [46, 42, 92] := by decide +kernel
theorem back_eq : Str.ofString "\\" = S [92] := by decide +kernel
theorem dot_of {n : Nat} (h : n = 42) : Str.ofString ".*" = S (tpL [n]) := by rw [h, tp_star, dot_eq]
theorem tps_star : tpS (Str.ofString "*") = S (tpL [42]) := by rw [star_eq, tpS_S]
theorem off_list {z : Str} {l : List Str} (h : l.contains z = false) {a : Str} (ha : a ∈ l) : z ≠ a := by
  intro e; subst e
  rw [List.contains_iff_mem.mpr ha] at h; cases h
theorem pick12 {h₀ h : Heap} {L : Addr} {a b : Addr × Obj} {r : List (Addr × Obj)} (N : News h₀ L h (a :: b :: r)) : News h₀ L h [a, b] := fun q hq => N q (by
  rcases List.mem_cons.mp hq with rfl | hq
  · exact List.Mem.head _
  · rw [List.mem_singleton.mp hq]; exact List.Mem.tail _ (List.Mem.head _))
theorem pick21 {h₀ h : Heap} {L : Addr} {a b : Addr × Obj} {r : List (Addr × Obj)} (N : News h₀ L h (a :: b :: r)) : News h₀ L h [b, a] := fun q hq => N q (by
  rcases List.mem_cons.mp hq with rfl | hq
  · exact List.Mem.tail _ (List.Mem.head _)
  · rw [List.mem_singleton.mp hq]; exact List.Mem.head _)
theorem pick2_mem {a b : Addr × Obj} {r : List (Addr × Obj)} (h1 : a ∈ r) (h2 : b ∈ r) : ∀ p ∈ [a, b], p ∈ r := fun q hq => by
  rcases List.mem_cons.mp hq with rfl | hq
  · exact h1
  · rw [List.mem_singleton.mp hq]; exact h2
theorem one_len (c : Nat) : (S [c]).length ≤ 1000 := by rw [S_length]; simp
theorem long_len {n : Nat} (h1 : 1 ≤ n) (h2 : n ≤ 189) : (64 / n + 1) * n ≤ 189 := by
  rw [Nat.add_mul, Nat.one_mul]
  have := Nat.div_mul_le_self 64 n
  by_cases h : n ≤ 64
  · omega
  · rw [Nat.div_eq_of_lt (by omega)]; omega
theorem emp_eq : Str.ofString "" = S [] := by decide +kernel
theorem fmod_lo (a : Int) {n : Int} (h : 0 < n) : 0 ≤ Int.fmod a n := Int.fmod_nonneg_of_pos a h
theorem fmod_hi (a : Int) {n : Int} (h : 0 < n) : Int.fmod a n < n := Int.fmod_lt_of_pos a h
theorem rep_fold (x : Array Nat) : ∀ (k : Nat) (a : Array Nat), ((List.replicate k x).foldl (· ++ ·) a).toList = a.toList ++ (List.replicate k x.toList).flatten
  | 0, a => by simp
  | k + 1, a => by
    rw [List.replicate_succ, List.foldl_cons, rep_fold x k, List.replicate_succ, List.flatten_cons, Array.toList_append, List.append_assoc]
theorem mul_list (l : List Nat) (n : Int) (h : 1 ≤ n) : Txt.mul (S l) n = S (List.replicate n.toNat l).flatten := by
  unfold Txt.mul
  rw [if_neg (by omega)]
  split
  · rename_i h2
    rw [Bool.or_eq_true] at h2
    rcases h2 with h2 | h2
    · rw [eq_of_beq h2]; simp
    · have : l = [] := by
        have := eq_of_beq h2
        rw [S_length] at this
        exact List.length_eq_zero_iff.mp this
      subst this
      congr 1
      simp
  · have := rep_fold (S l).cps n.toNat #[]
    rw [S_cps] at this
    rw [← S_of ⟨_⟩]
    rw [this]; simp
section
variable {prog : Program} {w : World} {A : Around} {E : Value → Shared → Prop} {s : Shared} {t u : Tok} {value slice : PySem.Expr} {Q : Value → Shared → Prop}
theorem mul_S {l : List Nat} {n : Int} (h1 : 1 ≤ n) (h2 : n ≤ 1024) (hl : l.length ≤ 1024) (h : ∀ t' tk, Q (.str (S (List.replicate n.toNat l).flatten) t') { s with toks := tk }) :
    wpAny (model prog w) A (binaryOp .Mult (.str (S l) t) (.int n u)) Q E s := by
  refine SB.mul (mulOk_of 1024 1024 (by rw [S_length]; exact hl) (by omega) (by omega) (by decide) (by decide)) (fun t' k => ?_)
  rw [mul_list _ _ h1]; exact h _ _
theorem div64 {n : Nat} (h : 1 ≤ n) (h2 : n ≤ 189) (hq : ∀ (q : Nat) t' tk, q ≤ 64 → (q + 1) * n ≤ 189 → Q (.int (q : Int) t') { s with toks := tk }) : wpAny (model prog w) A (binaryOp .FloorDiv (.int 64 t) (.int (n : Int) u)) Q E s := by
  refine floordiv_int (by omega) ?_ (Or.inl (PyProof.noPylong_small (by omega)))
  have : Int.fdiv 64 (n : Int) = ((64 / n : Nat) : Int) := by
    rw [Int.fdiv_eq_ediv_of_nonneg _ (by omega)]; rfl
  rw [this]; exact hq _ _ _ (Nat.div_le_self _ _) (long_len h h2)
theorem mul_sign {c : Nat} {r : Int} {x : Str} (hx : x = S [c]) (h : ∀ k t' tk, 1 ≤ k → k ≤ 3 → Q (.str (S (List.replicate k c)) t') { s with toks := tk }) :
    wpAny (model prog w) A (binaryOp .Mult (.str x t) (.int (1 + Int.fmod r 3) u)) Q E s := by
  subst hx
  have a := fmod_lo r (n := 3) (by decide)
  have b := fmod_hi r (n := 3) (by decide)
  refine mul_S (by omega) (by omega) (by simp) (fun t' tk => ?_)
  have e : (List.replicate (1 + Int.fmod r 3).toNat [c]).flatten = List.replicate (1 + Int.fmod r 3).toNat c := by
    generalize (1 + Int.fmod r 3).toNat = k
    induction k with
    | zero => rfl
    | succ k ih => rw [List.replicate_succ, List.flatten_cons, ih, List.replicate_succ]; rfl
  rw [e]
  exact h _ _ _ (by omega) (by omega)
theorem item_of {l : List Nat} {x : Str} {r n : Int} (hx : x = S l) (hn : l.length = n.toNat) (h0 : 0 < n) (h1 : n < 100) (h : ∀ c t' tk, c ∈ l → Q (.str (S [c]) t') { s with toks := tk })
    (hs : subscripted slice false (.str x t) (.int (Int.fmod r n) u) = operate [.str x t, .int (Int.fmod r n) u] (getItem (.str x t) (.int (Int.fmod r n) u)) := by with_unfolding_all rfl)
    (ht : ∀ r, letTemporaryGo value (.str x t) r = pure () := by intro _; with_unfolding_all rfl) :
    wpAny (model prog w) A (subscriptTail value slice (.str x t) (.int (Int.fmod r n) u)) Q E s := by
  subst hx
  have a := fmod_lo r h0
  have b := fmod_hi r h0
  have hlt : (Int.fmod r n).toNat < l.length := by omega
  exact item_S (c := l[(Int.fmod r n).toNat]) a (by omega) (List.getElem?_eq_getElem hlt) (fun t' tk => h _ _ _ (List.getElem_mem hlt)) hs ht
theorem chr_S {i : Int} (h0 : 0 ≤ i) (h1 : i ≤ 1114111) (h : ∀ t' tk, Q (.str (S [i.toNat]) t') { s with toks := tk }) : wpAny (model prog w) A (call (.builtin "chr") [.int i t]) Q E s :=
  chr_of_range h0 h1 (h _ _)
theorem chrA {r : Int} (h : ∀ n t' tk, Q (.str (S [n]) t') { s with toks := tk }) : wpAny (model prog w) A (call (.builtin "chr") [.int (Int.fmod r 1112064) t]) Q E s := by
  have a := fmod_lo r (n := 1112064) (by decide)
  have b := fmod_hi r (n := 1112064) (by decide)
  exact chr_S (by omega) (by omega) (h _)
theorem chrB {r : Int} (h : ∀ n t' tk, Q (.str (S [n]) t') { s with toks := tk }) : wpAny (model prog w) A (call (.builtin "chr") [.int (Int.fmod r 1112064 + 2048) t]) Q E s := by
  have a := fmod_lo r (n := 1112064) (by decide)
  have b := fmod_hi r (n := 1112064) (by decide)
  exact chr_S (by omega) (by omega) (h _)
theorem eqStar {n : Nat} (h1 : n = 42 → Q (.bool true) s) (h2 : n ≠ 42 → Q (.bool false) s) : wpAny (model prog w) A (compareOp .Eq (.str (S [n]) t) (.str (Str.ofString "*") u)) Q E s := by
  by_cases h : n = 42
  · exact eqL_t (by rw [h, star_eq]) (h1 h)
  · exact eqL_f (by rw [star_eq]; intro e; exact h (by simpa using S_inj e)) (h2 h)
theorem inMean {n : Nat} (h1 : n ∈ meanL → Q (.bool true) s) (h2 : n ∉ meanL → Q (.bool false) s) : wpAny (model prog w) A (compareOp .In (.str (S [n]) t) (.str (Str.ofString "()[]{}?+-|^$\\.&~# \t\n\r\x0b\x0c") u)) Q E s := by
  rw [mean_S]
  refine in_S ?_
  by_cases h : n ∈ meanL
  · rw [decide_eq_true h]; exact h1 h
  · rw [decide_eq_false h]; exact h2 h
theorem add_LR {a b : List Nat} {x y : Str} (hx : x = S a) (hy : y = S b) (hsz : a.length + b.length ≤ 16777216) (h : ∀ t' tk, Q (.str (S (a ++ b)) t') { s with toks := tk }) : wpAny (model prog w) A (binaryOp .Add (.str x t) (.str y u)) Q E s := by
  subst hx hy; exact add_S hsz h
end
theorem valueAt_map {K : Type} [DecidableEq K] (k k' : K) (v : Value) : ∀ kvs : List (K × Value), valueAt (kvs.map fun kv => if kv.1 = k then (kv.1, v) else kv) k' = if k' = k then (valueAt kvs k').map fun _ => v else valueAt kvs k'
  | [] => by simp [valueAt]
  | kv :: r => by
    have ih := valueAt_map k k' v r
    unfold valueAt at ih ⊢
    rw [List.map_cons, List.find?_cons, List.find?_cons]
    by_cases h1 : kv.1 = k
    · rw [if_pos h1]
      by_cases h2 : kv.1 = k'
      · have : k' = k := h2.symm.trans h1
        simp [h2, this]
      · have h2' : decide (kv.1 = k') = false := decide_eq_false h2
        simp only [h2']
        exact ih
    · rw [if_neg h1]
      by_cases h2 : kv.1 = k'
      · have : ¬ k' = k := fun e => h1 (h2.trans e)
        have h2' : decide (kv.1 = k') = true := decide_eq_true h2
        simp only [h2', if_neg this]
      · have h2' : decide (kv.1 = k') = false := decide_eq_false h2
        simp only [h2']
        exact ih
theorem valueAt_stored {K : Type} [DecidableEq K] (kvs : List (K × Value)) (k k' : K) (v : Value) : valueAt (stored kvs k v) k' = if k' = k then some v else valueAt kvs k' := by
  unfold stored
  split
  · rename_i h
    rw [valueAt_map]
    by_cases e : k' = k
    · rw [if_pos e, if_pos e]
      subst e
      have : (valueAt kvs k').isSome = true := by rw [valueAt_isSome_eq_any]; exact h
      obtain ⟨x, hx⟩ := Option.isSome_iff_exists.mp this
      rw [hx]; rfl
    · rw [if_neg e, if_neg e]
  · rename_i h
    unfold valueAt
    rw [List.find?_append]
    have h0 : (valueAt kvs k).isSome = false := by rw [valueAt_isSome_eq_any]; exact Bool.eq_false_iff.mpr h
    by_cases e : k' = k
    · subst e
      have : kvs.find? (fun kv => decide (kv.1 = k')) = none := by
        unfold valueAt at h0
        cases hf : kvs.find? (fun kv => decide (kv.1 = k')) with
        | none => rfl
        | some x => rw [hf] at h0; simp at h0
      rw [this]; simp
    · have : ¬ k = k' := fun x => e x.symm
      simp [e, this]
def Alone (kvs : List (Str × Value)) (l : List Nat) : Prop := ∀ c ∈ l, ∃ t, valueAt kvs (S [c]) = some (.str (S (tpL [c])) t)
theorem Alone.put {kvs : List (Str × Value)} {l : List Nat} (a : Alone kvs l) (c : Nat) (t : Tok) : Alone (stored kvs (S [c]) (.str (S (tpL [c])) t)) (c :: l) := by
  intro c' hc
  rw [valueAt_stored]
  by_cases e : c' = c
  · subst e; rw [if_pos rfl]; exact ⟨_, rfl⟩
  · rw [if_neg fun x => e (by simpa using S_inj x)]
    rcases List.mem_cons.mp hc with x | x
    · exact absurd x e
    · exact a c' x
theorem Alone.more {kvs : List (Str × Value)} {l : List Nat} {c : Nat} (a : Alone kvs (c :: l)) (k : Nat) : Alone kvs (l ++ List.replicate k c) := by
  intro c' hc
  rcases List.mem_append.mp hc with x | x
  · exact a c' (List.mem_cons_of_mem _ x)
  · rw [List.eq_of_mem_replicate x]; exact a c List.mem_cons_self
theorem Alone.rep {kvs : List (Str × Value)} {l : List Nat} (a : Alone kvs l) (k : Nat) : Alone kvs (List.replicate k l).flatten := by
  intro c hc
  obtain ⟨x, hx, h⟩ := List.mem_flatten.mp hc
  rw [List.eq_of_mem_replicate hx] at h
  exact a c h
theorem rep_len (k : Nat) (l : List Nat) : (List.replicate k l).flatten.length = k * l.length := by
  rw [List.length_flatten, List.map_replicate, List.sum_replicate_nat]
section
variable {prog : Program} {w : World} {A : Around} {E : Value → Shared → Prop} {s : Shared} {h₀ : Heap} {L d : Addr} {m : Str → Option Value} {news : List (Addr × Obj)} {g : Obj → List (Addr × Obj)} {o : Obj} {kvs : List (Str × Value)}
theorem set_alone {Q : Unit → Shared → Prop} {c : Nat} {l : List Nat} {x y : Str} {t u : Tok} (hx : x = S [c]) (hy : y = S (tpL [c])) (F : Fr h₀ L s.heap m) (N : News h₀ L s.heap news) (U : UpdF d o news g) (hd : o.IsDictOf (PySem.strKind prog w) kvs) (hsz : kvs.length ≤ 1000) (a : Alone kvs l)
    (h : ∀ h' o' kvs', Fr h₀ L h' m → News h₀ L h' (g o') → o'.IsDictOf (PySem.strKind prog w) kvs' → Alone kvs' (c :: l) → kvs'.length ≤ kvs.length + 1 → Q () { s with heap := h', toks := s.toks + 1 }) : wpAny (model prog w) A (setItem (.ref d) (.str x t) (.str y u)) Q E s := by
  subst hx hy
  exact kda_set F N U hd (strKind_is _ _ _ _) (by rw [sizeLine_eq]; omega) fun h' o' F' N' hd' => h h' o' _ F' N' hd' (a.put c u) (stored_length_le _ _ _)
theorem item_alone {Q : Value → Shared → Prop} {c : Nat} {l : List Nat} {x : Str} {t : Tok} {value slice : PySem.Expr} (hx : x = S [c]) (N : News h₀ L s.heap news) (hp : (d, o) ∈ news) (hd : o.IsDictOf (PySem.strKind prog w) kvs) (a : Alone kvs (c :: l))
    (h : ∀ t' tk, Q (.str (S (tpL [c])) t') { s with toks := tk })
    (hs : subscripted slice false (.ref d) (.str x t) = operate [.ref d, .str x t] (getItem (.ref d) (.str x t)) := by with_unfolding_all rfl) (hg : ∀ r, letTemporaryGo value (.ref d) r = pure () := by intro _; with_unfolding_all rfl) :
    wpAny (model prog w) A (subscriptTail value slice (.ref d) (.str x t)) Q E s := by
  subst hx
  obtain ⟨t', ht⟩ := a c List.mem_cons_self
  exact kda_item N hp hd (strKind_is _ _ _ _) ht (h _ _) hs hg
theorem alone_at (N : News h₀ L s.heap news) (hp : (d, o) ∈ news) (hd : o.IsDictOf (PySem.strKind prog w) kvs) {l : List Nat} (a : Alone kvs l) : AloneAt prog w s.heap d l :=
  ⟨valueAt kvs, (kda_dict N hp hd).mapOf, a⟩
end
end Mine
end secA07h
namespace Mine
theorem newsExt {h₀ h h' : Heap} {L : Addr} {news : List (Addr × Obj)} (N : News h₀ L h news) (e : Ext h h') : News h₀ L h' news := fun q hq => ⟨e _ _ (N q hq).1, (N q hq).2⟩
theorem tp_empty : tpL [] = [46, 42] := rfl
def Src07 (h₀ : Heap) (L : Addr) (m : Str → Option Value) (dd : Addr) (od : Obj) (s : Shared) (v : Value) (s' : Shared) : Prop :=
  ∃ ld vs ns nn h' tk, v = .ref ld ∧ ld ≠ dd ∧ s' = { s with heap := h', toks := tk } ∧ IntsAre vs ns ∧ 1 ≤ ns.length ∧ ns.length ≤ 63 ∧ Fr h₀ L h' m ∧ News h₀ L h' [(ld, W.listOf vs.toArray nn), (dd, od)]
theorem For_src {prog : Program} {w : World} {A : Around} {E : Value → Shared → Prop} {s : Shared} {env : Env} {Q : Flow → Shared → Prop} {x : Str} {px pos : Pos} {iter : PySem.Expr} {body : List Stmt} {h₀ : Heap} {m : Str → Option Value} {dd : Addr} {od : Obj}
    (_F : Fr h₀ env.locals s.heap m) {rest : List (Addr × Obj)} (_N : News h₀ env.locals s.heap ((dd, od) :: rest)) (hx : env.kindOf x = some .local) (hp : (env.scope.kind == .class || (env.scope.kind == .module && env.locals != env.globals)) = false)
    (h1 : wpAny (model prog w) A (eval iter env) (Src07 h₀ env.locals m dd od s) E s)
    (h2 : ∀ ld vs ns nn h' tk, ld ≠ dd → IntsAre vs ns → 1 ≤ ns.length → ns.length ≤ 63 → Fr h₀ env.locals h' m → News h₀ env.locals h' [(ld, W.listOf vs.toArray nn), (dd, od)] →
      wpAny (model prog w) A (pyIter (.ref ld)) (fun it s₂ => LoopAtV prog w A h₀ env x body Q E it s₂) E { s with heap := h', toks := tk })
    (hs : ∀ x, foldedSetIterable iter env x = pure x := by intro _; rfl) (hE : PassesOwn (model prog w) A env E := by passes_own) :
    wpAny (model prog w) A (exec (.For (.Name x px) iter body [] pos) env) Q E s := by
  refine For_invV h₀ hx hp (wpAny_mono h1 (fun v s' hv => ?_) fun _ _ e => e) hs hE
  obtain ⟨ld, vs, ns, nn, h', tk, rfl, hne, rfl, a, b, c, d, e⟩ := hv
  exact h2 ld vs ns nn h' tk hne a b c d e
end Mine
open Mine
local macro_rules | `(tactic| walk_at "go") => `(tactic| repeat' (first | (k_unfold; (try dsimp only)) | walk1 | (dsimp only; walk1)))
local macro_rules | `(tactic| walk_at "compareOp NotEq str str") => `(tactic| (k_here; refine neL_f (by first | with_reducible assumption | with_reducible rfl) ?_))
local macro_rules | `(tactic| walk_at "pyIter ref") => `(tactic| refine Stop.of ?_)
local macro_rules | `(tactic| walk_at "call ref") => `(tactic| refine Stop.of ?_)
local macro_rules | `(tactic| walk_at "InvEndN") => `(tactic| refine Stop.of ?_)
local macro_rules | `(tactic| walk_at "setItem ref str") => `(tactic| refine Stop.of ?_)
local macro_rules | `(tactic| walk_at "subscriptTail Name Name ref str") => `(tactic| refine Stop.of ?_)
local macro_rules | `(tactic| walk_at "compareOp Eq str str") => `(tactic| (k_here; first | with_reducible refine eqL_t rfl ?_ | refine eqStar (fun h42 => ?_) (fun h42 => ?_)))
local macro_rules | `(tactic| walk_at "compareOp In str str") => `(tactic| (k_here; refine inMean (fun hmn => ?_) (fun hmn => ?_)))
local macro_rules | `(tactic| walk_at "binaryOp Mult str int") => `(tactic| (k_here; first | (with_reducible refine mul_sign rfl ?_; intro _ _ _ _ _) | (with_reducible refine mul_sign star_eq ?_; intro _ _ _ _ _) | refine Stop.of ?_))
local macro_rules | `(tactic| walk_at "binaryOp Add str str") => `(tactic| (k_here; first | (refine add_LR dotb_eq rfl (by (simp only [List.length_cons, List.length_nil]; decide)) ?_; intro _ _) | (refine add_LR dot_eq back_eq (by decide) ?_; intro _ _) | (refine add_LR dot_eq emp_eq (by decide) ?_; intro _ _) | (refine add_LR dot_eq rfl (by (simp only [List.length_cons, List.length_nil]; decide)) ?_; intro _ _) | (refine add_S (by (simp only [List.length_append, List.length_cons, List.length_nil]; decide)) ?_; intro _ _)))
local macro_rules | `(tactic| walk_at "inplaceOp Add str str") => `(tactic| (k_here; (refine iadd_S (by (simp only [List.length_replicate]; omega)) ?_; intro _ _)))
local macro_rules | `(tactic| walk_at "call builtin:chr") => `(tactic| (k_here; first | (refine chrA ?_; intro _ _ _) | (refine chrB ?_; intro _ _ _)))
local macro_rules | `(tactic| walk_at "subscriptTail Name BinOp str int") => `(tactic| (k_here; first | (refine item_of mean_S rfl (by decide) (by decide) ?_; intro c' _ _ hc') | (refine item_of less_S rfl (by decide) (by decide) ?_; intro c' _ _ hc')))
local macro_rules | `(tactic| walk_at "exec For Name IfExp cons nil") => `(tactic| refine Stop.of ?_)
set_option maxRecDepth 100000 in
set_option maxHeartbeats 8000000 in
theorem PySem.Challenge.cw_dn0256_07_holds : PySem.Challenge.rw_dn0256_07.Holds := by
  refine Mine.hd07 ?_
  k_go0
  (all_goals try k_fold)
  walk_at "go"
  refine Stop.go ?_
  (rename Fr _ _ _ _ => F1); (rename News _ _ _ _ => N1)
  refine ct_tp (x := S []) (Frag.In.keeps (by assumption) F1.keep) (Top.keeps (by assumption) F1.keep) (by (simp only [depth_deeper, depth_caller]; decide)) rfl (by decide) (fun h2 tk2 t2 he2 => ?_)
  have F2 := F1.keeps he2
  have N2 := newsExt N1 he2
  rw [tpS_S, tp_empty]
  have hne : S [46, 42] = Str.ofString ".*" := dst_eq.symm
  clear F1 N1
  dsimp only
  walk_at "go"
  refine Stop.go ?_
  (rename Fr _ _ _ _ => F3); (rename News _ _ _ _ => N3); (rename IntsAre _ _ => hI3); (rename Obj.IsDictOf (strKind _ _) _ _ => hD3)
  refine For_src F3 N3 rfl rfl ?h1 ?h2
  case h1 =>
    walk_at "go"
    · exact ⟨_, _, _, 0, _, _, rfl, Nat.ne_of_lt (by assumption), rfl, hI3, by omega, by rw [List.length_take]; omega, F3, pick21 N3⟩
    · (rename Fr _ _ _ _ => F4); (rename News _ _ _ _ => N4)
      exact ⟨_, _, [0], 0, _, _, rfl, Nat.ne_of_gt (And.left (by assumption)), rfl, .cons 0 _ .nil, by decide, by decide, F4, pick12 N4⟩
  case h2 =>
    clear hI3
    intro ld vs ns nn h4 tk4 hne4 hI hn1 hn63 F4 N4
    refine kst_listL (σ := List Nat × Tok × Obj × List (Str × Value)) (fun c => [(ld, W.listOf vs.toArray nn), (_, c.2.2.1)]) (fun c => [(Str.ofString "path", Value.str (S c.1) c.2.1)])
      (fun c => c.2.2.1.IsDictOf (PySem.strKind Challenge.rw_dn0256_07.row.prog _) c.2.2.2 ∧ Alone c.2.2.2 c.1) [Str.ofString "kind", Str.ofString "rest", Str.ofString "sign", Str.ofString "times", Str.ofString "point"] (fun pre c => pre.length ≤ c.1.length ∧ c.1.length ≤ 3 * pre.length ∧ c.2.2.2.length ≤ pre.length) ([], ?tk0, _, []) rfl (fun c => List.Mem.head _) hI F4 N4 ⟨hD3, fun c hc => absurd hc (by simp)⟩ ?hk ⟨Nat.le_refl _, Nat.le_refl _, Nat.le_refl _⟩ ?turn ?done
    case hk =>
      intro q hq
      cases List.mem_singleton.mp hq
      rfl
    case turn =>
      rintro ⟨l, t1, od, kvs⟩ pre post n tn u h tk own hns hn hoff ⟨hdct, hal⟩ ⟨hp1, hp2, hp3⟩ F6 N6
      clear F3 N3 F4 N4 hD3
      dsimp only [kstB] at F6 hp1 hp2 hp3 hdct hal
      dsimp only [List.cons_append, List.nil_append] at N6
      have hlp : pre.length < 63 := by
        have := congrArg List.length hns
        simp only [List.length_append, List.length_cons] at this
        omega
      have hkz : kvs.length ≤ 1000 := by omega
      walk_at "go"
      all_goals (refine Stop.go ?_; (rename Fr _ _ _ _ => F7); (rename News _ _ _ _ => N7); refine set_alone (by first | with_reducible rfl | exact star_eq) (by first | exact dot_of rfl | exact dot_of (by assumption) | exact congrArg S (tp_back (by assumption)).symm | exact congrArg S (tp_bare (less_spec _ (by assumption)).1 (less_spec _ (by assumption)).2).symm | exact congrArg S (tp_bare (spec_of_mean (by assumption) (by assumption)) (by assumption)).symm) F7 N7 (by k_updF) hdct hkz hal ?_; intro h8 o8 kvs8 F8 N8 hd8 ha8 hk8; (try dsimp only at N8); clear F7 N7 hdct hal F6 N6)
      all_goals walk_at "go"
      all_goals (refine Stop.go ?_; (rename Fr _ _ _ _ => F9); (rename News _ _ _ _ => N9); refine ct_tp (Frag.In.keeps (by assumption) F9.keep) (Top.keeps (by assumption) F9.keep) (by (simp only [depth_deeper, depth_caller]; decide)) rfl (by first | with_reducible exact one_len _ | decide) (fun h10 tk10 t10 he10 => ?_); have F10 := F9.keeps he10; have N10 := newsExt N9 he10; first | rw [tpS_S] | rw [tps_star]; clear F9 N9; dsimp only)
      all_goals walk_at "go"
      all_goals (refine Stop.go ?_; (rename Fr _ _ _ _ => F11); (rename News _ _ _ _ => N11); refine item_alone (by first | with_reducible rfl | exact star_eq) N11 (List.Mem.tail _ (List.Mem.head _)) hd8 ha8 (fun t12 tk12 => ?_))
      all_goals walk_at "go"
      all_goals (refine Stop.go ?_; (rename Fr _ _ _ _ => F13); (rename News _ _ _ _ => N13))
      all_goals refine kst_end (_, _, o8, kvs8) F13 N13 (pick2_mem (List.Mem.head _) (List.Mem.tail _ (List.Mem.head _))) (fun p hp => List.mem_cons_of_mem _ (List.mem_cons_of_mem _ hp)) rfl ⟨hd8, ha8.more _⟩ (fun p hp => by cases List.mem_singleton.mp hp; rfl) (fun z hz hp hst => ?_) ?_
      all_goals first
        | ((simp only [List.length_append, List.length_replicate, List.length_cons, List.length_nil]); omega)
        | (have k0 := hp _ (List.Mem.head _); have k1 := off_list hst (a := Str.ofString "kind") (by decide); have k2 := off_list hst (a := Str.ofString "rest") (by decide); have k3 := off_list hst (a := Str.ofString "sign") (by decide); have k4 := off_list hst (a := Str.ofString "times") (by decide); have k5 := off_list hst (a := Str.ofString "point") (by decide); dsimp only at k0 k1 k2 k3 k4 k5; simp only [if_neg hz, if_neg k0, if_neg k1, if_neg k2, if_neg k3, if_neg k4, if_neg k5, hst, Bool.false_eq_true, if_false])
    case done =>
      rintro ⟨l, t1, od, kvs⟩ u h tk ⟨hdct, hal⟩ ⟨hp1, hp2, hp3⟩ F6 N6
      clear F3 N3 F4 N4 hD3
      dsimp only [kstB] at F6 hp1 hp2 hp3 hdct hal N6
      have hl1 : 1 ≤ l.length := by omega
      have hl2 : l.length ≤ 189 := by omega
      dsimp only
      walk_at "go"
      refine Stop.go ?_
      (rename Fr _ _ _ _ => F7); (rename News _ _ _ _ => N7)
      refine ct_tp (Frag.In.keeps (by assumption) F7.keep) (Top.keeps (by assumption) F7.keep) (by (simp only [depth_deeper, depth_caller]; decide)) rfl (by rw [S_length]; omega) (fun h8 tk8 t8 he8 => ?_)
      have F8 := F7.keeps he8
      have N8 := newsExt N7 he8
      rw [tpS_S]
      clear F7 N7
      dsimp only
      walk_at "go"
      refine Stop.go ?_
      refine ct_due 400 (l := l) (Frag.In.keeps (by assumption) F8.keep) (Top.keeps (by assumption) F8.keep) (by (simp only [depth_deeper, depth_caller]; decide)) rfl (by omega) (by intro e; rw [e] at hl1; simp at hl1) (by omega) (alone_at (s := ⟨_, _, _, _, _⟩) N8 (List.Mem.tail _ (List.Mem.head _)) hdct hal) (fun h9 tk9 t9 he9 => ?_)
      have F9 := F8.keeps he9
      have N9 := newsExt N8 he9
      clear F8 N8
      dsimp only
      walk_at "go"
      refine len_S (by omega) (fun t10 tk10 => ?_)
      refine div64 hl1 hl2 (fun q t11 tk11 hq1 hq2 => ?_)
      walk_at "go"
      refine Stop.go ?_
      refine mul_S (by omega) (by omega) (by omega) (fun t12 tk12 => ?_)
      rw [show ((q : Int) + 1).toNat = q + 1 by omega]
      have hL : (List.replicate (q + 1) l).flatten.length ≤ 189 := by rw [rep_len]; exact hq2
      have hL1 : (List.replicate (q + 1) l).flatten ≠ [] := by
        intro e
        rw [List.replicate_succ, List.flatten_cons] at e
        have := congrArg List.length (List.append_eq_nil_iff.mp e).1
        rw [List.length_nil] at this; omega
      have hal2 := hal.rep (q + 1)
      generalize (List.replicate (q + 1) l).flatten = ll at hL hL1 hal2 ⊢
      walk_at "go"
      refine Stop.go ?_
      (rename Fr _ _ _ _ => F13); (rename News _ _ _ _ => N13)
      refine ct_tp (Frag.In.keeps (by assumption) F13.keep) (Top.keeps (by assumption) F13.keep) (by (simp only [depth_deeper, depth_caller]; decide)) rfl (by rw [S_length]; omega) (fun h14 tk14 t14 he14 => ?_)
      have F14 := F13.keeps he14
      have N14 := newsExt N13 he14
      rw [tpS_S]
      clear F13 N13
      dsimp only
      walk_at "go"
      refine Stop.go ?_
      refine ct_due 400 (l := ll) (Frag.In.keeps (by assumption) F14.keep) (Top.keeps (by assumption) F14.keep) (by (simp only [depth_deeper, depth_caller]; decide)) rfl (by omega) hL1 (by omega) (alone_at (s := ⟨_, _, _, _, _⟩) N14 (List.Mem.tail _ (List.Mem.head _)) hdct hal2) (fun h15 tk15 t15 he15 => ?_)
      have F15 := F14.keeps he15
      have N15 := newsExt N14 he15
      clear F14 N14
      dsimp only
      walk_at "go"
      k_steps
