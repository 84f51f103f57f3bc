import PyProof.Rows.All
import Wide.All
import OpenK.AllK
import Wide.FinOn
import PySem.Challenge.RW_dn0256_10
open PySem PySem.W PyProof.Rows
set_option Elab.async false
set_option maxRecDepth 100000
set_option maxHeartbeats 8000000
section secMBase
namespace Mine
noncomputable def Ext (h h' : Heap) : Prop := ∀ b o, h.get? b = some o → h'.get? b = some o
end Mine
end secMBase
section secMMap
namespace Mine
section mapfacts
theorem slot_map_init : Slot "map" "__init__" "object.__init__" :=
  .of (owner := "object") (n := "__init__") (by rw [typeLookup_type, builtinLookup_eq_fast]; kernel_rfl) (by decide +kernel) (by decide +kernel) (by decide +kernel)
    (by first | exact .inl (by decide +kernel) | exact .inr (by decide +kernel)) (by rw [isSubtype_type]; kernel_rfl)
theorem slot_map_iter : Slot "map" "__iter__" "map.__iter__" :=
  .of (owner := "map") (n := "__iter__") (by rw [typeLookup_type, builtinLookup_eq_fast]; kernel_rfl) (by decide +kernel) (by decide +kernel) (by decide +kernel)
    (by first | exact .inl (by decide +kernel) | exact .inr (by decide +kernel)) (by rw [isSubtype_type]; kernel_rfl)
theorem slot_map_next : Slot "map" "__next__" "map.__next__" :=
  .of (owner := "map") (n := "__next__") (by rw [typeLookup_type, builtinLookup_eq_fast]; kernel_rfl) (by decide +kernel) (by decide +kernel) (by decide +kernel)
    (by first | exact .inl (by decide +kernel) | exact .inr (by decide +kernel)) (by rw [isSubtype_type]; kernel_rfl)
theorem entry_map_next : entryFor table "map.__next__" = some Builtin.«map.__next__» := entryFor_of_tree (by kernel_rfl)
theorem entry_map_new : entryFor table "map.__new__" = some Builtin.«map.__new__» := entryFor_of_tree (by kernel_rfl)
theorem entry_map_iter : entryFor table "map.__iter__" = some Builtin.«dict_keyiterator.__iter__» :=
  entryFor_alias (id' := "dict_keyiterator.__iter__") (by kernel_rfl) (by first | rfl | decide +kernel | (unfold String.splitOn; simp +decide [String.splitOnAux])) (by decide +kernel) (by kernel_rfl)
theorem args_map_next (a : Value) : argsOk "map.__next__" ⟨[a], []⟩ := by unfold argsOk; kernel_rfl
theorem args_map_iter (a : Value) : argsOk "map.__iter__" ⟨[a], []⟩ := by unfold argsOk; kernel_rfl
theorem mro_map : mroOf (.type "map") = pure [.type "map", .type "object"] := by rw [mroOf_type]; kernel_rfl
theorem lookup_map_new : typeLookup (.type "map") "__new__" = pure (some (.builtin "map.__new__")) := by rw [typeLookup_type, builtinLookup_eq_fast]; kernel_rfl
theorem called_map : TypeCalled "map" "map.__new__" "object.__init__" :=
  ⟨by decide +kernel, by decide +kernel, ⟨_, _, mro_map⟩, madeBy_type mro_map lookup_map_new (by decide +kernel), by decide +kernel, by rw [isSubtype_type]; kernel_rfl, slot_map_init⟩
theorem typeCall_map_2 (a b : Value) : checkTypeCall "map" ⟨[a, b], []⟩ = pure () := by kernel_rfl
theorem newCall_map_2 (a b : Value) : checkBuiltinCall "map.__new__" ⟨[.type "map", a, b], []⟩ = pure () := by kernel_rfl
theorem sub_map : isSubtype (.type "map") (.type "map") = pure true := by rw [isSubtype_type]; kernel_rfl
theorem map_no_len : typeLookup (.type "map") "__len__" = pure none := by rw [typeLookup_type, builtinLookup_eq_fast]; kernel_rfl
theorem map_no_hint : typeLookup (.type "map") "__length_hint__" = pure none := by rw [typeLookup_type, builtinLookup_eq_fast]; kernel_rfl
end mapfacts

noncomputable abbrev mapObj (TI : Addr) (f : Value) : Obj := { cls := .type "map", data := .fields #[.ref TI, f] }
noncomputable abbrev tup1 (a : Value) : Obj := { cls := .type "tuple", data := .seq #[a] }

theorem meets_map_new (f : Value) (l : Addr) (items : Array Value) (n : Nat) (dct : Option Addr) (sl : Array (Option Value)) :
    Meets (Builtin.«map.__new__» ⟨[.type "map", f, .ref l], []⟩) (fun _ R s => s.heap.get? l = some { cls := .type "list", dict := dct, data := .seq items n, slots := sl } ∧
      R (.ok (.ret (.ref ((s.heap.push { cls := .type "list_iterator", data := .fields #[.ref l, .int 0 0] }).push (tup1 (.ref s.heap.objs.size))).objs.size)))
        { s with heap := ((s.heap.push { cls := .type "list_iterator", data := .fields #[.ref l, .int 0 0] }).push (tup1 (.ref s.heap.objs.size))).push (mapObj (s.heap.push { cls := .type "list_iterator", data := .fields #[.ref l, .int 0 0] }).objs.size f) }) :=
  .of_wp fun prog w A R s h => by
    obtain ⟨hp, g, d, tk, os⟩ := s; obtain ⟨hl, h⟩ := h
    have hsub := sub_map
    have hL : Heap.IsList (Shared.heap ⟨hp, g, d, tk, os⟩) l items := ⟨_, hl, rfl, n, rfl⟩
    unfold Builtin.«map.__new__»
    refine wpAny_bind ?_
    wp_walk using wpAny_pyIter_list hL
    exact ⟨_, rfl, h⟩
end Mine
end secMMap
section secMMap2
namespace Mine
theorem call_map {prog : Program} {w : World} {A : Around} {E : Value → Shared → Prop} {s : Shared} {f : Value} {l : Addr} {items : Array Value} {Q : Value → Shared → Prop} (hL : s.heap.IsList l items)
    (h : ∀ h', h'.get? (s.heap.objs.size + 2) = some (mapObj (s.heap.objs.size + 1) f) → h'.get? (s.heap.objs.size + 1) = some (tup1 (.ref s.heap.objs.size)) → h'.IsListIter s.heap.objs.size l 0 → h'.objs.size = s.heap.objs.size + 3 →
      Ext s.heap h' → Q (.ref (s.heap.objs.size + 2)) { s with heap := h' }) :
    wpAny (model prog w) A (call (.type "map") [f, .ref l]) Q E s := by
  obtain ⟨⟨c, dct, dt, sl⟩, hl, hc, n, hd⟩ := hL
  replace hc : c = .type "list" := hc
  replace hd : dt = .seq items n := hd
  subst hc hd
  refine callType_new called_map (by decide) (typeCall_map_2 _ _) (newCall_map_2 _ _) (fun obj => F.args_object_init_3 obj _ _) entry_map_new
    (meets_map_new f l items n dct sl) ⟨hl, ?_⟩
  have hz : (s.heap.push { cls := .type "list_iterator", data := .fields #[.ref l, .int 0 0] }).objs.size = s.heap.objs.size + 1 := Heap.size_push ..
  have hz2 : ((s.heap.push { cls := .type "list_iterator", data := .fields #[.ref l, .int 0 0] }).push (tup1 (.ref s.heap.objs.size))).objs.size = s.heap.objs.size + 2 := by rw [Heap.size_push, hz]
  show _ ∧ _
  rw [hz2, hz]
  have h1 := Heap.get?_push_size ((s.heap.push { cls := .type "list_iterator", data := .fields #[.ref l, .int 0 0] }).push (tup1 (.ref s.heap.objs.size))) (o := mapObj (s.heap.objs.size + 1) f) rfl
  rw [hz2] at h1
  have h2 := Heap.get?_push_of_some (mapObj (s.heap.objs.size + 1) f) (Heap.get?_push_size (s.heap.push { cls := .type "list_iterator", data := .fields #[.ref l, .int 0 0] }) (o := tup1 (.ref s.heap.objs.size)) rfl)
  rw [hz] at h2
  refine ⟨⟨_, h1, rfl⟩, h _ h1 h2 ⟨_, Heap.get?_push_of_some _ (Heap.get?_push_of_some _ (Heap.get?_push_size _ rfl)), rfl, rfl⟩ (by rw [Heap.size_push, hz2]) fun b o e => Heap.get?_push_of_some _ (Heap.get?_push_of_some _ (Heap.get?_push_of_some _ e))⟩

/-- what the walk of a map keeps of the heap at its start -/
noncomputable abbrev OffIt (it : Addr) (h₀ h : Heap) : Prop := ∀ b o, b ≠ it → h₀.get? b = some o → h.get? b = some o

end Mine
end secMMap2
section secMList
namespace Mine
section
variable {prog : Program} {w : World} {A : Around} {E : Value → Shared → Prop} {s : Shared} {I : Addr} {fp wr : List Addr} {n : Nat} {P : Nat → Value → Prop} {St : Nat → Heap → Prop}

theorem extend_walk {T : String} {R : Result → Shared → Prop} (W : Walks prog w A.in1 I fp wr n P St) (hT : ∀ s : Shared, St 0 s.heap → s.TypeIs (.ref I) T)
    (h2 : (Value.type T == Value.type "list") = false) (h3 : (Value.type T == Value.type "tuple") = false)
    (hlen : typeLookup (.type T) "__len__" = pure none) (hhint : typeLookup (.type T) "__length_hint__" = pure none)
    (hst : St 0 s.heap) (hn : n ≤ sizeLine) (S : Addr) (hSf : S ∉ fp) (hIf : I ∈ fp) (res : Value) (c₀ : Nat) (hS : s.heap.get? S = some { cls := .type "list", data := .seq #[] c₀ })
    (hR : ∀ h' tk acc' c', (∀ b o, b ≠ S → b ∉ wr → s.heap.get? b = some o → h'.get? b = some o) → h'.get? S = some { cls := .type "list", dict := none, data := .seq acc' c', slots := #[] } →
      ItemsOf P acc' n → R (.ok (.ret res)) { s with heap := h', toks := tk }) :
    wpAny (model prog w) A.in1 (Builtin.List.listExtendWith (.ref S) (.ref I) res)
      (fun fin s' => match fin with | .done f => R (.ok f) s' | .again c' => c'.quiet = true ∧ codeAny (model prog w) A c' R s') (fun e s' => R (.error e) s') s := by
  have hSI : S ≠ I := fun e => hSf (e ▸ hIf)
  unfold Builtin.List.listExtendWith
  refine wpAny_bind (wpAny_typeOf (hT s hst) ?_)
  have h1 : Builtin.List.listSameRef (.ref S) (.ref I) = false := by simp [Builtin.List.listSameRef, hSI]
  simp only [h1, h2, h3, Bool.or_false, Bool.false_eq_true, if_false]
  refine wpAny_bind (W.self 0 _ _ _ hst ?_)
  refine wpAny_bind (wpAny_holding ?_)
  unfold Builtin.List.listLengthHint
  refine wpAny_bind (wpAny_specialOf (hT s hst) hlen ?_)
  show wpAny _ A.in1 (specialOf (Value.ref I) (Str.ofString "__length_hint__") >>= _) _ _ _
  refine wpAny_bind (wpAny_specialOf (hT s hst) hhint ?_)
  refine wpAny_pure ?_
  show wpAny _ A.in1 (rule "list.extend.makes-room" >>= fun _ => Builtin.List.listTouch (.ref S) >>= fun _ =>
    again (.builtin "list.extend.loop" ⟨[.ref S, .ref I, res], []⟩)) _ _ _
  refine wpAny_bind (wpAny_rule ?_)
  refine wpAny_bind ?_
  show wpAny _ A.in1 (updateSeq S (·.push .none) >>= fun _ => updateSeq S (·.pop)) _ _ _
  refine wpAny_bind (wpAny_updateSeq hS rfl ?_)
  have hS₂ := Heap.get?_update_self (Obj.mapSeq (·.push Value.none)) hS rfl
  refine wpAny_updateSeq (hz := by seq_fits) hS₂ rfl ?_
  have hS₃ := Heap.get?_update_self (Obj.mapSeq (·.pop)) hS₂ rfl
  have oth : ∀ b o, b ≠ S → s.heap.get? b = some o → ((s.heap.update S (Obj.mapSeq (·.push Value.none))).update S (Obj.mapSeq (·.pop))).get? b = some o :=
    fun b o hb e => (Heap.get?_update_other _ _ (Ne.symm hb)).trans ((Heap.get?_update_other _ _ (Ne.symm hb)).trans e)
  refine wpAny_pure ⟨plainId_quiet F.plain_extend_loop _, codeAny_extend_loopS W.toS hn _ hSf _ n 0 _ _ _ rfl (Nat.zero_le _)
    (W.frame 0 s.heap _ hst fun b hb o e => oth b o (fun h => hSf (h ▸ hb)) e) hS₃ (ItemsOf.nil P) fun s' acc' c' hm hS' hacc => ?_⟩
  rw [Moved.eq_with hm]
  refine hR s'.heap s'.toks acc' c' (fun b o hb hw e => hm.heap b o (fun hmem => ?_) (oth b o hb e)) hS' hacc
  rcases List.mem_cons.mp hmem with e' | hmem
  · exact hb e'
  · exact hw hmem

theorem call_list_walk {T : String} {Q : Value → Shared → Prop} (W : Walks prog w A.in1.in1 I fp wr n P St) (hT : ∀ s : Shared, St 0 s.heap → s.TypeIs (.ref I) T)
    (h2 : (Value.type T == Value.type "list") = false) (h3 : (Value.type T == Value.type "tuple") = false)
    (hlen : typeLookup (.type T) "__len__" = pure none) (hhint : typeLookup (.type T) "__length_hint__" = pure none)
    (hst : St 0 s.heap) (hn : n ≤ sizeLine) (hIf : I ∈ fp) (hfp : ∀ b ∈ fp, b < s.heap.objs.size)
    (hQ : ∀ h' tk acc' c', (∀ b o, b ∉ wr → s.heap.get? b = some o → h'.get? b = some o) →
      h'.get? s.heap.objs.size = some { cls := .type "list", dict := none, data := .seq acc' c', slots := #[] } → ItemsOf P acc' n → Q (.ref s.heap.objs.size) { s with heap := h', toks := tk }) :
    wpAny (model prog w) A (call (.type "list") [.ref I]) Q E s := by
  refine callType_codes (Q₁ := fun obj s₁ => obj = .ref s.heap.objs.size ∧ s₁ = { s with heap := s.heap.push { cls := .type "list", data := .seq #[] } }) F.called_list (F.typeCall_list_1 _) F.entry_list_init
    (code_list_new _ ⟨rfl, rfl⟩) fun obj s₁ h₁ => ?_
  obtain ⟨rfl, rfl⟩ := h₁
  have hS : (s.heap.push { cls := .type "list", data := .seq #[] }).get? s.heap.objs.size = some { cls := .type "list", data := .seq #[] } := Heap.get?_push_size _ rfl
  have hSf : s.heap.objs.size ∉ fp := fun hm => Nat.lt_irrefl _ (hfp _ hm)
  refine ⟨⟨_, hS, rfl⟩, F.args_list_init_2 _ _, ?_⟩
  show wpAny _ _ (do let old ← Builtin.List.listItems (.ref s.heap.objs.size); Builtin.List.listUpdate (.ref s.heap.objs.size) (fun _ => #[]); letGo old.toList.reverse; Builtin.List.listExtendWith (.ref s.heap.objs.size) (.ref I) .none) _ _ _
  refine wpAny_bind ?_
  unfold Builtin.List.listItems
  refine wpAny_bind (wpAny_seqItems hS rfl (wpAny_pure ?_))
  show wpAny _ _ (updateSeq s.heap.objs.size (fun _ => #[]) >>= fun _ => letGo (#[] : Array Value).toList.reverse >>= fun _ => Builtin.List.listExtendWith (.ref s.heap.objs.size) (.ref I) .none) _ _ _
  refine wpAny_bind (wpAny_updateSeq hS rfl ?_)
  have hS₂ := Heap.get?_update_self (Obj.mapSeq (fun _ => (#[] : Array Value))) hS rfl
  refine wpAny_bind (wpAny_letGo ?_)
  have up : ∀ b o, s.heap.get? b = some o → ((s.heap.push { cls := .type "list", data := .seq #[] }).update s.heap.objs.size (Obj.mapSeq (fun _ => (#[] : Array Value)))).get? b = some o :=
    fun b o e => (Heap.get?_update_other _ _ (Nat.ne_of_gt (Heap.lt_size e))).trans (Heap.get?_push_of_some _ e)
  refine extend_walk (A := A.in1) W hT h2 h3 hlen hhint (W.frame 0 s.heap _ hst fun b _ o e => up b o e) hn s.heap.objs.size hSf hIf .none _ hS₂ fun h' tk acc' c' hk hS' hacc => ?_
  exact ⟨rfl, hQ h' tk acc' c' (fun b o hw e => hk b o (Nat.ne_of_lt (Heap.lt_size e)) hw (up b o e)) hS' hacc⟩
end
end Mine
namespace Mine
theorem ne_add (a k : Nat) : a + (k + 1) ≠ a := by omega
theorem lt_add (a b k : Nat) (h : b = a + (k + 1)) : a < b := by omega
end Mine
end secMList
section secMLed
namespace Mine
section
variable {prog : Program} {w : World} {A : Around} {E : Value → Shared → Prop} {s : Shared} {h₀ : Heap} {L D : Addr} {m : Str → Option Value} {rest : List (Addr × Obj)} {vs : List Value} {n : Nat} {v : Value}

end
end Mine
end secMLed
section secMTp
namespace Mine
theorem sum_le {l : List Nat} {B : Nat} (h : ∀ n ∈ l, n ≤ B) : l.sum ≤ l.length * B := by
  induction l with
  | nil => simp
  | cons a r ih =>
    rw [List.sum_cons, List.length_cons, Nat.succ_mul]
    have := h a List.mem_cons_self
    have := ih fun n hn => h n (List.mem_cons_of_mem _ hn)
    omega
end Mine
namespace Mine
/-- a goal that the walk is to leave -/
noncomputable def Stop (P : Prop) : Prop := P
theorem Stop.of {P : Prop} (h : Stop P) : P := h
theorem Stop.go {P : Prop} (h : P) : Stop P := h
end Mine
end secMTp
section secMTxt
namespace Mine
/-- a text by its signs' numbers -/
noncomputable def S (l : List Nat) : Str := ⟨l.toArray⟩
theorem S_cps (l : List Nat) : (S l).cps.toList = l := by simp [S]
theorem S_of (x : Str) : S x.cps.toList = x := by cases x; simp [S]
theorem S_length (l : List Nat) : (S l).length = l.length := by simp [S, Str.length]
theorem clipN (a n : Nat) : max (0 : Int) (min (if (a : Int) < 0 then (a : Int) + n else (a : Int)) n) = ((min a n : Nat) : Int) := by
  rw [if_neg (Int.not_lt.mpr (Int.natCast_nonneg a)), show min (a : Int) (n : Int) = ((min a n : Nat) : Int) by omega, Int.max_eq_right (Int.natCast_nonneg _)]
theorem sliceIdxN (a b n : Nat) : Builtin.Str.strSliceIndices (some (a : Int)) (some (b : Int)) 1 n = sliceRange ((min a n : Nat) : Int) ((min b n : Nat) : Int) 1 := by
  unfold Builtin.Str.strSliceIndices
  simp only [show (1 : Int) > 0 by decide, if_true, clipN]
theorem sliceN {xs : List Nat} {a b : Nat} : Txt.slice (S xs) (some (a : Int)) (some (b : Int)) = S ((xs.drop a).take (b - a)) := by
  have e : Txt.slice (S xs) (some (a : Int)) (some (b : Int)) = Txt.slice (S xs) (some ((min a xs.length : Nat) : Int)) (some ((min b xs.length : Nat) : Int)) := by
    unfold Txt.slice
    rw [S_length, sliceIdxN, sliceIdxN, Nat.min_assoc, Nat.min_self, Nat.min_assoc, Nat.min_self]
  rw [e]
  have hd : (xs.drop a).take (b - a) = (xs.drop (min a xs.length)).take (min b xs.length - min a xs.length) := by
    rcases Nat.le_total a xs.length with h | h
    · rw [Nat.min_eq_left h]
      rcases Nat.le_total b xs.length with h2 | h2
      · rw [Nat.min_eq_left h2]
      · rw [Nat.min_eq_right h2, List.take_of_length_le (by rw [List.length_drop]; omega), List.take_of_length_le (Nat.le_of_eq List.length_drop)]
    · rw [Nat.min_eq_right h, List.drop_of_length_le h, List.drop_of_length_le (Nat.le_refl _), List.take_nil, List.take_nil]
  rw [hd]
  rcases Nat.le_total (min a xs.length) (min b xs.length) with h | h
  · have := slice_closes (x := S xs) (i := ((min a xs.length : Nat) : Int)) (j := ((min b xs.length : Nat) : Int)) ⟨Int.natCast_nonneg _, Int.ofNat_le.mpr h, by rw [S_cps]; exact Int.ofNat_le.mpr (Nat.min_le_right ..)⟩
    rw [beq_iff_eq.mp this, S_cps, Int.toNat_natCast, Int.toNat_sub]
    rfl
  · have h0 : Builtin.Str.strSliceIndices (some ((min a xs.length : Nat) : Int)) (some ((min b xs.length : Nat) : Int)) 1 xs.length = [] := by
      rw [sliceIdxN, Nat.min_assoc, Nat.min_self, Nat.min_assoc, Nat.min_self]
      unfold sliceRange
      rw [if_pos (by decide), if_neg (Int.not_lt.mpr (Int.ofNat_le.mpr h))]
      rfl
    unfold Txt.slice
    rw [S_length, h0, Nat.sub_eq_zero_of_le h, List.take_zero]
    cases xs with
    | nil => rfl
    | cons x r => rfl
theorem slice_S {xs : List Nat} {i j : Int} (hi : 0 ≤ i) (hj : 0 ≤ j) : Txt.slice (S xs) (some i) (some j) = S ((xs.drop i.toNat).take (j.toNat - i.toNat)) := by
  rw [← Int.toNat_of_nonneg hi, ← Int.toNat_of_nonneg hj]
  exact sliceN

section
variable {prog : Program} {w : World} {A : Around} {E : Value → Shared → Prop} {s : Shared} {t u : Tok} {value slice : PySem.Expr} {Q : Value → Shared → Prop} {h₀ : Heap} {L : Addr} {m : Str → Option Value} {news : List (Addr × Obj)}

theorem ltI_t {a b : Int} (h : a < b) (hq : Q (.bool true) s) : wpAny (model prog w) A (compareOp .Lt (.int a t) (.int b u)) Q E s := by
  refine PyProof.Rows.lt_int ?_; rw [decide_eq_true h]; exact hq
theorem ltI_f {a b : Int} (h : b ≤ a) (hq : Q (.bool false) s) : wpAny (model prog w) A (compareOp .Lt (.int a t) (.int b u)) Q E s := by
  refine PyProof.Rows.lt_int ?_; rw [decide_eq_false (Int.not_lt.mpr h)]; exact hq
theorem eqI_t {a b : Int} (h : a = b) (hq : Q (.bool true) s) : wpAny (model prog w) A (compareOp .Eq (.int a t) (.int b u)) Q E s := by
  refine PyProof.Rows.eq_int ?_; rw [beq_iff_eq.mpr h]; exact hq
theorem eqI_f {a b : Int} (h : a ≠ b) (hq : Q (.bool false) s) : wpAny (model prog w) A (compareOp .Eq (.int a t) (.int b u)) Q E s := by
  refine PyProof.Rows.eq_int ?_; rw [beq_eq_false_iff_ne.mpr h]; exact hq
theorem neL_f {x y : Str} (h : x = y) (hq : Q (.bool false) s) : wpAny (model prog w) A (compareOp .NotEq (.str x t) (.str y u)) Q E s := by
  refine ne_str ?_
  rw [h, bne, beq_self_eq_true]; exact hq
end
end Mine
end secMTxt
section secMCut
namespace Mine
/-- a text cut at its stars -/
noncomputable def cut : List Nat → List (List Nat)
  | [] => [[]]
  | c :: r => if c = 42 then [] :: cut r else match cut r with
    | [] => [[c]]
    | p :: ps => (c :: p) :: ps
end Mine
end secMCut
section secMJoin
namespace Mine
section
variable {prog : Program} {w : World} {A : Around} {E : Value → Shared → Prop} {s : Shared} {u : Tok} {value slice : PySem.Expr} {Q : Value → Shared → Prop} {a : Addr} {l : List (Str × Tok)}
end

theorem slice_to_S {xs : List Nat} {j : Int} (hj : 0 ≤ j) : Txt.slice (S xs) none (some j) = S (xs.take j.toNat) := by
  have e : Txt.slice (S xs) none (some j) = Txt.slice (S xs) (some 0) (some j) := by
    unfold Txt.slice Builtin.Str.strSliceIndices
    have h1 : max 0 (min (0 : Int) ((S xs).length : Int)) = 0 := by omega
    simp [h1]
  rw [e, slice_S (by decide) hj]
  simp
section
variable {prog : Program} {w : World} {A : Around} {E : Value → Shared → Prop} {s : Shared} {t u : Tok} {value slice : PySem.Expr} {Q : Value → Shared → Prop} {h₀ : Heap} {L : Addr} {m : Str → Option Value} {news : List (Addr × Obj)}
theorem cutTo_S {xs : List Nat} {j : Int} {uj : Tok} (hj : 0 ≤ j) (hF : Fr h₀ L s.heap m) (hN : News h₀ L s.heap news)
    (h : ∀ h' t' k, Fr h₀ L h' m → News h₀ L h' news → Q (.str (S (xs.take j.toNat)) t') { s with heap := h', toks := k })
    (hs : subscripted slice false (.str (S xs) t) (.ref s.heap.objs.size) = operate [.ref s.heap.objs.size, .str (S xs) t] (getItem (.str (S xs) t) (.ref s.heap.objs.size)) := by with_unfolding_all rfl)
    (ht : ∀ r, letTemporaryGo value (.str (S xs) t) r = pure () := by intro _; with_unfolding_all rfl) (hsz : xs.length ≤ 16777216) :
    wpAny (model prog w) A (subscriptTail value slice (.str (S xs) t) (.ref s.heap.objs.size)) Q E { s with heap := s.heap.push { cls := .type "slice", data := .fields #[.none, .int j uj, .none] } } := by
  refine slice_strN_ns hF hN (fun h' t' k F' N' => ?_) hs ht (by rw [S_length, sizeLine_eq]; exact hsz)
  rw [slice_to_S hj]
  exact h h' t' k F' N'
end
end Mine
end secMJoin
section secMCell
open PySem PySem.W PyProof.Rows PySem.Calls PySem.Spec
namespace Mine
section
variable {prog : Program} {w : World} {A : Around} {s : Shared}
  {R : Result → Shared → Prop} {name qual : Str} {params : Arguments} {body : List Stmt} {scope : Scope} {dV kV doc pm cdv ct : Value} {an : Option Addr} {fo : Obj} {f : Addr} {args : Args} {binds : List (Str × Value)}
/-- a def whose locals are captured, entered from the caller's own heap -/
theorem call_cells (ho : s.heap.get? f = some fo) (hd : fo.data = .func (fnX name qual params body scope [] dV kV doc pm an cdv ct)) (hlim : s.heap.NoLimit) (hcd : s.heap.CodeRec cdv qual) (hroom : A.depth < recursionLimit)
    (hbind : BindsTo s (fnX name qual params body scope [] dV kV doc pm an cdv ct) args binds)
    (hkind : (binds.all fun y => scope.names.lookup y.1 == some .local || scope.names.lookup y.1 == some .cell) = true)
    (hnd : ((cellsFrom 0 scope.names []).map (·.1)).Nodup)
    (h : ∀ h₁ tk cells, Fr s.heap s.heap.objs.size h₁ (bindL (envOfC qual scope s.heap.objs.size f cdv).kindOf binds fun _ => none) → News s.heap s.heap.objs.size h₁ cells →
      CellsAre (bindC (envOfC qual scope s.heap.objs.size f cdv).kindOf binds fun _ => none) (cellsFrom (s.heap.objs.size + 1) scope.names []) cells →
      wpAny (model prog w) (A.deeper (envOfC qual scope s.heap.objs.size f cdv)) (execs body (envOfC qual scope s.heap.objs.size f cdv))
        (fun fl s' => R (.ok (.ret (match fl with | .ret v => v | _ => .none))) s') (fun _ _ => False)
        { s with heap := h₁, toks := tk })
    (hco : scope.isCoroutine = false := by rfl) (hgen : scope.isGenerator = false := by rfl) (hk : scope.kind = .function := by rfl) : codeAny (model prog w) A (.call (.ref f) args) R s := by
  refine codeAny_call_function hroom ho hd hco hgen rfl hcd (hbind _ _ _ _ ?_)
  refine wpAny_newFunctionEnv_cells hk (kindsX hkind _) fun env' he s' x => ?_
  subst he
  refine ⟨hlim.keeps x.toInCall.keep, codeAny_func ?_⟩
  obtain ⟨h₁, tk, rfl, _⟩ := x.done
  have hk₁ := x.toInCall.keep
  obtain ⟨cells, NC, Y⟩ := Cl.news (h₀ := s.heap) (Nat.le_refl _) fun n c hm => ⟨x.cell n c (lookup_of_mem_nodup (cellsFrom_names scope.names 0 (s.heap.objs.size + 1) [] [] rfl ▸ hnd) hm), x.above n c hm⟩
  exact wpAny_mono (h h₁ tk cells ⟨x.toInCall.ns, fun b o e => hk₁ b o e, Nat.le_refl _⟩ NC Y) (fun fl s' hl => hl) fun _ _ y => y.elim
theorem call_cellsK {K : Frag} {oc : Value} {od : Option Addr} {osl : Array (Option Value)} (X : K.In s.heap) (ho : K.lookup f = some ⟨oc, od, .func (fnOf name qual params body scope dV kV doc pm an cdv ct), osl⟩) (hcd : codeIn K cdv qual = true) (hlim : s.heap.NoLimit) (hroom : A.depth < recursionLimit)
    (hbind : BindsTo s (fnOf name qual params body scope dV kV doc pm an cdv ct) args binds)
    (hkind : (binds.all fun y => scope.names.lookup y.1 == some .local || scope.names.lookup y.1 == some .cell) = true)
    (hnd : ((cellsFrom 0 scope.names []).map (·.1)).Nodup)
    (h : ∀ h₁ tk cells, Fr s.heap s.heap.objs.size h₁ (bindL (envOfC qual scope s.heap.objs.size f cdv).kindOf binds fun _ => none) → News s.heap s.heap.objs.size h₁ cells →
      CellsAre (bindC (envOfC qual scope s.heap.objs.size f cdv).kindOf binds fun _ => none) (cellsFrom (s.heap.objs.size + 1) scope.names []) cells →
      wpAny (model prog w) (A.deeper (envOfC qual scope s.heap.objs.size f cdv)) (execs body (envOfC qual scope s.heap.objs.size f cdv))
        (fun fl s' => R (.ok (.ret (match fl with | .ret v => v | _ => .none))) s') (fun _ _ => False)
        { s with heap := h₁, toks := tk })
    (hco : scope.isCoroutine = false) (hgen : scope.isGenerator = false) (hk : scope.kind = .function) : codeAny (model prog w) A (.call (.ref f) args) R s :=
  call_cells (X _ _ ho) rfl hlim (codeRec_of X hcd) hroom hbind hkind hnd h hco hgen hk
end
end Mine
end secMCell
section secMComp2
open PySem PySem.W PyProof.Rows PySem.Calls PySem.Spec PyProof.Rows.LCg PyProof.Rows.LCt
namespace Mine
section
variable {prog : Program} {w : World} {A : Around} {E : Value → Shared → Prop} {R : Result → Shared → Prop} {s : Shared} {x y : Str} {px py pe : Pos} {iter iter2 : PySem.Expr} {scope : Scope} {pos : Pos}
end
end Mine
end secMComp2
section secMComp3
open PySem PySem.W PyProof.Rows PySem.Calls PySem.Spec PyProof.Rows.LCg PyProof.Rows.LCt
namespace Mine
/-- a step that leaves the frame and the ledger as they stand -/
noncomputable def Quiet (h₀ : Heap) (L : Addr) (m : Str → Option Value) (led : List (Addr × Obj)) (s s' : Shared) : Prop := ∃ h' tk, s' = { s with heap := h', toks := tk } ∧ Fr h₀ L h' m ∧ News h₀ L h' led
/-- the source of a comprehension -/
noncomputable def SrcIs (h₀ : Heap) (L : Addr) (m : Str → Option Value) (news : List (Addr × Obj)) (s : Shared) (ax : Addr) (vs : List Value) (xv : Value) (s₁ : Shared) : Prop := xv = .ref ax ∧ Quiet h₀ L m news s s₁ ∧ SrcAt h₀ ax vs.toArray news
/-- what a test must answer -/
noncomputable def TestIs (b : Bool) (Y N : Shared → Prop) (ok : Bool) (s' : Shared) : Prop := ok = b ∧ if ok = true then Y s' else N s'
section
variable {prog : Program} {w : World} {A : Around} {E : Value → Shared → Prop} {s : Shared} {h₀ : Heap} {L : Addr} {m : Str → Option Value} {env : Env}
end
end Mine
end secMComp3
section secMComp4
open PySem PySem.W PyProof.Rows PySem.Calls PySem.Spec PyProof.Rows.LCg PyProof.Rows.LCt
namespace Mine
section
variable {prog : Program} {w : World} {A : Around} {E : Value → Shared → Prop} {s : Shared} {h₀ : Heap} {L : Addr} {m : Str → Option Value} {env : Env}
end
end Mine
end secMComp4
section secMTurn
open PySem PySem.W PyProof.Rows PySem.Calls PySem.Spec PyProof.V
namespace Mine
section
variable {prog : Program} {w : World} {A : Around} {E : Value → Shared → Prop} {s : Shared} {env : Env} {h₀ : Heap} {body : List Stmt} {Q : Flow → Shared → Prop} {x : Str} {px : Pos}
end
end Mine
end secMTurn
section secMRec
namespace Mine
theorem newsExt {h₀ h h' : Heap} {L : Addr} {news : List (Addr × Obj)} (N : News h₀ L h news) (e : Ext h h') : News h₀ L h' news := fun q hq => ⟨e _ _ (N q hq).1, (N q hq).2⟩
theorem instBase {h₀ h : Heap} {L x C dx : Addr} {m : Str → Option Value} {od : Obj} (F : Fr h₀ L h m) (h1 : h₀.get? x = some (instObj C dx)) (h2 : h₀.get? dx = some od) : InstAt h x (instObj C dx) C (some od) :=
  ⟨F.keep _ _ h1, rfl, rfl, F.keep _ _ h2⟩
noncomputable def noneV : Value → Bool
  | .none => true
  | _ => false
theorem beq_none (v : Value) : (v == .none) = noneV v := by cases v <;> rfl
section
variable {prog : Program} {w : World} {A : Around} {E : Value → Shared → Prop} {s : Shared} {Q : Value → Shared → Prop}
theorem is_noneV {v : Value} (h : Q (.bool (noneV v)) s) : wpAny (model prog w) A (compareOp .Is v .none) Q E s := by
  refine is_none_gen ?_
  rw [beq_none]; exact h
end
/-- a record of the class at C: its four parts -/
structure RecD where
  r : Addr
  d : Addr
  u : Addr
  l : Addr
  us : List Value
  ls : List Value
  dv : Value
  rv : Value
  k1 : Tok
  k2 : Tok
  k3 : Tok
  k4 : Tok
  cu : Nat
  cl : Nat
noncomputable def recDict (p : Params) (R : RecD) : Obj :=
  dictOf [{ hash := PyData.keyHash p (Str.ofString "useragents"), key := Value.str (Str.ofString "useragents") R.k1, val := Value.ref R.u },
     { hash := PyData.keyHash p (Str.ofString "rulelines"), key := Value.str (Str.ofString "rulelines") R.k2, val := Value.ref R.l },
     { hash := PyData.keyHash p (Str.ofString "delay"), key := Value.str (Str.ofString "delay") R.k3, val := R.dv },
     { hash := PyData.keyHash p (Str.ofString "req_rate"), key := Value.str (Str.ofString "req_rate") R.k4, val := R.rv }] 4
structure RecAt (p : Params) (C : Addr) (h : Heap) (R : RecD) : Prop where
  hr : h.get? R.r = some (instObj C R.d)
  hd : h.get? R.d = some (recDict p R)
  hu : h.get? R.u = some (W.listOf R.us.toArray R.cu)
  hl : h.get? R.l = some (W.listOf R.ls.toArray R.cl)
end Mine
namespace Mine
theorem Fr.lower {g h h' : Heap} {L : Addr} {m : Str → Option Value} (F : Fr h L h' m) (e : Ext g h) (hs : @LE.le Nat _ g.objs.size h.objs.size) : Fr g L h' m := ⟨F.ns, fun b o q => F.keep b o (e b o q), Nat.le_trans hs F.above⟩
end Mine
namespace Mine
/-- a def of the written heap without captured locals, entered from the caller's own heap -/
theorem call_defK {prog : Program} {w : World} {A : Around} {s : Shared} {R : Result → Shared → Prop} {name qual : Str} {params : Arguments} {body : List Stmt} {scope : Scope} {dV kV doc pm cdv ct : Value} {an : Option Addr} {f : Addr} {args : Args} {binds : List (Str × Value)}
    {K : Frag} {oc : Value} {od : Option Addr} {osl : Array (Option Value)} (X : K.In s.heap) (ho : K.lookup f = some ⟨oc, od, .func (fnOf name qual params body scope dV kV doc pm an cdv ct), osl⟩) (hcd : codeIn K cdv qual = true) (hlim : s.heap.NoLimit) (hroom : A.depth < recursionLimit)
    (hbind : BindsTo s (fnOf name qual params body scope dV kV doc pm an cdv ct) args binds) (hloc : ∀ y ∈ binds, scope.names.lookup y.1 = some .local)
    (h : ∀ h₁ tk, Fr s.heap s.heap.objs.size h₁ (fun y => binds.reverse.lookup y) →
      wpAny (model prog w) (A.deeper (envOf qual scope s.heap.objs.size f cdv)) (execs body (envOf qual scope s.heap.objs.size f cdv))
        (fun fl s' => R (.ok (.ret (match fl with | .ret v => v | _ => .none))) s') (fun _ _ => False)
        { s with heap := h₁, toks := tk })
    (hco : scope.isCoroutine = false) (hgen : scope.isGenerator = false) (hk : scope.kind = .function) (hcell : ∀ x ∈ scope.names, x.2 ≠ .cell) : codeAny (model prog w) A (.call (.ref f) args) R s :=
  codeAny_call_def (fd := fnX name qual params body scope [] dV kV doc pm an cdv ct) (body := body) (binds := binds) hroom (X _ _ ho) rfl hlim (codeRec_of X hcd) rfl hbind hcell hloc
    (fun h₁ hns hk₁ => wpAny_mono (h h₁ _ ⟨hns, fun b o e => hk₁ b o e, Nat.le_refl _⟩) (fun _ _ x => x) fun _ _ x => x.elim) hco hgen hk
end Mine
namespace Mine
/-- the four objects are four -/
noncomputable def Apart (R : RecD) : Prop := @Ne Nat R.r R.d ∧ @Ne Nat R.r R.u ∧ @Ne Nat R.r R.l ∧ @Ne Nat R.d R.u ∧ @Ne Nat R.d R.l ∧ @Ne Nat R.u R.l
theorem ne_of_objs {h : Heap} {a b : Addr} {o o' : Obj} (ha : h.get? a = some o) (hb : h.get? b = some o') (hne : o ≠ o') : @Ne Nat a b := fun e => hne (by
  have e' : a = b := e
  rw [e', hb] at ha; exact (Option.some.inj ha).symm)
theorem RecAt.apart {p : Params} {C : Addr} {h : Heap} {R : RecD} (x : RecAt p C h R) (hul : @Ne Nat R.u R.l) : Apart R :=
  ⟨ne_of_objs x.hr x.hd (by intro e; cases e), ne_of_objs x.hr x.hu (by intro e; cases e), ne_of_objs x.hr x.hl (by intro e; cases e), ne_of_objs x.hd x.hu (fun e => by have := congrArg Obj.data e; cases this), ne_of_objs x.hd x.hl (fun e => by have := congrArg Obj.data e; cases this), hul⟩
noncomputable def RecNew (h : Heap) (R : RecD) : Prop := h.get? R.r = none ∧ h.get? R.d = none ∧ h.get? R.u = none ∧ h.get? R.l = none
theorem rec_new {p : Params} {C L x d u l : Addr} {h₀ h : Heap} {k1 k2 k3 k4 : Tok} {c1 c2 : Nat} {us ls : List Value} {dv rv : Value} {rest : List (Addr × Obj)} (N : News h₀ L h rest) (n1 : (l, W.listOf ls.toArray c2) ∈ rest) (n2 : (u, W.listOf us.toArray c1) ∈ rest) (n3 : (x, instObj C d) ∈ rest)
      (n4 : (d, dictOf [{ hash := PyData.keyHash p (Str.ofString "useragents"), key := Value.str (Str.ofString "useragents") k1, val := Value.ref u },
        { hash := PyData.keyHash p (Str.ofString "rulelines"), key := Value.str (Str.ofString "rulelines") k2, val := Value.ref l },
        { hash := PyData.keyHash p (Str.ofString "delay"), key := Value.str (Str.ofString "delay") k3, val := dv },
        { hash := PyData.keyHash p (Str.ofString "req_rate"), key := Value.str (Str.ofString "req_rate") k4, val := rv }] 4) ∈ rest) (hul : @Ne Nat u l) :
    ∃ R : RecD, R.r = x ∧ RecAt p C h R ∧ R.us = us ∧ R.ls = ls ∧ R.dv = dv ∧ R.rv = rv ∧ RecNew h₀ R ∧ Apart R := by
  have m1 := N _ n1
  have m2 := N _ n2
  have m3 := N _ n3
  have m4 := N _ n4
  have X : RecAt p C h ⟨x, d, u, l, us, ls, dv, rv, k1, k2, k3, k4, c1, c2⟩ := ⟨m3.1, m4.1, m2.1, m1.1⟩
  exact ⟨_, rfl, X, rfl, rfl, rfl, rfl, ⟨m3.2.2, m4.2.2, m2.2.2, m1.2.2⟩, X.apart hul⟩
theorem rec_led {p : Params} {C L : Addr} {h₀ h₁ h : Heap} {m : Str → Option Value} {R : RecD} (F : Fr h₀ L h₁ m) (x : RecAt p C h R) (n : RecNew h₁ R) : News h₀ L h [(R.u, W.listOf R.us.toArray R.cu), (R.l, W.listOf R.ls.toArray R.cl), (R.r, instObj C R.d), (R.d, recDict p R)] := by
  have key : ∀ a, h₁.get? a = none → a ≠ L ∧ h₀.get? a = none := by
    intro a ha
    constructor
    · intro e
      obtain ⟨oL, _, _, hL, _⟩ := F.ns
      rw [e, hL] at ha; cases ha
    · cases e : h₀.get? a with
      | none => rfl
      | some o => rw [F.keep _ _ e] at ha; cases ha
  obtain ⟨n1, n2, n3, n4⟩ := n
  intro q hq
  simp only [List.mem_cons, List.not_mem_nil, or_false] at hq
  rcases hq with rfl | rfl | rfl | rfl
  · exact ⟨x.hu, key _ n3⟩
  · exact ⟨x.hl, key _ n4⟩
  · exact ⟨x.hr, key _ n1⟩
  · exact ⟨x.hd, key _ n2⟩
theorem newsApp {h₀ h : Heap} {L : Addr} {a b : List (Addr × Obj)} (N : News h₀ L h a) (M : News h₀ L h b) : News h₀ L h (a ++ b) := fun q hq => (List.mem_append.mp hq).elim (N q) (M q)
end Mine
namespace Mine
theorem news_fresh {h₀ h₁ h : Heap} {L a : Addr} {m : Str → Option Value} {o : Obj} {news : List (Addr × Obj)} (F : Fr h₀ L h₁ m) (N : News h₀ L h news) (hn : h₁.get? a = none) (ha : h.get? a = some o) : News h₀ L h ((a, o) :: news) := by
  intro q hq
  rcases List.mem_cons.mp hq with rfl | hq
  · refine ⟨ha, ?_, ?_⟩
    · intro e
      obtain ⟨oL, _, _, hL, _⟩ := F.ns
      rw [show L = _ from e.symm, hn] at hL; cases hL
    · cases e : h₀.get? _ with
      | none => rfl
      | some o' => rw [F.keep _ _ e] at hn; cases hn
  · exact N q hq
theorem ne_fresh {h₀ h₁ : Heap} {L a b : Addr} {o : Obj} {news : List (Addr × Obj)} (N : News h₀ L h₁ news) (hm : (b, o) ∈ news) (hn : h₁.get? a = none) : @Ne Nat a b := fun e => by
  have e' : a = b := e
  rw [e', (N _ hm).1] at hn; cases hn
end Mine
namespace Mine
theorem add_listsK {prog : Program} {w : World} {A : Around} {E : Value → Shared → Prop} {s : Shared} {h₀ : Heap} {L : Addr} {m : Str → Option Value} {news : List (Addr × Obj)} {l b : Addr} {vs ws : List Value} {Q : Value → Shared → Prop} (F : Fr h₀ L s.heap m) (N : News h₀ L s.heap news) (hl : s.heap.IsList l vs.toArray) (hb : s.heap.IsList b ws.toArray)
    (h : ∀ D h', Fr h₀ L h' m → News h₀ L h' ((D, W.listOf (vs ++ ws).toArray 0) :: news) → (∀ q ∈ news, @Ne Nat D q.1) → Q (.ref D) { s with heap := h' }) (hsz : vs.length + ws.length ≤ 100000) :
    wpAny (model prog w) A (binaryOp .Add (.ref l) (.ref b)) Q E s :=
  add_lists F N hl hb (fun h' F' N' => h _ h' F' N' fun q hq => Nat.ne_of_gt (Heap.lt_size (N q hq).1)) (by rw [sizeLine_eq]; omega)
end Mine
namespace Mine
theorem For_of {prog : Program} {w : World} {A : Around} {E : Value → Shared → Prop} {s : Shared} {env : Env} {Q : Flow → Shared → Prop} {x : Str} {px pos : Pos} {iter : PySem.Expr} {body : List Stmt} {h₀ : Heap} {m : Str → Option Value}
    (_F : Fr h₀ env.locals s.heap m) (hx : env.kindOf x = some .local) (hp : (env.scope.kind == .class || (env.scope.kind == .module && env.locals != env.globals)) = false)
    (h1 : wpAny (model prog w) A (eval iter env) (fun v s' => wpAny (model prog w) A (pyIter v) (fun it s₂ => LoopAtV prog w A h₀ env x body Q E it s₂) E s') E s)
    (hs : ∀ x, foldedSetIterable iter env x = pure x := by intro _; rfl) (hE : PassesOwn (model prog w) A env E := by passes_own) :
    wpAny (model prog w) A (exec (.For (.Name x px) iter body [] pos) env) Q E s := For_invV h₀ hx hp h1 hs hE
end Mine
end secMRec
section secMSetS
namespace Mine
-- set(list of texts)
section
variable {prog : Program} {w : World} {A : Around} {R : Result → Shared → Prop} {I : Addr} {fp wr : List Addr} {G : Array GenState → Array GenState → Prop} {n : Nat} {P : Nat → Value → Prop} {St : Nat → Shared → Prop}
noncomputable def metS (val : Nat → Str) (i : Nat) (k : Str) : Bool := ((List.range i).map val).any (· == k)
theorem metS_succ (val : Nat → Str) (i : Nat) (k : Str) : metS val (i + 1) k = (metS val i k || decide (k = val i)) := by
  unfold metS
  rw [List.range_succ, List.map_append, List.any_append, List.map_cons, List.map_nil, List.any_cons, List.any_nil, Bool.or_false]
  congr 1
  rw [Bool.eq_iff_iff, beq_iff_eq, decide_eq_true_eq]
  exact ⟨Eq.symm, Eq.symm⟩
theorem set_loopS (W : WalksS prog w A.in1 I fp wr G n P St) (S : Addr) (hSf : S ∉ fp)
    (val : Nat → Str) (hval : ∀ i v, P i v → ∃ t, v = .str (val i) t) (hb : n + 1 < scanBound) :
    ∀ (k i c : Nat) (s : Shared), n - i = k → i ≤ n → c ≤ i → St i s →
      s.heap.SetOf (strKind prog w) S (metS val i) c →
      (∀ s' c', c' ≤ n → Moved (S :: wr) G s s' → s'.heap.SetOf (strKind prog w) S (metS val n) c' → R (.ok (.ret .none)) s') →
      codeAny (model prog w) A (.builtin "set.update.loop" ⟨[.ref S, .ref I], []⟩) R s := by
  have hSw : S ∉ wr := fun h => hSf (W.sub _ h)
  have hsub : ∀ b ∈ wr, b ∈ S :: wr := fun b hb => List.mem_cons_of_mem _ hb
  intro k
  induction k with
  | zero =>
    intro i c s hk hi hci hst hS hR
    have hin : i = n := by omega
    subst hin
    refine codeAny_builtin PyProof.Rows.F.entry_set_update_loop ?_
    rw [Around.under_plainId PyProof.Rows.F.plain_set_update_loop _]
    show wpAny _ A.in1 (pyNext (.ref I) >>= _) _ _ s
    refine wpAny_bind (W.done s _ _ hst fun s' hm => ?_)
    show wpAny _ A.in1 (ret Value.none) _ _ s'
    exact wpAny_pure (hR s' c hci (hm.mono hsub) (by
      obtain ⟨o, es, ep, t, ho, rest⟩ := hS
      exact ⟨o, es, ep, t, hm.heap S _ hSw ho, rest⟩))
  | succ k ih =>
    intro i c s hk hi hci hst hS hR
    have hlt : i < n := by omega
    refine codeAny_builtin PyProof.Rows.F.entry_set_update_loop ?_
    rw [Around.under_plainId PyProof.Rows.F.plain_set_update_loop _]
    show wpAny _ A.in1 (pyNext (.ref I) >>= _) _ _ s
    refine wpAny_bind (W.item i s _ _ hlt hst fun v s' hP hst' hm => ?_)
    obtain ⟨t, rfl⟩ := hval i v hP
    have hS' : s'.heap.SetOf (strKind prog w) S (metS val i) c := by
      obtain ⟨o, es, ep, tb, ho, rest⟩ := hS
      exact ⟨o, es, ep, tb, hm.heap S _ hSw ho, rest⟩
    show wpAny _ A.in1 (holding [Value.str (val i) t] (setAdd S (.str (val i) t)) >>= _) _ _ s'
    refine wpAny_bind (wpAny_holding ?_)
    unfold setAdd
    refine wpAny_holding ?_
    refine wpAny_bind ((strKind prog w).pyHash (k := val i) (strKind_is _ _ _ _) ?_)
    refine wpAny_setAddHashed_of (knd := strKind prog w) (s := { s' with toks := s'.toks + 1 }) (strKind_is _ _ _ _) rfl hS' (by omega) fun h' hsb hS2 => ?_
    have hSi : h'.SetOf (strKind prog w) S (metS val (i + 1)) (if metS val i (val i) = true then c else c + 1) :=
      SetOf_congr hS2 (fun k' => by rw [metS_succ]) rfl
    refine wpAny_pure ⟨plainId_quiet PyProof.Rows.F.plain_set_update_loop _, ih (i + 1) _ _ (by omega) hlt (by split <;> omega) (W.frame _ s' _ _ hst' (Nat.le_succ _) fun b hb o e => ?_) hSi fun s'' c'' hc'' hm'' hS'' => ?_⟩
    · rw [hsb.2 b (fun h : b = S => hSf (by rw [← h]; exact hb))]; exact e
    · refine hR s'' c'' hc'' (Moved.trans W.gtrans ((hm.mono hsub).then_heap (Nat.le_succ _) fun b o hb e => ?_) hm'') hS''
      rw [hsb.2 b (fun h : b = S => hb (by rw [h]; exact List.mem_cons_self))]; exact e
end
section
variable {prog : Program} {w : World} {A : Around} {E : Value → Shared → Prop} {s : Shared}
theorem strsAt : ∀ {vs : List Value} {ss : List Str}, StrsAre vs ss → ∀ (i : Nat) (v : Value), vs[i]? = some v → ∃ t, v = .str (ss.getD i (Str.ofString "")) t
  | _, _, .nil, i, v, h => by simp at h
  | _, _, .cons n t hr, 0, v, h => by simp at h; exact ⟨t, by rw [← h]; rfl⟩
  | _, _, .cons n t hr, i + 1, v, h => by
    simp only [List.getElem?_cons_succ] at h
    obtain ⟨t', e⟩ := strsAt hr i v h
    exact ⟨t', by rw [e]; rfl⟩
theorem metS_all (ss : List Str) (k : Str) : metS (fun i => ss.getD i (Str.ofString "")) ss.length k = ss.contains k := by
  unfold metS
  have e : (List.range ss.length).map (fun i => ss.getD i (Str.ofString "")) = ss := by
    apply List.ext_getElem
    · simp
    · intro i h1 h2
      simp [h2]
  rw [e, Bool.eq_iff_iff, List.any_eq_true, List.contains_iff_mem]
  exact ⟨fun ⟨x, hx, e⟩ => beq_iff_eq.mp e ▸ hx, fun h => ⟨k, h, beq_self_eq_true k⟩⟩
theorem call_setS {l : Addr} {vs : List Value} {ss : List Str} {Q : Value → Shared → Prop}
    (hh : A.handled = none) (hl : s.heap.IsList l vs.toArray) (hi : StrsAre vs ss) (hb : vs.length + 1 < 4096)
    (h : ∀ (h' : Heap) (tk c : Nat), h'.SetOf (strKind prog w) s.heap.objs.size (fun k => ss.contains k) c →
      (∀ b o, s.heap.get? b = some o → h'.get? b = some o) → Q (.ref s.heap.objs.size) { s with heap := h', toks := tk }) :
    wpAny (model prog w) A (call (.type "set") [.ref l]) Q E s := by
  have hvl : vs.length = ss.length := StrsAre.length hi
  obtain ⟨c, tl, hmro⟩ := PySem.F.called_set.mro
  have hmade := PySem.F.called_set.made
  have hsub := PySem.F.called_set.sub
  refine wpAny_call (codeAny_of_tree ?_)
  show wpAny _ _ (callAny (.type "set") _) _ _ _
  refine wpAny_pure ⟨Code.quiet_builtin _ (by decide +kernel), codeAny_builtin PySem.F.entry_type_call ?_⟩
  rw [Around.under_plain (weight_type_call_type "set" [.ref l] []) rfl]
  have h1 := PySem.F.called_set.notType
  have h2 := PySem.F.called_set.canCreate
  have hct := PySem.F.typeCall_set_1 (.ref l)
  repeat (any_goals (first | assumption | wp_step))
  refine codeAny_mono (code_set_new_1 (.ref l) (E := E) (Q₁ := fun obj s₁ => ∃ led : Bool, obj = .ref s.heap.objs.size ∧ s₁ = { s with heap := s.heap.push { cls := .type "set", dict := none, data := .set #[] 0 (.fresh 0 0 led) } }) fun led => ⟨led, rfl, rfl⟩) fun r s₁ hr => ?_
  cases r with
  | error e => exact hr
  | ok fl =>
    cases fl with
    | ret obj =>
      obtain ⟨led, rfl, rfl⟩ := hr
      have hS : (s.heap.push { cls := .type "set", dict := none, data := .set #[] 0 (.fresh 0 0 led) }).get? s.heap.objs.size = some { cls := .type "set", dict := none, data := .set #[] 0 (.fresh 0 0 led) } := Heap.get?_push_size _ rfl
      have hT : Shared.TypeIs { s with heap := s.heap.push { cls := .type "set", dict := none, data := .set #[] 0 (.fresh 0 0 led) } } (.ref s.heap.objs.size) "set" := ⟨_, hS, rfl⟩
      have hli := PySem.F.called_set.init.lookup
      have hbi := PySem.F.called_set.init.bind (.ref s.heap.objs.size)
      repeat (any_goals (first | assumption | wp_step))
      refine codeAny_mono (codeAny_call_builtin (R := wants (fun r s₂ => r = .none ∧ ∃ h' tk c, s₂ = { s with heap := h', toks := tk } ∧
          h'.SetOf (strKind prog w) s.heap.objs.size (fun k => ss.contains k) c ∧
          (∀ b o, s.heap.get? b = some o → h'.get? b = some o)) E) PySem.F.called_set.init.plain PySem.F.entry_set_init (check_set_init_1 hT ?_)) fun r₂ s₂ hr₂ => ?_
      · obtain ⟨ol, hol, hcl, nl, hdl⟩ := hl
        obtain ⟨ocls, odict, odata, oslots⟩ := ol
        simp only at hcl hdl
        subst hcl; subst hdl
        have hol' : (s.heap.push { cls := .type "set", dict := none, data := .set #[] 0 (.fresh 0 0 led) }).get? l = some { cls := .type "list", dict := odict, data := .seq vs.toArray nl, slots := oslots } := Heap.get?_push_of_some _ hol
        have hsls := PySem.F.sub_list_set
        have hslf := PySem.F.sub_list_frozenset
        have hne : (Value.type "list" == Value.type "dict") = false := by decide
        have hl1 : (s.heap.push { cls := .type "set", dict := none, data := .set #[] 0 (.fresh 0 0 led) }).IsList l vs.toArray := ⟨_, hol', rfl, nl, rfl⟩
        unfold Builtin.«set.__init__» noKeywords Builtin.Frozenset.updateFrom
        generalize hPI : pyIter = PI
        wp_walk
        subst hPI
        refine wpAny_pyIter_list hl1 ?_
        refine wpAny_bind (wpAny_runValue ?_)
        have hlS : l < s.heap.objs.size := Heap.lt_size hol
        have hh3 : A.in1.in1.in1.handled = none := by simp [hh]
        have hneI : l ≠ (s.heap.push { cls := .type "set", dict := none, data := .set #[] 0 (.fresh 0 0 led) }).objs.size := by
          rw [Heap.size_push]; exact Nat.ne_of_lt (Nat.lt_succ_of_lt hlS)
        have hSf : s.heap.objs.size ∉ [(s.heap.push { cls := .type "set", dict := none, data := .set #[] 0 (.fresh 0 0 led) }).objs.size, l] := by
          rw [Heap.size_push]; simp only [List.mem_cons, List.mem_singleton, List.not_mem_nil, or_false, not_or]
          exact ⟨Nat.ne_of_lt (Nat.lt_succ_self _), Nat.ne_of_gt hlS⟩
        have hval : ∀ (i : Nat) (v : Value), vs.toArray[i]? = some v → ∃ t, v = .str ((fun i => ss.getD i (Str.ofString "")) i) t := fun i v hv =>
          strsAt hi i v (by rw [List.getElem?_toArray] at hv; exact hv)
        refine set_loopS ((Walks.list hh3 _ l hneI vs.toArray).toS) s.heap.objs.size
          hSf (fun i => ss.getD i (Str.ofString "")) hval (by rw [List.size_toArray]; exact hb) (vs.toArray.size - 0) 0 0 _ (by omega) (Nat.zero_le _) (Nat.le_refl _)
          ⟨⟨_, Heap.get?_push_size _ rfl, rfl, rfl⟩, (hl1.push _)⟩ ?hS0 ?hR
        case hS0 =>
          have hget : ((s.heap.push { cls := .type "set", dict := none, data := .set #[] 0 (.fresh 0 0 led) }).push { cls := .type "list_iterator", data := .fields #[.ref l, .int 0 0] }).get? s.heap.objs.size
              = some { cls := .type "set", dict := none, data := .set #[] 0 (.fresh 0 0 led) } := Heap.get?_push_of_some _ hS
          exact SetOf_congr ((setObjOf_fresh (knd := strKind prog w) led).setOf hget (by unfold scanBound; omega)) (fun _ => rfl) rfl
        case hR =>
          intro s' c' _ hm hS'
          have hvz : vs.toArray.size = ss.length := by rw [List.size_toArray]; exact hvl
          rw [hvz] at hS'
          obtain ⟨h', g', d', tk', os'⟩ := s'
          have eg : g' = s.gens := hm.gens
          have ed : d' = s.drawn := hm.drawn
          have eo : os' = s.os := hm.os
          subst eg; subst ed; subst eo
          show wpAny _ _ _ _ _ _
          refine wpAny_pure ?_
          show wpAny _ _ (ret Value.none) _ _ _
          refine wpAny_pure ⟨rfl, h', tk', c', rfl, SetOf_congr hS' (fun k => metS_all ss k) rfl, fun b o e => ?_⟩
          have hb := Heap.lt_size e
          have hb1 : b ≠ s.heap.objs.size := Nat.ne_of_lt hb
          have hb2 : b ≠ (s.heap.push { cls := .type "set", dict := none, data := .set #[] 0 (.fresh 0 0 led) }).objs.size := by
            rw [Heap.size_push]; exact Nat.ne_of_lt (Nat.lt_succ_of_lt hb)
          exact hm.heap b o (by simp only [List.mem_cons, List.mem_singleton, List.not_mem_nil, or_false, not_or]; exact ⟨hb1, hb2⟩) (Heap.get?_push_of_some _ (Heap.get?_push_of_some _ e))
      · cases r₂ with
        | error e => exact hr₂
        | ok fl₂ =>
          cases fl₂ with
          | ret r =>
            obtain ⟨rfl, h', tk, c, rfl, hS', hk'⟩ := hr₂
            repeat (any_goals (first | assumption | wp_step))
            exact h _ _ _ hS' hk'
          | _ => exact hr₂.elim
    | _ => exact hr.elim
end
end Mine
end secMSetS
section secMSetC
namespace Mine
section setfacts
theorem slot_md_get : Slot "method_descriptor" "__get__" "method_descriptor.__get__" :=
  .of (owner := "method_descriptor") (n := "__get__") (by rw [typeLookup_type, builtinLookup_eq_fast]; kernel_rfl) (by decide +kernel) (by decide +kernel) (by decide +kernel)
    (by first | exact .inl (by decide +kernel) | exact .inr (by decide +kernel)) (by rw [isSubtype_type]; kernel_rfl)
theorem md_no_set : typeLookup (.type "method_descriptor") "__set__" = pure none := by rw [typeLookup_type, builtinLookup_eq_fast]; kernel_rfl
theorem md_no_del : typeLookup (.type "method_descriptor") "__delete__" = pure none := by rw [typeLookup_type, builtinLookup_eq_fast]; kernel_rfl
theorem entry_md_get : entryFor table "method_descriptor.__get__" = some Builtin.«method_descriptor.__get__» := entryFor_of_tree (by kernel_rfl)
theorem args_md_get (a b c : Value) : argsOk "method_descriptor.__get__" ⟨[a, b, c], []⟩ := by unfold argsOk; kernel_rfl
theorem typeOf_set_in : typeOf (.builtin "set.__contains__") = pure (.type "method_descriptor") := by show builtinType _ = _; rw [builtinType_eq_fast]; kernel_rfl
theorem lk_set_in : typeLookup (.type "set") "__contains__" = pure (some (.builtin "set.__contains__")) := by rw [typeLookup_type, builtinLookup_eq_fast]; kernel_rfl
theorem owner_set_in : (".".intercalate ("set.__contains__".cutAt '.').dropLast) = "set" := by
  have e0 : "set.__contains__".cutAt '.' = ["set", "__contains__"] := by first | rfl | decide +kernel
  rw [e0]; decide +kernel
theorem sub_set_set : isSubtype (.type "set") (.type "set") = pure true := by rw [isSubtype_type]; kernel_rfl
theorem sub_set_owner : isSubtype (.type "set") (.type (".".intercalate ("set.__contains__".cutAt '.').dropLast)) = pure true := by
  rw [owner_set_in]; exact sub_set_set
theorem told_set_in : Manifest.toldItsClass.contains "set.__contains__" = false := by decide +kernel
end setfacts
noncomputable abbrev boundIn (a : Addr) : Obj := { cls := .type "builtin_function_or_method", data := .fields #[.builtin "set.__contains__", .ref a] }
section
variable {prog : Program} {w : World} {A : Around} {E : Value → Shared → Prop} {h : Heap} {g : Array GenState} {d : Drawn} {t : Nat} {os : OsState} {a : Addr} {o : Obj}
theorem in_get {R : Result → Shared → Prop} (hx : h.get? a = some o) (hc : o.cls = .type "set") (hq : R (.ok (.ret (.ref h.objs.size))) ⟨h.push (boundIn a), g, d, t, os⟩) :
    codeAny (model prog w) A (.call (.builtin "method_descriptor.__get__") ⟨[.builtin "set.__contains__", .ref a, .type "set"], []⟩) R ⟨h, g, d, t, os⟩ := by
  have hT : (⟨h, g, d, t, os⟩ : Shared).TypeIs (.ref a) "set" := ⟨_, hx, hc⟩
  have hT5 : (⟨h, g, d, t, os⟩ : Shared).TypeIs (.builtin "set.__contains__") "method_descriptor" := typeOf_set_in
  have f8 := sub_set_owner
  have f9 := told_set_in
  refine codeAny_call_builtin slot_md_get.plain entry_md_get (slot_md_get.check _ _ _ _ _ _ _ _ hT5 (args_md_get _ _ _) ?_)
  repeat (any_goals (first | assumption | wp_step))
theorem in_entry {tk : Tok} {Q : Fin → Shared → Prop} {es : Array (Int × Value)} {ep : Nat} {tb : SetTable} (hx : h.get? a = some { cls := .type "set", dict := none, data := .set es ep tb, slots := #[] }) (hq : Q (.done (.ret (.ref h.objs.size))) ⟨h.push (boundIn a), g, d, t, os⟩) :
    wpAny (model prog w) A (Builtin.«object.__getattribute__» ⟨[.ref a, .str "__contains__" tk], []⟩) Q E ⟨h, g, d, t, os⟩ := by
  have hT : (⟨h, g, d, t, os⟩ : Shared).TypeIs (.ref a) "set" := ⟨_, hx, rfl⟩
  have hT5 : (⟨h, g, d, t, os⟩ : Shared).TypeIs (.builtin "set.__contains__") "method_descriptor" := typeOf_set_in
  have f4 := lk_set_in
  have f5 := typeOf_set_in
  have f6 := slot_md_get.lookup
  have f7 := md_no_set
  have f8 := md_no_del
  repeat (any_goals (first | assumption | wp_step))
  refine in_get hx rfl ?_
  exact wpAny_pure hq
theorem in_call {tk : Tok} {R : Result → Shared → Prop} {es : Array (Int × Value)} {ep : Nat} {tb : SetTable} (hx : h.get? a = some { cls := .type "set", dict := none, data := .set es ep tb, slots := #[] }) (hq : R (.ok (.ret (.ref h.objs.size))) ⟨h.push (boundIn a), g, d, t, os⟩) :
    codeAny (model prog w) A (.call (.builtin "set.__getattribute__") ⟨[.ref a, .str "__contains__" tk], []⟩) R ⟨h, g, d, t, os⟩ :=
  codeAny_call_builtin PySem.F.slot_set_getattribute.plain PySem.F.entry_set_ga (PySem.F.slot_set_getattribute.check _ _ _ _ _ _ _ _ (show (⟨h, g, d, t, os⟩ : Shared).TypeIs (.ref a) "set" from ⟨_, hx, rfl⟩) (PySem.F.args_set_getattribute_2 _ _) (in_entry hx hq))
theorem in_attr {Q : Value → Shared → Prop} {ex : Bool} {es : Array (Int × Value)} {ep : Nat} {tb : SetTable} (hx : h.get? a = some { cls := .type "set", dict := none, data := .set es ep tb, slots := #[] }) (hq : Q (.ref h.objs.size) ⟨h.push (boundIn a), g, d, t + 1, os⟩) :
    wpAny (model prog w) A (getAttr (.ref a) "__contains__" ex) Q E ⟨h, g, d, t, os⟩ := by
  have hT : ∀ k, (⟨h, g, d, k, os⟩ : Shared).TypeIs (.ref a) "set" := fun k => ⟨_, hx, rfl⟩
  have hT1 := hT t
  have hT2 := hT (t + 1)
  have f2 := PySem.F.slot_set_getattribute.lookup
  have f3 := PySem.F.slot_set_getattribute.bind (.ref a)
  have f4 : onTheHeap (.type "set") = false := rfl
  unfold getAttr getAttrBy
  repeat (any_goals (first | assumption | wp_step))
  rw [if_neg (by cases ex <;> decide)]
  repeat (any_goals (first | assumption | wp_step))
  refine in_call hx ?_
  repeat (any_goals (first | assumption | wp_step))
end
section
variable {prog : Program} {w : World} {A : Around} {E : Value → Shared → Prop} {s : Shared} {a b : Addr}
theorem sig_in : Manifest.signature? "set.__contains__" = some ⟨.oneArg, "set.__contains__", "__contains__", .self, [⟨"object", .posOnly, true⟩]⟩ := by
  rw [signature?_of (id := "set.__contains__") (n := ['_', '_', 's', 'n', 'i', 'a', 't', 'n', 'o', 'c', '_', '_']) (o := ['t', 'e', 's']) (by kernel_rfl) PySem.F.owner_set]; kernel_rfl
theorem kind_in : builtinKind "set.__contains__" = some .method := by decide +kernel
theorem var_in : Manifest.varargsMethods.contains "set.__contains__" = false := by decide +kernel
theorem sub_set_module : isSubtype (.type "set") (.type "module") = pure false := by rw [isSubtype_type]; kernel_rfl
theorem check_in {h : Heap} {g : Array GenState} {d : Drawn} {t : Nat} {os : OsState} {es : Array (Int × Value)} {ep : Nat} {tb : SetTable} {v : Value} {Q : Unit → Shared → Prop} (hx : h.get? a = some { cls := .type "set", dict := none, data := .set es ep tb, slots := #[] }) (hq : Q () ⟨h, g, d, t, os⟩) :
    wpAny (model prog w) A (checkBoundCall "set.__contains__" ⟨[.ref a, v], []⟩) Q E ⟨h, g, d, t, os⟩ := by
  have hT : (⟨h, g, d, t, os⟩ : Shared).TypeIs (.ref a) "set" := ⟨_, hx, rfl⟩
  have f1 := sub_set_module
  have f2 := PySem.F.called_set.notType
  unfold checkBoundCall
  rw [sig_in, kind_in]
  dsimp only
  rw [if_neg (by decide)]
  refine wpAny_bind (wpAny_isInstance hT f1 ?_)
  rw [var_in, if_neg (by decide)]
  repeat (any_goals (first | assumption | wp_step))
end
end Mine
end secMSetC
section secMSetD
namespace Mine
section
variable {prog : Program} {w : World} {A : Around} {E : Value → Shared → Prop} {s : Shared} {a b : Addr}
theorem quiet_in (x : Args) : (Code.builtin "set.__contains__" x).quiet = true := Code.quiet_builtin _ (by decide +kernel)
theorem call_in {S : Str → Bool} {n : Nat} {x : Str} {tx : Tok} {Q : Value → Shared → Prop} (hb : s.heap.get? b = some (boundIn a)) (hS : s.heap.SetOf (strKind prog w) a S n)
    (h : Q (.bool (S x)) { s with toks := s.toks + 1 }) : wpAny (model prog w) A (call (.ref b) [.str x tx]) Q E s := by
  obtain ⟨⟨c, dct, dt, sl⟩, es, ep, tb, ho, ⟨h1, h2, h3⟩, hd, hrest⟩ := id hS
  replace h1 : c = .type "set" := h1
  replace h2 : dct = none := h2
  replace h3 : sl = #[] := h3
  replace hd : dt = .set es ep tb := hd
  subst h1 h2 h3 hd
  refine wpAny_call (codeAny_of_tree ?_)
  show wpAny _ _ (callAny (.ref b) _) _ _ _
  unfold callAny
  refine wpAny_bind (wpAny_load hb ?_)
  dsimp only
  rw [if_pos (by decide)]
  show wpAny _ _ (checkBoundCall "set.__contains__" ⟨[.ref a, .str x tx], []⟩ >>= fun _ => again (Code.builtin "set.__contains__" ⟨[.ref a, .str x tx], []⟩)) _ _ _
  obtain ⟨hp, g, d, tk, os⟩ := s
  refine wpAny_bind (check_in ho ?_)
  refine wpAny_pure ⟨quiet_in _, codeAny_builtin entry_set_contains ?_⟩
  unfold Builtin.«frozenset.__contains__» Builtin.Frozenset.oneOther
  simp only [List.isEmpty_nil, bind_assoc]
  unfold Builtin.Frozenset.addrOf Builtin.Frozenset.withSetAsKey setContains
  refine wpAny_bind (wpAny_pure ?_)
  try dsimp only
  refine wpAny_bind (wpAny_pure ?_)
  try dsimp only
  refine wpAny_bind (wpAny_tryCatch ?_)
  refine wpAny_holding ?_
  refine wpAny_bind ((strKind prog w).pyHash (strKind_is _ _ _ _) ?_)
  refine wpAny_bind (wpAny_setFind_of (s := ⟨hp, g, d, tk + 1, os⟩) (knd := strKind prog w) (strKind_is _ _ _ _) rfl hS fun r hr => ?_)
  refine wpAny_pure ?_
  show wpAny _ _ (ret (Value.bool r.isSome)) _ _ _
  rw [hr]
  exact wpAny_pure h
end
end Mine
namespace Mine
theorem attr_in {prog : Program} {w : World} {A : Around} {E : Value → Shared → Prop} {s : Shared} {a : Addr} {S : Str → Bool} {n : Nat} {ex : Bool} {Q : Value → Shared → Prop} (hS : s.heap.SetOf (strKind prog w) a S n)
    (h : ∀ h' tk, h'.get? s.heap.objs.size = some (boundIn a) → Ext s.heap h' → Q (.ref s.heap.objs.size) { s with heap := h', toks := tk }) : wpAny (model prog w) A (getAttr (.ref a) "__contains__" ex) Q E s := by
  obtain ⟨⟨c, dct, dt, sl⟩, es, ep, tb, ho, ⟨h1, h2, h3⟩, hd, hrest⟩ := id hS
  replace h1 : c = .type "set" := h1
  replace h2 : dct = none := h2
  replace h3 : sl = #[] := h3
  replace hd : dt = .set es ep tb := hd
  subst h1 h2 h3 hd
  obtain ⟨hp, g, d, tk, os⟩ := s
  exact in_attr ho (h _ _ (Heap.get?_push_size _ rfl) fun b o e => Heap.get?_push_of_some _ e)
theorem SetOf.ext {prog : Program} {w : World} {h h' : Heap} {a : Addr} {S : Str → Bool} {n : Nat} (hS : h.SetOf (strKind prog w) a S n) (e : Ext h h') : h'.SetOf (strKind prog w) a S n := by
  obtain ⟨o, es, ep, t, ho, rest⟩ := hS
  exact ⟨o, es, ep, t, e _ _ ho, rest⟩
end Mine
end secMSetD
section secMFilt
namespace Mine
section filtfacts
theorem slot_filter_init : Slot "filter" "__init__" "object.__init__" :=
  .of (owner := "object") (n := "__init__") (by rw [typeLookup_type, builtinLookup_eq_fast]; kernel_rfl) (by decide +kernel) (by decide +kernel) (by decide +kernel)
    (by first | exact .inl (by decide +kernel) | exact .inr (by decide +kernel)) (by rw [isSubtype_type]; kernel_rfl)
theorem slot_filter_iter : Slot "filter" "__iter__" "filter.__iter__" :=
  .of (owner := "filter") (n := "__iter__") (by rw [typeLookup_type, builtinLookup_eq_fast]; kernel_rfl) (by decide +kernel) (by decide +kernel) (by decide +kernel)
    (by first | exact .inl (by decide +kernel) | exact .inr (by decide +kernel)) (by rw [isSubtype_type]; kernel_rfl)
theorem slot_filter_next : Slot "filter" "__next__" "filter.__next__" :=
  .of (owner := "filter") (n := "__next__") (by rw [typeLookup_type, builtinLookup_eq_fast]; kernel_rfl) (by decide +kernel) (by decide +kernel) (by decide +kernel)
    (by first | exact .inl (by decide +kernel) | exact .inr (by decide +kernel)) (by rw [isSubtype_type]; kernel_rfl)
theorem entry_filter_next : entryFor table "filter.__next__" = some Builtin.«filter.__next__» := entryFor_of_tree (by kernel_rfl)
theorem entry_filter_new : entryFor table "filter.__new__" = some Builtin.«filter.__new__» := entryFor_of_tree (by kernel_rfl)
theorem entry_filter_iter : entryFor table "filter.__iter__" = some Builtin.«dict_keyiterator.__iter__» :=
  entryFor_alias (id' := "dict_keyiterator.__iter__") (by kernel_rfl) (by first | rfl | decide +kernel | (unfold String.splitOn; simp +decide [String.splitOnAux])) (by decide +kernel) (by kernel_rfl)
theorem args_filter_next (a : Value) : argsOk "filter.__next__" ⟨[a], []⟩ := by unfold argsOk; kernel_rfl
theorem args_filter_iter (a : Value) : argsOk "filter.__iter__" ⟨[a], []⟩ := by unfold argsOk; kernel_rfl
theorem mro_filter : mroOf (.type "filter") = pure [.type "filter", .type "object"] := by rw [mroOf_type]; kernel_rfl
theorem lookup_filter_new : typeLookup (.type "filter") "__new__" = pure (some (.builtin "filter.__new__")) := by rw [typeLookup_type, builtinLookup_eq_fast]; kernel_rfl
theorem called_filter : TypeCalled "filter" "filter.__new__" "object.__init__" :=
  ⟨by decide +kernel, by decide +kernel, ⟨_, _, mro_filter⟩, madeBy_type mro_filter lookup_filter_new (by decide +kernel), by decide +kernel, by rw [isSubtype_type]; kernel_rfl, slot_filter_init⟩
theorem typeCall_filter_2 (a b : Value) : checkTypeCall "filter" ⟨[a, b], []⟩ = pure () := by kernel_rfl
theorem newCall_filter_2 (a b : Value) : checkBuiltinCall "filter.__new__" ⟨[.type "filter", a, b], []⟩ = pure () := by kernel_rfl
theorem sub_filter : isSubtype (.type "filter") (.type "filter") = pure true := by rw [isSubtype_type]; kernel_rfl
theorem filter_no_len : typeLookup (.type "filter") "__len__" = pure none := by rw [typeLookup_type, builtinLookup_eq_fast]; kernel_rfl
theorem filter_no_hint : typeLookup (.type "filter") "__length_hint__" = pure none := by rw [typeLookup_type, builtinLookup_eq_fast]; kernel_rfl
theorem plain_filter_next : plainId "filter.__next__" = true := by decide +kernel
end filtfacts
noncomputable abbrev filtObj (f : Value) (it : Addr) : Obj := { cls := .type "filter", data := .fields #[f, .ref it] }
theorem meets_filter_new (f : Value) (l : Addr) (items : Array Value) (n : Nat) (dct : Option Addr) (sl : Array (Option Value)) :
    Meets (Builtin.«filter.__new__» ⟨[.type "filter", f, .ref l], []⟩) (fun _ R s => s.heap.get? l = some { cls := .type "list", dict := dct, data := .seq items n, slots := sl } ∧
      R (.ok (.ret (.ref (s.heap.push { cls := .type "list_iterator", data := .fields #[.ref l, .int 0 0] }).objs.size)))
        { s with heap := (s.heap.push { cls := .type "list_iterator", data := .fields #[.ref l, .int 0 0] }).push (filtObj f s.heap.objs.size) }) :=
  .of_wp fun prog w A R s h => by
    obtain ⟨hp, g, d, tk, os⟩ := s; obtain ⟨hl, h⟩ := h
    have hsub := sub_filter
    have hL : Heap.IsList (Shared.heap ⟨hp, g, d, tk, os⟩) l items := ⟨_, hl, rfl, n, rfl⟩
    unfold Builtin.«filter.__new__»
    refine wpAny_bind ?_
    wp_walk using wpAny_pyIter_list hL
    exact ⟨_, rfl, h⟩
theorem call_filter {prog : Program} {w : World} {A : Around} {E : Value → Shared → Prop} {s : Shared} {f : Value} {l : Addr} {items : Array Value} {Q : Value → Shared → Prop} (hL : s.heap.IsList l items)
    (h : ∀ h', h'.get? (s.heap.objs.size + 1) = some (filtObj f s.heap.objs.size) → h'.IsListIter s.heap.objs.size l 0 → h'.objs.size = s.heap.objs.size + 2 →
      Ext s.heap h' → Q (.ref (s.heap.objs.size + 1)) { s with heap := h' }) :
    wpAny (model prog w) A (call (.type "filter") [f, .ref l]) Q E s := by
  obtain ⟨⟨c, dct, dt, sl⟩, hl, hc, n, hd⟩ := hL
  replace hc : c = .type "list" := hc
  replace hd : dt = .seq items n := hd
  subst hc hd
  refine callType_new called_filter (by decide) (typeCall_filter_2 _ _) (newCall_filter_2 _ _) (fun obj => F.args_object_init_3 obj _ _) entry_filter_new
    (meets_filter_new f l items n dct sl) ⟨hl, ?_⟩
  have hz : (s.heap.push { cls := .type "list_iterator", data := .fields #[.ref l, .int 0 0] }).objs.size = s.heap.objs.size + 1 := Heap.size_push ..
  show _ ∧ _
  rw [hz]
  have h1 := Heap.get?_push_size (s.heap.push { cls := .type "list_iterator", data := .fields #[.ref l, .int 0 0] }) (o := filtObj f s.heap.objs.size) rfl
  rw [hz] at h1
  refine ⟨⟨_, h1, rfl⟩, h _ h1 ⟨_, Heap.get?_push_of_some _ (Heap.get?_push_size _ rfl), rfl, rfl⟩ (by rw [Heap.size_push, hz]) fun b o e => Heap.get?_push_of_some _ (Heap.get?_push_of_some _ e)⟩
end Mine
end secMFilt
section secMFilt2
namespace Mine
section
variable {prog : Program} {w : World} {A : Around} {E : Value → Shared → Prop} {s : Shared}
theorem sp_item {it l : Addr} {i : Nat} {items : Array Value} {x : Value} {Q : Option Value → Shared → Prop} (hit : s.heap.IsListIter it l i)
    (hl : s.heap.IsList l items) (hx : items[i]? = some x) (hQ : ∀ h', h'.IsListIter it l (i + 1) → Heap.SameBut it s.heap h' → Q (some x) { s with heap := h' }) :
    wpAny (model prog w) A (callSpecial? (.ref it) (Str.ofString "__next__")) Q E s := by
  obtain ⟨o, ho, hc, hd⟩ := id hit
  obtain ⟨ol, hol, _, nl, hdl⟩ := hl
  refine wpAny_callSpecial?_slot (name := Str.ofString "__next__") hit.typeIs slot_listiter_next
    (wpAny_call_entry slot_listiter_next hit.typeIs entry_listiter_next ?_ (args_listiter_next _))
  show wpAny _ _ (field (.ref it) 0 >>= _) _ _ s
  refine wpAny_bind (wpAny_field ho hd (x := .ref l) rfl ?_)
  show wpAny _ _ (if (Value.ref l == Value.none) = true then _ else _) _ _ s
  rw [if_neg (show ¬ ((Value.ref l == Value.none) = true) from Bool.false_ne_true)]
  show wpAny _ _ (field (.ref it) 1 >>= _) _ _ s
  refine wpAny_bind (wpAny_field ho hd (x := .int i 0) rfl ?_)
  show wpAny _ _ (seqItems? (.ref l) >>= _) _ _ s
  refine wpAny_bind (wpAny_seqItems hol hdl ?_)
  simp only [Int.toNat_natCast, hx]
  refine wpAny_bind (wpAny_setField ho hd (by simp) (wpAny_pure ⟨x, rfl, hQ _ ?_ (Heap.SameBut.update ..)⟩))
  exact ⟨_, Heap.get?_update_self _ ho (Obj.isFreed_of_fields (Obj.data_mapFields hd _)), (Obj.cls_mapFields ..).trans hc, by
    rw [Obj.data_mapFields hd]; simp [rawInt]⟩
theorem sp_end {it l : Addr} {i : Nat} {items : Array Value} {Q : Option Value → Shared → Prop} (hh : A.handled = none)
    (hit : s.heap.IsListIter it l i) (hl : s.heap.IsList l items) (hx : items[i]? = none)
    (hE : ∀ h' e, Heap.ExtBut it s.heap h' → (∃ o, h'.get? e = some o ∧ o.cls = .type "StopIteration") → E (.ref e) { s with heap := h' }) :
    wpAny (model prog w) A (callSpecial? (.ref it) (Str.ofString "__next__")) Q E s := by
  obtain ⟨o, ho, hc, hd⟩ := id hit
  obtain ⟨ol, hol, _, nl, hdl⟩ := hl
  refine wpAny_callSpecial?_slot (name := Str.ofString "__next__") hit.typeIs slot_listiter_next
    (wpAny_call_entry slot_listiter_next hit.typeIs entry_listiter_next ?_ (args_listiter_next _))
  show wpAny _ _ (field (.ref it) 0 >>= _) _ _ s
  refine wpAny_bind (wpAny_field ho hd (x := .ref l) rfl ?_)
  show wpAny _ _ (if (Value.ref l == Value.none) = true then _ else _) _ _ s
  rw [if_neg (show ¬ ((Value.ref l == Value.none) = true) from Bool.false_ne_true)]
  show wpAny _ _ (field (.ref it) 1 >>= _) _ _ s
  refine wpAny_bind (wpAny_field ho hd (x := .int i 0) rfl ?_)
  show wpAny _ _ (seqItems? (.ref l) >>= _) _ _ s
  refine wpAny_bind (wpAny_seqItems hol hdl ?_)
  simp only [Int.toNat_natCast, hx]
  refine wpAny_bind (wpAny_rule (wpAny_bind (wpAny_setField ho hd (by simp) ?_)))
  show wpAny _ _ (newExc (.type "StopIteration") [] >>= _) _ _ _
  refine wpAny_bind ?_
  simp only [newExc, newTuple]
  refine wpAny_bind (wpAny_newObj_type ?_ (by size_fits))
  refine wpAny_bind (m := firstArgMember _ _) (wpAny_of_eq (a := Value.none) (by first | rfl | (simp only [firstArgMember]; rfl)) ?_)
  refine wpAny_newObj_type ?_ (by size_fits)
  simp only [raiseNew]
  refine wpAny_bind (wpAny_handled ?_)
  first | rw [show A.in1.handled = none from hh] | rw [hh]
  refine wpAny_bind (wpAny_pure (wpAny_throw ?_))
  exact hE _ _ (((Heap.SameBut.update ..).extBut.push _).push _) ⟨_, Heap.get?_push_size _ rfl, rfl⟩
end
/-- what filter's next does from place j on -/
theorem filt_code {prog : Program} {w : World} {A : Around} (hh : A.handled = none) {h₀ : Heap} {I it l fb : Addr} {items : Array Value} {keep : Value → Bool}
    (hI : h₀.get? I = some (filtObj (.ref fb) it)) (hl : h₀.IsList l items) (n1 : I ≠ it) (n3 : l ≠ it)
    (hf : ∀ (i : Nat) x (s : Shared) (Q E : Value → Shared → Prop), items[i]? = some x → OffIt it h₀ s.heap → (∀ h' tk, Ext s.heap h' → Q (.bool (keep x)) { s with heap := h', toks := tk }) → wpAny (model prog w) A.in1 (call (.ref fb) [x]) Q E s) :
    ∀ (k j : Nat) (s : Shared) (R : Result → Shared → Prop), items.size - j = k → OffIt it h₀ s.heap → s.heap.IsListIter it l j →
      (∀ j' v h' tk, j ≤ j' → items[j']? = some v → keep v = true → (∀ q x, j ≤ q → q < j' → items[q]? = some x → keep x = false) → OffIt it h₀ h' → h'.IsListIter it l (j' + 1) → OffIt it s.heap h' → R (.ok (.ret v)) { s with heap := h', toks := tk }) →
      (∀ h' e tk, (∀ q x, j ≤ q → items[q]? = some x → keep x = false) → OffIt it s.heap h' → (∃ o, h'.get? e = some o ∧ o.cls = .type "StopIteration") → R (.error (.ref e)) { s with heap := h', toks := tk }) →
      codeAny (model prog w) A (.builtin "filter.__next__" ⟨[.ref I], []⟩) R s := by
  intro k
  induction k with
  | zero =>
    intro j s R hk ho hit hfound hend
    have hIs := ho I _ n1 hI
    have hls : s.heap.IsList l items := hl.at fun o e => ho l o n3 e
    refine codeAny_builtin entry_filter_next ?_
    rw [Around.under_plainId plain_filter_next _]
    show wpAny _ _ (field (.ref I) 0 >>= _) _ _ _
    refine wpAny_bind (wpAny_field hIs rfl (x := .ref fb) rfl ?_)
    refine wpAny_bind (wpAny_field hIs rfl (x := .ref it) rfl ?_)
    refine wpAny_bind (sp_end (A := A.in1) hh hit hls (by simp; omega) fun h' e he hx => ?_)
    exact hend h' e s.toks (fun q x hq hx => by have := (Array.getElem?_eq_some_iff.mp hx).1; omega) (fun b o hb e => he b o hb e) hx
  | succ k ih =>
    intro j s R hk ho hit hfound hend
    have hIs := ho I _ n1 hI
    have hls : s.heap.IsList l items := hl.at fun o e => ho l o n3 e
    have hj : j < items.size := by omega
    have hx : items[j]? = some items[j] := by simp [hj]
    refine codeAny_builtin entry_filter_next ?_
    rw [Around.under_plainId plain_filter_next _]
    show wpAny _ _ (field (.ref I) 0 >>= _) _ _ _
    refine wpAny_bind (wpAny_field hIs rfl (x := .ref fb) rfl ?_)
    refine wpAny_bind (wpAny_field hIs rfl (x := .ref it) rfl ?_)
    refine wpAny_bind (sp_item hit hls hx fun h₁ hit₁ hs₁ => ?_)
    dsimp only
    have ho₁ : OffIt it h₀ h₁ := fun b o hb e => hs₁.extBut b o hb (ho b o hb e)
    refine wpAny_bind (wpAny_holding ?_)
    rw [if_neg (by simp [BEq.beq])]
    refine wpAny_bind (hf j _ _ _ _ hx ho₁ fun h₂ tk₂ he₂ => ?_)
    refine wpAny_holding (wpAny_truthy_bool ?_)
    have hk2 : OffIt it s.heap h₂ := fun b o hb e => he₂ b o (hs₁.extBut b o hb e)
    have hit₂ : h₂.IsListIter it l (j + 1) := hit₁.at fun o e => he₂ it o e
    have ho₂ : OffIt it h₀ h₂ := fun b o hb e => he₂ b o (ho₁ b o hb e)
    cases hkp : keep items[j] with
    | true =>
      rw [if_pos rfl]
      exact wpAny_pure (hfound j _ h₂ tk₂ (Nat.le_refl _) hx hkp (fun q x h1 h2 => by omega) ho₂ hit₂ hk2)
    | false =>
      rw [if_neg (by decide)]
      refine wpAny_pure ⟨plainId_quiet plain_filter_next _, ih (j + 1) _ R (by omega) ho₂ hit₂ ?_ ?_⟩
      · intro j' v h' tk h1 h2 h3 h4 h5 h6 h7
        refine hfound j' v h' tk (by omega) h2 h3 (fun q x q1 q2 q3 => ?_) h5 h6 (fun b o hb e => h7 b o hb (hk2 b o hb e))
        by_cases hq : q = j
        · subst hq; rw [hx] at q3; cases q3; exact hkp
        · exact h4 q x (by omega) q2 q3
      · intro h' e tk h1 h2 h3
        refine hend h' e tk (fun q x q1 q3 => ?_) (fun b o hb e => h2 b o hb (hk2 b o hb e)) h3
        by_cases hq : q = j
        · subst hq; rw [hx] at q3; cases q3; exact hkp
        · exact h1 q x (by omega) q3
end Mine
end secMFilt2
section secMFilt3
namespace Mine
theorem filt_none {α : Type} {p : α → Bool} {xs : List α} {j j' : Nat} (h : j ≤ j') (hn : ∀ q x, j ≤ q → q < j' → xs[q]? = some x → p x = false) : (xs.take j').filter p = (xs.take j).filter p := by
  have e : xs.take j' = xs.take j ++ (xs.take j').drop j := by
    conv => lhs; rw [← List.take_append_drop j (xs.take j')]
    rw [List.take_take, Nat.min_eq_left h]
  rw [e, List.filter_append]
  have : ((xs.take j').drop j).filter p = [] := by
    rw [List.filter_eq_nil_iff]
    intro x hx
    obtain ⟨q, hq⟩ := List.getElem?_of_mem hx
    rw [List.getElem?_drop, List.getElem?_take] at hq
    by_cases h2 : j + q < j'
    · rw [if_pos h2] at hq
      rw [hn (j + q) x (by omega) h2 hq]; decide
    · rw [if_neg h2] at hq; cases hq
  rw [this, List.append_nil]
theorem filt_step {α : Type} {p : α → Bool} {xs : List α} {j j' : Nat} {v : α} (h : j ≤ j') (hv : xs[j']? = some v) (hp : p v = true) (hn : ∀ q x, j ≤ q → q < j' → xs[q]? = some x → p x = false) :
    (xs.take (j' + 1)).filter p = (xs.take j).filter p ++ [v] := by
  rw [List.take_add_one, hv, List.filter_append, filt_none h hn]
  simp [hp]
theorem filt_pre {α : Type} {p : α → Bool} (xs : List α) (j : Nat) : xs.filter p = (xs.take j).filter p ++ (xs.drop j).filter p := by
  rw [← List.filter_append, List.take_append_drop]
theorem walks_filter {prog : Program} {w : World} {A : Around} (hh : A.handled = none) {h₀ : Heap} {I it l fb : Addr} {vs : List Value} {keep : Value → Bool}
    (hI : h₀.get? I = some (filtObj (.ref fb) it)) (hl : h₀.IsList l vs.toArray) (hit : it < h₀.objs.size) (n1 : I ≠ it) (n3 : l ≠ it)
    (hf : ∀ (i : Nat) x (s : Shared) (Q E : Value → Shared → Prop), vs[i]? = some x → OffIt it h₀ s.heap → (∀ h' tk, Ext s.heap h' → Q (.bool (keep x)) { s with heap := h', toks := tk }) → wpAny (model prog w) A.in1 (call (.ref fb) [x]) Q E s) :
    Walks prog w A I (List.range h₀.objs.size) [it] (vs.filter keep).length (fun i v => (vs.filter keep)[i]? = some v) (fun i h => OffIt it h₀ h ∧ ∃ j, h.IsListIter it l j ∧ ((vs.take j).filter keep).length = i) where
  sub := fun b hb => by rw [List.mem_singleton.mp hb]; exact List.mem_range.mpr hit
  frame := fun i h h' st hk => ⟨fun b o hb e => hk b (List.mem_range.mpr (Heap.lt_size e)) o (st.1 b o hb e), st.2.choose, st.2.choose_spec.1.at fun o e => hk it (List.mem_range.mpr hit) o e, st.2.choose_spec.2⟩
  item := fun i s Q E hi st hQ => by
    obtain ⟨ho, j, hij, hlen⟩ := st
    have hIs := ho I _ n1 hI
    have hT : s.TypeIs (.ref I) "filter" := ⟨_, hIs, rfl⟩
    unfold pyNext
    refine wpAny_bind (wpAny_attempt (wpAny_callSpecial?_slot (name := Str.ofString "__next__") hT slot_filter_next (wpAny_call ?_)))
    refine codeAny_call_builtin_code (plainId_quiet plain_filter_next _) (slot_filter_next.check _ _ _ _ _ _ _ _ hT (args_filter_next _) ?_)
    refine filt_code hh hI hl n1 n3 (fun i x s Q E hx => hf i x s Q E (by rw [List.getElem?_toArray] at hx; exact hx)) _ j s _ rfl ho hij ?_ ?_
    · intro j' v h' tk h1 h2 h3 h4 h5 h6 h7
      simp only [List.getElem?_toArray] at h2 h4
      have hs := filt_step h1 h2 h3 h4
      refine wpAny_pure (hQ v h' tk ?_ ⟨h5, j' + 1, h6, ?_⟩ fun b o hb e => h7 b o (fun e' => hb (List.mem_singleton.mpr e')) e)
      · rw [filt_pre vs (j' + 1), hs, ← hlen]; simp
      · rw [hs, List.length_append, hlen]; rfl
    · intro h' e tk h1 _ _
      exfalso
      have := filt_none (xs := vs) (p := keep) (j := j) (j' := max j vs.length) (by omega) (fun q x q1 _ q3 => h1 q x q1 (by rw [List.getElem?_toArray]; exact q3))
      rw [List.take_of_length_le (by omega)] at this
      rw [this, hlen] at hi
      omega
  done := fun s Q E st hQ => by
    obtain ⟨ho, j, hij, hlen⟩ := st
    have hIs := ho I _ n1 hI
    have hT : s.TypeIs (.ref I) "filter" := ⟨_, hIs, rfl⟩
    unfold pyNext
    refine wpAny_bind (wpAny_attempt (wpAny_callSpecial?_slot (name := Str.ofString "__next__") hT slot_filter_next (wpAny_call ?_)))
    refine codeAny_call_builtin_code (plainId_quiet plain_filter_next _) (slot_filter_next.check _ _ _ _ _ _ _ _ hT (args_filter_next _) ?_)
    refine filt_code hh hI hl n1 n3 (fun i x s Q E hx => hf i x s Q E (by rw [List.getElem?_toArray] at hx; exact hx)) _ j s _ rfl ho hij ?_ ?_
    · intro j' v h' tk h1 h2 h3 h4 _ _ _
      exfalso
      simp only [List.getElem?_toArray] at h2 h4
      have hs := congrArg List.length (filt_pre (p := keep) vs (j' + 1))
      rw [filt_step h1 h2 h3 h4, List.length_append, List.length_append, hlen] at hs
      simp at hs
      omega
    · intro h' e tk h1 h2 ⟨o, ho, hc⟩
      show wpAny _ _ _ _ _ _
      refine wpAny_bind (wpAny_isInstance (T := "StopIteration") (b := true) ⟨o, ho, hc⟩ isSubtype_stop ?_)
      exact wpAny_pure (hQ h' tk fun b o hb e => h2 b o (fun e' => hb (List.mem_singleton.mpr e')) e)
  self := fun i s Q E st hQ => by
    have hIs := st.1 I _ n1 hI
    have hT : s.TypeIs (.ref I) "filter" := ⟨_, hIs, rfl⟩
    refine wpAny_pyIter_slot hT slot_filter_iter (wpAny_call_entry slot_filter_iter hT entry_filter_iter ?_ (args_filter_iter _))
    show wpAny _ _ (ret (.ref I)) _ _ s
    exact wpAny_pure ⟨_, rfl, "filter", _, hT, slot_filter_next.lookup, hQ⟩
end Mine
namespace Mine
theorem itemsOf_list {xs : List Value} {acc : Array Value} (h : ItemsOf (fun i v => xs[i]? = some v) acc xs.length) : acc = xs.toArray := by
  apply Array.ext'
  apply List.ext_getElem?
  intro i
  rw [Array.getElem?_toList]
  by_cases hi : i < acc.size
  · have e : acc[i]? = some acc[i] := by simp [hi]
    rw [e]
    exact (h.2 i _ e).symm
  · have h2 := h.1
    rw [Array.getElem?_eq_none (by omega), List.getElem?_eq_none (by simp; omega)]
theorem call_list_filter {prog : Program} {w : World} {A : Around} {E : Value → Shared → Prop} {s : Shared} {h₁ : Heap} {l fb : Addr} {vs : List Value} {keep : Value → Bool} {Q : Value → Shared → Prop}
    (hh : A.handled = none) (e1 : Ext h₁ s.heap) (hz : s.heap.objs.size = h₁.objs.size + 2) (hM : s.heap.get? (h₁.objs.size + 1) = some (filtObj (.ref fb) h₁.objs.size))
    (hIt : s.heap.IsListIter h₁.objs.size l 0) (hl : h₁.IsList l vs.toArray) (hn : vs.length ≤ 1000)
    (hf : ∀ (i : Nat) x (s' : Shared) (Q E : Value → Shared → Prop), vs[i]? = some x → Ext h₁ s'.heap → (∀ h' tk, Ext s'.heap h' → Q (.bool (keep x)) { s' with heap := h', toks := tk }) → wpAny (model prog w) A.in1.in1.in1 (call (.ref fb) [x]) Q E s')
    (hQ : ∀ h' tk c, Ext h₁ h' → h₁.get? s.heap.objs.size = none → h'.get? s.heap.objs.size = some (W.listOf (vs.filter keep).toArray c) → Q (.ref s.heap.objs.size) { s with heap := h', toks := tk }) :
    wpAny (model prog w) A (call (.type "list") [.ref (h₁.objs.size + 1)]) Q E s := by
  have nin : ∀ b o, h₁.get? b = some o → b ≠ h₁.objs.size := fun b o e => Nat.ne_of_lt (Heap.lt_size e)
  have hl1 : l ≠ h₁.objs.size := by obtain ⟨o, ho, _⟩ := hl; exact nin _ _ ho
  have W := walks_filter (prog := prog) (w := w) (A := A.in1.in1) (keep := keep) hh hM (hl.at fun o e => e1 l o e) (lt_add _ _ 1 hz) (ne_add _ 0) hl1
    (fun i x s' Q E hx ho hq => hf i x s' Q E hx (fun b o e => ho b o (nin b o e) (e1 b o e)) hq)
  refine call_list_walk W (T := "filter") (fun s' st => ⟨_, st.1 _ _ (ne_add _ 0) hM, rfl⟩) (by decide) (by decide) filter_no_len filter_no_hint ⟨fun _ _ _ e => e, 0, hIt, rfl⟩ (by have := List.length_filter_le keep vs; rw [sizeLine_eq]; omega) (List.mem_range.mpr (by rw [hz]; exact Nat.lt_succ_self _)) (fun b hb => List.mem_range.mp hb) ?_
  intro h' tk acc c hk hS hacc
  rw [itemsOf_list hacc] at hS
  refine hQ h' tk c (fun b o e => hk b o (fun hm => nin b o e (List.mem_singleton.mp hm)) (e1 b o e)) ?_ hS
  cases hq : h₁.get? s.heap.objs.size with
  | none => rfl
  | some o => exact absurd (Heap.lt_size hq) (by rw [hz]; exact Nat.not_lt.mpr (Nat.le_add_right _ _))
end Mine
end secMFilt3
section secMLoop
open PySem PySem.W PyProof.Rows PySem.Calls PySem.Spec PyProof.V
namespace Mine
section
variable {prog : Program} {w : World} {A : Around} {E : Value → Shared → Prop} {s : Shared} {env : Env} {h₀ : Heap} {x : Str} {body : List Stmt} {Q : Flow → Shared → Prop}
/-- a loop over a list of the base's, whatever its items, the ledger may grow -/
theorem iter_anyG {l : Addr} {vs : List Value} {m₀ : Str → Option Value} {news : List (Addr × Obj)} (J : Nat → (Str → Option Value) → List (Addr × Obj) → Prop)
    (hh : A.handled = none) (hl : h₀.IsList l vs.toArray) (F : Fr h₀ env.locals s.heap m₀) (N : News h₀ env.locals s.heap news) (hj : J 0 m₀ news)
    (turn : ∀ i v m₁ news₁ h tk own, vs[i]? = some v → OwnOff own (news₁.map (·.1)) → J i m₁ news₁ → Fr h₀ env.locals h (fun y => if y = x then some v else m₁ y) → News h₀ env.locals h (news₁ ++ own) →
      wpAny (model prog w) A (execs body env) (InvPostG h₀ env.locals (J (i + 1)) own { s with heap := h, toks := tk } Q) E { s with heap := h, toks := tk })
    (done : ∀ m₁ news₁ h tk, J vs.length m₁ news₁ → Fr h₀ env.locals h m₁ → News h₀ env.locals h news₁ → Q .next { s with heap := h, toks := tk }) :
    wpAny (model prog w) A (pyIter (.ref l)) (fun it s₂ => LoopAtV prog w A h₀ env x body Q E it s₂) E s := by
  have hls : s.heap.IsList l vs.toArray := hl.at fun o e => F.keep l o e
  obtain ⟨ol, hol, _⟩ := id hl
  have hlt : l < h₀.objs.size := Heap.lt_size hol
  have hne : l ≠ s.heap.objs.size := Nat.ne_of_lt (Nat.lt_trans (Nat.lt_of_lt_of_le hlt F.above) F.ns.lt)
  refine wpAny_pyIter_list hls ?_
  have Wk := Walks.list (prog := prog) (w := w) hh s.heap.objs.size l hne vs.toArray
  have hlen : vs.toArray.size = vs.length := by simp
  rw [hlen] at Wk
  refine ⟨_, _, _, vs.length, _, _, m₀, news, J, rfl, Wk, ?_, ?_, ?_, ⟨⟨_, Heap.get?_push_size _ rfl, rfl, rfl⟩, hls.at fun o e => Heap.get?_push_of_some _ e⟩, F.push _, (fun p hp => ⟨Heap.get?_push_of_some _ (N p hp).1, (N p hp).2⟩), hj, ?_, ?_⟩
  · intro hm
    rcases List.mem_cons.mp hm with e | hm
    · exact absurd F.ns.lt (e ▸ Nat.lt_irrefl _)
    · exact absurd (Nat.lt_of_lt_of_le hlt F.above) ((List.mem_singleton.mp hm) ▸ Nat.lt_irrefl _)
  · intro b hb
    rw [List.mem_singleton.mp hb]
    exact next_is_new F
  · intro p hp hI
    exact absurd (Heap.lt_size (N p hp).1) ((List.mem_singleton.mp hI) ▸ Nat.lt_irrefl _)
  · rintro i v m₁ news₁ s₁ own ⟨hh', tk', rfl⟩ hin hP hJ hoff hown _ hfp hst F₁ N₁
    have hI0 : h₀.get? s.heap.objs.size = none := next_is_new F
    obtain ⟨⟨oI, hoI, _⟩, _⟩ := id hst
    have hIown : (s.heap.objs.size, oI) ∈ own := hfp _ (List.mem_cons.mpr (.inl rfl)) hI0 _ hoI
    have hsep : OwnOff own (news₁.map (·.1)) := by
      intro p hp b hb e
      obtain ⟨q, hq, rfl⟩ := List.mem_map.mp hb
      rcases List.mem_cons.mp (hown p hp) with h1 | h1
      · exact hoff q hq (List.mem_singleton.mpr (e ▸ h1))
      · have h2 := List.mem_singleton.mp h1
        have h3 := (N₁ q (List.mem_append.mpr (.inr hq))).2.2
        rw [← e, h2, hol] at h3
        cases h3
    have N₂ : News h₀ env.locals hh' (news₁ ++ own) := fun p hp => N₁ p ((List.mem_append.mp hp).elim (fun h => List.mem_append.mpr (.inr h)) fun h => List.mem_append.mpr (.inl h))
    refine wpAny_mono (turn i v m₁ news₁ hh' tk' own (by simpa using hP) hsep hJ F₁ N₂) (fun f s₂ p => ?_) fun _ _ e => e
    have fin : InvEndG h₀ env.locals (J (i + 1)) own { s with heap := hh', toks := tk' } s₂ → LoopStepU h₀ env.locals [s.heap.objs.size] own (J (i + 1)) { s with heap := hh', toks := tk' } .next s₂ := by
      rintro ⟨h', tk, m', news', nx, e, F', N', hn, ho, ha, hm⟩
      refine ⟨rfl, h', tk, m', nx, e, F', fun p hp => N' p ((List.mem_append.mp hp).elim (ho p) (hn p)), fun p hp hq => ?_, hm⟩
      exact ha _ hIown p.1 (List.mem_map.mpr ⟨p, hp, rfl⟩) (List.mem_singleton.mp hq).symm
    cases f with
    | ret v => exact .ret p
    | brk => exact .brk p
    | next => exact .next (fin p)
    | cont => exact .cont (fin p)
  · rintro h' tk m' news' F' N' _ hJ
    exact done m' news' h' tk hJ F' N'
/-- the same over a list of the ledger's that stays as it is -/
theorem iter_anyGL {l : Addr} {vs : List Value} {nn : Nat} {m₀ : Str → Option Value} {news : List (Addr × Obj)} (J : Nat → (Str → Option Value) → List (Addr × Obj) → Prop)
    (hh : A.handled = none) (hl : (l, W.listOf vs.toArray nn) ∈ news) (F : Fr h₀ env.locals s.heap m₀) (N : News h₀ env.locals s.heap news) (hj : J 0 m₀ news)
    (turn : ∀ i v m₁ news₁ h tk own, vs[i]? = some v → OwnOff own (news₁.map (·.1)) → (l, W.listOf vs.toArray nn) ∈ news₁ → J i m₁ news₁ → Fr h₀ env.locals h (fun y => if y = x then some v else m₁ y) → News h₀ env.locals h (news₁ ++ own) →
      wpAny (model prog w) A (execs body env) (InvPostG h₀ env.locals (fun m' nx => (l, W.listOf vs.toArray nn) ∈ nx ∧ J (i + 1) m' nx) own { s with heap := h, toks := tk } Q) E { s with heap := h, toks := tk })
    (done : ∀ m₁ news₁ h tk, (l, W.listOf vs.toArray nn) ∈ news₁ → J vs.length m₁ news₁ → Fr h₀ env.locals h m₁ → News h₀ env.locals h news₁ → Q .next { s with heap := h, toks := tk }) :
    wpAny (model prog w) A (pyIter (.ref l)) (fun it s₂ => LoopAtV prog w A h₀ env x body Q E it s₂) E s := by
  have hol : s.heap.get? l = some (W.listOf vs.toArray nn) := (N _ hl).1
  have hls : s.heap.IsList l vs.toArray := ⟨_, hol, rfl, nn, rfl⟩
  have hne : l ≠ s.heap.objs.size := Nat.ne_of_lt (Heap.lt_size hol)
  refine wpAny_pyIter_list hls ?_
  have Wk := Walks.list (prog := prog) (w := w) hh s.heap.objs.size l hne vs.toArray
  have hlen : vs.toArray.size = vs.length := by simp
  rw [hlen] at Wk
  refine ⟨_, _, _, vs.length, _, _, m₀, news, (fun i m nx => (l, W.listOf vs.toArray nn) ∈ nx ∧ J i m nx), rfl, Wk, ?_, ?_, ?_, ⟨⟨_, Heap.get?_push_size _ rfl, rfl, rfl⟩, hls.at fun o e => Heap.get?_push_of_some _ e⟩, F.push _, (fun p hp => ⟨Heap.get?_push_of_some _ (N p hp).1, (N p hp).2⟩), ⟨hl, hj⟩, ?_, ?_⟩
  · intro hm
    rcases List.mem_cons.mp hm with e | hm
    · exact absurd F.ns.lt (e ▸ Nat.lt_irrefl _)
    · exact (N _ hl).2.1 ((List.mem_singleton.mp hm).symm)
  · intro b hb
    rw [List.mem_singleton.mp hb]
    exact next_is_new F
  · intro p hp hI
    exact absurd (Heap.lt_size (N p hp).1) ((List.mem_singleton.mp hI) ▸ Nat.lt_irrefl _)
  · rintro i v m₁ news₁ s₁ own ⟨hh', tk', rfl⟩ hin hP ⟨hl₁, hJ⟩ hoff hown hget hfp hst F₁ N₁
    have hI0 : h₀.get? s.heap.objs.size = none := next_is_new F
    obtain ⟨⟨oI, hoI, _⟩, _⟩ := id hst
    have hIown : (s.heap.objs.size, oI) ∈ own := hfp _ (List.mem_cons.mpr (.inl rfl)) hI0 _ hoI
    have hsep : OwnOff (own.filter fun p => decide (p.1 = s.heap.objs.size)) (news₁.map (·.1)) := by
      intro p hp b hb e
      obtain ⟨q, hq, rfl⟩ := List.mem_map.mp hb
      have h1 : p.1 = s.heap.objs.size := by simpa using (List.mem_filter.mp hp).2
      exact hoff q hq (List.mem_singleton.mpr (e ▸ h1))
    have N₂ : News h₀ env.locals hh' (news₁ ++ own.filter fun p => decide (p.1 = s.heap.objs.size)) := fun p hp => N₁ p ((List.mem_append.mp hp).elim (fun h => List.mem_append.mpr (.inr h)) fun h => List.mem_append.mpr (.inl ((List.mem_filter.mp h).1)))
    have hlo : hh'.get? l = some (W.listOf vs.toArray nn) := (N₁ _ (List.mem_append.mpr (.inr hl₁))).1
    refine wpAny_mono (turn i v m₁ news₁ hh' tk' _ (by simpa using hP) hsep hl₁ hJ F₁ N₂) (fun f s₂ p => ?_) fun _ _ e => e
    have fin : InvEndG h₀ env.locals (fun m' nx => (l, W.listOf vs.toArray nn) ∈ nx ∧ J (i + 1) m' nx) (own.filter fun p => decide (p.1 = s.heap.objs.size)) { s with heap := hh', toks := tk' } s₂ →
        LoopStepU h₀ env.locals [s.heap.objs.size] own (fun m nx => (l, W.listOf vs.toArray nn) ∈ nx ∧ J (i + 1) m nx) { s with heap := hh', toks := tk' } .next s₂ := by
      rintro ⟨h', tk, m', news', nx, e, F', N', hn, ho, ha, hm⟩
      refine ⟨rfl, h', tk, m', nx, e, F', fun p hp => ?_, fun p hp hq => ?_, hm⟩
      · rcases List.mem_append.mp hp with h | h
        · by_cases hI : p.1 = s.heap.objs.size
          · exact N' p (ho p (List.mem_filter.mpr ⟨h, by simpa using hI⟩))
          · have h1 : p.1 = l := by
              rcases List.mem_cons.mp (hown p h) with h2 | h2
              · exact absurd h2 hI
              · exact List.mem_singleton.mp h2
            have h2 : hh'.get? p.1 = some p.2 := hget p h
            rw [h1, hlo] at h2
            have h3 : p = (l, W.listOf vs.toArray nn) := Prod.ext h1 (Option.some.inj h2).symm
            rw [h3]
            exact N' _ (hn _ hm.1)
        · exact N' p (hn p h)
      · exact ha _ (List.mem_filter.mpr ⟨hIown, by simp⟩) p.1 (List.mem_map.mpr ⟨p, hp, rfl⟩) (List.mem_singleton.mp hq).symm
    cases f with
    | ret v => exact .ret p
    | brk => exact .brk p
    | next => exact .next (fin p)
    | cont => exact .cont (fin p)
  · rintro h' tk m' news' F' N' _ ⟨hl', hJ⟩
    exact done m' news' h' tk hl' hJ F' N'
end
end Mine
namespace Mine
section
variable {prog : Program} {w : World} {A : Around} {E : Value → Shared → Prop} {s : Shared} {env : Env} {h₀ : Heap} {x : Str} {body : List Stmt} {Q : Flow → Shared → Prop}
/-- a loop over range(a, a + n), the ledger may grow -/
theorem iter_rangeG {r : Addr} {a b : Int} {t₀ u₀ v₀ : Tok} {n : Nat} {m₀ : Str → Option Value} {news : List (Addr × Obj)} (J : Nat → (Str → Option Value) → List (Addr × Obj) → Prop)
    (hh : A.handled = none) (hr : IsRange s.heap r a b 1 t₀ u₀ v₀) (hb : b = a + (n : Int)) (ha : 0 ≤ a) (ha2 : a ≤ 100000) (hn : n ≤ 100000) (F : Fr h₀ env.locals s.heap m₀) (N : News h₀ env.locals s.heap news) (hj : J 0 m₀ news)
    (turn : ∀ (i : Nat) t m₁ news₁ h tk own, i < n → OwnOff own (news₁.map (·.1)) → J i m₁ news₁ → Fr h₀ env.locals h (fun y => if y = x then some (.int (a + (i : Int)) t) else m₁ y) → News h₀ env.locals h (news₁ ++ own) →
      wpAny (model prog w) A (execs body env) (InvPostG h₀ env.locals (J (i + 1)) own { s with heap := h, toks := tk } Q) E { s with heap := h, toks := tk })
    (done : ∀ m₁ news₁ h tk, J n m₁ news₁ → Fr h₀ env.locals h m₁ → News h₀ env.locals h news₁ → Q .next { s with heap := h, toks := tk }) :
    wpAny (model prog w) A (pyIter (.ref r)) (fun it s₂ => LoopAtV prog w A h₀ env x body Q E it s₂) E s := by
  subst hb
  have hsz : Builtin.Range.rangeSize a (a + (n : Int)) 1 = (n : Int) := by rw [rangeSize_nat]; omega
  refine wpAny_pyIter_range hr (small_one (by omega) (by omega) (by omega) (by omega)) ?_
  have Wk : Walks prog w A s.heap.objs.size [s.heap.objs.size] [s.heap.objs.size] n (fun i v => i < n ∧ ∃ t, v = .int (a + i * 1) t)
      (fun i h => IsRangeIter h s.heap.objs.size (a + (i : Nat) * 1) ((n : Int) - (i : Nat)) 1) := (Walks.range hh _ a 1 n).bound
  refine ⟨_, _, _, n, _, _, m₀, news, J, rfl, Wk, ?_, ?_, ?_, (by show IsRangeIter _ _ _ _ _; rw [hsz]; simpa using Heap.get?_push_size _ rfl), F.push _, (fun p hp => ⟨Heap.get?_push_of_some _ (N p hp).1, (N p hp).2⟩), hj, ?_, ?_⟩
  · intro hm
    exact absurd F.ns.lt ((List.mem_singleton.mp hm) ▸ Nat.lt_irrefl _)
  · intro b hb
    rw [List.mem_singleton.mp hb]
    exact next_is_new F
  · intro p hp hI
    exact absurd (Heap.lt_size (N p hp).1) ((List.mem_singleton.mp hI) ▸ Nat.lt_irrefl _)
  · rintro i v m₁ news₁ s₁ own ⟨hh', tk', rfl⟩ hin hP hJ hoff hown _ hfp hst F₁ N₁
    have hI0 : h₀.get? s.heap.objs.size = none := next_is_new F
    have hoI : hh'.get? s.heap.objs.size = some _ := hst
    have hIown := hfp _ (List.mem_singleton.mpr rfl) hI0 _ hoI
    have hsep : OwnOff own (news₁.map (·.1)) := by
      intro p hp b hb e
      obtain ⟨q, hq, rfl⟩ := List.mem_map.mp hb
      exact hoff q hq (List.mem_singleton.mpr (e ▸ List.mem_singleton.mp (hown p hp)))
    have N₂ : News h₀ env.locals hh' (news₁ ++ own) := fun p hp => N₁ p ((List.mem_append.mp hp).elim (fun h => List.mem_append.mpr (.inr h)) fun h => List.mem_append.mpr (.inl h))
    obtain ⟨hi, t, rfl⟩ := hP
    rw [Int.mul_one] at F₁
    refine wpAny_mono (turn i t m₁ news₁ hh' tk' own hi hsep hJ F₁ N₂) (fun f s₂ p => ?_) fun _ _ e => e
    have fin : InvEndG h₀ env.locals (J (i + 1)) own { s with heap := hh', toks := tk' } s₂ → LoopStepU h₀ env.locals [s.heap.objs.size] own (J (i + 1)) { s with heap := hh', toks := tk' } .next s₂ := by
      rintro ⟨h', tk, m', news', nx, e, F', N', hn, ho, ha, hm⟩
      refine ⟨rfl, h', tk, m', nx, e, F', fun p hp => N' p ((List.mem_append.mp hp).elim (ho p) (hn p)), fun p hp hq => ?_, hm⟩
      exact ha _ hIown p.1 (List.mem_map.mpr ⟨p, hp, rfl⟩) (List.mem_singleton.mp hq).symm
    cases f with
    | ret v => exact .ret p
    | brk => exact .brk p
    | next => exact .next (fin p)
    | cont => exact .cont (fin p)
  · rintro h' tk m' news' F' N' _ hJ
    exact done m' news' h' tk hJ F' N'
end
end Mine
end secMLoop
section secMTurn2
open PySem PySem.W PyProof.Rows PySem.Calls PySem.Spec PyProof.V
namespace Mine
section
variable {prog : Program} {w : World} {A : Around} {E : Value → Shared → Prop} {s : Shared} {env : Env} {h₀ : Heap} {body : List Stmt} {Q : Flow → Shared → Prop} {x : Str} {px : Pos}
end
end Mine
end secMTurn2
section secMComp5
open PySem PySem.W PyProof.Rows PySem.Calls PySem.Spec PyProof.Rows.LCg PyProof.Rows.LCt
namespace Mine
/-- what an element of a comprehension leaves: the ledger may have grown -/
noncomputable def EltJ (h₀ : Heap) (L : Addr) (m : Str → Option Value) (I : Addr) (oI : Obj) (C : Addr) (oC : Obj) (D : Addr) (oD : Obj) (s : Shared) (S : List (Addr × Obj) → Prop) (J : Value → List (Addr × Obj) → Prop) (z : Value) (s' : Shared) : Prop :=
  ∃ h' tk news', s' = { s with heap := h', toks := tk } ∧ Fr h₀ L h' m ∧ News h₀ L h' ((I, oI) :: (C, oC) :: (D, oD) :: news') ∧ (∀ q ∈ news', q.1 ≠ I ∧ q.1 ≠ C ∧ q.1 ≠ D) ∧ S news' ∧ J z news'
theorem off1_mem {D : Addr} : ∀ {l : List (Addr × Obj)}, Off1 D l → ∀ p ∈ l, p.1 ≠ D
  | [], _, _, hp => nomatch hp
  | _ :: _, o, p, hp => by
    rcases List.mem_cons.mp hp with rfl | hp
    · exact o.1
    · exact off1_mem o.2 p hp
section
variable {prog : Program} {w : World} {A : Around} {E : Value → Shared → Prop} {s : Shared} {h₀ : Heap} {L : Addr} {m : Str → Option Value} {env : Env}
theorem restG {elt : PySem.Expr} {x : Str} {scope : Scope} {cl : List (Str × Addr)} {S : List (Addr × Obj) → Prop} {P : Nat → Value → Prop} {n : Nat} {Fin : List Value → List (Addr × Obj) → Prop} (J : Nat → List Value → List (Addr × Obj) → Prop)
    (turn : ∀ i v ys news₁ I oI C oC D m₂ h tk (E' : Value → Shared → Prop), i < n → P i v → J i ys news₁ → S news₁ → NsObj oC m₂ → m₂ x = some v → Fr h₀ L h m → News h₀ L h ((I, oI) :: (C, oC) :: (D, lst ys) :: news₁) → (∀ q ∈ news₁, q.1 ≠ I ∧ q.1 ≠ C ∧ q.1 ≠ D) → ((@Ne Nat I C) ∧ (@Ne Nat I D) ∧ (@Ne Nat C D)) →
      wpAny (model prog w) A (eval elt (compEnvC scope cl C env)) (EltJ h₀ L m I oI C oC D (lst ys) { s with heap := h, toks := tk } S (fun z news' => J (i + 1) (ys ++ [z]) news')) E' { s with heap := h, toks := tk })
    (fin : ∀ ys news', J n ys news' → Fin ys news') :
    ∀ (k i : Nat) (ys : List Value) (news : List (Addr × Obj)), i + k = n → S news → J i ys news → CompRest prog w A h₀ L m env elt x scope cl s S P Fin k i ys news := by
  intro k
  induction k with
  | zero =>
    intro i ys news hk _ hj
    refine CompRest.zero (fin ys news ?_)
    rw [show i = n by omega] at hj
    exact hj
  | succ k ih =>
    intro i ys news hk hS hj
    refine CompRest.succ fun v I oI C oC D m₂ h tk E' hv hC hx F N off ne => ?_
    refine wpAny_mono (turn i v ys news I oI C oC D m₂ h tk E' (by omega) hv hj hS hC hx F N off.mem ne) (fun z s'' h2 => ?_) fun _ _ e => e
    obtain ⟨h', tk', news', rfl, F', N', off', hS', hj'⟩ := h2
    exact ⟨h', tk', news', rfl, F', N', Off3.of off', hS', ih (i + 1) _ _ (by omega) hS' hj'⟩
/-- [elt for x in src], the ledger may grow -/
theorem compG {elt iter : PySem.Expr} {x : Str} {px : Pos} {scope : Scope} {cl : List (Str × Addr)} {pos : Pos} {Q : Value → Shared → Prop} {ax : Addr} {vs : List Value} {news : List (Addr × Obj)} (J : Nat → List Value → List (Addr × Obj) → Prop)
    (hh : A.handled = none) (F₀ : Fr h₀ L s.heap m) (hsz : vs.length ≤ 16777216)
    (hclos : closureFor scope env = pure cl) (hcell : ∀ z ∈ scope.names, z.2 ≠ .cell) (hkind : scope.kind = .function)
    (hnames : ∀ z ∈ scope.names, z.2 = .local → scope.names.lookup z.1 = some .local) (hx : scope.names.lookup x = some .local)
    (hiter : wpAny (model prog w) A (eval iter env) (SrcIs h₀ L m news s ax vs) E s) (hj : J 0 [] news)
    (turn : ∀ i v ys news₁ I oI C oC D m₂ h tk (E' : Value → Shared → Prop), i < vs.length → vs[i]? = some v → J i ys news₁ → SrcAt h₀ ax vs.toArray news₁ → NsObj oC m₂ → m₂ x = some v → Fr h₀ L h m → News h₀ L h ((I, oI) :: (C, oC) :: (D, lst ys) :: news₁) → (∀ q ∈ news₁, q.1 ≠ I ∧ q.1 ≠ C ∧ q.1 ≠ D) → ((@Ne Nat I C) ∧ (@Ne Nat I D) ∧ (@Ne Nat C D)) →
      wpAny (model prog w) A (eval elt (compEnvC scope cl C env)) (EltJ h₀ L m I oI C oC D (lst ys) { s with heap := h, toks := tk } (SrcAt h₀ ax vs.toArray) (fun z news' => J (i + 1) (ys ++ [z]) news')) E' { s with heap := h, toks := tk })
    (fin : ∀ D ys news' h tk, J vs.length ys news' → Fr h₀ L h m → News h₀ L h ((D, lst ys) :: news') → (∀ q ∈ news', q.1 ≠ D) → Q (.ref D) { s with heap := h, toks := tk })
    (hs : ∀ x, foldedSetIterable iter env x = pure x := by intro _; rfl) :
    wpAny (model prog w) A (eval (.ListComp elt [⟨.Name x px, iter, [], 0⟩] scope pos) env) Q E s := by
  refine ListComp_U F₀ hclos hcell hkind hnames hx (wpAny_mono hiter (fun xv s₁ h₁ => ?_) fun _ _ e => e) hs
  obtain ⟨rfl, ⟨h₁, tk₁, rfl, F₁, N₁⟩, hS⟩ := h₁
  refine .inl ⟨ax, vs.toArray, news, rfl, hh, F₁, N₁, hS, by rw [List.size_toArray, sizeLine_eq]; exact hsz, ?_⟩
  rintro s₂ ⟨g, rfl⟩
  rw [List.size_toArray]
  exact restG (s := ⟨g, s.gens, s.drawn, tk₁, s.os⟩) (n := vs.length) (Fin := FinE h₀ L m ⟨g, s.gens, s.drawn, tk₁, s.os⟩ Q) J
    (fun i v ys news₁ I oI C oC D m₂ h tk E' hi hv => turn i v ys news₁ I oI C oC D m₂ h tk E' hi (by rw [List.getElem?_toArray] at hv; exact hv))
    (fun ys news' hj D h tk F N off => fin D ys news' h tk hj F N (off1_mem off)) vs.length 0 [] news (by omega) hS hj
end
end Mine
namespace Mine
section
variable {prog : Program} {w : World} {A : Around} {E : Value → Shared → Prop} {s : Shared} {h₀ : Heap} {L : Addr} {m : Str → Option Value} {env : Env}
/-- y = [elt for x in src], the ledger may grow -/
theorem compGA {elt iter : PySem.Expr} {x y : Str} {px py : Pos} {scope : Scope} {cl : List (Str × Addr)} {pos spos : Pos} {Q : Flow → Shared → Prop} {ax : Addr} {vs : List Value} {news : List (Addr × Obj)} (J : Nat → List Value → List (Addr × Obj) → Prop)
    (hh : A.handled = none) (F₀ : Fr h₀ L s.heap m) (hLe : env.locals = L) (hsz : vs.length ≤ 16777216)
    (hsw : swapsWith (.ListComp elt [⟨.Name x px, iter, [], 0⟩] scope pos) (some (.Name y py)) spos.line env = pure true)
    (hclos : closureFor scope env = pure cl) (hcell : ∀ z ∈ scope.names, z.2 ≠ .cell) (hkind : scope.kind = .function)
    (hnames : ∀ z ∈ scope.names, z.2 = .local → scope.names.lookup z.1 = some .local) (hx : scope.names.lookup x = some .local)
    (hy : env.kindOf y = some .local) (hp : (env.scope.kind == .class || (env.scope.kind == .module && env.locals != env.globals)) = false)
    (hiter : wpAny (model prog w) A (eval iter env) (SrcIs h₀ L m news s ax vs) E s) (hj : J 0 [] news)
    (turn : ∀ i v ys news₁ I oI C oC D m₂ h tk (E' : Value → Shared → Prop), i < vs.length → vs[i]? = some v → J i ys news₁ → SrcAt h₀ ax vs.toArray news₁ → NsObj oC m₂ → m₂ x = some v → Fr h₀ L h m → News h₀ L h ((I, oI) :: (C, oC) :: (D, lst ys) :: news₁) → (∀ q ∈ news₁, q.1 ≠ I ∧ q.1 ≠ C ∧ q.1 ≠ D) → ((@Ne Nat I C) ∧ (@Ne Nat I D) ∧ (@Ne Nat C D)) →
      wpAny (model prog w) A (eval elt (compEnvC scope cl C env)) (EltJ h₀ L m I oI C oC D (lst ys) { s with heap := h, toks := tk } (SrcAt h₀ ax vs.toArray) (fun z news' => J (i + 1) (ys ++ [z]) news')) E' { s with heap := h, toks := tk })
    (fin : ∀ D ys news' h tk, J vs.length ys news' → Fr h₀ L h (fun z => if z = y then some (.ref D) else m z) → News h₀ L h ((D, lst ys) :: news') → (∀ q ∈ news', q.1 ≠ D) → Q .next { s with heap := h, toks := tk })
    (hs : ∀ x, foldedSetIterable iter env x = pure x := by intro _; rfl) :
    wpAny (model prog w) A (exec (.Assign [.Name y py] (.ListComp elt [⟨.Name x px, iter, [], 0⟩] scope pos) spos) env) Q E s := by
  refine Assign_ListComp_U F₀ hLe hsw hclos hcell hkind hnames hx hy hp (wpAny_mono hiter (fun xv s₁ h₁ => ?_) fun _ _ e => e) hs
  obtain ⟨rfl, ⟨h₁, tk₁, rfl, F₁, N₁⟩, hS⟩ := h₁
  refine .inl ⟨ax, vs.toArray, news, rfl, hh, F₁, N₁, hS, by rw [List.size_toArray, sizeLine_eq]; exact hsz, ?_⟩
  rintro s₂ ⟨g, rfl⟩
  rw [List.size_toArray]
  exact restG (s := ⟨g, s.gens, s.drawn, tk₁, s.os⟩) (n := vs.length) (Fin := FinA h₀ L m ⟨g, s.gens, s.drawn, tk₁, s.os⟩ y Q) J
    (fun i v ys news₁ I oI C oC D m₂ h tk E' hi hv => turn i v ys news₁ I oI C oC D m₂ h tk E' hi (by rw [List.getElem?_toArray] at hv; exact hv))
    (fun ys news' hj D h tk F N off => fin D ys news' h tk hj F N (off1_mem off)) vs.length 0 [] news (by omega) hS hj
end
end Mine
end secMComp5
section secMComp6
open PySem PySem.W PyProof.Rows PySem.Calls PySem.Spec PyProof.Rows.LCg PyProof.Rows.LCt
namespace Mine
/-- the element is the item itself -/
noncomputable def EltV (h₀ : Heap) (L : Addr) (m : Str → Option Value) (led : List (Addr × Obj)) (s : Shared) (v : Value) (z : Value) (s' : Shared) : Prop := z = v ∧ Quiet h₀ L m led s s'
section
variable {prog : Program} {w : World} {A : Around} {E : Value → Shared → Prop} {s : Shared} {h₀ : Heap} {L : Addr} {m : Str → Option Value} {env : Env}
theorem restF {ct elt : PySem.Expr} {x : Str} {scope : Scope} {cl : List (Str × Addr)} {S : List (Addr × Obj) → Prop} {P : Nat → Value → Prop} {vs : List Value} {news : List (Addr × Obj)} {Fin : List Value → List (Addr × Obj) → Prop} (p : Value → Bool) (hS : S news) (hP : ∀ i v, i < vs.length → P i v → vs[i]? = some v)
    (turn : ∀ (i : Nat) v I oI C oC D oD m₂ h tk (E' : Value → Shared → Prop), vs[i]? = some v → NsObj oC m₂ → m₂ x = some v → Fr h₀ L h m → News h₀ L h ((I, oI) :: (C, oC) :: (D, oD) :: news) → (∀ q ∈ news, q.1 ≠ I ∧ q.1 ≠ C ∧ q.1 ≠ D) → ((@Ne Nat I C) ∧ (@Ne Nat I D) ∧ (@Ne Nat C D)) →
      wpAny (model prog w) A (isTrue ct (compEnvC scope cl C env) (eval ct (compEnvC scope cl C env))) (TestIs (p v) (fun s' => wpAny (model prog w) A (eval elt (compEnvC scope cl C env)) (EltV h₀ L m ((I, oI) :: (C, oC) :: (D, oD) :: news) { s with heap := h, toks := tk } v) E' s') (Quiet h₀ L m ((I, oI) :: (C, oC) :: (D, oD) :: news) { s with heap := h, toks := tk })) E' { s with heap := h, toks := tk })
    (fin : Fin (vs.filter p) news) :
    ∀ (k i : Nat), i + k = vs.length → CompRestT prog w A h₀ L m env ct elt x scope cl s S P Fin k i ((vs.take i).filter p) news := by
  intro k
  induction k with
  | zero =>
    intro i hk
    refine CompRestT.zero ?_
    rw [show i = vs.length by omega, List.take_length]
    exact fin
  | succ k ih =>
    intro i hk
    refine CompRestT.succ fun v I oI C oC D m₂ h tk E' hv hC hx F N off ne => ?_
    have hv' := hP i v (by omega) hv
    have hs : vs.take (i + 1) = vs.take i ++ [v] := by rw [List.take_add_one, hv']; rfl
    have hi' := ih (i + 1) (by omega)
    refine wpAny_mono (turn i v I oI C oC D _ m₂ h tk E' hv' hC hx F N off.mem ne) (fun ok s' h1 => ?_) fun _ _ e => e
    obtain ⟨hok, h1⟩ := h1
    cases ok with
    | true =>
      simp only [if_true] at h1 ⊢
      refine wpAny_mono h1 (fun z s'' h2 => ?_) fun _ _ e => e
      obtain ⟨rfl, h', tk', rfl, F', N'⟩ := h2
      rw [hs, List.filter_append, List.filter_cons_of_pos (by rw [← hok]), List.filter_nil] at hi'
      exact ⟨h', tk', news, rfl, F', N', off, hS, hi'⟩
    | false =>
      simp only [Bool.false_eq_true, if_false] at h1 ⊢
      obtain ⟨h', tk', rfl, F', N'⟩ := h1
      rw [hs, List.filter_append, List.filter_cons_of_neg (by rw [← hok]; decide), List.filter_nil, List.append_nil] at hi'
      exact ⟨h', tk', news, rfl, F', N', off, hS, hi'⟩
end
end Mine
namespace Mine
/-- what [x for x in src if ct] asks of its source, where the source is made on the way -/
noncomputable def FK (prog : Program) (w : World) (A : Around) (h₀ : Heap) (L : Addr) (m : Str → Option Value) (env : Env) (ct elt : PySem.Expr) (x : Str) (scope : Scope) (cl : List (Str × Addr)) (Q : Value → Shared → Prop) (xv : Value) (s : Shared) : Prop :=
  ∃ (ax : Addr) (vs : List Value) (news : List (Addr × Obj)) (p : Value → Bool), xv = .ref ax ∧ Fr h₀ L s.heap m ∧ News h₀ L s.heap news ∧ SrcAt h₀ ax vs.toArray news ∧ vs.length ≤ 16777216 ∧
    (∀ (i : Nat) v I oI C oC D oD m₂ h tk (E' : Value → Shared → Prop), vs[i]? = some v → NsObj oC m₂ → m₂ x = some v → Fr h₀ L h m → News h₀ L h ((I, oI) :: (C, oC) :: (D, oD) :: news) → (∀ q ∈ news, q.1 ≠ I ∧ q.1 ≠ C ∧ q.1 ≠ D) → ((@Ne Nat I C) ∧ (@Ne Nat I D) ∧ (@Ne Nat C D)) →
      wpAny (model prog w) A (isTrue ct (compEnvC scope cl C env) (eval ct (compEnvC scope cl C env))) (TestIs (p v) (fun s' => wpAny (model prog w) A (eval elt (compEnvC scope cl C env)) (EltV h₀ L m ((I, oI) :: (C, oC) :: (D, oD) :: news) { s with heap := h, toks := tk } v) E' s') (Quiet h₀ L m ((I, oI) :: (C, oC) :: (D, oD) :: news) { s with heap := h, toks := tk })) E' { s with heap := h, toks := tk }) ∧
    ∀ D h tk, Fr h₀ L h m → News h₀ L h ((D, lst (vs.filter p)) :: news) → (∀ q ∈ news, q.1 ≠ D) → Q (.ref D) { s with heap := h, toks := tk }
end Mine
namespace Mine
theorem testIs {b b' : Bool} {Y N : Shared → Prop} {s : Shared} (h : b' = b) (hy : b' = true → Y s) (hn : b' = false → N s) : TestIs b Y N b' s := by
  refine ⟨h, ?_⟩
  cases b' with
  | true => rw [if_pos rfl]; exact hy rfl
  | false => rw [if_neg (by decide)]; exact hn rfl
end Mine
end secMComp6
section secMBook
open PySem PySem.W PyProof.Rows PySem.SeqAt
namespace Mine
/-- a list of four: agents, rules, delay, rate -/
structure BookD where
  b : Addr
  bu : Addr
  bl : Addr
  us : List Value
  ls : List Value
  dv : Value
  rv : Value
  cb : Nat
  cu : Nat
  cl : Nat
structure BookAt (h : Heap) (B : BookD) : Prop where
  hb : h.get? B.b = some (W.listOf #[.ref B.bu, .ref B.bl, B.dv, B.rv] B.cb)
  hu : h.get? B.bu = some (W.listOf B.us.toArray B.cu)
  hl : h.get? B.bl = some (W.listOf B.ls.toArray B.cl)
end Mine
namespace Mine
noncomputable def strOf : Value → Str
  | .str x _ => x
  | _ => Str.ofString ""
noncomputable def AllStr (us : List Value) : Prop := ∀ v ∈ us, ∃ x t, v = .str x t
theorem pick_slice (vs : List Value) (lo hi : Option Int) : (slicePick vs.toArray lo hi none).toList = (vs.drop (kms_lo lo vs.length)).take (kms_hi hi vs.length - kms_lo lo vs.length) := by
  rw [kmk_pick_nat _ (kms_bounds lo hi vs.toArray.size)]
  show ((vs.drop _).take _) = _
  rw [List.size_toArray]
section
variable {prog : Program} {w : World} {A : Around} {E : Value → Shared → Prop} {s : Shared} {Q : Value → Shared → Prop}
theorem eqAt_str {A : Around} {s : Shared} (x y : Str) (t u : Tok) : EqAt A s (.str y t) (.str x u) (y == x) := fun prog w E Q h => eqBool_str h
theorem in_strs {l : Addr} {vs : List Value} {x : Str} {t : Tok} (hl : s.heap.IsList l vs.toArray) (hv : AllStr vs) (h : Q (.bool ((vs.map strOf).contains x)) s) : wpAny (model prog w) A (compareOp .In (.str x t) (.ref l)) Q E s := by
  refine in_listAt (fun v => strOf v == x) hl (fun y hy => ?_) ?_
  · obtain ⟨z, u, rfl⟩ := hv y (by simpa using hy)
    exact eqAt_str x z u t
  · have e : vs.toArray.any (fun v => strOf v == x) = (vs.map strOf).contains x := by
      rw [List.any_toArray, Bool.eq_iff_iff, List.any_eq_true, List.contains_iff_mem, List.mem_map]
      exact ⟨fun ⟨v, hv, e⟩ => ⟨v, hv, beq_iff_eq.mp e⟩, fun ⟨v, hv, e⟩ => ⟨v, hv, beq_iff_eq.mpr e⟩⟩
    rw [e]; exact h
end
end Mine
namespace Mine
end Mine
namespace Mine
end Mine
end secMBook
section secMExt
namespace Mine
/-- the items of a list with those of a walk put behind -/
noncomputable def behind (p : Array Value) (P : Nat → Value → Prop) (i : Nat) (v : Value) : Prop := if i < p.size then p[i]? = some v else P (i - p.size) v
section
variable {prog : Program} {w : World} {A : Around} {E : Value → Shared → Prop} {s : Shared} {I : Addr} {fp wr : List Addr} {n : Nat} {P : Nat → Value → Prop} {St : Nat → Heap → Prop}
theorem shift_walks (p : Array Value) (W : Walks prog w A I fp wr n P St) : Walks prog w A I fp wr (p.size + n) (behind p P) (fun i h => p.size ≤ i ∧ St (i - p.size) h) where
  sub := W.sub
  frame := fun i h h' st hk => ⟨st.1, W.frame _ _ _ st.2 hk⟩
  item := fun i s Q E hi st hQ => W.item (i - p.size) s Q E (by have := st.1; omega) st.2 fun v h' tk hP hs hk => hQ v h' tk (by unfold behind; rw [if_neg (by have := st.1; omega)]; exact hP) ⟨by have := st.1; omega, by rw [show i + 1 - p.size = i - p.size + 1 by have := st.1; omega]; exact hs⟩ hk
  done := fun s Q E st hQ => W.done s Q E (by have h := st.2; rw [Nat.add_sub_cancel_left] at h; exact h) hQ
  self := fun i s Q E st hq => W.self _ s Q E st.2 hq
theorem behind_all {p : Array Value} {P : Nat → Value → Prop} {items acc : Array Value} (h : ItemsOf (behind p P) acc (p.size + items.size)) (hP : ∀ i v, P i v → items[i]? = some v) : acc = p ++ items := by
  refine Array.ext (by rw [h.1, Array.size_append]) fun i h1 h2 => ?_
  have h3 := h.2 i _ (Array.getElem?_eq_getElem h1)
  unfold behind at h3
  split at h3
  · rename_i hi
    rw [Array.getElem_append_left hi]
    rw [Array.getElem?_eq_getElem hi] at h3
    exact (Option.some.inj h3).symm
  · rename_i hi
    have h4 := hP _ _ h3
    rw [Array.getElem_append_right (by omega)]
    have h5 : i - p.size < items.size := by rw [Array.size_append] at h2; omega
    rw [Array.getElem?_eq_getElem h5] at h4
    exact (Option.some.inj h4).symm
theorem call_extend_walk {T : String} {Q : Value → Shared → Prop} {p : Array Value} {c₀ : Nat} (Wk : Walks prog w A.in1 I fp wr n P St) (hT : ∀ s : Shared, St 0 s.heap → s.TypeIs (.ref I) T)
    (h2 : (Value.type T == Value.type "list") = false) (h3 : (Value.type T == Value.type "tuple") = false)
    (hlen : typeLookup (.type T) "__len__" = pure none) (hhint : typeLookup (.type T) "__length_hint__" = pure none)
    (hst : St 0 s.heap) (hn1 : p.size + n + 1 ≤ sizeLine) (S : Addr) (hSf : S ∉ fp) (hIf : I ∈ fp) (hS : s.heap.get? S = some (W.listOf p c₀))
    (hQ : ∀ h' tk acc' c', (∀ b o, b ≠ S → b ∉ wr → s.heap.get? b = some o → h'.get? b = some o) → h'.get? S = some (W.listOf acc' c') →
      ItemsOf (behind p P) acc' (p.size + n) → Q .none { s with heap := h', toks := tk }) :
    wpAny (model prog w) A (call (.builtin "list.extend") [.ref S, .ref I]) Q E s := by
  have hSI : S ≠ I := fun e => hSf (e ▸ hIf)
  have hTS : s.TypeIs (.ref S) "list" := ⟨_, hS, rfl⟩
  refine wpAny_call (codeAny_call_builtin PySem.F.slot_list_extend.plain PySem.F.entry_list_extend (PySem.F.slot_list_extend.check _ _ _ _ _ _ _ _ hTS (PySem.F.args_list_extend_2 _ _) ?_))
  show wpAny _ A.in1 (Builtin.List.listExtendWith (.ref S) (.ref I) .none) _ _ _
  unfold Builtin.List.listExtendWith
  refine wpAny_bind (wpAny_typeOf (hT s hst) ?_)
  have h1 : Builtin.List.listSameRef (.ref S) (.ref I) = false := by simp [Builtin.List.listSameRef, hSI]
  simp only [h1, h2, h3, Bool.or_false, Bool.false_eq_true, if_false]
  refine wpAny_bind (Wk.self 0 _ _ _ hst ?_)
  refine wpAny_bind (wpAny_holding ?_)
  unfold Builtin.List.listLengthHint
  refine wpAny_bind (wpAny_specialOf (hT s hst) hlen ?_)
  show wpAny _ A.in1 (specialOf (Value.ref I) (Str.ofString "__length_hint__") >>= _) _ _ _
  refine wpAny_bind (wpAny_specialOf (hT s hst) hhint ?_)
  refine wpAny_pure ?_
  show wpAny _ A.in1 (rule "list.extend.makes-room" >>= fun _ => Builtin.List.listTouch (.ref S) >>= fun _ =>
    again (.builtin "list.extend.loop" ⟨[.ref S, .ref I, Value.none], []⟩)) _ _ _
  refine wpAny_bind (wpAny_rule ?_)
  refine wpAny_bind ?_
  show wpAny _ A.in1 (updateSeq S (·.push .none) >>= fun _ => updateSeq S (·.pop)) _ _ _
  have z1 : p.size ≤ sizeLine := by omega
  have z2 : (p.push Value.none).size ≤ sizeLine + 1 := by rw [Array.size_push]; omega
  have hpp : (p.push Value.none).pop = p := by simp
  refine wpAny_bind (wpAny_updateSeq (hz := z1) (_hz' := z2) hS rfl ?_)
  have hS₂ := Heap.get?_update_self (Obj.mapSeq (·.push Value.none)) hS rfl
  have hd2 : (Obj.mapSeq (·.push Value.none) (W.listOf p c₀)).data = .seq (p.push Value.none) (if (p.push Value.none).size == p.size then c₀ else c₀ + 1) := rfl
  refine wpAny_updateSeq (hz := by rw [Array.size_push]; omega) (_hz' := by rw [hpp]; omega) hS₂ hd2 ?_
  have hS₃ := Heap.get?_update_self (Obj.mapSeq (·.pop)) hS₂ rfl
  have oth : ∀ b o, b ≠ S → s.heap.get? b = some o → ((s.heap.update S (Obj.mapSeq (·.push Value.none))).update S (Obj.mapSeq (·.pop))).get? b = some o :=
    fun b o hb e => (Heap.get?_update_other _ _ (Ne.symm hb)).trans ((Heap.get?_update_other _ _ (Ne.symm hb)).trans e)
  have e4 : ∃ c, Obj.mapSeq (·.pop) (Obj.mapSeq (·.push Value.none) (W.listOf p c₀)) = W.listOf ((p.push Value.none).pop) c := ⟨_, rfl⟩
  rw [hpp] at e4
  have hS₄ : ∃ c, ((s.heap.update S (Obj.mapSeq (·.push Value.none))).update S (Obj.mapSeq (·.pop))).get? S = some (W.listOf p c) := by
    obtain ⟨c, e⟩ := e4
    exact ⟨c, by rw [hS₃, e]⟩
  obtain ⟨c2, hS₅⟩ := hS₄
  have W2 := shift_walks p Wk
  have acc0 : ItemsOf (behind p P) p p.size := ⟨rfl, fun j v hj => by
    unfold behind
    rw [if_pos (Array.getElem?_eq_some_iff.mp hj).1]; exact hj⟩
  have hn : p.size + n ≤ sizeLine := by omega
  refine wpAny_pure ⟨plainId_quiet F.plain_extend_loop _, codeAny_extend_loopS W2.toS hn _ hSf _ n p.size _ _ _ (by omega) (by omega)
    (W2.frame p.size s.heap _ ⟨Nat.le_refl _, by rw [Nat.sub_self]; exact hst⟩ fun b hb o e => oth b o (fun h => hSf (h ▸ hb)) e) hS₅ acc0 fun s' acc' c' hm hS' hacc => ?_⟩
  rw [Moved.eq_with hm]
  refine hQ s'.heap s'.toks acc' c' (fun b o hb hw e => hm.heap b o (fun hmem => ?_) (oth b o hb e)) hS' hacc
  rcases List.mem_cons.mp hmem with e' | hmem
  · exact hb e'
  · exact hw hmem
end
end Mine
namespace Mine
/-- map(f, list), where f asks nothing of the heap -/
theorem walks_mapS {prog : Program} {w : World} {A : Around} (hh : A.handled = none) {I TI it l : Addr} {f : Value} {items : Array Value} {P : Nat → Value → Prop}
    (n1 : I ≠ it) (n2 : TI ≠ it) (n3 : l ≠ it)
    (hf : ∀ i x (s : Shared) (Q E : Value → Shared → Prop), items[i]? = some x → (∀ v h' tk, P i v → Ext s.heap h' → Q v { s with heap := h', toks := tk }) → wpAny (model prog w) A.in1 (call f [x]) Q E s) :
    Walks prog w A I [I, TI, it, l] [it] items.size P (fun i h => h.get? I = some (mapObj TI f) ∧ h.get? TI = some (tup1 (.ref it)) ∧ h.IsList l items ∧ h.IsListIter it l i) where
  sub := fun b hb => by rw [List.mem_singleton.mp hb]; simp
  frame := fun i h h' st hk => ⟨hk I (by simp) _ st.1, hk TI (by simp) _ st.2.1, st.2.2.1.at fun o e => hk l (by simp) o e, st.2.2.2.at fun o e => hk it (by simp) o e⟩
  item := fun i s Q E hi st hQ => by
    obtain ⟨hIs, hTIs, hls, hit⟩ := st
    have hT : s.TypeIs (.ref I) "map" := ⟨_, hIs, rfl⟩
    unfold pyNext
    refine wpAny_bind (wpAny_attempt (wpAny_callSpecial?_slot (name := Str.ofString "__next__") hT slot_map_next
      (wpAny_call_entry slot_map_next hT entry_map_next ?_ (args_map_next _))))
    show wpAny _ _ (field (.ref I) 0 >>= _) _ _ _
    refine wpAny_bind (wpAny_field hIs rfl (x := .ref TI) rfl ?_)
    refine wpAny_bind (wpAny_seqItems hTIs rfl ?_)
    have hx : items[i]? = some items[i] := by simp [hi]
    dsimp only
    rw [← Array.forIn_toList]
    simp only [List.forIn_cons, List.forIn_nil]
    refine wpAny_bind (wpAny_bind (wpAny_bind (wpAny_holding (wpAny_nextOf_list_item hit hls hx fun h₁ hit₁ hs₁ => ?_))))
    refine wpAny_pure (wpAny_pure ?_)
    have hIs₁ := hs₁.extBut I _ n1 hIs
    refine wpAny_bind (wpAny_field hIs₁ rfl (x := f) rfl ?_)
    refine wpAny_bind (wpAny_holding ?_)
    refine hf i _ _ _ _ hx fun v h₂ tk hP he => ?_
    refine wpAny_bind (wpAny_letGo (wpAny_pure ⟨_, rfl, wpAny_pure (hQ v h₂ tk hP ⟨he _ _ hIs₁, he _ _ (hs₁.extBut TI _ n2 hTIs), hls.at fun o e => he _ _ (hs₁.extBut l o n3 e), hit₁.at fun o e => he it o e⟩ fun b o hb e => he b o (hs₁.extBut b o (fun e' => hb (List.mem_singleton.mpr e')) e))⟩))
  done := fun s Q E st hQ => by
    obtain ⟨hIs, hTIs, hls, hit⟩ := st
    have hT : s.TypeIs (.ref I) "map" := ⟨_, hIs, rfl⟩
    unfold pyNext
    refine wpAny_bind (wpAny_attempt (wpAny_callSpecial?_slot (name := Str.ofString "__next__") hT slot_map_next
      (wpAny_call_entry slot_map_next hT entry_map_next ?_ (args_map_next _))))
    show wpAny _ _ (field (.ref I) 0 >>= _) _ _ _
    refine wpAny_bind (wpAny_field hIs rfl (x := .ref TI) rfl ?_)
    refine wpAny_bind (wpAny_seqItems hTIs rfl ?_)
    dsimp only
    rw [← Array.forIn_toList]
    simp only [List.forIn_cons, List.forIn_nil]
    refine wpAny_bind (wpAny_bind (wpAny_bind (wpAny_holding (wpAny_nextOf_list_end (A := A.in1) hh hit hls (by simp) fun h₁ e he hx => ?_))))
    obtain ⟨o, ho, hc⟩ := hx
    refine wpAny_bind (wpAny_isInstance (T := "StopIteration") (b := true) ⟨o, ho, hc⟩ isSubtype_stop ?_)
    exact wpAny_pure (hQ h₁ s.toks fun b o hb e => he b o (fun e' => hb (List.mem_singleton.mpr e')) e)
  self := fun i s Q E st hQ => by
    have hT : s.TypeIs (.ref I) "map" := ⟨_, st.1, rfl⟩
    refine wpAny_pyIter_slot hT slot_map_iter (wpAny_call_entry slot_map_iter hT entry_map_iter ?_ (args_map_iter _))
    show wpAny _ _ (ret (.ref I)) _ _ s
    exact wpAny_pure ⟨_, rfl, "map", _, hT, slot_map_next.lookup, hQ⟩
/-- xs.extend(map(str, ys)) where all of ys are texts -/
theorem call_extend_str {prog : Program} {w : World} {A : Around} {E : Value → Shared → Prop} {s : Shared} {h₁ : Heap} {l S : Addr} {p items : Array Value} {c₀ : Nat} {Q : Value → Shared → Prop}
    (hh : A.handled = none) (e1 : Ext h₁ s.heap) (hM : s.heap.get? (h₁.objs.size + 2) = some (mapObj (h₁.objs.size + 1) (.type "str"))) (hTI : s.heap.get? (h₁.objs.size + 1) = some (tup1 (.ref h₁.objs.size)))
    (hIt : s.heap.IsListIter h₁.objs.size l 0) (hl : h₁.IsList l items) (hn : p.size + items.size + 1 ≤ sizeLine) (hS : h₁.get? S = some (W.listOf p c₀)) (hSl : S ≠ l)
    (hstr : ∀ (i : Nat) (x : Value), items[i]? = some x → ∃ y t, x = Value.str y t)
    (hQ : ∀ h' tk c, (∀ b o, b ≠ S → h₁.get? b = some o → h'.get? b = some o) → h'.get? S = some (W.listOf (p ++ items) c) → Q .none { s with heap := h', toks := tk }) :
    wpAny (model prog w) A (call (.builtin "list.extend") [.ref S, .ref (h₁.objs.size + 2)]) Q E s := by
  have nin : ∀ b o, h₁.get? b = some o → b ≠ h₁.objs.size := fun b o e => Nat.ne_of_lt (Heap.lt_size e)
  have nin2 : ∀ b o, h₁.get? b = some o → ∀ k, b ≠ h₁.objs.size + k := fun b o e k => Nat.ne_of_lt (Nat.lt_of_lt_of_le (Heap.lt_size e) (Nat.le_add_right _ _))
  have hl1 : l ≠ h₁.objs.size := by obtain ⟨o, ho, _⟩ := hl; exact nin _ _ ho
  have Wk := walks_mapS (prog := prog) (w := w) (A := A.in1) hh (I := h₁.objs.size + 2) (TI := h₁.objs.size + 1) (it := h₁.objs.size) (l := l) (f := .type "str") (items := items) (P := fun i v => items[i]? = some v) (ne_add _ 1) (ne_add _ 0) hl1
    (fun i x s' Q E hx hq => by
      obtain ⟨y, t, rfl⟩ := hstr i x hx
      exact P.str_of_str (hq _ s'.heap s'.toks hx (fun _ _ e => e)))
  refine call_extend_walk Wk (T := "map") (fun s' st => ⟨_, st.1, rfl⟩) (by decide) (by decide) map_no_len map_no_hint ⟨hM, hTI, hl.at fun o e => e1 l o e, hIt⟩ hn S ?_ (by simp) (e1 _ _ hS) ?_
  · intro hm
    simp only [List.mem_cons, List.not_mem_nil, or_false] at hm
    rcases hm with e | e | e | e
    · exact nin2 _ _ hS 2 e
    · exact nin2 _ _ hS 1 e
    · exact nin _ _ hS e
    · exact hSl e
  · intro h' tk acc c hk hS' hacc
    have e := behind_all hacc (fun i v h => h)
    subst e
    exact hQ h' tk c (fun b o hb e => hk b o hb (fun hm => nin b o e (List.mem_singleton.mp hm)) (e1 b o e)) hS'
end Mine
end secMExt
section secMTool
open PySem PySem.W PyProof.Rows PyProof.Rows.LCg
namespace Mine
noncomputable def recLed (p : Params) (C : Addr) (R : RecD) : List (Addr × Obj) := [(R.u, W.listOf R.us.toArray R.cu), (R.l, W.listOf R.ls.toArray R.cl), (R.r, instObj C R.d), (R.d, recDict p R)]
noncomputable def adr (R : RecD) : List Addr := [R.u, R.l, R.r, R.d]
theorem recLed_at {p : Params} {C : Addr} {h₀ h : Heap} {L : Addr} {R : RecD} {news : List (Addr × Obj)} (N : News h₀ L h news) (hin : ∀ q ∈ recLed p C R, q ∈ news) : RecAt p C h R :=
  ⟨(N _ (hin _ (List.Mem.tail _ (List.Mem.tail _ (List.Mem.head _))))).1, (N _ (hin _ (List.Mem.tail _ (List.Mem.tail _ (List.Mem.tail _ (List.Mem.head _)))))).1, (N _ (hin _ (List.Mem.head _))).1, (N _ (hin _ (List.Mem.tail _ (List.Mem.head _)))).1⟩
theorem adr_flat (p : Params) (C : Addr) (rs : List RecD) : (rs.flatMap (recLed p C)).map (·.1) = rs.flatMap adr := by rw [List.map_flatMap]; rfl
theorem news_rec {p : Params} {C L : Addr} {h₀ h₁ h : Heap} {m : Str → Option Value} {R : RecD} (F : Fr h₀ L h₁ m) (x : RecAt p C h R) (n : RecNew h₁ R) : News h₀ L h (recLed p C R) := rec_led F x n
theorem adr_nodup {R : RecD} (h : Apart R) : (adr R).Nodup := by
  obtain ⟨c1, c2, c3, c4, c5, c6⟩ := h
  simp only [adr, List.nodup_cons, List.mem_cons, List.not_mem_nil, not_or, or_false, not_false_eq_true, List.nodup_nil, and_true]
  exact ⟨⟨c6, Ne.symm c2, Ne.symm c4⟩, ⟨Ne.symm c3, Ne.symm c5⟩, c1⟩
theorem rec_fresh {p : Params} {C : Addr} {h : Heap} {R : RecD} (n : RecNew h R) : ∀ q ∈ recLed p C R, h.get? q.1 = none := fun q hq => by
  simp only [recLed, List.mem_cons, List.not_mem_nil, or_false] at hq
  rcases hq with rfl | rfl | rfl | rfl
  · exact n.2.2.1
  · exact n.2.2.2
  · exact n.1
  · exact n.2.1
noncomputable def Fits (n : Nat) : Prop := n ≤ sizeLine
theorem Fits.out {n : Nat} (h : Fits n) : n ≤ sizeLine := h
theorem gen_turn {M : Model} {A : Around} {f : Sem Flow} {g : Heap} {L : Addr} {J : (Str → Option Value) → List (Addr × Obj) → Prop} {own : List (Addr × Obj)} {s s' : Shared} {Q : Flow → Shared → Prop} {E : Value → Shared → Prop}
    (H : ∀ Q', wpAny M A f (InvPostG g L J own s Q') E s') : wpAny M A f (InvPostG g L J own s Q) E s' := H Q
noncomputable def refs (rs : List RecD) : List Value := rs.map fun R => Value.ref R.r
theorem refs_at {ra rb : List RecD} {R : RecD} {k : Nat} (h : ra.length = k) : (refs (ra ++ R :: rb))[k]? = some (.ref R.r) := by
  subst h; simp [refs]
theorem refs_same {ra rb : List RecD} {R R' : RecD} (h : R'.r = R.r) : refs (ra ++ R :: rb) = refs (ra ++ R' :: rb) := by simp [refs, h]
section
variable {prog : Program} {w : World} {A : Around} {E : Value → Shared → Prop} {s : Shared} {t u : Tok} {value slice : PySem.Expr} {Q : Value → Shared → Prop} {h₀ : Heap} {L a : Addr} {news : List (Addr × Obj)} {vs : List Value} {n : Nat}
theorem itemL {k : Nat} {v : Value} (N : News h₀ L s.heap news) (hm : (a, W.listOf vs.toArray n) ∈ news) (hk : vs[k]? = some v) (h9 : k ≤ 1000) (h : Q v s)
    (hs : subscripted slice false (.ref a) (.int (k : Int) u) = operate [.ref a, .int (k : Int) u] (getItem (.ref a) (.int (k : Int) u)) := by with_unfolding_all rfl) :
    wpAny (model prog w) A (subscriptTail value slice (.ref a) (.int (k : Int) u)) Q E s := by
  refine item_listR (News.isList N hm) (by omega) (by omega) (x := v) ?_ h hs
  rw [Int.toNat_natCast, List.getElem?_toArray]; exact hk
theorem itemM {k : Int} (N : News h₀ L s.heap news) (hm : (a, W.listOf vs.toArray n) ∈ news) (h0 : 0 ≤ k) (h1 : k < (vs.length : Int)) (h9 : vs.length ≤ 1000) (h : ∀ v, v ∈ vs → Q v s)
    (hs : subscripted slice false (.ref a) (.int k u) = operate [.ref a, .int k u] (getItem (.ref a) (.int k u)) := by with_unfolding_all rfl) :
    wpAny (model prog w) A (subscriptTail value slice (.ref a) (.int k u)) Q E s := by
  have hlt : k.toNat < vs.length := by omega
  refine item_listR (News.isList N hm) h0 (by omega) (x := vs[k.toNat]) ?_ (h _ (List.getElem_mem hlt)) hs
  rw [List.getElem?_toArray, List.getElem?_eq_getElem hlt]
end
theorem mapS {m₀ m₁ : Str → Option Value} {st : List Str} (h : ∀ y, st.contains y = false → m₁ y = m₀ y) : m₁ = fun y => if st.contains y then m₁ y else m₀ y := by
  funext y
  cases hc : st.contains y with
  | true => simp
  | false => simp [h y hc]
theorem off_str {z : Str} {l : List Str} (h : l.contains z = false) {a : Str} (ha : a ∈ l) : z ≠ a := by
  intro e; subst e; rw [List.contains_iff_mem.mpr ha] at h; cases h
theorem InvEndG.mono {g : Heap} {L : Addr} {J J' : (Str → Option Value) → List (Addr × Obj) → Prop} {own : List (Addr × Obj)} {s s' : Shared} (h : InvEndG g L J own s s') (hi : ∀ m nx, J m nx → J' m nx) : InvEndG g L J' own s s' := by
  obtain ⟨h', tk, m', news', nx, e, F', N', hn, ho, ha, hm⟩ := h
  exact ⟨h', tk, m', news', nx, e, F', N', hn, ho, ha, hi _ _ hm⟩
theorem ownOff_nil {l : List Addr} : OwnOff [] l := fun _ h => nomatch h
structure ModIs (a b r : Int) : Prop where
  e : Int.fmod a b = r
section
variable {prog : Program} {w : World} {A : Around} {E : Value → Shared → Prop} {s : Shared} {t u : Tok} {Q : Value → Shared → Prop}
theorem modE {a b r : Int} (h : ModIs a b r) (hb : b ≠ 0) (hq : ∀ t' tk, Q (.int r t') { s with toks := tk }) : wpAny (model prog w) A (binaryOp .Mod (.int a t) (.int b u)) Q E s := by
  refine mod_int hb ?_
  rw [h.e]; exact hq _ _
theorem modB {a b : Int} (hb : 0 < b) (hq : ∀ k t' tk, 0 ≤ k → k < b → Q (.int k t') { s with toks := tk }) : wpAny (model prog w) A (binaryOp .Mod (.int a t) (.int b u)) Q E s := by
  refine mod_int (by omega) ?_
  exact hq _ _ _ (Int.fmod_nonneg_of_pos _ hb) (Int.fmod_lt_of_pos _ hb)
end
theorem ints_at : ∀ {vs : List Value} {ns : List Int}, IntsAre vs ns → ∀ {i : Nat} {v : Value}, vs[i]? = some v → ∃ z t, v = .int z t
  | _, _, .nil, i, v, h => by simp at h
  | _, _, .cons n t r, 0, v, h => ⟨n, t, by simpa using h.symm⟩
  | _, _, .cons n t r, i + 1, v, h => ints_at r (i := i) (by simpa using h)
theorem fmod_nat (z : Int) (m : Nat) (hm : 0 < m) : ∃ k : Nat, Int.fmod z (m : Int) = (k : Int) ∧ k < m := by
  have a := Int.fmod_nonneg_of_pos z (b := (m : Int)) (by omega)
  have b := Int.fmod_lt_of_pos z (b := (m : Int)) (by omega)
  exact ⟨(Int.fmod z m).toNat, by omega, by omega⟩
noncomputable abbrev Led := List (Addr × Obj)
structure Off (f r k : Led) : Prop where
  nd : (f.map (·.1)).Nodup
  a : OwnOff r (f.map (·.1))
  b : OwnOff k (f.map (·.1))
  c : OwnOff k (r.map (·.1))
theorem Off.own {f r k own : Led} (h : Off f r k) (ho : OwnOff own ((f ++ (r ++ k)).map (·.1))) : Off f r (own ++ k) := by
  refine ⟨h.nd, h.a, fun q hq a ha => ?_, fun q hq a ha => ?_⟩
  · rcases List.mem_append.mp hq with hq | hq
    · exact ho q hq a (by rw [List.map_append]; exact List.mem_append.mpr (.inl ha))
    · exact h.b q hq a ha
  · rcases List.mem_append.mp hq with hq | hq
    · exact ho q hq a (by rw [List.map_append, List.map_append]; exact List.mem_append.mpr (.inr (List.mem_append.mpr (.inl ha))))
    · exact h.c q hq a ha
theorem Off.grow {f r k xs : Led} {g hp : Heap} {L : Addr} (h : Off f r k) (N : News g L hp (f ++ (r ++ k))) (hx : ∀ q ∈ xs, hp.get? q.1 = none) : Off f (xs ++ r) k := by
  have key : ∀ q ∈ f ++ (r ++ k), ∀ x ∈ xs, x.1 ≠ q.1 := fun q hq x hxx e => by
    have h1 := hx x hxx
    rw [e, (N q hq).1] at h1; cases h1
  refine ⟨h.nd, fun q hq a ha => ?_, h.b, fun q hq a ha => ?_⟩
  · rcases List.mem_append.mp hq with hq | hq
    · obtain ⟨z, hz, rfl⟩ := List.mem_map.mp ha
      exact key z (List.mem_append.mpr (.inl hz)) q hq
    · exact h.a q hq a ha
  · rw [List.map_append] at ha
    rcases List.mem_append.mp ha with ha | ha
    · obtain ⟨z, hz, rfl⟩ := List.mem_map.mp ha
      exact fun e => key q (List.mem_append.mpr (.inr (List.mem_append.mpr (.inr hq)))) z hz e.symm
    · exact h.c q hq a ha
theorem allLt_ne' {d : Nat} : ∀ {l : Led}, AllLt d l → ∀ p ∈ l, p.1 ≠ d
  | [], _, _, h => nomatch h
  | _ :: _, x, p, h => by
    rcases List.mem_cons.mp h with rfl | h
    · exact Nat.ne_of_lt x.1
    · exact allLt_ne' x.2 p h
theorem Off.same {f f' r k : Led} (h : Off f r k) (e : f'.map (·.1) = f.map (·.1)) : Off f' r k := ⟨by rw [e]; exact h.nd, by rw [e]; exact h.a, by rw [e]; exact h.b, h.c⟩
theorem Off.finish {g h' : Heap} {L : Addr} {m' : Str → Option Value} {J : (Str → Option Value) → Led → Prop} {f r k own news' : Led} {s₁ : Shared} {tk : Nat} (h : Off f r (own ++ k)) (ho : OwnOff own (k.map (·.1))) (F : Fr g L h' m') (N : News g L h' news') (hin : ∀ q ∈ f ++ (r ++ (own ++ k)), q ∈ news') (hJ : J m' (f ++ (r ++ k))) :
    InvEndG g L J own s₁ { s₁ with heap := h', toks := tk } := by
  refine InvEndG.intro (nx := f ++ (r ++ k)) F N hJ ?_ (fun q hq => hin q ?_) (fun q hq => hin q (by simp [hq]))
  · intro q hq a ha
    rw [List.map_append, List.map_append] at ha
    rcases List.mem_append.mp ha with ha | ha
    · exact h.b q (List.mem_append.mpr (.inl hq)) a ha
    · rcases List.mem_append.mp ha with ha | ha
      · exact h.c q (List.mem_append.mpr (.inl hq)) a ha
      · exact ho q hq a ha
  · simp only [List.mem_append] at hq ⊢
    rcases hq with h | h | h
    · exact .inl h
    · exact .inr (.inl h)
    · exact .inr (.inr (.inr h))
theorem refs_get {rs : List RecD} {i : Nat} {v : Value} (h : (refs rs)[i]? = some v) : ∃ R, rs[i]? = some R ∧ v = .ref R.r := by
  unfold refs at h
  rw [List.getElem?_map] at h
  cases hR : rs[i]? with
  | none => rw [hR] at h; cases h
  | some R => rw [hR] at h; cases h; exact ⟨R, rfl, rfl⟩
section
variable {prog : Program} {w : World} {A : Around} {E : Value → Shared → Prop} {s : Shared} {t u : Tok} {value slice : PySem.Expr} {Q : Value → Shared → Prop} {h₀ : Heap} {L a : Addr} {news : List (Addr × Obj)} {vs : List Value} {n : Nat}
theorem itemZ {k : Int} {i : Nat} {v : Value} (hz : k = (i : Int)) (N : News h₀ L s.heap news) (hm : (a, W.listOf vs.toArray n) ∈ news) (hk : vs[i]? = some v) (h9 : i ≤ 1000) (h : Q v s)
    (hs : subscripted slice false (.ref a) (.int k u) = operate [.ref a, .int k u] (getItem (.ref a) (.int k u)) := by with_unfolding_all rfl) :
    wpAny (model prog w) A (subscriptTail value slice (.ref a) (.int k u)) Q E s := by
  subst hz
  exact itemL N hm hk h9 h hs
end
theorem Off.less {f r a k : Led} (h : Off f r (a ++ k)) : Off f r k := ⟨h.nd, h.a, fun q hq => h.b q (List.mem_append.mpr (.inr hq)), fun q hq => h.c q (List.mem_append.mpr (.inr hq))⟩
theorem off_subl {l l' : List Str} {z : Str} (h : l.contains z = false) (hs : ∀ a ∈ l', a ∈ l) : l'.contains z = false := by
  cases hc : l'.contains z with
  | false => rfl
  | true => rw [List.contains_iff_mem.mpr (hs _ (List.contains_iff_mem.mp hc))] at h; cases h
noncomputable def JQ (X : Led) (st : List Str) (m₀ : Str → Option Value) (_i : Nat) (m : Str → Option Value) (nx : Led) : Prop := nx = X ∧ ∀ y, st.contains y = false → m y = m₀ y
theorem JQ.finish {g h' : Heap} {L : Addr} {m' m₀ : Str → Option Value} {X own news' : Led} {st : List Str} {s₁ : Shared} {tk i : Nat} (ho : OwnOff own (X.map (·.1))) (F : Fr g L h' m') (N : News g L h' news') (hin : ∀ q ∈ X ++ own, q ∈ news') (hm : ∀ y, st.contains y = false → m' y = m₀ y) :
    InvEndG g L (JQ X st m₀ i) own s₁ { s₁ with heap := h', toks := tk } :=
  InvEndG.intro (nx := X) F N ⟨rfl, hm⟩ ho (fun q hq => hin q (List.mem_append.mpr (.inl hq))) (fun q hq => hin q (List.mem_append.mpr (.inr hq)))
end Mine
end secMTool
section secMNl
namespace Mine
noncomputable def nlS : Str := Str.ofString "\n"
/-- a text cut at its line ends -/
noncomputable def cutN : List Nat → List (List Nat)
  | [] => [[]]
  | c :: r => if c = 10 then [] :: cutN r else match cutN r with
    | [] => [[c]]
    | p :: ps => (c :: p) :: ps
/-- lines put together -/
noncomputable def glueN : List (List Nat) → List Nat
  | [] => []
  | [p] => p
  | p :: q :: r => p ++ 10 :: glueN (q :: r)
theorem cutN_free_eq (p : List Nat) (h : 10 ∉ p) : cutN p = [p] := by
  induction p with
  | nil => rfl
  | cons c r ih =>
    have h1 : c ≠ 10 := fun e => h (by simp [e])
    rw [cutN, if_neg h1, ih (fun e => h (by simp [e]))]
theorem cutN_star (p r : List Nat) (h : 10 ∉ p) : cutN (p ++ 10 :: r) = p :: cutN r := by
  induction p with
  | nil => simp [cutN]
  | cons c q ih =>
    have h1 : c ≠ 10 := fun e => h (by simp [e])
    rw [List.cons_append, cutN, if_neg h1, ih (fun e => h (by simp [e]))]
theorem cutN_glue : ∀ (ps : List (List Nat)), ps ≠ [] → (∀ p ∈ ps, 10 ∉ p) → cutN (glueN ps) = ps
  | [], h, _ => absurd rfl h
  | [p], _, h => by rw [glueN, cutN_free_eq p (h p (by simp))]
  | p :: q :: r, _, h => by
    rw [glueN, cutN_star p _ (h p (by simp)), cutN_glue (q :: r) (by simp) (fun x hx => h x (List.mem_cons_of_mem _ hx))]
theorem gluedN_list (sep : Str) (ps : List Str) : (Builtin.Str.glued sep ps).cps.toList = (ps.headD Str.empty).cps.toList ++ ((ps.drop 1).map fun p => sep.cps.toList ++ p.cps.toList).flatten := by
  unfold Builtin.Str.glued
  have key : ∀ (l : List Str) (a : Array Nat), (l.foldl (fun acc p => acc ++ sep.cps ++ p.cps) a).toList = a.toList ++ (l.map fun p => sep.cps.toList ++ p.cps.toList).flatten := by
    intro l
    induction l with
    | nil => intro a; simp
    | cons p r ih => intro a; rw [List.foldl_cons, ih]; simp
  exact key _ _
theorem glueN_list (p : List Nat) (ps : List (List Nat)) : glueN (p :: ps) = p ++ (ps.map fun q => 10 :: q).flatten := by
  induction ps generalizing p with
  | nil => simp [glueN]
  | cons q r ih => rw [glueN, ih]; simp
theorem nl_eq : nlS = ⟨#[10]⟩ := by decide +kernel
theorem join_glueN : ∀ (ys : List Str), ys ≠ [] → (Txt.join nlS ys).cps.toList = glueN (ys.map (·.cps.toList))
  | [], h => absurd rfl h
  | y :: r, _ => by
    rw [List.map_cons, glueN_list]
    unfold Txt.join
    rw [gluedN_list, nl_eq]
    simp [Function.comp_def]
noncomputable def NoNl (x : Str) : Prop := 10 ∉ x.cps.toList
/-- lines without a line end are what a split of them joined gives -/
theorem split_join {ys : List Str} (hne : ys ≠ []) (hf : ∀ y ∈ ys, NoNl y) : Txt.split (Txt.join nlS ys) nlS = ys := by
  have hj := StrLaws.join_split (Txt.join nlS ys) nlS
  have hs := StrLaws.split_free (Txt.join nlS ys) 10
  rw [← nl_eq] at hs
  have hz : Txt.split (Txt.join nlS ys) nlS ≠ [] := by
    unfold Txt.split
    split
    · simp
    · rw [StrLaws.partsBetween_eq]
      obtain ⟨p, r, e⟩ := StrLaws.partsFrom_ne (Txt.join nlS ys) nlS.length 0 _
      rw [e]; split <;> simp
  generalize Txt.split (Txt.join nlS ys) nlS = zs at *
  have hg : glueN (zs.map (·.cps.toList)) = glueN (ys.map (·.cps.toList)) := by
    rw [← join_glueN zs hz, ← join_glueN ys hne, ← hj, ← StrLaws.glued_eq_join]; rfl
  have h1 := congrArg cutN hg
  rw [cutN_glue, cutN_glue] at h1
  · have inj : ∀ (as bs : List Str), as.map (·.cps.toList) = bs.map (·.cps.toList) → as = bs := by
      intro as
      induction as with
      | nil => intro bs h; cases bs with | nil => rfl | cons => cases h
      | cons a r ih =>
        intro bs h
        cases bs with
        | nil => cases h
        | cons b q =>
          rw [List.map_cons, List.map_cons, List.cons.injEq] at h
          rw [ih q h.2, ← S_of a, ← S_of b, h.1]
    exact inj _ _ h1
  · simpa using hne
  · intro p hp
    obtain ⟨y, hy, rfl⟩ := List.mem_map.mp hp
    exact hf y hy
  · simpa using hz
  · intro p hp
    obtain ⟨y, hy, rfl⟩ := List.mem_map.mp hp
    exact hs y hy
end Mine
end secMNl
section secMComp7
open PySem PySem.W PyProof.Rows PySem.Calls PySem.Spec PyProof.Rows.LCg PyProof.Rows.LCt
namespace Mine
/-- what y = [x for x in src if ct] asks of its source, where the source is made on the way -/
noncomputable def FKA (prog : Program) (w : World) (A : Around) (h₀ : Heap) (L : Addr) (m : Str → Option Value) (env : Env) (ct elt : PySem.Expr) (x y : Str) (scope : Scope) (cl : List (Str × Addr)) (Q : Flow → Shared → Prop) (xv : Value) (s : Shared) : Prop :=
  ∃ (ax : Addr) (vs : List Value) (news : List (Addr × Obj)) (p : Value → Bool), xv = .ref ax ∧ Fr h₀ L s.heap m ∧ News h₀ L s.heap news ∧ SrcAt h₀ ax vs.toArray news ∧ vs.length ≤ 16777216 ∧
    (∀ (i : Nat) v I oI C oC D oD m₂ h tk (E' : Value → Shared → Prop), vs[i]? = some v → NsObj oC m₂ → m₂ x = some v → Fr h₀ L h m → News h₀ L h ((I, oI) :: (C, oC) :: (D, oD) :: news) → (∀ q ∈ news, q.1 ≠ I ∧ q.1 ≠ C ∧ q.1 ≠ D) → ((@Ne Nat I C) ∧ (@Ne Nat I D) ∧ (@Ne Nat C D)) →
      wpAny (model prog w) A (isTrue ct (compEnvC scope cl C env) (eval ct (compEnvC scope cl C env))) (TestIs (p v) (fun s' => wpAny (model prog w) A (eval elt (compEnvC scope cl C env)) (EltV h₀ L m ((I, oI) :: (C, oC) :: (D, oD) :: news) { s with heap := h, toks := tk } v) E' s') (Quiet h₀ L m ((I, oI) :: (C, oC) :: (D, oD) :: news) { s with heap := h, toks := tk })) E' { s with heap := h, toks := tk }) ∧
    ∀ D h tk, Fr h₀ L h (fun z => if z = y then some (.ref D) else m z) → News h₀ L h ((D, lst (vs.filter p)) :: news) → (∀ q ∈ news, q.1 ≠ D) → Q .next { s with heap := h, toks := tk }
theorem compFKA {prog : Program} {w : World} {A : Around} {E : Value → Shared → Prop} {s : Shared} {h₀ : Heap} {L : Addr} {m : Str → Option Value} {env : Env} {ct elt iter : PySem.Expr} {x y : Str} {px py : Pos} {scope : Scope} {cl : List (Str × Addr)} {pos spos : Pos} {Q : Flow → Shared → Prop}
    (hh : A.handled = none) (F₀ : Fr h₀ L s.heap m) (hLe : env.locals = L)
    (hsw : swapsWith (.ListComp elt [⟨.Name x px, iter, [ct], 0⟩] scope pos) (some (.Name y py)) spos.line env = pure true)
    (hclos : closureFor scope env = pure cl) (hcell : ∀ z ∈ scope.names, z.2 ≠ .cell) (hkind : scope.kind = .function)
    (hnames : ∀ z ∈ scope.names, z.2 = .local → scope.names.lookup z.1 = some .local) (hx : scope.names.lookup x = some .local)
    (hy : env.kindOf y = some .local) (hp : (env.scope.kind == .class || (env.scope.kind == .module && env.locals != env.globals)) = false)
    (hiter : wpAny (model prog w) A (eval iter env) (FKA prog w A h₀ L m env ct elt x y scope cl Q) E s) (hs : ∀ x, foldedSetIterable iter env x = pure x := by intro _; rfl) :
    wpAny (model prog w) A (exec (.Assign [.Name y py] (.ListComp elt [⟨.Name x px, iter, [ct], 0⟩] scope pos) spos) env) Q E s := by
  refine Assign_ListComp_T F₀ hLe hsw hclos hcell hkind hnames hx hy hp (wpAny_mono hiter (fun xv s₁ h₁ => ?_) fun _ _ e => e) hs
  obtain ⟨ax, vs, news, p, rfl, F₁, N₁, hS, hsz, turn, fin⟩ := h₁
  refine .inl ⟨ax, vs.toArray, news, rfl, hh, F₁, N₁, hS, by rw [List.size_toArray, sizeLine_eq]; exact hsz, ?_⟩
  rintro s₂ ⟨g, rfl⟩
  rw [List.size_toArray]
  exact restF (s := { s₁ with heap := g }) (vs := vs) (Fin := FinA h₀ L m { s₁ with heap := g } y Q) p hS (fun i v _ hv => by rw [List.getElem?_toArray] at hv; exact hv)
    turn (fun D h tk F N off => fin D h tk F N (off1_mem off)) vs.length 0 (by omega)
end Mine
end secMComp7
section secMNe
namespace Mine
theorem dats_of {news : List (Addr × Obj)} : ∀ {vs : List Value} {ss : List Str}, StrsAre vs ss → DatAll news vs (ss.map Dat.str)
  | _, _, .nil => .nil
  | _, _, .cons x t r => .cons (.str x t) (dats_of r)
theorem ne_nilS {prog : Program} {w : World} {A : Around} {E : Value → Shared → Prop} {s : Shared} {Q : Value → Shared → Prop} {h₀ : Heap} {L a b : Addr} {news : List (Addr × Obj)} {vs : List Value} {ss : List Str} {n m : Nat} (N : News h₀ L s.heap news) (ma : (a, W.listOf vs.toArray n) ∈ news) (mb : (b, W.listOf (([] : List Value)).toArray m) ∈ news)
    (hs : StrsAre vs ss) (hk : ∀ x ∈ ss, PyData.strOk x = true) (hu : A.units + 64 < cLine) (h : Q (.bool (!ss.isEmpty)) s) : wpAny (model prog w) A (compareOp .NotEq (.ref a) (.ref b)) Q E s := by
  refine kqd_ne (ds := ss.map Dat.str) (es := []) N ma rfl rfl (dats_of hs) (fun _ hp => hp) mb rfl rfl .nil (fun _ hp => hp) ?_ (fun _ hd => nomatch hd) hu ?_
  · intro d hd
    obtain ⟨x, hx, rfl⟩ := List.mem_map.mp hd
    exact hk x hx
  · cases ss with
    | nil => rw [show (!decide (List.map Dat.str [] = [])) = false from by simp]; exact h
    | cons x r => rw [show (!decide (List.map Dat.str (x :: r) = [])) = true from by simp]; exact h
end Mine
end secMNe
namespace Mine
open_top hd10 for PySem.Challenge.rw_dn0256_10
end Mine
section secA10n
namespace Mine
local macro_rules | `(tactic| walk_at "go") => `(tactic| repeat' (first | (k_unfold; (try dsimp only)) | walk1 | (dsimp only; walk1)))
/-- Entry() -/
theorem ct_new {w : World} {A : Around} {s : Shared} {Q E : Value → Shared → Prop} {mean : ExcName → Option Value} {mg mb : Str → Option Value}
   (X : (hd10.heap_39 w.params).In s.heap) (T : Top hd10.view_39 (looseW hd10.view_39 []) mean mg mb s.heap) (hd : A.depth + 3 < recursionLimit) (hh : A.handled = none)
   (hQ : ∀ h' tk R, Ext s.heap h' → RecAt w.params 59 h' R → R.us = [] → R.ls = [] → R.dv = .none → R.rv = .none → RecNew s.heap R → Apart R →
     Q (.ref R.r) {s with heap := h', toks := tk}) :
   wpAny (model Challenge.rw_dn0256_10.row.prog w) A (call (.ref 59) []) Q E s := by
  revert X
  k_fill
  intro X
  obtain ⟨hp, g, dr, tk, os⟩ := s
  refine wpAny_call ?_
  refine make_core (makes_of X (by k_is)) (looks_findIn X (by k_is)) (fun self => bind_fn X self (by k_is)) (.inl rfl) ?_
  have hz : (hp.push emptyDict).objs.size = hp.objs.size + 1 := Heap.size_push ..
  have e0 : Ext hp ((hp.push emptyDict).push (instObj 59 hp.objs.size)) := fun b o e => Heap.get?_push_of_some _ (Heap.get?_push_of_some _ e)
  have X2 := X.keeps e0
  refine' call_defK (f := 35) X2 ?k6 ?k7 (T.keeps e0).nolimit (by (simp only [depth_under_make]; omega)) ?k9 ?kB ?_ ?c2 ?c3 ?c4 ?c5
  case k6 => k_is
  case k7 => k_is
  case k9 => exact BindsTo.of_eq rfl
  case kB => exact locs rfl
  case c2 => exact rfl
  case c3 => exact rfl
  case c4 => exact rfl
  case c5 => decide
  intro h₁ tk1 F0
  replace F0 : Fr ((hp.push emptyDict).push (instObj 59 hp.objs.size)) ((hp.push emptyDict).push (instObj 59 hp.objs.size)).objs.size h₁ (fun y => [(Str.ofString "self", Value.ref (hp.objs.size + 1))].reverse.lookup y) := F0
  have hz2 : ((hp.push emptyDict).push (instObj 59 hp.objs.size)).objs.size = hp.objs.size + 2 := by rw [Heap.size_push, hz]
  have F : Fr hp _ h₁ _ := Fr.lower F0 e0 (by rw [hz2]; exact Nat.le_add_right _ _)
  have e1 : ((hp.push emptyDict).push (instObj 59 hp.objs.size)).get? hp.objs.size = some (dictOf [] 0) := Heap.get?_push_of_some _ (Heap.get?_push_size _ rfl)
  have e2 : ((hp.push emptyDict).push (instObj 59 hp.objs.size)).get? (hp.objs.size + 1) = some (instObj 59 hp.objs.size) := by rw [← hz]; exact Heap.get?_push_size _ rfl
  have fresh : ∀ a, hp.objs.size ≤ a → hp.get? a = none := fun a ha => by
    cases e : hp.get? a with
    | none => rfl
    | some o' => exact absurd (Heap.lt_size e) (Nat.not_lt.mpr ha)
  have N : News hp ((hp.push emptyDict).push (instObj 59 hp.objs.size)).objs.size h₁ [(hp.objs.size + 1, instObj 59 hp.objs.size), (hp.objs.size, dictOf [] 0)] := by
    intro q hq
    simp only [List.mem_cons, List.not_mem_nil, or_false] at hq
    rcases hq with rfl | rfl
    · exact ⟨F0.keep _ _ e2, by rw [hz2]; exact Nat.ne_of_lt (Nat.lt_succ_self _), fresh _ (Nat.le_succ _)⟩
    · exact ⟨F0.keep _ _ e1, by rw [hz2]; exact Nat.ne_of_lt (Nat.lt_add_of_pos_right (by decide)), fresh _ (Nat.le_refl _)⟩
  clear F0 X2 e1 e2
  walk_at "go"
  rename Fr _ _ _ _ => F9
  rename News _ _ _ _ => N9
  refine ⟨rfl, ?_⟩
  obtain ⟨R, hRr, hR, u1, u2, u3, u4, u5, u6⟩ := rec_new (us := []) (ls := []) N9 (List.Mem.head _) (List.Mem.tail _ (List.Mem.head _)) (List.Mem.tail _ (List.Mem.tail _ (List.Mem.head _))) (List.Mem.tail _ (List.Mem.tail _ (List.Mem.tail _ (List.Mem.head _)))) (Nat.ne_of_lt (by omega))
  rw [← hRr]
  exact hQ _ _ R (fun b o e => F9.keep b o e) hR u1 u2 u3 u4 u5 u6
end Mine
end secA10n
section secA10m
namespace Mine
noncomputable def keepIn (ss : List Str) : Value → Bool
  | .str x _ => ss.contains x
  | _ => false
noncomputable def Handed (v : Value) : Prop := handedIn v = true
local macro_rules | `(tactic| walk_at "go") => `(tactic| repeat' (first | (k_unfold; (try dsimp only)) | walk1 | (dsimp only; walk1)))
local macro_rules | `(tactic| walk_at $k9:str) => if ["call type:set", "call ref", "call type:filter", "call type:list", "binaryOp Add ref ref", "compareOp Is", "compareOp Is none"].contains k9.getString then `(tactic| refine Stop.of ?_) else Lean.Macro.throwUnsupported
local macro_rules | `(tactic| walk_at "getAttr ref") => `(tactic| ((with_reducible show wpAny _ _ (getAttr _ (Str.ofString "__contains__") _) _ _ _); refine Stop.of ?_))
local macro_rules | `(tactic| k_inst) => `(tactic| (refine instBase (by with_reducible assumption) (by with_reducible assumption) (by with_reducible assumption)))
local macro_rules | `(tactic| k_ne) => `(tactic| first | with_reducible assumption | (refine Ne.symm ?_; with_reducible assumption))
local macro_rules | `(tactic| k_handed) => `(tactic| (with_reducible assumption))
theorem ct_merge {w : World} {A : Around} {s : Shared} {Q E : Value → Shared → Prop} {mean : ExcName → Option Value} {mg mb : Str → Option Value} {R1 R2 : RecD} {ss1 ss2 : List Str}
   (X : (hd10.heap_39 w.params).In s.heap) (T : Top hd10.view_39 (looseW hd10.view_39 []) mean mg mb s.heap) (hd : A.depth + 10 < recursionLimit) (hh : A.handled = none)
   (x1 : RecAt w.params 59 s.heap R1) (x2 : RecAt w.params 59 s.heap R2) (hs1 : StrsAre R1.us ss1) (hs2 : StrsAre R2.us ss2) (hn1 : ss1.length ≤ 200) (hn2 : ss2.length ≤ 200) (hm1 : R1.ls.length ≤ 400) (hm2 : R2.ls.length ≤ 400)
   (v1 : Handed R1.dv) (v2 : Handed R2.dv) (v3 : Handed R1.rv) (v4 : Handed R2.rv)
   (hQ : ∀ h' tk R, Ext s.heap h' → RecAt w.params 59 h' R → R.us = R1.us.filter (keepIn ss2) → R.ls = R1.ls ++ R2.ls → R.dv = (if noneV R2.dv then R1.dv else R2.dv) → R.rv = (if noneV R2.rv then R1.rv else R2.rv) →
     RecNew s.heap R → Apart R → Q (.ref R.r) {s with heap := h', toks := tk}) :
   wpAny (model Challenge.rw_dn0256_10.row.prog w) A (call (.ref 70) [.ref R1.r, .ref R2.r]) Q E s := by
  revert X
  k_fill
  intro X
  have x1' := x1
  have x2' := x2
  obtain ⟨r1, d1, u1, l1, us1, ls1, dv1, rv1, a1, a2, a3, a4, cu1, cl1⟩ := R1
  obtain ⟨r2, d2, u2, l2, us2, ls2, dv2, rv2, b1, b2, b3, b4, cu2, cl2⟩ := R2
  obtain ⟨y1, y2, y3, y4⟩ := x1'
  obtain ⟨z1, z2, z3, z4⟩ := x2'
  dsimp only [recDict, Handed] at y1 y2 y3 y4 z1 z2 z3 z4 hs1 hs2 hm1 hm2 hQ v1 v2 v3 v4
  clear x1 x2
  refine wpAny_call ?_
  refine call_pos_ret (by omega) (X _ _ rfl) rfl T.nolimit (codeRec_of X (by k_is)) rfl (locs rfl) (fun h₁ F => ?_)
  replace F : Fr s.heap s.heap.objs.size h₁ (fun y => [(Str.ofString "e1", Value.ref r1), (Str.ofString "e2", Value.ref r2)].reverse.lookup y) := F
  have N : News s.heap s.heap.objs.size h₁ [] := News.nil
  walk_at "go"
  refine Stop.go ?_
  refine ct_new (Frag.In.keeps X F.keep) (Top.keeps T F.keep) (by (simp only [depth_deeper]; omega)) hh (fun h2 tk2 R e2 x3 q1 q2 q3 q4 hnew hap => ?_)
  have F2 := F.keeps e2
  have N2 := rec_led F x3 hnew
  clear F N e2 x3 hnew
  obtain ⟨r, d, u, l, us, ls, dv, rv, k1, k2, k3, k4, cu, cl⟩ := R
  dsimp only [recDict] at q1 q2 q3 q4 N2 hap ⊢
  subst q1 q2 q3 q4
  obtain ⟨c1, c2, c3, c4, c5, c6⟩ := hap
  dsimp only at c1 c2 c3 c4 c5 c6
  walk_at "go"
  refine Stop.go ?_
  have lu1 : s.heap.IsList u1 us1.toArray := ⟨_, y3, rfl, _, rfl⟩
  have lu2 : s.heap.IsList u2 us2.toArray := ⟨_, z3, rfl, _, rfl⟩
  have ll1 : s.heap.IsList l1 ls1.toArray := ⟨_, y4, rfl, _, rfl⟩
  have ll2 : s.heap.IsList l2 ls2.toArray := ⟨_, z4, rfl, _, rfl⟩
  have hul := hs2.length
  have hul1 := hs1.length
  rename Fr _ _ _ _ => F3
  rename News _ _ _ _ => N3
  refine call_setS hh (lu2.at fun o e => F3.keep _ _ e) hs2 (by omega) (fun h4 tk4 n4 hS4 e4 => ?_)
  have F4 := F3.keeps e4
  have N4 := newsExt N3 e4
  clear F3 N3 e4
  dsimp only
  walk_at "go"
  refine Stop.go ?_
  refine attr_in hS4 (fun h5 tk5 hb5 e5 => ?_)
  have F5 := F4.keeps e5
  have N5 := newsExt N4 e5
  have hS5 := SetOf.ext hS4 e5
  clear F4 N4 e5 hS4
  dsimp only at hb5 ⊢
  walk_at "go"
  refine Stop.go ?_
  refine call_filter (lu1.at fun o e => F5.keep _ _ e) (fun h6 hM hIt hz e6 => ?_)
  dsimp only at hM hIt hz e6 ⊢
  walk_at "go"
  refine Stop.go ?_
  refine call_list_filter (keep := keepIn ss2) hh e6 hz hM hIt (lu1.at fun o e => F5.keep _ _ e) (by omega) ?_ ?_
  · intro i x s' Q' E' hi he' hq'
    obtain ⟨tx, rfl⟩ := strsAt hs1 i x hi
    refine call_in (he' _ _ hb5) (SetOf.ext hS5 he') ?_
    exact hq' _ _ (fun _ _ e => e)
  intro h7 tk7 c7 e7 n7 o7
  dsimp only at n7 o7 ⊢
  generalize h6.objs.size = un at n7 o7 ⊢
  have g1 := ne_fresh N5 (List.Mem.head _) n7
  have g2 := ne_fresh N5 (List.Mem.tail _ (List.Mem.head _)) n7
  have g3 := ne_fresh N5 (List.Mem.tail _ (List.Mem.tail _ (List.Mem.head _))) n7
  have g4 := ne_fresh N5 (List.Mem.tail _ (List.Mem.tail _ (List.Mem.tail _ (List.Mem.head _)))) n7
  have F7 := F5.keeps e7
  have N7 := news_fresh F5 (newsExt N5 e7) n7 o7
  clear F5 N5 e7 n7 o7 hS5 hM hIt hz e6 hb5
  walk_at "go"
  refine Stop.go ?_
  rename Fr _ _ _ _ => F8
  rename News _ _ _ _ => N8
  refine add_listsK F8 N8 (ll1.at fun o e => F8.keep _ _ e) (ll2.at fun o e => F8.keep _ _ e) (fun ln h9 F9 N9 n9 => ?_) (by omega)
  have j0 := n9 _ (List.Mem.head _)
  have j1 := n9 _ (List.Mem.tail _ (List.Mem.head _))
  have j2 := n9 _ (List.Mem.tail _ (List.Mem.tail _ (List.Mem.head _)))
  have j3 := n9 _ (List.Mem.tail _ (List.Mem.tail _ (List.Mem.tail _ (List.Mem.head _))))
  have j4 := n9 _ (List.Mem.tail _ (List.Mem.tail _ (List.Mem.tail _ (List.Mem.tail _ (List.Mem.head _)))))
  dsimp only at j0 j1 j2 j3 j4
  clear F8 N8 n9
  walk_at "go"
  refine Stop.go ?_
  refine is_noneV ?_
  cases hb1 : noneV dv2
  all_goals
    walk_at "go"
    refine Stop.go ?_
    refine is_noneV ?_
    cases hb2 : noneV rv2
    all_goals
      walk_at "go"
      rename Fr _ _ _ _ => F9
      rename News _ _ _ _ => N9
      obtain ⟨R, hRr, hR, u1, u2, u3, u4, u5, u6⟩ := rec_new N9 (List.Mem.head _) (List.Mem.tail _ (List.Mem.head _)) (List.Mem.tail _ (List.Mem.tail _ (List.Mem.tail _ (List.Mem.tail _ (List.Mem.head _))))) (List.Mem.tail _ (List.Mem.tail _ (List.Mem.tail _ (List.Mem.tail _ (List.Mem.tail _ (List.Mem.head _)))))) (Ne.symm j0)
      dsimp only
      rw [← hRr]
      refine hQ _ _ R (fun b o e => F9.keep b o e) hR u1 u2 ?_ ?_ u5 u6
      · first | (rw [u3, if_pos hb1]) | (rw [u3, if_neg (by rw [hb1]; decide)])
      · first | (rw [u4, if_pos hb2]) | (rw [u4, if_neg (by rw [hb2]; decide)])
end Mine
end secA10m
section secA10r
namespace Mine
local macro_rules | `(tactic| walk_at "go") => `(tactic| repeat' (first | (k_unfold; (try dsimp only)) | walk1 | (dsimp only; walk1)))
local macro_rules | `(tactic| walk_at "call ref") => `(tactic| refine Stop.of ?_)
local macro_rules | `(tactic| k_ne) => `(tactic| first | with_reducible assumption | (refine Ne.symm ?_; with_reducible assumption))
local macro_rules | `(tactic| k_handed) => `(tactic| (with_reducible assumption))
/-- a rate made by the law -/
structure RateD where
  r : Addr
  d : Addr
  u : Addr
  l : Addr
  q : Value
  s : Value
  k1 : Tok
  k2 : Tok
  k3 : Tok
  k4 : Tok
  k5 : Tok
  k6 : Tok
noncomputable def rateDict (p : Params) (D : RateD) : Obj :=
  dictOf [{ hash := PyData.keyHash p (Str.ofString "useragents"), key := Value.str (Str.ofString "useragents") D.k1, val := Value.ref D.u },
     { hash := PyData.keyHash p (Str.ofString "rulelines"), key := Value.str (Str.ofString "rulelines") D.k2, val := Value.ref D.l },
     { hash := PyData.keyHash p (Str.ofString "delay"), key := Value.str (Str.ofString "delay") D.k3, val := Value.none },
     { hash := PyData.keyHash p (Str.ofString "req_rate"), key := Value.str (Str.ofString "req_rate") D.k4, val := Value.none },
     { hash := PyData.keyHash p (Str.ofString "requests"), key := Value.str (Str.ofString "requests") D.k5, val := D.q },
     { hash := PyData.keyHash p (Str.ofString "seconds"), key := Value.str (Str.ofString "seconds") D.k6, val := D.s }] 6
noncomputable def rateLed (p : Params) (D : RateD) : List (Addr × Obj) := [(D.r, instObj 59 D.d), (D.d, rateDict p D)]
structure RateAt (p : Params) (h : Heap) (D : RateD) : Prop where
  hr : h.get? D.r = some (instObj 59 D.d)
  hd : h.get? D.d = some (rateDict p D)
theorem RateAt.ext {p : Params} {h h' : Heap} {D : RateD} (x : RateAt p h D) (e : Ext h h') : RateAt p h' D := ⟨e _ _ x.hr, e _ _ x.hd⟩
theorem rateLed_at {p : Params} {h₀ h : Heap} {L : Addr} {D : RateD} {news : List (Addr × Obj)} (N : News h₀ L h news) (hin : ∀ q ∈ rateLed p D, q ∈ news) : RateAt p h D :=
  ⟨(N _ (hin _ (List.Mem.head _))).1, (N _ (hin _ (List.Mem.tail _ (List.Mem.head _)))).1⟩
noncomputable def RateNew (h : Heap) (D : RateD) : Prop := h.get? D.r = none ∧ h.get? D.d = none
theorem rate_led {p : Params} {L : Addr} {h₀ h₁ h : Heap} {m : Str → Option Value} {D : RateD} (F : Fr h₀ L h₁ m) (x : RateAt p h D) (n : RateNew h₁ D) : News h₀ L h (rateLed p D) :=
  news_fresh F (news_fresh F (fun _ h => nomatch h) n.2 x.hd) n.1 x.hr
theorem rate_fresh {p : Params} {h : Heap} {D : RateD} (n : RateNew h D) : ∀ q ∈ rateLed p D, h.get? q.1 = none := fun q hq => by
  simp only [rateLed, List.mem_cons, List.not_mem_nil, or_false] at hq
  rcases hq with rfl | rfl
  · exact n.1
  · exact n.2
theorem rate_new {p : Params} {L x d u l : Addr} {h₀ h : Heap} {k1 k2 k3 k4 k5 k6 : Tok} {v1 v2 : Value} {rest : List (Addr × Obj)} (N : News h₀ L h rest) (n3 : (x, instObj 59 d) ∈ rest)
      (n4 : (d, rateDict p ⟨x, d, u, l, v1, v2, k1, k2, k3, k4, k5, k6⟩) ∈ rest) :
    ∃ D : RateD, D.r = x ∧ RateAt p h D ∧ D.q = v1 ∧ D.s = v2 ∧ RateNew h₀ D :=
  ⟨⟨x, d, u, l, v1, v2, k1, k2, k3, k4, k5, k6⟩, rfl, ⟨(N _ n3).1, (N _ n4).1⟩, rfl, rfl, (N _ n3).2.2, (N _ n4).2.2⟩
theorem ct_rate {w : World} {A : Around} {s : Shared} {Q E : Value → Shared → Prop} {mean : ExcName → Option Value} {mg mb : Str → Option Value} {v1 v2 : Value}
   (X : (hd10.heap_39 w.params).In s.heap) (T : Top hd10.view_39 (looseW hd10.view_39 []) mean mg mb s.heap) (hd : A.depth + 10 < recursionLimit) (hh : A.handled = none)
   (h1 : Handed v1) (h2 : Handed v2)
   (hQ : ∀ h' tk D, Ext s.heap h' → RateAt w.params h' D → D.q = v1 → D.s = v2 → RateNew s.heap D → Q (.ref D.r) {s with heap := h', toks := tk}) :
   wpAny (model Challenge.rw_dn0256_10.row.prog w) A (call (.ref 77) [v1, v2]) Q E s := by
  revert X
  k_fill
  intro X
  refine wpAny_call ?_
  refine call_pos_ret (by omega) (X _ _ rfl) rfl T.nolimit (codeRec_of X (by k_is)) rfl (locs rfl) (fun h₁ F => ?_)
  replace F : Fr s.heap s.heap.objs.size h₁ (fun y => [(Str.ofString "requests", v1), (Str.ofString "seconds", v2)].reverse.lookup y) := F
  have N : News s.heap s.heap.objs.size h₁ [] := News.nil
  dsimp only [Handed] at h1 h2
  walk_at "go"
  refine Stop.go ?_
  refine ct_new (Frag.In.keeps X F.keep) (Top.keeps T F.keep) (by (simp only [depth_deeper]; omega)) hh (fun h2 tk2 R e2 x3 q1 q2 q3 q4 hnew hap => ?_)
  have F2 := F.keeps e2
  have N2 := rec_led F x3 hnew
  clear F N e2 x3 hnew
  obtain ⟨r, d, u, l, us, ls, dv, rv, k1, k2, k3, k4, cu, cl⟩ := R
  dsimp only [recDict] at q1 q2 q3 q4 N2 hap ⊢
  subst q1 q2 q3 q4
  obtain ⟨c1, c2, c3, c4, c5, c6⟩ := hap
  dsimp only at c1 c2 c3 c4 c5 c6
  walk_at "go"
  rename Fr _ _ _ _ => F9
  rename News _ _ _ _ => N9
  obtain ⟨D, hD, xD, u1, u2, u3⟩ := rate_new N9 (List.Mem.tail _ (List.Mem.tail _ (List.Mem.head _))) (List.Mem.tail _ (List.Mem.tail _ (List.Mem.tail _ (List.Mem.head _))))
  dsimp only
  rw [← hD]
  exact hQ _ _ D (fun b o e => F9.keep b o e) xD u1 u2 u3
end Mine
end secA10r
section secA10s
namespace Mine
local macro_rules | `(tactic| walk_at "go") => `(tactic| repeat' (first | (k_unfold; (try dsimp only)) | walk1 | (dsimp only; walk1)))
local macro_rules | `(tactic| walk_at $k9:str) => if ["exec For Name Attribute cons nil", "pyIter ref", "InvEndG", "call type:map", "call builtin:list.extend", "call builtin:str.join", "truthy ref", "MidS"].contains k9.getString then `(tactic| refine Stop.of ?_) else Lean.Macro.throwUnsupported
local macro_rules | `(tactic| k_inst) => `(tactic| (refine instBase (by with_reducible assumption) (by with_reducible assumption) (by with_reducible assumption)))
local macro_rules | `(tactic| k_ne) => `(tactic| first | with_reducible assumption | (refine Ne.symm ?_; with_reducible assumption))
local macro_rules | `(tactic| k_handed) => `(tactic| (with_reducible assumption))
local macro_rules | `(tactic| walk_at "newList") => `(tactic| (k_here; k_dflt (refine' newList_K ?k1 ?k2 ?_ ?z; (case k1 => with_reducible assumption); (case k2 => with_reducible assumption); (case z => rw [sizeLine_eq]; exact Nat.le_of_ble_eq_true rfl); k_whole); intro l' h' F' N' l1; (try k_lt l1); (try k_sweep)))
local macro_rules | `(tactic| walk_at "execs cons Assign cons") => `(tactic| walk_at "execs cons")
local macro_rules | `(tactic| walk_at "formatField str") => `(tactic| (k_here; refine formatField_str ?_ (by rw [sizeLine_eq]; first | omega | decide); intro _ _))
theorem strs_get : ∀ {vs : List Value} {ss : List Str}, StrsAre vs ss → ∀ {i : Nat} {v : Value}, vs[i]? = some v → ∃ x t, v = .str x t ∧ ss[i]? = some x
  | _, _, .nil, i, v, h => by simp at h
  | _, _, .cons x t r, 0, v, h => ⟨x, t, by simpa using h.symm, rfl⟩
  | _, _, .cons x t r, i + 1, v, h => strs_get r (i := i) (by simpa using h)
theorem strs_app : ∀ {vs us : List Value} {ss ts : List Str}, StrsAre vs ss → StrsAre us ts → StrsAre (vs ++ us) (ss ++ ts)
  | _, _, _, _, .nil, h => h
  | _, _, _, _, .cons x t r, h => .cons x t (strs_app r h)
theorem strs_snoc {vs : List Value} {ss : List Str} {x y : Str} {t : Tok} (h : StrsAre vs ss) (e : y = x) : StrsAre (vs ++ [.str y t]) (ss ++ [x]) := by subst e; exact strs_app h (.cons y t .nil)
theorem take_map {ss : List Str} {i : Nat} {x : Str} {f : Str → Str} (h : ss[i]? = some x) : (ss.map f).take (i + 1) = (ss.map f).take i ++ [f x] := by
  rw [List.take_add_one, List.getElem?_map, h]; rfl
local macro_rules | `(tactic| walk_at "call builtin:list.append") => `(tactic| (k_here; (try dsimp only [List.cons_append, List.nil_append]); (with_reducible show wpAny _ _ (call (Value.builtin _) [Value.ref _, _]) _ _ _); k_dflt (refine' append_K ?k1 ?k2 ?k3 ?_ ?z; (case k1 => with_reducible assumption); (case k2 => with_reducible assumption); (case k3 => k_upd); (case z => first | exact (show Fits _ from (by with_reducible assumption)) | size_fits); k_whole); intro h' F' N'; (try k_sweep)))
structure StopIf : Prop where
  t : True
local macro_rules | `(tactic| walk_at "exec If") => `(tactic| ((with_reducible rename StopIf => hSI9); refine Stop.of ?_))
noncomputable def uaL (x : Str) : Str := Str.ofString "User-agent: " ++ x
/-- the delay's lines -/
noncomputable def DvIs (v : Value) (ls : List Str) : Prop :=
  (v = .none ∧ ls = []) ∨ (∃ t, v = .int 0 t ∧ ls = [Str.ofString "Crawl-delay: 0"]) ∨ (∃ t, v = .int 12 t ∧ ls = [Str.ofString "Crawl-delay: 12"])
/-- the rate's line -/
noncomputable def RateIs (D : RateD) (ls : List Str) : Prop :=
  (∃ t u, D.q = .int 0 t ∧ D.s = .int 1 u ∧ ls = [Str.ofString "Request-rate: 0/1"]) ∨ (∃ t u, D.q = .int 30 t ∧ D.s = .int 7 u ∧ ls = [Str.ofString "Request-rate: 30/7"]) ∨
  (∃ t u, D.q = .int 0 t ∧ D.s = .str (Str.ofString "none") u ∧ ls = [Str.ofString "Request-rate: 0/none"])
noncomputable def RvIs (p : Params) (h : Heap) (v : Value) (ls : List Str) : Prop := (v = .none ∧ ls = []) ∨ ∃ D, v = .ref D.r ∧ RateAt p h D ∧ RateIs D ls
noncomputable def ruL (ts : List Str) : List Str := if ts.isEmpty then [Str.ofString "Allow:"] else ts
noncomputable def lineS (ss ds rs ts : List Str) : List Str := ss.map uaL ++ ds ++ rs ++ ruL ts
noncomputable def MidS (g : Heap) (L : Addr) (m₀ : Str → Option Value) (st : List Str) (lr : Addr) (lines : List Str) (s : Shared) (fl : Flow) (s' : Shared) : Prop :=
  fl = .next ∧ ∃ h' tk m' ys c, s' = { s with heap := h', toks := tk } ∧ Fr g L h' m' ∧ News g L h' [(lr, W.listOf ys.toArray c)] ∧ StrsAre ys lines ∧ ∀ y, st.contains y = false → m' y = m₀ y
noncomputable def J10s (m₀ : Str → Option Value) (lr : Addr) (lines : List Str) (i : Nat) (m₁ : Str → Option Value) (nx : List (Addr × Obj)) : Prop :=
  ∃ ys c, nx = [(lr, W.listOf ys.toArray c)] ∧ StrsAre ys (lines.take i) ∧ ∀ y, [Str.ofString "agent"].contains y = false → m₁ y = m₀ y
theorem ruL_len (ts : List Str) : (ruL ts).length ≤ ts.length + 1 := by
  unfold ruL; split <;> simp
theorem lineS_le {ss ds rs ts : List Str} (h1 : ∀ x ∈ ss, x.length ≤ 20) (h2 : ∀ x ∈ ts, x.length ≤ 20) (h3 : ∀ x ∈ ds, x.length ≤ 40) (h4 : ∀ x ∈ rs, x.length ≤ 40) : ∀ x ∈ lineS ss ds rs ts, x.length ≤ 40 := by
  intro x hx
  unfold lineS ruL at hx
  simp only [List.mem_append, List.mem_map] at hx
  rcases hx with ((⟨y, hy, rfl⟩ | hx) | hx) | hx
  · unfold uaL
    rw [Str.length_append]
    have := h1 y hy
    have e : (Str.ofString "User-agent: ").length = 12 := by decide +kernel
    omega
  · exact h3 x hx
  · exact h4 x hx
  · split at hx
    · rw [List.mem_singleton] at hx; subst hx; decide +kernel
    · have := h2 x hx; omega
theorem dvIs_le {v : Value} {ls : List Str} (h : DvIs v ls) : ∀ x ∈ ls, x.length ≤ 40 := by
  rcases h with ⟨_, rfl⟩ | ⟨_, _, rfl⟩ | ⟨_, _, rfl⟩
  · exact fun _ h => nomatch h
  all_goals
    intro x hx
    rw [List.mem_singleton] at hx; subst hx; decide +kernel
theorem rateIs_le {D : RateD} {ls : List Str} (h : RateIs D ls) : ∀ x ∈ ls, x.length ≤ 40 := by
  rcases h with ⟨_, _, _, _, rfl⟩ | ⟨_, _, _, _, rfl⟩ | ⟨_, _, _, _, rfl⟩
  all_goals
    intro x hx
    rw [List.mem_singleton] at hx; subst hx; decide +kernel
theorem rvIs_le {p : Params} {h : Heap} {v : Value} {ls : List Str} (x : RvIs p h v ls) : ∀ x ∈ ls, x.length ≤ 40 := by
  rcases x with ⟨_, rfl⟩ | ⟨_, _, _, h⟩
  · exact fun _ h => nomatch h
  · exact rateIs_le h
theorem fits_len {ys : List Value} {ls : List Str} (h : StrsAre ys ls) (hn : ls.length ≤ 100000) : Fits ys.toArray.size := by
  show _ ≤ sizeLine
  rw [List.size_toArray, h.length, sizeLine_eq]; omega
theorem dvIs_len {v : Value} {ls : List Str} (h : DvIs v ls) : ls.length ≤ 1 := by
  rcases h with ⟨_, rfl⟩ | ⟨_, _, rfl⟩ | ⟨_, _, rfl⟩ <;> simp
theorem rateIs_len {D : RateD} {ls : List Str} (h : RateIs D ls) : ls.length ≤ 1 := by
  rcases h with ⟨_, _, _, _, rfl⟩ | ⟨_, _, _, _, rfl⟩ | ⟨_, _, _, _, rfl⟩ <;> simp
theorem rvIs_len {p : Params} {h : Heap} {v : Value} {ls : List Str} (x : RvIs p h v ls) : ls.length ≤ 1 := by
  rcases x with ⟨_, rfl⟩ | ⟨_, _, _, h⟩
  · simp
  · exact rateIs_len h
theorem end10s {g h' : Heap} {L : Addr} {s₁ : Shared} {m₀ m' : Str → Option Value} {lr : Addr} {lines : List Str} {i tk c : Nat} {ys : List Value} {own news' : List (Addr × Obj)} (F : Fr g L h' m') (N : News g L h' news') (hin : ∀ q ∈ (lr, W.listOf ys.toArray c) :: own, q ∈ news') (hoff : OwnOff own [lr])
    (hys : StrsAre ys (lines.take (i + 1))) (hm : ∀ y, [Str.ofString "agent"].contains y = false → m' y = m₀ y) : InvEndG g L (J10s m₀ lr lines (i + 1)) own s₁ { s₁ with heap := h', toks := tk } :=
  InvEndG.intro (nx := [(lr, W.listOf ys.toArray c)]) F N ⟨ys, c, rfl, hys, hm⟩ hoff (fun q hq => hin q (by rw [List.mem_singleton] at hq; rw [hq]; exact List.Mem.head _)) (fun q hq => hin q (List.Mem.tail _ hq))
theorem mid10 {g h' : Heap} {L : Addr} {s₁ : Shared} {m₀ m' : Str → Option Value} {st : List Str} {lr : Addr} {lines : List Str} {tk c : Nat} {ys : List Value} {news' : List (Addr × Obj)} (F : Fr g L h' m') (N : News g L h' news') (hin : (lr, W.listOf ys.toArray c) ∈ news')
    (hys : StrsAre ys lines) (hm : ∀ y, st.contains y = false → m' y = m₀ y) : MidS g L m₀ st lr lines s₁ .next { s₁ with heap := h', toks := tk } :=
  ⟨rfl, h', tk, m', ys, c, rfl, F, fun q hq => by rw [List.mem_singleton] at hq; rw [hq]; exact N _ hin, hys, hm⟩
theorem mid_if {M : Model} {A : Around} {f : Sem Flow} {E : Value → Shared → Prop} {s : Shared} {Q : Flow → Shared → Prop} {g : Heap} {L : Addr} {m : Str → Option Value} {lr : Addr} {ys : List Value} {c : Nat} (F : Fr g L s.heap m) (_N : News g L s.heap [(lr, W.listOf ys.toArray c)]) (st lines : List Str)
    (h1 : wpAny M A f (MidS g L m st lr lines s) E s)
    (h2 : ∀ h' tk m' ys c, Fr g L h' m' → News g L h' [(lr, W.listOf ys.toArray c)] → StrsAre ys lines → (∀ y, st.contains y = false → m' y = m y) → Q .next { s with heap := h', toks := tk }) : wpAny M A f Q E s :=
  wpAny_mono h1 (fun fl s' h => by
    obtain ⟨rfl, h', tk, m', ys', c', rfl, F', N', hys, hm⟩ := h
    exact h2 h' tk m' ys' c' F' N' hys hm) fun _ _ e => e
theorem fr_off {g h h' : Heap} {L S : Addr} {m : Str → Option Value} (F : Fr g L h m) (hk : ∀ b o, b ≠ S → h.get? b = some o → h'.get? b = some o) (h1 : S ≠ L) (h2 : g.get? S = none) : Fr g L h' m :=
  ⟨F.ns.at' fun o e => hk _ _ (fun e' => h1 e'.symm) e, fun b o e => hk b o (fun e' => by rw [e', h2] at e; cases e) (F.keep b o e), F.above⟩
theorem ct_str {w : World} {A : Around} {s : Shared} {Q E : Value → Shared → Prop} {mean : ExcName → Option Value} {mg mb : Str → Option Value} {R : RecD} {ss ds rs ts : List Str}
   (X : (hd10.heap_39 w.params).In s.heap) (T : Top hd10.view_39 (looseW hd10.view_39 []) mean mg mb s.heap) (hd : A.depth + 10 < recursionLimit) (hh : A.handled = none)
   (x1 : RecAt w.params 59 s.heap R) (hs1 : StrsAre R.us ss) (hs2 : StrsAre R.ls ts) (hn1 : ss.length ≤ 200) (hn2 : ts.length ≤ 400) (hpos : 0 < ss.length)
   (hl1 : ∀ x ∈ ss, x.length ≤ 20) (hl2 : ∀ x ∈ ts, x.length ≤ 20) (hdv : DvIs R.dv ds) (hrv : RvIs w.params s.heap R.rv rs)
   (hQ : ∀ h' tk t, Ext s.heap h' → Q (.str (Txt.join nlS (lineS ss ds rs ts)) t) {s with heap := h', toks := tk}) :
   wpAny (model Challenge.rw_dn0256_10.row.prog w) A (call (.ref 42) [.ref R.r]) Q E s := by
  revert X
  k_fill
  intro X
  obtain ⟨r1, d1, u1, l1, us1, ls1, dv1, rv1, a1, a2, a3, a4, cu1, cl1⟩ := R
  obtain ⟨y1, y2, y3, y4⟩ := x1
  dsimp only [recDict] at y1 y2 y3 y4 hs1 hs2 hQ hdv hrv
  have lu1 : s.heap.IsList u1 us1.toArray := ⟨_, y3, rfl, _, rfl⟩
  have ll1 : s.heap.IsList l1 ls1.toArray := ⟨_, y4, rfl, _, rfl⟩
  have hul := hs1.length
  have hll := hs2.length
  refine wpAny_call ?_
  refine' call_defK (f := 42) X ?k6 ?k7 T.nolimit (by omega) ?k9 ?kB ?_ ?c2 ?c3 ?c4 ?c5
  case k6 => k_is
  case k7 => k_is
  case k9 => exact BindsTo.of_eq rfl
  case kB => exact locs rfl
  case c2 => exact rfl
  case c3 => exact rfl
  case c4 => exact rfl
  case c5 => decide
  intro h₁ tk1 F
  replace F : Fr s.heap s.heap.objs.size h₁ (fun y => [(Str.ofString "self", Value.ref r1)].reverse.lookup y) := F
  have N : News s.heap s.heap.objs.size h₁ [] := News.nil
  walk_at "go"
  refine Stop.go ?_
  refine wpAny_truthy_list (lu1.at fun o e => F.keep _ _ e) (by rw [List.size_toArray]; omega) ?_
  have hne : us1.toArray.isEmpty = false := by rw [List.isEmpty_toArray]; cases us1 with | nil => simp at hul; omega | cons => rfl
  rw [hne]
  have hIf : StopIf := ⟨trivial⟩
  walk_at "go"
  refine Stop.go ?_
  rename Fr _ _ _ _ => F2
  rename News _ _ _ _ => N2
  refine For_of F2 rfl rfl ?_
  walk_at "go"
  refine Stop.go ?_
  refine iter_anyG (J10s _ _ (ss.map uaL)) hh lu1 F2 N2 ⟨[], 0, rfl, .nil, fun _ _ => rfl⟩ ?turn1 ?done1
  case turn1 =>
    rintro i v m₁ news₁ h tk own hv hoff ⟨ys, c, rfl, hys, hm⟩ F3 N3
    clear F2 N2
    obtain ⟨x, tx, rfl, hx⟩ := strs_get hs1 hv
    have hxl := hl1 x (List.mem_of_getElem? hx)
    rw [mapS hm] at F3
    dsimp only [List.cons_append, List.nil_append] at N3
    walk_at "go"
    refine Stop.go ?_
    (with_reducible rename Fr _ _ _ _ => F4); (with_reducible rename News _ _ _ _ => N4)
    rw [List.push_toArray] at N4
    refine end10s F4 N4 (fun q hq => hq) hoff ?_ (fun y hy => ?_)
    · rw [take_map hx]
      exact strs_snoc hys rfl
    · have hy1 := off_str hy (List.Mem.head _)
      dsimp only
      rw [if_neg hy1, hy]
      rfl
  case done1 =>
    rintro m₁ news₁ h tk ⟨ys, c, rfl, hys, hm⟩ F3 N3
    clear F2 N2
    rw [mapS hm] at F3
    have e1 : (ss.map uaL).take us1.length = ss.map uaL := List.take_of_length_le (by rw [List.length_map]; omega)
    rw [e1] at hys
    dsimp only
    walk_at "go"
    refine Stop.go ?_
    (with_reducible rename Fr _ _ _ _ => F4); (with_reducible rename News _ _ _ _ => N4)
    refine mid_if F4 N4 [] (ss.map uaL ++ ds) ?ifA (fun h5 tk5 m5 ys5 c5 F5 N5 hys5 hm5 => ?_)
    case ifA =>
      (with_reducible rename StopIf => hIf)
      clear hIf
      rcases hdv with ⟨rfl, rfl⟩ | ⟨t, rfl, rfl⟩ | ⟨t, rfl, rfl⟩
      · walk_at "go"
        refine Stop.go ?_
        (with_reducible rename Fr _ _ _ _ => F6); (with_reducible rename News _ _ _ _ => N6)
        exact mid10 F6 N6 (List.Mem.head _) (by rw [List.append_nil]; exact hys) (fun _ _ => rfl)
      · walk_at "go"
        refine Stop.go ?_
        (with_reducible rename Fr _ _ _ _ => F6); (with_reducible rename News _ _ _ _ => N6)
        rw [List.push_toArray] at N6
        exact mid10 F6 N6 (List.Mem.head _) (strs_snoc hys (by decide +kernel)) (fun _ _ => rfl)
      · walk_at "go"
        refine Stop.go ?_
        (with_reducible rename Fr _ _ _ _ => F6); (with_reducible rename News _ _ _ _ => N6)
        rw [List.push_toArray] at N6
        exact mid10 F6 N6 (List.Mem.head _) (strs_snoc hys (by decide +kernel)) (fun _ _ => rfl)
    clear F4 N4
    rw [mapS hm5] at F5
    have hf5 := fits_len hys5 (by rw [List.length_append, List.length_map]; have := dvIs_len hdv; omega)
    dsimp only
    walk_at "go"
    refine Stop.go ?_
    (with_reducible rename Fr _ _ _ _ => F6); (with_reducible rename News _ _ _ _ => N6)
    refine mid_if F6 N6 [Str.ofString "rate"] ((ss.map uaL ++ ds) ++ rs) ?ifB (fun h7 tk7 m7 ys7 c7 F7 N7 hys7 hm7 => ?_)
    case ifB =>
      (with_reducible rename StopIf => hIf)
      clear hIf hQ
      rcases hrv with ⟨rfl, rfl⟩ | ⟨D, rfl, hD, hrt⟩
      · walk_at "go"
        refine Stop.go ?_
        (with_reducible rename Fr _ _ _ _ => F8); (with_reducible rename News _ _ _ _ => N8)
        exact mid10 F8 N8 (List.Mem.head _) (by rw [List.append_nil]; exact hys5) (fun _ _ => rfl)
      · obtain ⟨r2, d2, u2, l2, q2, s2, b1, b2, b3, b4, b5, b6⟩ := D
        obtain ⟨z1, z2⟩ := hD
        dsimp only [rateDict] at z1 z2 hrt
        rcases hrt with ⟨t, u, e1, e2, rfl⟩ | ⟨t, u, e1, e2, rfl⟩ | ⟨t, u, e1, e2, rfl⟩
        all_goals
          dsimp only at e1 e2
          subst e1 e2
          walk_at "go"
          refine Stop.go ?_
          (with_reducible rename Fr _ _ _ _ => F8); (with_reducible rename News _ _ _ _ => N8)
          rw [List.push_toArray] at N8
          refine mid10 F8 N8 (List.Mem.head _) (strs_snoc hys5 (by decide +kernel)) (fun y hy => ?_)
          have hy1 := off_str hy (List.Mem.head _)
          dsimp only
          rw [if_neg hy1]
    clear F6 N6
    rw [mapS hm7] at F7
    have hf7 := fits_len hys7 (by rw [List.length_append, List.length_append, List.length_map]; have := dvIs_len hdv; have := rvIs_len hrv; omega)
    dsimp only
    walk_at "go"
    refine Stop.go ?_
    (with_reducible rename Fr _ _ _ _ => F8); (with_reducible rename News _ _ _ _ => N8)
    refine mid_if F8 N8 [] (lineS ss ds rs ts) ?ifC (fun h9 tk9 m9 ys9 c9 F9 N9 hys9 hm9 => ?_)
    case ifC =>
      (with_reducible rename StopIf => hIf)
      clear hIf hQ
      walk_at "go"
      refine Stop.go ?_
      (with_reducible rename Fr _ _ _ _ => F9)
      refine wpAny_truthy_list (ll1.at fun o e => F9.keep _ _ e) (by rw [List.size_toArray]; omega) ?_
      cases hls : ls1 with
      | nil =>
        have ht : ts = [] := by cases hs2 with | nil => rfl | cons => cases hls
        subst hls ht
        rw [show (!([] : List Value).toArray.isEmpty) = false from rfl]
        walk_at "go"
        refine Stop.go ?_
        (with_reducible rename Fr _ _ _ _ => F10); (with_reducible rename News _ _ _ _ => N10)
        rw [List.push_toArray] at N10
        exact mid10 F10 N10 (List.Mem.head _) (strs_snoc hys7 rfl) (fun _ _ => rfl)
      | cons v vs =>
        rw [show (!(v :: vs).toArray.isEmpty) = true from rfl]
        have ht : ruL ts = ts := by cases hs2 with | nil => cases hls | cons => rfl
        walk_at "go"
        refine Stop.go ?_
        (with_reducible rename Fr _ _ _ _ => F10); (with_reducible rename News _ _ _ _ => N10)
        refine call_map (ll1.at fun o e => F10.keep _ _ e) (fun h11 hM hTI hIt hz e11 => ?_)
        have F11 := F10.keeps e11
        have N11 := newsExt N10 e11
        dsimp only at hM hTI hIt hz e11 F11 N11 ⊢
        walk_at "go"
        refine Stop.go ?_
        have hla := N10 _ (List.Mem.head _)
        refine call_extend_str hh e11 hM hTI hIt (ll1.at fun o e => F10.keep _ _ e) ?_ hla.1 ?_ ?_ (fun h12 tk12 c12 hk12 hS12 => ?_)
        · have hq := hf7.out
          rw [List.size_toArray, List.size_toArray, hys7.length, List.length_append, List.length_append, List.length_map, sizeLine_eq]
          have := dvIs_len hdv; have := rvIs_len hrv; omega
        · exact fun e => by have h3 := hla.2.2; rw [e, y4] at h3; cases h3
        · intro i x hx
          rw [List.getElem?_toArray] at hx
          obtain ⟨x', t', rfl, _⟩ := strs_get hs2 hx
          exact ⟨_, _, rfl⟩
        have F12 := fr_off F10 hk12 hla.2.1 hla.2.2
        dsimp only
        walk_at "go"
        refine Stop.go ?_
        rw [List.append_toArray] at hS12
        refine mid10 F12 (news' := [(_, _)]) (fun q hq => by rw [List.mem_singleton] at hq; rw [hq]; exact ⟨hS12, hla.2.1, hla.2.2⟩) (List.Mem.head _) ?_ (fun _ _ => rfl)
        unfold lineS
        rw [ht]
        exact strs_app hys7 hs2
    clear F8 N8
    have e9 : m9 = _ := funext fun y => hm9 y rfl
    subst e9
    dsimp only
    walk_at "go"
    refine Stop.go ?_
    (with_reducible rename Fr _ _ _ _ => F10); (with_reducible rename News _ _ _ _ => N10)
    refine join_list (ys := lineS ss ds rs ts) (News.isList N10 (.head _)) hys9 ?_ (fun t' k' => hQ _ _ _ (fun b o e => F10.keep b o e))
    have h1 := sum_le (l := (lineS ss ds rs ts).map (·.length)) (B := 40) fun n hn => by
      obtain ⟨z, hz, rfl⟩ := List.mem_map.mp hn
      exact lineS_le hl1 hl2 (dvIs_le hdv) (rvIs_le hrv) z hz
    have h2 : (lineS ss ds rs ts).length ≤ 603 := by
      unfold lineS
      have := dvIs_len hdv; have := rvIs_len hrv; have := ruL_len ts
      simp only [List.length_append, List.length_map]; omega
    have h3 : (Str.ofString "\n").length = 1 := by decide +kernel
    rw [List.length_map] at h1
    rw [h3]
    omega
end Mine
end secA10s
section secA10w
namespace Mine
/-- a def of the written heap, entered from the caller's own heap with some of its objects hidden from the base -/
theorem call_hide {prog : Program} {w : World} {A : Around} {s : Shared} {R : Result → Shared → Prop} {name qual : Str} {params : Arguments} {body : List Stmt} {scope : Scope} {dV kV doc pm cdv ct : Value} {an : Option Addr} {f : Addr} {args : Args} {binds : List (Str × Value)}
    {K : Frag} {oc : Value} {od : Option Addr} {osl : Array (Option Value)} {h₀ : Heap} (led : List (Addr × Obj)) (X : K.In h₀) (hkeep : ∀ b o, h₀.get? b = some o → s.heap.get? b = some o) (hl : ∀ q ∈ led, s.heap.get? q.1 = some q.2 ∧ h₀.get? q.1 = none)
    (ho : K.lookup f = some ⟨oc, od, .func (fnOf name qual params body scope dV kV doc pm an cdv ct), osl⟩) (hcd : codeIn K cdv qual = true) (hlim : h₀.NoLimit) (hroom : A.depth < recursionLimit)
    (hbind : BindsTo s (fnOf name qual params body scope dV kV doc pm an cdv ct) args binds) (hloc : ∀ y ∈ binds, scope.names.lookup y.1 = some .local)
    (h : ∀ g h₁ tk, (∀ b o, h₀.get? b = some o → g.get? b = some o) → (∀ b o, b ∉ led.map (·.1) → s.heap.get? b = some o → g.get? b = some o) → Fr g s.heap.objs.size h₁ (fun y => binds.reverse.lookup y) → News g s.heap.objs.size h₁ led →
      wpAny (model prog w) (A.deeper (envOf qual scope s.heap.objs.size f cdv)) (execs body (envOf qual scope s.heap.objs.size f cdv))
        (fun fl s' => R (.ok (.ret (match fl with | .ret v => v | _ => .none))) s') (fun _ _ => False)
        { s with heap := h₁, toks := tk })
    (hco : scope.isCoroutine = false) (hgen : scope.isGenerator = false) (hk : scope.kind = .function) (hcell : ∀ x ∈ scope.names, x.2 ≠ .cell) : codeAny (model prog w) A (.call (.ref f) args) R s := by
  refine codeAny_call_def (fd := fnX name qual params body scope [] dV kV doc pm an cdv ct) (body := body) (binds := binds) hroom (hkeep _ _ (X _ _ ho)) rfl (hlim.keeps hkeep) (codeRec_of (X.keeps hkeep) hcd) rfl hbind hcell hloc
    (fun h₁ hns hk₁ => wpAny_mono (h (hideAll s.heap (led.map (·.1))) h₁ _ (fun b o e => hideAll_get _ (hkeep b o e) fun q => ?_) (fun b o hb e => hideAll_get _ e hb) ⟨hns, fun b o e => hk₁ b o (of_hideAll _ e), Nat.le_of_eq (hideAll_size _ _)⟩ (fun p hp => ?_)) (fun _ _ x => x) fun _ _ x => x.elim) hco hgen hk
  · obtain ⟨p, hp, rfl⟩ := List.mem_map.mp q
    rw [(hl p hp).2] at e; cases e
  · exact ⟨hk₁ _ _ (hl p hp).1, Nat.ne_of_lt (Heap.lt_size (hl p hp).1), hideAll_none _ (List.mem_map_of_mem hp)⟩
end Mine
namespace Mine
local macro_rules | `(tactic| walk_at "go") => `(tactic| repeat' (first | (k_unfold; (try dsimp only)) | walk1 | (dsimp only; walk1)))
local macro_rules | `(tactic| walk_at $k9:str) => if ["call ref", "call type:str", "MidW", "call builtin:list.pop"].contains k9.getString then `(tactic| refine Stop.of ?_) else Lean.Macro.throwUnsupported
local macro_rules | `(tactic| k_ne) => `(tactic| first | with_reducible assumption | (refine Ne.symm ?_; with_reducible assumption))
local macro_rules | `(tactic| k_handed) => `(tactic| (with_reducible assumption))
local macro_rules | `(tactic| walk_at "call builtin:list.append") => `(tactic| (k_here; (try dsimp only [List.cons_append, List.nil_append]); (with_reducible show wpAny _ _ (call (Value.builtin _) [Value.ref _, _]) _ _ _); k_dflt (refine' append_K ?k1 ?k2 ?k3 ?_ ?z; (case k1 => with_reducible assumption); (case k2 => with_reducible assumption); (case k3 => k_upd); (case z => first | exact (show Fits _ from (by with_reducible assumption)) | size_fits); k_whole); intro h' F' N'; (try k_sweep)))
local macro_rules | `(tactic| walk_at "call type:type") => `(tactic| ((with_reducible show wpAny _ _ (call (Value.type "type") [Value.ref _]) _ _ _); refine Stop.of ?_))
noncomputable def RvV (p : Params) (h : Heap) (v : Value) (ls : List Str) : Prop := (v = .none ∧ ls = []) ∨ (∃ t, v = .int 0 t ∧ ls = [Str.ofString "Request-rate: 0/none"]) ∨ ∃ D, v = .ref D.r ∧ RateAt p h D ∧ RateIs D ls
local macro_rules | `(tactic| walk_at "exec If") => `(tactic| ((with_reducible rename StopIf => hSI9); refine Stop.of ?_))
local macro_rules | `(tactic| k_all) => `(tactic| first | exact List.forall_mem_nil _ | ((with_reducible rename OwnOff _ _ => hOff9); exact fun q hq => hOff9 q hq _ (by k_mem)))
/-- a rate of the base's, or of the ledger's rest -/
noncomputable def RvG (p : Params) (g : Heap) (ex : List (Addr × Obj)) (v : Value) (ls : List Str) : Prop := (v = .none ∧ ls = []) ∨ ∃ D, v = .ref D.r ∧ (RateAt p g D ∨ ∀ q ∈ rateLed p D, q ∈ ex) ∧ RateIs D ls
theorem RvG.is {p : Params} {g h : Heap} {L : Addr} {m : Str → Option Value} {ex news : List (Addr × Obj)} {v : Value} {ls : List Str} (x : RvG p g ex v ls) (F : Fr g L h m) (N : News g L h news) (hs : ∀ q ∈ ex, q ∈ news) : RvIs p h v ls := by
  rcases x with h | ⟨D, h1, h2, h3⟩
  · exact .inl h
  · refine .inr ⟨D, h1, ?_, h3⟩
    rcases h2 with h2 | h2
    · exact h2.ext fun b o e => F.keep b o e
    · exact rateLed_at N fun q hq => hs q (h2 q hq)
noncomputable def MidW (p : Params) (g : Heap) (L : Addr) (m : Str → Option Value) (R : RecD) (rs : List Str) (s : Shared) (fl : Flow) (s' : Shared) : Prop :=
  fl = .next ∧ ∃ h' tk rv' ex, s' = { s with heap := h', toks := tk } ∧ Fr g L h' m ∧ News g L h' ((R.u, W.listOf R.us.toArray R.cu) :: (R.r, instObj 59 R.d) :: (R.d, recDict p { R with rv := rv' }) :: ex) ∧ OwnOff ex [R.u, R.r, R.d] ∧ RvG p g ex rv' rs
theorem mid_w {M : Model} {A : Around} {f : Sem Flow} {E : Value → Shared → Prop} {s : Shared} {Q : Flow → Shared → Prop} {p : Params} {g : Heap} {L : Addr} {m : Str → Option Value} {R : RecD} {rs : List Str} (_F : Fr g L s.heap m)
    (h1 : wpAny M A f (MidW p g L m R rs s) E s)
    (h2 : ∀ h' tk rv' ex, Fr g L h' m → News g L h' ((R.u, W.listOf R.us.toArray R.cu) :: (R.r, instObj 59 R.d) :: (R.d, recDict p { R with rv := rv' }) :: ex) → OwnOff ex [R.u, R.r, R.d] → RvG p g ex rv' rs → Q .next { s with heap := h', toks := tk }) : wpAny M A f Q E s :=
  wpAny_mono h1 (fun fl s' h => by
    obtain ⟨rfl, h', tk, rv', ex, rfl, F', N', ho, hr⟩ := h
    exact h2 h' tk rv' ex F' N' ho hr) fun _ _ e => e
theorem last_snoc (v : Value) : ∀ us : List Value, kl_last (us ++ [v]) = some (us, v)
  | [] => rfl
  | [a] => rfl
  | a :: b :: r => by
    have h := last_snoc v (b :: r)
    show (match kl_last ((b :: r) ++ [v]) with | some (p, y) => some (a :: p, y) | none => some ([], a)) = _
    rw [h]
noncomputable def seenS : Str := Str.ofString "seen"
theorem inst_of {h : Heap} {r d C : Addr} {o : Obj} (h1 : h.get? r = some (instObj C d)) (h2 : h.get? d = some o) : InstAt h r (instObj C d) C (some o) := ⟨h1, rfl, rfl, h2⟩
theorem rate_rec_ne {p : Params} {D : RateD} {R : RecD} : rateDict p D ≠ recDict p R := fun e => by
  have h := congrArg Obj.data e
  injection h with _ h2
  cases h2
theorem ct_whole {w : World} {A : Around} {s : Shared} {Q E : Value → Shared → Prop} {mean : ExcName → Option Value} {mg mb : Str → Option Value} {h₀ : Heap} {R : RecD} {ss ds rs ts : List Str}
   (X₀ : (hd10.heap_39 w.params).In h₀) (T₀ : Top hd10.view_39 (looseW hd10.view_39 []) mean mg mb h₀) (hkeep : ∀ b o, h₀.get? b = some o → s.heap.get? b = some o) (hd : A.depth + 30 < recursionLimit) (hh : A.handled = none) (hu : A.units + 100 < cLine)
   (x1 : RecAt w.params 59 s.heap R) (hap : Apart R) (hf : h₀.get? R.r = none ∧ h₀.get? R.d = none ∧ h₀.get? R.u = none) (hs1 : StrsAre R.us ss) (hs2 : StrsAre R.ls ts) (hn1 : ss.length ≤ 150) (hn2 : ts.length ≤ 400)
   (hl1 : ∀ x ∈ ss, x.length ≤ 20) (hl2 : ∀ x ∈ ts, x.length ≤ 20) (hdv : DvIs R.dv ds) (hrv : RvV w.params s.heap R.rv rs)
   (hQ : ∀ h' tk t c, (∀ b o, b ≠ R.u → s.heap.get? b = some o → h'.get? b = some o) → h'.get? R.u = some (W.listOf R.us.toArray c) → Q (.str (Txt.join nlS (lineS (ss ++ [seenS]) ds rs ts)) t) {s with heap := h', toks := tk}) :
   wpAny (model Challenge.rw_dn0256_10.row.prog w) A (call (.ref 84) [.ref R.r]) Q E s := by
  revert X₀
  k_fill
  intro X₀
  obtain ⟨r, d, u, l, us, ls, dv, rv, a1, a2, a3, a4, cu, cl⟩ := R
  obtain ⟨y1, y2, y3, y4⟩ := x1
  obtain ⟨c1, c2, c3, c4, c5, c6⟩ := hap
  obtain ⟨f1, f2, f3⟩ := hf
  dsimp only at y1 y2 y3 y4 hs1 hs2 hQ hdv hrv c1 c2 c3 c4 c5 c6 f1 f2 f3
  have hul := hs1.length
  refine wpAny_call ?_
  refine' call_hide (f := 84) [(u, W.listOf us.toArray cu), (r, instObj 59 d), (d, recDict w.params ⟨r, d, u, l, us, ls, dv, rv, a1, a2, a3, a4, cu, cl⟩)] X₀ hkeep ?hl ?k6 ?k7 T₀.nolimit (by omega) ?k9 ?kB ?_ ?c2 ?c3 ?c4 ?c5
  case hl =>
    intro q hq
    simp only [List.mem_cons, List.not_mem_nil, or_false] at hq
    rcases hq with rfl | rfl | rfl
    · exact ⟨y3, f3⟩
    · exact ⟨y1, f1⟩
    · exact ⟨y2, f2⟩
  case k6 => k_is
  case k7 => k_is
  case k9 => exact BindsTo.of_eq rfl
  case kB => exact locs rfl
  case c2 => exact rfl
  case c3 => exact rfl
  case c4 => exact rfl
  case c5 => decide
  intro g h₁ tk1 hg1 hg2 F N
  have X : (hd10.heap_39 w.params).In g := X₀.keeps hg1
  have T := T₀.keeps hg1
  replace F : Fr g s.heap.objs.size h₁ (fun y => [(Str.ofString "one", Value.ref r)].reverse.lookup y) := F
  dsimp only [List.map_cons, List.map_nil, recDict] at N hg2
  have hno : ∀ b, b ≠ u → b ≠ r → b ≠ d → b ∉ [u, r, d] := fun b h1 h2 h3 hm => by
    simp only [List.mem_cons, List.not_mem_nil, or_false] at hm
    rcases hm with h | h | h
    · exact h1 h
    · exact h2 h
    · exact h3 h
  have ll : g.get? l = some (W.listOf ls.toArray cl) := hg2 l _ (hno l (Ne.symm c6) (Ne.symm c3) (Ne.symm c5)) y4
  clear X₀ T₀
  have hrg : ∀ D : RateD, RateAt w.params s.heap D → RateAt w.params g D := fun D hD => by
    have e1 : D.d ≠ d := fun e => rate_rec_ne (by have h := hD.hd; rw [e, y2] at h; exact (Option.some.inj h).symm)
    have e2 : D.r ≠ r := fun e => by
      have h := hD.hr
      rw [e, y1] at h
      have h3 := congrArg Obj.dict (Option.some.inj h)
      exact e1 (Option.some.inj h3).symm
    refine ⟨hg2 _ _ (hno _ (fun e => ?_) e2 (fun e => ?_)) hD.hr, hg2 _ _ (hno _ (fun e => ?_) (fun e => ?_) e1) hD.hd⟩
    · have h := hD.hr; rw [e, y3] at h; have h4 := congrArg Obj.data (Option.some.inj h); cases h4
    · have h := hD.hr; rw [e, y2] at h; have h4 := congrArg Obj.data (Option.some.inj h); cases h4
    · have h := hD.hd; rw [e, y3] at h; have h4 := congrArg Obj.data (Option.some.inj h); cases h4
    · have h := hD.hd; rw [e, y1] at h; have h4 := congrArg Obj.data (Option.some.inj h); cases h4
  have hrh : handedIn rv = true := by
    rcases hrv with ⟨rfl, _⟩ | ⟨_, rfl, _⟩ | ⟨_, rfl, _⟩ <;> rfl
  have hIf : StopIf := ⟨trivial⟩
  walk_at "go"
  refine Stop.go ?_
  (with_reducible rename Fr _ _ _ _ => F2); (with_reducible rename News _ _ _ _ => N2)
  refine mid_w (p := w.params) (R := ⟨r, d, u, l, us, ls, dv, rv, a1, a2, a3, a4, cu, cl⟩) (rs := rs) F2 ?ifA (fun h3 tk3 rv3 ex F3 N3 hoex hrv3 => ?_)
  case ifA =>
    (with_reducible rename StopIf => hIf)
    clear hIf hQ
    rcases hrv with ⟨rfl, rfl⟩ | ⟨t, rfl, rfl⟩ | ⟨D, rfl, hD, hrt⟩
    · walk_at "go"
      refine Stop.go ?_
      (with_reducible rename Fr _ _ _ _ => F3); (with_reducible rename News _ _ _ _ => N3)
      exact ⟨rfl, _, _, _, [], rfl, F3, N3, ownOff_nil, .inl ⟨rfl, rfl⟩⟩
    · walk_at "go"
      refine Stop.go ?_
      (with_reducible rename Fr _ _ _ _ => F3); (with_reducible rename News _ _ _ _ => N3)
      refine ct_rate (X.keeps F3.keep) (T.keeps F3.keep) (by (simp only [depth_deeper]; omega)) hh rfl rfl (fun h4 tk4 D e4 hD q1 q2 hnew => ?_)
      have F4 := F3.keeps e4
      have N4 := newsExt N3 e4
      have M4 := rate_led F3 hD hnew
      have hoff : OwnOff (rateLed w.params D) [u, r, d] := fun q hq a ha e => by
        have h1 := rate_fresh hnew q hq
        rw [e] at h1
        simp only [List.mem_cons, List.not_mem_nil, or_false] at ha
        rcases ha with rfl | rfl | rfl
        · rw [(N3 _ (List.Mem.head _)).1] at h1; cases h1
        · rw [(N3 _ (List.Mem.tail _ (List.Mem.head _))).1] at h1; cases h1
        · rw [(N3 _ (List.Mem.tail _ (List.Mem.tail _ (List.Mem.head _)))).1] at h1; cases h1
      have N5 := newsApp N4 M4
      obtain ⟨ex, hex⟩ : ∃ x, x = rateLed w.params D := ⟨_, rfl⟩
      rw [← hex] at N5 hoff
      dsimp only [List.cons_append, List.nil_append] at N5
      clear F3 N3 N4 M4 e4
      dsimp only at F4 ⊢
      walk_at "go"
      refine Stop.go ?_
      (with_reducible rename Fr _ _ _ _ => F6); (with_reducible rename News _ _ _ _ => N6)
      exact ⟨rfl, _, _, _, ex, rfl, F6, N6, hoff, .inr ⟨D, rfl, .inr (fun q hq => by rw [hex]; exact hq), .inr (.inr ⟨_, _, q1, q2, rfl⟩)⟩⟩
    · have hDg := hrg D hD
      walk_at "go"
      refine Stop.go ?_
      (with_reducible rename Fr _ _ _ _ => F3)
      refine kto_own (inst_of (F3.keep _ _ hDg.hr) (F3.keep _ _ hDg.hd)) ?_
      walk_at "go"
      refine Stop.go ?_
      (with_reducible rename Fr _ _ _ _ => F4); (with_reducible rename News _ _ _ _ => N4)
      exact ⟨rfl, _, _, _, [], rfl, F4, N4, ownOff_nil, .inr ⟨D, rfl, .inl hDg, hrt⟩⟩
  clear F2 N2
  dsimp only [recDict] at N3
  have hrh3 : handedIn rv3 = true := by
    rcases hrv3 with ⟨rfl, _⟩ | ⟨_, rfl, _⟩ <;> rfl
  walk_at "go"
  refine Stop.go ?_
  (with_reducible rename Fr _ _ _ _ => F4); (with_reducible rename News _ _ _ _ => N4)
  rw [List.push_toArray] at N4
  refine kso_call (K := hd10.heap_39 w.params) (x := r) (ox := instObj 59 d) (C := 59) (f := 42) (by (simp only [units_in1, units_deeper]; omega)) (X.keeps F4.keep) (inst_of (N4 _ (List.Mem.tail _ (List.Mem.head _))).1 (N4 _ (List.Mem.tail _ (List.Mem.tail _ (List.Mem.head _)))).1) (by k_is) (by k_is) ?_
  refine ct_str (R := ⟨r, d, u, l, us ++ [.str seenS _], ls, dv, rv3, a1, a2, a3, a4, _, cl⟩) (ss := ss ++ [seenS]) (ds := ds) (rs := rs) (ts := ts) (X.keeps F4.keep) (T.keeps F4.keep) (by (simp only [depth_in1, depth_deeper]; omega)) hh ⟨(N4 _ (List.Mem.tail _ (List.Mem.head _))).1, (N4 _ (List.Mem.tail _ (List.Mem.tail _ (List.Mem.head _)))).1, (N4 _ (List.Mem.head _)).1, F4.keep _ _ ll⟩ (strs_snoc hs1 rfl) hs2 (by rw [List.length_append, List.length_singleton]; omega) hn2 (by rw [List.length_append, List.length_singleton]; omega) ?_ hl2 hdv ?_ (fun h5 tk5 t5 e5 => ?_)
  · intro x hx
    rcases List.mem_append.mp hx with hx | hx
    · exact hl1 x hx
    · rw [List.mem_singleton.mp hx]; decide +kernel
  · exact hrv3.is F4 N4 (fun q hq => List.Mem.tail _ (List.Mem.tail _ (List.Mem.tail _ hq)))
  show wpAny _ _ _ _ _ _
  have F5 := F4.keeps e5
  have N5 := newsExt N4 e5
  clear F4 N4 e5
  dsimp only at F5 N5 ⊢
  walk_at "go"
  refine Stop.go ?_
  (with_reducible rename Fr _ _ _ _ => F6); (with_reducible rename News _ _ _ _ => N6)
  dsimp only at F6 N6 ⊢
  refine kl_pop F6 N6 (last_snoc _ _) (by k_upd) (by rw [sizeLine_eq]; simp only [List.length_append, List.length_singleton]; omega) (fun h7 F7 N7 => ?_)
  clear F6 N6
  dsimp only
  walk_at "go"
  (with_reducible rename Fr _ _ _ _ => F8); (with_reducible rename News _ _ _ _ => N8)
  refine hQ _ _ _ _ (fun b o hb e => ?_) (N8 _ (List.Mem.head _)).1
  by_cases e1 : b = r
  · rw [e1, y1] at e; rw [e1, ← e]; exact (N8 _ (List.Mem.tail _ (List.Mem.head _))).1
  · by_cases e2 : b = d
    · rw [e2, y2] at e; rw [e2, ← e]; exact (N8 _ (List.Mem.tail _ (List.Mem.tail _ (List.Mem.head _)))).1
    · exact F8.keep _ _ (hg2 b o (hno b hb e1 e2) e)
end Mine
end secA10w
section secA10g
namespace Mine
theorem join_length : ∀ ys : List Str, (Txt.join nlS ys).length ≤ (ys.map (·.length)).sum + ys.length := by
  intro ys
  show (Builtin.Str.glued nlS ys).length ≤ _
  rw [StrLaws.glued_eq_join]
  induction ys with
  | nil => exact Nat.zero_le _
  | cons y r ih =>
    cases r with
    | nil => show y.length ≤ _; simp
    | cons z r =>
      show (y ++ nlS ++ Str.join nlS (z :: r)).length ≤ _
      rw [Str.length_append, Str.length_append]
      have e : nlS.length = 1 := by decide +kernel
      rw [List.map_cons, List.sum_cons, List.length_cons]
      omega
theorem joined_fits {ys : List Str} (hb : ∀ x ∈ ys, x.length ≤ 40) (hn : ys.length ≤ 700) : (Txt.join nlS ys).length + 2 ≤ sizeLine := by
  have h1 := join_length ys
  have h2 := sum_le (l := ys.map (·.length)) (B := 40) fun n hn => by
    obtain ⟨z, hz, rfl⟩ := List.mem_map.mp hn
    exact hb z hz
  rw [List.length_map] at h2
  rw [sizeLine_eq]; omega
local macro_rules | `(tactic| walk_at "go") => `(tactic| repeat' (first | (k_unfold; (try dsimp only)) | walk1 | (dsimp only; walk1)))
local macro_rules | `(tactic| walk_at $k9:str) => if ["call builtin:str.split", "subscriptTail Name Slice ref ref", "call builtin:list.extend", "eval ListComp", "exec Assign cons ListComp", "FKA", "compareOp In str ref", "compareOp Eq str str", "binaryOp Add ref ref", "exec For Name BinOp cons nil", "compareOp NotEq ref ref", "InvEndG", "SrcIs", "TestIs", "EltV", "FK"].contains k9.getString then `(tactic| refine Stop.of ?_) else Lean.Macro.throwUnsupported
local macro_rules | `(tactic| k_ne) => `(tactic| first | with_reducible assumption | (refine Ne.symm ?_; with_reducible assumption) | (apply Nat.ne_of_lt; omega) | (apply Nat.ne_of_gt; omega))
theorem cutTo_X {prog : Program} {w : World} {A : Around} {E : Value → Shared → Prop} {s : Shared} {h₀ : Heap} {L : Addr} {m : Str → Option Value} {news : List (Addr × Obj)} {value slice : PySem.Expr} {t : Tok} {Q : Value → Shared → Prop} {x : Str} {j : Int} {uj : Tok} (hj : 0 ≤ j) (hF : Fr h₀ L s.heap m) (hN : News h₀ L s.heap news)
    (h : ∀ h' t' k, Fr h₀ L h' m → News h₀ L h' news → Q (.str (S (x.cps.toList.take j.toNat)) t') { s with heap := h', toks := k })
    (hs : subscripted slice false (.str x t) (.ref s.heap.objs.size) = operate [.ref s.heap.objs.size, .str x t] (getItem (.str x t) (.ref s.heap.objs.size)) := by with_unfolding_all rfl)
    (ht : ∀ r, letTemporaryGo value (.str x t) r = pure () := by intro _; with_unfolding_all rfl) (hsz : x.length ≤ 16777216) :
    wpAny (model prog w) A (subscriptTail value slice (.str x t) (.ref s.heap.objs.size)) Q E { s with heap := s.heap.push { cls := .type "slice", data := .fields #[.none, .int j uj, .none] } } := by
  have e := S_of x
  rw [← e] at hs ht ⊢
  exact cutTo_S hj hF hN h hs ht hsz
/-- the first signs of a text -/
noncomputable def preS (k : Nat) (x : Str) : Str := S (x.cps.toList.take k)
noncomputable def uaP (l2 : List Str) (x : Str) : Bool := preS 12 x == Str.ofString "User-agent: " && l2.contains x
noncomputable def keyP (k : Str) (x : Str) : Bool := preS k.length x == k
noncomputable def ruleP (x : Str) : Bool := preS 7 x == Str.ofString "Allow: " || preS 10 x == Str.ofString "Disallow: "
noncomputable def onV (p : Str → Bool) (v : Value) : Bool := p (strOf v)
theorem strs_filter {p : Str → Bool} : ∀ {vs : List Value} {ss : List Str}, StrsAre vs ss → StrsAre (vs.filter (onV p)) (ss.filter p)
  | _, _, .nil => .nil
  | _, _, .cons x t r => by
    have ih := strs_filter (p := p) r
    rw [List.filter_cons, List.filter_cons]
    show StrsAre (if p x = true then _ else _) _
    split
    · exact .cons x t ih
    · exact ih
noncomputable def allowS : Str := Str.ofString "Allow:"
noncomputable def cdS : Str := Str.ofString "Crawl-delay: "
noncomputable def rrS : Str := Str.ofString "Request-rate: "
noncomputable def last1 (l : List Str) : List Str := l.drop (l.length - 1)
noncomputable def mergedS (l1 l2 : List Str) : List Str :=
  l1.filter (uaP l2) ++ last1 ((l1 ++ l2).filter (keyP cdS)) ++ last1 ((l1 ++ l2).filter (keyP rrS)) ++ (if (l1 ++ l2).filter ruleP = [] then [allowS] else (l1 ++ l2).filter ruleP)
theorem slice_last {α : Type} (l : List α) : (l.drop (kms_lo (some (-1)) l.length)).take (kms_hi none l.length - kms_lo (some (-1)) l.length) = l.drop (l.length - 1) := by
  have e : kms_lo (some (-1)) l.length = l.length - 1 := by
    show l.length - _ = _
    rfl
  rw [e]
  show (l.drop (l.length - 1)).take (l.length - (l.length - 1)) = _
  exact List.take_of_length_le (by rw [List.length_drop]; exact Nat.le_refl _)
theorem strs_drop : ∀ {vs : List Value} {ss : List Str} (k : Nat), StrsAre vs ss → StrsAre (vs.drop k) (ss.drop k)
  | _, _, 0, h => h
  | _, _, _ + 1, .nil => .nil
  | _, _, k + 1, .cons x t r => strs_drop k r
theorem strs_last {vs : List Value} {ss : List Str} (h : StrsAre vs ss) : StrsAre (vs.drop (vs.length - 1)) (last1 ss) := by
  unfold last1
  rw [h.length]
  exact strs_drop _ h
theorem newsTl {h₀ h : Heap} {L : Addr} {a : Addr × Obj} {news : List (Addr × Obj)} (N : News h₀ L h (a :: news)) : News h₀ L h news := fun q hq => N q (List.Mem.tail _ hq)
structure StopIt : Prop where
  t : True
local macro_rules | `(tactic| walk_at "pyIter ref") => `(tactic| ((with_reducible rename StopIt => hSt9); refine Stop.of ?_))
local macro_rules | `(tactic| walk_at "subscriptTail Name Slice str ref") => `(tactic| (k_here; (with_reducible rename Fr _ _ _ _ => F'); (with_reducible rename News _ _ _ _ => N'); (refine cutTo_X (s := ⟨_, _, _, _, _⟩) (by omega) F' N' ?_ (hsz := by omega); intro _ _ _ _ _)))
theorem strs_map : ∀ {vs : List Value} {ss : List Str}, StrsAre vs ss → vs.map strOf = ss
  | _, _, .nil => rfl
  | _, _, .cons x t r => by rw [List.map_cons, strs_map r]; rfl
theorem strs_all : ∀ {vs : List Value} {ss : List Str}, StrsAre vs ss → AllStr vs
  | _, _, .nil => fun _ h => nomatch h
  | _, _, .cons x t r => fun v hv => by
    rcases List.mem_cons.mp hv with rfl | hv
    · exact ⟨_, _, rfl⟩
    · exact strs_all r v hv
local macro_rules | `(tactic| k_all) => `(tactic| ((with_reducible rename OwnOff _ _ => hOff9); exact fun q hq => hOff9 q hq _ (by k_mem)))
local macro_rules | `(tactic| walk_at "newList") => `(tactic| (k_here; k_dflt (refine' newList_K ?k1 ?k2 ?_ ?z; (case k1 => with_reducible assumption); (case k2 => with_reducible assumption); (case z => rw [sizeLine_eq]; exact Nat.le_of_ble_eq_true rfl); k_whole); intro l' h' F' N' l1; (try k_lt l1); (try k_sweep)))
local macro_rules | `(tactic| walk_at "call builtin:list.append") => `(tactic| (k_here; (try dsimp only [List.cons_append, List.nil_append]); (with_reducible show wpAny _ _ (call (Value.builtin _) [Value.ref _, _]) _ _ _); k_dflt (refine' append_K ?k1 ?k2 ?k3 ?_ ?z; (case k1 => with_reducible assumption); (case k2 => with_reducible assumption); (case k3 => k_upd); (case z => first | exact (show Fits _ from (by with_reducible assumption)) | size_fits); k_whole); intro h' F' N'; (try k_sweep)))
local macro_rules | `(tactic| walk_at "execs cons Assign cons") => `(tactic| walk_at "execs cons")
noncomputable def J10r (m₀ : Str → Option Value) (lr S D : Addr) (oS oD : Obj) (ls : List Str) (i : Nat) (m₁ : Str → Option Value) (nx : List (Addr × Obj)) : Prop :=
  ∃ ys c, nx = [(lr, W.listOf ys.toArray c), (S, oS), (D, oD)] ∧ StrsAre ys ((ls.take i).filter ruleP) ∧ ∀ y, [Str.ofString "line"].contains y = false → m₁ y = m₀ y
theorem end10r {g h' : Heap} {L : Addr} {s₁ : Shared} {m₀ m' : Str → Option Value} {lr S D : Addr} {oS oD : Obj} {ls : List Str} {i tk c : Nat} {ys : List Value} {own own' news' : List (Addr × Obj)} (F : Fr g L h' m') (N : News g L h' news') (he : own' = (S, oS) :: (D, oD) :: own) (hin : ∀ q ∈ (lr, W.listOf ys.toArray c) :: own', q ∈ news') (hoff : OwnOff own [lr, S, D])
    (hys : StrsAre ys ((ls.take (i + 1)).filter ruleP)) (hm : ∀ y, [Str.ofString "line"].contains y = false → m' y = m₀ y) : InvEndG g L (fun m' nx => (S, oS) ∈ nx ∧ J10r m₀ lr S D oS oD ls (i + 1) m' nx) own s₁ { s₁ with heap := h', toks := tk } := by
  subst he
  refine InvEndG.intro (nx := [(lr, W.listOf ys.toArray c), (S, oS), (D, oD)]) F N ⟨List.Mem.tail _ (List.Mem.head _), ys, c, rfl, hys, hm⟩ hoff (fun q hq => hin q ?_) (fun q hq => hin q ?_)
  · simp only [List.mem_cons, List.not_mem_nil, or_false] at hq ⊢
    rcases hq with h | h | h <;> simp [h]
  · exact List.Mem.tail _ (List.Mem.tail _ (List.Mem.tail _ hq))
theorem take_y {ls : List Str} {i : Nat} {x : Str} (h : ls[i]? = some x) (hp : ruleP x = true) : (ls.take (i + 1)).filter ruleP = (ls.take i).filter ruleP ++ [x] := by
  rw [List.take_add_one, h, List.filter_append]; simp [hp]
theorem take_n {ls : List Str} {i : Nat} {x : Str} (h : ls[i]? = some x) (hp : ruleP x = false) : (ls.take (i + 1)).filter ruleP = (ls.take i).filter ruleP := by
  rw [List.take_add_one, h, List.filter_append]; simp [hp]
theorem ct_merged {w : World} {A : Around} {s : Shared} {Q E : Value → Shared → Prop} {mean : ExcName → Option Value} {mg mb : Str → Option Value} {l1 l2 : List Str} {t1 t2 : Tok}
   (X : (hd10.heap_39 w.params).In s.heap) (T : Top hd10.view_39 (looseW hd10.view_39 []) mean mg mb s.heap) (hd : A.depth + 10 < recursionLimit) (hh : A.handled = none) (hu : A.units + 100 < cLine)
   (p1 : l1 ≠ []) (p2 : l2 ≠ []) (n1 : ∀ x ∈ l1, NoNl x) (n2 : ∀ x ∈ l2, NoNl x) (b1 : ∀ x ∈ l1, x.length ≤ 40) (b2 : ∀ x ∈ l2, x.length ≤ 40) (c1 : l1.length ≤ 700) (c2 : l2.length ≤ 700) (k1 : ∀ x ∈ l1, PyData.strOk x = true) (k2 : ∀ x ∈ l2, PyData.strOk x = true)
   (hQ : ∀ h' tk D ys c, Ext s.heap h' → h'.get? D = some (W.listOf ys.toArray c) → s.heap.get? D = none → StrsAre ys (mergedS l1 l2) → Q (.ref D) {s with heap := h', toks := tk}) :
   wpAny (model Challenge.rw_dn0256_10.row.prog w) A (call (.ref 89) [.str (Txt.join nlS l1) t1, .str (Txt.join nlS l2) t2]) Q E s := by
  revert X
  k_fill
  intro X
  refine wpAny_call ?_
  refine' call_cellsK (f := 89) X ?k6 ?k7 T.nolimit (by omega) ?k9 ?kB ?kD ?_ ?c2 ?c3 ?c4
  case k6 => k_is
  case k7 => k_is
  case k9 => exact BindsTo.of_eq rfl
  case kB => exact rfl
  case kD => decide +kernel
  case c2 => exact rfl
  case c3 => exact rfl
  case c4 => exact rfl
  intro h₁ tk cells F N Y
  obtain ⟨oc, ok, hE, d1, d2⟩ := CellsAre.two Y
  subst hE
  clear Y
  replace F : Fr s.heap s.heap.objs.size h₁ (fun y => if y = Str.ofString "second" then some (Value.str (Txt.join nlS l2) t2) else if y = Str.ofString "first" then some (Value.str (Txt.join nlS l1) t1) else none) := F
  replace d1 : oc.data = .cell none := d1
  replace d2 : ok.data = .cell none := d2
  walk_at "go"
  refine Stop.go ?_
  refine KSpl.split1 F N (by decide) (fun D1 q1 h2 tk2 e1 a1 F2 N2 lt1 => ?_) (joined_fits b1 c1)
  rw [show Txt.split (Txt.join nlS l1) (Str.ofString "\n") = l1 from split_join p1 n1] at e1
  rw [e1] at a1
  obtain ⟨vs1, hv1⟩ : ∃ x, x = strValues q1 := ⟨_, rfl⟩
  rw [← hv1] at N2 a1
  clear F N e1 hv1
  k_lt lt1
  dsimp only
  walk_at "go"
  refine Stop.go ?_
  (with_reducible rename Fr _ _ _ _ => F3); (with_reducible rename News _ _ _ _ => N3)
  refine KSpl.split1 F3 N3 (by decide) (fun D2 q2 h4 tk4 e2 a2 F4 N4 lt2 => ?_) (joined_fits b2 c2)
  rw [show Txt.split (Txt.join nlS l2) (Str.ofString "\n") = l2 from split_join p2 n2] at e2
  rw [e2] at a2
  obtain ⟨vs2, hv2⟩ : ∃ x, x = strValues q2 := ⟨_, rfl⟩
  rw [← hv2] at N4 a2
  clear F3 N3 e2 hv2
  k_lt lt2
  dsimp only
  walk_at "go"
  refine Stop.go ?_
  (with_reducible rename Fr _ _ _ _ => F5); (with_reducible rename News _ _ _ _ => N5)
  have hz1 := a1.length
  have hz2 := a2.length
  refine compFKA hh F5 rfl (by with_unfolding_all rfl) (by with_unfolding_all rfl) (by decide) rfl (by decide) rfl rfl rfl ?_
  walk_at "go"
  refine Stop.go ?_
  (with_reducible rename Fr _ _ _ _ => F6); (with_reducible rename News _ _ _ _ => N6)
  refine ⟨D1, vs1, _, onV (uaP l2), rfl, F6, N6, .inr ⟨_, List.Mem.tail _ (List.Mem.head _), rfl, _, rfl⟩, by omega, ?_, ?_⟩
  · intro j v I oI C oC D oD m₂ h tk E' hv hC hx F7 N7 off ne
    obtain ⟨x, tx, rfl, hxl⟩ := strs_get a1 hv
    clear F6 N6
    have hxb := b1 x (List.mem_of_getElem? hxl)
    walk_at "go"
    refine Stop.go ?_
    refine PyProof.Rows.eq_str ?_
    have hup : onV (uaP l2) (Value.str x tx) = ((S (List.take (Int.toNat 12) x.cps.toList) == Str.ofString "User-agent: ") && l2.contains x) := rfl
    rw [hup]
    generalize (S (List.take (Int.toNat 12) x.cps.toList) == Str.ofString "User-agent: ") = bv
    cases bv
    · walk_at "go"
      refine Stop.go ?_
      (with_reducible rename Fr _ _ _ _ => F8); (with_reducible rename News _ _ _ _ => N8)
      exact testIs rfl (fun h => nomatch h) (fun _ => ⟨_, _, rfl, F8, N8⟩)
    · walk_at "go"
      refine Stop.go ?_
      (with_reducible rename Fr _ _ _ _ => F8); (with_reducible rename News _ _ _ _ => N8)
      refine in_strs (News.isList N8 (List.Mem.tail _ (List.Mem.tail _ (List.Mem.tail _ (List.Mem.head _))))) (strs_all a2) ?_
      rw [strs_map a2]
      cases hc : l2.contains x
      · walk_at "go"
        refine Stop.go ?_
        (with_reducible rename Fr _ _ _ _ => F9); (with_reducible rename News _ _ _ _ => N9)
        exact testIs rfl (fun h => nomatch h) (fun _ => ⟨_, _, rfl, F9, N9⟩)
      · walk_at "go"
        refine Stop.go ?_
        refine testIs rfl (fun _ => ?_) (fun h => nomatch h)
        walk_at "go"
        refine Stop.go ?_
        (with_reducible rename Fr _ _ _ _ => F9); (with_reducible rename News _ _ _ _ => N9)
        exact ⟨rfl, _, _, rfl, F9, N9⟩
  · intro D h tk F7 N7 off
    clear F6 N6
    have hD1 := off _ (List.Mem.head _)
    have hD2 := off _ (List.Mem.tail _ (List.Mem.head _))
    have hD3 := off _ (List.Mem.tail _ (List.Mem.tail _ (List.Mem.head _)))
    have hD4 := off _ (List.Mem.tail _ (List.Mem.tail _ (List.Mem.tail _ (List.Mem.head _))))
    have af := strs_filter (p := uaP l2) a1
    obtain ⟨vsf, hvf⟩ : ∃ x, x = vs1.filter (onV (uaP l2)) := ⟨_, rfl⟩
    rw [← hvf] at N7 af
    clear hvf
    dsimp only at hD1 hD2 hD3 hD4
    dsimp only
    walk_at "go"
    (with_reducible rename Fr _ _ _ _ => F8); (with_reducible rename News _ _ _ _ => N8)
    refine iter_tupTurns hh F8 N8 (List.Mem.head _) rfl rfl (fun I hI => ?_)
    replace hI := allLt_of hI
    simp only [AllLt, and_true] at hI
    try dsimp only [List.map_cons, List.map_nil]
    walk_at "go"
    refine Stop.go ?_
    (with_reducible rename Fr _ _ _ _ => F9); (with_reducible rename News _ _ _ _ => N9)
    refine compFKA hh F9 rfl (by with_unfolding_all rfl) (by with_unfolding_all rfl) (by decide) rfl (by decide) rfl rfl rfl ?_
    walk_at "go"
    refine Stop.go ?_
    (with_reducible rename Fr _ _ _ _ => F10); (with_reducible rename News _ _ _ _ => N10)
    refine add_listsK F10 N10 (News.isList N10 (List.Mem.tail _ (List.Mem.tail _ (List.Mem.tail _ (List.Mem.tail _ (List.Mem.head _)))))) (News.isList N10 (List.Mem.tail _ (List.Mem.tail _ (List.Mem.tail _ (List.Mem.head _))))) (fun S1 h11 F11 N11 n11 => ?_) (by omega)
    dsimp only
    walk_at "go"
    refine Stop.go ?_
    (with_reducible rename Fr _ _ _ _ => F12); (with_reducible rename News _ _ _ _ => N12)
    refine ⟨S1, vs1 ++ vs2, _, onV (keyP cdS), rfl, F12, N12, .inr ⟨_, List.Mem.head _, rfl, _, rfl⟩, by rw [List.length_append]; omega, ?_, ?_⟩
    · intro j v Iz oI C oC D oD m₂ h tk E' hv hC hx F7 N7 off ne
      obtain ⟨x, tx, rfl, hxl⟩ := strs_get (strs_app a1 a2) hv
      have hxb : x.length ≤ 40 := (List.mem_append.mp (List.mem_of_getElem? hxl)).elim (b1 x) (b2 x)
      clear F12 N12
      walk_at "go"
      refine Stop.go ?_
      refine PyProof.Rows.eq_str ?_
      have hup : onV (keyP cdS) (Value.str x tx) = (S (List.take (Int.toNat 13) x.cps.toList) == Str.ofString "Crawl-delay: ") := rfl
      rw [hup]
      generalize (S (List.take (Int.toNat 13) x.cps.toList) == Str.ofString "Crawl-delay: ") = bv
      cases bv
      · walk_at "go"
        refine Stop.go ?_
        (with_reducible rename Fr _ _ _ _ => F8); (with_reducible rename News _ _ _ _ => N8)
        exact testIs rfl (fun h => nomatch h) (fun _ => ⟨_, _, rfl, F8, N8⟩)
      · walk_at "go"
        refine Stop.go ?_
        refine testIs rfl (fun _ => ?_) (fun h => nomatch h)
        walk_at "go"
        refine Stop.go ?_
        (with_reducible rename Fr _ _ _ _ => F9); (with_reducible rename News _ _ _ _ => N9)
        exact ⟨rfl, _, _, rfl, F9, N9⟩
    · intro Dt h13 tk13 F13 N13 off13
      have ag := strs_filter (p := keyP cdS) (strs_app a1 a2)
      obtain ⟨vsg, hvg⟩ : ∃ x, x = (vs1 ++ vs2).filter (onV (keyP cdS)) := ⟨_, rfl⟩
      have hgl : vsg.length ≤ 1400 := by rw [hvg]; exact Nat.le_trans (List.length_filter_le _ _) (by rw [List.length_append]; omega)
      rw [← hvg] at N13 ag
      have ng1 := off13 _ (List.Mem.tail _ (List.Mem.tail _ (List.Mem.tail _ (List.Mem.head _))))
      have ng2 := n11 _ (List.Mem.tail _ (List.Mem.tail _ (List.Mem.head _)))
      clear F12 N12 hvg off13
      dsimp only at ng1 ng2
      dsimp only
      walk_at "go"
      refine Stop.go ?_
      (with_reducible rename Fr _ _ _ _ => F14); (with_reducible rename News _ _ _ _ => N14)
      refine kmk_slice_lit (s := ⟨_, _, _, _, _⟩) F14 N14 (News.isList N14 (List.Mem.head _)) (.int _ _) .none (pick_slice _ _ _) (fun Sl h15 F15 N15 hlt15 => ?_) (by with_unfolding_all rfl) (by intro _; with_unfolding_all rfl) (by rw [List.size_toArray, sizeLine_eq]; omega)
      rw [slice_last] at N15
      have ng3 := hlt15 _ (List.Mem.tail _ (List.Mem.tail _ (List.Mem.tail _ (List.Mem.tail _ (List.Mem.head _)))))
      have al := strs_last ag
      dsimp only at ng3
      dsimp only
      walk_at "go"
      refine Stop.go ?_
      (with_reducible rename Fr _ _ _ _ => F16); (with_reducible rename News _ _ _ _ => N16)
      refine extend_in (own := [_, _, _, _, _]) (ys := vsf) F16 N16 ?own ?rest (N16 _ (List.Mem.head _)).1 (fun h17 c17 F17 N17 => ?_) ?sz
      case own =>
        intro p hp
        simp only [List.mem_cons, List.not_mem_nil, or_false] at hp
        rcases hp with rfl | rfl | rfl | rfl | rfl
        · exact Nat.ne_of_gt ng3
        · exact Ne.symm ng1
        · exact ng2
        · exact Nat.ne_of_gt (by omega)
        · exact Nat.ne_of_gt (by omega)
      case rest =>
        intro p hp
        simp only [List.mem_cons, List.not_mem_nil, or_false] at hp
        rcases hp with rfl | rfl | rfl | rfl
        · exact hD1
        · exact hD2
        · exact hD3
        · exact hD4
      case sz =>
        have h1 := al.length
        have h2 := af.length
        have h3 := List.length_filter_le (uaP l2) l1
        rw [List.size_toArray, h1, h2, sizeLine_eq]
        unfold last1
        rw [List.length_drop]
        omega
      dsimp only [List.cons_append, List.nil_append] at N17
      have am := strs_app af al
      obtain ⟨vsm, hvm⟩ : ∃ x, x = vsf ++ vsg.drop (vsg.length - 1) := ⟨_, rfl⟩
      rw [← hvm] at N17
      rw [← hvm] at am
      have N18 := newsTl (newsTl (newsTl N17))
      clear F16 N16 N17 ng1 ng2 ng3 hlt15 n11 al ag hvm
      dsimp only
      walk_at "go"
      refine Stop.go ?_
      (with_reducible rename Fr _ _ _ _ => F9); (with_reducible rename News _ _ _ _ => N9)
      refine compFKA hh F9 rfl (by with_unfolding_all rfl) (by with_unfolding_all rfl) (by decide) rfl (by decide) rfl rfl rfl ?_
      walk_at "go"
      refine Stop.go ?_
      (with_reducible rename Fr _ _ _ _ => F10); (with_reducible rename News _ _ _ _ => N10)
      refine add_listsK F10 N10 (News.isList N10 (List.Mem.tail _ (List.Mem.tail _ (List.Mem.tail _ (List.Mem.tail _ (List.Mem.head _)))))) (News.isList N10 (List.Mem.tail _ (List.Mem.tail _ (List.Mem.tail _ (List.Mem.head _))))) (fun S1 h11 F11 N11 n11 => ?_) (by omega)
      dsimp only
      walk_at "go"
      refine Stop.go ?_
      (with_reducible rename Fr _ _ _ _ => F12); (with_reducible rename News _ _ _ _ => N12)
      refine ⟨S1, vs1 ++ vs2, _, onV (keyP rrS), rfl, F12, N12, .inr ⟨_, List.Mem.head _, rfl, _, rfl⟩, by rw [List.length_append]; omega, ?_, ?_⟩
      · intro j v Iz oI C oC D oD m₂ h tk E' hv hC hx F7 N7 off ne
        obtain ⟨x, tx, rfl, hxl⟩ := strs_get (strs_app a1 a2) hv
        have hxb : x.length ≤ 40 := (List.mem_append.mp (List.mem_of_getElem? hxl)).elim (b1 x) (b2 x)
        clear F12 N12
        walk_at "go"
        refine Stop.go ?_
        refine PyProof.Rows.eq_str ?_
        have hup : onV (keyP rrS) (Value.str x tx) = (S (List.take (Int.toNat 14) x.cps.toList) == Str.ofString "Request-rate: ") := rfl
        rw [hup]
        generalize (S (List.take (Int.toNat 14) x.cps.toList) == Str.ofString "Request-rate: ") = bv
        cases bv
        · walk_at "go"
          refine Stop.go ?_
          (with_reducible rename Fr _ _ _ _ => F8); (with_reducible rename News _ _ _ _ => N8)
          exact testIs rfl (fun h => nomatch h) (fun _ => ⟨_, _, rfl, F8, N8⟩)
        · walk_at "go"
          refine Stop.go ?_
          refine testIs rfl (fun _ => ?_) (fun h => nomatch h)
          walk_at "go"
          refine Stop.go ?_
          (with_reducible rename Fr _ _ _ _ => F9); (with_reducible rename News _ _ _ _ => N9)
          exact ⟨rfl, _, _, rfl, F9, N9⟩
      · intro Dt h13 tk13 F13 N13 off13
        have ag := strs_filter (p := keyP rrS) (strs_app a1 a2)
        obtain ⟨vsg, hvg⟩ : ∃ x, x = (vs1 ++ vs2).filter (onV (keyP rrS)) := ⟨_, rfl⟩
        have hgl : vsg.length ≤ 1400 := by rw [hvg]; exact Nat.le_trans (List.length_filter_le _ _) (by rw [List.length_append]; omega)
        rw [← hvg] at N13 ag
        have ng1 := off13 _ (List.Mem.tail _ (List.Mem.tail _ (List.Mem.tail _ (List.Mem.head _))))
        have ng2 := n11 _ (List.Mem.tail _ (List.Mem.tail _ (List.Mem.head _)))
        clear F12 N12 hvg off13
        dsimp only at ng1 ng2
        dsimp only
        walk_at "go"
        refine Stop.go ?_
        (with_reducible rename Fr _ _ _ _ => F14); (with_reducible rename News _ _ _ _ => N14)
        refine kmk_slice_lit (s := ⟨_, _, _, _, _⟩) F14 N14 (News.isList N14 (List.Mem.head _)) (.int _ _) .none (pick_slice _ _ _) (fun Sl h15 F15 N15 hlt15 => ?_) (by with_unfolding_all rfl) (by intro _; with_unfolding_all rfl) (by rw [List.size_toArray, sizeLine_eq]; omega)
        rw [slice_last] at N15
        have ng3 := hlt15 _ (List.Mem.tail _ (List.Mem.tail _ (List.Mem.tail _ (List.Mem.tail _ (List.Mem.head _)))))
        have al := strs_last ag
        dsimp only at ng3
        dsimp only
        walk_at "go"
        refine Stop.go ?_
        (with_reducible rename Fr _ _ _ _ => F16); (with_reducible rename News _ _ _ _ => N16)
        refine extend_in (own := [_, _, _, _, _]) (ys := vsm) F16 N16 ?own ?rest (N16 _ (List.Mem.head _)).1 (fun h17 c17 F17 N17 => ?_) ?sz
        case own =>
          intro p hp
          simp only [List.mem_cons, List.not_mem_nil, or_false] at hp
          rcases hp with rfl | rfl | rfl | rfl | rfl
          · exact Nat.ne_of_gt ng3
          · exact Ne.symm ng1
          · exact ng2
          · exact Nat.ne_of_gt (by omega)
          · exact Nat.ne_of_gt (by omega)
        case rest =>
          intro p hp
          simp only [List.mem_cons, List.not_mem_nil, or_false] at hp
          rcases hp with rfl | rfl | rfl | rfl
          · exact hD1
          · exact hD2
          · exact hD3
          · exact hD4
        case sz =>
          have h1 := al.length
          have h2 := am.length
          have h3 := List.length_filter_le (uaP l2) l1
          rw [List.size_toArray, h1, h2, List.length_append, sizeLine_eq]
          unfold last1
          rw [List.length_drop, List.length_drop]
          omega
        dsimp only [List.cons_append, List.nil_append] at N17
        have an := strs_app am al
        obtain ⟨vsn, hvn⟩ : ∃ x, x = vsm ++ vsg.drop (vsg.length - 1) := ⟨_, rfl⟩
        rw [← hvn] at N17
        rw [← hvn] at an
        have N18 := newsTl (newsTl (newsTl N17))
        clear F16 N16 N17 ng1 ng2 ng3 hlt15 n11 al ag hvn
        dsimp only
        walk_at "go"
        refine Stop.go ?_
        (with_reducible rename Fr _ _ _ _ => F9); (with_reducible rename News _ _ _ _ => N9)
        rename_i lr _ _ _ hlr _
        refine For_of F9 rfl rfl ?_
        walk_at "go"
        refine Stop.go ?_
        (with_reducible rename Fr _ _ _ _ => F10); (with_reducible rename News _ _ _ _ => N10)
        refine add_listsK F10 N10 (News.isList N10 (List.Mem.tail _ (List.Mem.tail _ (List.Mem.tail _ (List.Mem.tail _ (List.Mem.head _)))))) (News.isList N10 (List.Mem.tail _ (List.Mem.tail _ (List.Mem.tail _ (List.Mem.head _))))) (fun S h11 F11 N11 n11 => ?_) (by omega)
        have hSl : S ≠ lr := n11 _ (List.Mem.head _)
        have hSD : S ≠ D := n11 _ (List.Mem.tail _ (List.Mem.tail _ (List.Mem.head _)))
        have hlD : lr ≠ D := Nat.ne_of_gt hlr.2.1
        have N12 : News s.heap s.heap.objs.size h11 [(lr, W.listOf (([] : List Value)).toArray 0), (S, W.listOf (vs1 ++ vs2).toArray 0), (D, W.listOf vsn.toArray _)] := fun q hq => N11 q (by
          simp only [List.mem_cons, List.not_mem_nil, or_false] at hq
          rcases hq with rfl | rfl | rfl
          · exact List.Mem.tail _ (List.Mem.head _)
          · exact List.Mem.head _
          · exact List.Mem.tail _ (List.Mem.tail _ (List.Mem.tail _ (List.Mem.head _))))
        clear F10 N10 N11 n11 hlr
        have hsa := strs_app a1 a2
        refine iter_anyGL (l := S) (vs := vs1 ++ vs2) (nn := 0) (J10r _ lr S D _ (W.listOf vsn.toArray _) (l1 ++ l2)) hh (List.Mem.tail _ (List.Mem.head _)) F11 N12 ⟨[], 0, rfl, .nil, fun _ _ => rfl⟩ ?turnr ?doner
        case turnr =>
          rintro i v m₁ news₁ h tk own hv hoff - ⟨ys, c, rfl, hys, hm⟩ F13 N13
          clear F11 N12
          obtain ⟨x, tx, rfl, hxl⟩ := strs_get hsa hv
          have hxb : x.length ≤ 40 := (List.mem_append.mp (List.mem_of_getElem? hxl)).elim (b1 x) (b2 x)
          rw [mapS hm] at F13
          replace F13 : Fr s.heap s.heap.objs.size h _ := F13
          replace hoff : ∀ q ∈ own, ∀ b ∈ [lr, S, D], q.1 ≠ b := hoff
          obtain ⟨own', ho'⟩ : ∃ o, o = (S, W.listOf (vs1 ++ vs2).toArray 0) :: (D, W.listOf vsn.toArray c17) :: own := ⟨_, rfl⟩
          have hoff' : OwnOff own' [lr] := fun q hq b hb => by
            rw [List.mem_singleton] at hb
            rw [ho'] at hq
            simp only [List.mem_cons] at hq
            rw [hb]
            rcases hq with rfl | rfl | hq
            · exact hSl
            · exact Ne.symm hlD
            · exact hoff q hq lr (List.Mem.head _)
          replace N13 : News s.heap s.heap.objs.size h ((lr, W.listOf ys.toArray c) :: own') := by rw [ho']; exact N13
          have hfit : Fits ys.toArray.size := fits_len hys (Nat.le_trans (List.length_filter_le _ _) (by rw [List.length_take, List.length_append]; omega))
          walk_at "go"
          refine Stop.go ?_
          refine PyProof.Rows.eq_str ?_
          have hup : ruleP x = ((Mine.S (List.take (Int.toNat 7) x.cps.toList) == Str.ofString "Allow: ") || (Mine.S (List.take (Int.toNat 10) x.cps.toList) == Str.ofString "Disallow: ")) := rfl
          generalize (Mine.S (List.take (Int.toNat 7) x.cps.toList) == Str.ofString "Allow: ") = bv1 at hup ⊢
          cases bv1
          · walk_at "go"
            refine Stop.go ?_
            refine PyProof.Rows.eq_str ?_
            generalize (Mine.S (List.take (Int.toNat 10) x.cps.toList) == Str.ofString "Disallow: ") = bv2 at hup ⊢
            cases bv2
            · walk_at "go"
              refine Stop.go ?_
              (with_reducible rename Fr _ _ _ _ => F14); (with_reducible rename News _ _ _ _ => N14)
              refine end10r F14 N14 ho' (fun q hq => hq) hoff (by rw [take_n hxl hup]; exact hys) (fun y hy => ?_)
              have hy1 := off_str hy (List.Mem.head _)
              dsimp only
              rw [if_neg hy1, hy]
              rfl
            · walk_at "go"
              refine Stop.go ?_
              (with_reducible rename Fr _ _ _ _ => F14); (with_reducible rename News _ _ _ _ => N14)
              rw [List.push_toArray] at N14
              refine end10r F14 N14 ho' (fun q hq => hq) hoff (by rw [take_y hxl hup]; exact strs_snoc hys rfl) (fun y hy => ?_)
              have hy1 := off_str hy (List.Mem.head _)
              dsimp only
              rw [if_neg hy1, hy]
              rfl
          · walk_at "go"
            refine Stop.go ?_
            (with_reducible rename Fr _ _ _ _ => F14); (with_reducible rename News _ _ _ _ => N14)
            rw [List.push_toArray] at N14
            refine end10r F14 N14 ho' (fun q hq => hq) hoff (by rw [take_y hxl hup]; exact strs_snoc hys rfl) (fun y hy => ?_)
            have hy1 := off_str hy (List.Mem.head _)
            dsimp only
            rw [if_neg hy1, hy]
            rfl
        case doner =>
          rintro m₁ news₁ h tk - ⟨ys, c, rfl, hys, hm⟩ F13 N13
          clear F11 N12
          rw [mapS hm] at F13
          rw [hsa.length, List.take_length] at hys
          have hrk : ∀ x ∈ (l1 ++ l2).filter ruleP, PyData.strOk x = true := fun x hx => (List.mem_append.mp (List.mem_filter.mp hx).1).elim (k1 x) (k2 x)
          have hyl := hys.length
          have hrl := List.length_filter_le ruleP (l1 ++ l2)
          rw [List.length_append] at hrl
          have hnl : vsn.length ≤ 702 := by
            rw [an.length]
            unfold last1
            have h3 := List.length_filter_le (uaP l2) l1
            simp only [List.length_append, List.length_drop]
            omega
          dsimp only
          walk_at "go"
          refine Stop.go ?_
          (with_reducible rename Fr _ _ _ _ => F14); (with_reducible rename News _ _ _ _ => N14)
          refine ne_nilS N14 (List.Mem.tail _ (List.Mem.head _)) (List.Mem.head _) hys hrk (by (simp only [units_deeper]; omega)) ?_
          cases hr : (l1 ++ l2).filter ruleP with
          | nil =>
            rw [hr] at hys
            rw [show (!([] : List Str).isEmpty) = false from rfl]
            walk_at "go"
            refine Stop.go ?_
            (with_reducible rename Fr _ _ _ _ => F15); (with_reducible rename News _ _ _ _ => N15)
            refine add_listsK (ws := [Value.str allowS _]) F15 N15 (News.isList N15 (List.Mem.tail _ (List.Mem.tail _ (List.Mem.tail _ (List.Mem.tail _ (List.Mem.head _)))))) (News.isList N15 (List.Mem.head _)) (fun Z h16 F16 N16 n16 => ?_) (by rw [List.length_singleton]; omega)
            refine hQ _ _ Z _ 0 (fun b o e => F16.keep b o e) (N16 _ (List.Mem.head _)).1 (N16 _ (List.Mem.head _)).2.2 ?_
            unfold mergedS
            rw [hr, if_pos rfl]
            exact strs_app an (.cons _ _ .nil)
          | cons z zs =>
            rw [hr] at hys
            rw [show (!(z :: zs).isEmpty) = true from rfl]
            walk_at "go"
            refine Stop.go ?_
            (with_reducible rename Fr _ _ _ _ => F15); (with_reducible rename News _ _ _ _ => N15)
            refine add_listsK F15 N15 (News.isList N15 (List.Mem.tail _ (List.Mem.tail _ (List.Mem.tail _ (List.Mem.head _))))) (News.isList N15 (List.Mem.tail _ (List.Mem.head _))) (fun Z h16 F16 N16 n16 => ?_) (by omega)
            refine hQ _ _ Z _ 0 (fun b o e => F16.keep b o e) (N16 _ (List.Mem.head _)).1 (N16 _ (List.Mem.head _)).2.2 ?_
            unfold mergedS
            rw [hr, if_neg (by simp)]
            exact strs_app an hys
end Mine
end secA10g
section secP10
namespace Mine
noncomputable def agK : List Str := [Str.ofString "plum", Str.ofString "fig", Str.ofString "Fig", Str.ofString "*", Str.ofString "Allow: /"]
noncomputable def ruK : List Str := [Str.ofString "Allow: ", Str.ofString "Disallow: /", Str.ofString "Allow: /Allow:", Str.ofString "Disallow: ", Str.ofString "Allow: /*", Str.ofString "Disallow: /x$"]
noncomputable def dsK : List Str := [Str.ofString "Crawl-delay: 0", Str.ofString "Crawl-delay: 12"]
noncomputable def rsK : List Str := [Str.ofString "Request-rate: 0/1", Str.ofString "Request-rate: 30/7", Str.ofString "Request-rate: 0/none"]
/-- every line that a whole text may have -/
noncomputable def allK : List Str := (agK ++ [seenS]).map uaL ++ dsK ++ rsK ++ ruK ++ [allowS]
noncomputable def OneOf (K : List Str) (l : List Str) : Prop := l = [] ∨ ∃ x ∈ K, l = [x]
theorem OneOf.mem {K l : List Str} (h : OneOf K l) : ∀ x ∈ l, x ∈ K := by
  rcases h with rfl | ⟨y, hy, rfl⟩
  · exact fun _ h => nomatch h
  · intro x hx; rw [List.mem_singleton.mp hx]; exact hy
theorem dvIs_one {v : Value} {ls : List Str} (h : DvIs v ls) : OneOf dsK ls := by
  rcases h with ⟨_, rfl⟩ | ⟨_, _, rfl⟩ | ⟨_, _, rfl⟩
  · exact .inl rfl
  · exact .inr ⟨_, by decide +kernel, rfl⟩
  · exact .inr ⟨_, by decide +kernel, rfl⟩
theorem rateIs_one {D : RateD} {ls : List Str} (h : RateIs D ls) : OneOf rsK ls := by
  rcases h with ⟨_, _, _, _, rfl⟩ | ⟨_, _, _, _, rfl⟩ | ⟨_, _, _, _, rfl⟩
  all_goals exact .inr ⟨_, by decide +kernel, rfl⟩
theorem all_of {K : List Str} {p : Str → Bool} (h : K.all p = true) : ∀ x ∈ K, p x = true := List.all_eq_true.mp h
theorem filter_yes {l : List Str} {p : Str → Bool} (h : ∀ x ∈ l, p x = true) : l.filter p = l := List.filter_eq_self.mpr h
theorem filter_no {l : List Str} {p : Str → Bool} (h : ∀ x ∈ l, p x = false) : l.filter p = [] := List.filter_eq_nil_iff.mpr fun x hx => by rw [h x hx]; decide
theorem no_of {K : List Str} {p : Str → Bool} (h : K.all (fun x => !p x) = true) : ∀ x ∈ K, p x = false := fun x hx => by
  have := all_of h x hx
  simpa using this
structure Ok10 (ss ds rs ts : List Str) : Prop where
  a : ∀ x ∈ ss, x ∈ agK
  d : OneOf dsK ds
  r : OneOf rsK rs
  t : ∀ x ∈ ts, x ∈ ruK
theorem mem_ruL {ts : List Str} (h : ∀ x ∈ ts, x ∈ ruK) : ∀ x ∈ ruL ts, x ∈ ruK ++ [allowS] := by
  unfold ruL
  split
  · intro x hx; rw [List.mem_singleton.mp hx]; exact List.mem_append.mpr (.inr (List.mem_singleton.mpr rfl))
  · exact fun x hx => List.mem_append.mpr (.inl (h x hx))
theorem line_mem {ss ds rs ts : List Str} (h : Ok10 ss ds rs ts) : ∀ x ∈ lineS (ss ++ [seenS]) ds rs ts, x ∈ allK := by
  intro x hx
  unfold lineS at hx
  unfold allK
  rw [List.mem_append, List.mem_append, List.mem_append] at hx
  rw [List.append_assoc, List.mem_append, List.mem_append, List.mem_append]
  rcases hx with ((hx | hx) | hx) | hx
  · refine .inl (.inl (.inl ?_))
    obtain ⟨y, hy, rfl⟩ := List.mem_map.mp hx
    refine List.mem_map_of_mem ?_
    rcases List.mem_append.mp hy with hy | hy
    · exact List.mem_append.mpr (.inl (h.a y hy))
    · exact List.mem_append.mpr (.inr hy)
  · exact .inl (.inl (.inr (h.d.mem x hx)))
  · exact .inl (.inr (h.r.mem x hx))
  · exact .inr (mem_ruL h.t x hx)
theorem line_ne {ss ds rs ts : List Str} : lineS (ss ++ [seenS]) ds rs ts ≠ [] := by
  unfold lineS
  intro e
  have h := congrArg List.length e
  simp at h
theorem allK_nl : ∀ x ∈ allK, NoNl x := fun x hx => by
  have h := all_of (K := allK) (p := fun x => !x.cps.toList.contains 10) (by decide +kernel) x hx
  intro hm
  simp [hm] at h
theorem allK_len : ∀ x ∈ allK, x.length ≤ 40 := fun x hx => by
  have h := all_of (K := allK) (p := fun x => decide (x.length ≤ 40)) (by decide +kernel) x hx
  simpa using h
theorem allK_ok : ∀ x ∈ allK, PyData.strOk x = true := all_of (by decide +kernel)
theorem uaL_inj {a b : Str} (h : uaL a = uaL b) : a = b := by
  have e : ∀ x : Str, (uaL x).cps.toList = (Str.ofString "User-agent: ").cps.toList ++ x.cps.toList := fun x => by
    show ((Str.ofString "User-agent: ").cps ++ x.cps).toList = _
    rw [Array.toList_append]
  have h1 := congrArg (fun z : Str => z.cps.toList) h
  rw [e, e] at h1
  have h2 := List.append_cancel_left h1
  rw [← S_of a, ← S_of b, h2]
theorem preS_ua (x : Str) : (preS 12 (uaL x) == Str.ofString "User-agent: ") = true := by
  have e : (uaL x).cps.toList = (Str.ofString "User-agent: ").cps.toList ++ x.cps.toList := by
    show ((Str.ofString "User-agent: ").cps ++ x.cps).toList = _
    rw [Array.toList_append]
  unfold preS
  rw [e, List.take_append_of_le_length (by decide +kernel)]
  decide +kernel
theorem part_ua {ss : List Str} (h : ∀ x ∈ ss, x ∈ agK) : ∀ x ∈ (ss ++ [seenS]).map uaL, x ∈ (agK ++ [seenS]).map uaL := by
  intro x hx
  obtain ⟨y, hy, rfl⟩ := List.mem_map.mp hx
  refine List.mem_map_of_mem ?_
  rcases List.mem_append.mp hy with hy | hy
  · exact List.mem_append.mpr (.inl (h y hy))
  · exact List.mem_append.mpr (.inr hy)
theorem ua_other : ∀ y ∈ dsK ++ rsK ++ (ruK ++ [allowS]), (preS 12 y == Str.ofString "User-agent: ") = false := no_of (by decide +kernel)
theorem ua_in {ss ds rs ts : List Str} (h : Ok10 ss ds rs ts) (x : Str) : (lineS (ss ++ [seenS]) ds rs ts).contains (uaL x) = (ss ++ [seenS]).contains x := by
  rw [Bool.eq_iff_iff, List.contains_iff_mem, List.contains_iff_mem]
  constructor
  · intro hx
    unfold lineS at hx
    rw [List.mem_append, List.mem_append, List.mem_append] at hx
    have key : uaL x ∈ dsK ++ rsK ++ (ruK ++ [allowS]) → False := fun hm => by
      have h1 := ua_other _ hm
      rw [preS_ua] at h1; cases h1
    rcases hx with ((hx | hx) | hx) | hx
    · obtain ⟨y, hy, e⟩ := List.mem_map.mp hx
      rw [← uaL_inj e]; exact hy
    · exact (key (List.mem_append.mpr (.inl (List.mem_append.mpr (.inl (h.d.mem _ hx)))))).elim
    · exact (key (List.mem_append.mpr (.inl (List.mem_append.mpr (.inr (h.r.mem _ hx)))))).elim
    · exact (key (List.mem_append.mpr (.inr (mem_ruL h.t _ hx)))).elim
  · intro hx
    unfold lineS
    rw [List.mem_append, List.mem_append, List.mem_append]
    exact .inl (.inl (.inl (List.mem_map_of_mem hx)))
theorem seen_ag : seenS ∉ agK := by decide +kernel
theorem filt_ua {ss1 ds1 rs1 ts1 ss2 ds2 rs2 ts2 : List Str} (h1 : Ok10 ss1 ds1 rs1 ts1) (h2 : Ok10 ss2 ds2 rs2 ts2) :
    (lineS (ss1 ++ [seenS]) ds1 rs1 ts1).filter (uaP (lineS (ss2 ++ [seenS]) ds2 rs2 ts2)) = (ss1.filter (fun x => ss2.contains x) ++ [seenS]).map uaL := by
  have key : ∀ y ∈ dsK ++ rsK ++ (ruK ++ [allowS]), uaP (lineS (ss2 ++ [seenS]) ds2 rs2 ts2) y = false := fun y hy => by
    unfold uaP; rw [ua_other y hy]; rfl
  rw [show lineS (ss1 ++ [seenS]) ds1 rs1 ts1 = (ss1 ++ [seenS]).map uaL ++ ds1 ++ rs1 ++ ruL ts1 from rfl]
  rw [List.filter_append, List.filter_append, List.filter_append]
  rw [filter_no (l := ds1) fun y hy => key y (List.mem_append.mpr (.inl (List.mem_append.mpr (.inl (h1.d.mem _ hy)))))]
  rw [filter_no (l := rs1) fun y hy => key y (List.mem_append.mpr (.inl (List.mem_append.mpr (.inr (h1.r.mem _ hy)))))]
  rw [filter_no (l := ruL ts1) fun y hy => key y (List.mem_append.mpr (.inr (mem_ruL h1.t _ hy)))]
  rw [List.append_nil, List.append_nil, List.append_nil, List.filter_map]
  congr 1
  have e : (uaP (lineS (ss2 ++ [seenS]) ds2 rs2 ts2) ∘ uaL) = fun x => (ss2 ++ [seenS]).contains x := funext fun x => by
    show (preS 12 (uaL x) == _ && _) = _
    rw [preS_ua, ua_in h2]; rfl
  rw [e, List.filter_append]
  congr 1
  · refine List.filter_congr fun x hx => ?_
    rw [Bool.eq_iff_iff, List.contains_iff_mem, List.contains_iff_mem, List.mem_append, List.mem_singleton]
    exact ⟨fun h => h.resolve_right fun e => seen_ag (e ▸ h1.a x hx), .inl⟩
  · rw [List.filter_cons_of_pos, List.filter_nil]
    rw [List.contains_iff_mem]; simp
theorem filt_cd {ss ds rs ts : List Str} (h : Ok10 ss ds rs ts) : (lineS (ss ++ [seenS]) ds rs ts).filter (keyP cdS) = ds := by
  rw [show lineS (ss ++ [seenS]) ds rs ts = (ss ++ [seenS]).map uaL ++ ds ++ rs ++ ruL ts from rfl]
  rw [List.filter_append, List.filter_append, List.filter_append]
  rw [filter_no (l := (ss ++ [seenS]).map uaL) fun y hy => no_of (K := (agK ++ [seenS]).map uaL) (by decide +kernel) y (part_ua h.a y hy)]
  rw [filter_no (l := rs) fun y hy => no_of (K := rsK) (by decide +kernel) y (h.r.mem _ hy)]
  rw [filter_no (l := ruL ts) fun y hy => no_of (K := ruK ++ [allowS]) (by decide +kernel) y (mem_ruL h.t _ hy)]
  rw [filter_yes (l := ds) fun y hy => all_of (K := dsK) (by decide +kernel) y (h.d.mem _ hy)]
  simp
theorem filt_rr {ss ds rs ts : List Str} (h : Ok10 ss ds rs ts) : (lineS (ss ++ [seenS]) ds rs ts).filter (keyP rrS) = rs := by
  rw [show lineS (ss ++ [seenS]) ds rs ts = (ss ++ [seenS]).map uaL ++ ds ++ rs ++ ruL ts from rfl]
  rw [List.filter_append, List.filter_append, List.filter_append]
  rw [filter_no (l := (ss ++ [seenS]).map uaL) fun y hy => no_of (K := (agK ++ [seenS]).map uaL) (by decide +kernel) y (part_ua h.a y hy)]
  rw [filter_no (l := ds) fun y hy => no_of (K := dsK) (by decide +kernel) y (h.d.mem _ hy)]
  rw [filter_no (l := ruL ts) fun y hy => no_of (K := ruK ++ [allowS]) (by decide +kernel) y (mem_ruL h.t _ hy)]
  rw [filter_yes (l := rs) fun y hy => all_of (K := rsK) (by decide +kernel) y (h.r.mem _ hy)]
  simp
theorem filt_ru {ss ds rs ts : List Str} (h : Ok10 ss ds rs ts) : (lineS (ss ++ [seenS]) ds rs ts).filter ruleP = ts := by
  rw [show lineS (ss ++ [seenS]) ds rs ts = (ss ++ [seenS]).map uaL ++ ds ++ rs ++ ruL ts from rfl]
  rw [List.filter_append, List.filter_append, List.filter_append]
  rw [filter_no (l := (ss ++ [seenS]).map uaL) fun y hy => no_of (K := (agK ++ [seenS]).map uaL) (by decide +kernel) y (part_ua h.a y hy)]
  rw [filter_no (l := ds) fun y hy => no_of (K := dsK) (by decide +kernel) y (h.d.mem _ hy)]
  rw [filter_no (l := rs) fun y hy => no_of (K := rsK) (by decide +kernel) y (h.r.mem _ hy)]
  rw [List.nil_append, List.nil_append, List.nil_append]
  unfold ruL
  split
  · rename_i he
    rw [List.isEmpty_iff] at he
    rw [he]; decide +kernel
  · exact filter_yes fun y hy => all_of (K := ruK) (by decide +kernel) y (h.t _ hy)
theorem last_one {K a b : List Str} (ha : OneOf K a) (hb : OneOf K b) : last1 (a ++ b) = if b = [] then a else b := by
  rcases ha with rfl | ⟨x, _, rfl⟩ <;> rcases hb with rfl | ⟨y, _, rfl⟩ <;> simp [last1]
theorem plain10 {ss1 ds1 rs1 ts1 ss2 ds2 rs2 ts2 : List Str} (h1 : Ok10 ss1 ds1 rs1 ts1) (h2 : Ok10 ss2 ds2 rs2 ts2) :
    mergedS (lineS (ss1 ++ [seenS]) ds1 rs1 ts1) (lineS (ss2 ++ [seenS]) ds2 rs2 ts2) = lineS (ss1.filter (fun x => ss2.contains x) ++ [seenS]) (if ds2 = [] then ds1 else ds2) (if rs2 = [] then rs1 else rs2) (ts1 ++ ts2) := by
  unfold mergedS
  rw [filt_ua h1 h2, List.filter_append, List.filter_append, List.filter_append, filt_cd h1, filt_cd h2, filt_rr h1, filt_rr h2, filt_ru h1, filt_ru h2, last_one h1.d h2.d, last_one h1.r h2.r]
  unfold lineS ruL
  congr 1
  cases ts1 ++ ts2 with
  | nil => rfl
  | cons => simp
theorem Ok10.merge {ss1 ds1 rs1 ts1 ss2 ds2 rs2 ts2 : List Str} (h1 : Ok10 ss1 ds1 rs1 ts1) (h2 : Ok10 ss2 ds2 rs2 ts2) : Ok10 (ss1.filter (fun x => ss2.contains x)) (if ds2 = [] then ds1 else ds2) (if rs2 = [] then rs1 else rs2) (ts1 ++ ts2) := by
  refine ⟨fun x hx => h1.a x (List.mem_filter.mp hx).1, ?_, ?_, fun x hx => (List.mem_append.mp hx).elim (h1.t x) (h2.t x)⟩
  · split
    · exact h1.d
    · exact h2.d
  · split
    · exact h1.r
    · exact h2.r
end Mine
end secP10
section secA10h
namespace Mine
noncomputable def front (p : Params) (lo : Addr) (c : Nat) (rs : List RecD) : Led := (lo, W.listOf (refs rs).toArray c) :: rs.flatMap (recLed p 59)
theorem front_adr {p : Params} {lo : Addr} {c : Nat} {rs : List RecD} : (front p lo c rs).map (·.1) = lo :: rs.flatMap adr := by
  unfold front; rw [List.map_cons, adr_flat]
theorem Off.addF {f r k xs : Led} {g hp : Heap} {L : Addr} (h : Off f r k) (N : News g L hp (f ++ (r ++ k))) (hx : ∀ q ∈ xs, hp.get? q.1 = none) (hn : (xs.map (·.1)).Nodup) : Off (f ++ xs) r k := by
  have key : ∀ q ∈ f ++ (r ++ k), ∀ x ∈ xs, x.1 ≠ q.1 := fun q hq x hxx e => by
    have h1 := hx x hxx
    rw [e, (N q hq).1] at h1; cases h1
  refine ⟨?_, fun q hq a ha => ?_, fun q hq a ha => ?_, h.c⟩
  · rw [List.map_append, List.nodup_append]
    refine ⟨h.nd, hn, fun a ha b hb e => ?_⟩
    obtain ⟨q, hq, rfl⟩ := List.mem_map.mp ha
    obtain ⟨x, hxx, rfl⟩ := List.mem_map.mp hb
    exact key q (List.mem_append.mpr (.inl hq)) x hxx e.symm
  · rw [List.map_append] at ha
    rcases List.mem_append.mp ha with ha | ha
    · exact h.a q hq a ha
    · obtain ⟨x, hxx, rfl⟩ := List.mem_map.mp ha
      exact fun e => key q (List.mem_append.mpr (.inr (List.mem_append.mpr (.inl hq)))) x hxx e.symm
  · rw [List.map_append] at ha
    rcases List.mem_append.mp ha with ha | ha
    · exact h.b q hq a ha
    · obtain ⟨x, hxx, rfl⟩ := List.mem_map.mp ha
      exact fun e => key q (List.mem_append.mpr (.inr (List.mem_append.mpr (.inr hq)))) x hxx e.symm
theorem pick10 {p : Params} {lo L : Addr} {c : Nat} {h₀ h : Heap} {ra rb : List RecD} {R : RecD} {r k : Led} (ho : Off (front p lo c (ra ++ R :: rb)) r k) (N : News h₀ L h (front p lo c (ra ++ R :: rb) ++ (r ++ k))) :
    ∃ rest, rest = ra.flatMap (recLed p 59) ++ rb.flatMap (recLed p 59) ++ (r ++ k) ∧ News h₀ L h ((lo, W.listOf (refs (ra ++ R :: rb)).toArray c) :: (recLed p 59 R ++ rest)) ∧ OwnOff rest (lo :: adr R) ∧ (lo :: adr R).Nodup := by
  have hnd := ho.nd
  rw [front_adr, List.flatMap_append, List.flatMap_cons] at hnd
  have hsub : (lo :: adr R).Sublist (lo :: (ra.flatMap adr ++ (adr R ++ rb.flatMap adr))) := .cons_cons _ ((List.sublist_append_left _ _).trans (List.sublist_append_right _ _))
  have hin : ∀ a ∈ lo :: adr R, a ∈ (front p lo c (ra ++ R :: rb)).map (·.1) := fun a ha => by
    rw [front_adr, List.flatMap_append, List.flatMap_cons]; exact hsub.subset ha
  refine ⟨_, rfl, fun q hq => N q ?_, fun q hq a ha => ?_, hsub.nodup hnd⟩
  · unfold front
    rw [List.flatMap_append, List.flatMap_cons]
    simp only [List.mem_cons, List.mem_append, List.cons_append] at hq ⊢
    rcases hq with h | h | (h | h) | h <;> simp [h]
  · rcases List.mem_append.mp hq with hq | hq
    · intro e
      have hq' : q.1 ∈ ra.flatMap adr ∨ q.1 ∈ rb.flatMap adr := by
        rcases List.mem_append.mp hq with hq | hq
        · left; rw [← adr_flat p 59]; exact List.mem_map_of_mem hq
        · right; rw [← adr_flat p 59]; exact List.mem_map_of_mem hq
      rw [e] at hq'
      simp only [List.nodup_cons, List.nodup_append, List.mem_append, not_or] at hnd
      rcases List.mem_cons.mp ha with rfl | ha
      · rcases hq' with x | x
        · exact hnd.1.1 x
        · exact hnd.1.2.2 x
      · rcases hq' with x | x
        · exact hnd.2.2.2 a x a (.inl ha) rfl
        · exact hnd.2.2.1.2.2 a ha a x rfl
    · rcases List.mem_append.mp hq with hq | hq
      · exact ho.a q hq a (hin a ha)
      · exact ho.b q hq a (hin a ha)
theorem put10 {p : Params} {lo : Addr} {c c' : Nat} {ra rb : List RecD} {R R' : RecD} {r k rest : Led} (ho : Off (front p lo c (ra ++ R :: rb)) r k) (hr : rest = ra.flatMap (recLed p 59) ++ rb.flatMap (recLed p 59) ++ (r ++ k)) (hnd' : (lo :: adr R').Nodup) (hor : OwnOff rest (adr R')) :
    Off (front p lo c' (ra ++ R' :: rb)) r k ∧ ∀ q ∈ front p lo c' (ra ++ R' :: rb) ++ (r ++ k), q ∈ (lo, W.listOf (refs (ra ++ R' :: rb)).toArray c') :: (recLed p 59 R' ++ rest) := by
  have hnd := ho.nd
  rw [front_adr, List.flatMap_append, List.flatMap_cons] at hnd
  have hra : ∀ x ∈ ra.flatMap adr, x ∉ adr R' := fun x hx hx' => by
    rw [← adr_flat p 59] at hx
    obtain ⟨q, hq, rfl⟩ := List.mem_map.mp hx
    exact hor q (by rw [hr]; simp [hq]) _ hx' rfl
  have hrb : ∀ x ∈ rb.flatMap adr, x ∉ adr R' := fun x hx hx' => by
    rw [← adr_flat p 59] at hx
    obtain ⟨q, hq, rfl⟩ := List.mem_map.mp hx
    exact hor q (by rw [hr]; simp [hq]) _ hx' rfl
  have hold : ∀ a, a ∈ (front p lo c' (ra ++ R' :: rb)).map (·.1) → a ∈ adr R' ∨ a ∈ (front p lo c (ra ++ R :: rb)).map (·.1) := fun a ha => by
    rw [front_adr, List.flatMap_append, List.flatMap_cons] at ha
    rw [front_adr, List.flatMap_append, List.flatMap_cons]
    simp only [List.mem_cons, List.mem_append] at ha ⊢
    rcases ha with h | h | h | h
    · exact .inr (.inl h)
    · exact .inr (.inr (.inl h))
    · exact .inl h
    · exact .inr (.inr (.inr (.inr h)))
  have hsub : (lo :: (ra.flatMap adr ++ rb.flatMap adr)).Sublist (lo :: (ra.flatMap adr ++ (adr R ++ rb.flatMap adr))) := .cons_cons _ (.append (.refl _) (List.sublist_append_right _ _))
  have h0 := hsub.nodup hnd
  refine ⟨⟨?_, fun q hq a ha => ?_, fun q hq a ha => ?_, ho.c⟩, fun q hq => ?_⟩
  · rw [front_adr, List.flatMap_append, List.flatMap_cons]
    simp only [List.nodup_cons, List.nodup_append, List.mem_append, not_or] at h0 hnd' ⊢
    refine ⟨⟨h0.1.1, hnd'.1, h0.1.2⟩, h0.2.1, ⟨hnd'.2, h0.2.2.1, fun a ha b hb e => hrb b hb (e ▸ ha)⟩, fun a ha b hb e => ?_⟩
    rcases hb with hb | hb
    · exact hra a ha (e ▸ hb)
    · exact h0.2.2.2 a ha b hb e
  · rcases hold a ha with h | h
    · exact hor q (by rw [hr]; simp [hq]) a h
    · exact ho.a q hq a h
  · rcases hold a ha with h | h
    · exact hor q (by rw [hr]; simp [hq]) a h
    · exact ho.b q hq a h
  · unfold front at hq
    rw [List.flatMap_append, List.flatMap_cons] at hq
    rw [hr]
    simp only [List.mem_cons, List.mem_append, List.cons_append] at hq ⊢
    rcases hq with h | (h | h | h) | h <;> simp [h]
/-- a rate kept in the ledger's rest -/
noncomputable def RvL (p : Params) (rest : Led) (v : Value) (ls : List Str) : Prop := (v = .none ∧ ls = []) ∨ (∃ t, v = .int 0 t ∧ ls = [Str.ofString "Request-rate: 0/none"]) ∨ ∃ D, v = .ref D.r ∧ (∀ q ∈ rateLed p D, q ∈ rest) ∧ RateIs D ls
theorem RvL.v {p : Params} {rest news : Led} {h₀ h : Heap} {L : Addr} {v : Value} {ls : List Str} (x : RvL p rest v ls) (N : News h₀ L h news) (hs : ∀ q ∈ rest, q ∈ news) : RvV p h v ls := by
  rcases x with h | h | ⟨D, h1, h2, h3⟩
  · exact .inl h
  · exact .inr (.inl h)
  · exact .inr (.inr ⟨D, h1, rateLed_at N fun q hq => hs q (h2 q hq), h3⟩)
theorem RvL.one {p : Params} {rest : Led} {v : Value} {ls : List Str} (x : RvL p rest v ls) : OneOf rsK ls := by
  rcases x with ⟨_, rfl⟩ | ⟨_, _, rfl⟩ | ⟨_, _, _, h⟩
  · exact .inl rfl
  · exact .inr ⟨_, by decide +kernel, rfl⟩
  · exact rateIs_one h
theorem RvL.handed {p : Params} {rest : Led} {v : Value} {ls : List Str} (x : RvL p rest v ls) : handedIn v = true := by
  rcases x with ⟨rfl, _⟩ | ⟨_, rfl, _⟩ | ⟨_, rfl, _⟩ <;> rfl
theorem DvIs.handed {v : Value} {ls : List Str} (x : DvIs v ls) : handedIn v = true := by
  rcases x with ⟨rfl, _⟩ | ⟨_, rfl, _⟩ | ⟨_, rfl, _⟩ <;> rfl
theorem RvL.none {p : Params} {rest : Led} {v : Value} {ls : List Str} (x : RvL p rest v ls) : noneV v = true ↔ ls = [] := by
  rcases x with ⟨rfl, rfl⟩ | ⟨_, rfl, rfl⟩ | ⟨_, rfl, _, h⟩
  · exact ⟨fun _ => rfl, fun _ => rfl⟩
  · exact ⟨fun h => (nomatch h), fun h => (nomatch h)⟩
  · refine ⟨fun h => (nomatch h), fun e => ?_⟩
    rcases h with ⟨_, _, _, _, rfl⟩ | ⟨_, _, _, _, rfl⟩ | ⟨_, _, _, _, rfl⟩ <;> cases e
theorem DvIs.none {v : Value} {ls : List Str} (x : DvIs v ls) : noneV v = true ↔ ls = [] := by
  rcases x with ⟨rfl, rfl⟩ | ⟨_, rfl, rfl⟩ | ⟨_, rfl, rfl⟩
  · exact ⟨fun _ => rfl, fun _ => rfl⟩
  · exact ⟨fun h => (nomatch h), fun h => (nomatch h)⟩
  · exact ⟨fun h => (nomatch h), fun h => (nomatch h)⟩
structure RecS (p : Params) (rest : Led) (n : Nat) (R : RecD) (ss ds rs ts : List Str) : Prop where
  us : StrsAre R.us ss
  ls : StrsAre R.ls ts
  dv : DvIs R.dv ds
  rv : RvL p rest R.rv rs
  ok : Ok10 ss ds rs ts
  nu : ss.length ≤ n
  nl : ts.length ≤ n
noncomputable def RecE (p : Params) (rest : Led) (n : Nat) (R : RecD) : Prop := ∃ ss ds rs ts, RecS p rest n R ss ds rs ts
theorem RvL.mono {p : Params} {r r' : Led} {v : Value} {ls : List Str} (x : RvL p r v ls) (hs : ∀ q ∈ r, q ∈ r') : RvL p r' v ls := by
  rcases x with h | h | ⟨D, h1, h2, h3⟩
  · exact .inl h
  · exact .inr (.inl h)
  · exact .inr (.inr ⟨D, h1, fun q hq => hs q (h2 q hq), h3⟩)
theorem RecE.mono {p : Params} {r r' : Led} {n n' : Nat} {R : RecD} (x : RecE p r n R) (hs : ∀ q ∈ r, q ∈ r') (hn : n ≤ n') : RecE p r' n' R := by
  obtain ⟨ss, ds, rs, ts, h⟩ := x
  exact ⟨ss, ds, rs, ts, h.us, h.ls, h.dv, h.rv.mono hs, h.ok, Nat.le_trans h.nu hn, Nat.le_trans h.nl hn⟩
noncomputable def J10 (p : Params) (lo : Addr) (base : Led) (st : List Str) (m₀ : Str → Option Value) (cnt nn : Nat → Nat) (i : Nat) (m : Str → Option Value) (nx : Led) : Prop :=
  ∃ rs c rest, nx = front p lo c rs ++ (rest ++ []) ∧ Off (front p lo c rs) rest [] ∧ (∀ q ∈ base, q ∈ rest) ∧ rs.length = cnt i ∧ (∀ R ∈ rs, RecE p rest (nn i) R) ∧ ∀ y, st.contains y = false → m y = m₀ y
theorem J10.in {p : Params} {lo : Addr} {base : Led} {st : List Str} {m₀ m : Str → Option Value} {cnt nn : Nat → Nat} {i : Nat} {nx : Led} (h : J10 p lo base st m₀ cnt nn i m nx) : ∀ q ∈ base, q ∈ nx := by
  obtain ⟨rs, c, rest, rfl, _, hb, _⟩ := h
  exact fun q hq => List.mem_append.mpr (.inr (List.mem_append.mpr (.inl (hb q hq))))
/-- the end of a turn of the script's loop -/
theorem end10 {p : Params} {g h' : Heap} {L : Addr} {s₁ : Shared} {m₀ m' : Str → Option Value} {lo : Addr} {base : Led} {cnt nn : Nat → Nat} {i c c' tk : Nat} {st : List Str} {ra rb : List RecD} {R R' : RecD} {own rest9 r news' : Led} {los : List Value} (F : Fr g L h' m') (N : News g L h' news')
    (ho : Off (front p lo c (ra ++ R :: rb)) r (own ++ [])) (hr : rest9 = ra.flatMap (recLed p 59) ++ rb.flatMap (recLed p 59) ++ (r ++ (own ++ []))) (hnd' : (lo :: adr R').Nodup) (hor : OwnOff rest9 (adr R')) (hb : ∀ q ∈ base, q ∈ r) (hl : (ra ++ R' :: rb).length = cnt (i + 1))
    (hall : ∀ Z ∈ ra ++ R' :: rb, RecE p r (nn (i + 1)) Z) (hlo : los = refs (ra ++ R' :: rb)) (hin : ∀ q ∈ (lo, W.listOf los.toArray c') :: (recLed p 59 R' ++ rest9), q ∈ news') (hm : ∀ y, st.contains y = false → m' y = m₀ y) :
    InvEndG g L (J10 p lo base st m₀ cnt nn (i + 1)) own s₁ { s₁ with heap := h', toks := tk } := by
  subst hlo
  obtain ⟨P1, P2⟩ := put10 (c' := c') ho hr hnd' hor
  exact P1.finish (fun _ _ _ h => nomatch h) F N (fun q hq => hin q (P2 q hq)) ⟨_, c', r, rfl, P1.less, hb, hl, hall, hm⟩
theorem split_at {rs : List RecD} {k : Nat} (h : k < rs.length) : ∃ ra R rb, rs = ra ++ R :: rb ∧ ra.length = k := ⟨rs.take k, rs[k], rs.drop (k + 1), by simp, by simp; omega⟩
/-- a text of the rules' list, of the agents' list -/
noncomputable def RuV (v : Value) : Prop := ∃ x t, v = .str x t ∧ x ∈ ruK
noncomputable def AgV (v : Value) : Prop := ∃ x t, v = .str x t ∧ x ∈ agK
theorem ruV_nil {v : Value} (h : v ∈ ([] : List Value)) : RuV v := nomatch h
theorem ruV_cons {x : Str} {t : Tok} {l : List Value} (hx : x ∈ ruK) (hl : ∀ v, v ∈ l → RuV v) : ∀ v, v ∈ Value.str x t :: l → RuV v := fun v hv => by
  rcases List.mem_cons.mp hv with rfl | hv
  · exact ⟨_, _, rfl, hx⟩
  · exact hl v hv
theorem agV_nil {v : Value} (h : v ∈ ([] : List Value)) : AgV v := nomatch h
theorem agV_cons {x : Str} {t : Tok} {l : List Value} (hx : x ∈ agK) (hl : ∀ v, v ∈ l → AgV v) : ∀ v, v ∈ Value.str x t :: l → AgV v := fun v hv => by
  rcases List.mem_cons.mp hv with rfl | hv
  · exact ⟨_, _, rfl, hx⟩
  · exact hl v hv
theorem off0 {lo lr D0 : Addr} {o1 o2 : Obj} {p : Params} (h1 : lr < lo ∧ D0 < lo) (h2 : D0 < lr) : Off (front p lo 0 []) [(lr, o1), (D0, o2)] [] := by
  have a1 : @Ne Nat lr lo := Nat.ne_of_lt h1.1
  have a2 : @Ne Nat D0 lo := Nat.ne_of_lt h1.2
  refine ⟨by rw [front_adr]; simp, fun q hq a ha => ?_, ownOff_nil, ownOff_nil⟩
  rw [front_adr] at ha
  simp only [List.flatMap_nil, List.mem_cons, List.not_mem_nil, or_false] at ha hq
  subst ha
  rcases hq with rfl | rfl
  · exact a1
  · exact a2
theorem recE0 {p : Params} {rest : Led} {r d u l : Addr} {k1 k2 k3 k4 t : Tok} {cu cl : Nat} : RecE p rest 1 ⟨r, d, u, l, [.str (Str.ofString "fig") t], [], .none, .none, k1, k2, k3, k4, cu, cl⟩ :=
  ⟨[Str.ofString "fig"], [], [], [], .cons _ _ .nil, .nil, .inl ⟨rfl, rfl⟩, .inl ⟨rfl, rfl⟩, ⟨fun x hx => by rw [List.mem_singleton.mp hx]; decide +kernel, .inl rfl, .inl rfl, fun _ h => nomatch h⟩, Nat.le_refl _, Nat.zero_le _⟩
theorem own_adr {X : Led} {h₀ h₁ : Heap} {L : Addr} {R : RecD} (N : News h₀ L h₁ X) (n : RecNew h₁ R) : OwnOff X (adr R) := fun q hq a ha e => by
  have hg := (N q hq).1
  simp only [adr, List.mem_cons, List.not_mem_nil, or_false] at ha
  rw [e] at hg
  rcases ha with e | e | e | e <;> rw [e] at hg
  · rw [n.2.2.1] at hg; cases hg
  · rw [n.2.2.2] at hg; cases hg
  · rw [n.1] at hg; cases hg
  · rw [n.2.1] at hg; cases hg
theorem rules6 {h₀ h : Heap} {L lo lr D0 : Addr} {o1 o2 : Obj} {t1 t2 t3 t4 t5 t6 : Tok}
    (N : News h₀ L h [(lo, o1), (lr, W.listOf #[Value.str (Str.ofString "Allow: ") t1, Value.str (Str.ofString "Disallow: /") t2, Value.str (Str.ofString "Allow: /Allow:") t3, Value.str (Str.ofString "Disallow: ") t4, Value.str (Str.ofString "Allow: /*") t5, Value.str (Str.ofString "Disallow: /x$") t6] 0), (D0, o2)]) :
    ∃ rv : List Value, rv.length = 6 ∧ (∀ v, v ∈ rv → RuV v) ∧ News h₀ L h [(lo, o1), (lr, W.listOf rv.toArray 0), (D0, o2)] :=
  ⟨[Value.str (Str.ofString "Allow: ") t1, Value.str (Str.ofString "Disallow: /") t2, Value.str (Str.ofString "Allow: /Allow:") t3, Value.str (Str.ofString "Disallow: ") t4, Value.str (Str.ofString "Allow: /*") t5, Value.str (Str.ofString "Disallow: /x$") t6], rfl,
    ruV_cons (by decide +kernel) (ruV_cons (by decide +kernel) (ruV_cons (by decide +kernel) (ruV_cons (by decide +kernel) (ruV_cons (by decide +kernel) (ruV_cons (by decide +kernel) (fun _ => ruV_nil)))))), N⟩
section
variable {p : Params} {rest rest' : Led} {n : Nat} {R R' : RecD} {ss ds rs ts : List Str} {x : Str} {t : Tok}
theorem RecS.addU (h : RecS p rest n R ss ds rs ts) (hx : x ∈ agK) (e1 : R'.us = R.us ++ [.str x t]) (e2 : R'.ls = R.ls) (e3 : R'.dv = R.dv) (e4 : R'.rv = R.rv) : RecE p rest (n + 1) R' :=
  ⟨ss ++ [x], ds, rs, ts, e1 ▸ strs_snoc h.us rfl, e2 ▸ h.ls, e3 ▸ h.dv, e4 ▸ h.rv, ⟨fun y hy => (List.mem_append.mp hy).elim (h.ok.a y) fun hy => by rw [List.mem_singleton.mp hy]; exact hx, h.ok.d, h.ok.r, h.ok.t⟩, by rw [List.length_append]; exact Nat.succ_le_succ h.nu, Nat.le_succ_of_le h.nl⟩
theorem RecS.addL (h : RecS p rest n R ss ds rs ts) (hx : x ∈ ruK) (e1 : R'.us = R.us) (e2 : R'.ls = R.ls ++ [.str x t]) (e3 : R'.dv = R.dv) (e4 : R'.rv = R.rv) : RecE p rest (n + 1) R' :=
  ⟨ss, ds, rs, ts ++ [x], e1 ▸ h.us, e2 ▸ strs_snoc h.ls rfl, e3 ▸ h.dv, e4 ▸ h.rv, ⟨h.ok.a, h.ok.d, h.ok.r, fun y hy => (List.mem_append.mp hy).elim (h.ok.t y) fun hy => by rw [List.mem_singleton.mp hy]; exact hx⟩, Nat.le_succ_of_le h.nu, by rw [List.length_append]; exact Nat.succ_le_succ h.nl⟩
theorem RecS.setD (h : RecS p rest n R ss ds rs ts) {ds' : List Str} (hd : DvIs R'.dv ds') (e1 : R'.us = R.us) (e2 : R'.ls = R.ls) (e4 : R'.rv = R.rv) : RecE p rest (n + 1) R' :=
  ⟨ss, ds', rs, ts, e1 ▸ h.us, e2 ▸ h.ls, hd, e4 ▸ h.rv, ⟨h.ok.a, dvIs_one hd, h.ok.r, h.ok.t⟩, Nat.le_succ_of_le h.nu, Nat.le_succ_of_le h.nl⟩
theorem RecS.setR (h : RecS p rest n R ss ds rs ts) {rs' : List Str} (hr : RvL p rest' R'.rv rs') (e1 : R'.us = R.us) (e2 : R'.ls = R.ls) (e3 : R'.dv = R.dv) : RecE p rest' (n + 1) R' :=
  ⟨ss, ds, rs', ts, e1 ▸ h.us, e2 ▸ h.ls, e3 ▸ h.dv, hr, ⟨h.ok.a, h.ok.d, hr.one, h.ok.t⟩, Nat.le_succ_of_le h.nu, Nat.le_succ_of_le h.nl⟩
theorem RecS.bare (h : RecS p rest n R ss ds rs ts) (e1 : R'.us = []) (e2 : R'.ls = R.ls) (e3 : R'.dv = R.dv) (e4 : R'.rv = R.rv) : RecE p rest (n + 1) R' :=
  ⟨[], ds, rs, ts, e1 ▸ .nil, e2 ▸ h.ls, e3 ▸ h.dv, e4 ▸ h.rv, ⟨(fun _ h9 => nomatch h9), h.ok.d, h.ok.r, h.ok.t⟩, Nat.zero_le _, Nat.le_succ_of_le h.nl⟩
theorem all_mid {ra rb : List RecD} {P P' : RecD → Prop} (h : ∀ Z ∈ ra ++ R :: rb, P Z) (hp : ∀ Z, P Z → P' Z) (hR : P' R') : ∀ Z ∈ ra ++ R' :: rb, P' Z := fun Z hZ => by
  rcases List.mem_append.mp hZ with h1 | h1
  · exact hp Z (h Z (List.mem_append.mpr (.inl h1)))
  · rcases List.mem_cons.mp h1 with rfl | h1
    · exact hR
    · exact hp Z (h Z (List.mem_append.mpr (.inr (List.mem_cons_of_mem _ h1))))
end
noncomputable def DvV (v : Value) : Prop := ∃ ls, DvIs v ls
theorem dvV_nil {v : Value} (h : v ∈ ([] : List Value)) : DvV v := nomatch h
theorem dvV_cons {x : Value} {ls : List Str} {l : List Value} (hx : DvIs x ls) (hl : ∀ v, v ∈ l → DvV v) : ∀ v, v ∈ x :: l → DvV v := fun v hv => by
  rcases List.mem_cons.mp hv with rfl | hv
  · exact ⟨_, hx⟩
  · exact hl v hv
noncomputable def RlV (p : Params) (rest : Led) (v : Value) : Prop := ∃ ls, RvL p rest v ls
theorem rlV_nil {p : Params} {rest : Led} {v : Value} (h : v ∈ ([] : List Value)) : RlV p rest v := nomatch h
theorem rlV_cons {p : Params} {rest : Led} {x : Value} {ls : List Str} {l : List Value} (hx : RvL p rest x ls) (hl : ∀ v, v ∈ l → RlV p rest v) : ∀ v, v ∈ x :: l → RlV p rest v := fun v hv => by
  rcases List.mem_cons.mp hv with rfl | hv
  · exact ⟨_, hx⟩
  · exact hl v hv
theorem mem_bare {a : Addr × Obj} {u9 l r d u : Addr} {o1 o2 o3 o4 o5 : Obj} {rest : Led} : ∀ q, q ∈ a :: ([(u9, o1), (l, o2), (r, o3), (d, o4)] ++ rest) → q ∈ (u9, o1) :: a :: (u, o5) :: (l, o2) :: (r, o3) :: (d, o4) :: rest := fun q hq => by
  simp only [List.mem_cons, List.mem_append, List.cons_append, List.nil_append] at hq ⊢
  rcases hq with h | h | h | h | h | h <;> simp [h]
end Mine
end secA10h
section secA10k
open PySem PySem.W PyProof.Rows PyProof.Rows.LCg PySem.SeqAt
namespace Mine
structure D4 where
  ss : List Str
  ds : List Str
  rs : List Str
  ts : List Str
noncomputable def text4 (d : D4) : Str := Txt.join nlS (lineS (d.ss ++ [seenS]) d.ds d.rs d.ts)
/-- the record but for the count of its agents' list -/
noncomputable def zc (R : RecD) : RecD := { R with cu := 0 }
theorem zc_at {rs rs' : List RecD} (h : rs'.map zc = rs.map zc) {i : Nat} {R : RecD} (hR : rs[i]? = some R) : ∃ R', rs'[i]? = some R' ∧ zc R' = zc R := by
  have h1 : (rs'.map zc)[i]? = some (zc R) := by rw [h, List.getElem?_map, hR]; rfl
  rw [List.getElem?_map] at h1
  obtain ⟨R', h2, h3⟩ := Option.map_eq_some_iff.mp h1
  exact ⟨R', h2, h3⟩
theorem refs_zc {rs rs' : List RecD} (h : rs'.map zc = rs.map zc) : refs rs' = refs rs := by
  have e : ∀ l : List RecD, refs l = (l.map zc).map fun R => Value.ref R.r := fun l => by
    unfold refs; rw [List.map_map]; rfl
  rw [e, e, h]
theorem zc_len {rs rs' : List RecD} (h : rs'.map zc = rs.map zc) : rs'.length = rs.length := by
  have := congrArg List.length h
  simpa using this
theorem zc_r {R R' : RecD} (e : zc R' = zc R) : R'.r = R.r := (congrArg RecD.r e : (zc R').r = (zc R).r)
theorem RecS.zcE {p : Params} {rest : Led} {n : Nat} {R R' : RecD} {ss ds rs ts : List Str} (h : RecS p rest n R ss ds rs ts) (e : zc R' = zc R) : RecS p rest n R' ss ds rs ts := by
  have e1 : R'.us = R.us := (congrArg RecD.us e : (zc R').us = (zc R).us)
  have e2 : R'.ls = R.ls := (congrArg RecD.ls e : (zc R').ls = (zc R).ls)
  have e3 : R'.dv = R.dv := (congrArg RecD.dv e : (zc R').dv = (zc R).dv)
  have e4 : R'.rv = R.rv := (congrArg RecD.rv e : (zc R').rv = (zc R).rv)
  exact ⟨e1 ▸ h.us, e2 ▸ h.ls, e3 ▸ h.dv, e4 ▸ h.rv, h.ok, h.nu, h.nl⟩
theorem RecS.mono {p : Params} {r r' : Led} {n n' : Nat} {R : RecD} {ss ds rs ts : List Str} (h : RecS p r n R ss ds rs ts) (hs : ∀ q ∈ r, q ∈ r') (hn : n ≤ n') : RecS p r' n' R ss ds rs ts :=
  ⟨h.us, h.ls, h.dv, h.rv.mono hs, h.ok, Nat.le_trans h.nu hn, Nat.le_trans h.nl hn⟩
theorem dats10 {p : Params} {rest : Led} {n : Nat} : ∀ {rs : List RecD}, (∀ R ∈ rs, RecE p rest n R) → ∃ dl : List D4, dl.length = rs.length ∧ ∀ (i : Nat) (R : RecD) (d : D4), rs[i]? = some R → dl[i]? = some d → RecS p rest n R d.ss d.ds d.rs d.ts
  | [], _ => ⟨[], rfl, fun i R d h => by simp at h⟩
  | R :: r, h => by
    obtain ⟨dl, h1, h2⟩ := dats10 (rs := r) fun Z hZ => h Z (List.mem_cons_of_mem _ hZ)
    obtain ⟨ss, ds, rs, ts, hS⟩ := h R (List.mem_cons_self ..)
    refine ⟨⟨ss, ds, rs, ts⟩ :: dl, by rw [List.length_cons, List.length_cons, h1], fun i Z d hZ hd => ?_⟩
    cases i with
    | zero =>
      rw [List.getElem?_cons_zero] at hZ hd
      cases hZ; cases hd; exact hS
    | succ i => exact h2 i Z d (by simpa using hZ) (by simpa using hd)
theorem whole_step {p : Params} {lo L : Addr} {c c' : Nat} {g h h' : Heap} {rest k : Led} {ra rb : List RecD} {R : RecD} (ho : Off (front p lo c (ra ++ R :: rb)) rest k) (N : News g L h (front p lo c (ra ++ R :: rb) ++ (rest ++ k)))
    (hk : ∀ b o, b ≠ R.u → h.get? b = some o → h'.get? b = some o) (hu : h'.get? R.u = some (W.listOf R.us.toArray c')) :
    News g L h' (front p lo c (ra ++ { R with cu := c' } :: rb) ++ (rest ++ k)) ∧ Off (front p lo c (ra ++ { R with cu := c' } :: rb)) rest k := by
  obtain ⟨rest9, hr, N9, hor, hnd⟩ := pick10 ho N
  obtain ⟨P1, P2⟩ := put10 (c' := c) (R' := { R with cu := c' }) ho hr hnd (fun q hq a ha => hor q hq a (List.mem_cons_of_mem _ ha))
  have hrf : refs (ra ++ { R with cu := c' } :: rb) = refs (ra ++ R :: rb) := refs_same rfl
  simp only [adr, List.nodup_cons, List.mem_cons, List.not_mem_nil, not_or, or_false, not_false_eq_true, List.nodup_nil, and_true] at hnd
  obtain ⟨⟨b1, b2, b3, b4⟩, ⟨c1, c2, c3⟩, _⟩ := hnd
  refine ⟨fun q hq => ?_, P1⟩
  have hq2 := P2 q hq
  rw [hrf] at hq2
  have hold : ∀ q, q ∈ (lo, W.listOf (refs (ra ++ R :: rb)).toArray c) :: (recLed p 59 R ++ rest9) → q.1 ≠ R.u → h'.get? q.1 = some q.2 ∧ q.1 ≠ L ∧ g.get? q.1 = none := fun q hq hne => ⟨hk _ _ hne (N9 q hq).1, (N9 q hq).2⟩
  simp only [recLed, List.mem_cons, List.mem_append, List.not_mem_nil, or_false] at hq2
  rcases hq2 with e | (e | e | e | e) | e
  · rw [e]; exact hold _ (List.Mem.head _) b1
  · rw [e]; exact ⟨hu, (N9 _ (List.Mem.tail _ (List.Mem.head _))).2⟩
  · rw [e]; exact hold _ (List.Mem.tail _ (List.Mem.tail _ (List.Mem.head _))) (Ne.symm c1)
  · rw [e]; exact hold _ (List.Mem.tail _ (List.Mem.tail _ (List.Mem.tail _ (List.Mem.head _)))) (Ne.symm c2)
  · rw [e]; exact hold _ (List.Mem.tail _ (List.Mem.tail _ (List.Mem.tail _ (List.Mem.tail _ (List.Mem.head _))))) (Ne.symm c3)
  · exact hold q (List.mem_cons_of_mem _ (List.mem_append.mpr (.inr e))) (hor q e _ (List.mem_cons_of_mem _ (List.mem_cons_self ..)))
theorem Off.addR {f r k : Led} {a : Addr} {o : Obj} (h : Off f r k) (hl : ∀ q ∈ f ++ (r ++ k), q.1 ≠ a) : Off f ((a, o) :: r) k := by
  refine ⟨h.nd, fun q hq x hx => ?_, h.b, fun q hq x hx => ?_⟩
  · rcases List.mem_cons.mp hq with rfl | hq
    · obtain ⟨z, hz, rfl⟩ := List.mem_map.mp hx
      exact fun e => hl z (List.mem_append.mpr (.inl hz)) e.symm
    · exact h.a q hq x hx
  · rcases List.mem_cons.mp hx with rfl | hx
    · exact hl q (List.mem_append.mpr (.inr (List.mem_append.mpr (.inr hq))))
    · exact h.c q hq x hx
noncomputable def JW (p : Params) (lo : Addr) (c : Nat) (rest : Led) (rs : List RecD) (dl : List D4) (i : Nat) (ys : List Value) (news : Led) : Prop :=
  ∃ rs', news = front p lo c rs' ++ (rest ++ []) ∧ Off (front p lo c rs') rest [] ∧ rs'.map zc = rs.map zc ∧ StrsAre ys ((dl.map text4).take i)
theorem apart_of {R : RecD} (h : (adr R).Nodup) : Apart R := by
  simp only [adr, List.nodup_cons, List.mem_cons, List.not_mem_nil, not_or, or_false, not_false_eq_true, List.nodup_nil, and_true] at h
  obtain ⟨⟨c1, c2, c3⟩, ⟨e1, e2⟩, g1⟩ := h
  exact ⟨g1, Ne.symm c2, Ne.symm e1, Ne.symm c3, Ne.symm e2, c1⟩
theorem front_rec {p : Params} {lo : Addr} {c i : Nat} {rs : List RecD} {R : RecD} {r k : Led} (h : rs[i]? = some R) : ∀ q ∈ recLed p 59 R, q ∈ front p lo c rs ++ (r ++ k) := fun q hq => by
  refine List.mem_append.mpr (.inl (List.mem_cons_of_mem _ ?_))
  exact List.mem_flatMap.mpr ⟨R, List.mem_of_getElem? h, hq⟩
theorem split_get {rs : List RecD} {i : Nat} {R : RecD} (h : rs[i]? = some R) : ∃ ra rb, rs = ra ++ R :: rb ∧ ra.length = i := by
  obtain ⟨hi, e⟩ := List.getElem?_eq_some_iff.mp h
  exact ⟨rs.take i, rs.drop (i + 1), by rw [← e]; simp, by simp; omega⟩
theorem line_len {ss ds rs ts : List Str} {n : Nat} (h : Ok10 ss ds rs ts) (h1 : ss.length ≤ n) (h2 : ts.length ≤ n) (hn : n ≤ 200) : (lineS (ss ++ [seenS]) ds rs ts).length ≤ 700 := by
  unfold lineS
  have a : ds.length ≤ 1 := by rcases h.d with rfl | ⟨_, _, rfl⟩ <;> simp
  have b : rs.length ≤ 1 := by rcases h.r with rfl | ⟨_, _, rfl⟩ <;> simp
  have c := ruL_len ts
  simp only [List.length_append, List.length_map, List.length_singleton]
  omega
theorem agK_len : ∀ x ∈ agK, x.length ≤ 20 := fun x hx => by
  have h := all_of (K := agK) (p := fun x => decide (x.length ≤ 20)) (by decide +kernel) x hx
  simpa using h
theorem ruK_len : ∀ x ∈ ruK, x.length ≤ 20 := fun x hx => by
  have h := all_of (K := ruK) (p := fun x => decide (x.length ≤ 20)) (by decide +kernel) x hx
  simpa using h
/-- a merge of two records -/
theorem RecS.merge {p : Params} {rest : Led} {n n' : Nat} {R1 R2 M : RecD} {ss1 ds1 rs1 ts1 ss2 ds2 rs2 ts2 : List Str} (h1 : RecS p rest n R1 ss1 ds1 rs1 ts1) (h2 : RecS p rest n R2 ss2 ds2 rs2 ts2)
    (u1 : M.us = R1.us.filter (keepIn ss2)) (u2 : M.ls = R1.ls ++ R2.ls) (u3 : M.dv = (if noneV R2.dv then R1.dv else R2.dv)) (u4 : M.rv = (if noneV R2.rv then R1.rv else R2.rv)) (hn : n + n ≤ n') :
    RecS p rest n' M (ss1.filter (fun x => ss2.contains x)) (if ds2 = [] then ds1 else ds2) (if rs2 = [] then rs1 else rs2) (ts1 ++ ts2) := by
  have e : ∀ {vs : List Value} {ss : List Str}, StrsAre vs ss → StrsAre (vs.filter (keepIn ss2)) (ss.filter (fun x => ss2.contains x)) := fun {vs} {ss} h => by
    have e1 : vs.filter (keepIn ss2) = vs.filter (onV fun x => ss2.contains x) := List.filter_congr fun v hv => by
      obtain ⟨x, t, rfl⟩ := strs_all h v hv
      rfl
    rw [e1]; exact strs_filter h
  refine ⟨u1 ▸ e h1.us, u2 ▸ strs_app h1.ls h2.ls, ?_, ?_, h1.ok.merge h2.ok, ?_, ?_⟩
  · rw [u3]
    by_cases hd : ds2 = []
    · rw [if_pos (h2.dv.none.mpr hd), if_pos hd]; exact h1.dv
    · rw [if_neg (fun hx => hd (h2.dv.none.mp hx)), if_neg hd]; exact h2.dv
  · rw [u4]
    by_cases hd : rs2 = []
    · rw [if_pos (h2.rv.none.mpr hd), if_pos hd]; exact h1.rv
    · rw [if_neg (fun hx => hd (h2.rv.none.mp hx)), if_neg hd]; exact h2.rv
  · have := List.length_filter_le (fun x => ss2.contains x) ss1
    have := h1.nu
    omega
  · rw [List.length_append]
    have := h1.nl; have := h2.nl
    omega
theorem eq_strs_same {prog : Program} {w : World} {A : Around} {E : Value → Shared → Prop} {s : Shared} {Q : Value → Shared → Prop} {a b : Addr} {us vs : List Value} {ss : List Str} (ha : s.heap.IsList a us.toArray) (hb : s.heap.IsList b vs.toArray) (h1 : StrsAre us ss) (h2 : StrsAre vs ss) (hu : A.units < cLine)
    (h : Q (.bool true) s) : wpAny (model prog w) A (compareOp .Eq (.ref a) (.ref b)) Q E s := by
  refine eq_listAt (e := fun _ => true) ha hb (by rw [List.size_toArray, List.size_toArray, h1.length, h2.length]) hu (fun j hj1 hj2 => ?_) ?_
  · have e1 : us[j]? = some us.toArray[j] := by
      rw [← List.getElem?_toArray]; exact Array.getElem?_eq_getElem hj1
    have e2 : vs[j]? = some vs.toArray[j] := by
      rw [← List.getElem?_toArray]; exact Array.getElem?_eq_getElem hj2
    obtain ⟨x, t, hx, hx2⟩ := strs_get h1 e1
    obtain ⟨y, u, hy, hy2⟩ := strs_get h2 e2
    rw [hx2] at hy2
    cases hy2
    rw [hx, hy]
    have q := eqAt_str (A := A.in1) (s := s) x x t u
    rw [beq_self_eq_true] at q
    exact q
  · have e : ((List.range us.toArray.size).all fun _ => true) = true := by simp
    rw [e]; exact h
theorem take4 {dl : List D4} {i : Nat} {d : D4} (h : dl[i]? = some d) : (dl.map text4).take (i + 1) = (dl.map text4).take i ++ [text4 d] := by
  rw [List.take_add_one, List.getElem?_map, h]; rfl
theorem front_same {p : Params} {lo : Addr} {c c' : Nat} {ra rb : List RecD} {R : RecD} {r k : Led} {P : Addr → Prop} (h : ∀ q ∈ front p lo c (ra ++ R :: rb) ++ (r ++ k), P q.1) : ∀ q ∈ front p lo c (ra ++ { R with cu := c' } :: rb) ++ (r ++ k), P q.1 := fun q hq => by
  rcases List.mem_append.mp hq with hq | hq
  · have e : (front p lo c (ra ++ { R with cu := c' } :: rb)).map (·.1) = (front p lo c (ra ++ R :: rb)).map (·.1) := by
      rw [front_adr, front_adr, List.flatMap_append, List.flatMap_append]; rfl
    have h1 : q.1 ∈ (front p lo c (ra ++ { R with cu := c' } :: rb)).map (·.1) := List.mem_map_of_mem hq
    rw [e] at h1
    obtain ⟨z, hz, e1⟩ := List.mem_map.mp h1
    rw [← e1]; exact h z (List.mem_append.mpr (.inl hz))
  · exact h q (List.mem_append.mpr (.inr hq))
theorem zc_mid {ra rb rs : List RecD} {R : RecD} {c' : Nat} (h : (ra ++ R :: rb).map zc = rs.map zc) : (ra ++ { R with cu := c' } :: rb).map zc = rs.map zc := by
  rw [← h, List.map_append, List.map_append]; rfl
theorem whole_new {p : Params} {L : Addr} {c' : Nat} {g h h' : Heap} {M : RecD} {XX : Led} (N : News g L h (recLed p 59 M ++ XX)) (hap : Apart M) (hoX : OwnOff XX (adr M))
    (hk : ∀ b o, b ≠ M.u → h.get? b = some o → h'.get? b = some o) (hu : h'.get? M.u = some (W.listOf M.us.toArray c')) : News g L h' (recLed p 59 { M with cu := c' } ++ XX) := fun q hq => by
  have hold : ∀ q, q ∈ recLed p 59 M ++ XX → q.1 ≠ M.u → h'.get? q.1 = some q.2 ∧ q.1 ≠ L ∧ g.get? q.1 = none := fun q hq hne => ⟨hk _ _ hne (N q hq).1, (N q hq).2⟩
  obtain ⟨c1, c2, c3, c4, c5, c6⟩ := hap
  rcases List.mem_append.mp hq with e | e
  · simp only [recLed, List.mem_cons, List.not_mem_nil, or_false] at e
    rcases e with e | e | e | e
    · rw [e]; exact ⟨hu, (N _ (List.Mem.head _)).2⟩
    · rw [e]; exact hold _ (List.Mem.tail _ (List.Mem.head _)) (Ne.symm c6)
    · rw [e]; exact hold _ (List.Mem.tail _ (List.Mem.tail _ (List.Mem.head _))) c2
    · rw [e]; exact hold _ (List.Mem.tail _ (List.Mem.tail _ (List.Mem.tail _ (List.Mem.head _)))) c4
  · exact hold q (List.mem_append.mpr (.inr e)) (hoX q e _ (List.mem_cons_self ..))
theorem strs_at2 : ∀ {vs : List Value} {ss : List Str}, StrsAre vs ss → ∀ {i : Nat} {x : Str}, ss[i]? = some x → ∃ t, vs[i]? = some (.str x t)
  | _, _, .nil, i, x, h => by simp at h
  | _, _, .cons y t r, 0, x, h => ⟨t, by simpa using h⟩
  | _, _, .cons y t r, i + 1, x, h => by
    obtain ⟨u, hu⟩ := strs_at2 r (i := i) (by simpa using h)
    exact ⟨u, by simpa using hu⟩
theorem joined_ok {ls : List Str} (hb : ∀ x ∈ ls, x.length ≤ 40) (hn : ls.length ≤ 700) : (ls.map (·.length)).sum + ls.length * (Str.ofString "\n").length ≤ 16777216 := by
  have h2 := sum_le (l := ls.map (·.length)) (B := 40) fun n hn => by
    obtain ⟨z, hz, rfl⟩ := List.mem_map.mp hn
    exact hb z hz
  rw [List.length_map] at h2
  have h3 : (Str.ofString "\n").length = 1 := by decide +kernel
  rw [h3]; omega
end Mine
end secA10k
open PySem PySem.W PyProof.Rows PyProof.Rows.LCg
namespace Mine
theorem gen_turn2 {M : Model} {A : Around} {f : Sem Flow} {g : Heap} {L : Addr} {J : (Str → Option Value) → List (Addr × Obj) → Prop} {own : List (Addr × Obj)} {s s' : Shared} {Q : Flow → Shared → Prop} {E : Value → Shared → Prop}
    (H : ∀ Q', wpAny M A f (InvPostG g L J own s Q') E s') : wpAny M A f (InvPostG g L J own s Q) E s' := H Q
end Mine
open Mine
local macro_rules | `(tactic| walk_at "go") => `(tactic| repeat' (first | (k_unfold; (try dsimp only)) | walk1 | (dsimp only; walk1)))
local macro_rules | `(tactic| walk_at $k9:str) => if ["call ref", "exec Assign cons ListComp", "eval ListComp", "SrcIs", "EltJ", "call builtin:str.join", "compareOp NotEq str str", "compareOp Eq ref ref", "exec For Name Call cons nil", "exec For Name Name cons nil", "pyIter ref", "InvEndG"].contains k9.getString || (k9.getString.startsWith "subscriptTail" && k9.getString.endsWith "ref int") then `(tactic| refine Stop.of ?_) else Lean.Macro.throwUnsupported
local macro_rules | `(tactic| walk_at "call builtin:list.append") => `(tactic| (k_here; (try dsimp only [List.cons_append, List.nil_append]); (with_reducible show wpAny _ _ (call (Value.builtin _) [Value.ref _, _]) _ _ _); k_dflt (refine' append_K ?k1 ?k2 ?k3 ?_ ?z; (case k1 => with_reducible assumption); (case k2 => with_reducible assumption); (case k3 => k_upd); (case z => first | exact (show Fits _ from (by with_reducible assumption)) | size_fits); k_whole); intro h' F' N'; (try k_sweep)))
local macro_rules | `(tactic| walk_at "newList") => `(tactic| (k_here; k_dflt (refine' newList_K ?k1 ?k2 ?_ ?z; (case k1 => with_reducible assumption); (case k2 => with_reducible assumption); (case z => rw [sizeLine_eq]; exact Nat.le_of_ble_eq_true rfl); k_whole); intro l' h' F' N' l1; (try k_lt l1); (try k_sweep)))
local macro_rules | `(tactic| k_ne) => `(tactic| first | with_reducible assumption | (refine Ne.symm ?_; with_reducible assumption) | (apply Nat.ne_of_lt; omega) | (apply Nat.ne_of_gt; omega))
local macro_rules | `(tactic| k_all) => `(tactic| ((with_reducible rename OwnOff _ _ => hOff9); exact fun q hq => hOff9 q hq _ (by k_mem)))
local macro_rules | `(tactic| k_handed) => `(tactic| (with_reducible assumption))
local macro_rules | `(tactic| walk_at "compareOp Eq int int") => `(tactic| (k_here; first | refine eqI_t (by omega) ?_ | refine eqI_f (by omega) ?_))
local macro_rules | `(tactic| walk_at "compareOp Lt int int") => `(tactic| (k_here; first | refine ltI_t (by omega) ?_ | refine ltI_f (by omega) ?_))
local macro_rules | `(tactic| walk_at "binaryOp Mod int int") => `(tactic| (k_here; first | (with_reducible refine modE (by with_reducible assumption) (by decide) ?_; intro _ _) | refine Stop.of ?_))
local macro_rules | `(tactic| walk_at "callWith") => `(tactic| ((with_reducible show wpAny _ _ (callWith _ (Value.builtin _) (_ :: _) _ []) _ _ _); refine callWith_method1 ?_))
local macro_rules | `(tactic| walk_at "callWith ref") => `(tactic| (k_here; k_dflt (first | (refine' callWith_K ?k1 ?k2 ?_; (case k1 => with_reducible assumption); (case k2 => k_is); k_whole) | (refine' callWith_K0 ?k1 ?k2 ?_; (case k1 => first | with_reducible assumption | exact Frag.In.keeps (by with_reducible assumption) (Fr.keep (by with_reducible assumption))); (case k2 => k_is); k_whole))))
local macro_rules | `(tactic| walk_at "call type:range") => `(tactic| (k_here; (with_reducible rename Fr _ _ _ _ => F'); (with_reducible rename News _ _ _ _ => N'); first | (with_unfolding_all refine range1_rows F' N' ?_; intro _ _ _ _ _ _ _ _ _) | (with_unfolding_all refine range2_rows F' N' ?_; intro _ _ _ _ _ _ _ _ _)))
local macro_rules | `(tactic| walk_at "execs cons Assign cons") => `(tactic| walk_at "execs cons")
set_option maxRecDepth 100000 in
set_option maxHeartbeats 8000000 in
theorem PySem.Challenge.cw_dn0256_10_holds : PySem.Challenge.rw_dn0256_10.Holds := by
  refine Mine.hd10 ?_
  k_go0
  (all_goals try k_fold)
  walk_at "go"
  refine Stop.go ?_
  (rename Fr _ _ _ _ => F1); (rename News _ _ _ _ => N1); (rename IntsAre _ _ => hI1)
  rename Frag.In _ _ => KX
  rename World => wd
  rename Shared => s₁
  rename Top _ _ _ _ _ _ => T
  rename_i D0 ws _ hC0 hL0 _ _ lr _ hlr _ _ lo _ hlo _
  have hln := hI1.length
  have hwl : ws.length ≤ 63 := by omega
  obtain ⟨rv, hrl, hru, N2⟩ := rules6 N1
  replace N2 : News s₁.heap s₁.heap.objs.size _ (front wd.params lo 0 [] ++ ([(lr, W.listOf rv.toArray 0), (D0, W.listOf ws.toArray 0)] ++ [])) := N2
  have hof0 : Off (front wd.params lo 0 []) [(lr, W.listOf rv.toArray 0), (D0, W.listOf ws.toArray 0)] [] := off0 hlo hlr
  clear N1
  obtain ⟨rest0, hrest0⟩ : ∃ x, x = [(lr, W.listOf rv.toArray 0), (D0, W.listOf ws.toArray 0)] := ⟨_, rfl⟩
  have hD0m : (D0, W.listOf ws.toArray 0) ∈ rest0 := by rw [hrest0]; exact List.Mem.tail _ (List.Mem.head _)
  have hlrm : (lr, W.listOf rv.toArray 0) ∈ rest0 := by rw [hrest0]; exact List.Mem.head _
  rw [← hrest0] at N2 hof0
  clear hrest0
  refine For_of F1 rfl rfl ?_
  walk_at "go"
  refine Stop.go ?_
  rename IsRange _ _ _ _ _ _ _ _ => R5
  (with_reducible rename Fr _ _ _ _ => F5); (with_reducible rename News _ _ _ _ => N5)
  refine iter_rangeG (n := 3) (J10 wd.params lo rest0 [Str.ofString "k", Str.ofString "one"] _ (fun i => i) (fun _ => 1)) rfl R5 rfl (by decide) (by decide) (by decide) F5 N5 ⟨[], 0, rest0, rfl, hof0, (fun _ h => h), rfl, (fun _ h => nomatch h), fun _ _ => rfl⟩ ?turn1 ?done1
  case turn1 =>
    rintro i t m₁ news₁ h tk own hi hoff ⟨rs, c, rest, rfl, ho, hb, hl, hall, hm⟩ F6 N6
    clear F5 N5
    refine gen_turn (fun Q91 => ?_)
    rw [mapS hm] at F6
    have ho2 := ho.own hoff
    have N7 : News s₁.heap s₁.heap.objs.size h (front wd.params lo c rs ++ (rest ++ (own ++ []))) := fun q hq => N6 q (by
      simp only [List.mem_append, List.not_mem_nil, or_false] at hq ⊢
      rcases hq with h | h | h
      · exact .inl (.inl h)
      · exact .inl (.inr h)
      · exact .inr h)
    obtain ⟨X2, hX2⟩ : ∃ x, x = rs.flatMap (recLed wd.params 59) ++ (rest ++ (own ++ [])) := ⟨_, rfl⟩
    have N8 : News s₁.heap s₁.heap.objs.size h ((lo, W.listOf (refs rs).toArray c) :: X2) := by rw [hX2]; exact N7
    clear N6
    walk_at "go"
    refine Stop.go ?_
    with_reducible rename Fr _ _ _ _ => F8
    refine ct_new (Frag.In.keeps KX F8.keep) (Top.keeps T F8.keep) (by (simp only [depth_deeper, depth_caller]; decide)) rfl (fun h3 tk3 R e3 x3 q1 q2 q3 q4 hnew hap => ?_)
    have hno : OwnOff ((lo, W.listOf (refs rs).toArray c) :: X2) (adr R) := own_adr N8 hnew
    have hnoX : OwnOff X2 (lo :: adr R) := fun q hq x hx => by
      rcases List.mem_cons.mp hx with rfl | hx
      · rw [hX2] at hq
        have hlo2 : @Eq (List Addr) ((front wd.params x c rs).map (·.1)) (x :: rs.flatMap adr) := front_adr
        rcases List.mem_append.mp hq with hq | hq
        · have hn := ho2.nd
          rw [hlo2, List.nodup_cons] at hn
          exact fun e => hn.1 (e ▸ (by rw [← adr_flat wd.params 59]; exact List.mem_map_of_mem hq))
        · rcases List.mem_append.mp hq with hq | hq
          · exact ho2.a q hq _ (by rw [hlo2]; exact List.mem_cons_self ..)
          · exact ho2.b q hq _ (by rw [hlo2]; exact List.mem_cons_self ..)
      · exact hno q (List.mem_cons_of_mem _ hq) x hx
    have N9 := newsApp (news_rec F8 x3 hnew) (newsExt N8 e3)
    have F9 := F8.keeps e3
    have hfr := rec_fresh (p := wd.params) (C := 59) hnew
    have hap2 := adr_nodup hap
    have hz1 : Fits (refs rs).toArray.size := by show _ ≤ sizeLine; unfold refs; rw [List.size_toArray, List.length_map, hl, sizeLine_eq]; show i ≤ _; omega
    have ho3 := ho2.addF N7 hfr hap2
    obtain ⟨r, d, u, l, us, ls, dv, rv9, k1, k2, k3, k4, cu, cl⟩ := R
    dsimp only at q1 q2 q3 q4
    subst q1 q2 q3 q4
    obtain ⟨c1, c2, c3, c4, c5, c6⟩ := hap
    dsimp only at c1 c2 c3 c4 c5 c6
    have g1 := hno _ (List.Mem.head _) u (List.Mem.head _)
    have g2 := hno _ (List.Mem.head _) l (List.Mem.tail _ (List.Mem.head _))
    have g3 := hno _ (List.Mem.head _) r (List.Mem.tail _ (List.Mem.tail _ (List.Mem.head _)))
    have g4 := hno _ (List.Mem.head _) d (List.Mem.tail _ (List.Mem.tail _ (List.Mem.tail _ (List.Mem.head _))))
    dsimp only [recLed, recDict, List.cons_append, List.nil_append] at N9
    dsimp only [adr] at hnoX
    dsimp only at g1 g2 g3 g4 F9 ⊢
    clear F8 N8 e3 x3 hno N7
    walk_at "go"
    refine Stop.go ?_
    (with_reducible rename Fr _ _ _ _ => F10); (with_reducible rename News _ _ _ _ => N10)
    rw [List.push_toArray, List.push_toArray] at N10
    obtain ⟨tf, N11⟩ : ∃ tf, News s₁.heap _ _ ((u, W.listOf [Value.str (Str.ofString "fig") tf].toArray (cu + 1)) :: (l, W.listOf (([] : List Value)).toArray cl) :: (r, instObj 59 d) :: (d, _) :: (lo, W.listOf (refs rs ++ [Value.ref r]).toArray (c + 1)) :: X2) := ⟨_, N10⟩
    obtain ⟨R9, hR9⟩ : ∃ R9, R9 = RecD.mk r d u l [.str (Str.ofString "fig") tf] [] .none .none k1 k2 k3 k4 (cu + 1) cl := ⟨_, rfl⟩
    have ho4 : Off (front wd.params lo (c + 1) (rs ++ [R9])) rest (own ++ []) := ho3.same (by
      rw [front_adr, List.map_append, front_adr, List.flatMap_append, hR9]
      show _ = (lo :: rs.flatMap adr) ++ _
      rw [List.cons_append]
      rfl)
    refine ho4.finish (fun _ _ _ h => nomatch h) F10 N11 (fun q hq => ?_) ⟨rs ++ [R9], c + 1, rest, rfl, ho4.less, hb, by simp [hl], fun Z hZ => ?_, fun y hy => ?_⟩
    · rw [hX2]
      unfold front at hq
      rw [List.flatMap_append, hR9] at hq
      simp only [List.mem_append, List.mem_cons, List.not_mem_nil, or_false, List.flatMap_cons, List.flatMap_nil, List.append_nil, recLed, recDict, refs, List.map_append, List.map_cons, List.map_nil] at hq ⊢
      rcases hq with (h | h | h | h | h | h) | h | h <;> simp [h]
    · rcases List.mem_append.mp hZ with hZ | hZ
      · exact hall Z hZ
      · rw [List.mem_singleton.mp hZ, hR9]; exact recE0
    · have y1 := off_str hy (List.Mem.head _)
      have y2 := off_str hy (List.Mem.tail _ (List.Mem.head _))
      dsimp only
      rw [if_neg y2, if_neg y1, hy]
      rfl
  case done1 =>
    rintro m₁ news₁ h tk ⟨rs, c, rest, rfl, ho, hb, hl, hall, hm⟩ F6 N6
    clear F5 N5
    rw [mapS hm] at F6
    dsimp only at hl
    walk_at "go"
    refine Stop.go ?_
    with_reducible rename Fr _ _ _ _ => F7
    refine For_of F7 rfl rfl ?_
    walk_at "go"
    refine Stop.go ?_
    (with_reducible rename Fr _ _ _ _ => F5); (with_reducible rename News _ _ _ _ => N5)
    refine iter_anyGL (l := D0) (vs := ws) (nn := 0) (J10 wd.params lo rest0 [Str.ofString "x", Str.ofString "one", Str.ofString "step", Str.ofString "rest"] _ (fun _ => 3) (fun i => 1 + i)) rfl (List.mem_append.mpr (.inr (List.mem_append.mpr (.inl (hb _ hD0m))))) F5 N5 ⟨rs, c, rest, rfl, ho, hb, hl, hall, fun _ _ => rfl⟩ ?turn2 ?done2
    case turn2 =>
      rintro i v m₁ news₁ h tk own hgi hoff - ⟨rs, c, rest, rfl, ho, hb, hl, hall, hm⟩ F6 N6
      clear F5 N5
      refine gen_turn2 (fun Q92 => ?_)
      obtain ⟨z, tz, rfl⟩ := ints_at hI1 hgi
      have hi : i < 63 := by
        have := (List.getElem?_eq_some_iff.mp hgi).1
        omega
      clear hgi
      rw [mapS hm] at F6
      dsimp only at hl hall
      have ho2 := ho.own hoff
      have N7 : News s₁.heap s₁.heap.objs.size h (front wd.params lo c rs ++ (rest ++ (own ++ []))) := fun q hq => N6 q (by
        simp only [List.mem_append, List.not_mem_nil, or_false] at hq ⊢
        rcases hq with h | h | h
        · exact .inl (.inl h)
        · exact .inl (.inr h)
        · exact .inr h)
      clear N6
      obtain ⟨k, hk, hk3⟩ := fmod_nat z 3 (by decide)
      obtain ⟨ra, R, rb, rfl, hra⟩ := split_at (show k < rs.length by rw [hl]; exact hk3)
      obtain ⟨rest9, hrest9, N8, hor, hndr⟩ := pick10 ho2 N7
      clear N7
      have hlrX : (lr, W.listOf rv.toArray 0) ∈ rest9 := by
        rw [hrest9]
        exact List.mem_append.mpr (.inr (List.mem_append.mpr (.inl (hb _ hlrm))))
      obtain ⟨ss, ds, rs9, ts, hS⟩ := hall R (by simp)
      have hgo := refs_at (R := R) (rb := rb) hra
      obtain ⟨los, hlos⟩ : ∃ x, x = refs (ra ++ R :: rb) := ⟨_, rfl⟩
      rw [← hlos] at N8 hgo
      have hz1 : Fits R.us.toArray.size := fits_len hS.us (by have := hS.nu; omega)
      have hz2 : Fits R.ls.toArray.size := fits_len hS.ls (by have := hS.nl; omega)
      obtain ⟨r, d, u, l, us, ls, dv, rv9, k1, k2, k3, k4, cu, cl⟩ := R
      have hndr' := hndr
      simp only [adr, List.nodup_cons, List.mem_cons, List.not_mem_nil, not_or, or_false, not_false_eq_true, List.nodup_nil, and_true] at hndr
      obtain ⟨⟨b1, b2, b3, b4⟩, ⟨c1, c2, c3⟩, ⟨e1, e2⟩, g1⟩ := hndr
      have hfull := (put10 (c' := c) (R' := ⟨r, d, u, l, us, ls, dv, rv9, k1, k2, k3, k4, cu, cl⟩) ho2 hrest9 hndr' (fun q hq a ha => hor q hq a (List.mem_cons_of_mem _ ha))).2
      rw [← hlos] at hfull
      dsimp only [recLed, recDict, List.cons_append, List.nil_append] at N8 hgo hz1 hz2 b1 b2 b3 b4 c1 c2 c3 e1 e2 g1
      dsimp only [adr] at hor
      obtain ⟨q, hq, hq9⟩ := fmod_nat (Int.fdiv z 3) 9 (by decide)
      have hst : q < 3 ∨ (3 ≤ q ∧ q < 5) ∨ q = 5 ∨ q = 6 ∨ q = 7 ∨ q = 8 := by omega
      replace hk : ModIs z 3 (k : Int) := ⟨hk⟩
      replace hq : ModIs (Int.fdiv z 3) 9 (q : Int) := ⟨hq⟩
      have hS' := hS
      rcases hst with hst | hst | hst | hst | hst | hst
      · clear hfull
        walk_at "go"
        refine Stop.go ?_
        with_reducible rename News _ _ _ _ => N9
        refine itemZ (i := k) rfl N9 (List.Mem.head _) hgo (by omega) ?_
        walk_at "go"
        refine Stop.go ?_
        with_reducible refine modB (by decide) ?_
        intro z5 _ _ hz0 hz5
        with_reducible rename News _ _ _ _ => N10
        refine itemM N10 (List.Mem.head _) hz0 hz5 (Nat.le_of_ble_eq_true rfl) (fun v hv => ?_)
        obtain ⟨x, t, rfl, hx⟩ : AgV v := agV_cons (by decide +kernel) (agV_cons (by decide +kernel) (agV_cons (by decide +kernel) (agV_cons (by decide +kernel) (agV_cons (by decide +kernel) (fun _ => agV_nil))))) v hv
        clear hv
        walk_at "go"
        refine Stop.go ?_
        (with_reducible rename Fr _ _ _ _ => F12); (with_reducible rename News _ _ _ _ => N12)
        rw [List.push_toArray] at N12
        refine InvEndG.mono (end10 (R' := ⟨r, d, u, l, us ++ [.str x t], ls, dv, rv9, k1, k2, k3, k4, cu + 1, cl⟩) F12 N12 ho2 hrest9 hndr' (fun q hq a ha => hor q hq a (List.mem_cons_of_mem _ ha)) hb (by simpa using hl) (all_mid hall (fun Z h9 => h9.mono (fun _ h9 => h9) (by omega)) (RecE.mono (hS.addU hx rfl rfl rfl rfl) (fun _ h9 => h9) (by omega))) (hlos.trans (refs_same rfl)) (fun q hq => List.Mem.tail _ hq) (fun y hy => ?_)) (fun _ _ h9 => ⟨h9.in _ hD0m, h9⟩)
        have y1 := off_str hy (List.Mem.head _)
        have y2 := off_str hy (List.Mem.tail _ (List.Mem.head _))
        have y3 := off_str hy (List.Mem.tail _ (List.Mem.tail _ (List.Mem.head _)))
        have y4 := off_str hy (List.Mem.tail _ (List.Mem.tail _ (List.Mem.tail _ (List.Mem.head _))))
        (try dsimp only)
        rw [if_neg y4, if_neg y3, if_neg y2, if_neg y1, hy]
        rfl
      · clear hfull
        walk_at "go"
        refine Stop.go ?_
        with_reducible rename News _ _ _ _ => N9
        refine itemZ (i := k) rfl N9 (List.Mem.head _) hgo (by omega) ?_
        walk_at "go"
        refine Stop.go ?_
        with_reducible refine modB (by decide) ?_
        intro z5 _ _ hz0 hz5
        with_reducible rename News _ _ _ _ => N10
        refine itemM N10 (List.Mem.tail _ (List.Mem.tail _ (List.Mem.tail _ (List.Mem.tail _ (List.Mem.tail _ hlrX))))) hz0 (by rw [hrl]; exact hz5) (by rw [hrl]; decide) (fun v hv => ?_)
        obtain ⟨x, t, rfl, hx⟩ := hru v hv
        clear hv
        walk_at "go"
        refine Stop.go ?_
        (with_reducible rename Fr _ _ _ _ => F12); (with_reducible rename News _ _ _ _ => N12)
        rw [List.push_toArray] at N12
        refine InvEndG.mono (end10 (R' := ⟨r, d, u, l, us, ls ++ [.str x t], dv, rv9, k1, k2, k3, k4, cu, cl + 1⟩) F12 N12 ho2 hrest9 hndr' (fun q hq a ha => hor q hq a (List.mem_cons_of_mem _ ha)) hb (by simpa using hl) (all_mid hall (fun Z h9 => h9.mono (fun _ h9 => h9) (by omega)) (RecE.mono (hS.addL hx rfl rfl rfl rfl) (fun _ h9 => h9) (by omega))) (hlos.trans (refs_same rfl)) (fun q hq => hq) (fun y hy => ?_)) (fun _ _ h9 => ⟨h9.in _ hD0m, h9⟩)
        have y1 := off_str hy (List.Mem.head _)
        have y2 := off_str hy (List.Mem.tail _ (List.Mem.head _))
        have y3 := off_str hy (List.Mem.tail _ (List.Mem.tail _ (List.Mem.head _)))
        have y4 := off_str hy (List.Mem.tail _ (List.Mem.tail _ (List.Mem.tail _ (List.Mem.head _))))
        (try dsimp only)
        rw [if_neg y4, if_neg y3, if_neg y2, if_neg y1, hy]
        rfl
      · clear hfull
        walk_at "go"
        refine Stop.go ?_
        with_reducible rename News _ _ _ _ => N9
        refine itemZ (i := k) rfl N9 (List.Mem.head _) hgo (by omega) ?_
        walk_at "go"
        refine Stop.go ?_
        with_reducible refine modB (by decide) ?_
        intro z5 _ _ hz0 hz5
        with_reducible rename News _ _ _ _ => N10
        refine itemM N10 (List.Mem.head _) hz0 hz5 (Nat.le_of_ble_eq_true rfl) (fun v hv => ?_)
        obtain ⟨dl, hdl⟩ : DvV v := dvV_cons (.inr (.inl ⟨_, rfl, rfl⟩)) (dvV_cons (.inr (.inr ⟨_, rfl, rfl⟩)) (dvV_cons (.inl ⟨rfl, rfl⟩) (fun _ => dvV_nil))) v hv
        clear hv
        have hvh := hdl.handed
        walk_at "go"
        refine Stop.go ?_
        (with_reducible rename Fr _ _ _ _ => F12); (with_reducible rename News _ _ _ _ => N12)
        refine InvEndG.mono (end10 (R' := ⟨r, d, u, l, us, ls, v, rv9, k1, k2, k3, k4, cu, cl⟩) F12 N12 ho2 hrest9 hndr' (fun q hq a ha => hor q hq a (List.mem_cons_of_mem _ ha)) hb (by simpa using hl) (all_mid hall (fun Z h9 => h9.mono (fun _ h9 => h9) (by omega)) (RecE.mono (hS.setD (R' := ⟨r, d, u, l, us, ls, v, rv9, k1, k2, k3, k4, cu, cl⟩) hdl rfl rfl rfl) (fun _ h9 => h9) (by omega))) (hlos.trans (refs_same rfl)) (fun q hq => List.Mem.tail _ hq) (fun y hy => ?_)) (fun _ _ h9 => ⟨h9.in _ hD0m, h9⟩)
        have y1 := off_str hy (List.Mem.head _)
        have y2 := off_str hy (List.Mem.tail _ (List.Mem.head _))
        have y3 := off_str hy (List.Mem.tail _ (List.Mem.tail _ (List.Mem.head _)))
        have y4 := off_str hy (List.Mem.tail _ (List.Mem.tail _ (List.Mem.tail _ (List.Mem.head _))))
        (try dsimp only)
        rw [if_neg y4, if_neg y3, if_neg y2, if_neg y1, hy]
        rfl
      · walk_at "go"
        refine Stop.go ?_
        with_reducible rename News _ _ _ _ => N9
        refine itemZ (i := k) rfl N9 (List.Mem.head _) hgo (by omega) ?_
        walk_at "go"
        refine Stop.go ?_
        (with_reducible rename Fr _ _ _ _ => F10); (with_reducible rename News _ _ _ _ => N10)
        have NF10 : News s₁.heap s₁.heap.objs.size _ _ := fun q hq => N10 q (hfull q hq)
        refine ct_rate (Frag.In.keeps KX F10.keep) (Top.keeps T F10.keep) (by (simp only [depth_deeper, depth_caller]; decide)) rfl rfl rfl (fun h13 tk13 E1 e13 xE1 qa1 qa2 hnw1 => ?_)
        have ho3 := ho2.grow (xs := rateLed wd.params E1) NF10 (rate_fresh hnw1)
        have NF13 : News s₁.heap s₁.heap.objs.size h13 (front wd.params lo c (ra ++ ⟨r, d, u, l, us, ls, dv, rv9, k1, k2, k3, k4, cu, cl⟩ :: rb) ++ ((rateLed wd.params E1 ++ rest) ++ (own ++ []))) := fun q hq => by
          simp only [List.mem_append] at hq
          rcases hq with h9 | (h9 | h9) | h9
          · exact newsExt NF10 e13 q (List.mem_append.mpr (.inl h9))
          · exact rate_led F10 xE1 hnw1 q h9
          · exact newsExt NF10 e13 q (List.mem_append.mpr (.inr (List.mem_append.mpr (.inl h9))))
          · exact newsExt NF10 e13 q (List.mem_append.mpr (.inr (List.mem_append.mpr (.inr (List.mem_append.mpr h9)))))
        have F13 := F10.keeps e13
        have N13 := newsExt N10 e13
        clear F10 N10 e13 xE1 hnw1 NF10
        dsimp only at F13 ⊢
        walk_at "go"
        refine Stop.go ?_
        (with_reducible rename Fr _ _ _ _ => F14); (with_reducible rename News _ _ _ _ => N14)
        refine ct_rate (Frag.In.keeps KX F14.keep) (Top.keeps T F14.keep) (by (simp only [depth_deeper, depth_caller]; decide)) rfl rfl rfl (fun h15 tk15 E2 e15 xE2 qb1 qb2 hnw2 => ?_)
        have ho4 := ho3.grow (xs := rateLed wd.params E2) NF13 (rate_fresh hnw2)
        have NF15 : News s₁.heap s₁.heap.objs.size h15 (front wd.params lo c (ra ++ ⟨r, d, u, l, us, ls, dv, rv9, k1, k2, k3, k4, cu, cl⟩ :: rb) ++ ((rateLed wd.params E2 ++ (rateLed wd.params E1 ++ rest)) ++ (own ++ []))) := fun q hq => by
          rcases List.mem_append.mp hq with h9 | h9
          · exact newsExt NF13 e15 q (List.mem_append.mpr (.inl h9))
          · rcases List.mem_append.mp h9 with h9 | h9
            · rcases List.mem_append.mp h9 with h9 | h9
              · exact rate_led F14 xE2 hnw2 q h9
              · exact newsExt NF13 e15 q (List.mem_append.mpr (.inr (List.mem_append.mpr (.inl h9))))
            · exact newsExt NF13 e15 q (List.mem_append.mpr (.inr (List.mem_append.mpr (.inr h9))))
        have F15 := F14.keeps e15
        obtain ⟨rest10, hrest10, N16, hor10, hndr10⟩ := pick10 ho4 NF15
        clear F14 N14 e15 xE2 hnw2 NF13 NF15 hor hfull
        rw [← hlos] at N16
        obtain ⟨restN, hrN⟩ : ∃ x, x = rateLed wd.params E2 ++ (rateLed wd.params E1 ++ rest) := ⟨_, rfl⟩
        have hR1 : ∀ q ∈ rateLed wd.params E1, q ∈ restN := fun q hq => by rw [hrN]; exact List.mem_append.mpr (.inr (List.mem_append.mpr (.inl hq)))
        have hR2 : ∀ q ∈ rateLed wd.params E2, q ∈ restN := fun q hq => by rw [hrN]; exact List.mem_append.mpr (.inl hq)
        have hR3 : ∀ q ∈ rest, q ∈ restN := fun q hq => by rw [hrN]; exact List.mem_append.mpr (.inr (List.mem_append.mpr (.inr hq)))
        rw [← hrN] at ho4 hrest10
        dsimp only [recLed, recDict, List.cons_append, List.nil_append] at N16
        dsimp only [adr] at hor10
        dsimp only at F15 ⊢
        walk_at "go"
        refine Stop.go ?_
        with_reducible refine modB (by decide) ?_
        intro z5 _ _ hz0 hz5
        with_reducible rename News _ _ _ _ => N10
        refine itemM N10 (List.Mem.head _) hz0 hz5 (Nat.le_of_ble_eq_true rfl) (fun v hv => ?_)
        obtain ⟨rl, hrl9⟩ : RlV wd.params restN v := rlV_cons (.inr (.inr ⟨E1, rfl, hR1, .inl ⟨_, _, qa1, qa2, rfl⟩⟩)) (rlV_cons (.inr (.inr ⟨E2, rfl, hR2, .inr (.inl ⟨_, _, qb1, qb2, rfl⟩)⟩)) (rlV_cons (.inl ⟨rfl, rfl⟩) (rlV_cons (.inr (.inl ⟨_, rfl, rfl⟩)) (fun _ => rlV_nil)))) v hv
        clear hv
        have hvh := hrl9.handed
        walk_at "go"
        refine Stop.go ?_
        (with_reducible rename Fr _ _ _ _ => F12); (with_reducible rename News _ _ _ _ => N12)
        refine InvEndG.mono (end10 (R' := ⟨r, d, u, l, us, ls, dv, v, k1, k2, k3, k4, cu, cl⟩) F12 N12 ho4 hrest10 hndr' (fun q hq a ha => hor10 q hq a (List.mem_cons_of_mem _ ha)) (fun q hq => hR3 q (hb q hq)) (by simpa using hl) (all_mid hall (fun Z h9 => h9.mono hR3 (by omega)) (RecE.mono (hS.setR (R' := ⟨r, d, u, l, us, ls, dv, v, k1, k2, k3, k4, cu, cl⟩) hrl9 rfl rfl rfl) (fun _ h9 => h9) (by omega))) (hlos.trans (refs_same rfl)) (fun q hq => List.Mem.tail _ hq) (fun y hy => ?_)) (fun _ _ h9 => ⟨h9.in _ hD0m, h9⟩)
        have y1 := off_str hy (List.Mem.head _)
        have y2 := off_str hy (List.Mem.tail _ (List.Mem.head _))
        have y3 := off_str hy (List.Mem.tail _ (List.Mem.tail _ (List.Mem.head _)))
        have y4 := off_str hy (List.Mem.tail _ (List.Mem.tail _ (List.Mem.tail _ (List.Mem.head _))))
        (try dsimp only)
        rw [if_neg y4, if_neg y3, if_neg y2, if_neg y1, hy]
        rfl
      · clear hfull
        walk_at "go"
        refine Stop.go ?_
        with_reducible rename News _ _ _ _ => N9
        refine itemZ (i := k) rfl N9 (List.Mem.head _) hgo (by omega) ?_
        walk_at "go"
        refine Stop.go ?_
        (with_reducible rename Fr _ _ _ _ => F12); (with_reducible rename News _ _ _ _ => N12)
        refine InvEndG.mono (end10 (R' := ⟨r, d, u, l, us, ls, dv, rv9, k1, k2, k3, k4, cu, cl⟩) F12 N12 ho2 hrest9 hndr' (fun q hq a ha => hor q hq a (List.mem_cons_of_mem _ ha)) hb (by simpa using hl) (all_mid hall (fun Z h9 => h9.mono (fun _ h9 => h9) (by omega)) (RecE.mono ⟨_, _, _, _, hS⟩ (fun _ h9 => h9) (by omega))) (hlos.trans (refs_same rfl)) (fun q hq => hq) (fun y hy => ?_)) (fun _ _ h9 => ⟨h9.in _ hD0m, h9⟩)
        have y1 := off_str hy (List.Mem.head _)
        have y2 := off_str hy (List.Mem.tail _ (List.Mem.head _))
        have y3 := off_str hy (List.Mem.tail _ (List.Mem.tail _ (List.Mem.head _)))
        have y4 := off_str hy (List.Mem.tail _ (List.Mem.tail _ (List.Mem.tail _ (List.Mem.head _))))
        (try dsimp only)
        rw [if_neg y4, if_neg y3, if_neg y2, if_neg y1, hy]
        rfl
      · clear hfull
        walk_at "go"
        refine Stop.go ?_
        with_reducible rename News _ _ _ _ => N9
        refine itemZ (i := k) rfl N9 (List.Mem.head _) hgo (by omega) ?_
        walk_at "go"
        refine Stop.go ?_
        (with_reducible rename Fr _ _ _ _ => F12); (with_reducible rename News _ _ _ _ => N12)
        with_reducible rename _ < _ ∧ _ < _ ∧ _ < _ ∧ _ < _ ∧ _ < _ ∧ AllLt _ _ => l1a
        obtain ⟨u9, l1b, N13⟩ : ∃ a : Addr, (lo < a ∧ u < a ∧ l < a ∧ r < a ∧ d < a ∧ AllLt a rest9) ∧ News s₁.heap s₁.heap.objs.size _ ((a, W.listOf (([] : List Value)).toArray 0) :: (lo, W.listOf los.toArray c) :: (u, W.listOf us.toArray cu) :: (l, W.listOf ls.toArray cl) :: (r, instObj 59 d) :: (d, recDict wd.params ⟨r, d, a, l, [], ls, dv, rv9, k1, k2, k3, k4, 0, cl⟩) :: rest9) := ⟨_, l1a, N12⟩
        have n1 : @Ne Nat lo u9 := Nat.ne_of_lt l1b.1
        have n2 : @Ne Nat u9 l := Nat.ne_of_gt l1b.2.2.1
        have n3 : @Ne Nat u9 r := Nat.ne_of_gt l1b.2.2.2.1
        have n4 : @Ne Nat u9 d := Nat.ne_of_gt l1b.2.2.2.2.1
        have hnd9 : (lo :: adr ⟨r, d, u9, l, [], ls, dv, rv9, k1, k2, k3, k4, 0, cl⟩).Nodup := by
          simp only [adr, List.nodup_cons, List.mem_cons, List.not_mem_nil, not_or, or_false, not_false_eq_true, List.nodup_nil, and_true]
          exact ⟨⟨n1, b2, b3, b4⟩, ⟨n2, n3, n4⟩, ⟨e1, e2⟩, g1⟩
        have hor9 : OwnOff rest9 (adr ⟨r, d, u9, l, [], ls, dv, rv9, k1, k2, k3, k4, 0, cl⟩) := fun q hq a ha => by
          rcases List.mem_cons.mp ha with h9 | h9
          · rw [h9]; exact allLt_ne' l1b.2.2.2.2.2 q hq
          · exact hor q hq a (List.mem_cons_of_mem _ (List.mem_cons_of_mem _ h9))
        refine InvEndG.mono (end10 (R' := ⟨r, d, u9, l, [], ls, dv, rv9, k1, k2, k3, k4, 0, cl⟩) F12 N13 ho2 hrest9 hnd9 hor9 hb (by simpa using hl) (all_mid hall (fun Z h9 => h9.mono (fun _ h9 => h9) (by omega)) (RecE.mono (hS.bare (R' := ⟨r, d, u9, l, [], ls, dv, rv9, k1, k2, k3, k4, 0, cl⟩) rfl rfl rfl rfl) (fun _ h9 => h9) (by omega))) (hlos.trans (refs_same rfl)) (fun q hq => mem_bare q hq) (fun y hy => ?_)) (fun _ _ h9 => ⟨h9.in _ hD0m, h9⟩)
        have y1 := off_str hy (List.Mem.head _)
        have y2 := off_str hy (List.Mem.tail _ (List.Mem.head _))
        have y3 := off_str hy (List.Mem.tail _ (List.Mem.tail _ (List.Mem.head _)))
        have y4 := off_str hy (List.Mem.tail _ (List.Mem.tail _ (List.Mem.tail _ (List.Mem.head _))))
        (try dsimp only)
        rw [if_neg y4, if_neg y3, if_neg y2, if_neg y1, hy]
        rfl
    case done2 =>
      rintro m₁ news₁ h tk - ⟨rs, c, rest, rfl, ho, hb, hl, hall, hm⟩ F6 N6
      clear F5 N5
      rw [mapS hm] at F6
      dsimp only at hl hall
      obtain ⟨dl, hdl, hdat⟩ := dats10 (n := 64) (fun R hR => (hall R hR).mono (fun _ h9 => h9) (by omega))
      clear hall
      have hrl9 : (refs rs).length = 3 := by unfold refs; rw [List.length_map]; exact hl
      dsimp only
      walk_at "go"
      refine Stop.go ?_
      refine compGA (ax := lo) (vs := refs rs) (JW wd.params lo c rest rs dl) rfl F6 rfl (by rw [hrl9]; decide) (by with_unfolding_all rfl) (by with_unfolding_all rfl) (by decide) rfl (by decide) rfl rfl rfl ?iter5 ⟨rs, rfl, ho, rfl, .nil⟩ ?turn5 ?fin5
      case iter5 =>
        obtain ⟨X6, hX6⟩ : ∃ X, X = front wd.params lo c rs ++ (rest ++ []) := ⟨_, rfl⟩
        have hlo9 : (lo, W.listOf (refs rs).toArray c) ∈ X6 := by rw [hX6]; exact List.Mem.head _
        rw [← hX6] at N6 ⊢
        walk_at "go"
        refine Stop.go ?_
        (with_reducible rename Fr _ _ _ _ => F9); (with_reducible rename News _ _ _ _ => N9)
        exact ⟨rfl, ⟨_, _, rfl, F9, N9⟩, .inr ⟨_, hlo9, rfl, _, rfl⟩⟩
      case turn5 =>
        rintro i v ys2 news₁ I oI C oC D m₂ h tk E' hi hv ⟨rs', rfl, ho', hz, hys⟩ hS hC hm5 F2 N2 off ne
        clear F6 N6
        obtain ⟨R0, hR0, rfl⟩ := refs_get hv
        obtain ⟨R, hR, hzR⟩ := zc_at hz hR0
        obtain ⟨d, hd⟩ : ∃ d, dl[i]? = some d := ⟨_, List.getElem?_eq_getElem (by rw [hdl]; have := (List.getElem?_eq_some_iff.mp hR0).1; exact this)⟩
        have hRS := (hdat i R0 d hR0 hd).zcE hzR
        rw [← zc_r hzR] at *
        walk_at "go"
        refine Stop.go ?_
        have N2' : News s₁.heap s₁.heap.objs.size h (front wd.params lo c rs' ++ (rest ++ [])) := fun q hq => N2 q (List.Mem.tail _ (List.Mem.tail _ (List.Mem.tail _ hq)))
        have hxr := recLed_at N2' (front_rec hR)
        have hnu := hRS.nu
        have hnl := hRS.nl
        have m1 := N2' _ (front_rec hR _ (List.Mem.head _))
        have m2 := N2' _ (front_rec hR _ (List.Mem.tail _ (List.Mem.tail _ (List.Mem.head _))))
        have m3 := N2' _ (front_rec hR _ (List.Mem.tail _ (List.Mem.tail _ (List.Mem.tail _ (List.Mem.head _)))))
        have mo := off _ (front_rec hR _ (List.Mem.head _))
        obtain ⟨ra, rb, hsp, hral⟩ := split_get hR
        subst hsp
        obtain ⟨_, _, _, _, hndp⟩ := pick10 ho' N2'
        refine ct_whole KX T F2.keep (by (simp only [depth_deeper, depth_caller]; decide)) rfl (by ke_room) hxr (apart_of (List.nodup_cons.mp hndp).2) ⟨m2.2.2, m3.2.2, m1.2.2⟩ hRS.us hRS.ls (by omega) (by omega) (fun x hx => agK_len x (hRS.ok.a x hx)) (fun x hx => ruK_len x (hRS.ok.t x hx)) hRS.dv (hRS.rv.v N2' (fun q hq => List.mem_append.mpr (.inr (List.mem_append.mpr (.inl hq))))) (fun h9 tk9 t9 c9 hk hu => ?_)
        obtain ⟨N3, ho3⟩ := whole_step ho' N2' hk hu
        have F3 := fr_off F2 hk m1.2.1 m1.2.2
        dsimp only
        walk_at "go"
        refine Stop.go ?_
        have hkeep3 : ∀ a o, a ≠ R.u → ((a, o) ∈ _ → _) := fun a o hne (hm9 : (a, o) ∈ (I, oI) :: (C, oC) :: (D, lst ys2) :: (front wd.params lo c (ra ++ R :: rb) ++ (rest ++ []))) => (⟨hk _ _ hne (N2 _ hm9).1, (N2 _ hm9).2⟩ : h9.get? a = some o ∧ a ≠ s₁.heap.objs.size ∧ s₁.heap.get? a = none)
        refine ⟨_, _, _, rfl, F3, fun q hq => ?_, front_same (R := R) (P := fun a => a ≠ I ∧ a ≠ C ∧ a ≠ D) off, .inr ⟨W.listOf (refs rs).toArray c, ?_, rfl, _, rfl⟩, ⟨_, rfl, ho3, zc_mid hz, by rw [take4 hd]; exact strs_snoc hys rfl⟩⟩
        · simp only [List.mem_cons] at hq
          rcases hq with h | h | h | h
          · rw [h]; exact hkeep3 I oI (Ne.symm mo.1) (List.Mem.head _)
          · rw [h]; exact hkeep3 C oC (Ne.symm mo.2.1) (List.Mem.tail _ (List.Mem.head _))
          · rw [h]; exact hkeep3 D _ (Ne.symm mo.2.2) (List.Mem.tail _ (List.Mem.tail _ (List.Mem.head _)))
          · exact N3 q h
        · refine List.mem_append.mpr (.inl ?_)
          rw [← refs_zc (zc_mid (c' := c9) hz)]
          exact List.Mem.head _
      case fin5 =>
        rintro lw ys2 news' h tk ⟨rs', rfl, ho', hz, hys⟩ F7 N7 off7
        clear F6 N6
        have hlen' : rs'.length = 3 := by rw [zc_len hz]; exact hl
        rw [hrl9, List.take_of_length_le (by rw [List.length_map, hdl, hl]; exact Nat.le_refl _)] at hys
        obtain ⟨restW, hrW⟩ : ∃ x, x = (lw, lst ys2) :: rest := ⟨_, rfl⟩
        have hoW : Off (front wd.params lo c rs') restW [] := by rw [hrW]; exact ho'.addR off7
        have hdatW : ∀ (i : Nat) (R : RecD) (d : D4), rs'[i]? = some R → dl[i]? = some d → RecS wd.params restW 64 R d.ss d.ds d.rs d.ts := fun i R d hR hd => by
          obtain ⟨R0, hR0, hz0⟩ := zc_at hz.symm hR
          exact ((hdat i R0 d hR0 hd).zcE hz0.symm).mono (fun q hq => by rw [hrW]; exact List.mem_cons_of_mem _ hq) (Nat.le_refl _)
        obtain ⟨X7, hX7⟩ : ∃ x, x = front wd.params lo c rs' ++ (restW ++ []) := ⟨_, rfl⟩
        have NW : News s₁.heap s₁.heap.objs.size h X7 := fun q hq => N7 q (by
          rw [hX7, hrW] at hq
          simp only [List.mem_append, List.mem_cons, List.not_mem_nil, or_false] at hq ⊢
          rcases hq with h | h | h
          · exact .inr (.inl h)
          · exact .inl h
          · exact .inr (.inr h))
        have hlo7 : (lo, W.listOf (refs rs').toArray c) ∈ X7 := by rw [hX7]; exact List.Mem.head _
        have hrest7 : ∀ q ∈ restW, q ∈ X7 := fun q hq => by rw [hX7]; exact List.mem_append.mpr (.inr (List.mem_append.mpr (.inl hq)))
        have hlwW : (lw, lst ys2) ∈ restW := by rw [hrW]; exact List.Mem.head _
        have hlw7 : (lw, lst ys2) ∈ X7 := hrest7 _ hlwW
        have hrec7 : ∀ (i : Nat) (R : RecD), rs'[i]? = some R → ∀ q ∈ recLed wd.params 59 R, q ∈ X7 := fun i R hR q hq => by rw [hX7]; exact front_rec hR q hq
        clear N7 off7 hrW hdat ho' hz
        have hrefl : (refs rs').length = 3 := by unfold refs; rw [List.length_map]; exact hlen'
        dsimp only
        walk_at "go"
        refine Stop.go ?_
        (with_reducible rename Fr _ _ _ _ => F8)
        refine For_of F8 rfl rfl ?_
        walk_at "go"
        refine Stop.go ?_
        rename IsRange _ _ _ _ _ _ _ _ => R5
        (with_reducible rename Fr _ _ _ _ => F5); (with_reducible rename News _ _ _ _ => N5)
        refine iter_rangeG (n := 3) (JQ X7 [Str.ofString "i", Str.ofString "j", Str.ofString "one"] _) rfl R5 rfl (by decide) (by decide) (by decide) F5 N5 ⟨rfl, fun _ _ => rfl⟩ ?turn6 ?done6
        case turn6 =>
          rintro i t m₃ news₁ h tk own hi hoff ⟨hnx, hm3⟩ F6 N6
          refine gen_turn (fun Q93 => ?_)
          clear F5 N5
          rw [mapS hm3, Int.zero_add] at F6
          rw [hnx] at N6 hoff
          obtain ⟨X8, hX8⟩ : ∃ x, x = X7 ++ own := ⟨_, rfl⟩
          have h78 : ∀ q ∈ X7, q ∈ X8 := fun q hq => by rw [hX8]; exact List.mem_append.mpr (.inl hq)
          rw [← hX8] at N6
          walk_at "go"
          refine Stop.go ?_
          (with_reducible rename Fr _ _ _ _ => F8)
          refine For_of F8 rfl rfl ?_
          walk_at "go"
          refine Stop.go ?_
          rename IsRange _ _ _ _ _ _ _ _ => R5
          (with_reducible rename Fr _ _ _ _ => F5); (with_reducible rename News _ _ _ _ => N5)
          refine iter_rangeG (n := 3) (JQ X8 [Str.ofString "j", Str.ofString "one"] _) rfl R5 rfl (by decide) (by decide) (by decide) F5 N5 ⟨rfl, fun _ _ => rfl⟩ ?turn7 ?done7
          case turn7 =>
            rintro j tj m₄ news₂ h tk own2 hj hoff2 ⟨hnx2, hm4⟩ F6 N6
            refine gen_turn (fun Q94 => ?_)
            clear F5 N5
            rw [mapS hm4, Int.zero_add] at F6
            rw [hnx2] at N6 hoff2
            obtain ⟨XX, hXX⟩ : ∃ x, x = X8 ++ own2 := ⟨_, rfl⟩
            have h7x : ∀ q ∈ X7, q ∈ XX := fun q hq => by rw [hXX]; exact List.mem_append.mpr (.inl (h78 q hq))
            rw [← hXX] at N6
            obtain ⟨R1, hR1⟩ : ∃ R, rs'[i]? = some R := ⟨_, List.getElem?_eq_getElem (by omega)⟩
            obtain ⟨R2, hR2⟩ : ∃ R, rs'[j]? = some R := ⟨_, List.getElem?_eq_getElem (by omega)⟩
            obtain ⟨d1, hd1⟩ : ∃ d, dl[i]? = some d := ⟨_, List.getElem?_eq_getElem (by omega)⟩
            obtain ⟨d2, hd2⟩ : ∃ d, dl[j]? = some d := ⟨_, List.getElem?_eq_getElem (by omega)⟩
            have hS1 := hdatW i R1 d1 hR1 hd1
            have hS2 := hdatW j R2 d2 hR2 hd2
            have hg1 : (refs rs')[i]? = some (Value.ref R1.r) := by unfold refs; rw [List.getElem?_map, hR1]; rfl
            have hg2 : (refs rs')[j]? = some (Value.ref R2.r) := by unfold refs; rw [List.getElem?_map, hR2]; rfl
            obtain ⟨t1, hw1⟩ := strs_at2 hys (i := i) (x := text4 d1) (by rw [List.getElem?_map, hd1]; rfl)
            obtain ⟨t2, hw2⟩ := strs_at2 hys (i := j) (x := text4 d2) (by rw [List.getElem?_map, hd2]; rfl)
            have a1 := hS1.nu
            have a2 := hS2.nu
            have a3 := hS1.nl
            have a4 := hS2.nl
            have a5 := hS1.ls.length
            have a6 := hS2.ls.length
            walk_at "go"
            refine Stop.go ?_
            with_reducible rename News _ _ _ _ => N8
            refine itemZ (i := i) rfl N8 (h7x _ hlo7) hg1 (by omega) ?_
            walk_at "go"
            refine Stop.go ?_
            with_reducible rename News _ _ _ _ => N8
            refine itemZ (i := j) rfl N8 (h7x _ hlo7) hg2 (by omega) ?_
            walk_at "go"
            refine Stop.go ?_
            (with_reducible rename Fr _ _ _ _ => F8); (with_reducible rename News _ _ _ _ => N8)
            refine ct_merge (Frag.In.keeps KX F8.keep) (Top.keeps T F8.keep) (by (simp only [depth_deeper, depth_caller]; decide)) rfl (recLed_at N8 fun q hq => h7x q (hrec7 i R1 hR1 q hq)) (recLed_at N8 fun q hq => h7x q (hrec7 j R2 hR2 q hq)) hS1.us hS2.us (by omega) (by omega) (by omega) (by omega) hS1.dv.handed hS2.dv.handed hS1.rv.handed hS2.rv.handed (fun h9 tk9 M e9 x9 u1 u2 u3 u4 hnew hap => ?_)
            have hMS := hS1.merge hS2 u1 u2 u3 u4 (n' := 128) (Nat.le_refl _)
            have hoX := own_adr N8 hnew
            have N9 := newsApp (news_rec F8 x9 hnew) (newsExt N8 e9)
            have F10 := F8.keeps e9
            clear N8 F8 e9 hnew x9 u1 u2 u3 u4
            dsimp only
            walk_at "go"
            refine Stop.go ?_
            (with_reducible rename Fr _ _ _ _ => F11); (with_reducible rename News _ _ _ _ => N11)
            have b1 := hMS.nu
            have b2 := hMS.nl
            have mu := N11 _ (List.mem_append.mpr (.inl (List.Mem.head _)))
            have mr := N11 _ (List.mem_append.mpr (.inl (List.Mem.tail _ (List.Mem.tail _ (List.Mem.head _)))))
            have md := N11 _ (List.mem_append.mpr (.inl (List.Mem.tail _ (List.Mem.tail _ (List.Mem.tail _ (List.Mem.head _))))))
            refine ct_whole KX T F11.keep (by (simp only [depth_deeper, depth_caller]; decide)) rfl (by ke_room) (recLed_at N11 (fun q hq => List.mem_append.mpr (.inl hq))) hap ⟨mr.2.2, md.2.2, mu.2.2⟩ hMS.us hMS.ls (by omega) (by omega) (fun x hx => agK_len x (hMS.ok.a x hx)) (fun x hx => ruK_len x (hMS.ok.t x hx)) hMS.dv (hMS.rv.v N11 (fun q hq => List.mem_append.mpr (.inr (h7x q (hrest7 q hq))))) (fun h11 tk11 t11 c11 hk hu => ?_)
            have N12 := whole_new N11 hap hoX hk hu
            have F12 := fr_off F11 hk mu.2.1 mu.2.2
            have hzu : Fits M.us.toArray.size := fits_len hMS.us (by omega)
            have hzl : Fits M.ls.toArray.size := fits_len hMS.ls (by omega)
            clear F11 N11 hk hu mu mr md hMS
            obtain ⟨r, d, u, l, us, ls, dv, rv9, k1, k2, k3, k4, cu, cl⟩ := M
            obtain ⟨c1, c2, c3, c4, c5, c6⟩ := hap
            dsimp only [recLed, recDict, List.cons_append, List.nil_append] at N12
            dsimp only [adr] at hoX
            dsimp only at c1 c2 c3 c4 c5 c6 F12 hzu hzl ⊢
            walk_at "go"
            refine Stop.go ?_
            with_reducible rename News _ _ _ _ => N8
            refine itemZ (i := i) rfl N8 (List.Mem.tail _ (List.Mem.tail _ (List.Mem.tail _ (List.Mem.tail _ (h7x _ hlw7))))) hw1 (by omega) ?_
            walk_at "go"
            refine Stop.go ?_
            with_reducible rename News _ _ _ _ => N8
            refine itemZ (i := j) rfl N8 (List.Mem.tail _ (List.Mem.tail _ (List.Mem.tail _ (List.Mem.tail _ (h7x _ hlw7))))) hw2 (by omega) ?_
            walk_at "go"
            refine Stop.go ?_
            (with_reducible rename Fr _ _ _ _ => F13); (with_reducible rename News _ _ _ _ => N13)
            refine ct_merged (Frag.In.keeps KX F13.keep) (Top.keeps T F13.keep) (by (simp only [depth_deeper, depth_caller]; decide)) rfl (by ke_room) line_ne line_ne (fun x hx => allK_nl x (line_mem hS1.ok x hx)) (fun x hx => allK_nl x (line_mem hS2.ok x hx)) (fun x hx => allK_len x (line_mem hS1.ok x hx)) (fun x hx => allK_len x (line_mem hS2.ok x hx)) (line_len hS1.ok a1 a3 (by decide)) (line_len hS2.ok a2 a4 (by decide)) (fun x hx => allK_ok x (line_mem hS1.ok x hx)) (fun x hx => allK_ok x (line_mem hS2.ok x hx)) (fun h14 tk14 Z zs cz e14 hZ hZn hzs => ?_)
            have N14 := news_fresh F13 (newsExt N13 e14) hZn hZ
            have F14 := F13.keeps e14
            clear F13 N13 e14 hZ hZn
            rw [plain10 hS1.ok hS2.ok] at hzs
            have hMok := hS1.ok.merge hS2.ok
            dsimp only
            walk_at "go"
            refine Stop.go ?_
            (with_reducible rename Fr _ _ _ _ => F15); (with_reducible rename News _ _ _ _ => N15)
            refine join_list (ys := _) (News.isList N15 (List.Mem.head _)) hzs (joined_ok (fun x hx => allK_len x (line_mem hMok x hx)) (line_len hMok b1 b2 (by decide))) (fun t' k' => ?_)
            walk_at "go"
            refine Stop.go ?_
            refine neL_f rfl ?_
            (with_reducible rename News _ _ _ _ => N16)
            have N17 := newsTl N16
            clear N16 hzs
            walk_at "go"
            refine Stop.go ?_
            (with_reducible rename Fr _ _ _ _ => F18); (with_reducible rename News _ _ _ _ => N18)
            refine JQ.finish hoff2 F18 N18 (fun q hq => List.Mem.tail _ (List.Mem.tail _ (List.Mem.tail _ (List.Mem.tail _ (by rw [hXX]; exact hq))))) (fun y hy => ?_)
            have y1 := off_str hy (List.Mem.head _)
            have y2 := off_str hy (List.Mem.tail _ (List.Mem.head _))
            (try dsimp only)
            rw [if_neg y2, if_neg y1, hy]
            rfl
          case done7 =>
            rintro m₄ news₂ h tk ⟨hnx2, hm4⟩ F6 N6
            clear F5 N5
            rw [mapS hm4] at F6
            rw [hnx2] at N6
            dsimp only
            walk_at "go"
            refine Stop.go ?_
            (with_reducible rename Fr _ _ _ _ => F8); (with_reducible rename News _ _ _ _ => N8)
            refine JQ.finish hoff F8 N8 (fun q hq => by rw [hX8]; exact hq) (fun y hy => ?_)
            have y1 := off_str hy (List.Mem.head _)
            have y2 := off_subl (l' := [Str.ofString "j", Str.ofString "one"]) hy (fun a ha => List.mem_cons_of_mem _ ha)
            (try dsimp only)
            rw [y2, if_neg (by decide), if_neg y1, hy]
            rfl
        case done6 =>
          rintro m₃ news₁ h tk ⟨hnx, hm3⟩ F6 N6
          clear F5 N5
          rw [mapS hm3] at F6
          rw [hnx] at N6
          (try dsimp only)
          walk_at "go"
          refine Stop.go ?_
          (with_reducible rename Fr _ _ _ _ => F8); (with_reducible rename News _ _ _ _ => N8)
          rw [hX7] at N8
          refine compG (ax := lo) (vs := refs rs') (JW wd.params lo c restW rs' dl) rfl F8 (by rw [hrefl]; decide) (by with_unfolding_all rfl) (by decide) rfl (by decide) rfl ?iter8 ⟨rs', rfl, hoW, rfl, .nil⟩ ?turn8 ?fin8
          case iter8 =>
            rw [← hX7] at N8 ⊢
            walk_at "go"
            refine Stop.go ?_
            (with_reducible rename Fr _ _ _ _ => F9); (with_reducible rename News _ _ _ _ => N9)
            exact ⟨rfl, ⟨_, _, rfl, F9, N9⟩, .inr ⟨_, hlo7, rfl, _, rfl⟩⟩
          case turn8 =>
            rintro i v ys8 news₁ I oI C oC D m₂ h tk E' hi hv ⟨rs2, rfl, ho', hz, hys8⟩ hS hC hm5 F2 N2 off ne
            obtain ⟨R0, hR0, rfl⟩ := refs_get hv
            obtain ⟨R, hR, hzR⟩ := zc_at hz hR0
            obtain ⟨d, hd⟩ : ∃ d, dl[i]? = some d := ⟨_, List.getElem?_eq_getElem (by have := (List.getElem?_eq_some_iff.mp hR0).1; omega)⟩
            have hRS := (hdatW i R0 d hR0 hd).zcE hzR
            rw [← zc_r hzR] at *
            walk_at "go"
            refine Stop.go ?_
            have N2' : News s₁.heap s₁.heap.objs.size h (front wd.params lo c rs2 ++ (restW ++ [])) := fun q hq => N2 q (List.Mem.tail _ (List.Mem.tail _ (List.Mem.tail _ hq)))
            have hxr := recLed_at N2' (front_rec hR)
            have hnu := hRS.nu
            have hnl := hRS.nl
            have m1 := N2' _ (front_rec hR _ (List.Mem.head _))
            have m2 := N2' _ (front_rec hR _ (List.Mem.tail _ (List.Mem.tail _ (List.Mem.head _))))
            have m3 := N2' _ (front_rec hR _ (List.Mem.tail _ (List.Mem.tail _ (List.Mem.tail _ (List.Mem.head _)))))
            have mo := off _ (front_rec hR _ (List.Mem.head _))
            obtain ⟨ra, rb, hsp, hral⟩ := split_get hR
            subst hsp
            obtain ⟨_, _, _, _, hndp⟩ := pick10 ho' N2'
            refine ct_whole KX T F2.keep (by (simp only [depth_deeper, depth_caller]; decide)) rfl (by ke_room) hxr (apart_of (List.nodup_cons.mp hndp).2) ⟨m2.2.2, m3.2.2, m1.2.2⟩ hRS.us hRS.ls (by omega) (by omega) (fun x hx => agK_len x (hRS.ok.a x hx)) (fun x hx => ruK_len x (hRS.ok.t x hx)) hRS.dv (hRS.rv.v N2' (fun q hq => List.mem_append.mpr (.inr (List.mem_append.mpr (.inl hq))))) (fun h9 tk9 t9 c9 hk hu => ?_)
            obtain ⟨N3, ho3⟩ := whole_step ho' N2' hk hu
            have F3 := fr_off F2 hk m1.2.1 m1.2.2
            dsimp only
            walk_at "go"
            refine Stop.go ?_
            have hkeep3 : ∀ a o, a ≠ R.u → ((a, o) ∈ _ → _) := fun a o hne (hm9 : (a, o) ∈ (I, oI) :: (C, oC) :: (D, lst ys8) :: (front wd.params lo c (ra ++ R :: rb) ++ (restW ++ []))) => (⟨hk _ _ hne (N2 _ hm9).1, (N2 _ hm9).2⟩ : h9.get? a = some o ∧ a ≠ s₁.heap.objs.size ∧ s₁.heap.get? a = none)
            refine ⟨_, _, _, rfl, F3, fun q hq => ?_, front_same (R := R) (P := fun a => a ≠ I ∧ a ≠ C ∧ a ≠ D) off, .inr ⟨W.listOf (refs rs').toArray c, ?_, rfl, _, rfl⟩, ⟨_, rfl, ho3, zc_mid hz, by rw [take4 hd]; exact strs_snoc hys8 rfl⟩⟩
            · simp only [List.mem_cons] at hq
              rcases hq with h | h | h | h
              · rw [h]; exact hkeep3 I oI (Ne.symm mo.1) (List.Mem.head _)
              · rw [h]; exact hkeep3 C oC (Ne.symm mo.2.1) (List.Mem.tail _ (List.Mem.head _))
              · rw [h]; exact hkeep3 D _ (Ne.symm mo.2.2) (List.Mem.tail _ (List.Mem.tail _ (List.Mem.head _)))
              · exact N3 q h
            · refine List.mem_append.mpr (.inl ?_)
              rw [← refs_zc (zc_mid (c' := c9) hz)]
              exact List.Mem.head _
          case fin8 =>
            rintro lz ys8 news' h tk ⟨rs2, rfl, ho', hz, hys8⟩ F9 N9 off9
            rw [hrefl, List.take_of_length_le (by rw [List.length_map, hdl, hl]; exact Nat.le_refl _)] at hys8
            (try dsimp only)
            walk_at "go"
            refine Stop.go ?_
            (with_reducible rename News _ _ _ _ => N10)
            refine eq_strs_same (News.isList N10 (List.Mem.head _)) (News.isList N10 (List.Mem.tail _ (List.mem_append.mpr (.inr (List.mem_append.mpr (.inl hlwW)))))) hys8 hys (by ke_room) ?_
            walk_at "go"
            k_steps
