import PyProof.Rows.All
import Wide.All
import OpenK.AllK
import Wide.FinOn
import PySem.Challenge.RW_mr0395_01
set_option Elab.async false
set_option maxRecDepth 100000

section
open PySem PySem.W PyProof.Rows
namespace Mine
open PySem.Builtin PySem.Builtin.Str

section facts
theorem owner_map : Manifest.owners.lookup (String.ofList ['p', 'a', 'm'].reverse) = some Manifest.sig_map := by kernel_rfl
theorem slot_map_init : Slot "map" "__init__" "object.__init__" :=
  .of (owner := "object") (n := "__init__") (by rw [typeLookup_type, builtinLookup_eq_fast]; kernel_rfl) (by decide +kernel) (by decide +kernel) (by decide +kernel)
    (by first | exact .inl (by decide +kernel) | exact .inr (by decide +kernel)) (by rw [isSubtype_type]; kernel_rfl)
theorem slot_map_iter : Slot "map" "__iter__" "map.__iter__" :=
  .of (owner := "map") (n := "__iter__") (by rw [typeLookup_type, builtinLookup_eq_fast]; kernel_rfl) (by decide +kernel) (by decide +kernel) (by decide +kernel)
    (by first | exact .inl (by decide +kernel) | exact .inr (by decide +kernel)) (by rw [isSubtype_type]; kernel_rfl)
theorem slot_map_next : Slot "map" "__next__" "map.__next__" :=
  .of (owner := "map") (n := "__next__") (by rw [typeLookup_type, builtinLookup_eq_fast]; kernel_rfl) (by decide +kernel) (by decide +kernel) (by decide +kernel)
    (by first | exact .inl (by decide +kernel) | exact .inr (by decide +kernel)) (by rw [isSubtype_type]; kernel_rfl)
theorem entry_map_next : entryFor table "map.__next__" = some Builtin.«map.__next__» := entryFor_of_tree (by kernel_rfl)
theorem args_map_next_1 (a : Value) : argsOk "map.__next__" ⟨[a], []⟩ := by
  unfold argsOk; rw [signature?_of (id := "map.__next__") (n := ['_', '_', 't', 'x', 'e', 'n', '_', '_']) (o := ['p', 'a', 'm']) (by kernel_rfl) owner_map]; kernel_rfl
theorem args_map_iter_1 (a : Value) : argsOk "map.__iter__" ⟨[a], []⟩ := by
  unfold argsOk; rw [signature?_of (id := "map.__iter__") (n := ['_', '_', 'r', 'e', 't', 'i', '_', '_']) (o := ['p', 'a', 'm']) (by kernel_rfl) owner_map]; kernel_rfl
theorem entry_map_iter : entryFor table "map.__iter__" = some Builtin.«dict_keyiterator.__iter__» :=
  entryFor_alias (id' := "dict_keyiterator.__iter__") (by rw [fastTable_eq_tree]; kernel_rfl) (by decide +kernel) (by decide +kernel) (by rw [fastTable_eq_tree]; kernel_rfl)
theorem mro_map : mroOf (.type "map") = pure [.type "map", .type "object"] := by rw [mroOf_type]; kernel_rfl
theorem lookup_map_new : typeLookup (.type "map") "__new__" = pure (some (.builtin "map.__new__")) := by rw [typeLookup_type, builtinLookup_eq_fast]; kernel_rfl
theorem called_map : TypeCalled "map" "map.__new__" "object.__init__" :=
  ⟨by decide +kernel, by decide +kernel, ⟨_, _, mro_map⟩, madeBy_type mro_map lookup_map_new (by decide +kernel), by decide +kernel, by rw [isSubtype_type]; kernel_rfl, slot_map_init⟩
theorem typeCall_map_2 (a b : Value) : checkTypeCall "map" ⟨[a, b], []⟩ = pure () := by kernel_rfl
theorem newCall_map_2 (a b : Value) : checkBuiltinCall "map.__new__" ⟨[.type "map", a, b], []⟩ = pure () := by kernel_rfl
theorem entry_map_new : entryFor table "map.__new__" = some Builtin.«map.__new__» := entryFor_of_tree (by kernel_rfl)
theorem nolen_map : typeLookup (.type "map") "__len__" = pure none := by rw [typeLookup_type, builtinLookup_eq_fast]; kernel_rfl
theorem nohint_map : typeLookup (.type "map") "__length_hint__" = pure none := by rw [typeLookup_type, builtinLookup_eq_fast]; kernel_rfl
theorem sub_map : isSubtype (.type "map") (.type "map") = pure true := by rw [isSubtype_type]; kernel_rfl
end facts

/-- a map object over one iterator: its tuple of iterators and its function -/
abbrev IsMap (h : Heap) (z TI : Addr) (f : Value) : Prop :=
  h.get? z = some { cls := .type "map", dict := none, data := .fields #[.ref TI, f], slots := #[] }
abbrev IsOne (h : Heap) (T : Addr) (a : Value) : Prop := h.get? T = some { cls := .type "tuple", data := .seq #[a] }

abbrev mapH1 (h : Heap) (l : Addr) : Heap := h.push { cls := .type "list_iterator", data := .fields #[.ref l, .int 0 0] }
abbrev mapH2 (h : Heap) (l : Addr) : Heap := (mapH1 h l).push { cls := .type "tuple", data := .seq #[.ref h.objs.size] }
abbrev mapH3 (h : Heap) (l : Addr) (f : Value) : Heap := (mapH2 h l).push { cls := .type "map", data := .fields #[.ref (mapH1 h l).objs.size, f] }

theorem meets_map_new (f : Value) (l : Addr) (xs : Array Value) :
    Meets (Builtin.«map.__new__» ⟨[.type "map", f, .ref l], []⟩) (fun _ R s => s.heap.IsList l xs ∧
      R (.ok (.ret (.ref (mapH2 s.heap l).objs.size))) { s with heap := mapH3 s.heap l f }) :=
  .of_wp fun prog w A R s h => by
    obtain ⟨hp, g, d, tk, os⟩ := s; obtain ⟨hl, h⟩ := h
    have hsub := sub_map
    have hL : Heap.IsList (Shared.heap ⟨hp, g, d, tk, os⟩) l xs := hl
    wp_walk using wpAny_pyIter_list hL
    exact ⟨_, rfl, h⟩

section
variable {prog : Program} {w : World} {A : Around} {E : Value → Shared → Prop} {s : Shared}

theorem call_map {f : Value} {l : Addr} {xs : Array Value} {Q : Value → Shared → Prop} (hl : s.heap.IsList l xs)
    (h : ∀ h', IsMap h' (s.heap.objs.size + 2) (s.heap.objs.size + 1) f → IsOne h' (s.heap.objs.size + 1) (.ref s.heap.objs.size) →
      h'.IsListIter s.heap.objs.size l 0 → h'.objs.size = s.heap.objs.size + 3 →
      (∀ c o, s.heap.get? c = some o → h'.get? c = some o) → h' = mapH3 s.heap l f → Q (.ref (s.heap.objs.size + 2)) { s with heap := h' }) :
    wpAny (model prog w) A (call (.type "map") [f, .ref l]) Q E s := by
  refine callType_new called_map (by decide) (typeCall_map_2 _ _) (newCall_map_2 _ _) (fun obj => F.args_object_init_3 obj _ _) entry_map_new
    (meets_map_new f l xs) ⟨hl, ?_⟩
  have z1 : (mapH1 s.heap l).objs.size = s.heap.objs.size + 1 := Heap.size_push ..
  have z2 : (mapH2 s.heap l).objs.size = s.heap.objs.size + 2 := by rw [Heap.size_push, z1]
  have z3 : (mapH3 s.heap l f).objs.size = s.heap.objs.size + 3 := by rw [Heap.size_push, z2]
  have g3 : (mapH3 s.heap l f).get? (mapH2 s.heap l).objs.size = some _ := Heap.get?_push_size _ rfl
  have g2 : (mapH3 s.heap l f).get? (mapH1 s.heap l).objs.size = some _ := Heap.get?_push_of_some _ (Heap.get?_push_size _ rfl)
  have g1 : (mapH3 s.heap l f).get? s.heap.objs.size = some _ := Heap.get?_push_of_some _ (Heap.get?_push_of_some _ (Heap.get?_push_size _ rfl))
  show _ ∧ _
  rw [z1, z2] at g3
  rw [z1] at g2
  rw [z2]
  exact ⟨⟨_, g3, rfl⟩, h _ g3 g2 ⟨_, g1, rfl, rfl⟩ z3 (fun c o x =>
    Heap.get?_push_of_some _ (Heap.get?_push_of_some _ (Heap.get?_push_of_some _ x))) rfl⟩
end

section
variable {prog : Program} {w : World} {A : Around} {E : Value → Shared → Prop} {s : Shared}

theorem map_next_item {z TI it l : Addr} {f : Value} {i : Nat} {items : Array Value} {x : Value} {Q : Value → Shared → Prop}
    (hzi : z ≠ it) (hz : IsMap s.heap z TI f) (hTI : IsOne s.heap TI (.ref it))
    (hit : s.heap.IsListIter it l i) (hl : s.heap.IsList l items) (hx : items[i]? = some x)
    (hcall : ∀ h', h'.IsListIter it l (i + 1) → Heap.SameBut it s.heap h' → wpAny (model prog w) (A) (call f [x]) Q E { s with heap := h' }) :
    wpAny (model prog w) A (Builtin.«map.__next__» ⟨[.ref z], []⟩) (fun fin s' => ∃ v, fin = .done (.ret v) ∧ Q v s') E s := by
  show wpAny _ _ (field (.ref z) 0 >>= _) _ _ _
  refine wpAny_bind (wpAny_field hz rfl (x := .ref TI) rfl ?_)
  refine wpAny_bind (wpAny_seqItems hTI rfl ?_)
  simp only [List.forIn_toArray, List.forIn_cons, List.forIn_nil]
  refine wpAny_bind (wpAny_bind ?_)
  refine wpAny_bind (wpAny_holding (wpAny_nextOf_list_item hit hl hx fun h₁ hit₁ hs₁ => ?_))
  refine wpAny_pure (wpAny_pure ?_)
  have hz₁ : IsMap h₁ z TI f := hs₁.extBut _ _ hzi hz
  refine wpAny_bind (wpAny_field hz₁ rfl (x := f) rfl ?_)
  refine wpAny_bind (wpAny_holding ?_)
  refine wpAny_mono (hcall h₁ hit₁ hs₁) (fun v s' hv => ?_) fun _ _ e => e
  exact wpAny_bind (wpAny_letGo (wpAny_pure ⟨_, rfl, hv⟩))

theorem map_next_end {z TI it l : Addr} {f : Value} {i : Nat} {items : Array Value} {Q : Value → Shared → Prop} (hh : A.handled = none)
    (hz : IsMap s.heap z TI f) (hTI : IsOne s.heap TI (.ref it))
    (hit : s.heap.IsListIter it l i) (hl : s.heap.IsList l items) (hx : items[i]? = none)
    (hE : ∀ h' e, Heap.ExtBut it s.heap h' → (∃ o, h'.get? e = some o ∧ o.cls = .type "StopIteration") → E (.ref e) { s with heap := h' }) :
    wpAny (model prog w) A (Builtin.«map.__next__» ⟨[.ref z], []⟩) (fun fin s' => ∃ v, fin = .done (.ret v) ∧ Q v s') E s := by
  show wpAny _ _ (field (.ref z) 0 >>= _) _ _ _
  refine wpAny_bind (wpAny_field hz rfl (x := .ref TI) rfl ?_)
  refine wpAny_bind (wpAny_seqItems hTI rfl ?_)
  simp only [List.forIn_toArray, List.forIn_cons, List.forIn_nil]
  refine wpAny_bind (wpAny_bind ?_)
  exact wpAny_bind (wpAny_holding (wpAny_nextOf_list_end hh hit hl hx hE))
end
end Mine
end

section
open PySem PySem.W PyProof.Rows
namespace Mine
open PySem.Builtin PySem.Builtin.Str

section
variable {prog : Program} {w : World} {A : Around} {E : Value → Shared → Prop} {s : Shared}

theorem pyNext_map_item {z TI it l : Addr} {f : Value} {i : Nat} {items : Array Value} {x : Value} {Q : Option Value → Shared → Prop}
    (hzi : z ≠ it) (hz : IsMap s.heap z TI f) (hTI : IsOne s.heap TI (.ref it))
    (hit : s.heap.IsListIter it l i) (hl : s.heap.IsList l items) (hx : items[i]? = some x)
    (hcall : ∀ (B : Around) h', h'.IsListIter it l (i + 1) → Heap.SameBut it s.heap h' → wpAny (model prog w) B (call f [x]) (fun v s' => Q (some v) s') (fun _ _ => False) { s with heap := h' }) :
    wpAny (model prog w) A (pyNext (.ref z)) Q E s := by
  have hT : s.TypeIs (.ref z) "map" := ⟨_, hz, rfl⟩
  unfold pyNext
  refine wpAny_bind (wpAny_attempt (wpAny_callSpecial?_slot (name := Str.ofString "__next__") hT slot_map_next
    (wpAny_call_entry slot_map_next hT entry_map_next
      (map_next_item hzi hz hTI hit hl hx fun h' hi' hs' => ?_) (args_map_next_1 _))))
  exact wpAny_mono (hcall _ h' hi' hs') (fun v s' hv => wpAny_pure hv) fun _ _ e => e.elim

theorem pyNext_map_end {z TI it l : Addr} {f : Value} {i : Nat} {items : Array Value} {Q : Option Value → Shared → Prop} (hh : A.handled = none)
    (hz : IsMap s.heap z TI f) (hTI : IsOne s.heap TI (.ref it))
    (hit : s.heap.IsListIter it l i) (hl : s.heap.IsList l items) (hx : items[i]? = none)
    (hQ : ∀ h', Heap.ExtBut it s.heap h' → Q none { s with heap := h' }) :
    wpAny (model prog w) A (pyNext (.ref z)) Q E s := by
  have hT : s.TypeIs (.ref z) "map" := ⟨_, hz, rfl⟩
  unfold pyNext
  refine wpAny_bind (wpAny_attempt (wpAny_callSpecial?_slot (name := Str.ofString "__next__") hT slot_map_next
    (wpAny_call_entry slot_map_next hT entry_map_next (map_next_end hh hz hTI hit hl hx fun h' e hk he => ?_) (args_map_next_1 _))))
  obtain ⟨o, ho, hc⟩ := he
  refine wpAny_bind (wpAny_isInstance (T := "StopIteration") (b := true) ⟨o, ho, hc⟩ isSubtype_stop ?_)
  exact wpAny_pure (hQ _ hk)

theorem pyIter_map {z TI : Addr} {f : Value} {Q : Value → Shared → Prop} (hz : IsMap s.heap z TI f) (h : Q (.ref z) s) : wpAny (model prog w) A (pyIter (.ref z)) Q E s := by
  have hT : s.TypeIs (.ref z) "map" := ⟨_, hz, rfl⟩
  refine wpAny_pyIter_slot hT slot_map_iter (wpAny_call_entry slot_map_iter hT entry_map_iter ?_ (args_map_iter_1 _))
  show wpAny _ _ (ret (.ref z)) _ _ s
  exact wpAny_pure ⟨_, rfl, "map", _, hT, slot_map_next.lookup, h⟩

/-- what a map of str.capitalize hands out -/
def CapAt (items : Array Value) (i : Nat) (v : Value) : Prop := ∃ (x : PySem.Str) (t t' : Tok), items[i]? = some (.str x t) ∧ v = .str (Txt.capitalize x) t'

theorem walks_mapCap (hh : A.handled = none) (z TI it l : Addr) (hzi : z ≠ it) (hTi : TI ≠ it) (hli : l ≠ it) (items : Array Value)
    (hs : ∀ (i : Nat) (v : Value), items[i]? = some v → ∃ (x : PySem.Str) (t : Tok), v = Value.str x t ∧ x.length ≤ 5592405) :
    Walks prog w A z [z, TI, it, l] [it] items.size (CapAt items)
      (fun i h => IsMap h z TI (.builtin "str.capitalize") ∧ IsOne h TI (.ref it) ∧ h.IsListIter it l i ∧ h.IsList l items) where
  sub := fun b hb => by simp at hb; simp [hb]
  frame := fun i h h' st hk => ⟨hk z (by simp) _ st.1, hk TI (by simp) _ st.2.1, st.2.2.1.at fun o e => hk it (by simp) o e, st.2.2.2.at fun o e => hk l (by simp) o e⟩
  item := fun i s Q E hi st hQ => by
    obtain ⟨hz, hTI, hit, hl⟩ := st
    obtain ⟨x, t, hv, hx⟩ := hs i _ (Array.getElem?_eq_getElem hi)
    have hxi : items[i]? = some (.str x t) := by rw [Array.getElem?_eq_getElem hi, hv]
    refine pyNext_map_item hzi hz hTI hit hl hxi fun B h' hit' hs' => ?_
    refine SCL.capitalize hx fun t' k _ => ?_
    exact hQ _ h' k ⟨x, t, t', hxi, rfl⟩ ⟨hs'.extBut _ _ hzi hz, hs'.extBut _ _ hTi hTI, hit', hl.extBut hs'.extBut hli⟩ fun b o hb e => hs'.extBut b o (fun h => hb (by simp [h])) e
  done := fun s Q E st hQ => by
    obtain ⟨hz, hTI, hit, hl⟩ := st
    exact pyNext_map_end hh hz hTI hit hl (by simp) fun h' he' => hQ h' s.toks fun b o hb e => he' b o (fun h => hb (by simp [h])) e
  self := fun i s Q E st hQ => pyIter_map st.1 hQ

variable {I S : Addr} {fp wr : List Addr} {G : Array GenState → Array GenState → Prop} {n c : Nat} {P : Nat → Value → Prop} {St : Nat → Shared → Prop}

/-- a plain list object: what it holds, and how often it was turned -/
abbrev plainL (xs : Array Value) (c : Nat) : Obj := { cls := .type "list", dict := none, data := .seq xs c, slots := #[] }

/-- making room turns an empty list and turns it back: all else stays -/
theorem touch_plain {Q : Unit → Shared → Prop} (hS : s.heap.get? S = some (plainL #[] c))
    (h : ∀ h' c', h'.get? S = some (plainL #[] c') → (∀ b o, b ≠ S → s.heap.get? b = some o → h'.get? b = some o) → Q () { s with heap := h' }) :
    wpAny (model prog w) A (Builtin.List.listTouch (.ref S)) Q E s := by
  show wpAny _ A (updateSeq S (·.push .none) >>= fun _ => updateSeq S (·.pop)) _ _ _
  have g1 := Heap.get?_update_self (Obj.mapSeq (·.push Value.none)) hS rfl
  have g2 := Heap.get?_update_self (Obj.mapSeq (·.pop)) g1 rfl
  refine wpAny_bind (wpAny_updateSeq hS rfl (wpAny_updateSeq g1 rfl ?_))
  exact h _ _ g2 fun b o hb e => (Heap.get?_update_other _ _ (Ne.symm hb)).trans ((Heap.get?_update_other _ _ (Ne.symm hb)).trans e)

/-- a map object tells no length ahead -/
theorem hint_map {Q : Bool → Shared → Prop} (hT : s.TypeIs (.ref I) "map") (h : Q true s) : wpAny (model prog w) A (Builtin.List.listLengthHint (.ref I)) Q E s := by
  unfold Builtin.List.listLengthHint
  refine wpAny_bind (wpAny_specialOf hT nolen_map ?_)
  show wpAny _ A (specialOf (Value.ref I) (Str.ofString "__length_hint__") >>= _) _ _ _
  exact wpAny_bind (wpAny_specialOf hT nohint_map (wpAny_pure h))

/-- an empty list extended by a map object -/
theorem extend_map {R : Result → Shared → Prop} (W : WalksS prog w A.in1 I fp wr G n P St) (hT : ∀ i s, St i s → s.TypeIs (.ref I) "map") (hst : St 0 s) (hSf : S ∉ fp) (hSI : S ≠ I)
    (hS : s.heap.get? S = some (plainL #[] c)) (hn : n ≤ sizeLine)
    (hR : ∀ s' acc c', Moved (S :: wr) G s s' → s'.heap.get? S = some (plainL acc c') → ItemsOf P acc n → R (.ok (.ret (.ref S))) s') :
    codeAny (model prog w) A (.builtin "list.__iadd__" ⟨[.ref S, .ref I], []⟩) R s := by
  refine codeAny_builtin F.entry_list_iadd ?_
  rw [Around.under_plainId F.plain_list_iadd _]
  show wpAny _ A.in1 (Builtin.List.listExtendWith (.ref S) (.ref I) (.ref S)) _ _ _
  unfold Builtin.List.listExtendWith
  refine wpAny_bind (wpAny_typeOf (hT 0 _ hst) ?_)
  have other : ¬ ((Builtin.List.listSameRef (.ref S) (.ref I) || Value.type "map" == Value.type "list" || Value.type "map" == Value.type "tuple") = true) := by
    rw [show Builtin.List.listSameRef (.ref S) (.ref I) = false from beq_eq_false_iff_ne.mpr hSI]; decide
  rw [if_neg other]
  refine wpAny_bind (W.self 0 _ _ _ hst (wpAny_bind (wpAny_holding (hint_map (hT 0 _ hst) ?_))))
  show wpAny _ A.in1 (rule "list.extend.makes-room" >>= fun _ => Builtin.List.listTouch (.ref S) >>= fun _ => again (.builtin "list.extend.loop" ⟨[.ref S, .ref I, .ref S], []⟩)) _ _ _
  refine wpAny_bind (wpAny_rule (wpAny_bind (touch_plain hS fun h' c' g keep => ?_)))
  have off : ∀ b ∈ fp, b ≠ S := fun b hb e => hSf (e ▸ hb)
  refine wpAny_pure ⟨plainId_quiet F.plain_extend_loop _, codeAny_extend_loopS W hn S hSf _ n 0 _ _ _ rfl (Nat.zero_le _)
    (W.frame 0 s h' s.toks hst (Nat.le_refl _) fun b hb o e => keep b o (off b hb) e) g (ItemsOf.nil P) fun s' acc c'' hm g' hi => hR s' acc c'' ?_ g' hi⟩
  exact Moved.trans W.gtrans ((Moved.refl W.grefl).then_heap (Nat.le_refl _) fun b o hb e => keep b o (fun h => hb (h ▸ List.mem_cons_self)) e) hm

theorem collect_map {Q : List Value → Shared → Prop} (W : WalksS prog w A.in1 I fp wr G n P St) (hT : ∀ i s, St i s → s.TypeIs (.ref I) "map") (hst : St 0 s) (hfp : ∀ b ∈ fp, b < s.heap.objs.size) (hI : I ∈ fp) (hn : n ≤ sizeLine)
    (hQ : ∀ s' acc, Moved wr G s s' → ItemsOf P acc n → Q acc.toList s') : wpAny (model prog w) A (collect (.ref I)) Q E s := by
  have new : s.heap.objs.size ∉ fp := fun hm => Nat.lt_irrefl _ (hfp _ hm)
  have made : (s.heap.push (plainL #[] 0)).get? s.heap.objs.size = some (plainL #[] 0) := Heap.get?_push_size _ rfl
  unfold collect
  refine wpAny_bind (wpAny_runValue (codeAny_builtin F.entry_proto_collect ?_))
  rw [Around.under_plainId F.plain_proto_collect _]
  show wpAny _ A.in1 (newList [] >>= fun l => again (.builtin "list.__iadd__" ⟨[l, .ref I], []⟩)) _ _ s
  refine wpAny_bind (wpAny_newObj_type (wpAny_pure ⟨plainId_quiet F.plain_list_iadd _, ?_⟩))
  refine extend_map W hT (W.frame 0 s (s.heap.push (plainL #[] 0)) s.toks hst (Nat.le_refl _) fun b _ o e => Heap.get?_push_of_some _ e) new (fun e => new (e ▸ hI)) made hn fun s' acc c' hm g hi => ?_
  show wpAny _ A (load s.heap.objs.size >>= _) _ _ s'
  refine wpAny_bind (wpAny_load g (wpAny_pure (hQ s' acc ?_ hi)))
  exact Moved.drop_new (o := plainL #[] 0) (tk := s.toks) hm (Nat.le_refl _)

/-- joining what a map object hands out -/
theorem join_map {x : PySem.Str} {t : Tok} {Q : Value → Shared → Prop} (W : WalksS prog w A.in1.in1 I fp wr G n P St) (hT : ∀ i s, St i s → s.TypeIs (.ref I) "map") (hst : St 0 s) (hfp : ∀ b ∈ fp, b < s.heap.objs.size) (hI : I ∈ fp) (hn : n ≤ sizeLine)
    (hstr : ∀ i v, P i v → ∃ y u, v = Value.str y u)
    (hq : ∀ s' (l : List (PySem.Str × Tok)), Moved wr G s s' → ItemsOf P (strValues l).toArray n → JoinOk x (l.map (·.1)) = true ∧ ∀ t' k, Q (.str (Txt.join x (l.map (·.1))) t') { s' with toks := k }) :
    wpAny (model prog w) A (call (.builtin "str.join") [.str x t, .ref I]) Q E s := by
  refine wpAny_call (codeAny_call_builtin F.slot_str_join.plain F.entry_str_join (F.slot_str_join.check _ _ _ _ _ _ _ _ (typeIs_str _ _ _) (F.args_str_join_2 _ _) ?_))
  rw [join_tree_other]
  refine wpAny_bind (wpAny_typeOf (hT 0 s hst) ?_)
  rw [if_neg (by decide)]
  refine wpAny_bind (wpAny_tryCatch (W.of_in1.self 0 s _ _ hst (wpAny_bind (collect_map W hT hst hfp hI hn fun s' acc hm hacc => ?_))))
  have texts : ∀ v ∈ acc.toList, ∃ y u, v = Value.str y u := fun v hv => by
    obtain ⟨j, hj⟩ := List.getElem?_of_mem hv
    exact hstr j v (hacc.2 j v (by rw [← Array.getElem?_toList]; exact hj))
  obtain ⟨l, hl⟩ := exists_strValues acc.toList texts
  obtain ⟨hok, hpost⟩ := hq s' l hm (by rw [hl]; simpa using hacc)
  rw [← hl]
  have room : Builtin.Str.tooLong ((l.map (·.1)).toArray.foldl (· + ·.length + x.length) 0) = false := by simpa [JoinOk] using hok
  have gives : Gives (joinTail x (strValues l)) (joinMade x l) := by
    have g0 := gives_joinTail x l room
    rcases l with _ | ⟨p, _ | ⟨q, r⟩⟩ <;> exact g0
  exact gives prog w A (wants Q E) s' (post_join l ⟨joinFit_length room, hpost⟩)
end
end Mine
end

section
open PySem PySem.W PyProof.Rows
namespace Mine
open PySem.Builtin PySem.Builtin.Str

abbrev itO (D : Addr) : Obj := { cls := .type "list_iterator", data := .fields #[.ref D, .int 0 0] }
abbrev tupO (it : Addr) : Obj := { cls := .type "tuple", data := .seq #[.ref it] }
abbrev mapO (TI : Addr) (f : Value) : Obj := { cls := .type "map", data := .fields #[.ref TI, f] }
abbrev lstO (l : List (PySem.Str × Tok)) : Obj := { cls := .type "list", data := .seq (strValues l).toArray }

section
variable {prog : Program} {w : World} {A : Around} {E : Value → Shared → Prop} {s : Shared} {h₀ : Heap} {L : Addr} {m : PySem.Str → Option Value} {news : List (Addr × Obj)}

theorem map_N {f : Value} {D : Addr} {l : List (PySem.Str × Tok)} {Q : Value → Shared → Prop} (F : Fr h₀ L s.heap m) (N : News h₀ L s.heap ((D, lstO l) :: news))
    (h : ∀ z TI it h', Fr h₀ L h' m → News h₀ L h' ((z, mapO TI f) :: (TI, tupO it) :: (it, itO D) :: (D, lstO l) :: news) →
      z ≠ it → TI ≠ it → D ≠ it → (∀ p ∈ news, p.1 ≠ it) → Q (.ref z) { s with heap := h' }) :
    wpAny (model prog w) A (call (.type "map") [f, .ref D]) Q E s := by
  have hl : s.heap.IsList D (strValues l).toArray := ⟨_, (N _ (.head _)).1, rfl, _, rfl⟩
  have old : ∀ p ∈ (D, lstO l) :: news, p.1 ≠ s.heap.objs.size := fun p hp => Nat.ne_of_lt (Heap.lt_size (N p hp).1)
  refine call_map hl fun h' hM hO hI hz hk he => ?_
  subst he
  have F1 := F.push (itO D)
  have N1 := N.push F (itO D)
  have F2 := F1.push (tupO s.heap.objs.size)
  have N2 := N1.push F1 (tupO s.heap.objs.size)
  have z1 : (s.heap.push (itO D)).objs.size = s.heap.objs.size + 1 := Heap.size_push ..
  rw [z1] at N2
  have z2 : ((s.heap.push (itO D)).push (tupO s.heap.objs.size)).objs.size = s.heap.objs.size + 2 := by rw [Heap.size_push, z1]
  have F3 := F2.push (mapO (s.heap.objs.size + 1) f)
  have N3 := N2.push F2 (mapO (s.heap.objs.size + 1) f)
  rw [z2] at N3
  have e : mapH3 s.heap D f = ((s.heap.push (itO D)).push (tupO s.heap.objs.size)).push (mapO (s.heap.objs.size + 1) f) := by
    show ((s.heap.push (itO D)).push (tupO s.heap.objs.size)).push (mapO (s.heap.push (itO D)).objs.size f) = _
    rw [z1]
  rw [e]
  exact h (s.heap.objs.size + 2) (s.heap.objs.size + 1) s.heap.objs.size _ F3 N3 (Nat.ne_of_gt (by omega)) (Nat.ne_of_gt (by omega)) (old _ (.head _)) fun p hp => old p (.tail _ hp)

theorem capAt_texts {l l' : List (PySem.Str × Tok)} (hi : ItemsOf (CapAt (strValues l).toArray) (strValues l').toArray (strValues l).toArray.size) :
    l'.map (·.1) = (l.map (·.1)).map Txt.capitalize := by
  obtain ⟨hs, hp⟩ := hi
  have hlen : l'.length = l.length := by simpa [strValues] using hs
  apply List.ext_getElem?
  intro i
  by_cases hlt : i < l'.length
  · obtain ⟨x, t, t', h1, h2⟩ := hp i (.str l'[i].1 l'[i].2) (by simp [strValues, hlt])
    have hlt' : i < l.length := by omega
    have h1' : x = l[i].1 := by
      have : Value.str l[i].1 l[i].2 = Value.str x t := by simpa [strValues, hlt'] using h1
      injection this with a b; exact a.symm
    injection h2 with a b
    simp [hlt, hlt', a, h1']
  · have : ¬ i < l.length := by omega
    simp [hlt, this]

theorem join_N {y : PySem.Str} {u : Tok} {z TI it D : Addr} {l : List (PySem.Str × Tok)} {Q : Value → Shared → Prop} (hh : A.handled = none) (F : Fr h₀ L s.heap m)
    (N : News h₀ L s.heap ((z, mapO TI (.builtin "str.capitalize")) :: (TI, tupO it) :: (it, itO D) :: (D, lstO l) :: news))
    (hzi : z ≠ it) (hTi : TI ≠ it) (hDi : D ≠ it) (hni : ∀ p ∈ news, p.1 ≠ it)
    (hlen : ∀ a ∈ l.map (·.1), a.length ≤ 5592405) (hok : JoinOk y ((l.map (·.1)).map Txt.capitalize) = true) (hsz : l.length ≤ sizeLine)
    (h : ∀ h' t' k, Fr h₀ L h' m → News h₀ L h' news → Q (.str (Txt.join y ((l.map (·.1)).map Txt.capitalize)) t') { s with heap := h', toks := k }) :
    wpAny (model prog w) A (call (.builtin "str.join") [.str y u, .ref z]) Q E s := by
  have hz : IsMap s.heap z TI (.builtin "str.capitalize") := (N _ (.head _)).1
  have hT : IsOne s.heap TI (.ref it) := (N _ (.tail _ (.head _))).1
  have hI' := N _ (.tail _ (.tail _ (.head _)))
  have hI : s.heap.IsListIter it D 0 := ⟨_, hI'.1, rfl, rfl⟩
  have hD' := N _ (.tail _ (.tail _ (.tail _ (.head _))))
  have hl : s.heap.IsList D (strValues l).toArray := ⟨_, hD'.1, rfl, _, rfl⟩
  have W := walks_mapCap (prog := prog) (w := w) (A := A.in1.in1) hh z TI it D hzi hTi hDi (strValues l).toArray (by
    intro i v hv
    have hv' : (strValues l)[i]? = some v := by simpa using hv
    simp only [strValues, List.getElem?_map, Option.map_eq_some_iff] at hv'
    obtain ⟨p, hp, rfl⟩ := hv'
    exact ⟨p.1, p.2, rfl, hlen _ (List.mem_map.mpr ⟨p, List.mem_of_getElem? hp, rfl⟩)⟩)
  refine join_map W.toS (fun i s st => ⟨_, st.1, rfl⟩) ⟨hz, hT, hI, hl⟩ ?_ (by simp) (by simpa [strValues] using hsz) (fun i v hv => let ⟨x, _, t', _, e⟩ := hv; ⟨_, t', e⟩) ?_
  · intro b hb
    rcases List.mem_cons.mp hb with rfl | hb
    · exact Heap.lt_size hz
    rcases List.mem_cons.mp hb with rfl | hb
    · exact Heap.lt_size hT
    rcases List.mem_cons.mp hb with rfl | hb
    · exact Heap.lt_size hI'.1
    rcases List.mem_cons.mp hb with rfl | hb
    · exact Heap.lt_size hD'.1
    cases hb
  · intro s' l' hm hi
    rw [capAt_texts hi]
    refine ⟨hok, fun t' k => ?_⟩
    have hkeep : ∀ b o, b ≠ it → s.heap.get? b = some o → s'.heap.get? b = some o := fun b o hb e => hm.heap b o (fun hm => hb (List.mem_singleton.mp hm)) e
    have es : ({ s' with toks := k } : Shared) = { s with heap := s'.heap, toks := k } := by
      have e1 := hm.gens; have e2 := hm.drawn; have e3 := hm.os
      cases s'; cases s; simp only at e1 e2 e3; subst e1 e2 e3; rfl
    rw [es]
    refine h s'.heap t' k ⟨F.ns.at' fun o e => hkeep L o (Ne.symm hI'.2.1) e, fun b o e => hkeep b o ?_ (F.keep b o e), F.above⟩ fun p hp => ?_
    · rintro rfl; rw [hI'.2.2] at e; cases e
    · have hp' := N p (.tail _ (.tail _ (.tail _ (.tail _ hp))))
      exact ⟨hkeep _ _ (hni p hp) hp'.1, hp'.2⟩
end
end Mine
end

section
open PySem PySem.W PyProof.Rows
namespace Mine
theorem found_cap : findCls [] (.type "str") (.type "type") "capitalize" = some (.val (.builtin "str.capitalize")) := by kernel_rfl
theorem attr_cap {prog : Program} {w : World} {A : Around} {E : Value → Shared → Prop} {s : Shared} {expr : Bool} {Q : Value → Shared → Prop}
    (h : Q (.builtin "str.capitalize") { s with toks := s.toks + 1 }) : wpAny (model prog w) A (getAttr (.type "str") "capitalize" expr) Q E s := by
  have X : Frag.In [] s.heap := fun a o e => by cases e
  have ht : kitMeta "str" = true := by decide +kernel
  have hs : Manifest.isStub "str" = false := by decide +kernel
  have hstub : opaqueClassAbove (.type "str") = pure none := by unfold opaqueClassAbove; dsimp only; rw [hs]; rfl
  have L0 : Looks (model prog w) s.heap (typeOf (.type "str")) (.type "type") := Looks.of_pure (kitMeta_of ht)
  have LO : Looks (model prog w) s.heap (opaqueClassAbove (.type "str")) none := Looks.of_pure hstub
  have hg : findIn [] (.type "type") "__getattribute__" = some (some (.builtin "type.__getattribute__")) := type_tga
  refine cls_open X LO L0 hg (looks_hook X (r := none) (by rfl)) (by show subIn [] _ _ = _; rfl) found_cap ?_
  exact wpAny_pure (handed_on rfl h)
end Mine
end

section
open PySem PySem.W PyProof.Rows
namespace Mine
open PySem.Builtin PySem.Builtin.Str

/-- what capwords gives back: a text, and its mark (none: white signs) -/
def capW (x : PySem.Str) : Option PySem.Str → PySem.Str
  | none => Txt.join (PySem.Str.ofString " ") ((Txt.words x).map Txt.capitalize)
  | some y => Txt.join y ((Txt.split x y).map Txt.capitalize)

theorem sum_le {k : Nat} : ∀ (ts : List PySem.Str), (∀ a ∈ ts, a.length ≤ k) → ((ts.map Txt.capitalize).map (·.length)).sum ≤ 3 * (ts.length * k)
  | [], _ => by simp
  | a :: r, h => by
    have h1 := len_capitalize a
    have h2 := h a (.head _)
    have h3 := sum_le r fun b hb => h b (.tail _ hb)
    simp only [List.map_cons, List.sum_cons, List.length_cons, Nat.succ_mul]
    omega

theorem joinOk_caps {y : PySem.Str} {ts : List PySem.Str} (hn : ts.length ≤ 66) (hl : ∀ a ∈ ts, a.length ≤ 64) (hy : y.length ≤ 8) : JoinOk y (ts.map Txt.capitalize) = true := by
  unfold JoinOk
  rw [Bool.not_eq_true', StrLaws.joinTotal]
  have h1 := sum_le ts hl
  have h2 : ts.length * y.length ≤ 66 * 8 := Nat.mul_le_mul hn hy
  have h3 : (ts.map Txt.capitalize).length = ts.length := List.length_map ..
  rw [h3]
  have h4 : ¬ ((ts.map Txt.capitalize).map (·.length)).sum + ts.length * y.length > 16777216 := by omega
  show decide (_ > sizeLine) = false
  rw [sizeLine_eq]
  exact decide_eq_false h4

theorem split_count {x y : PySem.Str} (hx : x.length ≤ 64) : (Txt.split x y).length ≤ 66 := by
  unfold Txt.split
  split
  · exact (by decide : 1 ≤ 66)
  · split
    · exact (by decide : 1 ≤ 66)
    · have e1 := StrLaws.occ_length_le x y 0 x.length (x.length + 1)
      rw [length_partsBetween]; omega
theorem words_count {x : PySem.Str} (hx : x.length ≤ 64) : (Txt.words x).length ≤ 66 := by
  unfold Txt.words
  split
  · exact (by decide : 1 ≤ 66)
  · have e1 := (StrLaws.sw_weight x).1
    have e2 := StrLaws.len_le_wsum (spaceWords x (x.length + 1))
    unfold PySem.wordsOf
    rw [List.length_map]; omega
end Mine
end

section
namespace Mine

/-- the nine signs of the law's texts -/
def nine : List Nat := [97, 65, 98, 66, 45, 95, 46, 32, 9]
def isA (c : Nat) : Bool := c == 97 || c == 65
def isB (c : Nat) : Bool := c == 98 || c == 66
/-- a sign as by_mark writes it: great where first, small elsewhere -/
def upC (f : Bool) (c : Nat) : Nat := if isA c then (if f then 65 else 97) else if isB c then (if f then 66 else 98) else c
def lowC (c : Nat) : Nat := upC false c
/-- by_mark over lists -/
def bm (Y : List Nat) : Bool → List Nat → List Nat
  | _, [] => []
  | f, c :: r => if Y.isPrefixOf (c :: r) then Y ++ bm Y true (r.drop (Y.length - 1)) else upC f c :: bm Y false r
termination_by _ l => l.length
decreasing_by
  · simp only [List.length_drop, List.length_cons]; omega
  · simp
def isW (c : Nat) : Bool := c == 32 || c == 9
/-- squeezed over lists: has something been written; is there a gap -/
def sq : Bool → Bool → List Nat → List Nat
  | _, _, [] => []
  | ne, g, c :: r => if isW c then sq ne true r else (if g && ne then [32] else []) ++ c :: sq true false r
/-- capitalize over lists -/
def capz : List Nat → List Nat
  | [] => []
  | c :: r => upC true c :: r.map (upC false)

/-- no letter: the sign is its own great and small form -/
def Still (Y : List Nat) : Prop := ∀ c ∈ Y, isA c = false ∧ isB c = false

theorem upC_still {c : Nat} {f : Bool} (h : isA c = false ∧ isB c = false) : upC f c = c := by
  unfold upC; rw [h.1, h.2]; rfl
theorem upC_of_low (f : Bool) (c : Nat) : upC f (lowC c) = upC f c := by
  unfold lowC upC
  cases hA : isA c
  · cases hB : isB c
    · simp [hA, hB]
    · cases f <;> simp <;> decide
  · cases f <;> simp <;> decide
theorem low_of_upC (f : Bool) (c : Nat) : lowC (upC f c) = lowC c := by
  unfold lowC upC
  cases hA : isA c
  · cases hB : isB c
    · simp [hA, hB]
    · cases f <;> simp <;> decide
  · cases f <;> simp <;> decide
theorem eq_low {y c : Nat} (h : isA y = false ∧ isB y = false) : (y == lowC c) = (y == c) := by
  rw [Bool.eq_iff_iff, beq_iff_eq, beq_iff_eq]
  constructor
  · intro e
    subst e
    unfold lowC upC at *
    cases hA : isA c
    · cases hB : isB c
      · simp
      · rw [hA, hB] at h; simp at h; exact absurd h.2 (by decide)
    · rw [hA] at h; simp at h; exact absurd h.1 (by decide)
  · intro e
    subst e
    exact (upC_still h).symm
theorem prefix_low : ∀ {Y : List Nat} (X : List Nat), Still Y → Y.isPrefixOf (X.map lowC) = Y.isPrefixOf X
  | [], _, _ => by simp
  | _ :: _, [], _ => by simp
  | y :: Y, c :: X, h => by
    simp only [List.map_cons, List.isPrefixOf_cons_cons]
    rw [eq_low (h y (.head _)), prefix_low X fun d hd => h d (.tail _ hd)]

theorem bm_nil (Y : List Nat) (f : Bool) : bm Y f [] = [] := by rw [bm]
theorem bm_cons (Y : List Nat) (f : Bool) (c : Nat) (r : List Nat) : bm Y f (c :: r) = if Y.isPrefixOf (c :: r) then Y ++ bm Y true (r.drop (Y.length - 1)) else upC f c :: bm Y false r := by rw [bm]

theorem bm_low {Y : List Nat} (hY : Still Y) : ∀ (n : Nat) (X : List Nat) (f : Bool), X.length ≤ n → bm Y f (X.map lowC) = bm Y f X
  | _, [], _, _ => by simp [bm_nil]
  | 0, _ :: _, _, h => by simp at h
  | n + 1, c :: r, f, h => by
    have hr : r.length ≤ n := by simpa using h
    rw [List.map_cons, bm_cons, bm_cons, upC_of_low, ← List.map_cons (f := lowC), prefix_low _ hY, ← List.map_drop, bm_low hY n r false hr,
      bm_low hY n (r.drop (Y.length - 1)) true (by rw [List.length_drop]; omega)]
theorem low_still {Y : List Nat} (hY : Still Y) : Y.map lowC = Y := by
  conv => rhs; rw [← List.map_id Y]
  exact List.map_congr_left fun c hc => upC_still (hY c hc)
theorem prefix_eq {Y X : List Nat} (h : Y.isPrefixOf X = true) : Y ++ X.drop Y.length = X := by
  obtain ⟨t, rfl⟩ := List.isPrefixOf_iff_prefix.mp h
  simp
theorem drop_cons_len {Y : List Nat} (hY : Y ≠ []) (c : Nat) (r : List Nat) : (c :: r).drop Y.length = r.drop (Y.length - 1) := by
  cases Y with
  | nil => exact absurd rfl hY
  | cons y Y => simp
theorem low_bm {Y : List Nat} (hY : Still Y) (h0 : Y ≠ []) : ∀ (n : Nat) (X : List Nat) (f : Bool), X.length ≤ n → (bm Y f X).map lowC = X.map lowC
  | _, [], _, _ => by simp [bm_nil]
  | 0, _ :: _, _, h => by simp at h
  | n + 1, c :: r, f, h => by
    have hr : r.length ≤ n := by simpa using h
    rw [bm_cons]
    split
    · rename_i hp
      rw [List.map_append, low_bm hY h0 n (r.drop (Y.length - 1)) true (by rw [List.length_drop]; omega), ← List.map_append, ← drop_cons_len h0 c r, prefix_eq hp]
    · rw [List.map_cons, List.map_cons, low_of_upC, low_bm hY h0 n r false hr]
theorem bm_length {Y : List Nat} (hY : Still Y) (h0 : Y ≠ []) (f : Bool) (X : List Nat) : (bm Y f X).length = X.length := by
  have := congrArg List.length (low_bm hY h0 X.length X f (Nat.le_refl _))
  simpa using this
theorem upC_nine {c : Nat} (f : Bool) (h : c ∈ nine) : upC f c ∈ nine := by
  unfold upC
  split
  · cases f <;> decide
  · split
    · cases f <;> decide
    · exact h
theorem bm_nine {Y : List Nat} (hn : ∀ c ∈ Y, c ∈ nine) : ∀ (n : Nat) (X : List Nat) (f : Bool), X.length ≤ n → (∀ c ∈ X, c ∈ nine) → ∀ c ∈ bm Y f X, c ∈ nine
  | _, [], _, _, _ => by simp [bm_nil]
  | 0, _ :: _, _, h, _ => by simp at h
  | n + 1, c :: r, f, h, hX => by
    have hr : r.length ≤ n := by simpa using h
    rw [bm_cons]
    split
    · intro d hd
      rcases List.mem_append.mp hd with hd | hd
      · exact hn d hd
      · exact bm_nine hn n (r.drop (Y.length - 1)) true (by rw [List.length_drop]; omega) (fun e he => hX e (.tail _ (List.mem_of_mem_drop he))) d hd
    · intro d hd
      rcases List.mem_cons.mp hd with rfl | hd
      · exact upC_nine f (hX c (.head _))
      · exact bm_nine hn n r false hr (fun e he => hX e (.tail _ he)) d hd

theorem isW_low (c : Nat) : isW (lowC c) = isW c := by
  unfold lowC upC
  cases hA : isA c
  · cases hB : isB c
    · simp
    · have : c = 98 ∨ c = 66 := by simpa [isB] using hB
      rcases this with rfl | rfl <;> decide
  · have : c = 97 ∨ c = 65 := by simpa [isA] using hA
    rcases this with rfl | rfl <;> decide
theorem sq_low : ∀ (ne g : Bool) (X : List Nat), sq ne g (X.map lowC) = (sq ne g X).map lowC
  | _, _, [] => rfl
  | ne, g, c :: r => by
    simp only [List.map_cons, sq, isW_low]
    split
    · exact sq_low ne true r
    · rw [sq_low true false r]
      cases ne <;> cases g <;> simp <;> decide
theorem sq_idem : ∀ (ne g : Bool) (X : List Nat), sq ne false (sq ne g X) = sq ne g X
  | _, _, [] => rfl
  | ne, g, c :: r => by
    simp only [sq]
    split
    · exact sq_idem ne true r
    · rename_i hc
      have ih := sq_idem true false r
      have h32 : isW 32 = true := by decide
      cases ne <;> cases g <;> simp [sq, hc, h32, ih]
theorem sq_length : ∀ (ne g : Bool) (X : List Nat), (sq ne g X).length ≤ X.length + (if (g && ne) = true then 1 else 0)
  | _, _, [] => by simp [sq]
  | ne, g, c :: r => by
    simp only [sq]
    split
    · have h := sq_length ne true r
      cases ne <;> cases g <;> simp at h ⊢ <;> omega
    · have h := sq_length true false r
      cases ne <;> cases g <;> simp at h ⊢ <;> omega
theorem sq_nine : ∀ (ne g : Bool) (X : List Nat), (∀ c ∈ X, c ∈ nine) → ∀ c ∈ sq ne g X, c ∈ nine
  | _, _, [], _ => by simp [sq]
  | ne, g, c :: r, h => by
    simp only [sq]
    split
    · exact sq_nine ne true r fun d hd => h d (.tail _ hd)
    · intro d hd
      rcases List.mem_append.mp hd with hd | hd
      · split at hd
        · rw [List.mem_singleton.mp hd]; decide
        · cases hd
      · rcases List.mem_cons.mp hd with rfl | hd
        · exact h _ (.head _)
        · exact sq_nine true false r (fun d hd => h d (.tail _ hd)) d hd
end Mine
end

section
namespace Mine
open PySem PySem.Builtin PySem.Builtin.Str

/-- white-sign words over lists -/
def wd : Option (List Nat) → List Nat → List (List Nat)
  | none, [] => []
  | some w, [] => [w]
  | none, c :: r => if isW c then wd none r else wd (some [c]) r
  | some w, c :: r => if isW c then w :: wd none r else wd (some (w ++ [c])) r
def joinL (Y : List Nat) : List (List Nat) → List Nat
  | [] => []
  | [a] => a
  | a :: b :: r => a ++ Y ++ joinL Y (b :: r)
def tailJ (l : List (List Nat)) : List Nat := (l.map fun a => 32 :: capz a).flatten

theorem joinL_tail : ∀ (a : List Nat) (l : List (List Nat)), joinL [32] ((a :: l).map capz) = capz a ++ tailJ l
  | a, [] => by simp [joinL, tailJ]
  | a, b :: r => by
    have h := joinL_tail b r
    simp only [List.map_cons] at h ⊢
    simp only [joinL, h, tailJ, List.map_cons, List.flatten_cons, List.append_assoc, List.cons_append, List.nil_append]
theorem wd_some : ∀ (X w : List Nat), ∃ a l, wd (some w) X = a :: l
  | [], w => ⟨w, [], rfl⟩
  | c :: r, w => by
    simp only [wd]
    split
    · exact ⟨_, _, rfl⟩
    · exact wd_some r _
theorem tail_join {l : List (List Nat)} {a : List Nat} {r : List (List Nat)} (h : l = a :: r) : tailJ l = 32 :: joinL [32] (l.map capz) := by
  subst h
  rw [joinL_tail]
  simp [tailJ]
theorem capz_snoc (P : List Nat) (c : Nat) : capz (P ++ [c]) = capz P ++ [upC P.isEmpty c] := by
  cases P with
  | nil => rfl
  | cons d r => simp [capz]
theorem not32 {c : Nat} (h : isW c = false) (r : List Nat) : ([32] : List Nat).isPrefixOf (c :: r) = false := by
  have : ¬ (32 = c) := by rintro rfl; exact absurd h (by decide)
  simp [List.isPrefixOf, this]
theorem is32 (r : List Nat) : ([32] : List Nat).isPrefixOf (32 :: r) = true := by simp [List.isPrefixOf]

theorem words_tail : ∀ (X : List Nat), (∀ w : List Nat, w ≠ [] → tailJ (wd (some w) X) = 32 :: capz w ++ bm [32] false (sq true false X)) ∧ tailJ (wd none X) = bm [32] false (sq true true X)
  | [] => ⟨fun w _ => by simp [wd, tailJ, sq, bm_nil], by simp [wd, tailJ, sq, bm_nil]⟩
  | c :: r => by
    obtain ⟨ih2, ih⟩ := words_tail r
    cases hc : isW c
    · constructor
      · intro w hw
        simp only [wd, sq, hc, Bool.false_eq_true, if_false, Bool.and_true, List.nil_append]
        rw [ih2 _ (by simp), capz_snoc, bm_cons, not32 hc]
        have : w.isEmpty = false := by cases w <;> simp_all
        simp [this]
      · simp only [wd, sq, hc, Bool.false_eq_true, if_false, Bool.and_true, if_true]
        rw [ih2 _ (by simp)]
        show _ = bm [32] false (32 :: (c :: sq true false r))
        rw [bm_cons, is32]
        simp only [if_true, List.length_cons, List.length_nil, Nat.zero_add, Nat.sub_self, List.drop_zero]
        rw [bm_cons, not32 hc]
        simp [capz]
    · constructor
      · intro w hw
        simp only [wd, sq, hc, if_true]
        rw [← ih]
        simp [tailJ]
      · simp only [wd, sq, hc, if_true]
        exact ih
theorem words_join : ∀ (X : List Nat) (g : Bool), joinL [32] ((wd none X).map capz) = bm [32] true (sq false g X)
  | [], g => by simp [wd, joinL, sq, bm_nil]
  | c :: r, g => by
    cases hc : isW c
    · simp only [wd, sq, hc, Bool.false_eq_true, if_false, Bool.and_false, List.nil_append]
      obtain ⟨a, l, e⟩ := wd_some r [c]
      have h := (words_tail r).1 [c] (by simp)
      rw [tail_join e] at h
      have h' : joinL [32] ((wd (some [c]) r).map capz) = capz [c] ++ bm [32] false (sq true false r) := by
        simpa using h
      rw [h', bm_cons, not32 hc]
      simp [capz]
    · simp only [wd, sq, hc, if_true]
      exact words_join r true

/-- a text's signs -/
abbrev sg (x : PySem.Str) : List Nat := x.cps.toList
def Nine (x : PySem.Str) : Prop := ∀ c ∈ sg x, c ∈ nine

theorem title_nine : ∀ c ∈ nine, Unicode.titleOf c = [upC true c] := by decide +kernel
theorem lower_nine : ∀ c ∈ nine, Unicode.lowerOf c = [upC false c] := by decide +kernel
theorem space_nine : ∀ c ∈ nine, Unicode.isSpace c = isW c := by decide +kernel
theorem small_nine : ∀ c ∈ nine, c < 128 ∧ c ≠ 0x3A3 := by decide +kernel

theorem placed_list (x : PySem.Str) (f : Nat → Nat → List Nat) : (placed x f).toList = ((sg x).mapIdx f).flatten := by
  unfold placed
  rw [Array.toList_flatten]
  congr 1
  rw [Array.toList_mapIdx]
  apply List.ext_getElem
  · simp
  · intro i h1 h2
    simp
theorem lowerAt_nine {x : PySem.Str} (hx : Nine x) {i : Nat} (hi : i < (sg x).length) : Unicode.lowerAt x.cps i = [upC false ((sg x)[i])] := by
  unfold Unicode.lowerAt
  have e : x.cps[i]? = some ((sg x)[i]) := by simp [sg]
  rw [e]
  have hm := hx _ (List.getElem_mem hi)
  have h2 := (small_nine _ hm).2
  have : ((sg x)[i] == 0x3A3) = false := by simpa using h2
  simp only [this, Bool.false_and, Bool.false_eq_true, if_false]
  exact lower_nine _ hm
theorem flatten_singles (r : List Nat) (g : Nat → Nat) : (r.map fun c => [g c]).flatten = r.map g := by
  induction r with
  | nil => rfl
  | cons c r ih => simp [ih]
theorem sg_capitalize {x : PySem.Str} (hx : Nine x) : sg (Txt.capitalize x) = capz (sg x) := by
  unfold Txt.capitalize
  split
  · rename_i h
    have : sg x = [] := by
      have h' : x.cps.size = 0 := by simpa [PySem.Str.length] using h
      simp [sg]; exact Array.eq_empty_of_size_eq_zero h'
    rw [this]; rfl
  · show (placed x _).toList = _
    rw [placed_list]
    generalize hg : sg x = l
    cases l with
    | nil => rfl
    | cons c r =>
      rw [List.mapIdx_cons]
      simp only [List.flatten_cons]
      have h0 : c ∈ nine := hx c (by rw [hg]; exact .head _)
      have e1 : (if (0 == 0) = true then Unicode.titleOf c else Unicode.lowerAt x.cps 0) = [upC true c] := by
        simp [title_nine c h0]
      have e2 : (r.mapIdx fun i d => if (i + 1 == 0) = true then Unicode.titleOf d else Unicode.lowerAt x.cps (i + 1)) = r.map fun d => [upC false d] := by
        apply List.ext_getElem
        · simp
        · intro i h1 h2
          have hi : i < r.length := by simpa using h1
          have hl := lowerAt_nine hx (i := i + 1) (by rw [hg]; simpa using hi)
          simp only [List.getElem_mapIdx, List.getElem_map]
          rw [if_neg (by simp), hl]
          simp [hg]
      rw [e1, e2, flatten_singles]
      rfl
end Mine
end

section
namespace Mine
open PySem PySem.Builtin PySem.Builtin.Str PySem.StrLaws

theorem sg_length (x : PySem.Str) : (sg x).length = x.length := by simp [sg, PySem.Str.length]
theorem sg_sub (x : PySem.Str) (i j : Nat) : sg (strSub x i j) = ((sg x).drop i).take (j - i) := strSub_toList x i j
theorem nine_sub {x : PySem.Str} (hx : Nine x) (i j : Nat) : Nine (strSub x i j) := fun c hc => by
  rw [sg_sub] at hc
  exact hx c (List.mem_of_mem_drop (List.mem_of_mem_take hc))
theorem sg_append (a b : PySem.Str) : sg (a ++ b) = sg a ++ sg b := by simp [sg, PySem.Str.cps_append]
theorem sg_inj {a b : PySem.Str} (h : sg a = sg b) : a = b := PySem.Str.ext' (Array.toList_inj.mp h)
theorem sg_mk (l : List Nat) : sg ⟨l.toArray⟩ = l := by simp [sg]

theorem sg_join (y : PySem.Str) : ∀ (l : List PySem.Str), sg (PySem.Str.join y l) = joinL (sg y) (l.map sg)
  | [] => rfl
  | [a] => rfl
  | a :: b :: r => by
    show sg (a ++ y ++ PySem.Str.join y (b :: r)) = _
    rw [sg_append, sg_append, sg_join y (b :: r)]
    rfl
theorem sg_txtjoin (y : PySem.Str) (l : List PySem.Str) : sg (Txt.join y l) = joinL (sg y) (l.map sg) := by
  show sg (glued y l) = _
  rw [glued_eq_join, sg_join]

/-- a match at a place, over lists -/
theorem match_prefix {x y : PySem.Str} {i : Nat} : (i + y.length ≤ x.length ∧ subAt x y i = true) ↔ (sg y).isPrefixOf ((sg x).drop i) = true ∧ i + y.length ≤ x.length := by
  rw [subAt_eq, List.isPrefixOf_iff_prefix, List.prefix_iff_eq_take, sg_length, beq_iff_eq]
  constructor
  · rintro ⟨h1, h2⟩; exact ⟨h2.symm, h1⟩
  · rintro ⟨h1, h2⟩; exact ⟨h2, h1.symm⟩
theorem prefix_room {x y : PySem.Str} {i : Nat} (h0 : 1 ≤ y.length) (h : (sg y).isPrefixOf ((sg x).drop i) = true) : i + y.length ≤ x.length := by
  have := (List.isPrefixOf_iff_prefix.mp h).length_le
  rw [List.length_drop, sg_length, sg_length] at this
  omega
theorem match_iff {x y : PySem.Str} {i : Nat} (h0 : 1 ≤ y.length) : (i + y.length ≤ x.length ∧ subAt x y i = true) ↔ (sg y).isPrefixOf ((sg x).drop i) = true :=
  ⟨fun h => (match_prefix.mp h).1, fun h => match_prefix.mpr ⟨h, prefix_room h0 h⟩⟩

/-- what the parts from a place on are, capitalized and joined -/
def J (x y : PySem.Str) (a : Nat) (C : List Nat) : List Nat := joinL (sg y) ((partsFrom x y.length a C).map fun p => capz (sg p))
theorem J_nil (x y : PySem.Str) (a : Nat) : J x y a [] = capz ((sg x).drop a) := by
  show capz (sg (strSub x a x.length)) = _
  rw [sg_sub, List.take_of_length_le (by rw [List.length_drop, sg_length]; exact Nat.le_refl _)]
theorem J_cons (x y : PySem.Str) (a c : Nat) (C : List Nat) : J x y a (c :: C) = capz (((sg x).drop a).take (c - a)) ++ sg y ++ J x y (c + y.length) C := by
  obtain ⟨p, r, e⟩ := partsFrom_ne x y.length (c + y.length) C
  unfold J
  rw [show partsFrom x y.length a (c :: C) = strSub x a c :: partsFrom x y.length (c + y.length) C from rfl, e, ← sg_sub]
  rfl

theorem occ_bm {x y : PySem.Str} (h0 : 1 ≤ y.length) : ∀ (m j : Nat) (acc : Array Nat) (free : Nat), j + m = x.length + 1 → acc.size ≤ j → free ≤ x.length →
    ∃ C, (forIn (List.range' j m) (acc, free) (occBody x y x.length (x.length + 1))).run.fst.toList = acc.toList ++ C ∧
      J x y free C = capz (((sg x).drop free).take (j - free)) ++ bm (sg y) (decide (j ≤ free)) ((sg x).drop (max j free))
  | 0, j, acc, free, hj, _, hf => by
    refine ⟨[], by simp, ?_⟩
    have hjf : ¬ j ≤ free := by omega
    have hm : max j free = j := by omega
    rw [J_nil, hm, List.drop_of_length_le (i := j) (by rw [sg_length]; omega), bm_nil, List.append_nil, List.take_of_length_le (by rw [List.length_drop, sg_length]; omega)]
  | m + 1, j, acc, free, hj, hs, hf => by
    rw [List.range'_succ, List.forIn_cons]
    have hY : sg y ≠ [] := by
      intro e
      have := sg_length y
      rw [e] at this; simp at this; omega
    by_cases hfree : free ≤ j
    · by_cases hm : (sg y).isPrefixOf ((sg x).drop j) = true
      · have hmm := (match_iff h0).mpr hm
        have hb : occBody x y x.length (x.length + 1) j (acc, free) = pure (ForInStep.yield (acc.push j, j + y.length)) := by
          unfold occBody
          rw [if_pos ⟨⟨⟨by show acc.size < _; omega, hfree⟩, hmm.1⟩, hmm.2⟩]
        obtain ⟨C, e1, e2⟩ := occ_bm h0 m (j + 1) (acc.push j) (j + y.length) (by omega) (by rw [Array.size_push]; omega) hmm.1
        refine ⟨j :: C, ?_, ?_⟩
        · rw [hb]
          show (forIn (List.range' (j + 1) m) (acc.push j, j + y.length) (occBody x y x.length (x.length + 1))).run.fst.toList = _
          rw [e1]; simp
        · rw [J_cons, e2]
          have t0 : j + 1 - (j + y.length) = 0 := by omega
          have t1 : max (j + 1) (j + y.length) = j + y.length := by omega
          have t2 : decide (j + 1 ≤ j + y.length) = true := by simpa using h0
          have t3 : max j free = j := by omega
          rw [t0, t1, t2, t3, List.take_zero]
          simp only [capz, List.nil_append]
          rw [List.append_assoc]
          congr 1
          have hd : (sg x).drop (j + y.length) = ((sg x).drop j).drop (sg y).length := by rw [List.drop_drop, sg_length]
          generalize hX : (sg x).drop j = Z at hm hd
          cases Z with
          | nil => exact absurd hm (by cases h : sg y with | nil => exact absurd h hY | cons a b => simp)
          | cons c r => rw [bm_cons, if_pos hm, hd, drop_cons_len hY]
      · have hb : occBody x y x.length (x.length + 1) j (acc, free) = pure (ForInStep.yield (acc, free)) := by
          unfold occBody
          rw [if_neg]
          rintro ⟨⟨_, h2⟩, h3⟩
          exact hm ((match_iff h0).mp ⟨h2, h3⟩)
        obtain ⟨C, e1, e2⟩ := occ_bm h0 m (j + 1) acc free (by omega) (by omega) hf
        refine ⟨C, ?_, ?_⟩
        · rw [hb]; exact e1
        · rw [e2]
          have t1 : max (j + 1) free = j + 1 := by omega
          have t2 : decide (j + 1 ≤ free) = false := by simp; omega
          have t3 : max j free = j := by omega
          rw [t1, t2, t3]
          by_cases hjn : j < x.length
          · have hlt : j < (sg x).length := by rw [sg_length]; exact hjn
            rw [List.drop_eq_getElem_cons hlt] at hm ⊢
            rw [bm_cons, if_neg hm]
            have tk : ((sg x).drop free).take (j + 1 - free) = ((sg x).drop free).take (j - free) ++ [(sg x)[j]] := by
              rw [show j + 1 - free = (j - free) + 1 from by omega, List.take_add_one, List.getElem?_drop, show free + (j - free) = j from by omega, List.getElem?_eq_getElem hlt]
              rfl
            rw [tk, capz_snoc, List.append_assoc]
            congr 1
            have em : (((sg x).drop free).take (j - free)).isEmpty = decide (j ≤ free) := by
              rw [Bool.eq_iff_iff]
              simp only [List.isEmpty_iff, decide_eq_true_eq, ← List.length_eq_zero_iff, List.length_take, List.length_drop, sg_length]
              omega
            rw [em]; rfl
          · have hj' : j = x.length := by omega
            rw [List.drop_of_length_le (i := j + 1) (by rw [sg_length]; omega), List.drop_of_length_le (i := j) (by rw [sg_length]; omega), bm_nil, bm_nil,
              List.take_of_length_le (i := j + 1 - free) (by rw [List.length_drop, sg_length]; omega), List.take_of_length_le (i := j - free) (by rw [List.length_drop, sg_length]; omega)]
    · have hb : occBody x y x.length (x.length + 1) j (acc, free) = pure (ForInStep.yield (acc, free)) := by
        unfold occBody
        rw [if_neg]
        rintro ⟨⟨⟨_, h2⟩, _⟩, _⟩
        exact hfree h2
      obtain ⟨C, e1, e2⟩ := occ_bm h0 m (j + 1) acc free (by omega) (by omega) hf
      refine ⟨C, ?_, ?_⟩
      · rw [hb]; exact e1
      · rw [e2, show j + 1 - free = 0 from by omega, show j - free = 0 from by omega, show max (j + 1) free = free from by omega, show max j free = free from by omega,
          show decide (j + 1 ≤ free) = true from by simp; omega, show decide (j ≤ free) = true from by simp; omega]

theorem split_parts {x y : PySem.Str} (hx : Nine x) (hy : Nine y) : Txt.split x y = partsFrom x y.length 0 (occurrences x y 0 x.length (x.length + 1)) := by
  have kx : ∀ {z : PySem.Str}, Nine z → PySem.Builtin.Str.strKind z = 1 := fun {z} hz => by
    unfold PySem.Builtin.Str.strKind
    rw [if_pos]
    rw [Array.all_eq_true']
    intro c hc
    have := (small_nine c (hz c (by simpa [sg] using hc))).1
    simp; omega
  have whole : partsFrom x y.length 0 [] = [x] := by
    show [strSub x 0 x.length] = [x]
    rw [sub_whole]
  unfold Txt.split
  split
  · rename_i h
    have hlt : x.length < y.length := by
      rw [kx hx, kx hy] at h; simpa using h
    have : occurrences x y 0 x.length (x.length + 1) = [] := by
      cases hc : occurrences x y 0 x.length (x.length + 1) with
      | nil => rfl
      | cons c r =>
        obtain ⟨f, hch⟩ := occ_chain x y (x.length + 1)
        rw [hc] at hch
        have h1 : c + y.length ≤ x.length := hch.2.1.1
        omega
    rw [this, whole]
  · split
    · rename_i h
      rw [List.isEmpty_iff.mp h, whole]
    · exact partsBetween_eq x _ _

theorem sg_capW_some {x y : PySem.Str} (hx : Nine x) (hy : Nine y) (h0 : 1 ≤ y.length) : sg (capW x (some y)) = bm (sg y) true (sg x) := by
  show sg (Txt.join y ((Txt.split x y).map Txt.capitalize)) = _
  have hcap : ∀ (a : Nat) (C : List Nat), ((partsFrom x y.length a C).map Txt.capitalize).map sg = (partsFrom x y.length a C).map fun p => capz (sg p) := by
    intro a C
    induction C generalizing a with
    | nil => simp only [partsFrom, List.map_cons, List.map_nil]; rw [sg_capitalize (nine_sub hx _ _)]
    | cons c C ih => simp only [partsFrom, List.map_cons]; rw [sg_capitalize (nine_sub hx _ _)]; simp only [List.cons.injEq, true_and]; simpa using ih (c + y.length)
  rw [sg_txtjoin, split_parts hx hy, hcap]
  obtain ⟨C, e1, e2⟩ := occ_bm (x := x) h0 (x.length + 1) 0 #[] 0 (by omega) (by simp) (by omega)
  have ho : occurrences x y 0 x.length (x.length + 1) = C := by
    rw [occ_eq]
    simpa using e1
  rw [ho]
  show J x y 0 C = _
  rw [e2]
  simp [capz]
end Mine
end

section
namespace Mine
open PySem PySem.Builtin PySem.Builtin.Str PySem.StrLaws

theorem words_of (x : PySem.Str) : Txt.words x = (spaceWords x (x.length + 1)).map fun p => strSub x p.1 p.2 := by
  unfold Txt.words
  split
  · rename_i h
    rw [beq_iff_eq.mp h]
    show [x] = [strSub x 0 x.length]
    rw [sub_whole]
  · rfl

theorem getD_sg {x : PySem.Str} {j : Nat} (hj : j < (sg x).length) : x.cps.getD j 0 = (sg x)[j] := by
  have : j < x.cps.size := by simpa [sg] using hj
  simp [sg, Array.getD, this]

theorem sw_wd {x : PySem.Str} (hx : Nine x) : ∀ (m j : Nat) (acc : Array (Nat × Nat)) (st : Option Nat), j + m = x.length → acc.size ≤ j → (∀ b, st = some b → b < j) →
    ∃ C, swEnd x (forIn (List.range' j m) ((none, acc, st) : SwSt) (swBody x (x.length + 1))).run = acc.toList ++ C ∧
      (C.map fun p => sg (strSub x p.1 p.2)) = wd (st.map fun b => ((sg x).drop b).take (j - b)) ((sg x).drop j)
  | 0, j, acc, st, hj, _, hst => by
    have hd : (sg x).drop j = [] := List.drop_of_length_le (by rw [sg_length]; omega)
    rw [hd]
    cases st with
    | none => exact ⟨[], by simp [swEnd], by simp [wd]⟩
    | some b =>
      refine ⟨[(b, x.length)], by simp [swEnd], ?_⟩
      have e : x.length = j := by omega
      simp only [List.map_cons, List.map_nil, Option.map_some, wd]
      rw [sg_sub, e]
  | m + 1, j, acc, st, hj, hs, hst => by
    rw [List.range'_succ, List.forIn_cons]
    have hlt : j < (sg x).length := by rw [sg_length]; omega
    have hsp : Unicode.isSpace (x.cps.getD j 0) = isW ((sg x)[j]) := by
      rw [getD_sg hlt]; exact space_nine _ (hx _ (List.getElem_mem hlt))
    have hlim : (acc.size == x.length + 1) = false := by simp; omega
    rw [List.drop_eq_getElem_cons hlt]
    cases st with
    | none =>
      cases hw : isW ((sg x)[j])
      · have hb : swBody x (x.length + 1) j ((none, acc, none) : SwSt) = pure (ForInStep.yield (none, acc, some j)) := by
          unfold swBody
          simp only [hlim, hsp, hw, Bool.false_eq_true, if_false]
        obtain ⟨C, e1, e2⟩ := sw_wd hx m (j + 1) acc (some j) (by omega) (by omega) (by intro b hb; cases hb; omega)
        refine ⟨C, by rw [hb]; exact e1, ?_⟩
        rw [e2]
        simp only [Option.map_some, Option.map_none, wd, hw, Bool.false_eq_true, if_false]
        rw [show j + 1 - j = 1 from by omega, List.drop_eq_getElem_cons hlt]
        rfl
      · have hb : swBody x (x.length + 1) j ((none, acc, none) : SwSt) = pure (ForInStep.yield (none, acc, none)) := by
          unfold swBody
          simp only [hlim, hsp, hw, Bool.false_eq_true, if_false]
        obtain ⟨C, e1, e2⟩ := sw_wd hx m (j + 1) acc none (by omega) (by omega) (by intro b hb; cases hb)
        refine ⟨C, by rw [hb]; exact e1, ?_⟩
        rw [e2]
        simp only [Option.map_none, wd, hw, if_true]
    | some b =>
      have hbj := hst b rfl
      cases hw : isW ((sg x)[j])
      · have hb : swBody x (x.length + 1) j ((none, acc, some b) : SwSt) = pure (ForInStep.yield (none, acc, some b)) := by
          unfold swBody
          simp only [hlim, hsp, hw, Bool.false_eq_true, if_false]
        obtain ⟨C, e1, e2⟩ := sw_wd hx m (j + 1) acc (some b) (by omega) (by omega) (by intro b' hb'; cases hb'; omega)
        refine ⟨C, by rw [hb]; exact e1, ?_⟩
        rw [e2]
        simp only [Option.map_some, wd, hw, Bool.false_eq_true, if_false]
        rw [show j + 1 - b = (j - b) + 1 from by omega, List.take_add_one, List.getElem?_drop, show b + (j - b) = j from by omega, List.getElem?_eq_getElem hlt]
        rfl
      · have hb : swBody x (x.length + 1) j ((none, acc, some b) : SwSt) = pure (ForInStep.yield (none, acc.push (b, j), none)) := by
          unfold swBody
          simp only [hlim, hsp, hw, Bool.false_eq_true, if_false]
        obtain ⟨C, e1, e2⟩ := sw_wd hx m (j + 1) (acc.push (b, j)) none (by omega) (by rw [Array.size_push]; omega) (by intro b hb; cases hb)
        refine ⟨(b, j) :: C, by rw [hb]; refine Eq.trans e1 ?_; simp, ?_⟩
        simp only [List.map_cons, e2, Option.map_none, Option.map_some, wd, hw, if_true]
        rw [sg_sub]

theorem sg_capW_none {x : PySem.Str} (hx : Nine x) : sg (capW x none) = bm [32] true (sq false false (sg x)) := by
  show sg (Txt.join (PySem.Str.ofString " ") ((Txt.words x).map Txt.capitalize)) = _
  obtain ⟨C, e1, e2⟩ := sw_wd hx x.length 0 #[] none (by omega) (by simp) (by intro b hb; cases hb)
  have ho : spaceWords x (x.length + 1) = C := by
    rw [sw_eq]; simpa using e1
  have hcap : ∀ (C : List (Nat × Nat)), ((C.map fun p => strSub x p.1 p.2).map Txt.capitalize).map sg = (C.map fun p => sg (strSub x p.1 p.2)).map capz := by
    intro C
    induction C with
    | nil => rfl
    | cons c C ih => simp only [List.map_cons, List.cons.injEq] at ih ⊢; exact ⟨sg_capitalize (nine_sub hx _ _), ih⟩
  have hsp : sg (PySem.Str.ofString " ") = [32] := by decide +kernel
  rw [sg_txtjoin, words_of, ho, hcap, e2, hsp]
  simp only [Option.map_none, List.drop_zero]
  exact words_join _ false

/-- what _law_by_mark and _law_squeezed give back -/
def byMark (x y : PySem.Str) : PySem.Str := ⟨(bm (sg y) true (sg x)).toArray⟩
def sqz (x : PySem.Str) : PySem.Str := ⟨(sq false false (sg x)).toArray⟩
def blank : PySem.Str := PySem.Str.ofString " "
theorem sg_blank : sg blank = [32] := by decide +kernel
theorem capW_some {x y : PySem.Str} (hx : Nine x) (hy : Nine y) (h0 : 1 ≤ y.length) : capW x (some y) = byMark x y := sg_inj (by rw [sg_capW_some hx hy h0]; exact (sg_mk _).symm)
theorem capW_none {x : PySem.Str} (hx : Nine x) : capW x none = byMark (sqz x) blank := sg_inj (by
  rw [sg_capW_none hx]
  show _ = sg ⟨(bm (sg blank) true (sg (sqz x))).toArray⟩
  rw [sg_mk, sg_blank]
  show _ = bm [32] true (sg ⟨(sq false false (sg x)).toArray⟩)
  rw [sg_mk])

/-- a mark: not empty, of the nine signs, no letter -/
structure Mark (y : PySem.Str) : Prop where
  nine : Nine y
  still : Still (sg y)
  pos : 1 ≤ y.length
  short : y.length ≤ 8
theorem mark_blank : Mark blank := ⟨by unfold Nine; rw [sg_blank]; decide, by unfold Still; rw [sg_blank]; decide, by decide +kernel, by decide +kernel⟩
theorem Mark.ne {y : PySem.Str} (h : Mark y) : sg y ≠ [] := fun e => by
  have h1 := sg_length y
  have h2 := h.pos
  rw [e] at h1; simp at h1; omega

def low (x : PySem.Str) : List Nat := (sg x).map lowC
theorem low_byMark {x y : PySem.Str} (h : Mark y) : low (byMark x y) = low x := by
  show (sg ⟨(bm (sg y) true (sg x)).toArray⟩).map lowC = _
  rw [sg_mk]; exact low_bm h.still h.ne _ _ _ (Nat.le_refl _)
theorem byMark_low {x x' y : PySem.Str} (h : Mark y) (e : low x = low x') : byMark x y = byMark x' y := by
  unfold byMark
  have e' : (sg x).map lowC = (sg x').map lowC := e
  rw [← bm_low h.still _ (sg x) true (Nat.le_refl _), ← bm_low h.still _ (sg x') true (Nat.le_refl _), e']
theorem low_sqz (x : PySem.Str) : low (sqz x) = sq false false (low x) := by
  show (sg ⟨(sq false false (sg x)).toArray⟩).map lowC = _
  rw [sg_mk, ← sq_low]; rfl
theorem low_sqz_of {x x' : PySem.Str} (e : low x = low x') : low (sqz x) = low (sqz x') := by rw [low_sqz, low_sqz, e]
theorem low_sqz_sqz {x x' : PySem.Str} (e : low x = low (sqz x')) : low (sqz x) = low (sqz x') := by
  rw [low_sqz, e, low_sqz, sq_idem]
theorem nine_byMark {x y : PySem.Str} (hx : Nine x) (h : Mark y) : Nine (byMark x y) := by
  unfold Nine
  show ∀ c ∈ sg ⟨(bm (sg y) true (sg x)).toArray⟩, _
  rw [sg_mk]; exact bm_nine h.nine _ _ _ (Nat.le_refl _) hx
theorem nine_sqz {x : PySem.Str} (hx : Nine x) : Nine (sqz x) := by
  unfold Nine
  show ∀ c ∈ sg ⟨(sq false false (sg x)).toArray⟩, _
  rw [sg_mk]; exact sq_nine _ _ _ hx
theorem len_byMark {x y : PySem.Str} (h : Mark y) : (byMark x y).length = x.length := by
  rw [← sg_length, ← sg_length]
  show (sg ⟨(bm (sg y) true (sg x)).toArray⟩).length = _
  rw [sg_mk]; exact bm_length h.still h.ne _ _
theorem len_sqz (x : PySem.Str) : (sqz x).length ≤ x.length := by
  rw [← sg_length, ← sg_length]
  show (sg ⟨(sq false false (sg x)).toArray⟩).length ≤ _
  rw [sg_mk]; simpa using sq_length false false (sg x)
end Mine
end

section
namespace Mine
open PySem PySem.Builtin PySem.Builtin.Str PySem.StrLaws PyProof.Rows

theorem slice_clip (x : PySem.Str) {k j : Int} (hj0 : 0 ≤ j) (hj : (x.length : Int) ≤ j) : Txt.slice x (some k) (some j) = Txt.slice x (some k) (some (x.length : Int)) := by
  have e : strSliceIndices (some k) (some j) 1 x.length = strSliceIndices (some k) (some (x.length : Int)) 1 x.length := by
    have h1 : ¬ j < 0 := by omega
    have h2 : ¬ ((x.length : Int) < 0) := by omega
    have h3 : min j (x.length : Int) = x.length := by omega
    have h4 : min (x.length : Int) (x.length : Int) = x.length := by omega
    simp only [strSliceIndices, h1, h2, if_false, h3, h4, show ((1 : Int) > 0) = True from by simp, if_true]
  unfold Txt.slice
  rw [e]
theorem sg_slice (x : PySem.Str) {k : Int} {n : Nat} (h0 : 0 ≤ k) (h1 : k ≤ (x.length : Int)) : sg (Txt.slice x (some k) (some (k + (n : Int)))) = ((sg x).drop k.toNat).take n := by
  by_cases hn : k + (n : Int) ≤ (x.length : Int)
  · have h := slice_closesL (x := x) h0 (show k ≤ k + (n : Int) by omega) hn
    rw [beq_iff_eq.mp h, sg_mk, show (k + (n : Int) - k).toNat = n from by omega]
  · rw [slice_clip x (by omega) (by omega)]
    have h := slice_closesL (x := x) h0 h1 (Int.le_refl _)
    rw [beq_iff_eq.mp h, sg_mk, List.take_of_length_le (i := n) (by rw [List.length_drop, sg_length]; omega), List.take_of_length_le (by rw [List.length_drop, sg_length]; omega)]
theorem slice_is {x y : PySem.Str} {k : Int} (h0 : 0 ≤ k) (h1 : k ≤ (x.length : Int)) : (Txt.slice x (some k) (some (k + (y.length : Int))) == y) = (sg y).isPrefixOf ((sg x).drop k.toNat) := by
  rw [Bool.eq_iff_iff, beq_iff_eq, List.isPrefixOf_iff_prefix, List.prefix_iff_eq_take, sg_length]
  constructor
  · intro e
    have := congrArg sg e
    rw [sg_slice x h0 h1] at this
    exact this.symm
  · intro e
    exact sg_inj (by rw [sg_slice x h0 h1]; exact e.symm)

theorem drop_at {x : PySem.Str} {k : Int} (h0 : 0 ≤ k) (h1 : k < (x.length : Int)) : ∃ c, (sg x).drop k.toNat = c :: (sg x).drop (k + 1).toNat ∧ Txt.item x k = ⟨#[c]⟩ ∧ c ∈ sg x := by
  have hlt : k.toNat < (sg x).length := by rw [sg_length]; omega
  refine ⟨(sg x)[k.toNat], ?_, ?_, List.getElem_mem hlt⟩
  · rw [List.drop_eq_getElem_cons hlt, show (k + 1).toNat = k.toNat + 1 from by omega]
  · refine item_meets h0 ?_
    have : k.toNat < x.cps.size := by simpa [sg] using hlt
    simp [sg]
theorem in_text (z : PySem.Str) (c : Nat) : (occurrences z ⟨#[c]⟩ 0 z.length 1).isEmpty = !decide (c ∈ sg z) := by
  rw [← found_one, Bool.not_not]
theorem in_aA (c : Nat) : (occurrences (PySem.Str.ofString "aA") ⟨#[c]⟩ 0 (PySem.Str.ofString "aA").length 1).isEmpty = !isA c := by
  rw [in_text, show sg (PySem.Str.ofString "aA") = [97, 65] from by decide +kernel]
  congr 1
  simp only [List.mem_cons, List.not_mem_nil, or_false, isA]
  rw [Bool.eq_iff_iff]; simp
theorem in_bB (c : Nat) : (occurrences (PySem.Str.ofString "bB") ⟨#[c]⟩ 0 (PySem.Str.ofString "bB").length 1).isEmpty = !isB c := by
  rw [in_text, show sg (PySem.Str.ofString "bB") = [98, 66] from by decide +kernel]
  congr 1
  simp only [List.mem_cons, List.not_mem_nil, or_false, isB]
  rw [Bool.eq_iff_iff]; simp
theorem in_white (c : Nat) : (occurrences (PySem.Str.ofString " \t") ⟨#[c]⟩ 0 (PySem.Str.ofString " \t").length 1).isEmpty = !isW c := by
  rw [in_text, show sg (PySem.Str.ofString " \t") = [32, 9] from by decide +kernel]
  congr 1
  simp only [List.mem_cons, List.not_mem_nil, or_false, isW]
  rw [Bool.eq_iff_iff]; simp

/-- what holds between the turns of by_mark's while -/
def BmInv (x y : PySem.Str) (k : Int) (out : PySem.Str) (first : Bool) : Prop :=
  0 ≤ k ∧ k ≤ (x.length : Int) ∧ (out.length : Int) = k ∧ sg out ++ bm (sg y) first ((sg x).drop k.toNat) = bm (sg y) true (sg x)
theorem bmInv_start (x y : PySem.Str) : BmInv x y 0 (PySem.Str.ofString "") true :=
  ⟨Int.le_refl _, by omega, by decide +kernel, by rw [show sg (PySem.Str.ofString "") = [] from by decide +kernel]; simp⟩
theorem bmInv_mark {x y : PySem.Str} {k : Int} {out : PySem.Str} {first : Bool} (hy : 1 ≤ y.length) (h : BmInv x y k out first)
    (hs : (Txt.slice x (some k) (some (k + (y.length : Int))) == y) = true) : BmInv x y (k + (y.length : Int)) (out ++ y) true := by
  obtain ⟨h0, h1, h2, h3⟩ := h
  rw [slice_is h0 h1] at hs
  have hr := prefix_room hy hs
  refine ⟨by omega, by omega, by rw [PySem.Str.length_append]; omega, ?_⟩
  rw [← h3, sg_append, List.append_assoc]
  congr 1
  have hY : sg y ≠ [] := by
    intro e
    have := sg_length y
    rw [e] at this; simp at this; omega
  have hd : (sg x).drop (k + (y.length : Int)).toNat = ((sg x).drop k.toNat).drop (sg y).length := by
    rw [List.drop_drop, sg_length]; congr 1; omega
  generalize (sg x).drop k.toNat = Z at hs hd ⊢
  cases Z with
  | nil => exact absurd hs (by cases h : sg y with | nil => exact absurd h hY | cons a b => simp)
  | cons c r => rw [bm_cons, if_pos hs, hd, drop_cons_len hY]
theorem bmInv_sign {x y : PySem.Str} {k : Int} {out z : PySem.Str} {first : Bool} (h : BmInv x y k out first) (hk : k < (x.length : Int))
    (hs : (Txt.slice x (some k) (some (k + (y.length : Int))) == y) = false) (hz : ∀ c, Txt.item x k = ⟨#[c]⟩ → z = ⟨#[upC first c]⟩) : BmInv x y (k + 1) (out ++ z) false := by
  obtain ⟨h0, h1, h2, h3⟩ := h
  rw [slice_is h0 h1] at hs
  obtain ⟨c, hd, hi, _⟩ := drop_at h0 hk
  have hz' := hz c hi
  subst hz'
  refine ⟨by omega, by omega, by rw [PySem.Str.length_append, show (⟨#[upC first c]⟩ : PySem.Str).length = 1 from rfl]; omega, ?_⟩
  rw [← h3, sg_append, List.append_assoc, hd, bm_cons]
  rw [hd] at hs
  rw [if_neg (by rw [hs]; decide)]
  rfl
theorem item_one {c d : Nat} (h : (⟨#[c]⟩ : PySem.Str) = ⟨#[d]⟩) : c = d := by
  injection h with h; simpa using h
theorem sign_a {x : PySem.Str} {k : Int} {first : Bool} {z : PySem.Str} (h : (occurrences (PySem.Str.ofString "aA") (Txt.item x k) 0 (PySem.Str.ofString "aA").length 1).isEmpty = false)
    (hz : z = ⟨#[if first then 65 else 97]⟩) : ∀ c, Txt.item x k = ⟨#[c]⟩ → z = ⟨#[upC first c]⟩ := fun c e => by
  rw [e, in_aA] at h
  have : isA c = true := by simpa using h
  rw [hz]; unfold upC; rw [if_pos this]
theorem sign_b {x : PySem.Str} {k : Int} {first : Bool} {z : PySem.Str} (h' : (occurrences (PySem.Str.ofString "aA") (Txt.item x k) 0 (PySem.Str.ofString "aA").length 1).isEmpty = true)
    (h : (occurrences (PySem.Str.ofString "bB") (Txt.item x k) 0 (PySem.Str.ofString "bB").length 1).isEmpty = false)
    (hz : z = ⟨#[if first then 66 else 98]⟩) : ∀ c, Txt.item x k = ⟨#[c]⟩ → z = ⟨#[upC first c]⟩ := fun c e => by
  rw [e, in_bB] at h
  rw [e, in_aA] at h'
  have hb : isB c = true := by simpa using h
  have ha : isA c = false := by simpa using h'
  rw [hz]; unfold upC; simp only [ha, hb, Bool.false_eq_true, if_false, if_true]
theorem sign_o {x : PySem.Str} {k : Int} {first : Bool} (h' : (occurrences (PySem.Str.ofString "aA") (Txt.item x k) 0 (PySem.Str.ofString "aA").length 1).isEmpty = true)
    (h : (occurrences (PySem.Str.ofString "bB") (Txt.item x k) 0 (PySem.Str.ofString "bB").length 1).isEmpty = true) : ∀ c, Txt.item x k = ⟨#[c]⟩ → Txt.item x k = ⟨#[upC first c]⟩ := fun c e => by
  rw [e, in_bB] at h
  rw [e, in_aA] at h'
  have hb : isB c = false := by simpa using h
  have ha : isA c = false := by simpa using h'
  rw [e]; unfold upC; rw [if_neg (by rw [ha]; decide), if_neg (by rw [hb]; decide)]
theorem bmInv_end {x y : PySem.Str} {k : Int} {out : PySem.Str} {first : Bool} (h : BmInv x y k out first) (hk : ¬ k < (x.length : Int)) : out = byMark x y := by
  obtain ⟨h0, h1, h2, h3⟩ := h
  rw [List.drop_of_length_le (by rw [sg_length]; omega), bm_nil, List.append_nil] at h3
  exact sg_inj (by rw [h3]; exact (sg_mk _).symm)

/-- what holds between the law's turns -/
structure Inv (text told base : PySem.Str) (q : Bool) : Prop where
  is : base = if q then sqz text else text
  same : low told = low base
  nine : Nine told
  len : told.length ≤ 64
theorem inv_start {text : PySem.Str} (hn : Nine text) (hl : text.length ≤ 64) : Inv text text text false := ⟨rfl, rfl, hn, hl⟩
theorem inv_some {text told base y : PySem.Str} {q : Bool} (hy : Mark y) (h : Inv text told base q) : capW told (some y) = byMark base y ∧ Inv text (capW told (some y)) base q := by
  have e : capW told (some y) = byMark base y := (capW_some h.nine hy.nine hy.pos).trans (byMark_low hy h.same)
  refine ⟨e, h.is, ?_, ?_, ?_⟩
  · rw [e, low_byMark hy]
  · rw [capW_some h.nine hy.nine hy.pos]; exact nine_byMark h.nine hy
  · rw [capW_some h.nine hy.nine hy.pos, len_byMark hy]; exact h.len
theorem low_base_sqz {text told base : PySem.Str} {q : Bool} (h : Inv text told base q) : low (sqz told) = low (sqz text) := by
  have h1 := h.same
  rw [h.is] at h1
  cases q
  · exact low_sqz_of h1
  · exact low_sqz_sqz h1
theorem inv_none {text told base : PySem.Str} {q : Bool} (h : Inv text told base q) : capW told none = byMark (sqz text) blank ∧ Inv text (capW told none) (sqz text) true := by
  have e : capW told none = byMark (sqz text) blank := (capW_none h.nine).trans (byMark_low mark_blank (low_base_sqz h))
  refine ⟨e, rfl, ?_, ?_, ?_⟩
  · rw [e, low_byMark mark_blank]
  · rw [capW_none h.nine]; exact nine_byMark (nine_sqz h.nine) mark_blank
  · rw [capW_none h.nine, len_byMark mark_blank]; exact Nat.le_trans (len_sqz told) h.len
/-- the end: two calls do what all did -/
theorem inv_end_some {text told base y : PySem.Str} {q : Bool} (hn : Nine text) (hy : Mark y) (h : Inv text told base q) (he : told = byMark base y) : capW (if q then capW text none else text) (some y) = told := by
  have hl : low (if q then capW text none else text) = low base := by
    rw [h.is]
    cases q
    · rfl
    · show low (capW text none) = low (sqz text)
      rw [capW_none hn, low_byMark mark_blank]
  have hN : Nine (if q then capW text none else text) := by
    cases q
    · exact hn
    · show Nine (capW text none)
      rw [capW_none hn]; exact nine_byMark (nine_sqz hn) mark_blank
  rw [he, capW_some hN hy.nine hy.pos]
  exact byMark_low hy hl
theorem inv_end_none {text told base : PySem.Str} (hn : Nine text) (h : Inv text told base true) (he : told = byMark base blank) : capW (capW text none) none = told := by
  have hN : Nine (capW text none) := by rw [capW_none hn]; exact nine_byMark (nine_sqz hn) mark_blank
  rw [he, h.is, capW_none hN]
  refine byMark_low mark_blank (low_sqz_sqz ?_)
  rw [capW_none hn, low_byMark mark_blank]

/-- what holds between the turns of squeezed's for -/
def SqInv (x : PySem.Str) (n : Nat) (out : PySem.Str) (gap : Bool) : Prop :=
  out.length + (if gap then 1 else 0) ≤ n ∧ sg out ++ sq (!(sg out).isEmpty) gap ((sg x).drop n) = sq false false (sg x)
theorem sqInv_start (x : PySem.Str) : SqInv x 0 (PySem.Str.ofString "") false :=
  ⟨by decide +kernel, by rw [show sg (PySem.Str.ofString "") = [] from by decide +kernel]; simp⟩
theorem white_is {n : Nat} {b : Bool} (h : (occurrences (PySem.Str.ofString " \t") ⟨#[n]⟩ 0 (PySem.Str.ofString " \t").length 1).isEmpty = b) : isW n = !b := by
  rw [in_white] at h; rw [← h, Bool.not_not]
theorem empty_is {out : PySem.Str} {b : Bool} (h : (out != PySem.Str.ofString "") = b) : (!(sg out).isEmpty) = b := by
  rw [← h, bne, Bool.eq_iff_iff]
  simp only [Bool.not_eq_eq_eq_not, Bool.not_true]
  rw [← Bool.not_eq_true, ← Bool.not_eq_true, List.isEmpty_iff, beq_iff_eq]
  constructor
  · intro h1 h2; apply h1; rw [h2]; decide +kernel
  · intro h1 h2; apply h1; exact sg_inj (by rw [h2]; decide +kernel)
theorem sqInv_white {x out : PySem.Str} {k n : Nat} {gap : Bool} {post : List Nat} (h : SqInv x k out gap) (hd : (sg x).drop k = n :: post) (hd' : (sg x).drop (k + 1) = post) (hw : isW n = true) : SqInv x (k + 1) out true := by
  obtain ⟨h1, h2⟩ := h
  refine ⟨?_, ?_⟩
  · simp only [if_true]
    cases gap <;> simp at h1 <;> omega
  · rw [hd'] ; rw [hd] at h2
    simp only [sq, hw, if_true] at h2
    exact h2
theorem sqInv_gap {x out : PySem.Str} {k n : Nat} {post : List Nat} (h : SqInv x k out true) (hd : (sg x).drop k = n :: post) (hd' : (sg x).drop (k + 1) = post) (hw : isW n = false) (he : (!(sg out).isEmpty) = true) :
    SqInv x (k + 1) (out ++ PySem.Str.ofString " " ++ ⟨#[n]⟩) false := by
  obtain ⟨h1, h2⟩ := h
  have e1 : sg (out ++ PySem.Str.ofString " " ++ ⟨#[n]⟩) = sg out ++ [32, n] := by
    rw [sg_append, sg_append, show sg (PySem.Str.ofString " ") = [32] from by decide +kernel]; simp [sg]
  refine ⟨?_, ?_⟩
  · rw [PySem.Str.length_append, PySem.Str.length_append, show (PySem.Str.ofString " ").length = 1 from by decide +kernel, show (⟨#[n]⟩ : PySem.Str).length = 1 from rfl]
    simp at h1 ⊢; omega
  · rw [e1, hd']; rw [hd, he] at h2
    simp only [sq, hw, Bool.false_eq_true, if_false, Bool.and_self, if_true] at h2
    rw [← h2, show (sg out ++ [32, n]).isEmpty = false from by cases sg out <;> rfl]
    simp
theorem sqInv_sign {x out : PySem.Str} {k n : Nat} {gap : Bool} {post : List Nat} (h : SqInv x k out gap) (hd : (sg x).drop k = n :: post) (hd' : (sg x).drop (k + 1) = post) (hw : isW n = false) (he : (gap && !(sg out).isEmpty) = false) :
    SqInv x (k + 1) (out ++ ⟨#[n]⟩) false := by
  obtain ⟨h1, h2⟩ := h
  have e1 : sg (out ++ ⟨#[n]⟩) = sg out ++ [n] := by
    rw [sg_append]
  refine ⟨?_, ?_⟩
  · rw [PySem.Str.length_append, show (⟨#[n]⟩ : PySem.Str).length = 1 from rfl]
    have : out.length ≤ k := Nat.le_trans (Nat.le_add_right _ _) h1
    simp only [Bool.false_eq_true, if_false]; omega
  · rw [e1, hd']; rw [hd] at h2
    simp only [sq, hw, Bool.false_eq_true, if_false, he, List.nil_append] at h2
    rw [← h2, show (sg out ++ [n]).isEmpty = false from by cases sg out <;> rfl]
    simp
theorem sqInv_end {x out : PySem.Str} {gap : Bool} (h : SqInv x x.length out gap) : out = sqz x := by
  obtain ⟨_, h2⟩ := h
  rw [List.drop_of_length_le (by rw [sg_length]; exact Nat.le_refl _)] at h2
  simp only [sq, List.append_nil] at h2
  exact sg_inj (by rw [h2]; exact (sg_mk _).symm)
theorem codes_cut {x : PySem.Str} {pre post : List Int} {n : Nat} (h : PySem.W.KStt.codes x = pre ++ (n : Int) :: post) :
    pre.length < x.length ∧ (sg x).drop pre.length = n :: (sg x).drop (pre.length + 1) := by
  have hl : pre.length < (sg x).length := by
    have := congrArg List.length h
    rw [PySem.W.KStt.codes_length] at this
    rw [sg_length, this]; simp
  refine ⟨by rw [← sg_length]; exact hl, ?_⟩
  rw [List.drop_eq_getElem_cons hl]
  congr 1
  have e : (PySem.W.KStt.codes x)[pre.length]? = some (n : Int) := by rw [h]; simp
  have e' : (PySem.W.KStt.codes x)[pre.length]? = some (((sg x)[pre.length] : Nat) : Int) := by
    unfold PySem.W.KStt.codes
    rw [List.getElem?_map, List.getElem?_eq_getElem hl]; rfl
  rw [e] at e'
  injection e' with e'
  exact (Int.ofNat.inj e').symm
end Mine
end

section
namespace Mine
open PySem PySem.Builtin PySem.Builtin.Str PySem.StrLaws PyProof.Rows

def signAt (k : Int) : PySem.Str := Txt.item (PySem.Str.ofString "aAbB-_. \t") (k.fmod 9)
theorem signs_sg : sg (PySem.Str.ofString "aAbB-_. \t") = nine := by decide +kernel
theorem signAt_one (k : Int) : ∃ c ∈ nine, signAt k = ⟨#[c]⟩ := by
  have h0 : 0 ≤ k.fmod 9 := Int.fmod_nonneg_of_pos k (by decide)
  have h1 : k.fmod 9 < 9 := Int.fmod_lt_of_pos k (by decide)
  obtain ⟨c, _, hi, hm⟩ := drop_at (x := PySem.Str.ofString "aAbB-_. \t") h0 (by rw [show (PySem.Str.ofString "aAbB-_. \t").length = 9 from by decide +kernel]; exact h1)
  rw [signs_sg] at hm
  exact ⟨c, hm, hi⟩
theorem signAt_len (k : Int) : (signAt k).length = 1 := by
  obtain ⟨c, _, e⟩ := signAt_one k
  rw [e]; rfl
theorem joinL_nine : ∀ (l : List (List Nat)), (∀ a ∈ l, ∀ c ∈ a, c ∈ nine) → ∀ c ∈ joinL [] l, c ∈ nine
  | [], _, c, hc => by cases hc
  | [a], h, c, hc => h a (.head _) c hc
  | a :: b :: r, h, c, hc => by
    simp only [joinL, List.append_nil] at hc
    rcases List.mem_append.mp hc with hc | hc
    · exact h a (.head _) c hc
    · exact joinL_nine (b :: r) (fun d hd => h d (.tail _ hd)) c hc
theorem nine_text (ds : List Int) : Nine (Txt.join (PySem.Str.ofString "") (ds.map signAt)) := by
  unfold Nine
  rw [sg_txtjoin, show sg (PySem.Str.ofString "") = [] from by decide +kernel]
  refine joinL_nine _ fun a ha => ?_
  obtain ⟨p, hp, rfl⟩ := List.mem_map.mp ha
  obtain ⟨k, _, rfl⟩ := List.mem_map.mp hp
  obtain ⟨c, hc, e⟩ := signAt_one k
  rw [e]
  intro d hd
  have : d = c := by simpa [sg] using hd
  rw [this]; exact hc

/-- the loop's state -/
structure LSt where
  told : PySem.Str
  ttold : Tok
  base : PySem.Str
  tbase : Tok
  q : Bool
  mv : Option (Option PySem.Str × Tok)
def markVal : Option PySem.Str × Tok → Value
  | (none, _) => .none
  | (some y, t) => .str y t
def LInv (X : PySem.Str) (pre : List Int) (c : LSt) : Prop :=
  Inv X c.told c.base c.q ∧ (pre ≠ [] → ∃ mv t, c.mv = some (mv, t) ∧ (∀ y, mv = some y → Mark y) ∧ c.told = byMark c.base (mv.getD blank) ∧ (mv = none → c.q = true))
theorem mark1 : Mark (PySem.Str.ofString "-") := ⟨by unfold Nine; decide +kernel, by unfold Still; decide +kernel, by decide +kernel, by decide +kernel⟩
theorem mark2 : Mark (PySem.Str.ofString "_") := ⟨by unfold Nine; decide +kernel, by unfold Still; decide +kernel, by decide +kernel, by decide +kernel⟩
theorem mark3 : Mark (PySem.Str.ofString " ") := ⟨by unfold Nine; decide +kernel, by unfold Still; decide +kernel, by decide +kernel, by decide +kernel⟩
theorem mark4 : Mark (PySem.Str.ofString "-_") := ⟨by unfold Nine; decide +kernel, by unfold Still; decide +kernel, by decide +kernel, by decide +kernel⟩
theorem mark5 : Mark (PySem.Str.ofString "- ") := ⟨by unfold Nine; decide +kernel, by unfold Still; decide +kernel, by decide +kernel, by decide +kernel⟩
theorem mark6 : Mark (PySem.Str.ofString "_-_") := ⟨by unfold Nine; decide +kernel, by unfold Still; decide +kernel, by decide +kernel, by decide +kernel⟩
theorem linv_start {X : PySem.Str} {t t' : Tok} (hn : Nine X) (hl : X.length ≤ 64) : LInv X [] ⟨X, t, X, t', false, none⟩ := ⟨inv_start hn hl, fun h => absurd rfl h⟩
theorem linv_some {X told base y : PySem.Str} {q : Bool} {t t' t'' tt tb : Tok} {pre : List Int} {n : Int} {mk : Option (Option PySem.Str × Tok)} (hy : Mark y) (h : LInv X pre ⟨told, tt, base, tb, q, mk⟩) :
    LInv X (pre ++ [n]) ⟨capW told (some y), t, base, t', q, some (some y, t'')⟩ :=
  ⟨(inv_some hy h.1).2, fun _ => ⟨some y, t'', rfl, fun z hz => by cases hz; exact hy, (inv_some hy h.1).1, fun e => by cases e⟩⟩
theorem linv_none {X told base : PySem.Str} {q : Bool} {t t' t'' tt tb : Tok} {pre : List Int} {n : Int} {mk : Option (Option PySem.Str × Tok)} (h : LInv X pre ⟨told, tt, base, tb, q, mk⟩) :
    LInv X (pre ++ [n]) ⟨capW told none, t, sqz X, t', true, some (none, t'')⟩ :=
  ⟨(inv_none h.1).2, fun _ => ⟨none, t'', rfl, fun z hz => (by cases hz), (inv_none h.1).1, fun _ => rfl⟩⟩
theorem base_len {X told base : PySem.Str} {q : Bool} (hl : X.length ≤ 64) (h : Inv X told base q) : base.length ≤ 64 := by
  rw [h.is]
  cases q
  · exact hl
  · exact Nat.le_trans (len_sqz X) hl
theorem capNone_len {X : PySem.Str} (hn : Nine X) (hl : X.length ≤ 64) : (capW X none).length ≤ 64 := by
  rw [capW_none hn, len_byMark mark_blank]; exact Nat.le_trans (len_sqz X) hl
end Mine
end

section
open PySem PySem.W PyProof.Rows
namespace Mine
set_option maxRecDepth 100000 in
set_option maxHeartbeats 8000000 in
open_top hd for PySem.Challenge.rw_mr0395_01
end Mine
end

section
open PySem PySem.W PySem.Calls PyProof.Rows
namespace Mine
local macro_rules | `(tactic| walk_at "mine Cap 0") => `(tactic| skip)
local macro_rules | `(tactic| walk_at "truthy str") => `(tactic| (refine KXt.truthy_pos (by assumption) (by assumption) (by decide) ?_; intro _))
set_option maxHeartbeats 4000000 in
theorem cap_str {w : World} {A₀ A : Around} {base h₀ : Heap} {env : Env} {outer : List Env} {L : Addr} {m mg mb : PySem.Str → Option Value} {news : List (Addr × Obj)} {mean : ExcName → Option Value} {s : Shared} {Q : Value → Shared → Prop} {E : Value → Shared → Prop}
    {x : PySem.Str} {t : Tok} {y : PySem.Str} {u : Tok}
    (B : Below A₀ base outer h₀) (F : Fr h₀ L s.heap m) (X₀ : (hd.heap_39 w.params).In h₀) (N : News h₀ L s.heap news) (T : Top hd.view_39 (looseW hd.view_39 [Str.ofString "capwords"]) mean mg mb h₀) (hA : A.frames = some (env :: outer)) (hf : env.frame = some L) (hke : env.scope.kind = .function)
    (hroom : A.depth < recursionLimit) (hh : A.handled = none) (hx : x.length ≤ 64) (hy0 : 1 ≤ y.length) (hy : y.length ≤ 8)
    (h : ∀ h' t' k, Fr h₀ L h' m → News h₀ L h' news → Q (.str (capW x (some y)) t') { s with heap := h', toks := k }) :
    wpAny (model Challenge.rw_mr0395_01.row.prog w) A (call (.ref 22) [.str x t, .str y u]) Q E s := by
  revert X₀
  k_fill
  intro X₀
  refine wpAny_call ?_
  refine' code_def B F X₀ N T hA hf hke ?k6 ?k7 hroom ?k9 ?kB ?_ ?c2 ?c3 ?c4 ?c5
  (case k6 => k_is); (case k7 => k_is); (case k9 => first | exact BindsTo.of_eq rfl | exact binds_K (by k_in) rfl (by k_is) rfl rfl rfl | fail "k_enter: no rule for these arguments"); (case c5 => decide); (case kB => exact locs rfl); (case c2 => exact rfl); (case c3 => exact rfl); (case c4 => exact rfl)
  k_whole; intro g' L' h' FG' F' N' B' X' T'; (try dsimp only); (try k_lift B'); (try k_fold)
  k_steps
  refine attr_cap ?_
  k_steps
  refine splitN1 F' N' (by simp only [beq_eq_false_iff_ne, ne_eq]; omega) ?_ (by rw [sizeLine_eq]; omega)
  intro l h1 k1 hl F1 N1
  have hparts : ∀ a ∈ l.map (·.1), a.length ≤ 64 := fun a ha => Nat.le_trans (part_short (hl ▸ ha)) hx
  have hcount : (l.map (·.1)).length ≤ 66 := by rw [hl]; exact split_count hx
  k_steps
  refine map_N F1 N1 ?_
  intro z TI it h2 F2 N2 ne1 ne2 ne3 ne4
  k_steps
  refine join_N hh F2 N2 ne1 ne2 ne3 ne4 (fun a ha => Nat.le_trans (hparts a ha) (by decide)) (joinOk_caps hcount hparts hy) (by rw [List.length_map] at hcount; rw [sizeLine_eq]; omega) ?_
  intro h3 t3 k3 F3 N3
  rw [hl]
  k_steps
  exact h _ _ _ (by assumption) (by assumption)
set_option maxHeartbeats 4000000 in
theorem cap_none {w : World} {A₀ A : Around} {base h₀ : Heap} {env : Env} {outer : List Env} {L : Addr} {m mg mb : PySem.Str → Option Value} {news : List (Addr × Obj)} {mean : ExcName → Option Value} {s : Shared} {Q : Value → Shared → Prop} {E : Value → Shared → Prop}
    {x : PySem.Str} {t : Tok} 
    (B : Below A₀ base outer h₀) (F : Fr h₀ L s.heap m) (X₀ : (hd.heap_39 w.params).In h₀) (N : News h₀ L s.heap news) (T : Top hd.view_39 (looseW hd.view_39 [Str.ofString "capwords"]) mean mg mb h₀) (hA : A.frames = some (env :: outer)) (hf : env.frame = some L) (hke : env.scope.kind = .function)
    (hroom : A.depth < recursionLimit) (hh : A.handled = none) (hx : x.length ≤ 64)
    (h : ∀ h' t' k, Fr h₀ L h' m → News h₀ L h' news → Q (.str (capW x none) t') { s with heap := h', toks := k }) :
    wpAny (model Challenge.rw_mr0395_01.row.prog w) A (call (.ref 22) [.str x t, .none]) Q E s := by
  revert X₀
  k_fill
  intro X₀
  refine wpAny_call ?_
  refine' code_def B F X₀ N T hA hf hke ?k6 ?k7 hroom ?k9 ?kB ?_ ?c2 ?c3 ?c4 ?c5
  (case k6 => k_is); (case k7 => k_is); (case k9 => first | exact BindsTo.of_eq rfl | exact binds_K (by k_in) rfl (by k_is) rfl rfl rfl | fail "k_enter: no rule for these arguments"); (case c5 => decide); (case kB => exact locs rfl); (case c2 => exact rfl); (case c3 => exact rfl); (case c4 => exact rfl)
  k_whole; intro g' L' h' FG' F' N' B' X' T'; (try dsimp only); (try k_lift B'); (try k_fold)
  k_steps
  refine attr_cap ?_
  k_steps
  rename_i l h1 k1 hl _ _ _ F1 N1
  have hparts : ∀ a ∈ l.map (·.1), a.length ≤ 64 := fun a ha => Nat.le_trans (word_short (hl ▸ ha)) hx
  have hcount : (l.map (·.1)).length ≤ 66 := by rw [hl]; exact words_count hx
  k_steps
  refine map_N F1 N1 ?_
  intro z TI it h2 F2 N2 ne1 ne2 ne3 ne4
  k_steps
  refine join_N hh F2 N2 ne1 ne2 ne3 ne4 (fun a ha => Nat.le_trans (hparts a ha) (by decide)) (joinOk_caps hcount hparts (by decide)) (by rw [List.length_map] at hcount; rw [sizeLine_eq]; omega) ?_
  intro h3 t3 k3 F3 N3
  rw [hl]
  k_steps
  exact h _ _ _ (by assumption) (by assumption)
set_option maxHeartbeats 4000000 in
theorem cap_bare {w : World} {A₀ A : Around} {base h₀ : Heap} {env : Env} {outer : List Env} {L : Addr} {m mg mb : PySem.Str → Option Value} {news : List (Addr × Obj)} {mean : ExcName → Option Value} {s : Shared} {Q : Value → Shared → Prop} {E : Value → Shared → Prop}
    {x : PySem.Str} {t : Tok} 
    (B : Below A₀ base outer h₀) (F : Fr h₀ L s.heap m) (X₀ : (hd.heap_39 w.params).In h₀) (N : News h₀ L s.heap news) (T : Top hd.view_39 (looseW hd.view_39 [Str.ofString "capwords"]) mean mg mb h₀) (hA : A.frames = some (env :: outer)) (hf : env.frame = some L) (hke : env.scope.kind = .function)
    (hroom : A.depth < recursionLimit) (hh : A.handled = none) (hx : x.length ≤ 64)
    (h : ∀ h' t' k, Fr h₀ L h' m → News h₀ L h' news → Q (.str (capW x none) t') { s with heap := h', toks := k }) :
    wpAny (model Challenge.rw_mr0395_01.row.prog w) A (call (.ref 22) [.str x t]) Q E s := by
  revert X₀
  k_fill
  intro X₀
  refine wpAny_call ?_
  refine' code_def B F X₀ N T hA hf hke ?k6 ?k7 hroom ?k9 ?kB ?_ ?c2 ?c3 ?c4 ?c5
  (case k6 => k_is); (case k7 => k_is); (case k9 => first | exact BindsTo.of_eq rfl | exact binds_K (by k_in) rfl (by k_is) rfl rfl rfl | fail "k_enter: no rule for these arguments"); (case c5 => decide); (case kB => exact locs rfl); (case c2 => exact rfl); (case c3 => exact rfl); (case c4 => exact rfl)
  k_whole; intro g' L' h' FG' F' N' B' X' T'; (try dsimp only); (try k_lift B'); (try k_fold)
  k_steps
  refine attr_cap ?_
  k_steps
  rename_i l h1 k1 hl _ _ _ F1 N1
  have hparts : ∀ a ∈ l.map (·.1), a.length ≤ 64 := fun a ha => Nat.le_trans (word_short (hl ▸ ha)) hx
  have hcount : (l.map (·.1)).length ≤ 66 := by rw [hl]; exact words_count hx
  k_steps
  refine map_N F1 N1 ?_
  intro z TI it h2 F2 N2 ne1 ne2 ne3 ne4
  k_steps
  refine join_N hh F2 N2 ne1 ne2 ne3 ne4 (fun a ha => Nat.le_trans (hparts a ha) (by decide)) (joinOk_caps hcount hparts (by decide)) (by rw [List.length_map] at hcount; rw [sizeLine_eq]; omega) ?_
  intro h3 t3 k3 F3 N3
  rw [hl]
  k_steps
  exact h _ _ _ (by assumption) (by assumption)
end Mine
end

section
open PySem PySem.W PySem.Calls PyProof.Rows
namespace Mine
local macro_rules | `(tactic| walk_at "mine Mark 0") => `(tactic| skip)
local macro_rules | `(tactic| walk_at "mine Mark 1") => `(tactic| skip)
local macro_rules | `(tactic| walk_at "mine Mark 2") => `(tactic| skip)

def Stop (p : Prop) : Prop := p
theorem stop_out {p : Prop} (h : Stop p) : p := h
theorem stop_in {p : Prop} (h : p) : Stop p := h

structure Hold (p : Prop) : Prop where
  out : p

structure BmSt where
  k : Int
  tk : Tok
  out : PySem.Str
  tout : Tok
  first : Bool

def bmPs (c : BmSt) : List (PySem.Str × Value) := [(Str.ofString "out", .str c.out c.tout), (Str.ofString "first", .bool c.first), (Str.ofString "k", .int c.k c.tk)]

local macro_rules | `(tactic| walk_at "exec While Compare cons nil") => `(tactic| refine stop_out ?_)
set_option maxHeartbeats 4000000 in
theorem mark_str {w : World} {A₀ A : Around} {base h₀ : Heap} {env : Env} {outer : List Env} {L : Addr} {m mg mb : PySem.Str → Option Value} {news : List (Addr × Obj)} {mean : ExcName → Option Value} {s : Shared} {Q : Value → Shared → Prop} {E : Value → Shared → Prop}
    {x y : PySem.Str} {t u : Tok}
    (B : Below A₀ base outer h₀) (F : Fr h₀ L s.heap m) (X₀ : (hd.heap_39 w.params).In h₀) (N : News h₀ L s.heap news) (T : Top hd.view_39 (looseW hd.view_39 [Str.ofString "capwords"]) mean mg mb h₀) (hA : A.frames = some (env :: outer)) (hf : env.frame = some L) (hke : env.scope.kind = .function)
    (hroom : A.depth < recursionLimit) (hh : A.handled = none) (hx : x.length ≤ 64) (hy0 : 1 ≤ y.length) (hy : y.length ≤ 8)
    (h : ∀ h' t' k, Fr h₀ L h' m → News h₀ L h' news → Q (.str (byMark x y) t') { s with heap := h', toks := k }) :
    wpAny (model Challenge.rw_mr0395_01.row.prog w) A (call (.ref 29) [.str x t, .str y u]) Q E s := by
  revert X₀
  k_fill
  intro X₀
  refine wpAny_call ?_
  refine' code_def B F X₀ N T hA hf hke ?k6 ?k7 hroom ?k9 ?kB ?_ ?c2 ?c3 ?c4 ?c5
  (case k6 => k_is); (case k7 => k_is); (case k9 => first | exact BindsTo.of_eq rfl | exact binds_K (by k_in) rfl (by k_is) rfl rfl rfl | fail "k_enter: no rule for these arguments"); (case c5 => decide); (case kB => exact locs rfl); (case c2 => exact rfl); (case c3 => exact rfl); (case c4 => exact rfl)
  k_whole; intro g' L' h' FG' F' N' B' X' T'; (try dsimp only); (try k_lift B'); (try k_fold)
  k_steps
  refine stop_in ?_
  refine' ksw_while (fun _ => news) bmPs (fun _ => True) [] (fun c => BmInv x y c.k c.out c.first) (fun c => x.length - c.k.toNat) (BmSt.mk 0 _ (Str.ofString "") _ true) (by assumption) (by assumption) trivial ?hk ?hp ?_
  case hk =>
    refine List.forall_mem_cons.mpr ⟨?_, List.forall_mem_cons.mpr ⟨?_, List.forall_mem_cons.mpr ⟨?_, List.forall_mem_nil _⟩⟩⟩
    · exact rfl
    · exact rfl
    · exact rfl
  case hp => exact bmInv_start x y
  intro c u1 h1 tk1 _ hP F1 N1
  obtain ⟨k, tk0, out, tout, first⟩ := c
  dsimp only at hP
  have hk0 := hP.1
  have hk1 := hP.2.1
  have hk2 := hP.2.2.1
  replace hP := Hold.mk hP
  dsimp only [bmPs, kstB] at F1
  k_steps
  all_goals first
    | (refine' ksw_end (BmSt.mk _ _ _ _ _) (by assumption) (by assumption) (fun _ h => h) trivial ?hk ?hr ?hp ?hm
       case hk =>
         refine List.forall_mem_cons.mpr ⟨?_, List.forall_mem_cons.mpr ⟨?_, List.forall_mem_cons.mpr ⟨?_, List.forall_mem_nil _⟩⟩⟩
         · exact rfl
         · exact rfl
         · exact rfl
       case hr => intro z h2 h3; simp only [bmPs, List.forall_mem_cons, List.not_mem_nil, false_implies, implies_true, and_true, ne_eq] at h2; simp [h2]
       case hp =>
         first
           | exact bmInv_mark hy0 hP.out (by assumption)
           | exact bmInv_sign hP.out (by assumption) (by assumption) (sign_o (by assumption) (by assumption))
           | exact bmInv_sign hP.out (by assumption) (by assumption) (sign_b (by assumption) (by assumption) (by subst_vars; decide +kernel))
           | exact bmInv_sign hP.out (by assumption) (by assumption) (sign_a (by assumption) (by subst_vars; decide +kernel))
       case hm => dsimp only; omega)
    | (have e := bmInv_end hP.out (by assumption)
       subst e
       exact h _ _ _ (by assumption) (by assumption))
end Mine
end

section
open PySem PySem.W PySem.Calls PyProof.Rows
namespace Mine
local macro_rules | `(tactic| walk_at "mine Sq 0") => `(tactic| skip)
local macro_rules | `(tactic| walk_at "mine Sq 1") => `(tactic| skip)
local macro_rules | `(tactic| walk_at "mine Sq 2") => `(tactic| skip)
local macro_rules | `(tactic| walk_at "mine Sq 3") => `(tactic| skip)
local macro_rules | `(tactic| walk_at "mine Sq 4") => `(tactic| skip)

structure SqSt where
  out : PySem.Str
  tout : Tok
  gap : Bool

def sqPs (c : SqSt) : List (PySem.Str × Value) := [(Str.ofString "out", .str c.out c.tout), (Str.ofString "gap", .bool c.gap)]

local macro_rules | `(tactic| walk_at "exec For Name Name cons nil") => `(tactic| (k_here; (rename Fr _ _ _ _ => lF'); (with_unfolding_all refine' For_invVF lF' ?k1 ?k2 ?_; (case k1 => exact rfl); (case k2 => exact rfl); k_whole)))
local macro_rules | `(tactic| walk_at "pyIter str") => `(tactic| refine stop_out ?_)
set_option maxHeartbeats 4000000 in
theorem sqz_str {w : World} {A₀ A : Around} {base h₀ : Heap} {env : Env} {outer : List Env} {L : Addr} {m mg mb : PySem.Str → Option Value} {news : List (Addr × Obj)} {mean : ExcName → Option Value} {s : Shared} {Q : Value → Shared → Prop} {E : Value → Shared → Prop}
    {x : PySem.Str} {t : Tok}
    (B : Below A₀ base outer h₀) (F : Fr h₀ L s.heap m) (X₀ : (hd.heap_39 w.params).In h₀) (N : News h₀ L s.heap news) (T : Top hd.view_39 (looseW hd.view_39 [Str.ofString "capwords"]) mean mg mb h₀) (hA : A.frames = some (env :: outer)) (hf : env.frame = some L) (hke : env.scope.kind = .function)
    (hroom : A.depth < recursionLimit) (hh : A.handled = none) (hx : x.length ≤ 64)
    (h : ∀ h' t' k, Fr h₀ L h' m → News h₀ L h' news → Q (.str (sqz x) t') { s with heap := h', toks := k }) :
    wpAny (model Challenge.rw_mr0395_01.row.prog w) A (call (.ref 36) [.str x t]) Q E s := by
  revert X₀
  k_fill
  intro X₀
  refine wpAny_call ?_
  refine' code_def B F X₀ N T hA hf hke ?k6 ?k7 hroom ?k9 ?kB ?_ ?c2 ?c3 ?c4 ?c5
  (case k6 => k_is); (case k7 => k_is); (case k9 => first | exact BindsTo.of_eq rfl | exact binds_K (by k_in) rfl (by k_is) rfl rfl rfl | fail "k_enter: no rule for these arguments"); (case c5 => decide); (case kB => exact locs rfl); (case c2 => exact rfl); (case c3 => exact rfl); (case c4 => exact rfl)
  k_whole; intro g' L' h' FG' F' N' B' X' T'; (try dsimp only); (try k_lift B'); (try k_fold)
  k_steps
  refine stop_in ?_
  refine' KStt.kst_text (fun _ => news) sqPs (fun _ => True) [] (fun pre c => SqInv x pre.length c.out c.gap) (SqSt.mk (Str.ofString "") _ false) hh (by assumption) (by assumption) trivial ?hk ?hp ?_ ?_
  case hk =>
    refine List.forall_mem_cons.mpr ⟨?_, List.forall_mem_cons.mpr ⟨?_, List.forall_mem_nil _⟩⟩
    · exact rfl
    · exact rfl
  case hp => exact sqInv_start x
  · intro c pre post n t1 u1 h1 tk1 own hcut hoff _ hP F1 N1
    obtain ⟨out, tout, gap⟩ := c
    dsimp only at hP
    have hk0 : out.length ≤ pre.length := Nat.le_trans (Nat.le_add_right _ _) hP.1
    obtain ⟨hk1, hd⟩ := codes_cut hcut
    replace hP := Hold.mk hP
    dsimp only [sqPs, kstB] at F1
    k_steps
    all_goals
      refine' kst_end (SqSt.mk _ _ _) (by assumption) (by assumption) (fun p hp => List.mem_append_left _ hp) (fun p hp => List.mem_append_right _ hp) rfl trivial ?hk ?hr ?hp
      case hk =>
        refine List.forall_mem_cons.mpr ⟨?_, List.forall_mem_cons.mpr ⟨?_, List.forall_mem_nil _⟩⟩
        · exact rfl
        · exact rfl
      case hr => intro z h1 h2 h3; simp only [sqPs, List.forall_mem_cons, List.not_mem_nil, false_implies, implies_true, and_true, ne_eq] at h2; simp [h1, h2]
      case hp =>
        have hp := hP.out
        show SqInv x (pre ++ [(n : Int)]).length _ _
        rw [List.length_append]
        first
          | exact sqInv_white hp hd rfl (white_is (by assumption))
          | (subst_vars; exact sqInv_gap hp hd rfl (white_is (by assumption)) (empty_is (by assumption)))
          | exact sqInv_sign hp hd rfl (white_is (by assumption)) (by rw [empty_is (by assumption)]; exact Bool.and_false _)
          | exact sqInv_sign hp hd rfl (white_is (by assumption)) (by subst_vars; exact Bool.false_and _)
  · intro c u1 h1 tk1 _ hP F1 N1
    obtain ⟨out, tout, gap⟩ := c
    dsimp only at hP
    dsimp only [sqPs, kstB] at F1
    k_steps
    rw [KStt.codes_length] at hP
    have e := sqInv_end hP
    subst e
    exact h _ _ _ (by assumption) (by assumption)
end Mine
end

section
open PySem PySem.W PySem.Calls PyProof.Rows
namespace Mine
local macro_rules | `(tactic| walk_at "mine Main 0") => `(tactic| skip)
local macro_rules | `(tactic| walk_at "mine Main 1") => `(tactic| skip)
local macro_rules | `(tactic| walk_at "mine Main 2") => `(tactic| skip)
local macro_rules | `(tactic| walk_at "mine Main 3") => `(tactic| skip)
local macro_rules | `(tactic| walk_at "mine Main 4") => `(tactic| skip)
local macro_rules | `(tactic| walk_at "mine Main 5") => `(tactic| skip)
local macro_rules | `(tactic| walk_at "mine Main 6") => `(tactic| skip)
def lPs (X : PySem.Str) (tX : Tok) (c : LSt) : List (PySem.Str × Value) :=
  [(Str.ofString "text", .str X tX), (Str.ofString "told", .str c.told c.ttold), (Str.ofString "base", .str c.base c.tbase), (Str.ofString "squeezed", .bool c.q)] ++ (match c.mv with | none => [] | some v => [(Str.ofString "mark", markVal v)])
theorem loop_ints {prog : Program} {w : World} {A : Around} {E : Value → Shared → Prop} {s : Shared} {env : Env} {h₀ : Heap} {x : PySem.Str} {body : List Stmt} {Q : Flow → Shared → Prop}
    {σ : Type} {l : Addr} {vs : List Value} {ns : List Int} {nn : Nat} {m₀ : PySem.Str → Option Value} (N : News h₀ env.locals s.heap [(l, PySem.W.listOf vs.toArray nn)]) (hi : IntsAre vs ns)
    (ps : σ → List (PySem.Str × Value)) (P : List Int → σ → Prop) (c₀ : σ)
    (hh : A.handled = none) (F : Fr h₀ env.locals s.heap m₀) (hk : ∀ p ∈ ps c₀, m₀ p.1 = some p.2) (hp : P [] c₀)
    (turn : ∀ (c : σ) pre post n t (u : PySem.Str → Option Value) h tk own, ns = pre ++ n :: post → n ∈ ns → P pre c →
      Fr h₀ env.locals h (fun y => if y = x then some (.int n t) else kstB (fun z => if ([] : List PySem.Str).contains z then u z else m₀ z) (ps c) y) → News h₀ env.locals h ([(l, PySem.W.listOf vs.toArray nn)] ++ own) →
      wpAny (model prog w) A (execs body env) (InvPostN h₀ env.locals (KstS (fun _ => [(l, PySem.W.listOf vs.toArray nn)]) ps (fun _ => True) x [] m₀ P (pre ++ [n])) own [l] { s with heap := h, toks := tk } Q) E { s with heap := h, toks := tk })
    (done : ∀ (c : σ) (u : PySem.Str → Option Value) h tk, P ns c → Fr h₀ env.locals h (fun y => if y = x then u y else kstB (fun z => if ([] : List PySem.Str).contains z then u z else m₀ z) (ps c) y) → News h₀ env.locals h [(l, PySem.W.listOf vs.toArray nn)] → Q .next { s with heap := h, toks := tk }) :
    wpAny (model prog w) A (pyIter (.ref l)) (fun it s₂ => LoopAtV prog w A h₀ env x body Q E it s₂) E s :=
  kst_listL (fun _ => [(l, PySem.W.listOf vs.toArray nn)]) ps (fun _ => True) [] P c₀ hh (fun _ => .head _) hi F N trivial hk hp
    (fun c pre post n t u h tk own e1 e2 _ _ e5 e6 e7 => turn c pre post n t u h tk own e1 e2 e5 e6 e7) (fun c u h tk _ e2 e3 e4 => done c u h tk e2 e3 e4)
local macro_rules | `(tactic| walk_at "eval ListComp") => `(tactic| ((with_reducible show wpAny _ _ (eval (Expr.ListComp (Expr.Subscript _ _ _) _ _ _) _) _ _ _); refine stop_out ?_))
local macro_rules | `(tactic| walk_at "exec For Name Subscript cons nil") => `(tactic| (k_here; (rename Fr _ _ _ _ => lF'); (with_unfolding_all refine' For_invVF lF' ?k1 ?k2 ?_; (case k1 => exact rfl); (case k2 => exact rfl); k_whole)))
local macro_rules | `(tactic| walk_at "pyIter ref") => `(tactic| refine stop_out ?_)
local macro_rules | `(tactic| walk_at "call builtin:str.join") => `(tactic| refine stop_out ?_)
local macro_rules | `(tactic| walk_at "call ref") => `(tactic| (k_here; first
  | (refine cap_none (by k_asm) (by k_asm) (by k_asm) (by k_asm) (by k_asm) rfl rfl rfl (by k_room) rfl (by assumption) ?_; intro h' t' k' F' N'; (try k_sweep))
  | (refine cap_str (by k_asm) (by k_asm) (by k_asm) (by k_asm) (by k_asm) rfl rfl rfl (by k_room) rfl (by assumption) (by first | assumption | decide +kernel) (by first | assumption | decide +kernel) ?_; intro h' t' k' F' N'; (try k_sweep))
  | (refine cap_bare (by k_asm) (by k_asm) (by k_asm) (by k_asm) (by k_asm) rfl rfl rfl (by k_room) rfl (by assumption) ?_; intro h' t' k' F' N'; (try k_sweep))
  | (refine sqz_str (by k_asm) (by k_asm) (by k_asm) (by k_asm) (by k_asm) rfl rfl rfl (by k_room) rfl (by assumption) ?_; intro h' t' k' F' N'; (try k_sweep))
  | (refine mark_str (by k_asm) (by k_asm) (by k_asm) (by k_asm) (by k_asm) rfl rfl rfl (by k_room) rfl (by assumption) (by first | assumption | decide +kernel) (by first | assumption | decide +kernel) ?_; intro h' t' k' F' N'; (try k_sweep))))
local macro_rules | `(tactic| walk_at "subscriptTail") => `(tactic| ((with_reducible show wpAny _ _ (subscriptTail (Expr.List _ _) _ (Value.ref _) (Value.int _ _)) _ _ _); refine stop_out ?_))
theorem env_locals (n : PySem.Str) (sc : Scope) (L a : Addr) (cd : Value) : (envOf n sc L a cd).locals = L := rfl
theorem ne_same {prog : Program} {w : World} {A : Around} {E : Value → Shared → Prop} {s : Shared} {x y : PySem.Str} {t u : Tok} {Q : Value → Shared → Prop} (e : x = y) (h : Q (.bool false) s) : wpAny (model prog w) A (compareOp .NotEq (.str x t) (.str y u)) Q E s :=
  PyProof.Rows.ne_str (by rw [show (x != y) = false from by rw [e]; simp]; exact h)
theorem eq_same {prog : Program} {w : World} {A : Around} {E : Value → Shared → Prop} {s : Shared} {x y : PySem.Str} {t u : Tok} {Q : Value → Shared → Prop} (e : x = y) (h : Q (.bool true) s) : wpAny (model prog w) A (compareOp .Eq (.str x t) (.str y u)) Q E s :=
  PyProof.Rows.eq_str (by rw [show (x == y) = true from by rw [e]; simp]; exact h)
local macro_rules | `(tactic| walk_at "compareOp NotEq str str") => `(tactic| refine ne_same (by assumption) ?_)
local macro_rules | `(tactic| walk_at "compareOp Eq str str") => `(tactic| refine eq_same (by assumption) ?_)
theorem hide_ints {ws : List Value} {ns : List Int} (h : IntsAre ws (List.map (fun k => k.fmod 1000000) (List.take 10 ns) ++ [11, 46, 4, 27, 25, 8, 3])) :
    ∃ ds : List Int, 7 ≤ ds.length ∧ ds.length ≤ 17 ∧ (∀ d ∈ ds, 0 ≤ d ∧ d < 1000000) ∧ IntsAre ws ds := by
  refine ⟨_, ?_, ?_, ?_, h⟩
  · simp
  · simp; omega
  · intro d hd
    rcases List.mem_append.mp hd with hd | hd
    · obtain ⟨k, _, rfl⟩ := List.mem_map.mp hd
      exact ⟨Int.fmod_nonneg_of_pos k (by decide), Int.fmod_lt_of_pos k (by decide)⟩
    · exact (by decide : ∀ d ∈ ([11, 46, 4, 27, 25, 8, 3] : List Int), 0 ≤ d ∧ d < 1000000) d hd
theorem news_head {h₀ h : Heap} {L : Addr} {a : Addr × Obj} {r : List (Addr × Obj)} (N : News h₀ L h (a :: r)) : News h₀ L h [a] := fun p hp => N p (by rw [List.mem_singleton.mp hp]; exact .head _)
set_option maxHeartbeats 8000000 in
theorem law_holds : PySem.Challenge.rw_mr0395_01.Holds := hd (by
  w_strict (
    k_go0; (all_goals try k_fold); k_steps
    rename IntsAre _ (List.map _ _ ++ _) => hI
    obtain ⟨ds, hd7, hd17, hdb, hI2⟩ := hide_ints hI
    clear hI
    rename News _ _ _ _ => N0
    replace N0 := news_head N0
    refine stop_in ?_
    refine LCg.ListComp_U (F₀ := by k_asm) (by with_unfolding_all rfl) (by decide) (by rfl) (by decide) (by rfl) ?_
    walk1
    refine LCg.CompSrc.ledger (by rfl) (by k_asm) (by k_asm) (by k_mem) (by kcf_size) ?_
    intro g'
    refine' kct_list signAt hI2 (fun k' t' I' oI' C' oC' D' m' ys' h' tk' E' hk' hC' hx' F' N' off' ne' hMark' => ?_) ?_
    · k_steps
      refine LCg.CompEnd.intro (by assumption) (by assumption) _ (by kcf_all) off' (by first | lcg_src | assumption) ?_
      exact ⟨rfl, _, rfl⟩
    unfold KPfDone
    intro zs hzs hzl D1 h1 tk1 F1 N1 hoff1
    k_steps
    refine stop_in ?_
    refine KT.join_1 (News.isList N1 (.head _)) hzs (fun a _ => signAt_len a) (by omega) ?_
    intro tX kX hlen
    have hN := nine_text ds
    have hL : (Txt.join (PySem.Str.ofString "") (List.map signAt ds)).length ≤ 64 := by omega
    clear hlen
    generalize Txt.join (PySem.Str.ofString "") (List.map signAt ds) = X at hN hL ⊢
    replace N1 : News _ _ _ [_] := fun p hp => N1 p (.tail _ hp)
    k_steps
    rename IntsAre _ (List.take 5 ds) => hI5
    rename News _ _ _ _ => N5
    replace N5 := news_head N5
    refine stop_in ?_
    refine' loop_ints N5 hI5 (lPs X tX) (LInv X) (LSt.mk X tX X tX false none) rfl (by assumption) ?hk (linv_start hN hL) ?_ ?_
    case hk =>
      refine List.forall_mem_cons.mpr ⟨?_, List.forall_mem_cons.mpr ⟨?_, List.forall_mem_cons.mpr ⟨?_, List.forall_mem_cons.mpr ⟨?_, List.forall_mem_nil _⟩⟩⟩⟩
      · exact rfl
      · exact rfl
      · exact rfl
      · exact rfl
    · intro c pre post n tn u1 h2 tk2 own hcut hmem hP F2 N2
      obtain ⟨told, ttold, base, tbase, q, mv⟩ := c
      have hn := hdb n (List.mem_of_mem_take hmem)
      have ht := hP.1.len
      have hb := base_len hL hP.1
      have hs := Nat.le_trans (len_sqz X) hL
      replace hP := Hold.mk hP
      dsimp only at ht hb
      dsimp only [lPs, kstB, List.cons_append, List.nil_append, env_locals] at F2 N2
      k_steps
      refine stop_in ?_
      rename Fr _ _ _ _ => F3
      rename News _ _ _ _ => N3
      have i0 : 0 ≤ (n.fdiv 9).fmod 7 := Int.fmod_nonneg_of_pos _ (by decide)
      have i1 : (n.fdiv 9).fmod 7 < 7 := Int.fmod_lt_of_pos _ (by decide)
      generalize (n.fdiv 9).fmod 7 = j at i0 i1 ⊢
      have hj : j = 0 ∨ j = 1 ∨ j = 2 ∨ j = 3 ∨ j = 4 ∨ j = 5 ∨ j = 6 := by omega
      rcases hj with rfl | rfl | rfl | rfl | rfl | rfl | rfl
      · refine' tail_any (Heap.IsList.typeIs (News.isList N3 (.head _))) slot_list_getitem.lookup (wpAny_getItem_list (x := .none) (News.isList N3 (.head _)) (by decide) (by decide) rfl ?_) (by with_unfolding_all rfl)
        replace N3 : News _ _ _ (_ :: own) := fun p hp => N3 p (.tail _ hp)
        have heq : capW told none = byMark (sqz X) (Str.ofString " ") := (inv_none hP.out.1).1
        k_steps
        refine' kst_end (LSt.mk (capW told none) _ (sqz X) _ true (some (none, 0))) (by assumption) (by assumption) (fun p hp => by rw [List.mem_singleton.mp hp]; exact .head _) (fun p hp => .tail _ hp) rfl trivial ?hk ?hr (linv_none hP.out)
        case hk =>
          refine List.forall_mem_cons.mpr ⟨?_, List.forall_mem_cons.mpr ⟨?_, List.forall_mem_cons.mpr ⟨?_, List.forall_mem_cons.mpr ⟨?_, List.forall_mem_cons.mpr ⟨?_, List.forall_mem_nil _⟩⟩⟩⟩⟩
          · exact rfl
          · exact rfl
          · exact rfl
          · exact rfl
          · exact rfl
        case hr =>
          intro z e1 e2 e3
          simp only [lPs, List.cons_append, List.nil_append, List.forall_mem_cons, List.not_mem_nil, false_implies, implies_true, and_true, ne_eq] at e2
          cases mv <;> simp [e1, e2, kstB]
      · refine' tail_any (Heap.IsList.typeIs (News.isList N3 (.head _))) slot_list_getitem.lookup (wpAny_getItem_list (x := .str (Str.ofString "-") _) (News.isList N3 (.head _)) (by decide) (by decide) rfl ?_) (by with_unfolding_all rfl)
        replace N3 : News _ _ _ (_ :: own) := fun p hp => N3 p (.tail _ hp)
        have heq : capW told (some (Str.ofString "-")) = byMark base (Str.ofString "-") := (inv_some mark1 hP.out.1).1
        k_steps
        refine' kst_end (LSt.mk (capW told (some (Str.ofString "-"))) _ base _ q (some (some (Str.ofString "-"), _))) (by assumption) (by assumption) (fun p hp => by rw [List.mem_singleton.mp hp]; exact .head _) (fun p hp => .tail _ hp) rfl trivial ?hk ?hr (linv_some mark1 hP.out)
        case hk =>
          refine List.forall_mem_cons.mpr ⟨?_, List.forall_mem_cons.mpr ⟨?_, List.forall_mem_cons.mpr ⟨?_, List.forall_mem_cons.mpr ⟨?_, List.forall_mem_cons.mpr ⟨?_, List.forall_mem_nil _⟩⟩⟩⟩⟩
          · exact rfl
          · exact rfl
          · exact rfl
          · exact rfl
          · exact rfl
        case hr =>
          intro z e1 e2 e3
          simp only [lPs, List.cons_append, List.nil_append, List.forall_mem_cons, List.not_mem_nil, false_implies, implies_true, and_true, ne_eq] at e2
          cases mv <;> simp [e1, e2, kstB]
      · refine' tail_any (Heap.IsList.typeIs (News.isList N3 (.head _))) slot_list_getitem.lookup (wpAny_getItem_list (x := .str (Str.ofString "_") _) (News.isList N3 (.head _)) (by decide) (by decide) rfl ?_) (by with_unfolding_all rfl)
        replace N3 : News _ _ _ (_ :: own) := fun p hp => N3 p (.tail _ hp)
        have heq : capW told (some (Str.ofString "_")) = byMark base (Str.ofString "_") := (inv_some mark2 hP.out.1).1
        k_steps
        refine' kst_end (LSt.mk (capW told (some (Str.ofString "_"))) _ base _ q (some (some (Str.ofString "_"), _))) (by assumption) (by assumption) (fun p hp => by rw [List.mem_singleton.mp hp]; exact .head _) (fun p hp => .tail _ hp) rfl trivial ?hk ?hr (linv_some mark2 hP.out)
        case hk =>
          refine List.forall_mem_cons.mpr ⟨?_, List.forall_mem_cons.mpr ⟨?_, List.forall_mem_cons.mpr ⟨?_, List.forall_mem_cons.mpr ⟨?_, List.forall_mem_cons.mpr ⟨?_, List.forall_mem_nil _⟩⟩⟩⟩⟩
          · exact rfl
          · exact rfl
          · exact rfl
          · exact rfl
          · exact rfl
        case hr =>
          intro z e1 e2 e3
          simp only [lPs, List.cons_append, List.nil_append, List.forall_mem_cons, List.not_mem_nil, false_implies, implies_true, and_true, ne_eq] at e2
          cases mv <;> simp [e1, e2, kstB]
      · refine' tail_any (Heap.IsList.typeIs (News.isList N3 (.head _))) slot_list_getitem.lookup (wpAny_getItem_list (x := .str (Str.ofString " ") _) (News.isList N3 (.head _)) (by decide) (by decide) rfl ?_) (by with_unfolding_all rfl)
        replace N3 : News _ _ _ (_ :: own) := fun p hp => N3 p (.tail _ hp)
        have heq : capW told (some (Str.ofString " ")) = byMark base (Str.ofString " ") := (inv_some mark3 hP.out.1).1
        k_steps
        refine' kst_end (LSt.mk (capW told (some (Str.ofString " "))) _ base _ q (some (some (Str.ofString " "), _))) (by assumption) (by assumption) (fun p hp => by rw [List.mem_singleton.mp hp]; exact .head _) (fun p hp => .tail _ hp) rfl trivial ?hk ?hr (linv_some mark3 hP.out)
        case hk =>
          refine List.forall_mem_cons.mpr ⟨?_, List.forall_mem_cons.mpr ⟨?_, List.forall_mem_cons.mpr ⟨?_, List.forall_mem_cons.mpr ⟨?_, List.forall_mem_cons.mpr ⟨?_, List.forall_mem_nil _⟩⟩⟩⟩⟩
          · exact rfl
          · exact rfl
          · exact rfl
          · exact rfl
          · exact rfl
        case hr =>
          intro z e1 e2 e3
          simp only [lPs, List.cons_append, List.nil_append, List.forall_mem_cons, List.not_mem_nil, false_implies, implies_true, and_true, ne_eq] at e2
          cases mv <;> simp [e1, e2, kstB]
      · refine' tail_any (Heap.IsList.typeIs (News.isList N3 (.head _))) slot_list_getitem.lookup (wpAny_getItem_list (x := .str (Str.ofString "-_") _) (News.isList N3 (.head _)) (by decide) (by decide) rfl ?_) (by with_unfolding_all rfl)
        replace N3 : News _ _ _ (_ :: own) := fun p hp => N3 p (.tail _ hp)
        have heq : capW told (some (Str.ofString "-_")) = byMark base (Str.ofString "-_") := (inv_some mark4 hP.out.1).1
        k_steps
        refine' kst_end (LSt.mk (capW told (some (Str.ofString "-_"))) _ base _ q (some (some (Str.ofString "-_"), _))) (by assumption) (by assumption) (fun p hp => by rw [List.mem_singleton.mp hp]; exact .head _) (fun p hp => .tail _ hp) rfl trivial ?hk ?hr (linv_some mark4 hP.out)
        case hk =>
          refine List.forall_mem_cons.mpr ⟨?_, List.forall_mem_cons.mpr ⟨?_, List.forall_mem_cons.mpr ⟨?_, List.forall_mem_cons.mpr ⟨?_, List.forall_mem_cons.mpr ⟨?_, List.forall_mem_nil _⟩⟩⟩⟩⟩
          · exact rfl
          · exact rfl
          · exact rfl
          · exact rfl
          · exact rfl
        case hr =>
          intro z e1 e2 e3
          simp only [lPs, List.cons_append, List.nil_append, List.forall_mem_cons, List.not_mem_nil, false_implies, implies_true, and_true, ne_eq] at e2
          cases mv <;> simp [e1, e2, kstB]
      · refine' tail_any (Heap.IsList.typeIs (News.isList N3 (.head _))) slot_list_getitem.lookup (wpAny_getItem_list (x := .str (Str.ofString "- ") _) (News.isList N3 (.head _)) (by decide) (by decide) rfl ?_) (by with_unfolding_all rfl)
        replace N3 : News _ _ _ (_ :: own) := fun p hp => N3 p (.tail _ hp)
        have heq : capW told (some (Str.ofString "- ")) = byMark base (Str.ofString "- ") := (inv_some mark5 hP.out.1).1
        k_steps
        refine' kst_end (LSt.mk (capW told (some (Str.ofString "- "))) _ base _ q (some (some (Str.ofString "- "), _))) (by assumption) (by assumption) (fun p hp => by rw [List.mem_singleton.mp hp]; exact .head _) (fun p hp => .tail _ hp) rfl trivial ?hk ?hr (linv_some mark5 hP.out)
        case hk =>
          refine List.forall_mem_cons.mpr ⟨?_, List.forall_mem_cons.mpr ⟨?_, List.forall_mem_cons.mpr ⟨?_, List.forall_mem_cons.mpr ⟨?_, List.forall_mem_cons.mpr ⟨?_, List.forall_mem_nil _⟩⟩⟩⟩⟩
          · exact rfl
          · exact rfl
          · exact rfl
          · exact rfl
          · exact rfl
        case hr =>
          intro z e1 e2 e3
          simp only [lPs, List.cons_append, List.nil_append, List.forall_mem_cons, List.not_mem_nil, false_implies, implies_true, and_true, ne_eq] at e2
          cases mv <;> simp [e1, e2, kstB]
      · refine' tail_any (Heap.IsList.typeIs (News.isList N3 (.head _))) slot_list_getitem.lookup (wpAny_getItem_list (x := .str (Str.ofString "_-_") _) (News.isList N3 (.head _)) (by decide) (by decide) rfl ?_) (by with_unfolding_all rfl)
        replace N3 : News _ _ _ (_ :: own) := fun p hp => N3 p (.tail _ hp)
        have heq : capW told (some (Str.ofString "_-_")) = byMark base (Str.ofString "_-_") := (inv_some mark6 hP.out.1).1
        k_steps
        refine' kst_end (LSt.mk (capW told (some (Str.ofString "_-_"))) _ base _ q (some (some (Str.ofString "_-_"), _))) (by assumption) (by assumption) (fun p hp => by rw [List.mem_singleton.mp hp]; exact .head _) (fun p hp => .tail _ hp) rfl trivial ?hk ?hr (linv_some mark6 hP.out)
        case hk =>
          refine List.forall_mem_cons.mpr ⟨?_, List.forall_mem_cons.mpr ⟨?_, List.forall_mem_cons.mpr ⟨?_, List.forall_mem_cons.mpr ⟨?_, List.forall_mem_cons.mpr ⟨?_, List.forall_mem_nil _⟩⟩⟩⟩⟩
          · exact rfl
          · exact rfl
          · exact rfl
          · exact rfl
          · exact rfl
        case hr =>
          intro z e1 e2 e3
          simp only [lPs, List.cons_append, List.nil_append, List.forall_mem_cons, List.not_mem_nil, false_implies, implies_true, and_true, ne_eq] at e2
          cases mv <;> simp [e1, e2, kstB]
    · intro c u1 h2 tk2 hP F2 N2
      obtain ⟨told, ttold, base, tbase, q, mv⟩ := c
      obtain ⟨hInv, hlast⟩ := hP
      obtain ⟨mv', tm, e, hmk, htold, hq⟩ := hlast (by
        have h5 : (List.take 5 ds).length = 5 := by rw [List.length_take]; omega
        intro e; rw [e] at h5; cases h5)
      dsimp only at e hInv htold hq
      subst e
      have hcl := capNone_len hN hL
      cases mv' with
      | none =>
        have hq' := hq rfl
        subst hq'
        have heq : capW (capW X none) none = told := inv_end_none hN hInv htold
        dsimp only [lPs, kstB, List.cons_append, List.nil_append, env_locals, markVal] at F2 N2
        clear hmk htold hq hlast hInv
        k_steps
      | some y =>
        have hy := hmk y rfl
        have hy1 := hy.pos
        have hy8 := hy.short
        have heq := inv_end_some hN hy hInv htold
        dsimp only [lPs, kstB, List.cons_append, List.nil_append, env_locals, markVal] at F2 N2
        clear hmk htold hq hlast hInv hy
        cases q
        · replace heq : capW X (some y) = told := heq
          k_steps
        · replace heq : capW (capW X none) (some y) = told := heq
          k_steps))
end Mine
end

theorem PySem.Challenge.cw_mr0395_01_holds : PySem.Challenge.rw_mr0395_01.Holds :=
  Mine.law_holds
