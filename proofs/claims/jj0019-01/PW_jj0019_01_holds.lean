import PyProof.Rows.All
import Wide.All
import OpenK.AllK
import Wide.FinOn
import Lean
import PySem.Challenge.RW_jj0019_01
set_option Elab.async false
set_option compiler.extract_closed false
section
open PySem PySem.W PyProof.Rows PySem.Calls PySem.Spec Builtin
set_option maxRecDepth 100000
namespace Mine
noncomputable abbrev Led := List (Addr × Obj)
/-! bytearrays -/
noncomputable def baObj (b : Array UInt8) : Obj := { cls := .type "bytearray", data := .bytearray b }
namespace BaF
theorem slot_len : Slot "bytearray" "__len__" "bytearray.__len__" :=
  .of (owner := "bytearray") (n := "__len__") (by rw [typeLookup_type, builtinLookup_eq_fast]; kernel_rfl) (by decide +kernel) (by decide +kernel) (by decide +kernel)
    (by first | exact .inl (by decide +kernel) | exact .inr (by decide +kernel)) (by rw [isSubtype_type]; kernel_rfl)
theorem entry_len : entryFor table "bytearray.__len__" = some Builtin.«bytearray.__len__» := entryFor_of_tree (by kernel_rfl)
theorem args_len (a : Value) : argsOk "bytearray.__len__" ⟨[a], []⟩ := by unfold argsOk; kernel_rfl
theorem slot_item : Slot "bytearray" "__getitem__" "bytearray.__getitem__" :=
  .of (owner := "bytearray") (n := "__getitem__") (by rw [typeLookup_type, builtinLookup_eq_fast]; kernel_rfl) (by decide +kernel) (by decide +kernel) (by decide +kernel)
    (by first | exact .inl (by decide +kernel) | exact .inr (by decide +kernel)) (by rw [isSubtype_type]; kernel_rfl)
theorem entry_item : entryFor table "bytearray.__getitem__" = some Builtin.«bytearray.__getitem__» := entryFor_of_tree (by kernel_rfl)
theorem args_item (a b : Value) : argsOk "bytearray.__getitem__" ⟨[a, b], []⟩ := by unfold argsOk; kernel_rfl
theorem slot_iter : Slot "bytearray" "__iter__" "bytearray.__iter__" :=
  .of (owner := "bytearray") (n := "__iter__") (by rw [typeLookup_type, builtinLookup_eq_fast]; kernel_rfl) (by decide +kernel) (by decide +kernel) (by decide +kernel)
    (by first | exact .inl (by decide +kernel) | exact .inr (by decide +kernel)) (by rw [isSubtype_type]; kernel_rfl)
theorem entry_iter : entryFor table "bytearray.__iter__" = some Builtin.«bytearray.__iter__» := entryFor_of_tree (by kernel_rfl)
theorem args_iter (a : Value) : argsOk "bytearray.__iter__" ⟨[a], []⟩ := by unfold argsOk; kernel_rfl
theorem slot_next : Slot "bytearray_iterator" "__next__" "bytearray_iterator.__next__" :=
  .of (owner := "bytearray_iterator") (n := "__next__") (by rw [typeLookup_type, builtinLookup_eq_fast]; kernel_rfl) (by decide +kernel) (by decide +kernel) (by decide +kernel)
    (by first | exact .inl (by decide +kernel) | exact .inr (by decide +kernel)) (by rw [isSubtype_type]; kernel_rfl)
theorem entry_next : entryFor table "bytearray_iterator.__next__" = some Builtin.«bytearray_iterator.__next__» := entryFor_of_tree (by kernel_rfl)
theorem args_next (a : Value) : argsOk "bytearray_iterator.__next__" ⟨[a], []⟩ := by unfold argsOk; kernel_rfl
theorem slot_self : Slot "bytearray_iterator" "__iter__" "bytearray_iterator.__iter__" :=
  .of (owner := "bytearray_iterator") (n := "__iter__") (by rw [typeLookup_type, builtinLookup_eq_fast]; kernel_rfl) (by decide +kernel) (by decide +kernel) (by decide +kernel)
    (by first | exact .inl (by decide +kernel) | exact .inr (by decide +kernel)) (by rw [isSubtype_type]; kernel_rfl)
theorem entry_self : entryFor table "bytearray_iterator.__iter__" = some Builtin.«dict_keyiterator.__iter__» := entryFor_alias (id' := "dict_keyiterator.__iter__") (by kernel_rfl) rfl (by decide +kernel) (by kernel_rfl)
theorem args_self (a : Value) : argsOk "bytearray_iterator.__iter__" ⟨[a], []⟩ := by unfold argsOk; kernel_rfl
theorem sub_bytes : isSubtype (.type "bytearray") (.type "bytes") = pure false := by rw [isSubtype_type]; kernel_rfl
theorem sub_self : isSubtype (.type "bytearray") (.type "bytearray") = pure true := by rw [isSubtype_type]; kernel_rfl
theorem noBytes : typeLookup (.type "bytearray") "__bytes__" = pure none := by rw [typeLookup_type, builtinLookup_eq_fast]; kernel_rfl
theorem noIndex : typeLookup (.type "bytearray") "__index__" = pure none := by rw [typeLookup_type, builtinLookup_eq_fast]; kernel_rfl
theorem look_buffer : typeLookup (.type "bytearray") "__buffer__" = pure (some (.builtin "bytearray.__buffer__")) := by rw [typeLookup_type, builtinLookup_eq_fast]; kernel_rfl
theorem look_release : typeLookup (.type "bytearray") "__release_buffer__" = pure (some (.builtin "bytearray.__release_buffer__")) := by rw [typeLookup_type, builtinLookup_eq_fast]; kernel_rfl
end BaF
end Mine
end
section
open PySem PySem.W PyProof.Rows PySem.Calls PySem.Spec Builtin
set_option maxRecDepth 100000
namespace Mine
noncomputable def IsBA (h : Heap) (a : Addr) (b : Array UInt8) : Prop := h.get? a = some (baObj b)
theorem IsBA.typeIs {s : Shared} {a : Addr} {b : Array UInt8} (x : IsBA s.heap a b) : s.TypeIs (.ref a) "bytearray" := ⟨_, x, rfl⟩
noncomputable def IsBAIter (h : Heap) (I a : Addr) (i : Nat) : Prop := ∃ o, h.get? I = some o ∧ o.cls = .type "bytearray_iterator" ∧ o.data = .fields #[.ref a, .int i 0]
theorem IsBAIter.typeIs {s : Shared} {I a : Addr} {i : Nat} (y : IsBAIter s.heap I a i) : s.TypeIs (.ref I) "bytearray_iterator" :=
  let ⟨o, ho, hc, _⟩ := y; ⟨o, ho, hc⟩
section
variable {prog : Program} {w : World} {A : Around} {E : Value → Shared → Prop} {s : Shared} {a : Addr} {b : Array UInt8}

theorem ba_pyIter {Q : Value → Shared → Prop} (hb : IsBA s.heap a b)
    (hQ : Q (.ref s.heap.objs.size) { s with heap := s.heap.push { cls := .type "bytearray_iterator", data := .fields #[.ref a, .int 0 0] } }) : wpAny (model prog w) A (pyIter (.ref a)) Q E s := by
  refine wpAny_pyIter_slot hb.typeIs BaF.slot_iter (wpAny_call_entry BaF.slot_iter hb.typeIs BaF.entry_iter ?_ (BaF.args_iter _))
  show wpAny _ _ (do ret (← newFields "bytearray_iterator" [.ref a, rawInt 0])) _ _ s
  exact wpAny_bind (wpAny_newObj_type (wpAny_pure ⟨_, rfl, "bytearray_iterator", _, ⟨_, Heap.get?_push_size _ rfl, rfl⟩, BaF.slot_next.lookup, hQ⟩))
theorem ba_pyIter_self {it : Addr} {i : Nat} {Q : Value → Shared → Prop} (hit : IsBAIter s.heap it a i) (h : Q (.ref it) s) : wpAny (model prog w) A (pyIter (.ref it)) Q E s := by
  refine wpAny_pyIter_slot hit.typeIs BaF.slot_self (wpAny_call_entry BaF.slot_self hit.typeIs BaF.entry_self ?_ (BaF.args_self _))
  show wpAny _ _ (ret (.ref it)) _ _ s
  exact wpAny_pure ⟨_, rfl, "bytearray_iterator", _, hit.typeIs, BaF.slot_next.lookup, h⟩

theorem ba_next_item {it : Addr} {i : Nat} {c : UInt8} {Q : Option Value → Shared → Prop} (hit : IsBAIter s.heap it a i) (hb : IsBA s.heap a b) (hx : b[i]? = some c)
    (hQ : ∀ h', IsBAIter h' it a (i + 1) → Heap.SameBut it s.heap h' → Q (some (.int (c.toNat : Int) s.toks)) { s with heap := h', toks := s.toks + 1 }) : wpAny (model prog w) A (pyNext (.ref it)) Q E s := by
  obtain ⟨o, ho, hc, hd⟩ := id hit
  unfold pyNext
  refine wpAny_bind (wpAny_attempt (wpAny_callSpecial?_slot (name := PySem.Str.ofString "__next__") hit.typeIs BaF.slot_next
    (wpAny_call_entry BaF.slot_next hit.typeIs BaF.entry_next ?_ (BaF.args_next _))))
  show wpAny _ _ (field (.ref it) 0 >>= _) _ _ s
  refine wpAny_bind (wpAny_field ho hd (x := .ref a) rfl ?_)
  show wpAny _ _ (load a >>= _) _ _ s
  refine wpAny_bind (wpAny_load hb ?_)
  show wpAny _ _ (field (.ref it) 1 >>= _) _ _ s
  refine wpAny_bind (wpAny_field ho hd (x := .int i 0) rfl ?_)
  show wpAny _ _ (match b[(i : Int).toNat]? with | some c => _ | none => _) _ _ s
  simp only [Int.toNat_natCast, hx]
  refine wpAny_bind (wpAny_setField ho hd (by simp) (wpAny_bind (wpAny_mkInt (wpAny_pure ⟨_, rfl, wpAny_pure (hQ _ ?_ (Heap.SameBut.update ..))⟩))))
  exact ⟨_, Heap.get?_update_self _ ho (Obj.isFreed_of_fields (Obj.data_mapFields hd _)), (Obj.cls_mapFields ..).trans hc, by
    rw [Obj.data_mapFields hd]; simp [rawInt]⟩

theorem ba_next_end {it : Addr} {i : Nat} {Q : Option Value → Shared → Prop} (hh : A.handled = none) (hit : IsBAIter s.heap it a i) (hb : IsBA s.heap a b) (hx : b[i]? = none)
    (hQ : ∀ h', Heap.ExtBut it s.heap h' → Q none { s with heap := h' }) : wpAny (model prog w) A (pyNext (.ref it)) Q E s := by
  obtain ⟨o, ho, hc, hd⟩ := id hit
  unfold pyNext
  refine wpAny_bind (wpAny_attempt (wpAny_callSpecial?_slot (name := PySem.Str.ofString "__next__") hit.typeIs BaF.slot_next
    (wpAny_call_entry BaF.slot_next hit.typeIs BaF.entry_next ?_ (BaF.args_next _))))
  show wpAny _ _ (field (.ref it) 0 >>= _) _ _ s
  refine wpAny_bind (wpAny_field ho hd (x := .ref a) rfl ?_)
  show wpAny _ _ (load a >>= _) _ _ s
  refine wpAny_bind (wpAny_load hb ?_)
  show wpAny _ _ (field (.ref it) 1 >>= _) _ _ s
  refine wpAny_bind (wpAny_field ho hd (x := .int i 0) rfl ?_)
  show wpAny _ _ (match b[(i : Int).toNat]? with | some c => _ | none => _) _ _ s
  simp only [Int.toNat_natCast, hx]
  refine wpAny_bind (wpAny_rule (wpAny_bind (wpAny_setField ho hd (by simp) (wpAny_bind (wpAny_letGo ?_)))))
  show wpAny _ _ (newExc (.type "StopIteration") [] >>= _) _ _ _
  refine wpAny_bind ?_
  simp only [newExc, newTuple]
  refine wpAny_bind (wpAny_newObj_type ?_ (by size_fits))
  refine wpAny_bind (m := firstArgMember _ _) (wpAny_of_eq (a := Value.none) (by first | rfl | (simp only [firstArgMember]; rfl)) ?_)
  refine wpAny_newObj_type ?_ (by size_fits)
  simp only [raiseNew]
  refine wpAny_bind (wpAny_handled ?_)
  rw [show A.in1.handled = none from hh]
  refine wpAny_bind (wpAny_pure (wpAny_throw ?_))
  refine wpAny_bind (wpAny_isInstance (T := "StopIteration") (b := true) ⟨_, Heap.get?_push_size _ rfl, rfl⟩ isSubtype_stop ?_)
  exact wpAny_pure (hQ _ (((Heap.SameBut.update ..).extBut.push _).push _))

theorem ba_walks (hh : A.handled = none) (I a : Addr) (hne : a ≠ I) (b : Array UInt8) :
    Walks prog w A I [I, a] [I] b.size (fun i v => ∃ c u, b[i]? = some c ∧ v = .int (c.toNat : Int) u) (fun i h => IsBAIter h I a i ∧ IsBA h a b) where
  sub := fun _ hb => by rw [List.mem_singleton.mp hb]; exact .head _
  frame := fun _ _ _ st hk => ⟨let ⟨o, ho, r⟩ := st.1; ⟨o, hk I (.head _) o ho, r⟩, hk a (.tail _ (.head _)) _ st.2⟩
  item := fun i s Q E hi st hQ => by
    refine ba_next_item st.1 st.2 (c := b[i]) (by simp [hi]) fun h' hit' hs' => ?_
    exact hQ _ h' (s.toks + 1) ⟨_, _, by simp [hi], rfl⟩ ⟨hit', (hs'.2 a hne).trans st.2⟩ fun b o hb e => hs'.extBut b o (fun h => hb (by simp [h])) e
  done := fun s Q E st hQ => ba_next_end hh st.1 st.2 (by simp) fun h' he' => hQ h' s.toks fun b o hb e => he' b o (fun h => hb (by simp [h])) e
  self := fun _ _ _ _ st hQ => ba_pyIter_self st.1 hQ

theorem ba_len {Q : Value → Shared → Prop} (hb : IsBA s.heap a b) (hfit : b.size ≤ 1099511627776) (h : Q (.int b.size (s.toks + 1)) { s with toks := s.toks + 1 + 1 }) :
    wpAny (model prog w) A (call (.builtin "len") [.ref a]) Q E s := by
  refine call_len_meets (n := b.size) (S := fun _ R s' => IsBA s'.heap a b ∧ R (.ok (.ret (.int b.size s'.toks))) { s' with toks := s'.toks + 1 }) hb.typeIs BaF.slot_len BaF.entry_len (BaF.args_len _) (fun prog w A R s' hS => ?_) (by omega) (by omega) (fun Q' hq => ⟨hb, hq⟩) h
  show wpAny _ _ (Bytes.payload (.ref a) >>= fun r => _) _ _ _
  refine wpAny_bind (wpAny_bind ?_)
  show wpAny _ _ (load a >>= _) _ _ _
  refine wpAny_bind (wpAny_load hS.1 (wpAny_pure (wpAny_pure ?_)))
  exact wpAny_bind (wpAny_mkInt (wpAny_pure hS.2))

theorem ba_item {l : List UInt8} {i : Int} {u : Tok} {value slice : Expr} {Q : Value → Shared → Prop} (hb : IsBA s.heap a l.toArray) (hfit : l.length ≤ 1099511627776) (h0 : 0 ≤ i) (h1 : i < l.length)
    (h : Q (.int (l.getD i.toNat 0).toNat s.toks) { s with toks := s.toks + 1 })
    (hs : subscripted slice false (.ref a) (.int i u) = operate [.ref a, .int i u] (getItem (.ref a) (.int i u)) := by with_unfolding_all rfl) :
    wpAny (model prog w) A (subscriptTail value slice (.ref a) (.int i u)) Q E s := by
  refine tail_any hb.typeIs BaF.slot_item.lookup (getItem_meets (S := fun _ R s' => IsBA s'.heap a l.toArray ∧ R (.ok (.ret (.int (l.getD i.toNat 0).toNat s'.toks))) { s' with toks := s'.toks + 1 }) hb.typeIs (by decide) BaF.slot_item BaF.entry_item (BaF.args_item _ _) (fun prog w A R s' hS => ?_) ⟨hb, h⟩) hs
  show wpAny _ _ (Bytes.subscript? (.int i u) >>= fun r => _) _ _ _
  refine wpAny_bind ?_
  unfold Bytes.subscript?
  refine wpAny_bind (wpAny_specialOf (typeIs_int s' i u) F.slot_int_index.lookup ?_)
  show wpAny _ _ (if (!Bytes.fitsIndex i) = true then _ else pure (some i)) _ _ _
  rw [show Bytes.fitsIndex i = true from by simp only [Bytes.fitsIndex, Bool.and_eq_true, decide_eq_true_eq]; omega]
  refine wpAny_pure ?_
  show wpAny _ _ (Bytes.payload (.ref a) >>= fun r => _) _ _ _
  refine wpAny_bind (wpAny_bind ?_)
  show wpAny _ _ (load a >>= _) _ _ _
  refine wpAny_bind (wpAny_load hS.1 (wpAny_pure (wpAny_pure ?_)))
  show wpAny _ _ (match (seqIndex? i l.toArray.size).bind (l.toArray[·]?) with | some x => retInt x.toNat | none => _) _ _ _
  have hl : i.toNat < l.length := by omega
  have e : (seqIndex? i l.toArray.size).bind (l.toArray[·]?) = some (l.getD i.toNat 0) := by
    have : seqIndex? i l.toArray.size = some i.toNat := by
      have hn : ¬ i < 0 := by omega
      simp [seqIndex?, hn, h0, h1]
    rw [this]; simp [hl]
  rw [e]
  exact wpAny_bind (wpAny_mkInt (wpAny_pure hS.2))
end
end Mine
end
section
open PySem PySem.W PyProof.Rows PySem.Calls PySem.Spec Builtin
set_option maxRecDepth 100000
namespace Mine
section
variable {a : Addr} {b : Array UInt8}
theorem ba_meets_slice (sl : Addr) {l u : Value} {lo hi : Option Int} (hl : IsPart l lo) (hu : IsPart u hi) :
    Meets («bytearray.__getitem__» ⟨[.ref a, .ref sl], []⟩) (fun _ R s => IsBA s.heap a b ∧ s.heap.IsSliceOf sl l u .none ∧ (KBy.picked b lo hi).size ≤ sizeLine ∧ R (.ok (.ret (.ref s.heap.objs.size))) { s with heap := s.heap.push (baObj (KBy.picked b lo hi)) }) := by
  refine .of_wp fun prog w A R s hS => ?_
  obtain ⟨hb, ⟨o, ho, hc, hd⟩, hsz, h⟩ := hS
  have hT : s.TypeIs (.ref sl) "slice" := ⟨o, ho, hc⟩
  show wpAny _ _ (Bytes.subscript? (.ref sl) >>= fun r => _) _ _ s
  refine wpAny_bind ?_
  unfold Bytes.subscript?
  refine wpAny_bind (wpAny_specialOf hT slice_no_index (wpAny_pure ?_))
  refine wpAny_bind (wpAny_typeOf hT ?_)
  show wpAny _ _ (Bytes.sliceParts (.ref sl) >>= fun r => _) _ _ s
  refine wpAny_bind ?_
  unfold Bytes.sliceParts
  refine wpAny_bind (wpAny_field (x := .none) ho hd rfl ?_)
  refine wpAny_bind (wpAny_of_eq (a := Value.none) rfl ?_)
  refine wpAny_ite (KBy.ite_no (show ¬ ((Value.none == rawInt 0) = true) from Bool.false_ne_true) ?_)
  refine wpAny_bind (wpAny_field (x := l) ho hd rfl ?_)
  have go : wpAny (model prog w) A.in1 (sliceIndices (rawPart lo) (rawPart hi) (rawPart none) b.size) (fun r s' => r = sliceBounds lo hi none b.size ∧ s' = s) (fun _ _ => False) s :=
    wpAny_of_eq (sliceIndices_raw lo hi none b.size (fun e => nomatch e)) ⟨rfl, rfl⟩
  have fin : ∀ (x y : Value), x = rawPart lo → y = rawPart hi →
      wpAny (model prog w) A.in1 (do let b ← Bytes.payload (.ref a); let (start, stop, step) ← sliceIndices x y (rawPart none) b.size; ret (← Bytes.newBytearray (Bytes.sliced b start stop step)))
        (fun fin s' => ∃ v, fin = .done (.ret v) ∧ R (.ok (.ret v)) s') (fun e s' => R (.error e) s') s := by
    rintro _ _ rfl rfl
    refine wpAny_bind (wpAny_bind ?_)
    show wpAny _ _ (load a >>= _) _ _ _
    refine wpAny_bind (wpAny_load hb (wpAny_pure (wpAny_pure ?_)))
    refine wpAny_bind (wpAny_mono go (fun r s' hr => ?_) fun _ _ e => e.elim)
    obtain ⟨hr1, hr2⟩ := hr
    subst hr1 hr2
    exact wpAny_bind (wpAny_newObj_type (wpAny_pure ⟨_, rfl, h⟩) hsz)
  cases hl <;> cases hu <;> (first
    | (kby_none; (refine wpAny_bind (wpAny_field (x := .none) ho hd rfl ?_)); kby_none)
    | (kby_none; (refine wpAny_bind (wpAny_field (x := .int _ _) ho hd rfl ?_)); kby_int)
    | (kby_int; (refine wpAny_bind (wpAny_field (x := .none) ho hd rfl ?_)); kby_none)
    | (kby_int; (refine wpAny_bind (wpAny_field (x := .int _ _) ho hd rfl ?_)); kby_int)) <;> refine wpAny_pure (fin _ _ rfl rfl)
end
section
variable {prog : Program} {w : World} {A : Around} {E : Value → Shared → Prop} {s : Shared} {value slice : PySem.Expr} {a : Addr} {b : Array UInt8} {h₀ : Heap} {L : Addr} {m : PySem.Str → Option Value} {news : Led} {l u : Value} {lo hi : Option Int} {Q : Value → Shared → Prop}
theorem ba_slice (F : Fr h₀ L s.heap m) (N : News h₀ L s.heap news) (hb : IsBA s.heap a b) (hl : IsPart l lo) (hu : IsPart u hi) (hz : (KBy.picked b lo hi).size ≤ 16777216)
    (h : ∀ D h', Fr h₀ L h' m → News h₀ L h' ((D, baObj (KBy.picked b lo hi)) :: news) → (∀ p ∈ news, p.1 < D) → Q (.ref D) { s with heap := h' })
    (hs : subscripted slice false (.ref a) (.ref s.heap.objs.size) = operate [.ref s.heap.objs.size, .ref a] (getItem (.ref a) (.ref s.heap.objs.size)) := by with_unfolding_all rfl) :
    wpAny (model prog w) A (subscriptTail value slice (.ref a) (.ref s.heap.objs.size)) Q E { s with heap := s.heap.push { cls := .type "slice", data := .fields #[l, u, .none] } } := by
  have hb' : IsBA (s.heap.push { cls := .type "slice", data := .fields #[l, u, .none] }) a b := Heap.get?_push_of_some _ hb
  have T : ({ s with heap := s.heap.push { cls := .type "slice", data := .fields #[l, u, .none] } } : Shared).TypeIs (.ref a) "bytearray" := ⟨_, hb', rfl⟩
  refine tail_any T BaF.slot_item.lookup (getItem_meets T (by decide) BaF.slot_item BaF.entry_item (BaF.args_item _ _) (ba_meets_slice (b := b) s.heap.objs.size hl hu) ⟨hb', Heap.IsSliceOf.new _ _ _ _, by rw [sizeLine_eq]; exact hz, ?_⟩) hs
  refine h _ _ ((F.push _).push _) (News.push (F.push _) (News.pushKeep N _) _) fun p hp => ?_
  show p.1 < (s.heap.push _).objs.size
  rw [Heap.size_push]
  exact Nat.lt_succ_of_lt (Heap.lt_size (N p hp).1)
theorem ba_bytes (hh : A.handled = none) (hb : IsBA s.heap a b) (hz : b.size ≤ 16777216) (h : ∀ t k, Q (.bytes b t) { s with toks := k }) : wpAny (model prog w) A (call (.type "bytes") [.ref a]) Q E s := by
  refine callType_codes (Q₁ := fun obj s₁ => s₁.TypeIs obj "bytes" ∧ Q obj s₁) F.bm_called (F.bm_typeCall _) F.entry_object_init ?_ fun obj s₁ h₁ =>
    ⟨h₁.1, F.args_object_init_2 obj _, object_init_meets F.bm_called.init.lookup F.bm_called.made (by decide) prog w A.in1 _ s₁ ⟨h₁.1, rfl, h₁.2⟩⟩
  refine codeAny_of_tree ?_
  show wpAny _ A.in1.in1 (do checkBuiltinCall "bytes.__new__" ⟨[.type "bytes", .ref a], []⟩; again (.builtin "bytes.__new__" ⟨[.type "bytes", .ref a], []⟩)) _ _ s
  refine wpAny_bind (wpAny_of_eq (F.bm_newCall _) (wpAny_pure ⟨plainId_quiet F.bm_plain _, codeAny_builtin F.bm_entry ?_⟩))
  rw [Around.under_plainId F.bm_plain _]
  have hT : s.TypeIs (.ref a) "bytearray" := hb.typeIs
  unfold Builtin.«bytes.__new__»
  refine wpAny_bind (wpAny_of_eq (a := true) rfl ?_)
  refine bm_if_false rfl ?_
  refine wpAny_bind (wpAny_of_eq F.bm_sub ?_)
  refine bm_if_false rfl ?_
  refine wpAny_bind (wpAny_of_eq (F.bm_bind _) ?_)
  refine wpAny_bind (wpAny_of_eq (a := ()) rfl ?_)
  refine wpAny_bind (wpAny_of_eq (a := ()) rfl ?_)
  refine bm_if_false rfl ?_
  refine wpAny_bind (wpAny_specialOf hT BaF.noBytes ?_)
  refine wpAny_bind (wpAny_bind ?_)
  show wpAny _ _ (load a >>= _) _ _ _
  refine wpAny_bind (wpAny_load hb ?_)
  refine wpAny_pure (wpAny_pure ?_)
  refine bm_if_false rfl ?_
  refine wpAny_bind (wpAny_specialOf hT BaF.noIndex ?_)
  refine bm_if_true rfl ?_
  refine wpAny_bind ?_
  have own : ∀ (name : String) (id : String) (Q' : Bool → Shared → Prop) (E' : Value → Shared → Prop), typeLookup (.type "bytearray") (Str.ofString name) = pure (some (.builtin id)) → id.endsWith ("." ++ name) = true → id.dropRight (name.length + 1) = "bytearray" → Q' true s →
      wpAny (model prog w) A.in1.in1 (Bytes.slotIsOwn (.ref a) name) Q' E' s := by
    intro name id Q' E' h1 h2 h3 hq
    unfold Bytes.slotIsOwn
    refine wpAny_bind (wpAny_specialOf hT h1 ?_)
    show wpAny _ _ (if (!id.endsWith ("." ++ name)) = true then _ else _) _ _ _
    rw [h2]
    show wpAny _ _ (isInstance (.ref a) (.type (id.dropRight (name.length + 1)))) _ _ _
    rw [h3]
    exact wpAny_isInstance hT BaF.sub_self hq
  have buf : wpAny (model prog w) A.in1.in1 (Bytes.buffer? "bytes.__new__" (.ref a) true) (fun r s' => r = some b ∧ s' = s) (fun _ _ => False) s := by
    unfold Bytes.buffer?
    refine wpAny_bind (wpAny_specialOf hT BaF.look_buffer ?_)
    refine wpAny_bind (own "__buffer__" "bytearray.__buffer__" _ _ BaF.look_buffer (by decide +kernel) (by decide +kernel) ?_)
    refine bm_if_false rfl ?_
    refine wpAny_bind (wpAny_specialOf hT BaF.look_buffer ?_)
    refine wpAny_bind ?_
    unfold Bytes.ownRelease
    refine wpAny_bind (own "__release_buffer__" "bytearray.__release_buffer__" _ _ BaF.look_release (by decide +kernel) (by decide +kernel) ?_)
    refine wpAny_pure ?_
    refine bm_if_false rfl ?_
    refine wpAny_bind (wpAny_bind ?_)
    show wpAny _ _ (load a >>= _) _ _ _
    exact wpAny_bind (wpAny_load hb (wpAny_pure (wpAny_pure (wpAny_pure ⟨rfl, rfl⟩))))
  refine wpAny_mono buf (fun r s' hr => ?_) fun _ _ e => e.elim
  obtain ⟨rfl, rfl⟩ := hr
  exact wpAny_bind (wpAny_rule (wpAny_bind (wpAny_mkBytes (wpAny_pure ⟨PySem.W.typeIs_bytes _ _ _, h _ _⟩) (by rw [sizeLine_eq]; exact hz))))
end
end Mine
end
section
open PySem PySem.W PyProof.Rows PySem.Calls PySem.Spec
set_option maxRecDepth 100000
namespace Mine
open Sem (wp)
/-! wpC: wpAny over the stacks that hold no frame in which a bytearray's memory is held -/
noncomputable def holdIds : List String := ["bytearray.__contains__", "bytearray.__mod__", "bytearray.__rmod__", "_struct.pack_into.held", "bytearray.find.held"] ++ Builtin.Bytes.decodersThatHold
noncomputable def holdsIt (c : Code) : Bool := match c with
  | .builtin id _ => holdIds.contains id
  | _ => false
noncomputable def CleanSt (l : List (Code × Pos)) : Prop := ∀ x ∈ l, holdsIt x.1 = false
theorem CleanSt.cons {c : Code} {p : Pos} {l : List (Code × Pos)} (h : holdsIt c = false) (r : CleanSt l) : CleanSt ((c, p) :: l) := fun x hx => by
  rcases List.mem_cons.mp hx with rfl | hx
  · exact h
  · exact r x hx
noncomputable def wpC {α : Type} (M : Model) (A : Around) (t : Sem α) (Q : α → Shared → Prop) (E : Value → Shared → Prop) (s : Shared) : Prop :=
  ∀ Γ p, Γ.In A → holdsIt Γ.code = false → CleanSt Γ.below → wp M Γ t (fun a _ s' => Q a s') (fun e _ s' => E e s') p s
noncomputable def codeC (M : Model) (A : Around) (c : Code) (R : Result → Shared → Prop) (s : Shared) : Prop :=
  ∀ Γ p, Γ.code = c → Γ.Below A → CleanSt Γ.below → wpCode M Γ R p s

section
variable {α β : Type} {M : Model} {A : Around} {E : Value → Shared → Prop} {s : Shared}
theorem wpC_any {t : Sem α} {Q : α → Shared → Prop} (h : wpAny M A t Q E s) : wpC M A t Q E s := fun Γ p hΓ _ _ => h Γ p hΓ
theorem codeC_any {c : Code} {R : Result → Shared → Prop} (h : codeAny M A c R s) : codeC M A c R s := fun Γ p hc hΓ _ => h Γ p hc hΓ
theorem wpC_pure {a : α} {Q : α → Shared → Prop} (h : Q a s) : wpC M A (pure a) Q E s := fun _ _ _ _ _ => h
theorem wpC_mono {t : Sem α} {Q Q' : α → Shared → Prop} {E' : Value → Shared → Prop} (h : wpC M A t Q E s)
    (hQ : ∀ a s, Q a s → Q' a s) (hE : ∀ e s, E e s → E' e s) : wpC M A t Q' E' s :=
  fun Γ p hΓ h1 h2 => Sem.wp_mono M Γ t (fun a _ s => hQ a s) (fun e _ s => hE e s) p s (h Γ p hΓ h1 h2)
theorem codeC_mono {c : Code} {R R' : Result → Shared → Prop} (h : codeC M A c R s) (hR : ∀ r s, R r s → R' r s) : codeC M A c R' s :=
  fun Γ p hc hΓ hcl => wpCode_mono hR (h Γ p hc hΓ hcl)
theorem wpC_bind {m : Sem α} {f : α → Sem β} {Q : β → Shared → Prop} (h : wpC M A m (fun a s' => wpC M A (f a) Q E s') E s) : wpC M A (m >>= f) Q E s := fun Γ p hΓ h1 h2 => by
  rw [Sem.wp_bind']
  exact Sem.wp_mono M Γ m (fun a p' s' h' => h' Γ p' hΓ h1 h2) (fun _ _ _ h' => h') p s (h Γ p hΓ h1 h2)
/-- a leaf of the library's, and then on -/
theorem wpC_then {m : Sem α} {f : α → Sem β} {Q : β → Shared → Prop} (h : wpAny M A m (fun a s' => wpC M A (f a) Q E s') E s) : wpC M A (m >>= f) Q E s := wpC_bind (wpC_any h)
theorem wpC_onRaise {m : Sem α} {k : Value → Sem Unit} {Q : α → Shared → Prop}
    (h : wpC M A m Q (fun e s' => wpC M A (k e) (fun _ s'' => E e s'') E s') s) : wpC M A (m.onRaise k) Q E s := fun Γ p hΓ h1 h2 => by
  rw [Sem.wp_onRaise]
  exact Sem.wp_mono M Γ m (fun _ _ _ h' => h') (fun e p' s' h' => h' Γ p' hΓ h1 h2) p s (h Γ p hΓ h1 h2)
theorem wpC_attempt {m : Sem α} {Q : Except Value α → Shared → Prop} (h : wpC M A m (fun a => Q (.ok a)) (fun e => Q (.error e)) s) : wpC M A m.attempt Q E s :=
  fun Γ p hΓ h1 h2 => by rw [Sem.wp_attempt]; exact h Γ p hΓ h1 h2
theorem wpC_holding {vs : List Value} {m : Sem α} {Q : α → Shared → Prop} (h : wpC M A m Q E s) : wpC M A (holding vs m) Q E s :=
  fun Γ p hΓ h1 h2 => by rw [Sem.wp_holding]; exact h Γ p hΓ h1 h2
theorem wpC_standAt {pos : Pos} {Q : Unit → Shared → Prop} (h : Q () s) : wpC M A (standAt pos) Q E s := fun _ _ _ _ _ => h
theorem wpC_of_eq {t : Sem α} {a : α} {Q : α → Shared → Prop} (e : t = pure a) (h : Q a s) : wpC M A t Q E s := wpC_any (wpAny_of_eq e h)
theorem codeC_of_tree {c : Code} {R : Result → Shared → Prop} (hn : holdsIt c = false)
    (h : wpC M (A.under c) (M.den c) (fun fin s' => match fin with | .done f => R (.ok f) s' | .again c' => c'.quiet = true ∧ codeC M A c' R s')
      (fun e s' => R (.error e) s') s) : codeC M A c R s := fun Γ p hc hΓ hcl => by
  rw [wpCode_iff_wp, hc]
  refine Sem.wp_mono M Γ _ (fun fin p' s' h' => ?_) (fun _ _ _ h' => h') p s (h Γ p (hc ▸ hΓ.in) (hc ▸ hn) hcl)
  cases fin with
  | done f => exact h'
  | again c' => exact ⟨h'.1, h'.2 (Γ.goto c') p' rfl (hΓ.goto c') hcl⟩
theorem wpC_run {c : Code} {h : Option Value} {Q : Flow → Shared → Prop}
    (hc : codeC M (A.mark h) c (fun r s' => match r with | .ok f => Q f s' | .error e => E e s') s) (hnb : h ≠ some byPass := by intro x; cases x) :
    wpC M A (run c h) Q E s :=
  fun Γ p hΓ h1 h2 => by rw [Sem.wp_run]; exact hc _ p rfl (hΓ.enter c h p hnb) (h2.cons h1)
theorem wpC_runValue {c : Code} {Q : Value → Shared → Prop}
    (hc : codeC M A c (fun r s' => match r with | .ok (.ret v) => Q v s' | .ok _ => False | .error e => E e s') s) :
    wpC M A (runValue c) Q E s := fun Γ p hΓ h1 h2 => by rw [Sem.wp_runValue]; exact hc _ p rfl (hΓ.enter c none p (by intro x; cases x)) (h2.cons h1)
theorem wpC_call {f : Value} {pos : List Value} {kw : List (Str × Value)} {Q : Value → Shared → Prop}
    (hc : codeC M A (.call f ⟨pos, kw⟩) (fun r s' => match r with | .ok (.ret v) => Q v s' | .ok _ => False | .error e => E e s') s) :
    wpC M A (call f pos kw) Q E s := wpC_runValue hc
theorem wpC_exported {v : Value} {Q : Bool → Shared → Prop} (h : Q false s) : wpC M A (Builtin.Bytes.exported v) Q E s := fun Γ p hΓ h1 h2 => by
  have key : ∀ (l : List (Code × Pos)) (f : Code × Pos → Bool), (∀ x, holdsIt x.1 = false → f x = false) → CleanSt l → l.any f = false := by
    intro l f hf
    induction l with
    | nil => intro _; rfl
    | cons x r ih =>
      intro hc
      rw [List.any_cons, hf x (hc x (.head _)), ih fun y hy => hc y (.tail _ hy)]
      rfl
  have hcl : CleanSt ((Γ.code, p) :: Γ.below) := CleanSt.cons h1 h2
  unfold Builtin.Bytes.exported
  show Q (((Γ.code, p) :: Γ.below).any _) s
  rw [key _ _ ?_ hcl]
  · exact h
  · rintro ⟨c, p'⟩ hx
    cases c with
    | builtin id args =>
      have hx' : holdIds.contains id = false := hx
      have n : ∀ t ∈ holdIds, ¬ id = t := fun t ht e => by
        rw [e, List.contains_iff_mem.mpr ht] at hx'; exact Bool.noConfusion hx'
      have hd : Builtin.Bytes.decodersThatHold.contains id = false := by
        cases e : Builtin.Bytes.decodersThatHold.contains id with
        | false => rfl
        | true => exact absurd rfl (n id (List.mem_append_right _ (List.contains_iff_mem.mp e)))
      delta Builtin.Bytes.exported.match_1
      refine (dif_neg (n _ (.head _))).trans ?_
      refine (dif_neg (n _ (.tail _ (.head _)))).trans ?_
      refine (dif_neg (n _ (.tail _ (.tail _ (.head _))))).trans ?_
      refine (dif_neg (n _ (.tail _ (.tail _ (.tail _ (.head _)))))).trans ?_
      refine (dif_neg (n _ (.tail _ (.tail _ (.tail _ (.tail _ (.head _))))))).trans ?_
      obtain ⟨pos, kw⟩ := args
      cases pos with
      | nil => rfl
      | cons v r => show (_ && Builtin.Bytes.decodersThatHold.contains id) = false; rw [hd, Bool.and_false]
    | _ => rfl
end
section
variable {prog : Program} {w : World} {A : Around} {s : Shared}
theorem codeC_builtin {id : String} {args : Args} {b : Builtin} {R : Result → Shared → Prop} (hn : holdsIt (.builtin id args) = false) (hb : entryFor table id = some b)
    (h : wpC (model prog w) (A.under (.builtin id args)) (b args)
      (fun fin s' => match fin with | .done f => R (.ok f) s' | .again c' => c'.quiet = true ∧ codeC (model prog w) A c' R s') (fun e s' => R (.error e) s') s) :
    codeC (model prog w) A (.builtin id args) R s := by
  refine codeC_of_tree hn ?_
  show wpC _ _ (match entryFor table id with | some b => b args | none => unsupported ((withoutEnding? id "#data").getD id)) _ _ s
  rw [hb]; exact h
end
end Mine
end
section
open PySem PySem.W PyProof.Rows PySem.Calls PySem.Spec
set_option maxRecDepth 100000
namespace Mine
namespace BaF
theorem mro : mroOf (.type "bytearray") = pure [.type "bytearray", .type "object"] := by rw [mroOf_type]; kernel_rfl
theorem lookup_new : typeLookup (.type "bytearray") "__new__" = pure (some (.builtin "bytearray.__new__")) := by rw [typeLookup_type, builtinLookup_eq_fast]; kernel_rfl
theorem slot_init : Slot "bytearray" "__init__" "bytearray.__init__" :=
  .of (owner := "bytearray") (n := "__init__") (by rw [typeLookup_type, builtinLookup_eq_fast]; kernel_rfl) (by decide +kernel) (by decide +kernel) (by decide +kernel)
    (by first | exact .inl (by decide +kernel) | exact .inr (by decide +kernel)) (by rw [isSubtype_type]; kernel_rfl)
theorem called : TypeCalled "bytearray" "bytearray.__new__" "bytearray.__init__" :=
  ⟨by decide +kernel, by decide +kernel, ⟨_, _, mro⟩, madeBy_type mro lookup_new (by decide +kernel), by decide +kernel, sub_self, slot_init⟩
theorem typeCall (a : Value) : checkTypeCall "bytearray" ⟨[a], []⟩ = pure () := by kernel_rfl
theorem newCall (a : Value) : checkBuiltinCall "bytearray.__new__" ⟨[.type "bytearray", a], []⟩ = pure () := by kernel_rfl
theorem plain_new : plainId "bytearray.__new__" = true := by decide +kernel
theorem entry_new : entryFor table "bytearray.__new__" = some Builtin.«list.__new__» := entryFor_alias (id' := "list.__new__") (by kernel_rfl) rfl (by decide +kernel) (by kernel_rfl)
theorem plain_init : plainId "bytearray.__init__" = true := by decide +kernel
theorem entry_init : entryFor table "bytearray.__init__" = some Builtin.«bytearray.__init__» := entryFor_of_tree (by kernel_rfl)
theorem args_init (a b : Value) : argsOk "bytearray.__init__" ⟨[a, b], []⟩ := by unfold argsOk; kernel_rfl
theorem bind (v : Value) : Builtin.Bytes.bindOptional "bytearray.__init__" "bytearray" ["source", "encoding", "errors"] [v] [] = pure [some v, none, none] := by kernel_rfl
theorem bytes_no_index : typeLookup (.type "bytes") "__index__" = pure none := by rw [typeLookup_type, builtinLookup_eq_fast]; kernel_rfl
end BaF
set_option maxRecDepth 1000000 in
set_option maxHeartbeats 4000000 in
theorem BaF.owner_new : ("bytearray.__new__".splitOn ".__new__").headD "" = "bytearray" := by simp +decide [String.splitOn, String.splitOnAux]
end Mine
end
section
open PySem PySem.W PyProof.Rows PySem.Calls PySem.Spec
set_option maxRecDepth 100000
namespace Mine
section
variable {prog : Program} {w : World} {A : Around} {E : Value → Shared → Prop} {s : Shared} {a : Addr} {b : Array UInt8}
theorem ba_code_new (v : Value) {Q₁ : Value → Shared → Prop} (h : Q₁ (.ref s.heap.objs.size) { s with heap := s.heap.push (baObj #[]) }) :
    codeAny (model prog w) A (.call (.builtin "bytearray.__new__") ⟨[.type "bytearray", v], []⟩) (wants Q₁ E) s := by
  refine codeAny_of_tree ?_
  show wpAny _ A.in1 (do checkBuiltinCall "bytearray.__new__" ⟨[.type "bytearray", v], []⟩; again (.builtin "bytearray.__new__" ⟨[.type "bytearray", v], []⟩)) _ _ s
  refine wpAny_bind (wpAny_of_eq (BaF.newCall v) (wpAny_pure ⟨plainId_quiet BaF.plain_new _, codeAny_builtin_stack BaF.entry_new rfl fun p st => ?_⟩))
  rw [Around.under_plainId BaF.plain_new _]
  have hsub := BaF.sub_self
  have hown := BaF.owner_new
  obtain ⟨hp, g, d, tk, os⟩ := s
  simp only [hown]
  wp_walk
  exact h
theorem ba_write {c : Array UInt8} {f : Array UInt8 → Array UInt8} {Q : Unit → Shared → Prop} (hb : IsBA s.heap a c) (hz : (f c).size ≤ sizeLine)
    (h : ∀ h', IsBA h' a (f c) → Heap.SameBut a s.heap h' → Q () { s with heap := h' }) : wpAny (model prog w) A (Builtin.Bytes.write (.ref a) f) Q E s := by
  show wpAny _ _ (updateBytearray a f) _ _ _
  unfold updateBytearray
  refine wpAny_bind (wpAny_load hb ?_)
  refine wpAny_bind (wpAny_update hb ?_)
  have e : IsBA (s.heap.update a (Obj.mapBytearray f)) a (f c) := Heap.get?_update_self _ hb rfl
  refine wpAny_lookBehind e ?_ (h _ e (Heap.SameBut.update ..))
  show (if (f c).size > sizeLine then _ else _) = _
  rw [if_neg (Nat.not_lt.mpr hz)]
end
end Mine
end
section
open PySem PySem.W PyProof.Rows PySem.Calls PySem.Spec
set_option maxRecDepth 100000
namespace Mine
section
variable {prog : Program} {w : World} {A : Around} {E : Value → Shared → Prop} {s : Shared} {a : Addr} {b : Array UInt8} {t : Tok}
theorem ba_own {A' : Around} {name : String} {id : String} {Q' : Bool → Shared → Prop} {E' : Value → Shared → Prop} (hb : IsBA s.heap a b) (h1 : typeLookup (.type "bytearray") (Str.ofString name) = pure (some (.builtin id))) (h2 : id.endsWith ("." ++ name) = true) (h3 : id.dropRight (name.length + 1) = "bytearray") (hq : Q' true s) :
    wpAny (model prog w) A' (Builtin.Bytes.slotIsOwn (.ref a) name) Q' E' s := by
  unfold Builtin.Bytes.slotIsOwn
  refine wpAny_bind (wpAny_specialOf hb.typeIs h1 ?_)
  show wpAny _ _ (if (!id.endsWith ("." ++ name)) = true then _ else _) _ _ _
  rw [h2]
  show wpAny _ _ (isInstance (.ref a) (.type (id.dropRight (name.length + 1)))) _ _ _
  rw [h3]
  exact wpAny_isInstance hb.typeIs BaF.sub_self hq
theorem bytes_buffer_full {id : String} : Builtin.Bytes.buffer? id (.bytes b t) true = pure (some b) := by
  unfold Builtin.Bytes.buffer?
  rw [KBy.special_eq KBy.look_buffer, KBy.own_buffer, KBy.own_release]
  kernel_rfl
theorem ba_init {P : PySem.Fin → Shared → Prop} (hb : IsBA s.heap a #[]) (hz : b.size ≤ 16777216)
    (h : ∀ h' k, IsBA h' a b → Heap.SameBut a s.heap h' → P (.done (.ret .none)) { s with heap := h', toks := k }) :
    wpC (model prog w) A (Builtin.«bytearray.__init__» ⟨[.ref a, .bytes b t], []⟩) P E s := by
  unfold Builtin.«bytearray.__init__»
  refine wpC_then ?_
  unfold Builtin.Bytes.ownRelease
  refine wpAny_bind (ba_own hb BaF.look_release (by decide +kernel) (by decide +kernel) (wpAny_pure ?_))
  show wpC _ _ (if (!true) = true then _ else _) _ _ _
  rw [if_neg (by decide)]
  refine wpC_bind (wpC_of_eq (BaF.bind _) ?_)
  refine wpC_bind (wpC_of_eq (a := ()) rfl ?_)
  refine wpC_bind (wpC_of_eq (a := ()) rfl ?_)
  refine wpC_bind ?_
  show wpC _ _ (Builtin.Bytes.exported (.ref a) >>= _) _ _ _
  refine wpC_bind (wpC_exported ?_)
  refine wpC_any ?_
  show wpAny _ _ ((load a >>= _) >>= _) _ _ _
  refine wpAny_bind (wpAny_bind (wpAny_load hb (wpAny_pure (wpAny_pure ?_))))
  show wpC _ _ (if (decide ((0 : Nat) > 0)) = true then _ else (Builtin.Bytes.write (.ref a) (fun _ => #[]) >>= _)) _ _ _
  rw [if_neg (by decide)]
  refine wpC_any (wpAny_bind (ba_write hb (Nat.zero_le _) fun h₁ hb₁ hs₁ => ?_))
  refine wpAny_bind (wpAny_of_eq (a := none) rfl ?_)
  refine bm_if_false rfl ?_
  refine wpAny_bind (wpAny_of_eq (a := ()) rfl ?_)
  refine wpAny_bind (wpAny_of_eq (KBy.special_eq BaF.bytes_no_index) ?_)
  refine bm_if_false rfl ?_
  refine wpAny_bind (wpAny_of_eq bytes_buffer_full ?_)
  refine wpAny_bind (wpAny_rule (wpAny_bind (ba_write hb₁ (by rw [sizeLine_eq]; exact hz) fun h₂ hb₂ hs₂ => wpAny_pure ?_)))
  exact h h₂ _ hb₂ (hs₁.trans hs₂)
theorem wpC_if_false {α : Type} {c : Bool} {x y : Sem α} {Q : α → Shared → Prop} (hc : c = false) (h : wpC (model prog w) A y Q E s) : wpC (model prog w) A (if c = true then x else y) Q E s := by
  rw [hc, if_neg Bool.false_ne_true]; exact h
theorem codeC_call_builtin {id : String} {args : Args} {bi : Builtin} {R : Result → Shared → Prop} (hq : plainId id = true) (hn : holdsIt (.builtin id args) = false) (hb : entryFor table id = some bi)
    (h : wpC (model prog w) A.in1 (checkBuiltinCall id args) (fun _ s₁ => wpC (model prog w) A.in1 (bi args)
      (fun fin s' => match fin with | .done f => R (.ok f) s' | .again c' => c'.quiet = true ∧ codeC (model prog w) A c' R s') (fun e s' => R (.error e) s') s₁)
      (fun e s' => R (.error e) s') s) : codeC (model prog w) A (.call (.builtin id) args) R s := by
  refine codeC_of_tree rfl ?_
  show wpC _ A.in1 (do checkBuiltinCall id args; again (.builtin id args)) _ _ s
  refine wpC_bind (wpC_mono h (fun _ s₁ h₁ => wpC_pure ⟨plainId_quiet hq args, codeC_builtin hn hb ?_⟩) fun _ _ x => x)
  rw [Around.under_plainId hq args]
  exact h₁
theorem call_bytearray {Q : Value → Shared → Prop} (hz : b.size ≤ 16777216)
    (h : ∀ h' k, IsBA h' s.heap.objs.size b → (∀ c o, s.heap.get? c = some o → h'.get? c = some o) → Q (.ref s.heap.objs.size) { s with heap := h', toks := k }) :
    wpC (model prog w) A (call (.type "bytearray") [.bytes b t]) Q E s := by
  have ft := BaF.called
  obtain ⟨c, tl, hmro⟩ := ft.mro
  have hmade := ft.made
  have hsub := ft.sub
  refine wpC_call (codeC_of_tree rfl ?_)
  show wpC _ _ (callAny (.type "bytearray") _) _ _ _
  refine wpC_pure ⟨Code.quiet_builtin _ (by decide +kernel), codeC_builtin rfl F.entry_type_call ?_⟩
  rw [Around.under_plain (weight_type_call_type "bytearray" [.bytes b t] []) rfl]
  have h1 := ft.notType
  have h2 := ft.canCreate
  unfold Builtin.«type.__call__»
  refine wpC_if_false h1 ?_
  refine wpC_if_false h2 ?_
  refine wpC_bind (wpC_of_eq (BaF.typeCall _) ?_)
  refine wpC_bind (wpC_of_eq BaF.mro ?_)
  refine wpC_if_false rfl ?_
  refine wpC_bind (wpC_of_eq hmade ?_)
  refine wpC_bind (wpC_pure ?_)
  refine wpC_bind (wpC_holding (wpC_call (codeC_mono (codeC_any (ba_code_new _ (Q₁ := fun v s₁ => v = .ref s.heap.objs.size ∧ s₁ = { s with heap := s.heap.push (baObj #[]) }) (E := fun _ _ => False) ⟨rfl, rfl⟩)) fun r s₁ hr => ?_)))
  cases r with
  | error e => exact hr.elim
  | ok fl =>
    cases fl with
    | ret obj =>
      obtain ⟨rfl, rfl⟩ := hr
      have hb : IsBA (s.heap.push (baObj #[])) s.heap.objs.size #[] := Heap.get?_push_size _ rfl
      have hT : ({ s with heap := s.heap.push (baObj #[]) } : Shared).TypeIs (.ref s.heap.objs.size) "bytearray" := ⟨_, hb, rfl⟩
      refine wpC_then (wpAny_isInstance hT BaF.sub_self ?_)
      refine wpC_if_false rfl ?_
      refine wpC_bind (wpC_holding ?_)
      have hli := ft.init.lookup
      have hbi := ft.init.bind (.ref s.heap.objs.size)
      simp only [callSpecial?]
      refine wpC_then (wpAny_specialOf hT hli ?_)
      simp only [hbi]
      refine wpC_holding (wpC_bind (wpC_pure (wpC_bind (wpC_call (codeC_call_builtin BaF.plain_init (by rfl) BaF.entry_init ?_)))))
      refine wpC_any (ft.init.check _ _ _ _ _ _ _ _ hT (BaF.args_init _ _) ?_)
      refine ba_init (s := { s with heap := s.heap.push (baObj #[]) }) hb hz ?_
      intro h' k hb' hs'
      refine wpC_pure ?_
      refine wpC_if_false rfl (wpC_pure ?_)
      exact h h' k hb' fun c o e => hs'.extBut c o (Nat.ne_of_lt (Heap.lt_size e)) (Heap.get?_push_of_some _ e)
    | _ => exact hr.elim
end
end Mine
end
section
open PySem PySem.W PyProof.Rows PySem.Calls Builtin Builtin.ObjectAttr Builtin.Getset_descriptor
set_option maxRecDepth 100000
namespace Mine
namespace ExF
theorem slot_wget : Slot "wrapper_descriptor" "__get__" "wrapper_descriptor.__get__" :=
  .of (owner := "wrapper_descriptor") (n := "__get__") (by rw [typeLookup_type, builtinLookup_eq_fast]; kernel_rfl) (by decide +kernel) (by decide +kernel) (by decide +kernel)
    (by first | exact .inl (by decide +kernel) | exact .inr (by decide +kernel)) (by rw [isSubtype_type]; kernel_rfl)
theorem entry_wget : entryFor table "wrapper_descriptor.__get__" = some Builtin.«wrapper_descriptor.__get__» := entryFor_of_tree (by kernel_rfl)
theorem args_wget (a b c : Value) : argsOk "wrapper_descriptor.__get__" ⟨[a, b, c], []⟩ := by unfold argsOk; kernel_rfl
theorem type_init : typeOf (.builtin "Exception.__init__") = pure (.type "wrapper_descriptor") := by show builtinType _ = _; rw [builtinType_eq_fast]; kernel_rfl
end ExF
noncomputable def mwObj (e : Addr) : Obj := { cls := .type "method-wrapper", data := .fields #[.builtin "Exception.__init__", .ref e] }
section
variable {prog : Program} {w : World} {A : Around} {E : Value → Shared → Prop} {h : Heap} {g : Array GenState} {d : Drawn} {t : Nat} {os : OsState}
theorem exc_wget {e C : Addr} {Q : PySem.Fin → Shared → Prop} {oe : Obj} (he : h.get? e = some oe) (hc : oe.cls = .ref C) (hs : Looks (model prog w) h (isSubtype (.ref C) (.type "Exception")) true)
    (hq : Q (.done (.ret (.ref h.objs.size))) ⟨h.push (mwObj e), g, d, t, os⟩) :
    wpAny (model prog w) A (Builtin.«wrapper_descriptor.__get__» ⟨[.builtin "Exception.__init__", .ref e, .ref C], []⟩) Q E ⟨h, g, d, t, os⟩ := by
  unfold Builtin.«wrapper_descriptor.__get__»
  refine wpAny_bind ?_
  refine wpAny_mono (Q := fun r s' => r = (.builtin "Exception.__init__", some (.ref e), some (.ref C)) ∧ s' = ⟨h, g, d, t, os⟩) (E := fun _ _ => False) (wpAny_of_eq rfl ⟨rfl, rfl⟩) (fun r s' hr => ?_) fun _ _ x => x.elim
  obtain ⟨rfl, rfl⟩ := hr
  have key : ∀ (x : String) (Q' : Bool → Shared → Prop) (E' : Value → Shared → Prop), x = "Exception" → Q' true ⟨h, g, d, t, os⟩ → wpAny (model prog w) A (isInstance (.ref e) (.type x)) Q' E' ⟨h, g, d, t, os⟩ := by
    rintro x Q' E' rfl hq'
    unfold isInstance
    have hT : wpAny (model prog w) A (typeOf (.ref e)) (fun v s' => v = .ref C ∧ s' = ⟨h, g, d, t, os⟩) (fun _ _ => False) ⟨h, g, d, t, os⟩ :=
      wpAny_bind (wpAny_load he (wpAny_pure ⟨hc, rfl⟩))
    refine wpAny_bind (wpAny_mono hT (fun v s' hv => ?_) fun _ _ x => x.elim)
    obtain ⟨rfl, rfl⟩ := hv
    exact hs.at hq'
  wp_step
  wp_step
  wp_step
  wp_step
  refine wpAny_bind (wpAny_of_eq rfl ?_)
  refine wpAny_bind (key _ _ _ (by decide +kernel) ?_)
  refine bm_if_false rfl (wpAny_pure ?_)
  exact wpAny_bind (wpAny_newObj_type (wpAny_pure hq))
theorem exc_super_method {so e C : Addr} {oe : Obj} {l₀ l : List Value} {K : Frag} {pl : Sem Bool} {Q : Value × List Value → Shared → Prop}
    (hso : h.get? so = some (ks_superObj C e C)) (hno : Looks (model prog w) h (opaqueClassAbove (.ref C)) none)
    (hC : Looks (model prog w) h (mroOf (.ref C)) l₀) (hl : (l₀.dropWhile (· != .ref C)).drop 1 = l) (X : K.In h)
    (hf : alongIn K "__init__" l = some (some (.builtin "Exception.__init__"))) (he : h.get? e = some oe) (hc : oe.cls = .ref C) (hs : Looks (model prog w) h (isSubtype (.ref C) (.type "Exception")) true) (hxC : e ≠ C)
    (hq : Q (.ref h.objs.size, []) ⟨h.push (mwObj e), g, d, t + 1, os⟩) :
    wpAny (model prog w) A (getMethod (.ref so) "__init__" pl) Q E ⟨h, g, d, t, os⟩ := by
  have hlk := F.ks_slot_super_ga.lookup
  have hcan := F.ks_canon_super_ga
  have hT : ∀ t', (⟨h, g, d, t', os⟩ : Shared).TypeIs (.ref so) "super" := fun _ => ⟨_, hso, rfl⟩
  unfold getMethod
  refine wpAny_bind (wpAny_specialOf (hT _) hlk ?_)
  show wpAny _ _ (if (Manifest.canonical "super.__getattribute__" != "object.__getattribute__") = true then _ else _) _ _ _
  rw [if_pos hcan]
  unfold getAttr getAttrBy
  refine wpAny_bind (wpAny_bind (wpAny_mkText (wpAny_holding (wpAny_bind (wpAny_typeOf (hT _) (wpAny_bind (wpAny_of_eq hlk ?_)))))))
  show wpAny _ _ (getAttrByItsOwn (.ref so) (.str "__init__" t) (.type "super") (.builtin "super.__getattribute__") true false) _ _ _
  unfold getAttrByItsOwn hookBefore callGetattribute boundAndCalled
  refine wpAny_bind (wpAny_of_eq (show (if onTheHeap (.type "super") then typeLookup (.type "super") "__getattr__" else pure none) = pure none from rfl) ?_)
  refine wpAny_bind (wpAny_attempt (wpAny_holding ?_))
  show wpAny _ _ (bindSpecial (.builtin "super.__getattribute__") (.ref so) >>= _) _ _ _
  refine wpAny_bind (wpAny_of_eq (F.ks_slot_super_ga.bind _) ?_)
  refine wpAny_mono (Q := fun v s' => v = .ref h.objs.size ∧ s' = ⟨h.push (mwObj e), g, d, t + 1, os⟩) (E := fun _ _ => False)
    (wpAny_call_entry F.ks_slot_super_ga (hT _) F.ks_entry_super_ga ?_ (F.ks_gaArgs_super _ _)) (fun v s' hv => ?_) fun _ _ z => z.elim
  · have hne : (Value.ref e == Value.ref C) = false := by simp [hxC]
    have hdt : (ks_superObj C e C).data = .fields #[.ref C, .ref e, .ref C] := rfl
    unfold Builtin.«super.__getattribute__»
    refine wpAny_bind (wpAny_of_eq rfl ?_)
    refine bm_if_false rfl ?_
    refine wpAny_bind (wpAny_of_eq rfl ?_)
    refine wpAny_bind (wpAny_field (x := .ref C) hso hdt rfl ?_)
    refine wpAny_bind (wpAny_field (x := .ref e) hso hdt rfl ?_)
    refine wpAny_bind (wpAny_field (x := .ref C) hso hdt rfl ?_)
    refine bm_if_false (by rfl) ?_
    refine wpAny_bind (ks_wpAny_notOpaque hno ?_)
    refine bm_if_false rfl ?_
    refine wpAny_bind (Looks.at hC ?_)
    rw [hl]
    refine wpAny_bind (ks_forIn_along X (fun _ _ => rfl) rfl ?_ hf)
    refine wpAny_bind (wpAny_of_eq ExF.type_init ?_)
    refine wpAny_bind (wpAny_of_eq ExF.slot_wget.lookup ?_)
    refine wpAny_bind (wpAny_holding ?_)
    rw [hne, if_neg Bool.false_ne_true]
    refine wpAny_call_entry ExF.slot_wget (T := "wrapper_descriptor") ExF.type_init ExF.entry_wget ?_ (ExF.args_wget _ _ _)
    refine exc_wget he hc hs ⟨_, rfl, ?_⟩
    exact wpAny_bind (wpAny_pure (wpAny_pure (wpAny_pure ⟨_, rfl, rfl, rfl⟩)))
  obtain ⟨rfl, rfl⟩ := hv
  exact wpAny_pure (wpAny_pure hq)
end
end Mine
end
section
open PySem PySem.W PyProof.Rows PySem.Calls
set_option maxRecDepth 100000
namespace Mine
noncomputable def excObj (C t : Addr) : Obj := { cls := .ref C, data := .fields #[.ref t, .none, .none, .none, .bool false, .none] }
section
variable {prog : Program} {w : World} {A : Around} {E : Value → Shared → Prop} {h : Heap} {g : Array GenState} {d : Drawn} {t : Nat} {os : OsState}
theorem exc_call_mw {nm qn : Str} {N : Addr} {bs : List Value} {hdct : Bool} {sn : List Str} {sub : List Value} {ab : Bool} {col : Option Bool} {dd : Option Addr} {k0 k1 k2 k3 k5 : Option Value} {q e C t₀ : Addr} {msg : Value} {Q : Value → Shared → Prop}
    (hC : h.get? C = some (excClassObj nm qn C N bs [.type "Exception", .type "BaseException", .type "object"] hdct sn sub ab col dd k0 k1 k2 k3 k5 "Exception.__new__")) (hq : h.get? q = some (mwObj e)) (he : h.get? e = some (excObj C t₀))
    (hQ : Q .none ⟨(h.push { cls := .type "tuple", data := .seq #[msg] }).update e (Obj.mapFields (·.setIfInBounds 0 (.ref h.objs.size))), g, d, t, os⟩) :
    wpAny (model prog w) A (call (.ref q) [msg]) Q E ⟨h, g, d, t, os⟩ := by
  have F := PySem.F.excBase_Exception
  refine wpAny_call (codeAny_of_tree ?_)
  show wpAny _ _ (callAny (.ref q) _) _ _ _
  simp only [callAny]
  refine wpAny_bind (wpAny_load hq ?_)
  show wpAny _ _ (checkBoundCall "Exception.__init__" ⟨[.ref e, msg], []⟩ >>= fun _ => again (.builtin "Exception.__init__" ⟨[.ref e, msg], []⟩)) _ _ _
  refine wpAny_bind ?_
  unfold checkBoundCall
  rw [F.initRow, F.initKind]
  refine bm_if_true rfl ?_
  have hcB : (Value.ref C :: [.type "Exception", .type "BaseException", .type "object"]).contains (.type "Exception") = true := by rw [List.contains_cons, F.hasB, Bool.or_true]
  have hshort := F.noStar
  unfold Bind.checkArgs
  repeat (first | (with_reducible refine wpAny_loadPart_at he ?_) | with_reducible refine wpAny_loadPart_at hC ?_ | (with_reducible refine wpAny_isSubtype_exc hC ?_; rw [hcB]) | wp_step)
  refine ⟨plainId_quiet F.init.plain _, codeAny_builtin F.initEntry ?_⟩
  wp_walk
  exact hQ
end
end Mine
end
section
open PySem PySem.W PyProof.Rows PySem.Calls
set_option maxRecDepth 100000
namespace Mine
section
variable {prog : Program} {w : World} {A : Around} {E : Value → Shared → Prop} {s : Shared} {h₀ : Heap} {L : Addr} {m : Str → Option Value} {env : Env} {news : Led}
theorem callWith_mw {q e' : Addr} {first : List Value} {pos : Pos} {ex : Expr} {rest : List Expr} {Q : Value → Shared → Prop}
    (h : wpAny (model prog w) A (spliced (backTo pos (starEach (ex :: rest) env))) (fun vs s₁ => s₁.heap.get? q = some (mwObj e') ∧ wpAny (model prog w) A (call (.ref q) (first ++ vs)) Q E s₁) E s)
    (he : starEach (ex :: rest) env = (false, eval ex env) :: starEach rest env := by rfl) (hplain : (backTo pos (starEach rest env)).any (·.1) = false := by rfl) :
    wpAny (model prog w) A (callWith pos (.ref q) first (backTo pos (starEach (ex :: rest) env)) []) Q E s := by
  rw [he] at h ⊢
  exact callWith_of (P := fun h => h.get? q = some (mwObj e')) (by show ((false || (backTo pos (starEach rest env)).any (·.1)) || false) = false; rw [hplain]; rfl)
    (fun h hq => ⟨_, .inr (.inl rfl), (Looks.ld (part := none) hq).andThen .now⟩) (evalArgs_plain h)
/-- a record of the call's own is stored into -/
theorem fr_fields {h : Heap} {e : Addr} {o o' : Obj} {f : Obj → Obj} (F : Fr h₀ L h m) (he : h.get? e = some o) (hL : e ≠ L) (h0 : h₀.get? e = none) : Fr h₀ L (h.update e f) m :=
  ⟨F.ns.at' fun o e' => (Heap.get?_update_other _ _ hL).trans e', fun b o e' => (Heap.get?_update_other _ _ fun q => by rw [← q, h0] at e'; cases e').trans (F.keep b o e'), F.above⟩
theorem news_fields {h : Heap} {e : Addr} {o : Obj} {f : Obj → Obj} (N : News h₀ L h ((e, o) :: news)) (hs : ∀ p ∈ news, p.1 ≠ e) (hf : (f o).isFreed = false) : News h₀ L (h.update e f) ((e, f o) :: news) := by
  intro p hp
  have he := N (e, o) (.head _)
  rcases List.mem_cons.mp hp with rfl | hp
  · exact ⟨Heap.get?_update_self _ he.1 hf, he.2⟩
  · exact ⟨(Heap.get?_update_other _ _ (Ne.symm (hs p hp))).trans (N p (.tail _ hp)).1, (N p (.tail _ hp)).2⟩
/-- Exception.__init__ by super() upon an own exception: its args anew -/
theorem exc_init_super {nm qn : Str} {N₀ : Addr} {bs : List Value} {hdct : Bool} {sn : List Str} {sub : List Value} {ab : Bool} {col : Option Bool} {dd : Option Addr} {k0 k1 k2 k3 k5 : Option Value} {q e C t₀ : Addr} {msg : Value} {Q : Value → Shared → Prop}
    (hC : s.heap.get? C = some (excClassObj nm qn C N₀ bs [.type "Exception", .type "BaseException", .type "object"] hdct sn sub ab col dd k0 k1 k2 k3 k5 "Exception.__new__"))
    (F : Fr h₀ L s.heap m) (N : News h₀ L s.heap ((e, excObj C t₀) :: news)) (hs : ∀ p ∈ news, p.1 ≠ e) (hq : s.heap.get? q = some (mwObj e))
    (hQ : ∀ t h', Fr h₀ L h' m → News h₀ L h' ((e, excObj C t) :: (t, { cls := .type "tuple", data := .seq #[msg] }) :: news) → t ≠ e → (∀ p ∈ news, p.1 < t) → Q .none { s with heap := h' }) :
    wpAny (model prog w) A (call (.ref q) [msg]) Q E s := by
  obtain ⟨hh, g, d, tk, os⟩ := s
  have he := N (e, excObj C t₀) (.head _)
  have hlt : e < hh.objs.size := Heap.lt_size he.1
  refine exc_call_mw hC hq he.1 (hQ hh.objs.size _ ?_ ?_ (Ne.symm (Nat.ne_of_lt hlt)) fun p hp => Heap.lt_size (N p (.tail _ hp)).1)
  · exact fr_fields (o' := excObj C t₀) (F.push _) (Heap.get?_push_of_some _ he.1) he.2.1 he.2.2
  · refine news_fields (o := excObj C t₀) (news := _) (fun p hp => ?_) (fun p hp => ?_) rfl
    · have N' := News.push F N { cls := .type "tuple", data := .seq #[msg] }
      rcases List.mem_cons.mp hp with rfl | hp
      · exact N' _ (.tail _ (.head _))
      · rcases List.mem_cons.mp hp with rfl | hp
        · exact N' _ (.head _)
        · exact N' _ (.tail _ (.tail _ hp))
    · rcases List.mem_cons.mp hp with rfl | hp
      · exact Ne.symm (Nat.ne_of_lt hlt)
      · exact hs p hp
end
end Mine
end
section
open PySem PySem.W PyProof.Rows PySem.Calls PySem.Spec
set_option maxRecDepth 100000
namespace Mine
/-! the head, for a law whose call is shown in wpC -/
theorem thread_ends_C {prog : Program} {w : World} {t : Sem Fin} {s : Shared} {R : Result → Shared → Prop} (hreg : s.asleep)
    (h : wpC (model prog w) callerA t (fun fin s' => ∃ f, fin = .done f ∧ (R (.ok f) s' ∧ leftWithCleanup s'.gens = false)) (fun e s' => R (.error e) s' ∧ leftWithCleanup s'.gens = false) s) :
    ∃ n r s' s'', runN (denote table) prog w n s ⟨t, .builtin "claim.caller" {}, default, []⟩ = .halted (outcomeOf r) s' ∧
      schedN (denote table) prog w n (.single s ⟨t, .builtin "claim.caller" {}, default, []⟩) = .halted (outcomeOf r) s' ∧ s'.forget = s''.forget ∧ R r s'' := by
  have h' := h ⟨.builtin "claim.caller" {}, none, none, [], none⟩ default caller_in (by decide +kernel) (fun x hx => nomatch hx)
  obtain ⟨n, r, s₁, s₂, hs, hn, hfo, hR⟩ := wp_halts_full (M := model prog w) (R := R) (c := .builtin "claim.caller" {}) (t := t) (p := default) hreg
    (Sem.wp_mono _ _ t (fun fin p' s' h' => by obtain ⟨f, rfl, hf⟩ := h'; exact hf) (fun _ _ _ h' => h') _ s h')
  exact ⟨n, r, s₂, s₁, hn, hs, hfo, hR⟩
noncomputable abbrev WalkC (q : Program) (loose : List Str) (XP : (Str → Option Value) → Heap → Prop) (YP : World → Heap → Prop) (r : RowW) (d : DefRec) (kwd : List (Str × Expr)) : Prop :=
  ∀ (w : World) (s₀ s₁ : Shared) (mg mb : Str → Option Value), Ground q loose r.records XP w s₀ mg mb s₁.heap → YP w s₁.heap → ∀ (a : Addr) (o : Obj) (pm cd doc dV kV : Value), s₁.heap.get? a = some o →
    o.data = .func { docDef d.name d.params d.body d.scope pm cd doc with defaults := dV, kwdefaults := kV } → s₁.heap.CodeRec cd d.name → Dflts mg s₁.heap d.params kwd dV kV → mg d.name = some (.ref a) → s₁.gens = #[] →
    ∀ (args : List WData) (vals : List Value) (as : List Addr), r.claim.pre args = true → WData.layableAll args = true → ReadsAllW r.records (classAt s₀.heap) s₁.heap vals args as → WellAll w.params s₁.heap vals args → (∀ a ∈ as, (a == sysModules) = false) →
      wpC (model r.prog w) callerA (call (.ref a) vals) (fun v s' => GoodWG r.claim (classAt s₀.heap) (ExcName.means s₀.heap) args s₁ (.ok (.ret v)) s')
        (fun e s' => GoodWG r.claim (classAt s₀.heap) (ExcName.means s₀.heap) args s₁ (.error e) s') s₁
namespace PySem.W
theorem holds_open {r : OpenRow} {q : Program} {loose : List Str} {Xt : Shared → Bool} {XP : (Str → Option Value) → Heap → Prop} {α : Type} {Yf : Shared → α} {Ya : World → α} {YP : World → Heap → Prop} {d : DefRec} {kwd : List (Str × Expr)} {N : Nat}
    (left : LeftO r.prog q loose Xt Yf Ya N) (hY : ∀ w s, Yf s = Ya w → YP w s.heap) (hYk : ∀ w h h', YP w h → (∀ b o, h.get? b = some o → h'.get? b = some o) → YP w h')
    (hX : ∀ s, Xt s = true → XP (s.heap.nsMap mainGlobals) s.heap) (hXk : ∀ mg h h', XP mg h → (∀ b o, h.get? b = some o → h'.get? b = some o) → XP mg h')
    (hdef : defOf q r.name = some (d, kwd)) (hp : r.prog.theDef r.name = some (d.params, d.body, d.scope)) (hk : kwWritten? d.params.kwonlyargs d.params.kw_defaults = some kwd) (hRf : ∀ s, Xt s = true → RecFacts r.records s.heap) (hwr : (!r.writes || r.records.isEmpty) = true)
    (k1 : r.wellSaid = true) (ok : (chainsOk q && opensWell r.prog && (frees r.toRowW && r.within.isEmpty)) = true) (hb : r.prog.bare) (hw : r.toRowW.promised)
    (call : WalkC q loose XP YP r.toRowW d kwd) : r.Holds := by
  obtain ⟨ok, k5⟩ := Bool.and_eq_true_iff.mp ok
  obtain ⟨hch, o1⟩ := Bool.and_eq_true_iff.mp ok
  obtain ⟨k5, k6⟩ := Bool.and_eq_true_iff.mp k5
  obtain ⟨hsame, hu, ha, hap, hm⟩ := frees_parts k5
  have hi := ident_freeW hu ha hap
  have hwi : r.toRowW.claim.within = [] := List.isEmpty_iff.mp k6
  refine ⟨k1, hw, ⟨hb, o1, by show r.toRowW.makers.map _ = []; rw [hm]; rfl⟩, hw.witness, fun w => ⟨(left.behind hX hch w).1, fun s' hs' => ?_⟩⟩
  refine Classical.byContradiction fun NG => ?_
  obtain ⟨s₀, hf, hg0, s, hT, hz, hgens, hg, G00, y⟩ := (left.behind (XP := fun mg h => XP mg h ∧ RecFacts r.records h) (fun s hs => ⟨hX s hs, hRf s hs⟩) hch w).2 s' hs'
  have G0 : Ground q loose [] XP w s (s.heap.nsMap mainGlobals) (s.heap.nsMap builtinsNs) s.heap := ⟨G00.T, G00.B, G00.D, G00.TE, G00.TD, G00.W, G00.X.1, G00.cls, G00.has, G00.apart, G00.once, G00.K⟩
  have RF := G00.X.2
  refine NG ⟨s₀, hf, hg0, s, hT, fun n hn => ?_, RF.1, RF.2.1, ?_⟩ <;> clear NG
  · obtain rfl : n = r.name := by split at hn <;> simp_all
    exact pinned_of_view hg G0 hdef hp hk
  have hgens : s.gens = #[] := Array.eq_empty_of_size_eq_zero (beq_iff_eq.mp hgens)
  have G : Ground q loose r.records XP w s _ _ s.heap := RF.ground G0
  intro args hpre hlay ord hord
  refine Classical.byContradiction fun NG => ?_
  obtain ⟨⟨vs, s₁⟩, hlaid⟩ := Option.isSome_iff_exists.mp (layAllW_isSome (P := w.params) (ord := ord) G.has args r.args s (pre_splitW hpre).1)
  have keeps := layAllW_keeps _ _ _ hlaid
  have hal := layAllW_rest _ _ _ hlaid
  obtain ⟨as, hrd, hin, hold⟩ := reads_layAllW hord _ _ _ hlaid hlay s₁.heap (fun _ _ e => e)
  have L : Laid r.records w s s₁ args vs as := ⟨⟨ord, hord, hlaid⟩, hrd, hin, hold, keeps, hal.1.trans hgens, hal.2.2.1⟩
  have G₁ := G.keeps hXk keeps
  obtain ⟨a, o, pm, cd, doc, dV, kV, h1, h2, h3, h4, h5⟩ := G₁.fn hdef
  have hcall := call w s s₁ _ _ G₁ (hYk _ _ _ (hY w s y) keeps) a o pm cd doc dV kV h2 h3 h4 h5 (defOf_name hdef ▸ h1) L.gens args vs as hpre hlay L.reads L.well (L.low G.low)
  obtain ⟨k, res, s', s'', hrun, hsched, hfo, ⟨hE, hos, hkp⟩⟩ := thread_ends_C (prog := r.prog) (w := w) (s := s₁)
    (t := do match ← nsGet mainNs r.name with
      | some f => do ret (← PySem.call f vs)
      | none => unsupported "claim.caller:no-such-global")
    (R := fun res s' => r.toRowW.claim.Ends s args vs s₁ res s' ∧ s'.os = s.os ∧ (r.writes = true → namesKept r.prog r.keeps s.heap s'.heap ∧ ∀ x ∈ r.records, ∀ a, classAt s.heap x.1 = some a → recordClass s'.heap a x.1 (x.2.map (·.1)) = true))
    (Shared.asleep_of_life hal.2.2.2 hz) (by
      refine wpC_bind (wpC_any (wpAny_nsGet G₁.T.g ?_))
      rw [h1]
      refine wpC_bind (wpC_mono hcall (fun v s' g => ?_) fun e s' g => ?_)
      · have z := g.laid (c := r.toRowW.claim) hsame hwi hi L
        exact wpC_pure ⟨_, rfl, ⟨z.1, z.2.1, fun q => ⟨namesKept_of hT hg _ keeps g.2.1.old, noTable hwr q⟩⟩, leftWithCleanup_false_of_bare z.2.2⟩
      · have z := g.laid (c := r.toRowW.claim) hsame hwi hi L
        exact ⟨⟨z.1, z.2.1, fun q => ⟨namesKept_of hT hg _ keeps g.2.1.old, noTable hwr q⟩⟩, leftWithCleanup_false_of_bare z.2.2⟩)
  obtain ⟨eh, _, _, eo, _⟩ := Shared.forget_eq hfo
  have hE := hE.congr eh
  rw [← eh] at hkp
  rw [← eo] at hos
  have hlife : s'.heap.life = s.heap.life := (runN_life _ _ _ hrun).trans hal.2.2.2
  refine NG ⟨vs, s₁, hlaid, k, _, s', hsched, ?_, (fun _ i x hx => by rw [hgens] at hx; simp at hx), hkp, by rw [hlife], Shared.rest_eq hos⟩
  rcases hE with ⟨v, rfl, d1, d2, d3, d4, d5⟩ | ⟨e, ob, cls, rfl, d1, d2, d3, d4, d5⟩
  · exact .inl ⟨v, rfl, d1, d2, d3, fun b o y _ => d4 b o y, d5⟩
  · exact .inr ⟨e, ob, cls, rfl, d1, d2, d3, d4, fun b o y _ => d5 b o y⟩
end PySem.W
end Mine
end
section
open PySem PySem.W PyProof.Rows
set_option maxRecDepth 100000
namespace Mine.hd
noncomputable def nthS : Nat → List Stmt → Stmt
  | _, [] => .Pass ⟨0, 0, 0, 0⟩
  | 0, a :: _ => a
  | n + 1, _ :: l => nthS n l
noncomputable def S0 (n : Nat) : Stmt := nthS n PySem.Challenge.pw_jj0019_01.main.body
noncomputable def cB : Stmt → List Stmt
  | .ClassDef _ _ _ b .. => b
  | _ => []
noncomputable def S1 (n m : Nat) : Stmt := nthS m (cB (S0 n))
noncomputable def dP : Stmt → Arguments
  | .FunctionDef _ a .. => a
  | _ => ⟨[], [], none, [], [], none, []⟩
noncomputable def dB : Stmt → List Stmt
  | .FunctionDef _ _ b .. => b
  | _ => []
noncomputable def dS : Stmt → Scope
  | .FunctionDef _ _ _ _ _ _ s .. => s
  | _ => { kind := .function, names := [], isGenerator := false, isCoroutine := false }
set_option maxHeartbeats 4000000 in
noncomputable def view_39 : Program := by
  refine' (?q : (l : List Stmt) → l = [S0 0, S0 2, S0 3, S0 4, S0 5, S0 6, S0 7, S0 8, S0 9, S0 11, S0 13, S0 14, S0 15, S0 16, S0 17, S0 18, S0 19, S0 20, S0 21, S0 22] → (a : Scope) → a = PySem.Challenge.pw_jj0019_01.main.scope → (b : Bool) → b = PySem.Challenge.pw_jj0019_01.main.futureAnnotations → (c : Str) → c = PySem.Challenge.pw_jj0019_01.main.file → (d : List (Str × Const)) → d = PySem.Challenge.pw_jj0019_01.main.more → (e : List (Str × Bool × Module)) → e = PySem.Challenge.pw_jj0019_01.modules → (f : List Parse) → f = PySem.Challenge.pw_jj0019_01.parses → (g : List Str) → g = PySem.Challenge.pw_jj0019_01.absent → (h : List Parse) → h = PySem.Challenge.pw_jj0019_01.harvested → (i : Given) → i = PySem.Challenge.pw_jj0019_01.given → Program) _ ?hl _ ?ha _ ?hb _ ?hc _ ?hd _ ?he _ ?hf _ ?hg _ ?hh _ ?hi
  case q => exact fun l _ a _ b _ c _ d _ e _ f _ g _ h _ i _ => ⟨⟨l, a, b, c, d⟩, e, f, g, h, i⟩
  case hl | ha | hb | hc | hd | he | hf | hg | hh | hi => dsimp only [S0, nthS, PySem.Challenge.pw_jj0019_01]; exact rfl
set_option maxHeartbeats 4000000 in
noncomputable def heap_39 : Params → Frag := fun P => (nat_lit 2, { cls := Value.none, data := Data.dict #[{ hash := PyData.keyHash P (Str.ofString "type.__subclasses__.Exception.0"), key := Value.str (Str.ofString "type.__subclasses__.Exception.0") 224, val := Value.int 41 0 }, { hash := PyData.keyHash P (Str.ofString "type.__subclasses__.Exception.n"), key := Value.str (Str.ofString "type.__subclasses__.Exception.n") 225, val := Value.int 2 0 }, { hash := PyData.keyHash P (Str.ofString "type.__subclasses__.Exception.1"), key := Value.str (Str.ofString "type.__subclasses__.Exception.1") 256, val := Value.int 63 0 }] 3 }) :: (nat_lit 3, { cls := Value.type "dict", data := Data.dict #[{ hash := PyData.keyHash P (Str.ofString "__name__"), key := Value.str (Str.ofString "__name__") 165, val := Value.str (Str.ofString "law_jj0019_01") 555 }, { hash := PyData.keyHash P (Str.ofString "__doc__"), key := Value.str (Str.ofString "__doc__") 166, val := Value.none }, { hash := PyData.keyHash P (Str.ofString "__package__"), key := Value.str (Str.ofString "__package__") 167, val := Value.none }, { hash := PyData.keyHash P (Str.ofString "__loader__"), key := Value.str (Str.ofString "__loader__") 168, val := Value.builtin "__main__.__loader__#opaque" }, { hash := PyData.keyHash P (Str.ofString "__spec__"), key := Value.str (Str.ofString "__spec__") 169, val := Value.none }, { hash := PyData.keyHash P (Str.ofString "__annotations__"), key := Value.str (Str.ofString "__annotations__") 170, val := Value.ref 6 }, { hash := PyData.keyHash P (Str.ofString "__builtins__"), key := Value.str (Str.ofString "__builtins__") 171, val := Value.ref 4 }, { hash := PyData.keyHash P (Str.ofString "__file__"), key := Value.str (Str.ofString "__file__") 173, val := Value.str (Str.ofString "/claim/cut.py") 172 }, { hash := PyData.keyHash P (Str.ofString "__cached__"), key := Value.str (Str.ofString "__cached__") 174, val := Value.none }, { hash := PyData.keyHash P (Str.ofString "_wall"), key := Value.str (Str.ofString "_wall") 193, val := Value.ref 21 }, { hash := PyData.keyHash P (Str.ofString "PyFATException"), key := Value.str (Str.ofString "PyFATException") 227, val := Value.ref 41 }, { hash := PyData.keyHash P (Str.ofString "NotAFatEntryException"), key := Value.str (Str.ofString "NotAFatEntryException") 259, val := Value.ref 63 }, { hash := PyData.keyHash P (Str.ofString "errno"), key := Value.str (Str.ofString "errno") 309, val := Value.ref 76 }, { hash := PyData.keyHash P (Str.ofString "FAT_OEM_ENCODING"), key := Value.str (Str.ofString "FAT_OEM_ENCODING") 311, val := Value.str (Str.ofString "latin-1") 310 }, { hash := PyData.keyHash P (Str.ofString "encoded"), key := Value.str (Str.ofString "encoded") 317, val := Value.ref 85 }, { hash := PyData.keyHash P (Str.ofString "decoded"), key := Value.str (Str.ofString "decoded") 323, val := Value.ref 90 }, { hash := PyData.keyHash P (Str.ofString "splitext"), key := Value.str (Str.ofString "splitext") 333, val := Value.ref 97 }, { hash := PyData.keyHash P (Str.ofString "init_check"), key := Value.str (Str.ofString "init_check") 340, val := Value.ref 104 }, { hash := PyData.keyHash P (Str.ofString "EightDotThree"), key := Value.str (Str.ofString "EightDotThree") 554, val := Value.ref 223 }, { hash := PyData.keyHash P (Str.ofString "_law_good"), key := Value.str (Str.ofString "_law_good") 558, val := Value.str (Str.ofString "ABCDEFGHIJKLMNOPQRSTUVWXYZ0123456789 !#$%&'()-@^_`{}~") 557 }, { hash := PyData.keyHash P (Str.ofString "_law_sign"), key := Value.str (Str.ofString "_law_sign") 566, val := Value.ref 234 }, { hash := PyData.keyHash P (Str.ofString "_law_drawn"), key := Value.str (Str.ofString "_law_drawn") 572, val := Value.ref 239 }, { hash := PyData.keyHash P (Str.ofString "_law_bare"), key := Value.str (Str.ofString "_law_bare") 579, val := Value.ref 246 }, { hash := PyData.keyHash P (Str.ofString "_law_parts"), key := Value.str (Str.ofString "_law_parts") 585, val := Value.ref 251 }, { hash := PyData.keyHash P (Str.ofString "_law_eleven"), key := Value.str (Str.ofString "_law_eleven") 591, val := Value.ref 256 }, { hash := PyData.keyHash P (Str.ofString "_law_text"), key := Value.str (Str.ofString "_law_text") 597, val := Value.ref 261 }, { hash := PyData.keyHash P (Str.ofString "_law_sum"), key := Value.str (Str.ofString "_law_sum") 606, val := Value.ref 268 }, { hash := PyData.keyHash P (Str.ofString "_law_same"), key := Value.str (Str.ofString "_law_same") 612, val := Value.ref 273 }, { hash := PyData.keyHash P (Str.ofString "law"), key := Value.str (Str.ofString "law") 618, val := Value.ref 278 }] 29 }) :: (nat_lit 15, { cls := Value.type "tuple", data := Data.seq #[] }) :: (nat_lit 17, { cls := Value.type "tuple", data := Data.seq #[Value.str (Str.ofString "k") 190] }) :: (nat_lit 18, { cls := Value.type "tuple", data := Data.seq #[] }) :: (nat_lit 20, { cls := Value.type "code", data := Data.fields #[Value.str (Str.ofString "_wall") 187, Value.str (Str.ofString "_wall") 188, Value.str (Str.ofString "/claim/cut.py") 189, Value.int 1 0, Value.int 1 0, Value.int 0 0, Value.int 0 0, Value.int 3 0, Value.ref 15, Value.bool true, Value.int 181 0, Value.ref 16, Value.none, Value.ref 17, Value.ref 18, Value.ref 19, Value.int 191 0, Value.int 1 0, Value.str (Str.ofString "/claim/cut.py") 192] }) :: (nat_lit 21, { cls := Value.type "function", data := Data.func { name := Str.ofString "_wall", qualname := Str.ofString "_wall", params := (by refine' (?f : (x : Arguments) → x = dP (S0 0) → Arguments) _ ?h; (case f => exact fun x _ => x); (case h => dsimp only [S0, S1, nthS, cB, dP, dB, dS, PySem.Challenge.pw_jj0019_01]; exact rfl)), body := FuncBody.stmts (by refine' (?f : (x : List Stmt) → x = dB (S0 0) → List Stmt) _ ?h; (case f => exact fun x _ => x); (case h => dsimp only [S0, S1, nthS, cB, dP, dB, dS, PySem.Challenge.pw_jj0019_01]; exact rfl)), scope := (by refine' (?f : (x : Scope) → x = dS (S0 0) → Scope) _ ?h; (case f => exact fun x _ => x); (case h => dsimp only [S0, S1, nthS, cB, dP, dB, dS, PySem.Challenge.pw_jj0019_01]; exact rfl)), globals := 3, closure := [], defaults := Value.none, kwdefaults := Value.none, pyModule := Value.str (Str.ofString "__main__") 164, code := Value.ref 20 } }) :: (nat_lit 22, { cls := Value.type "tuple", data := Data.seq #[Value.type "Exception"] }) :: (nat_lit 25, { cls := Value.type "cell", data := Data.cell (some (Value.ref 41)) }) :: (nat_lit 30, { cls := Value.type "tuple", data := Data.seq #[Value.none] }) :: (nat_lit 31, { cls := Value.type "tuple", data := Data.seq #[Value.ref 25] }) :: (nat_lit 32, { cls := Value.type "tuple", data := Data.seq #[Value.str (Str.ofString "__class__") 211] }) :: (nat_lit 34, { cls := Value.type "tuple", data := Data.seq #[Value.str (Str.ofString "self") 212, Value.str (Str.ofString "msg") 213, Value.str (Str.ofString "errno") 214] }) :: (nat_lit 35, { cls := Value.type "tuple", data := Data.seq #[] }) :: (nat_lit 37, { cls := Value.type "code", data := Data.fields #[Value.str (Str.ofString "__init__") 208, Value.str (Str.ofString "PyFATException.__init__") 209, Value.str (Str.ofString "/claim/cut.py") 210, Value.int 7 0, Value.int 3 0, Value.int 0 0, Value.int 0 0, Value.int 3 0, Value.ref 32, Value.bool true, Value.int 181 0, Value.ref 33, Value.none, Value.ref 34, Value.ref 35, Value.ref 36, Value.int 215 0, Value.int 7 0, Value.str (Str.ofString "/claim/cut.py") 216] }) :: (nat_lit 38, { cls := Value.type "function", data := Data.func { name := Str.ofString "__init__", qualname := Str.ofString "PyFATException.__init__", params := (by refine' (?f : (x : Arguments) → x = dP (S1 2 0) → Arguments) _ ?h; (case f => exact fun x _ => x); (case h => dsimp only [S0, S1, nthS, cB, dP, dB, dS, PySem.Challenge.pw_jj0019_01]; exact rfl)), body := FuncBody.stmts (by refine' (?f : (x : List Stmt) → x = dB (S1 2 0) → List Stmt) _ ?h; (case f => exact fun x _ => x); (case h => dsimp only [S0, S1, nthS, cB, dP, dB, dS, PySem.Challenge.pw_jj0019_01]; exact rfl)), scope := (by refine' (?f : (x : Scope) → x = dS (S1 2 0) → Scope) _ ?h; (case f => exact fun x _ => x); (case h => dsimp only [S0, S1, nthS, cB, dP, dB, dS, PySem.Challenge.pw_jj0019_01]; exact rfl)), globals := 3, closure := [(Str.ofString "__class__", 25)], defaults := Value.ref 30, kwdefaults := Value.none, pyModule := Value.str (Str.ofString "pyfatfs._exceptions") 194, code := Value.ref 37, closureTuple := Value.ref 31 } }) :: (nat_lit 39, { cls := Value.type "tuple", data := Data.seq #[Value.str (Str.ofString "errno") 218] }) :: (nat_lit 40, { cls := Value.type "dict", data := Data.dict #[{ hash := PyData.keyHash P (Str.ofString "__module__"), key := Value.str (Str.ofString "__module__") 203, val := Value.str (Str.ofString "pyfatfs._exceptions") 194 }, { hash := PyData.keyHash P (Str.ofString "__firstlineno__"), key := Value.str (Str.ofString "__firstlineno__") 207, val := Value.int 5 206 }, { hash := PyData.keyHash P (Str.ofString "__init__"), key := Value.str (Str.ofString "__init__") 217, val := Value.ref 38 }, { hash := PyData.keyHash P (Str.ofString "__static_attributes__"), key := Value.str (Str.ofString "__static_attributes__") 219, val := Value.ref 39 }, { hash := PyData.keyHash P (Str.ofString "__weakref__"), key := Value.str (Str.ofString "__weakref__") 222, val := Value.ref 42 }, { hash := PyData.keyHash P (Str.ofString "__doc__"), key := Value.str (Str.ofString "__doc__") 223, val := Value.none }] 4 }) :: (nat_lit 41, { cls := Value.type "type", data := Data.cls { name := Str.ofString "PyFATException", bases := [Value.type "Exception"], mro := [Value.ref 41, Value.type "Exception", Value.type "BaseException", Value.type "object"], ns := 40, qualname := Str.ofString "PyFATException" }, slots := #[some (Value.ref 22), none, some (Value.str (Str.ofString "PyFATException") 196), some (Value.str (Str.ofString "PyFATException") 204), some (Value.builtin "Exception.__new__"), some (Value.bool true)] }) :: (nat_lit 42, { cls := Value.type "getset_descriptor", data := Data.fields #[Value.str (Str.ofString "__weakref__") 221, Value.ref 41, Value.builtin "ExceptionGroup.__weakref__", Value.none] }) :: (nat_lit 45, { cls := Value.type "tuple", data := Data.seq #[Value.type "Exception"] }) :: (nat_lit 48, { cls := Value.type "cell", data := Data.cell (some (Value.ref 63)) }) :: (nat_lit 53, { cls := Value.type "tuple", data := Data.seq #[Value.ref 48] }) :: (nat_lit 54, { cls := Value.type "tuple", data := Data.seq #[Value.str (Str.ofString "__class__") 243] }) :: (nat_lit 56, { cls := Value.type "tuple", data := Data.seq #[Value.str (Str.ofString "self") 244, Value.str (Str.ofString "msg") 245, Value.str (Str.ofString "free_type") 246] }) :: (nat_lit 57, { cls := Value.type "tuple", data := Data.seq #[] }) :: (nat_lit 59, { cls := Value.type "code", data := Data.fields #[Value.str (Str.ofString "__init__") 240, Value.str (Str.ofString "NotAFatEntryException.__init__") 241, Value.str (Str.ofString "/claim/cut.py") 242, Value.int 12 0, Value.int 3 0, Value.int 0 0, Value.int 0 0, Value.int 3 0, Value.ref 54, Value.bool true, Value.int 181 0, Value.ref 55, Value.none, Value.ref 56, Value.ref 57, Value.ref 58, Value.int 247 0, Value.int 12 0, Value.str (Str.ofString "/claim/cut.py") 248] }) :: (nat_lit 60, { cls := Value.type "function", data := Data.func { name := Str.ofString "__init__", qualname := Str.ofString "NotAFatEntryException.__init__", params := (by refine' (?f : (x : Arguments) → x = dP (S1 3 0) → Arguments) _ ?h; (case f => exact fun x _ => x); (case h => dsimp only [S0, S1, nthS, cB, dP, dB, dS, PySem.Challenge.pw_jj0019_01]; exact rfl)), body := FuncBody.stmts (by refine' (?f : (x : List Stmt) → x = dB (S1 3 0) → List Stmt) _ ?h; (case f => exact fun x _ => x); (case h => dsimp only [S0, S1, nthS, cB, dP, dB, dS, PySem.Challenge.pw_jj0019_01]; exact rfl)), scope := (by refine' (?f : (x : Scope) → x = dS (S1 3 0) → Scope) _ ?h; (case f => exact fun x _ => x); (case h => dsimp only [S0, S1, nthS, cB, dP, dB, dS, PySem.Challenge.pw_jj0019_01]; exact rfl)), globals := 3, closure := [(Str.ofString "__class__", 48)], defaults := Value.none, kwdefaults := Value.none, pyModule := Value.str (Str.ofString "pyfatfs._exceptions") 194, code := Value.ref 59, closureTuple := Value.ref 53 } }) :: (nat_lit 61, { cls := Value.type "tuple", data := Data.seq #[Value.str (Str.ofString "free_type") 250] }) :: (nat_lit 62, { cls := Value.type "dict", data := Data.dict #[{ hash := PyData.keyHash P (Str.ofString "__module__"), key := Value.str (Str.ofString "__module__") 235, val := Value.str (Str.ofString "pyfatfs._exceptions") 194 }, { hash := PyData.keyHash P (Str.ofString "__firstlineno__"), key := Value.str (Str.ofString "__firstlineno__") 239, val := Value.int 10 238 }, { hash := PyData.keyHash P (Str.ofString "__init__"), key := Value.str (Str.ofString "__init__") 249, val := Value.ref 60 }, { hash := PyData.keyHash P (Str.ofString "__static_attributes__"), key := Value.str (Str.ofString "__static_attributes__") 251, val := Value.ref 61 }, { hash := PyData.keyHash P (Str.ofString "__weakref__"), key := Value.str (Str.ofString "__weakref__") 254, val := Value.ref 64 }, { hash := PyData.keyHash P (Str.ofString "__doc__"), key := Value.str (Str.ofString "__doc__") 255, val := Value.none }] 4 }) :: (nat_lit 63, { cls := Value.type "type", data := Data.cls { name := Str.ofString "NotAFatEntryException", bases := [Value.type "Exception"], mro := [Value.ref 63, Value.type "Exception", Value.type "BaseException", Value.type "object"], ns := 62, qualname := Str.ofString "NotAFatEntryException" }, slots := #[some (Value.ref 45), none, some (Value.str (Str.ofString "NotAFatEntryException") 228), some (Value.str (Str.ofString "NotAFatEntryException") 236), some (Value.builtin "Exception.__new__"), some (Value.bool true)] }) :: (nat_lit 64, { cls := Value.type "getset_descriptor", data := Data.fields #[Value.str (Str.ofString "__weakref__") 253, Value.ref 63, Value.builtin "ExceptionGroup.__weakref__", Value.none] }) :: (nat_lit 74, { cls := Value.type "tuple", data := Data.seq #[] }) :: (nat_lit 75, { cls := Value.type "dict", data := Data.dict #[{ hash := PyData.keyHash P (Str.ofString "__module__"), key := Value.str (Str.ofString "__module__") 267, val := Value.str (Str.ofString "pyfatfs._exceptions") 194 }, { hash := PyData.keyHash P (Str.ofString "__firstlineno__"), key := Value.str (Str.ofString "__firstlineno__") 271, val := Value.int 15 270 }, { hash := PyData.keyHash P (Str.ofString "ENOENT"), key := Value.str (Str.ofString "ENOENT") 273, val := Value.int 2 272 }, { hash := PyData.keyHash P (Str.ofString "ENXIO"), key := Value.str (Str.ofString "ENXIO") 275, val := Value.int 6 274 }, { hash := PyData.keyHash P (Str.ofString "E2BIG"), key := Value.str (Str.ofString "E2BIG") 277, val := Value.int 7 276 }, { hash := PyData.keyHash P (Str.ofString "EFAULT"), key := Value.str (Str.ofString "EFAULT") 279, val := Value.int 14 278 }, { hash := PyData.keyHash P (Str.ofString "EEXIST"), key := Value.str (Str.ofString "EEXIST") 281, val := Value.int 17 280 }, { hash := PyData.keyHash P (Str.ofString "ENOTDIR"), key := Value.str (Str.ofString "ENOTDIR") 283, val := Value.int 20 282 }, { hash := PyData.keyHash P (Str.ofString "EISDIR"), key := Value.str (Str.ofString "EISDIR") 285, val := Value.int 21 284 }, { hash := PyData.keyHash P (Str.ofString "EINVAL"), key := Value.str (Str.ofString "EINVAL") 287, val := Value.int 22 286 }, { hash := PyData.keyHash P (Str.ofString "EMFILE"), key := Value.str (Str.ofString "EMFILE") 289, val := Value.int 24 288 }, { hash := PyData.keyHash P (Str.ofString "EACCES"), key := Value.str (Str.ofString "EACCES") 291, val := Value.int 13 290 }, { hash := PyData.keyHash P (Str.ofString "ENOSPC"), key := Value.str (Str.ofString "ENOSPC") 293, val := Value.int 28 292 }, { hash := PyData.keyHash P (Str.ofString "EROFS"), key := Value.str (Str.ofString "EROFS") 295, val := Value.int 30 294 }, { hash := PyData.keyHash P (Str.ofString "ENAMETOOLONG"), key := Value.str (Str.ofString "ENAMETOOLONG") 297, val := Value.int 36 296 }, { hash := PyData.keyHash P (Str.ofString "EBADE"), key := Value.str (Str.ofString "EBADE") 299, val := Value.int 52 298 }, { hash := PyData.keyHash P (Str.ofString "ETOOMANYREFS"), key := Value.str (Str.ofString "ETOOMANYREFS") 301, val := Value.int 109 300 }, { hash := PyData.keyHash P (Str.ofString "__static_attributes__"), key := Value.str (Str.ofString "__static_attributes__") 302, val := Value.ref 74 }, { hash := PyData.keyHash P (Str.ofString "__dict__"), key := Value.str (Str.ofString "__dict__") 304, val := Value.ref 77 }, { hash := PyData.keyHash P (Str.ofString "__weakref__"), key := Value.str (Str.ofString "__weakref__") 306, val := Value.ref 78 }, { hash := PyData.keyHash P (Str.ofString "__doc__"), key := Value.str (Str.ofString "__doc__") 307, val := Value.none }] 4 }) :: (nat_lit 76, { cls := Value.type "type", data := Data.cls { name := Str.ofString "errno", bases := [Value.type "object"], mro := [Value.ref 76, Value.type "object"], ns := 75, qualname := Str.ofString "errno" }, slots := #[none, none, some (Value.str (Str.ofString "errno") 260), some (Value.str (Str.ofString "errno") 268), some (Value.builtin "object.__new__"), some (Value.bool true)] }) :: (nat_lit 77, { cls := Value.type "getset_descriptor", data := Data.fields #[Value.str (Str.ofString "__dict__") 303, Value.ref 76, Value.builtin "function.__dict__", Value.builtin "function.__dict__#set"] }) :: (nat_lit 78, { cls := Value.type "getset_descriptor", data := Data.fields #[Value.str (Str.ofString "__weakref__") 305, Value.ref 76, Value.builtin "ExceptionGroup.__weakref__", Value.none] }) :: (nat_lit 81, { cls := Value.type "tuple", data := Data.seq #[] }) :: (nat_lit 84, { cls := Value.type "code", data := Data.fields #[Value.str (Str.ofString "encoded") 312, Value.str (Str.ofString "encoded") 313, Value.str (Str.ofString "/claim/cut.py") 314, Value.int 32 0, Value.int 1 0, Value.int 0 0, Value.int 0 0, Value.int 3 0, Value.ref 81, Value.bool true, Value.int 181 0, Value.ref 82, Value.none, Value.none, Value.none, Value.ref 83, Value.int 315 0, Value.int 32 0, Value.str (Str.ofString "/claim/cut.py") 316] }) :: (nat_lit 85, { cls := Value.type "function", data := Data.func { name := Str.ofString "encoded", qualname := Str.ofString "encoded", params := (by refine' (?f : (x : Arguments) → x = dP (S0 6) → Arguments) _ ?h; (case f => exact fun x _ => x); (case h => dsimp only [S0, S1, nthS, cB, dP, dB, dS, PySem.Challenge.pw_jj0019_01]; exact rfl)), body := FuncBody.stmts (by refine' (?f : (x : List Stmt) → x = dB (S0 6) → List Stmt) _ ?h; (case f => exact fun x _ => x); (case h => dsimp only [S0, S1, nthS, cB, dP, dB, dS, PySem.Challenge.pw_jj0019_01]; exact rfl)), scope := (by refine' (?f : (x : Scope) → x = dS (S0 6) → Scope) _ ?h; (case f => exact fun x _ => x); (case h => dsimp only [S0, S1, nthS, cB, dP, dB, dS, PySem.Challenge.pw_jj0019_01]; exact rfl)), globals := 3, closure := [], defaults := Value.none, kwdefaults := Value.none, pyModule := Value.str (Str.ofString "pyfatfs._exceptions") 194, code := Value.ref 84 } }) :: (nat_lit 86, { cls := Value.type "tuple", data := Data.seq #[] }) :: (nat_lit 89, { cls := Value.type "code", data := Data.fields #[Value.str (Str.ofString "decoded") 318, Value.str (Str.ofString "decoded") 319, Value.str (Str.ofString "/claim/cut.py") 320, Value.int 34 0, Value.int 1 0, Value.int 0 0, Value.int 0 0, Value.int 3 0, Value.ref 86, Value.bool true, Value.int 181 0, Value.ref 87, Value.none, Value.none, Value.none, Value.ref 88, Value.int 321 0, Value.int 34 0, Value.str (Str.ofString "/claim/cut.py") 322] }) :: (nat_lit 90, { cls := Value.type "function", data := Data.func { name := Str.ofString "decoded", qualname := Str.ofString "decoded", params := (by refine' (?f : (x : Arguments) → x = dP (S0 7) → Arguments) _ ?h; (case f => exact fun x _ => x); (case h => dsimp only [S0, S1, nthS, cB, dP, dB, dS, PySem.Challenge.pw_jj0019_01]; exact rfl)), body := FuncBody.stmts (by refine' (?f : (x : List Stmt) → x = dB (S0 7) → List Stmt) _ ?h; (case f => exact fun x _ => x); (case h => dsimp only [S0, S1, nthS, cB, dP, dB, dS, PySem.Challenge.pw_jj0019_01]; exact rfl)), scope := (by refine' (?f : (x : Scope) → x = dS (S0 7) → Scope) _ ?h; (case f => exact fun x _ => x); (case h => dsimp only [S0, S1, nthS, cB, dP, dB, dS, PySem.Challenge.pw_jj0019_01]; exact rfl)), globals := 3, closure := [], defaults := Value.none, kwdefaults := Value.none, pyModule := Value.str (Str.ofString "pyfatfs._exceptions") 194, code := Value.ref 89 } }) :: (nat_lit 91, { cls := Value.type "tuple", data := Data.seq #[] }) :: (nat_lit 93, { cls := Value.type "tuple", data := Data.seq #[Value.str (Str.ofString "path") 327, Value.str (Str.ofString "dot") 328, Value.str (Str.ofString "start") 329, Value.str (Str.ofString "k") 330] }) :: (nat_lit 94, { cls := Value.type "tuple", data := Data.seq #[] }) :: (nat_lit 96, { cls := Value.type "code", data := Data.fields #[Value.str (Str.ofString "splitext") 324, Value.str (Str.ofString "splitext") 325, Value.str (Str.ofString "/claim/cut.py") 326, Value.int 36 0, Value.int 1 0, Value.int 0 0, Value.int 0 0, Value.int 3 0, Value.ref 91, Value.bool true, Value.int 181 0, Value.ref 92, Value.none, Value.ref 93, Value.ref 94, Value.ref 95, Value.int 331 0, Value.int 36 0, Value.str (Str.ofString "/claim/cut.py") 332] }) :: (nat_lit 97, { cls := Value.type "function", data := Data.func { name := Str.ofString "splitext", qualname := Str.ofString "splitext", params := (by refine' (?f : (x : Arguments) → x = dP (S0 8) → Arguments) _ ?h; (case f => exact fun x _ => x); (case h => dsimp only [S0, S1, nthS, cB, dP, dB, dS, PySem.Challenge.pw_jj0019_01]; exact rfl)), body := FuncBody.stmts (by refine' (?f : (x : List Stmt) → x = dB (S0 8) → List Stmt) _ ?h; (case f => exact fun x _ => x); (case h => dsimp only [S0, S1, nthS, cB, dP, dB, dS, PySem.Challenge.pw_jj0019_01]; exact rfl)), scope := (by refine' (?f : (x : Scope) → x = dS (S0 8) → Scope) _ ?h; (case f => exact fun x _ => x); (case h => dsimp only [S0, S1, nthS, cB, dP, dB, dS, PySem.Challenge.pw_jj0019_01]; exact rfl)), globals := 3, closure := [], defaults := Value.none, kwdefaults := Value.none, pyModule := Value.str (Str.ofString "pyfatfs._exceptions") 194, code := Value.ref 96 } }) :: (nat_lit 98, { cls := Value.type "tuple", data := Data.seq #[] }) :: (nat_lit 100, { cls := Value.type "tuple", data := Data.seq #[Value.str (Str.ofString "one") 337] }) :: (nat_lit 101, { cls := Value.type "tuple", data := Data.seq #[] }) :: (nat_lit 103, { cls := Value.type "code", data := Data.fields #[Value.str (Str.ofString "init_check") 334, Value.str (Str.ofString "init_check") 335, Value.str (Str.ofString "/claim/cut.py") 336, Value.int 43 0, Value.int 1 0, Value.int 0 0, Value.int 0 0, Value.int 3 0, Value.ref 98, Value.bool true, Value.int 181 0, Value.ref 99, Value.none, Value.ref 100, Value.ref 101, Value.ref 102, Value.int 338 0, Value.int 43 0, Value.str (Str.ofString "/claim/cut.py") 339] }) :: (nat_lit 104, { cls := Value.type "function", data := Data.func { name := Str.ofString "init_check", qualname := Str.ofString "init_check", params := (by refine' (?f : (x : Arguments) → x = dP (S0 9) → Arguments) _ ?h; (case f => exact fun x _ => x); (case h => dsimp only [S0, S1, nthS, cB, dP, dB, dS, PySem.Challenge.pw_jj0019_01]; exact rfl)), body := FuncBody.stmts (by refine' (?f : (x : List Stmt) → x = dB (S0 9) → List Stmt) _ ?h; (case f => exact fun x _ => x); (case h => dsimp only [S0, S1, nthS, cB, dP, dB, dS, PySem.Challenge.pw_jj0019_01]; exact rfl)), scope := (by refine' (?f : (x : Scope) → x = dS (S0 9) → Scope) _ ?h; (case f => exact fun x _ => x); (case h => dsimp only [S0, S1, nthS, cB, dP, dB, dS, PySem.Challenge.pw_jj0019_01]; exact rfl)), globals := 3, closure := [], defaults := Value.none, kwdefaults := Value.none, pyModule := Value.str (Str.ofString "pyfatfs._exceptions") 194, code := Value.ref 103 } }) :: (nat_lit 112, { cls := Value.type "list", data := Data.seq #[Value.int 34 357, Value.int 42 358, Value.int 43 359, Value.int 44 360, Value.int 46 361, Value.int 47 362, Value.int 58 363, Value.int 59 364, Value.int 60 365, Value.int 61 366, Value.int 62 367, Value.int 63 368, Value.int 91 369, Value.int 92 370, Value.int 93 371, Value.int 124 372] }) :: (nat_lit 113, { cls := Value.type "tuple", data := Data.seq #[Value.str (Str.ofString "latin-1") 310] }) :: (nat_lit 114, { cls := Value.type "tuple", data := Data.seq #[] }) :: (nat_lit 116, { cls := Value.type "tuple", data := Data.seq #[Value.str (Str.ofString "self") 377, Value.str (Str.ofString "encoding") 378] }) :: (nat_lit 117, { cls := Value.type "tuple", data := Data.seq #[] }) :: (nat_lit 119, { cls := Value.type "code", data := Data.fields #[Value.str (Str.ofString "__init__") 374, Value.str (Str.ofString "EightDotThree.__init__") 375, Value.str (Str.ofString "/claim/cut.py") 376, Value.int 51 0, Value.int 2 0, Value.int 0 0, Value.int 0 0, Value.int 3 0, Value.ref 114, Value.bool true, Value.int 181 0, Value.ref 115, Value.none, Value.ref 116, Value.ref 117, Value.ref 118, Value.int 379 0, Value.int 51 0, Value.str (Str.ofString "/claim/cut.py") 380] }) :: (nat_lit 120, { cls := Value.type "function", data := Data.func { name := Str.ofString "__init__", qualname := Str.ofString "EightDotThree.__init__", params := (by refine' (?f : (x : Arguments) → x = dP (S1 11 2) → Arguments) _ ?h; (case f => exact fun x _ => x); (case h => dsimp only [S0, S1, nthS, cB, dP, dB, dS, PySem.Challenge.pw_jj0019_01]; exact rfl)), body := FuncBody.stmts (by refine' (?f : (x : List Stmt) → x = dB (S1 11 2) → List Stmt) _ ?h; (case f => exact fun x _ => x); (case h => dsimp only [S0, S1, nthS, cB, dP, dB, dS, PySem.Challenge.pw_jj0019_01]; exact rfl)), scope := (by refine' (?f : (x : Scope) → x = dS (S1 11 2) → Scope) _ ?h; (case f => exact fun x _ => x); (case h => dsimp only [S0, S1, nthS, cB, dP, dB, dS, PySem.Challenge.pw_jj0019_01]; exact rfl)), globals := 3, closure := [], defaults := Value.ref 113, kwdefaults := Value.none, pyModule := Value.str (Str.ofString "pyfatfs.EightDotThree") 341, code := Value.ref 119 } }) :: (nat_lit 121, { cls := Value.type "tuple", data := Data.seq #[] }) :: (nat_lit 123, { cls := Value.type "tuple", data := Data.seq #[Value.str (Str.ofString "self") 385, Value.str (Str.ofString "name") 386, Value.str (Str.ofString "base") 387, Value.str (Str.ofString "ext") 388, Value.str (Str.ofString "sep") 389] }) :: (nat_lit 124, { cls := Value.type "tuple", data := Data.seq #[] }) :: (nat_lit 126, { cls := Value.type "code", data := Data.fields #[Value.str (Str.ofString "as_text") 382, Value.str (Str.ofString "EightDotThree.as_text") 383, Value.str (Str.ofString "/claim/cut.py") 384, Value.int 56 0, Value.int 1 0, Value.int 0 0, Value.int 0 0, Value.int 3 0, Value.ref 121, Value.bool true, Value.int 181 0, Value.ref 122, Value.none, Value.ref 123, Value.ref 124, Value.ref 125, Value.int 390 0, Value.int 56 0, Value.str (Str.ofString "/claim/cut.py") 391] }) :: (nat_lit 127, { cls := Value.type "function", data := Data.func { name := Str.ofString "as_text", qualname := Str.ofString "EightDotThree.as_text", params := (by refine' (?f : (x : Arguments) → x = dP (S1 11 3) → Arguments) _ ?h; (case f => exact fun x _ => x); (case h => dsimp only [S0, S1, nthS, cB, dP, dB, dS, PySem.Challenge.pw_jj0019_01]; exact rfl)), body := FuncBody.stmts (by refine' (?f : (x : List Stmt) → x = dB (S1 11 3) → List Stmt) _ ?h; (case f => exact fun x _ => x); (case h => dsimp only [S0, S1, nthS, cB, dP, dB, dS, PySem.Challenge.pw_jj0019_01]; exact rfl)), scope := (by refine' (?f : (x : Scope) → x = dS (S1 11 3) → Scope) _ ?h; (case f => exact fun x _ => x); (case h => dsimp only [S0, S1, nthS, cB, dP, dB, dS, PySem.Challenge.pw_jj0019_01]; exact rfl)), globals := 3, closure := [], defaults := Value.none, kwdefaults := Value.none, pyModule := Value.str (Str.ofString "pyfatfs.EightDotThree") 341, code := Value.ref 126 } }) :: (nat_lit 128, { cls := Value.type "tuple", data := Data.seq #[] }) :: (nat_lit 130, { cls := Value.type "tuple", data := Data.seq #[Value.str (Str.ofString "self") 396] }) :: (nat_lit 131, { cls := Value.type "tuple", data := Data.seq #[] }) :: (nat_lit 133, { cls := Value.type "code", data := Data.fields #[Value.str (Str.ofString "as_bytes") 393, Value.str (Str.ofString "EightDotThree.as_bytes") 394, Value.str (Str.ofString "/claim/cut.py") 395, Value.int 65 0, Value.int 1 0, Value.int 0 0, Value.int 0 0, Value.int 3 0, Value.ref 128, Value.bool true, Value.int 181 0, Value.ref 129, Value.none, Value.ref 130, Value.ref 131, Value.ref 132, Value.int 397 0, Value.int 65 0, Value.str (Str.ofString "/claim/cut.py") 398] }) :: (nat_lit 134, { cls := Value.type "function", data := Data.func { name := Str.ofString "as_bytes", qualname := Str.ofString "EightDotThree.as_bytes", params := (by refine' (?f : (x : Arguments) → x = dP (S1 11 4) → Arguments) _ ?h; (case f => exact fun x _ => x); (case h => dsimp only [S0, S1, nthS, cB, dP, dB, dS, PySem.Challenge.pw_jj0019_01]; exact rfl)), body := FuncBody.stmts (by refine' (?f : (x : List Stmt) → x = dB (S1 11 4) → List Stmt) _ ?h; (case f => exact fun x _ => x); (case h => dsimp only [S0, S1, nthS, cB, dP, dB, dS, PySem.Challenge.pw_jj0019_01]; exact rfl)), scope := (by refine' (?f : (x : Scope) → x = dS (S1 11 4) → Scope) _ ?h; (case f => exact fun x _ => x); (case h => dsimp only [S0, S1, nthS, cB, dP, dB, dS, PySem.Challenge.pw_jj0019_01]; exact rfl)), globals := 3, closure := [], defaults := Value.none, kwdefaults := Value.none, pyModule := Value.str (Str.ofString "pyfatfs.EightDotThree") 341, code := Value.ref 133 } }) :: (nat_lit 135, { cls := Value.type "tuple", data := Data.seq #[] }) :: (nat_lit 137, { cls := Value.type "tuple", data := Data.seq #[Value.str (Str.ofString "self") 403] }) :: (nat_lit 138, { cls := Value.type "tuple", data := Data.seq #[] }) :: (nat_lit 140, { cls := Value.type "code", data := Data.fields #[Value.str (Str.ofString "get_unpadded_filename") 400, Value.str (Str.ofString "EightDotThree.get_unpadded_filename") 401, Value.str (Str.ofString "/claim/cut.py") 402, Value.int 68 0, Value.int 1 0, Value.int 0 0, Value.int 0 0, Value.int 3 0, Value.ref 135, Value.bool true, Value.int 181 0, Value.ref 136, Value.none, Value.ref 137, Value.ref 138, Value.ref 139, Value.int 404 0, Value.int 68 0, Value.str (Str.ofString "/claim/cut.py") 405] }) :: (nat_lit 141, { cls := Value.type "function", data := Data.func { name := Str.ofString "get_unpadded_filename", qualname := Str.ofString "EightDotThree.get_unpadded_filename", params := (by refine' (?f : (x : Arguments) → x = dP (S1 11 5) → Arguments) _ ?h; (case f => exact fun x _ => x); (case h => dsimp only [S0, S1, nthS, cB, dP, dB, dS, PySem.Challenge.pw_jj0019_01]; exact rfl)), body := FuncBody.stmts (by refine' (?f : (x : List Stmt) → x = dB (S1 11 5) → List Stmt) _ ?h; (case f => exact fun x _ => x); (case h => dsimp only [S0, S1, nthS, cB, dP, dB, dS, PySem.Challenge.pw_jj0019_01]; exact rfl)), scope := (by refine' (?f : (x : Scope) → x = dS (S1 11 5) → Scope) _ ?h; (case f => exact fun x _ => x); (case h => dsimp only [S0, S1, nthS, cB, dP, dB, dS, PySem.Challenge.pw_jj0019_01]; exact rfl)), globals := 3, closure := [], defaults := Value.none, kwdefaults := Value.none, pyModule := Value.str (Str.ofString "pyfatfs.EightDotThree") 341, code := Value.ref 140 } }) :: (nat_lit 142, { cls := Value.type "tuple", data := Data.seq #[] }) :: (nat_lit 144, { cls := Value.type "tuple", data := Data.seq #[Value.str (Str.ofString "name") 410] }) :: (nat_lit 145, { cls := Value.type "tuple", data := Data.seq #[] }) :: (nat_lit 147, { cls := Value.type "code", data := Data.fields #[Value.str (Str.ofString "_raise_8dot3_nonconformant") 407, Value.str (Str.ofString "EightDotThree._raise_8dot3_nonconformant") 408, Value.str (Str.ofString "/claim/cut.py") 409, Value.int 72 0, Value.int 1 0, Value.int 0 0, Value.int 0 0, Value.int 3 0, Value.ref 142, Value.bool true, Value.int 181 0, Value.ref 143, Value.none, Value.ref 144, Value.ref 145, Value.ref 146, Value.int 411 0, Value.int 72 0, Value.str (Str.ofString "/claim/cut.py") 412] }) :: (nat_lit 148, { cls := Value.type "function", data := Data.func { name := Str.ofString "_raise_8dot3_nonconformant", qualname := Str.ofString "EightDotThree._raise_8dot3_nonconformant", params := (by refine' (?f : (x : Arguments) → x = dP (S1 11 6) → Arguments) _ ?h; (case f => exact fun x _ => x); (case h => dsimp only [S0, S1, nthS, cB, dP, dB, dS, PySem.Challenge.pw_jj0019_01]; exact rfl)), body := FuncBody.stmts (by refine' (?f : (x : List Stmt) → x = dB (S1 11 6) → List Stmt) _ ?h; (case f => exact fun x _ => x); (case h => dsimp only [S0, S1, nthS, cB, dP, dB, dS, PySem.Challenge.pw_jj0019_01]; exact rfl)), scope := (by refine' (?f : (x : Scope) → x = dS (S1 11 6) → Scope) _ ?h; (case f => exact fun x _ => x); (case h => dsimp only [S0, S1, nthS, cB, dP, dB, dS, PySem.Challenge.pw_jj0019_01]; exact rfl)), globals := 3, closure := [], defaults := Value.none, kwdefaults := Value.none, pyModule := Value.str (Str.ofString "pyfatfs.EightDotThree") 341, annotations := some 151, code := Value.ref 147 } }) :: (nat_lit 149, { cls := Value.type "dict", data := Data.dict #[{ hash := PyData.keyHash P (Str.ofString "__module__"), key := Value.str (Str.ofString "__module__") 414, val := Value.str (Str.ofString "pyfatfs.EightDotThree") 341 }, { hash := PyData.keyHash P (Str.ofString "__name__"), key := Value.str (Str.ofString "__name__") 417, val := Value.str (Str.ofString "_raise_8dot3_nonconformant") 416 }, { hash := PyData.keyHash P (Str.ofString "__qualname__"), key := Value.str (Str.ofString "__qualname__") 420, val := Value.str (Str.ofString "EightDotThree._raise_8dot3_nonconformant") 419 }, { hash := PyData.keyHash P (Str.ofString "__doc__"), key := Value.str (Str.ofString "__doc__") 422, val := Value.none }, { hash := PyData.keyHash P (Str.ofString "__annotations__"), key := Value.str (Str.ofString "__annotations__") 424, val := Value.ref 151 }] 5 }) :: (nat_lit 150, { cls := Value.type "staticmethod", dict := some 149, data := Data.fields #[Value.ref 148, Value.bool false] }) :: (nat_lit 151, { cls := Value.type "dict", data := Data.dict #[] }) :: (nat_lit 152, { cls := Value.type "tuple", data := Data.seq #[] }) :: (nat_lit 154, { cls := Value.type "tuple", data := Data.seq #[Value.str (Str.ofString "self") 429, Value.str (Str.ofString "name") 430] }) :: (nat_lit 155, { cls := Value.type "tuple", data := Data.seq #[] }) :: (nat_lit 157, { cls := Value.type "code", data := Data.fields #[Value.str (Str.ofString "_set_name") 426, Value.str (Str.ofString "EightDotThree._set_name") 427, Value.str (Str.ofString "/claim/cut.py") 428, Value.int 76 0, Value.int 2 0, Value.int 0 0, Value.int 0 0, Value.int 3 0, Value.ref 152, Value.bool true, Value.int 181 0, Value.ref 153, Value.none, Value.ref 154, Value.ref 155, Value.ref 156, Value.int 431 0, Value.int 76 0, Value.str (Str.ofString "/claim/cut.py") 432] }) :: (nat_lit 158, { cls := Value.type "function", data := Data.func { name := Str.ofString "_set_name", qualname := Str.ofString "EightDotThree._set_name", params := (by refine' (?f : (x : Arguments) → x = dP (S1 11 7) → Arguments) _ ?h; (case f => exact fun x _ => x); (case h => dsimp only [S0, S1, nthS, cB, dP, dB, dS, PySem.Challenge.pw_jj0019_01]; exact rfl)), body := FuncBody.stmts (by refine' (?f : (x : List Stmt) → x = dB (S1 11 7) → List Stmt) _ ?h; (case f => exact fun x _ => x); (case h => dsimp only [S0, S1, nthS, cB, dP, dB, dS, PySem.Challenge.pw_jj0019_01]; exact rfl)), scope := (by refine' (?f : (x : Scope) → x = dS (S1 11 7) → Scope) _ ?h; (case f => exact fun x _ => x); (case h => dsimp only [S0, S1, nthS, cB, dP, dB, dS, PySem.Challenge.pw_jj0019_01]; exact rfl)), globals := 3, closure := [], defaults := Value.none, kwdefaults := Value.none, pyModule := Value.str (Str.ofString "pyfatfs.EightDotThree") 341, code := Value.ref 157 } }) :: (nat_lit 159, { cls := Value.type "tuple", data := Data.seq #[] }) :: (nat_lit 161, { cls := Value.type "tuple", data := Data.seq #[Value.str (Str.ofString "self") 437, Value.str (Str.ofString "name") 438] }) :: (nat_lit 162, { cls := Value.type "tuple", data := Data.seq #[] }) :: (nat_lit 164, { cls := Value.type "code", data := Data.fields #[Value.str (Str.ofString "set_byte_name") 434, Value.str (Str.ofString "EightDotThree.set_byte_name") 435, Value.str (Str.ofString "/claim/cut.py") 436, Value.int 82 0, Value.int 2 0, Value.int 0 0, Value.int 0 0, Value.int 3 0, Value.ref 159, Value.bool true, Value.int 181 0, Value.ref 160, Value.none, Value.ref 161, Value.ref 162, Value.ref 163, Value.int 439 0, Value.int 82 0, Value.str (Str.ofString "/claim/cut.py") 440] }) :: (nat_lit 165, { cls := Value.type "function", data := Data.func { name := Str.ofString "set_byte_name", qualname := Str.ofString "EightDotThree.set_byte_name", params := (by refine' (?f : (x : Arguments) → x = dP (S1 11 8) → Arguments) _ ?h; (case f => exact fun x _ => x); (case h => dsimp only [S0, S1, nthS, cB, dP, dB, dS, PySem.Challenge.pw_jj0019_01]; exact rfl)), body := FuncBody.stmts (by refine' (?f : (x : List Stmt) → x = dB (S1 11 8) → List Stmt) _ ?h; (case f => exact fun x _ => x); (case h => dsimp only [S0, S1, nthS, cB, dP, dB, dS, PySem.Challenge.pw_jj0019_01]; exact rfl)), scope := (by refine' (?f : (x : Scope) → x = dS (S1 11 8) → Scope) _ ?h; (case f => exact fun x _ => x); (case h => dsimp only [S0, S1, nthS, cB, dP, dB, dS, PySem.Challenge.pw_jj0019_01]; exact rfl)), globals := 3, closure := [], defaults := Value.none, kwdefaults := Value.none, pyModule := Value.str (Str.ofString "pyfatfs.EightDotThree") 341, code := Value.ref 164 } }) :: (nat_lit 166, { cls := Value.type "tuple", data := Data.seq #[] }) :: (nat_lit 168, { cls := Value.type "tuple", data := Data.seq #[Value.str (Str.ofString "self") 445, Value.str (Str.ofString "name") 446] }) :: (nat_lit 169, { cls := Value.type "tuple", data := Data.seq #[] }) :: (nat_lit 171, { cls := Value.type "code", data := Data.fields #[Value.str (Str.ofString "set_str_name") 442, Value.str (Str.ofString "EightDotThree.set_str_name") 443, Value.str (Str.ofString "/claim/cut.py") 444, Value.int 92 0, Value.int 2 0, Value.int 0 0, Value.int 0 0, Value.int 3 0, Value.ref 166, Value.bool true, Value.int 181 0, Value.ref 167, Value.none, Value.ref 168, Value.ref 169, Value.ref 170, Value.int 447 0, Value.int 92 0, Value.str (Str.ofString "/claim/cut.py") 448] }) :: (nat_lit 172, { cls := Value.type "function", data := Data.func { name := Str.ofString "set_str_name", qualname := Str.ofString "EightDotThree.set_str_name", params := (by refine' (?f : (x : Arguments) → x = dP (S1 11 9) → Arguments) _ ?h; (case f => exact fun x _ => x); (case h => dsimp only [S0, S1, nthS, cB, dP, dB, dS, PySem.Challenge.pw_jj0019_01]; exact rfl)), body := FuncBody.stmts (by refine' (?f : (x : List Stmt) → x = dB (S1 11 9) → List Stmt) _ ?h; (case f => exact fun x _ => x); (case h => dsimp only [S0, S1, nthS, cB, dP, dB, dS, PySem.Challenge.pw_jj0019_01]; exact rfl)), scope := (by refine' (?f : (x : Scope) → x = dS (S1 11 9) → Scope) _ ?h; (case f => exact fun x _ => x); (case h => dsimp only [S0, S1, nthS, cB, dP, dB, dS, PySem.Challenge.pw_jj0019_01]; exact rfl)), globals := 3, closure := [], defaults := Value.none, kwdefaults := Value.none, pyModule := Value.str (Str.ofString "pyfatfs.EightDotThree") 341, code := Value.ref 171 } }) :: (nat_lit 173, { cls := Value.type "tuple", data := Data.seq #[] }) :: (nat_lit 175, { cls := Value.type "tuple", data := Data.seq #[Value.str (Str.ofString "self") 453, Value.str (Str.ofString "chksum") 454, Value.str (Str.ofString "c") 455] }) :: (nat_lit 176, { cls := Value.type "tuple", data := Data.seq #[] }) :: (nat_lit 178, { cls := Value.type "code", data := Data.fields #[Value.str (Str.ofString "checksum") 450, Value.str (Str.ofString "EightDotThree.checksum") 451, Value.str (Str.ofString "/claim/cut.py") 452, Value.int 103 0, Value.int 1 0, Value.int 0 0, Value.int 0 0, Value.int 3 0, Value.ref 173, Value.bool true, Value.int 181 0, Value.ref 174, Value.none, Value.ref 175, Value.ref 176, Value.ref 177, Value.int 456 0, Value.int 103 0, Value.str (Str.ofString "/claim/cut.py") 457] }) :: (nat_lit 179, { cls := Value.type "function", data := Data.func { name := Str.ofString "checksum", qualname := Str.ofString "EightDotThree.checksum", params := (by refine' (?f : (x : Arguments) → x = dP (S1 11 10) → Arguments) _ ?h; (case f => exact fun x _ => x); (case h => dsimp only [S0, S1, nthS, cB, dP, dB, dS, PySem.Challenge.pw_jj0019_01]; exact rfl)), body := FuncBody.stmts (by refine' (?f : (x : List Stmt) → x = dB (S1 11 10) → List Stmt) _ ?h; (case f => exact fun x _ => x); (case h => dsimp only [S0, S1, nthS, cB, dP, dB, dS, PySem.Challenge.pw_jj0019_01]; exact rfl)), scope := (by refine' (?f : (x : Scope) → x = dS (S1 11 10) → Scope) _ ?h; (case f => exact fun x _ => x); (case h => dsimp only [S0, S1, nthS, cB, dP, dB, dS, PySem.Challenge.pw_jj0019_01]; exact rfl)), globals := 3, closure := [], defaults := Value.none, kwdefaults := Value.none, pyModule := Value.str (Str.ofString "pyfatfs.EightDotThree") 341, code := Value.ref 178 } }) :: (nat_lit 180, { cls := Value.type "tuple", data := Data.seq #[] }) :: (nat_lit 182, { cls := Value.type "tuple", data := Data.seq #[Value.str (Str.ofString "name") 462, Value.str (Str.ofString "encoding") 463, Value.str (Str.ofString "c") 464] }) :: (nat_lit 183, { cls := Value.type "tuple", data := Data.seq #[] }) :: (nat_lit 185, { cls := Value.type "code", data := Data.fields #[Value.str (Str.ofString "_check_characters") 459, Value.str (Str.ofString "EightDotThree._check_characters") 460, Value.str (Str.ofString "/claim/cut.py") 461, Value.int 111 0, Value.int 2 0, Value.int 0 0, Value.int 0 0, Value.int 3 0, Value.ref 180, Value.bool true, Value.int 181 0, Value.ref 181, Value.none, Value.ref 182, Value.ref 183, Value.ref 184, Value.int 465 0, Value.int 111 0, Value.str (Str.ofString "/claim/cut.py") 466] }) :: (nat_lit 186, { cls := Value.type "function", data := Data.func { name := Str.ofString "_check_characters", qualname := Str.ofString "EightDotThree._check_characters", params := (by refine' (?f : (x : Arguments) → x = dP (S1 11 11) → Arguments) _ ?h; (case f => exact fun x _ => x); (case h => dsimp only [S0, S1, nthS, cB, dP, dB, dS, PySem.Challenge.pw_jj0019_01]; exact rfl)), body := FuncBody.stmts (by refine' (?f : (x : List Stmt) → x = dB (S1 11 11) → List Stmt) _ ?h; (case f => exact fun x _ => x); (case h => dsimp only [S0, S1, nthS, cB, dP, dB, dS, PySem.Challenge.pw_jj0019_01]; exact rfl)), scope := (by refine' (?f : (x : Scope) → x = dS (S1 11 11) → Scope) _ ?h; (case f => exact fun x _ => x); (case h => dsimp only [S0, S1, nthS, cB, dP, dB, dS, PySem.Challenge.pw_jj0019_01]; exact rfl)), globals := 3, closure := [], defaults := Value.none, kwdefaults := Value.none, pyModule := Value.str (Str.ofString "pyfatfs.EightDotThree") 341, annotations := some 189, code := Value.ref 185 } }) :: (nat_lit 187, { cls := Value.type "dict", data := Data.dict #[{ hash := PyData.keyHash P (Str.ofString "__module__"), key := Value.str (Str.ofString "__module__") 468, val := Value.str (Str.ofString "pyfatfs.EightDotThree") 341 }, { hash := PyData.keyHash P (Str.ofString "__name__"), key := Value.str (Str.ofString "__name__") 471, val := Value.str (Str.ofString "_check_characters") 470 }, { hash := PyData.keyHash P (Str.ofString "__qualname__"), key := Value.str (Str.ofString "__qualname__") 474, val := Value.str (Str.ofString "EightDotThree._check_characters") 473 }, { hash := PyData.keyHash P (Str.ofString "__doc__"), key := Value.str (Str.ofString "__doc__") 476, val := Value.none }, { hash := PyData.keyHash P (Str.ofString "__annotations__"), key := Value.str (Str.ofString "__annotations__") 478, val := Value.ref 189 }] 5 }) :: (nat_lit 188, { cls := Value.type "staticmethod", dict := some 187, data := Data.fields #[Value.ref 186, Value.bool false] }) :: (nat_lit 189, { cls := Value.type "dict", data := Data.dict #[] }) :: (nat_lit 190, { cls := Value.type "tuple", data := Data.seq #[Value.str (Str.ofString "latin-1") 310] }) :: (nat_lit 191, { cls := Value.type "tuple", data := Data.seq #[] }) :: (nat_lit 193, { cls := Value.type "tuple", data := Data.seq #[Value.str (Str.ofString "entry_name") 483, Value.str (Str.ofString "encoding") 484, Value.str (Str.ofString "root") 485, Value.str (Str.ofString "ext") 486, Value.str (Str.ofString "i") 487] }) :: (nat_lit 194, { cls := Value.type "tuple", data := Data.seq #[] }) :: (nat_lit 196, { cls := Value.type "code", data := Data.fields #[Value.str (Str.ofString "is_8dot3_conform") 480, Value.str (Str.ofString "EightDotThree.is_8dot3_conform") 481, Value.str (Str.ofString "/claim/cut.py") 482, Value.int 117 0, Value.int 2 0, Value.int 0 0, Value.int 0 0, Value.int 3 0, Value.ref 191, Value.bool true, Value.int 181 0, Value.ref 192, Value.none, Value.ref 193, Value.ref 194, Value.ref 195, Value.int 488 0, Value.int 117 0, Value.str (Str.ofString "/claim/cut.py") 489] }) :: (nat_lit 197, { cls := Value.type "function", data := Data.func { name := Str.ofString "is_8dot3_conform", qualname := Str.ofString "EightDotThree.is_8dot3_conform", params := (by refine' (?f : (x : Arguments) → x = dP (S1 11 12) → Arguments) _ ?h; (case f => exact fun x _ => x); (case h => dsimp only [S0, S1, nthS, cB, dP, dB, dS, PySem.Challenge.pw_jj0019_01]; exact rfl)), body := FuncBody.stmts (by refine' (?f : (x : List Stmt) → x = dB (S1 11 12) → List Stmt) _ ?h; (case f => exact fun x _ => x); (case h => dsimp only [S0, S1, nthS, cB, dP, dB, dS, PySem.Challenge.pw_jj0019_01]; exact rfl)), scope := (by refine' (?f : (x : Scope) → x = dS (S1 11 12) → Scope) _ ?h; (case f => exact fun x _ => x); (case h => dsimp only [S0, S1, nthS, cB, dP, dB, dS, PySem.Challenge.pw_jj0019_01]; exact rfl)), globals := 3, closure := [], defaults := Value.ref 190, kwdefaults := Value.none, pyModule := Value.str (Str.ofString "pyfatfs.EightDotThree") 341, annotations := some 200, code := Value.ref 196 } }) :: (nat_lit 198, { cls := Value.type "dict", data := Data.dict #[{ hash := PyData.keyHash P (Str.ofString "__module__"), key := Value.str (Str.ofString "__module__") 491, val := Value.str (Str.ofString "pyfatfs.EightDotThree") 341 }, { hash := PyData.keyHash P (Str.ofString "__name__"), key := Value.str (Str.ofString "__name__") 494, val := Value.str (Str.ofString "is_8dot3_conform") 493 }, { hash := PyData.keyHash P (Str.ofString "__qualname__"), key := Value.str (Str.ofString "__qualname__") 497, val := Value.str (Str.ofString "EightDotThree.is_8dot3_conform") 496 }, { hash := PyData.keyHash P (Str.ofString "__doc__"), key := Value.str (Str.ofString "__doc__") 499, val := Value.none }, { hash := PyData.keyHash P (Str.ofString "__annotations__"), key := Value.str (Str.ofString "__annotations__") 501, val := Value.ref 200 }] 5 }) :: (nat_lit 199, { cls := Value.type "staticmethod", dict := some 198, data := Data.fields #[Value.ref 197, Value.bool false] }) :: (nat_lit 200, { cls := Value.type "dict", data := Data.dict #[] }) :: (nat_lit 201, { cls := Value.type "tuple", data := Data.seq #[] }) :: (nat_lit 203, { cls := Value.type "tuple", data := Data.seq #[Value.str (Str.ofString "name") 506, Value.str (Str.ofString "root") 507, Value.str (Str.ofString "ext") 508] }) :: (nat_lit 204, { cls := Value.type "tuple", data := Data.seq #[] }) :: (nat_lit 206, { cls := Value.type "code", data := Data.fields #[Value.str (Str.ofString "_pad_8dot3_name") 503, Value.str (Str.ofString "EightDotThree._pad_8dot3_name") 504, Value.str (Str.ofString "/claim/cut.py") 505, Value.int 134 0, Value.int 1 0, Value.int 0 0, Value.int 0 0, Value.int 3 0, Value.ref 201, Value.bool true, Value.int 181 0, Value.ref 202, Value.none, Value.ref 203, Value.ref 204, Value.ref 205, Value.int 509 0, Value.int 134 0, Value.str (Str.ofString "/claim/cut.py") 510] }) :: (nat_lit 207, { cls := Value.type "function", data := Data.func { name := Str.ofString "_pad_8dot3_name", qualname := Str.ofString "EightDotThree._pad_8dot3_name", params := (by refine' (?f : (x : Arguments) → x = dP (S1 11 13) → Arguments) _ ?h; (case f => exact fun x _ => x); (case h => dsimp only [S0, S1, nthS, cB, dP, dB, dS, PySem.Challenge.pw_jj0019_01]; exact rfl)), body := FuncBody.stmts (by refine' (?f : (x : List Stmt) → x = dB (S1 11 13) → List Stmt) _ ?h; (case f => exact fun x _ => x); (case h => dsimp only [S0, S1, nthS, cB, dP, dB, dS, PySem.Challenge.pw_jj0019_01]; exact rfl)), scope := (by refine' (?f : (x : Scope) → x = dS (S1 11 13) → Scope) _ ?h; (case f => exact fun x _ => x); (case h => dsimp only [S0, S1, nthS, cB, dP, dB, dS, PySem.Challenge.pw_jj0019_01]; exact rfl)), globals := 3, closure := [], defaults := Value.none, kwdefaults := Value.none, pyModule := Value.str (Str.ofString "pyfatfs.EightDotThree") 341, annotations := some 210, code := Value.ref 206 } }) :: (nat_lit 208, { cls := Value.type "dict", data := Data.dict #[{ hash := PyData.keyHash P (Str.ofString "__module__"), key := Value.str (Str.ofString "__module__") 512, val := Value.str (Str.ofString "pyfatfs.EightDotThree") 341 }, { hash := PyData.keyHash P (Str.ofString "__name__"), key := Value.str (Str.ofString "__name__") 515, val := Value.str (Str.ofString "_pad_8dot3_name") 514 }, { hash := PyData.keyHash P (Str.ofString "__qualname__"), key := Value.str (Str.ofString "__qualname__") 518, val := Value.str (Str.ofString "EightDotThree._pad_8dot3_name") 517 }, { hash := PyData.keyHash P (Str.ofString "__doc__"), key := Value.str (Str.ofString "__doc__") 520, val := Value.none }, { hash := PyData.keyHash P (Str.ofString "__annotations__"), key := Value.str (Str.ofString "__annotations__") 522, val := Value.ref 210 }] 5 }) :: (nat_lit 209, { cls := Value.type "staticmethod", dict := some 208, data := Data.fields #[Value.ref 207, Value.bool false] }) :: (nat_lit 210, { cls := Value.type "dict", data := Data.dict #[] }) :: (nat_lit 211, { cls := Value.type "tuple", data := Data.seq #[] }) :: (nat_lit 213, { cls := Value.type "tuple", data := Data.seq #[Value.str (Str.ofString "dir_name") 527, Value.str (Str.ofString "parent_dir_entry") 528] }) :: (nat_lit 214, { cls := Value.type "tuple", data := Data.seq #[] }) :: (nat_lit 216, { cls := Value.type "code", data := Data.fields #[Value.str (Str.ofString "make_8dot3_name") 524, Value.str (Str.ofString "EightDotThree.make_8dot3_name") 525, Value.str (Str.ofString "/claim/cut.py") 526, Value.int 141 0, Value.int 2 0, Value.int 0 0, Value.int 0 0, Value.int 3 0, Value.ref 211, Value.bool true, Value.int 181 0, Value.ref 212, Value.none, Value.ref 213, Value.ref 214, Value.ref 215, Value.int 529 0, Value.int 141 0, Value.str (Str.ofString "/claim/cut.py") 530] }) :: (nat_lit 217, { cls := Value.type "function", data := Data.func { name := Str.ofString "make_8dot3_name", qualname := Str.ofString "EightDotThree.make_8dot3_name", params := (by refine' (?f : (x : Arguments) → x = dP (S1 11 14) → Arguments) _ ?h; (case f => exact fun x _ => x); (case h => dsimp only [S0, S1, nthS, cB, dP, dB, dS, PySem.Challenge.pw_jj0019_01]; exact rfl)), body := FuncBody.stmts (by refine' (?f : (x : List Stmt) → x = dB (S1 11 14) → List Stmt) _ ?h; (case f => exact fun x _ => x); (case h => dsimp only [S0, S1, nthS, cB, dP, dB, dS, PySem.Challenge.pw_jj0019_01]; exact rfl)), scope := (by refine' (?f : (x : Scope) → x = dS (S1 11 14) → Scope) _ ?h; (case f => exact fun x _ => x); (case h => dsimp only [S0, S1, nthS, cB, dP, dB, dS, PySem.Challenge.pw_jj0019_01]; exact rfl)), globals := 3, closure := [], defaults := Value.none, kwdefaults := Value.none, pyModule := Value.str (Str.ofString "pyfatfs.EightDotThree") 341, annotations := some 220, code := Value.ref 216 } }) :: (nat_lit 218, { cls := Value.type "dict", data := Data.dict #[{ hash := PyData.keyHash P (Str.ofString "__module__"), key := Value.str (Str.ofString "__module__") 532, val := Value.str (Str.ofString "pyfatfs.EightDotThree") 341 }, { hash := PyData.keyHash P (Str.ofString "__name__"), key := Value.str (Str.ofString "__name__") 535, val := Value.str (Str.ofString "make_8dot3_name") 534 }, { hash := PyData.keyHash P (Str.ofString "__qualname__"), key := Value.str (Str.ofString "__qualname__") 538, val := Value.str (Str.ofString "EightDotThree.make_8dot3_name") 537 }, { hash := PyData.keyHash P (Str.ofString "__doc__"), key := Value.str (Str.ofString "__doc__") 540, val := Value.none }, { hash := PyData.keyHash P (Str.ofString "__annotations__"), key := Value.str (Str.ofString "__annotations__") 542, val := Value.ref 220 }] 5 }) :: (nat_lit 219, { cls := Value.type "staticmethod", dict := some 218, data := Data.fields #[Value.ref 217, Value.bool false] }) :: (nat_lit 220, { cls := Value.type "dict", data := Data.dict #[] }) :: (nat_lit 221, { cls := Value.type "tuple", data := Data.seq #[Value.str (Str.ofString "encoding") 544, Value.str (Str.ofString "initialized") 545, Value.str (Str.ofString "name") 546] }) :: (nat_lit 222, { cls := Value.type "dict", data := Data.dict #[{ hash := PyData.keyHash P (Str.ofString "__module__"), key := Value.str (Str.ofString "__module__") 350, val := Value.str (Str.ofString "pyfatfs.EightDotThree") 341 }, { hash := PyData.keyHash P (Str.ofString "__firstlineno__"), key := Value.str (Str.ofString "__firstlineno__") 354, val := Value.int 47 353 }, { hash := PyData.keyHash P (Str.ofString "SFN_LENGTH"), key := Value.str (Str.ofString "SFN_LENGTH") 356, val := Value.int 11 355 }, { hash := PyData.keyHash P (Str.ofString "INVALID_CHARACTERS"), key := Value.str (Str.ofString "INVALID_CHARACTERS") 373, val := Value.ref 112 }, { hash := PyData.keyHash P (Str.ofString "__init__"), key := Value.str (Str.ofString "__init__") 381, val := Value.ref 120 }, { hash := PyData.keyHash P (Str.ofString "as_text"), key := Value.str (Str.ofString "as_text") 392, val := Value.ref 127 }, { hash := PyData.keyHash P (Str.ofString "as_bytes"), key := Value.str (Str.ofString "as_bytes") 399, val := Value.ref 134 }, { hash := PyData.keyHash P (Str.ofString "get_unpadded_filename"), key := Value.str (Str.ofString "get_unpadded_filename") 406, val := Value.ref 141 }, { hash := PyData.keyHash P (Str.ofString "_raise_8dot3_nonconformant"), key := Value.str (Str.ofString "_raise_8dot3_nonconformant") 425, val := Value.ref 150 }, { hash := PyData.keyHash P (Str.ofString "_set_name"), key := Value.str (Str.ofString "_set_name") 433, val := Value.ref 158 }, { hash := PyData.keyHash P (Str.ofString "set_byte_name"), key := Value.str (Str.ofString "set_byte_name") 441, val := Value.ref 165 }, { hash := PyData.keyHash P (Str.ofString "set_str_name"), key := Value.str (Str.ofString "set_str_name") 449, val := Value.ref 172 }, { hash := PyData.keyHash P (Str.ofString "checksum"), key := Value.str (Str.ofString "checksum") 458, val := Value.ref 179 }, { hash := PyData.keyHash P (Str.ofString "_check_characters"), key := Value.str (Str.ofString "_check_characters") 479, val := Value.ref 188 }, { hash := PyData.keyHash P (Str.ofString "is_8dot3_conform"), key := Value.str (Str.ofString "is_8dot3_conform") 502, val := Value.ref 199 }, { hash := PyData.keyHash P (Str.ofString "_pad_8dot3_name"), key := Value.str (Str.ofString "_pad_8dot3_name") 523, val := Value.ref 209 }, { hash := PyData.keyHash P (Str.ofString "make_8dot3_name"), key := Value.str (Str.ofString "make_8dot3_name") 543, val := Value.ref 219 }, { hash := PyData.keyHash P (Str.ofString "__static_attributes__"), key := Value.str (Str.ofString "__static_attributes__") 547, val := Value.ref 221 }, { hash := PyData.keyHash P (Str.ofString "__dict__"), key := Value.str (Str.ofString "__dict__") 549, val := Value.ref 224 }, { hash := PyData.keyHash P (Str.ofString "__weakref__"), key := Value.str (Str.ofString "__weakref__") 551, val := Value.ref 225 }, { hash := PyData.keyHash P (Str.ofString "__doc__"), key := Value.str (Str.ofString "__doc__") 552, val := Value.none }] 4 }) :: (nat_lit 223, { cls := Value.type "type", data := Data.cls { name := Str.ofString "EightDotThree", bases := [Value.type "object"], mro := [Value.ref 223, Value.type "object"], ns := 222, qualname := Str.ofString "EightDotThree" }, slots := #[none, none, some (Value.str (Str.ofString "EightDotThree") 343), some (Value.str (Str.ofString "EightDotThree") 351), some (Value.builtin "object.__new__"), some (Value.bool true)] }) :: (nat_lit 224, { cls := Value.type "getset_descriptor", data := Data.fields #[Value.str (Str.ofString "__dict__") 548, Value.ref 223, Value.builtin "function.__dict__", Value.builtin "function.__dict__#set"] }) :: (nat_lit 225, { cls := Value.type "getset_descriptor", data := Data.fields #[Value.str (Str.ofString "__weakref__") 550, Value.ref 223, Value.builtin "ExceptionGroup.__weakref__", Value.none] }) :: (nat_lit 228, { cls := Value.type "tuple", data := Data.seq #[] }) :: (nat_lit 230, { cls := Value.type "tuple", data := Data.seq #[Value.str (Str.ofString "number") 562, Value.str (Str.ofString "k") 563] }) :: (nat_lit 231, { cls := Value.type "tuple", data := Data.seq #[] }) :: (nat_lit 233, { cls := Value.type "code", data := Data.fields #[Value.str (Str.ofString "_law_sign") 559, Value.str (Str.ofString "_law_sign") 560, Value.str (Str.ofString "/claim/cut.py") 561, Value.int 146 0, Value.int 1 0, Value.int 0 0, Value.int 0 0, Value.int 3 0, Value.ref 228, Value.bool true, Value.int 181 0, Value.ref 229, Value.none, Value.ref 230, Value.ref 231, Value.ref 232, Value.int 564 0, Value.int 146 0, Value.str (Str.ofString "/claim/cut.py") 565] }) :: (nat_lit 234, { cls := Value.type "function", data := Data.func { name := Str.ofString "_law_sign", qualname := Str.ofString "_law_sign", params := (by refine' (?f : (x : Arguments) → x = dP (S0 14) → Arguments) _ ?h; (case f => exact fun x _ => x); (case h => dsimp only [S0, S1, nthS, cB, dP, dB, dS, PySem.Challenge.pw_jj0019_01]; exact rfl)), body := FuncBody.stmts (by refine' (?f : (x : List Stmt) → x = dB (S0 14) → List Stmt) _ ?h; (case f => exact fun x _ => x); (case h => dsimp only [S0, S1, nthS, cB, dP, dB, dS, PySem.Challenge.pw_jj0019_01]; exact rfl)), scope := (by refine' (?f : (x : Scope) → x = dS (S0 14) → Scope) _ ?h; (case f => exact fun x _ => x); (case h => dsimp only [S0, S1, nthS, cB, dP, dB, dS, PySem.Challenge.pw_jj0019_01]; exact rfl)), globals := 3, closure := [], defaults := Value.none, kwdefaults := Value.none, pyModule := Value.str (Str.ofString "law_jj0019_01") 555, code := Value.ref 233 } }) :: (nat_lit 235, { cls := Value.type "tuple", data := Data.seq #[] }) :: (nat_lit 238, { cls := Value.type "code", data := Data.fields #[Value.str (Str.ofString "_law_drawn") 567, Value.str (Str.ofString "_law_drawn") 568, Value.str (Str.ofString "/claim/cut.py") 569, Value.int 151 0, Value.int 5 0, Value.int 0 0, Value.int 0 0, Value.int 3 0, Value.ref 235, Value.bool true, Value.int 181 0, Value.ref 236, Value.none, Value.none, Value.none, Value.ref 237, Value.int 570 0, Value.int 151 0, Value.str (Str.ofString "/claim/cut.py") 571] }) :: (nat_lit 239, { cls := Value.type "function", data := Data.func { name := Str.ofString "_law_drawn", qualname := Str.ofString "_law_drawn", params := (by refine' (?f : (x : Arguments) → x = dP (S0 15) → Arguments) _ ?h; (case f => exact fun x _ => x); (case h => dsimp only [S0, S1, nthS, cB, dP, dB, dS, PySem.Challenge.pw_jj0019_01]; exact rfl)), body := FuncBody.stmts (by refine' (?f : (x : List Stmt) → x = dB (S0 15) → List Stmt) _ ?h; (case f => exact fun x _ => x); (case h => dsimp only [S0, S1, nthS, cB, dP, dB, dS, PySem.Challenge.pw_jj0019_01]; exact rfl)), scope := (by refine' (?f : (x : Scope) → x = dS (S0 15) → Scope) _ ?h; (case f => exact fun x _ => x); (case h => dsimp only [S0, S1, nthS, cB, dP, dB, dS, PySem.Challenge.pw_jj0019_01]; exact rfl)), globals := 3, closure := [], defaults := Value.none, kwdefaults := Value.none, pyModule := Value.str (Str.ofString "law_jj0019_01") 555, code := Value.ref 238 } }) :: (nat_lit 240, { cls := Value.type "tuple", data := Data.seq #[] }) :: (nat_lit 242, { cls := Value.type "tuple", data := Data.seq #[Value.str (Str.ofString "text") 576] }) :: (nat_lit 243, { cls := Value.type "tuple", data := Data.seq #[] }) :: (nat_lit 245, { cls := Value.type "code", data := Data.fields #[Value.str (Str.ofString "_law_bare") 573, Value.str (Str.ofString "_law_bare") 574, Value.str (Str.ofString "/claim/cut.py") 575, Value.int 153 0, Value.int 1 0, Value.int 0 0, Value.int 0 0, Value.int 3 0, Value.ref 240, Value.bool true, Value.int 181 0, Value.ref 241, Value.none, Value.ref 242, Value.ref 243, Value.ref 244, Value.int 577 0, Value.int 153 0, Value.str (Str.ofString "/claim/cut.py") 578] }) :: (nat_lit 246, { cls := Value.type "function", data := Data.func { name := Str.ofString "_law_bare", qualname := Str.ofString "_law_bare", params := (by refine' (?f : (x : Arguments) → x = dP (S0 16) → Arguments) _ ?h; (case f => exact fun x _ => x); (case h => dsimp only [S0, S1, nthS, cB, dP, dB, dS, PySem.Challenge.pw_jj0019_01]; exact rfl)), body := FuncBody.stmts (by refine' (?f : (x : List Stmt) → x = dB (S0 16) → List Stmt) _ ?h; (case f => exact fun x _ => x); (case h => dsimp only [S0, S1, nthS, cB, dP, dB, dS, PySem.Challenge.pw_jj0019_01]; exact rfl)), scope := (by refine' (?f : (x : Scope) → x = dS (S0 16) → Scope) _ ?h; (case f => exact fun x _ => x); (case h => dsimp only [S0, S1, nthS, cB, dP, dB, dS, PySem.Challenge.pw_jj0019_01]; exact rfl)), globals := 3, closure := [], defaults := Value.none, kwdefaults := Value.none, pyModule := Value.str (Str.ofString "law_jj0019_01") 555, code := Value.ref 245 } }) :: (nat_lit 247, { cls := Value.type "tuple", data := Data.seq #[] }) :: (nat_lit 250, { cls := Value.type "code", data := Data.fields #[Value.str (Str.ofString "_law_parts") 580, Value.str (Str.ofString "_law_parts") 581, Value.str (Str.ofString "/claim/cut.py") 582, Value.int 159 0, Value.int 1 0, Value.int 0 0, Value.int 0 0, Value.int 3 0, Value.ref 247, Value.bool true, Value.int 181 0, Value.ref 248, Value.none, Value.none, Value.none, Value.ref 249, Value.int 583 0, Value.int 159 0, Value.str (Str.ofString "/claim/cut.py") 584] }) :: (nat_lit 251, { cls := Value.type "function", data := Data.func { name := Str.ofString "_law_parts", qualname := Str.ofString "_law_parts", params := (by refine' (?f : (x : Arguments) → x = dP (S0 17) → Arguments) _ ?h; (case f => exact fun x _ => x); (case h => dsimp only [S0, S1, nthS, cB, dP, dB, dS, PySem.Challenge.pw_jj0019_01]; exact rfl)), body := FuncBody.stmts (by refine' (?f : (x : List Stmt) → x = dB (S0 17) → List Stmt) _ ?h; (case f => exact fun x _ => x); (case h => dsimp only [S0, S1, nthS, cB, dP, dB, dS, PySem.Challenge.pw_jj0019_01]; exact rfl)), scope := (by refine' (?f : (x : Scope) → x = dS (S0 17) → Scope) _ ?h; (case f => exact fun x _ => x); (case h => dsimp only [S0, S1, nthS, cB, dP, dB, dS, PySem.Challenge.pw_jj0019_01]; exact rfl)), globals := 3, closure := [], defaults := Value.none, kwdefaults := Value.none, pyModule := Value.str (Str.ofString "law_jj0019_01") 555, code := Value.ref 250 } }) :: (nat_lit 252, { cls := Value.type "tuple", data := Data.seq #[] }) :: (nat_lit 255, { cls := Value.type "code", data := Data.fields #[Value.str (Str.ofString "_law_eleven") 586, Value.str (Str.ofString "_law_eleven") 587, Value.str (Str.ofString "/claim/cut.py") 588, Value.int 168 0, Value.int 1 0, Value.int 0 0, Value.int 0 0, Value.int 3 0, Value.ref 252, Value.bool true, Value.int 181 0, Value.ref 253, Value.none, Value.none, Value.none, Value.ref 254, Value.int 589 0, Value.int 168 0, Value.str (Str.ofString "/claim/cut.py") 590] }) :: (nat_lit 256, { cls := Value.type "function", data := Data.func { name := Str.ofString "_law_eleven", qualname := Str.ofString "_law_eleven", params := (by refine' (?f : (x : Arguments) → x = dP (S0 18) → Arguments) _ ?h; (case f => exact fun x _ => x); (case h => dsimp only [S0, S1, nthS, cB, dP, dB, dS, PySem.Challenge.pw_jj0019_01]; exact rfl)), body := FuncBody.stmts (by refine' (?f : (x : List Stmt) → x = dB (S0 18) → List Stmt) _ ?h; (case f => exact fun x _ => x); (case h => dsimp only [S0, S1, nthS, cB, dP, dB, dS, PySem.Challenge.pw_jj0019_01]; exact rfl)), scope := (by refine' (?f : (x : Scope) → x = dS (S0 18) → Scope) _ ?h; (case f => exact fun x _ => x); (case h => dsimp only [S0, S1, nthS, cB, dP, dB, dS, PySem.Challenge.pw_jj0019_01]; exact rfl)), globals := 3, closure := [], defaults := Value.none, kwdefaults := Value.none, pyModule := Value.str (Str.ofString "law_jj0019_01") 555, code := Value.ref 255 } }) :: (nat_lit 257, { cls := Value.type "tuple", data := Data.seq #[] }) :: (nat_lit 260, { cls := Value.type "code", data := Data.fields #[Value.str (Str.ofString "_law_text") 592, Value.str (Str.ofString "_law_text") 593, Value.str (Str.ofString "/claim/cut.py") 594, Value.int 170 0, Value.int 1 0, Value.int 0 0, Value.int 0 0, Value.int 3 0, Value.ref 257, Value.bool true, Value.int 181 0, Value.ref 258, Value.none, Value.none, Value.none, Value.ref 259, Value.int 595 0, Value.int 170 0, Value.str (Str.ofString "/claim/cut.py") 596] }) :: (nat_lit 261, { cls := Value.type "function", data := Data.func { name := Str.ofString "_law_text", qualname := Str.ofString "_law_text", params := (by refine' (?f : (x : Arguments) → x = dP (S0 19) → Arguments) _ ?h; (case f => exact fun x _ => x); (case h => dsimp only [S0, S1, nthS, cB, dP, dB, dS, PySem.Challenge.pw_jj0019_01]; exact rfl)), body := FuncBody.stmts (by refine' (?f : (x : List Stmt) → x = dB (S0 19) → List Stmt) _ ?h; (case f => exact fun x _ => x); (case h => dsimp only [S0, S1, nthS, cB, dP, dB, dS, PySem.Challenge.pw_jj0019_01]; exact rfl)), scope := (by refine' (?f : (x : Scope) → x = dS (S0 19) → Scope) _ ?h; (case f => exact fun x _ => x); (case h => dsimp only [S0, S1, nthS, cB, dP, dB, dS, PySem.Challenge.pw_jj0019_01]; exact rfl)), globals := 3, closure := [], defaults := Value.none, kwdefaults := Value.none, pyModule := Value.str (Str.ofString "law_jj0019_01") 555, code := Value.ref 260 } }) :: (nat_lit 262, { cls := Value.type "tuple", data := Data.seq #[] }) :: (nat_lit 264, { cls := Value.type "tuple", data := Data.seq #[Value.str (Str.ofString "octets") 601, Value.str (Str.ofString "total") 602, Value.str (Str.ofString "octet") 603] }) :: (nat_lit 265, { cls := Value.type "tuple", data := Data.seq #[] }) :: (nat_lit 267, { cls := Value.type "code", data := Data.fields #[Value.str (Str.ofString "_law_sum") 598, Value.str (Str.ofString "_law_sum") 599, Value.str (Str.ofString "/claim/cut.py") 600, Value.int 178 0, Value.int 1 0, Value.int 0 0, Value.int 0 0, Value.int 3 0, Value.ref 262, Value.bool true, Value.int 181 0, Value.ref 263, Value.none, Value.ref 264, Value.ref 265, Value.ref 266, Value.int 604 0, Value.int 178 0, Value.str (Str.ofString "/claim/cut.py") 605] }) :: (nat_lit 268, { cls := Value.type "function", data := Data.func { name := Str.ofString "_law_sum", qualname := Str.ofString "_law_sum", params := (by refine' (?f : (x : Arguments) → x = dP (S0 20) → Arguments) _ ?h; (case f => exact fun x _ => x); (case h => dsimp only [S0, S1, nthS, cB, dP, dB, dS, PySem.Challenge.pw_jj0019_01]; exact rfl)), body := FuncBody.stmts (by refine' (?f : (x : List Stmt) → x = dB (S0 20) → List Stmt) _ ?h; (case f => exact fun x _ => x); (case h => dsimp only [S0, S1, nthS, cB, dP, dB, dS, PySem.Challenge.pw_jj0019_01]; exact rfl)), scope := (by refine' (?f : (x : Scope) → x = dS (S0 20) → Scope) _ ?h; (case f => exact fun x _ => x); (case h => dsimp only [S0, S1, nthS, cB, dP, dB, dS, PySem.Challenge.pw_jj0019_01]; exact rfl)), globals := 3, closure := [], defaults := Value.none, kwdefaults := Value.none, pyModule := Value.str (Str.ofString "law_jj0019_01") 555, code := Value.ref 267 } }) :: (nat_lit 269, { cls := Value.type "tuple", data := Data.seq #[] }) :: (nat_lit 272, { cls := Value.type "code", data := Data.fields #[Value.str (Str.ofString "_law_same") 607, Value.str (Str.ofString "_law_same") 608, Value.str (Str.ofString "/claim/cut.py") 609, Value.int 183 0, Value.int 2 0, Value.int 0 0, Value.int 0 0, Value.int 3 0, Value.ref 269, Value.bool true, Value.int 181 0, Value.ref 270, Value.none, Value.none, Value.none, Value.ref 271, Value.int 610 0, Value.int 183 0, Value.str (Str.ofString "/claim/cut.py") 611] }) :: (nat_lit 273, { cls := Value.type "function", data := Data.func { name := Str.ofString "_law_same", qualname := Str.ofString "_law_same", params := (by refine' (?f : (x : Arguments) → x = dP (S0 21) → Arguments) _ ?h; (case f => exact fun x _ => x); (case h => dsimp only [S0, S1, nthS, cB, dP, dB, dS, PySem.Challenge.pw_jj0019_01]; exact rfl)), body := FuncBody.stmts (by refine' (?f : (x : List Stmt) → x = dB (S0 21) → List Stmt) _ ?h; (case f => exact fun x _ => x); (case h => dsimp only [S0, S1, nthS, cB, dP, dB, dS, PySem.Challenge.pw_jj0019_01]; exact rfl)), scope := (by refine' (?f : (x : Scope) → x = dS (S0 21) → Scope) _ ?h; (case f => exact fun x _ => x); (case h => dsimp only [S0, S1, nthS, cB, dP, dB, dS, PySem.Challenge.pw_jj0019_01]; exact rfl)), globals := 3, closure := [], defaults := Value.none, kwdefaults := Value.none, pyModule := Value.str (Str.ofString "law_jj0019_01") 555, code := Value.ref 272 } }) :: (nat_lit 274, { cls := Value.type "tuple", data := Data.seq #[] }) :: (nat_lit 277, { cls := Value.type "code", data := Data.fields #[Value.str (Str.ofString "law") 613, Value.str (Str.ofString "law") 614, Value.str (Str.ofString "/claim/cut.py") 615, Value.int 200 0, Value.int 1 0, Value.int 0 0, Value.int 0 0, Value.int 3 0, Value.ref 274, Value.bool true, Value.int 181 0, Value.ref 275, Value.none, Value.none, Value.none, Value.ref 276, Value.int 616 0, Value.int 200 0, Value.str (Str.ofString "/claim/cut.py") 617] }) :: (nat_lit 278, { cls := Value.type "function", data := Data.func { name := Str.ofString "law", qualname := Str.ofString "law", params := (by refine' (?f : (x : Arguments) → x = dP (S0 22) → Arguments) _ ?h; (case f => exact fun x _ => x); (case h => dsimp only [S0, S1, nthS, cB, dP, dB, dS, PySem.Challenge.pw_jj0019_01]; exact rfl)), body := FuncBody.stmts (by refine' (?f : (x : List Stmt) → x = dB (S0 22) → List Stmt) _ ?h; (case f => exact fun x _ => x); (case h => dsimp only [S0, S1, nthS, cB, dP, dB, dS, PySem.Challenge.pw_jj0019_01]; exact rfl)), scope := (by refine' (?f : (x : Scope) → x = dS (S0 22) → Scope) _ ?h; (case f => exact fun x _ => x); (case h => dsimp only [S0, S1, nthS, cB, dP, dB, dS, PySem.Challenge.pw_jj0019_01]; exact rfl)), globals := 3, closure := [], defaults := Value.none, kwdefaults := Value.none, pyModule := Value.str (Str.ofString "law_jj0019_01") 555, code := Value.ref 277 } }) :: []
end Mine.hd
namespace Mine
theorem hd.left : LeftO PySem.Challenge.rw_jj0019_01.row.prog hd.view_39 ["PyFATException", "errno", "EightDotThree"]
    (fun s => xlAt hd.view_39 [] s && recOk (RowW.records (PySem.Challenge.rw_jj0019_01.row.toRowW)) s)
    (Hook.obs (kHook hd.heap_39 [2, 3, 15, 17, 18, 20, 21, 22, 25, 30, 31, 32, 34, 35, 37, 38, 39, 40, 41, 42, 45, 48, 53, 54, 56, 57, 59, 60, 61, 62, 63, 64, 74, 75, 76, 77, 78, 81, 84, 85, 86, 89, 90, 91, 93, 94, 96, 97, 98, 100, 101, 103, 104, 112, 113, 114, 116, 117, 119, 120, 121, 123, 124, 126, 127, 128, 130, 131, 133, 134, 135, 137, 138, 140, 141, 142, 144, 145, 147, 148, 149, 150, 151, 152, 154, 155, 157, 158, 159, 161, 162, 164, 165, 166, 168, 169, 171, 172, 173, 175, 176, 178, 179, 180, 182, 183, 185, 186, 187, 188, 189, 190, 191, 193, 194, 196, 197, 198, 199, 200, 201, 203, 204, 206, 207, 208, 209, 210, 211, 213, 214, 216, 217, 218, 219, 220, 221, 222, 223, 224, 225, 228, 230, 231, 233, 234, 235, 238, 239, 240, 242, 243, 245, 246, 247, 250, 251, 252, 255, 256, 257, 260, 261, 262, 264, 265, 267, 268, 269, 272, 273, 274, 277, 278] (fun _ => by kernel_rfl))) (Hook.val (kHook hd.heap_39 [2, 3, 15, 17, 18, 20, 21, 22, 25, 30, 31, 32, 34, 35, 37, 38, 39, 40, 41, 42, 45, 48, 53, 54, 56, 57, 59, 60, 61, 62, 63, 64, 74, 75, 76, 77, 78, 81, 84, 85, 86, 89, 90, 91, 93, 94, 96, 97, 98, 100, 101, 103, 104, 112, 113, 114, 116, 117, 119, 120, 121, 123, 124, 126, 127, 128, 130, 131, 133, 134, 135, 137, 138, 140, 141, 142, 144, 145, 147, 148, 149, 150, 151, 152, 154, 155, 157, 158, 159, 161, 162, 164, 165, 166, 168, 169, 171, 172, 173, 175, 176, 178, 179, 180, 182, 183, 185, 186, 187, 188, 189, 190, 191, 193, 194, 196, 197, 198, 199, 200, 201, 203, 204, 206, 207, 208, 209, 210, 211, 213, 214, 216, 217, 218, 219, 220, 221, 222, 223, 224, 225, 228, 230, 231, 233, 234, 235, 238, 239, 240, 242, 243, 245, 246, 247, 250, 251, 252, 255, 256, 257, 260, 261, 262, 264, 265, 267, 268, 269, 272, 273, 274, 277, 278] (fun _ => by kernel_rfl))) 5296 := by
  intro w
  kernel_rfl
theorem hd.said : OpenLaw.wellSaid PySem.Challenge.rw_jj0019_01 = true := by decide +kernel
end Mine
namespace Mine
namespace hd
noncomputable def dPos : Stmt → Pos
  | .FunctionDef _ _ _ _ _ _ _ _ _ p => p
  | _ => ⟨0, 0, 0, 0⟩
noncomputable def lawD : DefRec := by
  refine' (fun (d : DefRec) (_ : d = ⟨"law", dP (S0 22), dB (S0 22), dS (S0 22), dPos (S0 22)⟩) => d) _ ?h
  case h => dsimp only [S0, nthS, dP, dB, dS, dPos, PySem.Challenge.pw_jj0019_01]; exact rfl
end hd
theorem hd (walk : WalkC hd.view_39 ["PyFATException", "errno", "EightDotThree"] (XL hd.view_39 []) (Hook.says (kHook hd.heap_39 [2, 3, 15, 17, 18, 20, 21, 22, 25, 30, 31, 32, 34, 35, 37, 38, 39, 40, 41, 42, 45, 48, 53, 54, 56, 57, 59, 60, 61, 62, 63, 64, 74, 75, 76, 77, 78, 81, 84, 85, 86, 89, 90, 91, 93, 94, 96, 97, 98, 100, 101, 103, 104, 112, 113, 114, 116, 117, 119, 120, 121, 123, 124, 126, 127, 128, 130, 131, 133, 134, 135, 137, 138, 140, 141, 142, 144, 145, 147, 148, 149, 150, 151, 152, 154, 155, 157, 158, 159, 161, 162, 164, 165, 166, 168, 169, 171, 172, 173, 175, 176, 178, 179, 180, 182, 183, 185, 186, 187, 188, 189, 190, 191, 193, 194, 196, 197, 198, 199, 200, 201, 203, 204, 206, 207, 208, 209, 210, 211, 213, 214, 216, 217, 218, 219, 220, 221, 222, 223, 224, 225, 228, 230, 231, 233, 234, 235, 238, 239, 240, 242, 243, 245, 246, 247, 250, 251, 252, 255, 256, 257, 260, 261, 262, 264, 265, 267, 268, 269, 272, 273, 274, 277, 278] (fun _ => by kernel_rfl))) PySem.Challenge.rw_jj0019_01.row.toRowW
    hd.lawD []) : PySem.Challenge.rw_jj0019_01.Holds := by
  refine holds_law hd.said fun said => ?_
  refine PySem.W.holds_open (q := hd.view_39) (loose := ["PyFATException", "errno", "EightDotThree"]) (XP := XL hd.view_39 []) (YP := Hook.says (kHook hd.heap_39 [2, 3, 15, 17, 18, 20, 21, 22, 25, 30, 31, 32, 34, 35, 37, 38, 39, 40, 41, 42, 45, 48, 53, 54, 56, 57, 59, 60, 61, 62, 63, 64, 74, 75, 76, 77, 78, 81, 84, 85, 86, 89, 90, 91, 93, 94, 96, 97, 98, 100, 101, 103, 104, 112, 113, 114, 116, 117, 119, 120, 121, 123, 124, 126, 127, 128, 130, 131, 133, 134, 135, 137, 138, 140, 141, 142, 144, 145, 147, 148, 149, 150, 151, 152, 154, 155, 157, 158, 159, 161, 162, 164, 165, 166, 168, 169, 171, 172, 173, 175, 176, 178, 179, 180, 182, 183, 185, 186, 187, 188, 189, 190, 191, 193, 194, 196, 197, 198, 199, 200, 201, 203, 204, 206, 207, 208, 209, 210, 211, 213, 214, 216, 217, 218, 219, 220, 221, 222, 223, 224, 225, 228, 230, 231, 233, 234, 235, 238, 239, 240, 242, 243, 245, 246, 247, 250, 251, 252, 255, 256, 257, 260, 261, 262, 264, 265, 267, 268, 269, 272, 273, 274, 277, 278] (fun _ => by kernel_rfl))) (kwd := []) hd.left (Hook.of _) (Hook.keeps _)
    (fun s e => xl_of s (Bool.and_eq_true_iff.mp e).1) XL.keeps (by rfl) (by rfl) (by rfl) (fun s e => recFacts_of (Bool.and_eq_true_iff.mp e).2) (by rfl) (by assumption) (by decide +kernel) ⟨rfl, rfl, rfl, rfl, rfl, by decide +kernel⟩ ?hw walk
  case hw => w_witness2
end Mine
end
namespace Mine
theorem looked : (fun (_ : PySem.W.OpenLaw) (_ : PySem.Params → PySem.W.Frag) => True) PySem.Challenge.rw_jj0019_01 Mine.hd.heap_39 := by
  k_fill; trivial
end Mine
section
open PySem PySem.W PyProof.Rows PySem.Calls
namespace Mine
noncomputable abbrev pg : Program := PySem.Challenge.rw_jj0019_01.row.toRowW.prog
noncomputable abbrev lo : List Str := looseW hd.view_39 [Str.ofString "PyFATException", Str.ofString "errno", Str.ofString "EightDotThree"]
/-- a def's contract: called so, from any def's frame, it gives back what R says of it and of the ledger behind -/
noncomputable def Cn (w : World) (f : Addr) (d u : Nat) (vs : List Value) (news : Led) (R : Value → Led → Prop) : Prop :=
  ∀ (mean : ExcName → Option Value) (mg mb : Str → Option Value) (dp un : Nat) (gd : Option (List Code)) (cn : Str) (cs : Scope) (a : Addr) (ccd : Value) (cl : List (Str × Addr)) (outer : List Env) (A₀ : Around) (base h₀ : Heap) (L : Addr) (m : Str → Option Value) (s : Shared) (Q E : Value → Shared → Prop),
    Below A₀ base outer h₀ → Fr h₀ L s.heap m → (hd.heap_39 w.params).In h₀ → News h₀ L s.heap news → Top hd.view_39 lo mean mg mb h₀ → cs.kind = .function → dp + d < recursionLimit → un + u < cLine →
    (∀ v new h' tk', R v new → Fr h₀ L h' m → News h₀ L h' new → Q v { s with heap := h', toks := tk' }) →
    wpAny (model pg w) (ktrTop dp un gd cn cs L a ccd cl outer) (call (.ref f) vs) Q E s
theorem useC {w : World} {f : Addr} {d u : Nat} {vs : List Value} {news : Led} {R : Value → Led → Prop} {mean : ExcName → Option Value} {mg mb : Str → Option Value} {dp un : Nat} {gd : Option (List Code)} {cn : Str} {cs : Scope} {a : Addr} {ccd : Value} {cl : List (Str × Addr)} {outer : List Env} {A₀ : Around} {base h₀ : Heap} {L : Addr} {m : Str → Option Value} {s : Shared} {Q E : Value → Shared → Prop}
    (c : Cn w f d u vs news R) (B : Below A₀ base outer h₀) (F : Fr h₀ L s.heap m) (X : (hd.heap_39 w.params).In h₀) (N : News h₀ L s.heap news) (T : Top hd.view_39 lo mean mg mb h₀) (hk : cs.kind = .function) (hdp : dp + d < recursionLimit) (hun : un + u < cLine)
    (h : ∀ v new h' tk', R v new → Fr h₀ L h' m → News h₀ L h' new → Q v { s with heap := h', toks := tk' }) :
    wpAny (model pg w) (ktrTop dp un gd cn cs L a ccd cl outer) (call (.ref f) vs) Q E s := c mean mg mb dp un gd cn cs a ccd cl outer A₀ base h₀ L m s Q E B F X N T hk hdp hun h
theorem room1 {p a b k : Nat} (h : p + b < k) (e : Nat.ble a b = true) : p + a < k := Nat.lt_of_le_of_lt (Nat.add_le_add_left (Nat.le_of_ble_eq_true e) p) h
theorem room2 {p a a' b k : Nat} (h : p + b < k) (e : Nat.ble (a + a') b = true) : p + a + a' < k := Nat.add_assoc p a a' ▸ room1 h e
theorem room0 {p b k : Nat} (h : p + b < k) : p < k := Nat.lt_of_le_of_lt (Nat.le_add_right p b) h
end Mine
end
section
open PySem PySem.W PyProof.Rows PySem.Calls
namespace Mine
inductive All2 {α β : Type} (R : α → β → Prop) : List α → List β → Prop
  | nil : All2 R [] []
  | cons {a : α} {b : β} {l : List α} {k : List β} : R a b → All2 R l k → All2 R (a :: l) (b :: k)
theorem All2.snoc {α β : Type} {R : α → β → Prop} {a : α} {b : β} (r : R a b) : ∀ {l : List α} {k : List β}, All2 R l k → All2 R (l ++ [a]) (k ++ [b])
  | _, _, .nil => .cons r .nil
  | _, _, .cons q h => .cons q (h.snoc r)
open LCg
section
variable {w : World} {A : Around} {E : Value → Shared → Prop} {s : Shared} {h₀ : Heap} {L : Addr} {m : Str → Option Value} {env : Env}

/-- a value that a comprehension walks: n items, P says which -/
noncomputable def SrcW (w : World) (A : Around) (h₀ : Heap) (L : Addr) (xv : Value) (s₁ : Shared) (n : Nat) (P : Nat → Value → Prop) (S : Led → Prop) : Prop :=
  ∀ (Q : Value → Shared → Prop) (E : Value → Shared → Prop),
    (∀ (o : Obj) (fp : List Addr) (St : Nat → Heap → Prop), Walks pg w A s₁.heap.objs.size fp [s₁.heap.objs.size] n P St → (∀ b ∈ fp, b < (s₁.heap.push o).objs.size) →
      (∀ i h, St i h → ∃ o, h.get? s₁.heap.objs.size = some o) →
      (∀ i h h' o nw, St i h → h.get? s₁.heap.objs.size = some o → h'.get? s₁.heap.objs.size = some o → (∀ b o, h₀.get? b = some o → h'.get? b = some o) → News h₀ L h' nw → S nw → St i h') →
      St 0 (s₁.heap.push o) → Q (.ref s₁.heap.objs.size) { s₁ with heap := s₁.heap.push o }) →
    wpAny (model pg w) A (pyIter xv) Q E s₁

theorem srcW_str (hh : A.handled = none) (x : Str) (t : Tok) (s₁ : Shared) : SrcW w A h₀ L (.str x t) s₁ x.cps.size (SignAt x) (fun _ => True) := by
  intro Q E hQ
  have one : ∀ o : Obj, ∀ b ∈ [s₁.heap.objs.size], b < (s₁.heap.push o).objs.size := fun o b hb => by
    rw [List.mem_singleton.mp hb, Heap.size_push]; exact Nat.lt_succ_self _
  have tr : ∀ (St : Nat → Heap → Prop), Walks pg w A s₁.heap.objs.size [s₁.heap.objs.size] [s₁.heap.objs.size] x.cps.size (SignAt x) St →
      ∀ i h h' o (nw : Led), St i h → h.get? s₁.heap.objs.size = some o → h'.get? s₁.heap.objs.size = some o → (∀ b o, h₀.get? b = some o → h'.get? b = some o) → News h₀ L h' nw → True → St i h' :=
    fun St W i h h' o nw st e e' _ _ _ => W.frame i h h' st fun b hb o' he => by
      rw [List.mem_singleton.mp hb] at he ⊢; rw [e] at he; cases he; exact e'
  cases ha : x.cps.all (· < 128)
  · exact wpAny_pyIter_wide ha (hQ _ _ _ (Walks.strWide hh _ x t) (one _) (fun i h st => let ⟨o, ho, _⟩ := st; ⟨o, ho⟩) (tr _ (Walks.strWide hh _ x t)) ⟨_, Heap.get?_push_size _ rfl, rfl, rfl⟩)
  · exact wpAny_pyIter_ascii ha (hQ _ _ _ (Walks.strAscii hh _ x t) (one _) (fun i h st => let ⟨o, ho, _⟩ := st; ⟨o, ho⟩) (tr _ (Walks.strAscii hh _ x t)) ⟨_, Heap.get?_push_size _ rfl, rfl, rfl⟩)

theorem srcW_list (hh : A.handled = none) {ax : Addr} {its : Array Value} {news : Led} {s₁ : Shared} (F : Fr h₀ L s₁.heap m) (N : News h₀ L s₁.heap news) (S : SrcAt h₀ ax its news) :
    SrcW w A h₀ L (.ref ax) s₁ its.size (fun i v => its[i]? = some v) (SrcAt h₀ ax its) := by
  intro Q E hQ
  have hl := S.list F.keep N
  have hlt : ax < s₁.heap.objs.size := by obtain ⟨_, e, _⟩ := hl; exact Heap.lt_size e
  refine wpAny_pyIter_list hl (hQ _ _ _ (Walks.list hh s₁.heap.objs.size ax (Nat.ne_of_lt hlt) its) (fun b hb => ?_) (fun i h st => by obtain ⟨o, e, _⟩ := st.1; exact ⟨o, e⟩) list_st ⟨⟨_, Heap.get?_push_size _ rfl, rfl, rfl⟩, hl.push _⟩)
  rw [Heap.size_push]
  rcases List.mem_cons.mp hb with rfl | hb
  · exact Nat.lt_succ_self _
  · rw [List.mem_singleton.mp hb]; exact Nat.lt_succ_of_lt hlt

noncomputable def CompW (w : World) (A : Around) (h₀ : Heap) (L : Addr) (m : Str → Option Value) (env : Env) (elt : Expr) (x : Str) (scope : Scope) (cl : List (Str × Addr)) (Fin : Shared → List Value → Led → Prop) (xv : Value) (s₁ : Shared) : Prop :=
  ∃ (n : Nat) (P : Nat → Value → Prop) (S : Led → Prop) (news : Led), SrcW w A h₀ L xv s₁ n P S ∧ Fr h₀ L s₁.heap m ∧ News h₀ L s₁.heap news ∧ n ≤ sizeLine ∧ S news ∧
    ∀ s₂ : Shared, (∃ h, s₂ = { s₁ with heap := h }) → CompRest pg w A h₀ L m env elt x scope cl s₂ S P (Fin s₂) n 0 [] news

theorem ListComp_W {elt iter : Expr} {x : Str} {px : Pos} {scope : Scope} {cl : List (Str × Addr)} {pos : Pos} {Q : Value → Shared → Prop} (F₀ : Fr h₀ L s.heap m)
    (hclos : closureFor scope env = pure cl) (hcell : ∀ y ∈ scope.names, y.2 ≠ .cell) (hkind : scope.kind = .function)
    (hnames : ∀ y ∈ scope.names, y.2 = .local → scope.names.lookup y.1 = some .local) (hx : scope.names.lookup x = some .local)
    (h : wpAny (model pg w) A (eval iter env) (CompW w A h₀ L m env elt x scope cl (fun s₂ => FinE h₀ L m s₂ Q)) E s)
    (hs : ∀ x, foldedSetIterable iter env x = pure x := by intro _; rfl) :
    wpAny (model pg w) A (eval (.ListComp elt [⟨.Name x px, iter, [], 0⟩] scope pos) env) Q E s := by
  rw [eval_ListComp]
  refine wpAny_comprehension_free (use := none) rfl hs hclos hkind hnames (wpAny_mono h (fun xv s₁ h₁ => ?_) fun _ _ e => e)
  obtain ⟨n, P, S, news, hsrc, F, N, hsz, hS, R⟩ := h₁
  refine hsrc _ _ fun o fp St W hfp hIo hSt st => ?_
  refine block_U W hsz hIo hSt hcell hkind hx st hfp
      (F.keeps fun _ _ e => Heap.get?_push_of_some _ e) (N.grown fun _ _ e => Heap.get?_push_of_some _ e) (Nat.ne_of_lt F.ns.lt) (next_is_new F) (fun p hp => Nat.ne_of_lt (Heap.lt_size (N p hp).1)) hS (R _ ⟨_, rfl⟩) ?_
  intro D C h tk m' ys news' F' N' o1 hn hC₀ hD₀ hCL hDL hCD offC fin
  refine ⟨m', hn, fun h'' hs'' => fin D h'' tk (F'.change hs'' hCL hC₀) (fun p hp => ?_) o1⟩
  refine ⟨hs''.extBut _ _ ?_ (N' p hp).1, (N' p hp).2⟩
  rcases List.mem_cons.mp hp with rfl | hp
  · exact Ne.symm hCD
  · exact offC p hp

/-- all turns of a comprehension without a test, by what each makes of its item -/
theorem cr_map {α : Type} {elt : Expr} {x : Str} {scope : Scope} {cl : List (Str × Addr)} {S : Led → Prop} {P : Nat → Value → Prop} {Fin : List Value → Led → Prop} {news : Led}
    (src : List α) (val : α → Value → Prop) (R : α → Value → Prop)
    (hP : ∀ i v, P i v → ∃ a, src[i]? = some a ∧ val a v)
    (turn : ∀ a v I oI C oC D m₂ ys h tk (E' : Value → Shared → Prop), a ∈ src → val a v → NsObj oC m₂ → m₂ x = some v → Fr h₀ L h m → News h₀ L h ((I, oI) :: (C, oC) :: (D, lst ys) :: news) → Off3 I C D news → ((@Ne Nat I C) ∧ (@Ne Nat I D) ∧ (@Ne Nat C D)) →
      wpAny (model pg w) A (eval elt (compEnvC scope cl C env)) (CompEnd h₀ L m { s with heap := h, toks := tk } I oI C oC D (lst ys) S (fun y news' => news' = news ∧ R a y)) E' { s with heap := h, toks := tk })
    (fin : ∀ ys, All2 R src ys → Fin ys news) : CompRest pg w A h₀ L m env elt x scope cl s S P Fin src.length 0 [] news := by
  have key : ∀ (j i : Nat) (ys : List Value), i + j = src.length → All2 R (src.take i) ys → CompRest pg w A h₀ L m env elt x scope cl s S P Fin j i ys news := by
    intro j
    induction j with
    | zero =>
      intro i ys hi hy
      have e : i = src.length := by omega
      subst e
      rw [List.take_length] at hy
      exact CompRest.zero (fin ys hy)
    | succ j ih =>
      intro i ys hi hy
      refine CompRest.succ ?_
      intro v I oI C oC D m₂ h tk E' hv hC hx F N off ne
      obtain ⟨a, ha, hv'⟩ := hP i v hv
      refine wpAny_mono (turn a v I oI C oC D m₂ ys h tk E' (List.mem_of_getElem? ha) hv' hC hx F N off ne) (fun y s₂ hq => ?_) fun _ _ e => e
      obtain ⟨h', tk', nw, e, F', N', off', hS, hn, hy'⟩ := hq
      subst hn
      refine ⟨h', tk', nw, e, F', N', off', hS, ?_⟩
      refine ih (i + 1) _ (by omega) ?_
      rw [List.take_add_one, ha]
      exact hy.snoc hy'
  exact key src.length 0 [] (by omega) (by rw [List.take_zero]; exact .nil)

open LCt
noncomputable def CompWT (w : World) (A : Around) (h₀ : Heap) (L : Addr) (m : Str → Option Value) (env : Env) (ct elt : Expr) (x : Str) (scope : Scope) (cl : List (Str × Addr)) (Fin : Shared → List Value → Led → Prop) (xv : Value) (s₁ : Shared) : Prop :=
  ∃ (n : Nat) (P : Nat → Value → Prop) (S : Led → Prop) (news : Led), SrcW w A h₀ L xv s₁ n P S ∧ Fr h₀ L s₁.heap m ∧ News h₀ L s₁.heap news ∧ n ≤ sizeLine ∧ S news ∧
    ∀ s₂ : Shared, (∃ h, s₂ = { s₁ with heap := h }) → CompRestT pg w A h₀ L m env ct elt x scope cl s₂ S P (Fin s₂) n 0 [] news

theorem ListComp_WT {ct elt iter : Expr} {x : Str} {px : Pos} {scope : Scope} {cl : List (Str × Addr)} {pos : Pos} {Q : Value → Shared → Prop} (F₀ : Fr h₀ L s.heap m)
    (hclos : closureFor scope env = pure cl) (hcell : ∀ y ∈ scope.names, y.2 ≠ .cell) (hkind : scope.kind = .function)
    (hnames : ∀ y ∈ scope.names, y.2 = .local → scope.names.lookup y.1 = some .local) (hx : scope.names.lookup x = some .local)
    (h : wpAny (model pg w) A (eval iter env) (CompWT w A h₀ L m env ct elt x scope cl (fun s₂ => FinE h₀ L m s₂ Q)) E s)
    (hs : ∀ x, foldedSetIterable iter env x = pure x := by intro _; rfl) :
    wpAny (model pg w) A (eval (.ListComp elt [⟨.Name x px, iter, [ct], 0⟩] scope pos) env) Q E s := by
  rw [eval_ListComp]
  refine wpAny_comprehension_free (use := none) rfl hs hclos hkind hnames (wpAny_mono h (fun xv s₁ h₁ => ?_) fun _ _ e => e)
  obtain ⟨n, P, S, news, hsrc, F, N, hsz, hS, R⟩ := h₁
  refine hsrc _ _ fun o fp St W hfp hIo hSt st => ?_
  refine block_T W hsz hIo hSt hcell hkind hx st hfp
      (F.keeps fun _ _ e => Heap.get?_push_of_some _ e) (N.grown fun _ _ e => Heap.get?_push_of_some _ e) (Nat.ne_of_lt F.ns.lt) (next_is_new F) (fun p hp => Nat.ne_of_lt (Heap.lt_size (N p hp).1)) hS (R _ ⟨_, rfl⟩) ?_
  intro D C h tk m' ys news' F' N' o1 hn hC₀ hD₀ hCL hDL hCD offC fin
  refine ⟨m', hn, fun h'' hs'' => fin D h'' tk (F'.change hs'' hCL hC₀) (fun p hp => ?_) o1⟩
  refine ⟨hs''.extBut _ _ ?_ (N' p hp).1, (N' p hp).2⟩
  rcases List.mem_cons.mp hp with rfl | hp
  · exact Ne.symm hCD
  · exact offC p hp

theorem cr_filter {α : Type} {ct elt : Expr} {x : Str} {scope : Scope} {cl : List (Str × Addr)} {S : Led → Prop} {P : Nat → Value → Prop} {Fin : List Value → Led → Prop} {news : Led}
    (src : List α) (val : α → Value → Prop) (pz : α → Bool) (R : α → Value → Prop)
    (hP : ∀ i v, P i v → ∃ a, src[i]? = some a ∧ val a v)
    (turn : ∀ a v I oI C oC D m₂ ys h tk (E' : Value → Shared → Prop), a ∈ src → val a v → NsObj oC m₂ → m₂ x = some v → Fr h₀ L h m → News h₀ L h ((I, oI) :: (C, oC) :: (D, lst ys) :: news) → Off3 I C D news → ((@Ne Nat I C) ∧ (@Ne Nat I D) ∧ (@Ne Nat C D)) →
      wpAny (model pg w) A (isTrue ct (compEnvC scope cl C env) (eval ct (compEnvC scope cl C env))) (fun ok s' => ok = pz a ∧ if ok = true then
        wpAny (model pg w) A (eval elt (compEnvC scope cl C env)) (CompEnd h₀ L m { s with heap := h, toks := tk } I oI C oC D (lst ys) S (fun y news' => news' = news ∧ R a y)) E' s'
        else CompEnd h₀ L m { s with heap := h, toks := tk } I oI C oC D (lst ys) S (fun _ news' => news' = news) Value.none s') E' { s with heap := h, toks := tk })
    (fin : ∀ ys, All2 R (src.filter pz) ys → Fin ys news) : CompRestT pg w A h₀ L m env ct elt x scope cl s S P Fin src.length 0 [] news := by
  have key : ∀ (j i : Nat) (ys : List Value), i + j = src.length → All2 R ((src.take i).filter pz) ys → CompRestT pg w A h₀ L m env ct elt x scope cl s S P Fin j i ys news := by
    intro j
    induction j with
    | zero =>
      intro i ys hi hy
      have e : i = src.length := by omega
      subst e
      rw [List.take_length] at hy
      exact CompRestT.zero (fin ys hy)
    | succ j ih =>
      intro i ys hi hy
      refine CompRestT.succ ?_
      intro v I oI C oC D m₂ h tk E' hv hC hx F N off ne
      obtain ⟨a, ha, hv'⟩ := hP i v hv
      refine wpAny_mono (turn a v I oI C oC D m₂ ys h tk E' (List.mem_of_getElem? ha) hv' hC hx F N off ne) (fun ok s₂ hq => ?_) fun _ _ e => e
      obtain ⟨hok, hq⟩ := hq
      cases hz : pz a with
      | true =>
        rw [hz] at hok
        subst hok
        rw [if_pos rfl] at hq ⊢
        refine wpAny_mono hq (fun y s₃ hq => ?_) fun _ _ e => e
        obtain ⟨h', tk', nw, e, F', N', off', hS, hn, hy'⟩ := hq
        subst hn
        refine ⟨h', tk', nw, e, F', N', off', hS, ?_⟩
        refine ih (i + 1) _ (by omega) ?_
        rw [List.take_add_one, ha, List.filter_append]
        simpa [hz] using hy.snoc hy'
      | false =>
        rw [hz] at hok
        subst hok
        rw [if_neg Bool.false_ne_true] at hq ⊢
        obtain ⟨h', tk', nw, e, F', N', off', hS, hn⟩ := hq
        subst hn
        refine ⟨h', tk', nw, e, F', N', off', hS, ?_⟩
        refine ih (i + 1) _ (by omega) ?_
        rw [List.take_add_one, ha, List.filter_append]
        simpa [hz] using hy
  exact key src.length 0 [] (by omega) (by rw [List.take_zero]; exact .nil)
end
end Mine
end
section
open PySem PySem.W PyProof.Rows PySem.Calls
namespace Mine
/-- the octets of a text, one each sign -/
noncomputable def octs (x : Str) : List Int := x.cps.toList.map fun c : Nat => (c : Int)
theorem octs_length (x : Str) : (octs x).length = x.length := List.length_map _
theorem all2_ints {α : Type} {f : α → Int} : ∀ {l : List α} {ys : List Value}, All2 (fun a v => ∃ u, v = .int (f a) u) l ys → IntsAre ys (l.map f)
  | _, _, .nil => .nil
  | _, _, .cons ⟨u, e⟩ h => by subst e; exact .cons _ u (all2_ints h)
theorem all2_strs {α : Type} {f : α → Str} : ∀ {l : List α} {ys : List Value}, All2 (fun a v => ∃ u, v = .str (f a) u) l ys → StrsAre ys (l.map f)
  | _, _, .nil => .nil
  | _, _, .cons ⟨u, e⟩ h => by subst e; exact .cons _ u (all2_strs h)
section
local macro_rules | `(tactic| walk_at "eval ListComp") => `(tactic| (k_dflt (refine ListComp_W (F₀ := by k_asm) (by with_unfolding_all rfl) (by decide) (by rfl) (by decide) (by rfl) ?_)))
set_option maxRecDepth 100000 in
set_option maxHeartbeats 8000000 in
theorem encoded_ok (w : World) (x : Str) (t : Tok) (news : Led) (hx : ∀ c ∈ x.cps, c < 256) (hlen : x.length ≤ 1000) :
    Cn w 85 1 8 [.str x t] news (fun v new => (∃ t', v = .bytes (byteArr (octs x)) t') ∧ new = news) := by
  unfold Cn
  intro mean mg mb dp un gd cn cs a ccd cl outer A₀ base h₀ L m s Q E B F X N T hk hdp hun hret
  refine wpAny_call ?_
  k_dflt cell_enter
  k_steps
  refine ⟨_, _, _, news, srcW_str rfl x t _, by k_asm, by k_asm, (by show x.length ≤ _; rw [sizeLine_eq]; omega), trivial, ?_⟩
  rintro s₂ ⟨g, rfl⟩
  refine cr_map x.cps.toList (fun c v => ∃ u, v = .str ⟨#[c]⟩ u) (fun c v => ∃ u, v = .int (c : Int) u) ?_ ?_ ?_
  · rintro i v ⟨c, u, hc, rfl⟩
    exact ⟨c, by simpa using hc, u, rfl⟩
  · rintro a v I oI C oC D m₂ ys h tk E' ha ⟨u, rfl⟩ hC hx F9 N9 off9 ne9
    k_steps
    exact ⟨_, _, _, rfl, by k_asm, by k_asm, by k_asm, trivial, rfl, _, rfl⟩
  · intro ys hys
    have hI : IntsAre ys (octs x) := all2_ints hys
    have hr : ∀ n ∈ octs x, 0 ≤ n ∧ n < 256 := by
      intro n hn
      obtain ⟨c, hc, rfl⟩ := List.mem_map.mp hn
      have := hx c (by simpa using hc)
      omega
    k_steps
    refine' KBa.make_K ?F ?N rfl ?l hI hr ?z ?_
    case F => k_asm
    case N => k_asm
    case l => exact News.isList (by assumption) (.head _)
    case z => rw [octs_length]; omega
    intro h' t' k F' N' _
    k_steps
    exact hret _ _ _ _ ⟨⟨_, rfl⟩, rfl⟩ (by k_asm) (cb_drop (by assumption) (by exact fun p hp => .tail _ hp))
end
end Mine
end
section
open PySem PySem.W PyProof.Rows PySem.Calls
set_option maxRecDepth 100000
namespace Mine
section
variable {prog : Program} {w : World} {A : Around} {E : Value → Shared → Prop} {s : Shared} {g : Heap} {L : Addr} {m : Str → Option Value} {news : Led}
noncomputable def tupObj (msg : Value) : Obj := { cls := .type "tuple", data := .seq #[msg] }
/-- an own exception's object: its class, its args; with or without a table of attributes -/
noncomputable def ExcLike (C t : Addr) (o : Obj) : Prop := o.cls = .ref C ∧ o.data = .fields #[.ref t, .none, .none, .none, .bool false, .none]
theorem exc_set {K : Frag} {nm qn name : Str} {N₀ : Addr} {bs : List Value} {sn : List Str} {sub : List Value} {ab : Bool} {col : Option Bool} {dd : Option Addr} {k0 k1 k2 k3 k5 : Option Value} {e C t : Addr} {v : Value} {rest : Led} {Q : Unit → Shared → Prop}
    (F : Fr g L s.heap m) (X : K.In g) (N : News g L s.heap ((e, excObj C t) :: rest))
    (hC : K.lookup C = some (excClassObj nm qn C N₀ bs [.type "Exception", .type "BaseException", .type "object"] true sn sub ab col dd k0 k1 k2 k3 k5 "Exception.__new__"))
    (hok : nsOkIn K N₀ = true) (h1 : nsIn K N₀ "__setattr__" = some none) (h2 : nsIn K N₀ name = some none) (hB : typeLookup (.type "Exception") name = pure none)
    (hs : ∀ p ∈ rest, p.1 ≠ e)
    (hQ : ∀ h' tk o, Fr g L h' m → News g L h' ((e, o) :: rest) → ExcLike C t o → Q () { s with heap := h', toks := tk }) :
    wpAny (model prog w) A (setAttr (.ref e) name v) Q E s := by
  obtain ⟨hh, gg, d, tk, os⟩ := s
  have he := N (e, excObj C t) (.head _)
  have XK := X.keeps F.keep
  have hCh := XK _ _ hC
  have hxC : e ≠ C := fun q => by have := X _ _ hC; rw [← q, he.2.2] at this; cases this
  refine store_attr (mA := fun _ => none) (ns := []) PySem.F.store_Exception hCh (.of_isNs (isNs_of_in XK hok)) (nsMap_none_of_in XK hok h1) (nsMap_none_of_in XK hok h2) hB hxC
    ⟨_, he.1, rfl, (fun c q => by cases q), .inl ⟨rfl, fun _ => rfl⟩⟩ ?_
  intro h' tk' I' hk hsame
  obtain ⟨o₁, e1, c1, d1, _⟩ := hsame _ he.1
  have hk' : ∀ b o, b ≠ e → hh.get? b = some o → h'.get? b = some o := fun b o hb q => hk b o hb (fun o₀ dx q1 q2 => by rw [he.1] at q1; cases q1; cases q2) q
  refine hQ h' tk' o₁ ⟨F.ns.at' fun o q => hk' _ o (Ne.symm he.2.1) q, fun b o q => hk' b o (fun z => by rw [z, he.2.2] at q; cases q) (F.keep b o q), F.above⟩ ?_ ⟨c1, d1⟩
  intro p hp
  rcases List.mem_cons.mp hp with rfl | hp
  · exact ⟨e1, he.2⟩
  · exact ⟨hk' _ _ (hs p hp) (N p (.tail _ hp)).1, (N p (.tail _ hp)).2⟩
theorem exc_method_K {K : Frag} {so e C t : Addr} {cd : ClassData} {pl : Sem Bool} {Q : Value × List Value → Shared → Prop}
    (F : Fr g L s.heap m) (X₀ : K.In g) (N : News g L s.heap ((so, ks_superObj C e C) :: (e, excObj C t) :: news)) (hso : so ≠ e)
    (ho : nsIn K cStatics "thirdparty.any" = some none) (hc : clsIn K C = some cd) (hf : alongIn K "__init__" ((cd.mro.dropWhile (· != .ref C)).drop 1) = some (some (.builtin "Exception.__init__")))
    (hm : mroIn K C (.type "Exception") = some true)
    (h : ∀ q h', Fr g L h' m → News g L h' ((q, mwObj e) :: (so, ks_superObj C e C) :: (e, excObj C t) :: news) → Q (.ref q, []) { s with heap := h', toks := s.toks + 1 }) : wpAny (model prog w) A (getMethod (.ref so) "__init__" pl) Q E s := by
  have X : K.In s.heap := X₀.keeps F.keep
  obtain ⟨hh, gg, d, tk, os⟩ := s
  have he := N (e, excObj C t) (.tail _ (.head _))
  have hxC : e ≠ C := fun q => by
    unfold clsIn at hc
    split at hc
    · rename_i z; have := X₀ _ _ z; rw [← q, he.2.2] at this; cases this
    · cases hc
  refine exc_super_method (l₀ := cd.mro) (N _ (.head _)).1 (looks_opaque X ho) (fun A Q E s k q => wpAny_bind ((looks_clsIn X hc) A _ E s k (wpAny_pure q))) rfl X hf he.1 rfl (looks_mroIn X hm) hxC ?_
  obtain ⟨F', N', l'⟩ := ks_newsPush (s := ⟨hh, gg, d, tk, os⟩) (o := mwObj e) F N rfl (Heap.get?_push_at rfl rfl) (fun b o e => Heap.get?_push_of_some _ e)
  exact h _ _ F' N'
end
end Mine
end
section
open PySem PySem.W PyProof.Rows PySem.Calls
namespace Mine
set_option maxRecDepth 100000 in
set_option maxHeartbeats 8000000 in
theorem pyfat_init (w : World) (news : Led) (e tt : Addr) (msg : Str) (tm : Tok) (v : Value) (mean : ExcName → Option Value) (mg mb : Str → Option Value) (A : Around) (cn : Str) (cs : Scope) (a : Addr) (ccd : Value) (cl : List (Str × Addr)) (outer : List Env) (A₀ : Around) (base h₀ : Heap) (L : Addr) (m : Str → Option Value) (s : Shared) (Q E : Value → Shared → Prop)
    (B : Below A₀ base outer h₀) (F : Fr h₀ L s.heap m) (X : (hd.heap_39 w.params).In h₀) (N : News h₀ L s.heap ((e, excObj 41 tt) :: news)) (hs : ∀ p ∈ news, p.1 ≠ e) (T : Top hd.view_39 lo mean mg mb h₀) (hk : cs.kind = .function) (hA : A.frames = some (envX cn cs L a ccd cl :: outer)) (hroom : A.depth < recursionLimit)
    (hQ : ∀ h' tk o t, Fr h₀ L h' m → News h₀ L h' ((e, o) :: (t, tupObj (.str msg tm)) :: news) → ExcLike 41 t o → t ≠ e → (∀ p ∈ news, p.1 < t) → Q .none { s with heap := h', toks := tk }) :
    wpAny (model pg w) A (call (.ref 38) [.ref e, .str msg tm] [(Str.ofString "errno", v)]) Q E s := by
  w_top off
  refine wpAny_call ?_
  k_dflt (refine' ks_code_super ?k1 ?k2 ?k3 ?k4 ?k5 ?kA ?kF ?kK ?k6 ?k7 ?k8 ?k9 ?kB ?_ ?c1 ?c2 ?c3 ?c4; (case kA => exact hA); (case kF => exact rfl); (case kK => assumption); (case k1 => k_asm); (case k2 => k_asm); (case k3 => k_asm); (case k4 => k_asm); (case k5 => k_asm); (case k6 => k_is); (case k7 => k_is); (case k8 => exact hroom); (case k9 => first | exact BindsTo.of_eq rfl | exact binds_K (by k_in) rfl (by k_is) rfl rfl rfl); (case kB => exact locs rfl); (case c1 => decide); (case c2 => exact rfl); (case c3 => exact rfl); (case c4 => exact rfl); k_whole; intro g' L' h' FG' F' N' B' X' T' l1; (try dsimp only); (try k_lift B'); (try k_fold))
  k_steps
  have I : InstAt h' e (excObj 41 tt) 41 none := ⟨(N' _ (.head _)).1, rfl, rfl, trivial⟩
  k_dflt (refine ks_node (by k_asm) (by k_asm) (by k_asm) (by k_asm) (by k_is) (by rfl) (by rfl) I (by k_is) (by rfl) (by first | rfl | decide +kernel) (by k_is) (by k_is) (by k_is) (by k_is) (by decide) (by rfl) (by rfl) (by rfl) (by rfl) (by decide +kernel) (by first | boot_by_name | rfl | kernel_rfl) ?_)
  intro so h'' F'' N'' l2
  k_dflt (refine exc_method_K (by k_asm) (by k_asm) N'' (Ne.symm (Nat.ne_of_lt (l2 _ (.head _)))) (by k_is) (by k_is) (by first | rfl | decide +kernel) (by k_is) ?_)
  intro q h₃ F₃ N₃
  k_dflt (refine callWith_mw (e' := e) ?_)
  k_steps
  · exact (N₃ _ (.head _)).1
  k_dflt (refine exc_init_super (t₀ := tt) ((Frag.In.keeps X' F₃.keep) _ _ (by k_is)) F₃ (fun p hp => N₃ p (.tail _ (.tail _ hp))) hs (N₃ _ (.head _)).1 ?_)
  intro t h₄ F₄ N₄ hte hlt
  k_steps
  k_dflt (refine exc_set F₄ (by k_asm) N₄ (by k_is) (by first | rfl | kernel_rfl) (by k_is) (by k_is) (by rw [typeLookup_type, builtinLookup_eq_fast]; kernel_rfl) ?hs ?_)
  case hs =>
    intro p hp
    rcases List.mem_cons.mp hp with rfl | hp
    · exact hte
    · exact hs p hp
  intro h₅ tk₅ o₅ F₅ N₅ e₅
  k_steps
  exact hQ _ _ _ _ (by k_asm) (by k_asm) e₅ hte hlt
set_option maxRecDepth 100000 in
set_option maxHeartbeats 8000000 in
theorem pyfat_init0 (w : World) (news : Led) (e tt : Addr) (msg : Str) (tm : Tok) (mean : ExcName → Option Value) (mg mb : Str → Option Value) (A : Around) (cn : Str) (cs : Scope) (a : Addr) (ccd : Value) (cl : List (Str × Addr)) (outer : List Env) (A₀ : Around) (base h₀ : Heap) (L : Addr) (m : Str → Option Value) (s : Shared) (Q E : Value → Shared → Prop)
    (B : Below A₀ base outer h₀) (F : Fr h₀ L s.heap m) (X : (hd.heap_39 w.params).In h₀) (N : News h₀ L s.heap ((e, excObj 41 tt) :: news)) (hs : ∀ p ∈ news, p.1 ≠ e) (T : Top hd.view_39 lo mean mg mb h₀) (hk : cs.kind = .function) (hA : A.frames = some (envX cn cs L a ccd cl :: outer)) (hroom : A.depth < recursionLimit)
    (hQ : ∀ h' tk o t, Fr h₀ L h' m → News h₀ L h' ((e, o) :: (t, tupObj (.str msg tm)) :: news) → ExcLike 41 t o → t ≠ e → (∀ p ∈ news, p.1 < t) → Q .none { s with heap := h', toks := tk }) :
    wpAny (model pg w) A (call (.ref 38) [.ref e, .str msg tm] []) Q E s := by
  w_top off
  refine wpAny_call ?_
  k_dflt (refine' ks_code_super (binds := [(Str.ofString "self", Value.ref e), (Str.ofString "msg", Value.str msg tm), (Str.ofString "errno", Value.none)]) ?k1 ?k2 ?k3 ?k4 ?k5 ?kA ?kF ?kK ?k6 ?k7 ?k8 ?k9 ?kB ?_ ?c1 ?c2 ?c3 ?c4; (case kA => exact hA); (case kF => exact rfl); (case kK => assumption); (case k1 => k_asm); (case k2 => k_asm); (case k3 => k_asm); (case k4 => k_asm); (case k5 => k_asm); (case k6 => k_is); (case k7 => k_is); (case k8 => exact hroom); (case k9 => first | exact BindsTo.of_eq rfl | exact binds_K (by k_in) rfl (by k_is) rfl rfl rfl); (case kB => exact locs rfl); (case c1 => decide); (case c2 => exact rfl); (case c3 => exact rfl); (case c4 => exact rfl); k_whole; intro g' L' h' FG' F' N' B' X' T' l1; (try dsimp only); (try k_lift B'); (try k_fold))
  k_steps
  have I : InstAt h' e (excObj 41 tt) 41 none := ⟨(N' _ (.head _)).1, rfl, rfl, trivial⟩
  k_dflt (refine ks_node (by k_asm) (by k_asm) (by k_asm) (by k_asm) (by k_is) (by rfl) (by rfl) I (by k_is) (by rfl) (by first | rfl | decide +kernel) (by k_is) (by k_is) (by k_is) (by k_is) (by decide) (by rfl) (by rfl) (by rfl) (by rfl) (by decide +kernel) (by first | boot_by_name | rfl | kernel_rfl) ?_)
  intro so h'' F'' N'' l2
  k_dflt (refine exc_method_K (by k_asm) (by k_asm) N'' (Ne.symm (Nat.ne_of_lt (l2 _ (.head _)))) (by k_is) (by k_is) (by first | rfl | decide +kernel) (by k_is) ?_)
  intro q h₃ F₃ N₃
  k_dflt (refine callWith_mw (e' := e) ?_)
  k_steps
  · exact (N₃ _ (.head _)).1
  k_dflt (refine exc_init_super (t₀ := tt) ((Frag.In.keeps X' F₃.keep) _ _ (by k_is)) F₃ (fun p hp => N₃ p (.tail _ (.tail _ hp))) hs (N₃ _ (.head _)).1 ?_)
  intro t h₄ F₄ N₄ hte hlt
  k_steps
  k_dflt (refine exc_set F₄ (by k_asm) N₄ (by k_is) (by first | rfl | kernel_rfl) (by k_is) (by k_is) (by rw [typeLookup_type, builtinLookup_eq_fast]; kernel_rfl) ?hs ?_)
  case hs =>
    intro p hp
    rcases List.mem_cons.mp hp with rfl | hp
    · exact hte
    · exact hs p hp
  intro h₅ tk₅ o₅ F₅ N₅ e₅
  k_steps
  exact hQ _ _ _ _ (by k_asm) (by k_asm) e₅ hte hlt
set_option maxRecDepth 100000 in
set_option maxHeartbeats 8000000 in
theorem notafat_init (w : World) (news : Led) (e tt : Addr) (msg : Str) (tm : Tok) (v : Value) (mean : ExcName → Option Value) (mg mb : Str → Option Value) (A : Around) (cn : Str) (cs : Scope) (a : Addr) (ccd : Value) (cl : List (Str × Addr)) (outer : List Env) (A₀ : Around) (base h₀ : Heap) (L : Addr) (m : Str → Option Value) (s : Shared) (Q E : Value → Shared → Prop)
    (B : Below A₀ base outer h₀) (F : Fr h₀ L s.heap m) (X : (hd.heap_39 w.params).In h₀) (N : News h₀ L s.heap ((e, excObj 63 tt) :: news)) (hs : ∀ p ∈ news, p.1 ≠ e) (T : Top hd.view_39 lo mean mg mb h₀) (hk : cs.kind = .function) (hA : A.frames = some (envX cn cs L a ccd cl :: outer)) (hroom : A.depth < recursionLimit)
    (hQ : ∀ h' tk o t, Fr h₀ L h' m → News h₀ L h' ((e, o) :: (t, tupObj (.str msg tm)) :: news) → ExcLike 63 t o → t ≠ e → (∀ p ∈ news, p.1 < t) → Q .none { s with heap := h', toks := tk }) :
    wpAny (model pg w) A (call (.ref 60) [.ref e, .str msg tm] [(Str.ofString "free_type", v)]) Q E s := by
  w_top off
  refine wpAny_call ?_
  k_dflt (refine' ks_code_super ?k1 ?k2 ?k3 ?k4 ?k5 ?kA ?kF ?kK ?k6 ?k7 ?k8 ?k9 ?kB ?_ ?c1 ?c2 ?c3 ?c4; (case kA => exact hA); (case kF => exact rfl); (case kK => assumption); (case k1 => k_asm); (case k2 => k_asm); (case k3 => k_asm); (case k4 => k_asm); (case k5 => k_asm); (case k6 => k_is); (case k7 => k_is); (case k8 => exact hroom); (case k9 => first | exact BindsTo.of_eq rfl | exact binds_K (by k_in) rfl (by k_is) rfl rfl rfl); (case kB => exact locs rfl); (case c1 => decide); (case c2 => exact rfl); (case c3 => exact rfl); (case c4 => exact rfl); k_whole; intro g' L' h' FG' F' N' B' X' T' l1; (try dsimp only); (try k_lift B'); (try k_fold))
  k_steps
  have I : InstAt h' e (excObj 63 tt) 63 none := ⟨(N' _ (.head _)).1, rfl, rfl, trivial⟩
  k_dflt (refine ks_node (by k_asm) (by k_asm) (by k_asm) (by k_asm) (by k_is) (by rfl) (by rfl) I (by k_is) (by rfl) (by first | rfl | decide +kernel) (by k_is) (by k_is) (by k_is) (by k_is) (by decide) (by rfl) (by rfl) (by rfl) (by rfl) (by decide +kernel) (by first | boot_by_name | rfl | kernel_rfl) ?_)
  intro so h'' F'' N'' l2
  k_dflt (refine exc_method_K (by k_asm) (by k_asm) N'' (Ne.symm (Nat.ne_of_lt (l2 _ (.head _)))) (by k_is) (by k_is) (by first | rfl | decide +kernel) (by k_is) ?_)
  intro q h₃ F₃ N₃
  k_dflt (refine callWith_mw (e' := e) ?_)
  k_steps
  · exact (N₃ _ (.head _)).1
  k_dflt (refine exc_init_super (t₀ := tt) ((Frag.In.keeps X' F₃.keep) _ _ (by k_is)) F₃ (fun p hp => N₃ p (.tail _ (.tail _ hp))) hs (N₃ _ (.head _)).1 ?_)
  intro t h₄ F₄ N₄ hte hlt
  k_steps
  k_dflt (refine exc_set F₄ (by k_asm) N₄ (by k_is) (by first | rfl | kernel_rfl) (by k_is) (by k_is) (by rw [typeLookup_type, builtinLookup_eq_fast]; kernel_rfl) ?hs ?_)
  case hs =>
    intro p hp
    rcases List.mem_cons.mp hp with rfl | hp
    · exact hte
    · exact hs p hp
  intro h₅ tk₅ o₅ F₅ N₅ e₅
  k_steps
  exact hQ _ _ _ _ (by k_asm) (by k_asm) e₅ hte hlt
end Mine
end
section
open PySem PySem.W PyProof.Rows PySem.Calls
set_option maxRecDepth 100000
namespace Mine
section
variable {M : Model} {A : Around} {E : Value → Shared → Prop} {h : Heap} {g : Array GenState} {d : Drawn} {t : Nat} {os : OsState}
variable {nm q : Str} {C N : Addr} {bs bm : List Value} {hdct : Bool} {sn : List Str} {sub : List Value} {ab : Bool} {col : Option Bool} {dd : Option Addr} {k0 k1 k2 k3 k5 : Option Value} {B newId initId : String} {kn : Str} {kv : Value}
theorem check_new_kw (F : ExcBaseFacts B newId initId bm) {rest : List Value} {Q : Unit → Shared → Prop} (hC : h.get? C = some (excClassObj nm q C N bs bm hdct sn sub ab col dd k0 k1 k2 k3 k5 newId))
    (hq : Q () ⟨h, g, d, t, os⟩) : wpAny M A (checkBuiltinCall newId ⟨.ref C :: rest, [(kn, kv)]⟩) Q E ⟨h, g, d, t, os⟩ := by
  have hcont : (Value.ref C :: bm).contains (.type B) = true := by rw [List.contains_cons, F.hasB, Bool.or_true]
  have hstar := F.noStar
  simp only [checkBuiltinCall, F.newKind, F.newSplit, F.newRow]
  repeat (first | refine wpAny_loadPart_at hC ?_ | (refine wpAny_isSubtype_exc hC ?_; rw [hcont]) | refine wpAny_staticBase_exc hC ?_ | refine wpAny_madeBy_exc hC ?_ | simp only [bne_self_eq_false, Bool.false_eq_true, if_false] | wp_step)
  exact hq
theorem check_type_call_kw {rest : List Value} {Q : Unit → Shared → Prop} (hC : h.get? C = some (excClassObj nm q C N bs bm hdct sn sub ab col dd k0 k1 k2 k3 k5 newId))
    (hq : Q () ⟨h, g, d, t, os⟩) : wpAny M A (checkBuiltinCall "type.__call__" ⟨.ref C :: rest, [(kn, kv)]⟩) Q E ⟨h, g, d, t, os⟩ := by
  have f3 := tc_sub
  have hT : (⟨h, g, d, t, os⟩ : Shared).TypeIs (.ref C) "type" := ⟨_, hC, rfl⟩
  simp only [checkBuiltinCall, tc_kind, tc_split]
  repeat (any_goals (first | assumption | with_reducible refine wpAny_loadPart_at hC ?_ | with_reducible refine wpAny_onRaise ?_ | with_reducible refine wpAny_map ?_ | wp_step))
end
section
variable {prog : Program} {w : World} {A : Around} {E : Value → Shared → Prop} {R : Result → Shared → Prop} {h : Heap} {g : Array GenState} {d : Drawn} {t : Nat} {os : OsState}
variable {nm q : Str} {C N : Addr} {bs bm : List Value} {hdct : Bool} {sn : List Str} {sub : List Value} {ab : Bool} {col : Option Bool} {dd : Option Addr} {k0 k1 k2 k3 k5 : Option Value} {B newId initId : String} {kn : Str} {kv msg : Value}
theorem exc_new_kw (F : ExcBaseFacts B newId initId bm) (hC : h.get? C = some (excClassObj nm q C N bs bm hdct sn sub ab col dd k0 k1 k2 k3 k5 newId))
    (hq : R (.ok (.ret (.ref (h.objs.size + 1)))) ⟨(h.push { cls := .type "tuple", data := .seq #[msg] }).push
      { cls := .ref C, data := .fields #[.ref h.objs.size, .none, .none, .none, .bool false, .none] }, g, d, t, os⟩) :
    codeAny (model prog w) A (.builtin newId ⟨[.ref C, msg], [(kn, kv)]⟩) R ⟨h, g, d, t, os⟩ := by
  have hends := F.ends
  have hcB : (Value.ref C :: bm).contains (.type B) = true := by rw [List.contains_cons, F.hasB, Bool.or_true]
  have hcA : (Value.ref C :: bm).contains (.type "AttributeError") = false := by rw [List.contains_cons, F.noAttr]; rfl
  have hcN : (Value.ref C :: bm).contains (.type "NameError") = false := by rw [List.contains_cons, F.noName]; rfl
  refine codeAny_builtinAt F.entry ?_
  unfold Builtin.«BaseException.__new__»
  refine _root_.PySem.wpAt_bind ?_
  show _root_.PySem.wpAt _ _ _ (stack >>= _) _ _ _
  refine _root_.PySem.wpAt_bind (_root_.PySem.wpAt_stack fun p below => _root_.PySem.wpAt_of_wpAny ?_)
  wp_walk
  refine _root_.PySem.wpAt_of_wpAny ?_
  rw [F.owner]
  repeat (first | with_reducible refine wpAny_madeHere_exc F.canon hC ?_ | with_reducible refine wpAny_loadPart_at hC ?_ | (with_reducible refine wpAny_isSubtype_exc hC ?_; first | rw [hcB] | rw [hcA] | rw [hcN]) | wp_step)
  show R _ _
  rw [Heap.size_push]
  exact hq
theorem type_call_exc_kw (F : ExcBaseFacts B newId initId bm) {mN : Str → Option Value} {fI : Addr} {oI : Obj} {Q : Fin → Shared → Prop}
    (hC : h.get? C = some (excClassObj nm q C N bs bm hdct sn sub ab col dd k0 k1 k2 k3 k5 newId)) (hn : h.Ns N mN) (hi : mN "__init__" = some (.ref fI))
    (hfI : h.get? fI = some oI) (hfc : oI.cls = .type "function")
    (hq : ∀ h' e, Heap.MadeExcOf h h' e (.ref C) [msg] →
      wpAny (model prog w) A (call (.ref fI) [.ref e, msg] [(kn, kv)]) (fun r s' => r = .none ∧ Q (.done (.ret (.ref e))) s') E ⟨h', g, d, t, os⟩) :
    wpAny (model prog w) A (Builtin.«type.__call__» ⟨[.ref C, msg], [(kn, kv)]⟩) Q E ⟨h, g, d, t, os⟩ := by
  repeat (first | with_reducible refine wpAny_loadPart_at hC ?_ | with_reducible refine wpAny_madeBy_exc hC ?_ | wp_step)
  refine codeAny_call_builtin_code (Code.quiet_builtin _ F.quiet) (check_new_kw F hC ?_)
  refine exc_new_kw F hC ?_
  show wpAny _ _ _ _ _ _
  have hC₁ := Heap.get?_push_of_some { cls := .ref C, data := .fields #[.ref h.objs.size, .none, .none, .none, .bool false, .none] }
    (Heap.get?_push_of_some { cls := .type "tuple", data := .seq #[msg] } hC)
  have hfI₁ := Heap.get?_push_of_some { cls := .ref C, data := .fields #[.ref h.objs.size, .none, .none, .none, .bool false, .none] }
    (Heap.get?_push_of_some { cls := .type "tuple", data := .seq #[msg] } hfI)
  have hn₁ : ((h.push { cls := .type "tuple", data := .seq #[msg] }).push { cls := .ref C, data := .fields #[.ref h.objs.size, .none, .none, .none, .bool false, .none] }).Ns N mN :=
    let ⟨o, es, ep, e, r⟩ := hn; ⟨o, es, ep, Heap.get?_push_of_some _ (Heap.get?_push_of_some _ e), r⟩
  have hget : ((h.push { cls := .type "tuple", data := .seq #[msg] }).push
      { cls := .ref C, data := .fields #[.ref h.objs.size, .none, .none, .none, .bool false, .none] }).get? (h.objs.size + 1) = some
      { cls := .ref C, data := .fields #[.ref h.objs.size, .none, .none, .none, .bool false, .none] } := by heap_get
  have hcC : (Value.ref C :: bm).contains (.ref C) = true := by simp
  unfold isInstance
  repeat (first | with_reducible refine wpAny_loadPart_at hget ?_ | (with_reducible refine wpAny_isSubtype_exc hC₁ ?_; rw [hcC]) | wp_step)
  show wpAny _ _ (typeLookup (.ref C) _) _ _ _
  refine wpAny_typeLookup_exc hC₁ hn₁ F.mroIs F.init.lookup ?_
  rw [hi]
  refine wpAny_holding (wpAny_bind ?_)
  unfold bindSpecial
  refine wpAny_bind (wpAny_typeOf (T := "function") ⟨_, hfI₁, hfc⟩ ?_)
  rw [if_pos (by decide)]
  refine wpAny_pure (wpAny_bind (wpAny_mono (hq _ (h.objs.size + 1) ⟨fun b o hb => Heap.get?_push_of_some _ (Heap.get?_push_of_some _ hb), Heap.get?_none_of_le (Nat.le_succ _), h.objs.size, hget, Heap.get?_none_of_le (Nat.le_refl _), ?_⟩) (fun r s' hr => ?_) fun _ _ x => x))
  · exact Heap.get?_push_of_some _ (Heap.get?_push_at rfl rfl)
  · obtain ⟨rfl, hQ⟩ := hr
    wp_walk
    exact hQ
theorem call_exc_kw (F : ExcBaseFacts B newId initId bm) {mN : Str → Option Value} {fI : Addr} {oI : Obj} {Q : Value → Shared → Prop}
    (hC : h.get? C = some (excClassObj nm q C N bs bm hdct sn sub ab col dd k0 k1 k2 k3 k5 newId)) (hn : h.Ns N mN) (hi : mN "__init__" = some (.ref fI))
    (hfI : h.get? fI = some oI) (hfc : oI.cls = .type "function")
    (hq : ∀ h' e, Heap.MadeExcOf h h' e (.ref C) [msg] →
      wpAny (model prog w) (A.under (.builtin "type.__call__" ⟨[.ref C, msg], [(kn, kv)]⟩)) (call (.ref fI) [.ref e, msg] [(kn, kv)]) (fun r s' => r = .none ∧ Q (.ref e) s') E ⟨h', g, d, t, os⟩) :
    wpAny (model prog w) A (call (.ref C) [msg] [(kn, kv)]) Q E ⟨h, g, d, t, os⟩ := by
  have f1 := tc_lookup
  have f2 := tc_bind (.ref C)
  have hT : (⟨h, g, d, t, os⟩ : Shared).TypeIs (.ref C) "type" := ⟨_, hC, rfl⟩
  refine wpAny_call (codeAny_of_tree ?_)
  show wpAny _ _ (callAny (.ref C) _) _ _ _
  repeat (any_goals (first | assumption | with_reducible refine wpAny_loadPart_at hC ?_ | wp_step))
  refine ⟨rfl, ?_⟩
  refine codeAny_call_builtin_at (Code.quiet_builtin _ (by decide +kernel)) entry_typeCall (check_type_call_kw hC (type_call_exc_kw F hC hn hi hfI hfc fun h' e hm => ?_))
  exact hq h' e hm
end
end Mine
end
section
open PySem PySem.W PyProof.Rows PySem.Calls
set_option maxRecDepth 100000
namespace Mine
section
variable {M : Model} {A : Around} {E : Value → Shared → Prop} {env : Env}
variable {nm q : Str} {C N : Addr} {bs bm : List Value} {hdct : Bool} {sn : List Str} {sub : List Value} {ab : Bool} {col : Option Bool} {dd : Option Addr} {k0 k1 k2 k3 k5 : Option Value} {newId : String}
theorem raiseStmt_own {s : Shared} {x : Sem Value} {Q : Flow → Shared → Prop} (hbase : bm.contains (.type "BaseException") = true) (hh : A.handled = none)
    (h : wpAny M A x (fun v s₁ => ∃ e t o, v = .ref e ∧ s₁.heap.get? C = some (excClassObj nm q C N bs bm hdct sn sub ab col dd k0 k1 k2 k3 k5 newId) ∧
      s₁.heap.get? e = some o ∧ ExcLike C t o ∧ E (.ref e) s₁) E s) :
    wpAny M A (raiseStmt env (some x) none) Q E s := by
  have hcB : (Value.ref C :: bm).contains (.type "BaseException") = true := by rw [List.contains_cons, hbase, Bool.or_true]
  unfold raiseStmt
  refine wpAny_bind (wpAny_mono h (fun v s₁ h₁ => ?_) fun _ _ x => x)
  obtain ⟨e, t, o, rfl, hC, he, hx, hE⟩ := h₁
  obtain ⟨cl, dc, da, sl⟩ := o
  obtain ⟨h1, h2⟩ := hx
  obtain rfl : cl = _ := h1
  obtain rfl : da = _ := h2
  obtain ⟨hp, g, d, tk, os⟩ := s₁
  repeat (first | with_reducible refine wpAny_loadPart_at he ?_ | with_reducible refine wpAny_loadPart_at hC ?_ | (with_reducible refine wpAny_isSubtype_exc hC ?_; rw [hcB]) | wp_step)
  exact wpAny_raiseNew_none hh hE
theorem Raise_own {s : Shared} {x : Str} {np cpos pos : Pos} {args : List Expr} {kws : List Keyword} {Q : Flow → Shared → Prop} (hbase : bm.contains (.type "BaseException") = true) (hh : A.handled = none)
    (h : wpAny M A (eval (.Name x np) env) (fun f s₁ => wpAny M A (callWith cpos f [] (backTo cpos (starEach args env)) (backToKw cpos (keywordEach kws env))) (fun v s₃ => ∃ e t o, v = .ref e ∧ s₃.heap.get? C = some (excClassObj nm q C N bs bm hdct sn sub ab col dd k0 k1 k2 k3 k5 newId) ∧
      s₃.heap.get? e = some o ∧ ExcLike C t o ∧ E (.ref e) s₃) E s₁) E s)
    (he : exec (.Raise (some (.Call (.Name x np) args kws cpos)) none pos) env = (do
      standAt pos
      raiseStmt env (some (do let v ← eval (.Call (.Name x np) args kws cpos) env; standAt pos; pure v)) none) := by rfl) :
    wpAny M A (exec (.Raise (some (.Call (.Name x np) args kws cpos)) none pos) env) Q E s := by
  rw [he]
  refine wpAny_bind (wpAny_standAt (raiseStmt_own (C := C) (nm := nm) (q := q) (N := N) (bs := bs) (bm := bm) (hdct := hdct) (sn := sn) (sub := sub) (ab := ab) (col := col) (dd := dd) (k0 := k0) (k1 := k1) (k2 := k2) (k3 := k3) (k5 := k5) (newId := newId) hbase hh ?_))
  refine wpAny_bind (wpAny_mono (wpAny_Call_Name_kw h) (fun v s₃ h₃ => wpAny_bind (wpAny_standAt (wpAny_pure h₃))) fun _ _ x => x)
end
end Mine
end
section
open PySem PySem.W PyProof.Rows PySem.Calls
set_option maxRecDepth 100000
namespace Mine
theorem frames_make {A : Around} {l : List Env} {args : Args} (h : A.frames = some l) : (A.under (.builtin "type.__call__" args)).frames = some l := by
  rw [show (A.under (.builtin "type.__call__" args)).frames = A.frames from rfl]; exact h
theorem ns_some_of {K : Frag} {h : Heap} {N : Addr} {mg : Str → Option Value} {n : Str} {v : Value} (X : K.In h) (G : h.Ns N mg) (e : nsIn K N n = some (some v)) : mg n = some v := by
  obtain ⟨o, es, ep, ho, hd, _, hf⟩ := G
  unfold nsIn at e
  split at e
  · rename_i q
    have := X _ _ q
    rw [ho] at this
    cases this
    cases hd
    split at e
    · rename_i he
      cases e
      rw [← hf]
      unfold nsFind findBy
      rw [← Array.find?_toList, he]
      rfl
    · split at e <;> cases e
  · cases e
noncomputable abbrev exMro : List Value := [.type "Exception", .type "BaseException", .type "object"]
noncomputable abbrev cls41 : Obj := excClassObj "PyFATException" "PyFATException" 41 40 [.type "Exception"] exMro true [] [] false none none (some (.ref 22)) none (some (.str "PyFATException" 196)) (some (.str "PyFATException" 204)) (some (.bool true)) "Exception.__new__"
noncomputable abbrev cls63 : Obj := excClassObj "NotAFatEntryException" "NotAFatEntryException" 63 62 [.type "Exception"] exMro true [] [] false none none (some (.ref 45)) none (some (.str "NotAFatEntryException" 228)) (some (.str "NotAFatEntryException" 236)) (some (.bool true)) "Exception.__new__"
section
variable {w : World} {h : Heap} (X : (hd.heap_39 w.params).In h)
include X
theorem at41 : h.get? 41 = some cls41 := X 41 _ (by k_is)
theorem at63 : h.get? 63 = some cls63 := X 63 _ (by k_is)
theorem ns40 : h.Ns 40 (h.nsMap 40) := .of_isNs (isNs_of_in X (by first | rfl | kernel_rfl))
theorem ns62 : h.Ns 62 (h.nsMap 62) := .of_isNs (isNs_of_in X (by first | rfl | kernel_rfl))
theorem init40 : h.nsMap 40 "__init__" = some (.ref 38) := ns_some_of X (ns40 X) (by k_is)
theorem init62 : h.nsMap 62 "__init__" = some (.ref 60) := ns_some_of X (ns62 X) (by k_is)
theorem at38 : ∃ o, h.get? 38 = some o ∧ o.cls = .type "function" := ⟨_, X 38 _ (by k_is), rfl⟩
theorem at60 : ∃ o, h.get? 60 = some o ∧ o.cls = .type "function" := ⟨_, X 60 _ (by k_is), rfl⟩
end
theorem made_ledger {s h' : Heap} {h₀ : Heap} {L e C : Addr} {m : Str → Option Value} {news : Led} {msg : Value} (F : Fr h₀ L s m) (N : News h₀ L s news) (hm : Heap.MadeExcOf s h' e (.ref C) [msg]) :
    ∃ t, Fr h₀ L h' m ∧ News h₀ L h' ((e, excObj C t) :: news) ∧ ∀ p ∈ news, p.1 ≠ e := by
  obtain ⟨t, ht, _, _⟩ := hm.there
  have hnL : e ≠ L := fun q => by
    obtain ⟨o, _, _, ho, _⟩ := F.ns
    rw [← q, hm.new] at ho; cases ho
  have hn0 : h₀.get? e = none := by
    cases q : h₀.get? e with
    | none => rfl
    | some o => have := F.keep _ _ q; rw [hm.new] at this; cases this
  refine ⟨t, F.keeps hm.keeps, fun p hp => ?_, fun p hp q => by have := (N p hp).1; rw [q, hm.new] at this; cases this⟩
  rcases List.mem_cons.mp hp with rfl | hp
  · exact ⟨ht, hnL, hn0⟩
  · exact ⟨hm.keeps _ _ (N p hp).1, (N p hp).2⟩
set_option maxHeartbeats 8000000 in
theorem call_pyfat (w : World) (news : Led) (msg : Str) (tm : Tok) (v : Value) (mean : ExcName → Option Value) (mg mb : Str → Option Value) (A : Around) (cn : Str) (cs : Scope) (a : Addr) (ccd : Value) (cl : List (Str × Addr)) (outer : List Env) (A₀ : Around) (base h₀ : Heap) (L : Addr) (m : Str → Option Value) (s : Shared) (Q E : Value → Shared → Prop)
    (B : Below A₀ base outer h₀) (F : Fr h₀ L s.heap m) (X : (hd.heap_39 w.params).In h₀) (N : News h₀ L s.heap news) (T : Top hd.view_39 lo mean mg mb h₀) (hk : cs.kind = .function) (hA : A.frames = some (envX cn cs L a ccd cl :: outer)) (hroom : A.depth + 1 < recursionLimit)
    (hQ : ∀ h' tk e t o, Fr h₀ L h' m → News h₀ L h' ((e, o) :: (t, tupObj (.str msg tm)) :: news) → ExcLike 41 t o → t ≠ e → (∀ p ∈ news, p.1 ≠ e ∧ p.1 ≠ t) → Q (.ref e) { s with heap := h', toks := tk }) :
    wpAny (model pg w) A (call (.ref 41) [.str msg tm] [(Str.ofString "errno", v)]) Q E s := by
  have XK := X.keeps F.keep
  obtain ⟨oI, hI, hIc⟩ := at38 XK
  refine call_exc_kw (h := s.heap) (g := s.gens) (d := s.drawn) (t := s.toks) (os := s.os) PySem.F.excBase_Exception (at41 XK) (ns40 XK) (init40 XK) hI hIc (fun h' e hm => ?_)
  obtain ⟨t, F', N', hs⟩ := made_ledger F N hm
  refine pyfat_init w news e t msg tm v mean mg mb (Around.under A _) cn cs a ccd cl outer A₀ base h₀ L m { s with heap := h' } _ E B F' X N' hs T hk (frames_make hA) (by show A.depth + 1 < _; exact hroom) ?_
  intro h'' tk o t' F'' N'' hx hte hlt
  exact ⟨rfl, hQ h'' tk e t' o F'' N'' hx hte fun p hp => ⟨hs p hp, Nat.ne_of_lt (hlt p hp)⟩⟩
set_option maxHeartbeats 8000000 in
theorem call_pyfat0 (w : World) (news : Led) (msg : Str) (tm : Tok) (mean : ExcName → Option Value) (mg mb : Str → Option Value) (A : Around) (cn : Str) (cs : Scope) (a : Addr) (ccd : Value) (cl : List (Str × Addr)) (outer : List Env) (A₀ : Around) (base h₀ : Heap) (L : Addr) (m : Str → Option Value) (s : Shared) (Q E : Value → Shared → Prop)
    (B : Below A₀ base outer h₀) (F : Fr h₀ L s.heap m) (X : (hd.heap_39 w.params).In h₀) (N : News h₀ L s.heap news) (T : Top hd.view_39 lo mean mg mb h₀) (hk : cs.kind = .function) (hA : A.frames = some (envX cn cs L a ccd cl :: outer)) (hroom : A.depth + 1 < recursionLimit)
    (hQ : ∀ h' tk e t o, Fr h₀ L h' m → News h₀ L h' ((e, o) :: (t, tupObj (.str msg tm)) :: news) → ExcLike 41 t o → t ≠ e → (∀ p ∈ news, p.1 ≠ e ∧ p.1 ≠ t) → Q (.ref e) { s with heap := h', toks := tk }) :
    wpAny (model pg w) A (call (.ref 41) [.str msg tm]) Q E s := by
  have XK := X.keeps F.keep
  obtain ⟨oI, hI, hIc⟩ := at38 XK
  refine wpAny_call_exc_init (h := s.heap) (g := s.gens) (d := s.drawn) (t := s.toks) (os := s.os) PySem.F.excBase_Exception (at41 XK) (ns40 XK) (init40 XK) hI hIc (fun h' e hm => ?_)
  obtain ⟨t, F', N', hs⟩ := made_ledger F N hm
  refine pyfat_init0 w news e t msg tm mean mg mb (Around.under A _) cn cs a ccd cl outer A₀ base h₀ L m { s with heap := h' } _ E B F' X N' hs T hk (frames_make hA) (by show A.depth + 1 < _; exact hroom) ?_
  intro h'' tk o t' F'' N'' hx hte hlt
  exact ⟨rfl, hQ h'' tk e t' o F'' N'' hx hte fun p hp => ⟨hs p hp, Nat.ne_of_lt (hlt p hp)⟩⟩
set_option maxHeartbeats 8000000 in
theorem call_notafat (w : World) (news : Led) (msg : Str) (tm : Tok) (v : Value) (mean : ExcName → Option Value) (mg mb : Str → Option Value) (A : Around) (cn : Str) (cs : Scope) (a : Addr) (ccd : Value) (cl : List (Str × Addr)) (outer : List Env) (A₀ : Around) (base h₀ : Heap) (L : Addr) (m : Str → Option Value) (s : Shared) (Q E : Value → Shared → Prop)
    (B : Below A₀ base outer h₀) (F : Fr h₀ L s.heap m) (X : (hd.heap_39 w.params).In h₀) (N : News h₀ L s.heap news) (T : Top hd.view_39 lo mean mg mb h₀) (hk : cs.kind = .function) (hA : A.frames = some (envX cn cs L a ccd cl :: outer)) (hroom : A.depth + 1 < recursionLimit)
    (hQ : ∀ h' tk e t o, Fr h₀ L h' m → News h₀ L h' ((e, o) :: (t, tupObj (.str msg tm)) :: news) → ExcLike 63 t o → t ≠ e → (∀ p ∈ news, p.1 ≠ e ∧ p.1 ≠ t) → Q (.ref e) { s with heap := h', toks := tk }) :
    wpAny (model pg w) A (call (.ref 63) [.str msg tm] [(Str.ofString "free_type", v)]) Q E s := by
  have XK := X.keeps F.keep
  obtain ⟨oI, hI, hIc⟩ := at60 XK
  refine call_exc_kw (h := s.heap) (g := s.gens) (d := s.drawn) (t := s.toks) (os := s.os) PySem.F.excBase_Exception (at63 XK) (ns62 XK) (init62 XK) hI hIc (fun h' e hm => ?_)
  obtain ⟨t, F', N', hs⟩ := made_ledger F N hm
  refine notafat_init w news e t msg tm v mean mg mb (Around.under A _) cn cs a ccd cl outer A₀ base h₀ L m { s with heap := h' } _ E B F' X N' hs T hk (frames_make hA) (by show A.depth + 1 < _; exact hroom) ?_
  intro h'' tk o t' F'' N'' hx hte hlt
  exact ⟨rfl, hQ h'' tk e t' o F'' N'' hx hte fun p hp => ⟨hs p hp, Nat.ne_of_lt (hlt p hp)⟩⟩
end Mine
end
section
open PySem PySem.W PyProof.Rows PySem.Calls PySem.Spec
set_option maxRecDepth 100000
namespace Mine
/-! rules of wpC for statements and calls -/
section
variable {M : Model} {A : Around} {E : Value → Shared → Prop} {s : Shared} {env : Env}
theorem wpC_execs_nil {Q : Flow → Shared → Prop} (h : Q .next s) : wpC M A (execs [] env) Q E s := wpC_any (wpAny_execs_nil h)
theorem wpC_execs_cons {st : Stmt} {rest : List Stmt} {Q : Flow → Shared → Prop}
    (h : wpC M A (exec st env) (fun f s' => match f with | .next => wpC M A (execs rest env) Q E s' | f => Q f s') E s) : wpC M A (execs (st :: rest) env) Q E s := by
  rw [execs_cons]
  refine wpC_bind (wpC_mono h (fun f s' h' => ?_) fun _ _ x => x)
  cases f with
  | next => exact h'
  | _ => exact wpC_pure h'
/-- a statement of the library's, and then on -/
theorem wpC_step {st : Stmt} {rest : List Stmt} {Q : Flow → Shared → Prop}
    (h : wpAny M A (exec st env) (fun f s' => match f with | .next => wpC M A (execs rest env) Q E s' | f => Q f s') E s) : wpC M A (execs (st :: rest) env) Q E s := wpC_execs_cons (wpC_any h)
theorem wpC_If {test : Expr} {body orelse : List Stmt} {pos : Pos} {Q : Flow → Shared → Prop}
    (h : wpAny M A (isTrue test env (eval test env)) (fun b s₂ => if b then wpC M A (execs body env) Q E s₂ else wpC M A (execs orelse env) Q E s₂) E s) :
    wpC M A (exec (.If test body orelse pos) env) Q E s := by
  rw [arm_exec_If]
  refine wpC_bind (wpC_standAt (wpC_then (wpAny_mono h (fun b s₂ h₂ => ?_) fun _ _ x => x)))
  cases b <;> exact h₂
theorem wpC_Expr {e : Expr} {pos : Pos} {Q : Flow → Shared → Prop} (h : wpC M A (eval e env) (fun v s' => match v with | .ref _ => False | _ => Q .next s') E s)
    (hi : interactive env = false := by rfl) (hs : swapsWith e none pos.line env = pure false := by rfl) : wpC M A (exec (.Expr e pos) env) Q E s := by
  rw [exec_Expr env e pos hi hs]
  refine wpC_bind (wpC_standAt (wpC_bind (wpC_mono h (fun v s' h' => ?_) fun _ _ x => x)))
  have hv : ∀ a, v ≠ .ref a := fun a hva => by subst hva; exact h'
  rw [dropValue_plain hv]
  refine wpC_pure ?_
  cases v <;> first | exact h' | exact (hv _ rfl).elim
theorem wpC_Assign_Name {x : Str} {px pos : Pos} {value : Expr} {Q : Flow → Shared → Prop}
    (h : wpC M A (eval value env) (fun v s' => wpAny M A (storeName env x v) (fun _ s'' => Q .next s'') E s') E s)
    (he : exec (.Assign [.Name x px] value pos) env = (do standAt pos; let v ← eval value env; standAt px; bindName env x v; pure .next) := by rfl) :
    wpC M A (exec (.Assign [.Name x px] value pos) env) Q E s := by
  rw [he]
  refine wpC_bind (wpC_standAt (wpC_bind (wpC_mono h (fun v s' h' => ?_) fun _ _ x => x)))
  exact wpC_any (wpAny_bind (wpAny_standAt (wpAny_bind (wpAny_bindName (wpAny_mono h' (fun _ _ q => wpAny_pure q) fun _ _ x => x)))))
theorem wpC_Try {body orelse : List Stmt} {h₀ : ExceptHandler} {hs : List ExceptHandler} {pos : Pos} {Q : Flow → Shared → Prop}
    (h : wpC M A (execs body env) (fun f s₁ => match f with | .next => wpAny M A (execs orelse env) Q E s₁ | f => Q f s₁)
      (fun e s₁ => wpAny M A (noteFrame e env) (fun _ s₂ => wpAny M A (setFlight e none) (fun _ s₃ => wpAny M A (handleBy e env (h₀ :: hs)) Q E s₃) E s₂) E s₁) s) :
    wpC M A (exec (.Try body (h₀ :: hs) orelse [] pos) env) Q E s := by
  rw [arm_exec_Try]
  refine wpC_bind (wpC_standAt ?_)
  unfold tryStmt
  simp only [List.isEmpty_nil, if_true, List.isEmpty_cons, Bool.false_and, Bool.false_eq_true, if_false]
  refine wpC_bind (wpC_attempt (wpC_mono h (fun f s₁ h₁ => ?_) fun e s₁ h₁ => ?_))
  · cases f <;> first | exact wpC_any h₁ | exact wpC_pure h₁
  · exact wpC_any (wpAny_bind (wpAny_mono h₁ (fun _ _ h₂ => wpAny_bind h₂) fun _ _ x => x))
theorem wpC_keep {α : Type} {vs : List Value} {m : Sem α} {Q : α → Shared → Prop} (h : wpC M A m Q E s) : wpC M A (m.keep vs) Q E s :=
  fun Γ p hΓ h1 h2 => by rw [Sem.wp_keep]; exact h Γ p hΓ h1 h2
theorem wpC_callWith {P : Heap → Prop} {pos : Pos} {f : Value} {first : List Value} {args : List (Bool × Sem Value)} {keywords : List (Option Str × Sem Value)} {Q : Value → Shared → Prop} (hplain : (args.any (·.1) || keywords.any (·.1.isNone)) = false)
    (hk : ∀ h, P h → ∃ k, (k = Keeper.frame ∨ k = Keeper.machine ∨ k = Keeper.boundFrame) ∧ Looks M h (keeperOf f) k)
    (h : wpC M A (evalArgs f true args keywords) (fun a s₁ => P s₁.heap ∧ wpC M A (call f (first ++ a.pos) a.kw) Q E s₁) E s) : wpC M A (callWith pos f first args keywords) Q E s := by
  unfold callWith
  refine wpC_bind (wpC_holding (wpC_mono h (fun a s₁ h₁ => wpC_bind (wpC_standAt ?_)) fun _ _ x => x))
  obtain ⟨k, hk', L⟩ := hk _ h₁.1
  simp only [hplain]
  refine wpC_then (L.here ?_)
  have tail : ∀ {t : Sem Value}, wpC M A t Q E s₁ → wpC M A (t >>= fun r => holding [r] point >>= fun _ => pure r) Q E s₁ :=
    fun ht => wpC_bind (wpC_mono ht (fun r s₂ hr => wpC_any (wpAny_bind (wpAny_holding (wpAny_point (wpAny_pure hr))))) fun _ _ x => x)
  have marked (mk : Value) : wpC M A (callMarked mk f (first ++ a.pos) a.kw) Q E s₁ := by unfold callMarked; exact wpC_keep h₁.2
  rcases hk' with rfl | rfl | rfl <;> dsimp only <;> first | exact tail h₁.2 | (split <;> first | exact tail h₁.2 | exact tail (marked _))
theorem wpC_args_one {f : Value} {x : Sem Value} {Q : Args → Shared → Prop} (h : wpC M A x (fun v s' => Q ⟨[v], []⟩ s') E s) : wpC M A (evalArgs f true [(false, x)] []) Q E s := by
  unfold evalArgs
  show wpC M A (spliced [(false, x)] >>= _) Q E s
  refine wpC_bind ?_
  rw [spliced]
  refine wpC_bind (wpC_mono h (fun v s₁ h₁ => ?_) fun _ _ x => x)
  simp only [Bool.false_eq_true, if_false]
  refine wpC_bind (wpC_pure (wpC_bind (wpC_holding (wpC_pure (wpC_pure ?_)))))
  refine wpC_holding ?_
  exact wpC_bind (wpC_pure (wpC_bind (wpC_pure (wpC_pure h₁))))
theorem wpC_call_name {func : Expr} {arg : Expr} {pos : Pos} {Q : Value → Shared → Prop}
    (h : wpAny M A (eval func env) (fun f s₁ => wpC M A (callWith pos f [] [(false, eval arg env)] []) Q E s₁) E s)
    (he : eval (.Call func [arg] [] pos) env = (do callWith pos (← eval func env) [] [(false, eval arg env)] []) := by rfl) :
    wpC M A (eval (.Call func [arg] [] pos) env) Q E s := by
  rw [he]; exact wpC_then h
theorem wpC_method {o arg : Expr} {name : Str} {apos pos : Pos} {pl : Sem Bool} {Q : Value → Shared → Prop}
    (h : wpAny M A (eval o env) (fun ov s₁ => wpAny M A (getMethod ov name pl) (fun fx s₂ => wpC M A (callWith pos fx.1 fx.2 [(false, eval arg env)] []) Q E s₂) E s₁) E s)
    (he : eval (.Call (.Attribute o name apos) [arg] [] pos) env = (do
      let ov ← eval o env
      standAt apos.atName
      let (f, first) ← holding [ov] (getMethod ov name pl)
      callWith pos f first [(false, eval arg env)] []) := by rfl) : wpC M A (eval (.Call (.Attribute o name apos) [arg] [] pos) env) Q E s := by
  rw [he]
  exact wpC_then (wpAny_mono h (fun ov s₁ h₁ => wpC_bind (wpC_standAt (wpC_bind (wpC_holding (wpC_any (wpAny_mono h₁ (fun fx s₂ h₂ => h₂) fun _ _ x => x)))))) fun _ _ x => x)
theorem codeC_loop {c : Code} {R : Result → Shared → Prop} (hn : holdsIt c = false) (hq : c.quiet = true) (I : Nat → Shared → Prop)
    (turn : ∀ n s, I n s → wpC M (A.under c) (M.den c)
      (fun fin s' => match fin with
        | .done f => R (.ok f) s'
        | .again c' => (c' = c ∧ ∃ m, m < n ∧ I m s') ∨ (c'.quiet = true ∧ codeC M A c' R s')) (fun e s' => R (.error e) s') s)
    (n : Nat) (h : I n s) : codeC M A c R s := by
  induction n using Nat.strongRecOn generalizing s with
  | ind n ih =>
    refine codeC_of_tree hn (wpC_mono (turn n s h) (fun fin s' hf => ?_) fun _ _ h' => h')
    cases fin with
    | done f => exact hf
    | again c' =>
      rcases hf with ⟨rfl, m, hm, hI⟩ | hf
      · exact ⟨hq, ih m hm hI⟩
      · exact hf
end
section
variable {prog : Program} {w : World} {A : Around} {E : Value → Shared → Prop} {s : Shared} {R : Result → Shared → Prop} {env : Env}
/-- a for loop whose body is shown in wpC and raises nothing; nothing behind it -/
theorem codeC_forLoop {target : Expr} {it : Value} {body : List Stmt} (I : Nat → Shared → Prop)
    (turn : ∀ n s, I n s → wpAny (model prog w) A (pyNext it) (fun r s₁ => match r with
      | none => R (.ok .next) s₁
      | some v => wpAny (model prog w) A (assign target env v) (fun _ s₂ => wpC (model prog w) A (execs body env) (fun f s₃ => match f with
          | .next | .cont => ∃ m, m < n ∧ I m s₃
          | .brk => R (.ok .next) s₃
          | .ret v => R (.ok (.ret v)) s₃) (fun _ _ => False) s₂) (fun _ _ => False) s₁) (fun _ _ => False) s)
    (n : Nat) (h : I n s) (ht : ∀ v, letOwnedTupleGo target it v = pure () := by intro _; rfl) : codeC (model prog w) A (.forLoop target it body [] env) R s := by
  refine codeC_loop rfl rfl I (fun n s hI => ?_) n h
  show wpC _ _ ((forTurn target it body [] env).onRaise (fun x => do noteFrame x env; theTreesLotGoes x)) _ _ s
  refine wpC_onRaise (wpC_mono (E := fun _ _ => False) ?_ (fun _ _ x => x) fun _ _ x => x.elim)
  simp only [forTurn]
  refine wpC_bind (wpC_standAt (wpC_bind (wpC_onRaise (wpC_any (wpAny_mono (turn n s hI) (fun r s₁ h₁ => ?_) fun _ _ h' => h'.elim)))))
  cases r with
  | none => exact wpC_pure (.inr ⟨rfl, codeC_any (codeAny_block (wpAny_execs_nil h₁))⟩)
  | some v =>
    refine wpC_bind (wpC_of_eq (ht v) ?_)
    refine wpC_then (wpAny_mono h₁ (fun _ s₂ h₂ => wpC_bind (wpC_mono h₂ (fun f s₃ h₃ => ?_) fun _ _ h' => h'.elim)) fun _ _ h' => h'.elim)
    cases f with
    | next => exact wpC_pure (.inl ⟨rfl, h₃⟩)
    | cont => exact wpC_pure (.inl ⟨rfl, h₃⟩)
    | brk => exact wpC_pure h₃
    | ret v => exact wpC_pure h₃
theorem wpC_For {target iter : Expr} {body : List Stmt} {pos : Pos} {Q : Flow → Shared → Prop}
    (h : wpAny (model prog w) A (eval iter env) (fun x s₁ => wpAny (model prog w) A (pyIter x) (fun it s₂ =>
      codeC (model prog w) A (.forLoop target it body [] env) (fun r s' => match r with | .ok f => Q f s' | .error _ => False) s₂) E s₁) E s)
    (hs : ∀ x, foldedSetIterable iter env x = pure x := by intro _; rfl) : wpC (model prog w) A (exec (.For target iter body [] pos) env) Q E s := by
  rw [exec_For]
  refine wpC_bind (wpC_standAt (wpC_then (wpAny_mono h (fun x s₁ h₁ => wpC_bind (wpC_of_eq (hs x) (wpC_bind (wpC_standAt (wpC_bind (wpC_holding
    (wpC_any (wpAny_mono h₁ (fun it s₂ h₂ => ?_) fun _ _ h' => h')))))))) fun _ _ h' => h')))
  unfold runOwn
  refine wpC_onRaise (wpC_run (codeC_mono h₂ (fun r s' h' => ?_)))
  cases r with
  | ok f => exact h'
  | error e => exact h'.elim
theorem codeC_func {body : List Stmt}
    (h : wpC (model prog w) (A.deeper env) (execs body env) (fun f s' => R (.ok (.ret (match f with | .ret v => v | _ => .none))) s')
      (fun e s' => wpAny (model prog w) (A.deeper env) (leaving env e) (fun _ s'' => R (.error e) s'') (fun e' s'' => R (.error e') s'') s') s) :
    codeC (model prog w) A (.func body env) R s := by
  refine codeC_of_tree rfl ?_
  show wpC _ (A.deeper env) (do point; match ← (execs body env).onRaise (leaving env) with | .ret v => ret v | _ => ret .none) _ _ s
  refine wpC_then (wpAny_point (wpC_bind (wpC_onRaise (wpC_mono h (fun f s' h' => ?_) fun _ _ h' => wpC_any h'))))
  cases f <;> exact wpC_pure h'
theorem codeC_call_function {a : Addr} {args : Args} {o : Obj} {fd : FuncData} {body : List Stmt} (hroom : A.depth < recursionLimit)
    (ho : s.heap.get? a = some o)
    (hd' : o.data = .func fd) (hco : fd.scope.isCoroutine = false) (hgen : fd.scope.isGenerator = false) (hbody : fd.body = .stmts body) (hcd : s.heap.CodeRec fd.code fd.qualname)
    (h : wpAny (model prog w) A.in1 (bindArgs fd args) (fun binds s₁ =>
      wpAny (model prog w) A.in1 (newFunctionEnv fd.scope fd.globals fd.closure binds (fd.qualname ++ ".<locals>.") (some a) fd.code none fd.builtins)
        (fun env s₂ => s₂.heap.NoLimit ∧ codeC (model prog w) A (.func body env) R s₂) (fun e s' => R (.error e) s') s₁) (fun e s' => R (.error e) s') s) :
    codeC (model prog w) A (.call (.ref a) args) R s := by
  refine codeC_of_tree rfl ?_
  show wpC _ A.in1 (callAny (.ref a) args) _ _ s
  simp only [callAny]
  refine wpC_then (wpAny_load ho ?_)
  obtain ⟨c, oc, vs, tq, hc, hoc, hdc, hq⟩ := hcd
  simp only [hd', callFunction, hco, hgen, hbody, hc]
  rw [hc] at h
  refine wpC_then (m := field (.ref c) 1) (wpAny_field hoc hdc hq (wpC_bind (wpC_pure ?_)))
  exact wpC_then (wpAny_mono h (fun binds s₁ h₁ => wpC_then (wpAny_mono h₁ (fun env s₂ h₂ => wpC_then (wpAny_enterFrame h₂.1 hroom
    (wpC_pure (And.intro rfl h₂.2)))) fun _ _ h' => h')) fun _ _ h' => h')
end
end Mine
end
section
open PySem PySem.W PyProof.Rows PySem.Calls
set_option maxRecDepth 100000
namespace Mine
/-! entering a def whose caller may have a cell, for a def that catches -/
noncomputable abbrev frs (l : List Env) : List Addr := l.filterMap (·.frame)
theorem frs_mem {env : Env} {L b : Addr} {outer : List Env} (hf : env.frame = some L) (hm : b ∈ frs (env :: outer)) : b = L ∨ b ∈ frs outer := by
  obtain ⟨env', he, hf'⟩ := List.mem_filterMap.mp hm
  rcases List.mem_cons.mp he with rfl | he
  · exact .inl (Option.some.inj (hf'.symm.trans hf))
  · exact .inr (List.mem_filterMap.mpr ⟨env', he, hf'⟩)
section
variable {prog : Program} {w : World} {A₀ A : Around} {s : Shared} {base h₀ g₀ : Heap} {outer : List Env} {L : Addr} {m : Str → Option Value} {env : Env} {news : Led} {K : Frag} {p : Program} {loose : List Str} {mean : ExcName → Option Value} {mg mb : Str → Option Value}
    {R : Result → Shared → Prop} {name qual : Str} {params : Arguments} {body : List Stmt} {scope : Scope} {dV kV doc pm cdv ct oc : Value} {an od : Option Addr} {osl : Array (Option Value)} {f : Addr} {args : Args} {binds : List (Str × Value)}
theorem groundS (B : Below A₀ base outer h₀) (F : Fr h₀ L s.heap m) (N : News h₀ L s.heap news) (XB : K.In base) (TB : Top p loose mean mg mb base) (D : KtsDicts (frs outer) h₀) (hA : A.frames = some (env :: outer)) (hf : env.frame = some L) (hke : env.scope.kind = .function) :
    Fr h₀ L (hideAll s.heap (news.map (·.1))) m ∧ Below A base (env :: outer) (hideAll s.heap (news.map (·.1))) ∧ h₀.StaysIn (hideAll s.heap (news.map (·.1))) ∧ KtsDicts (frs (env :: outer)) (hideAll s.heap (news.map (·.1))) ∧
      ∀ v s', LeaveS (frs (env :: outer)) A₀ base outer K p loose mean mg mb h₀ h₀ L m (hideAll s.heap (news.map (·.1))) R v s' → R (.ok (.ret v)) s' := by
  obtain ⟨FG, BG, st, lv⟩ := groundX (R := R) B F N hA hf hke
  obtain ⟨oL, es, ep, hLg, hLd, hLk, hLf⟩ := FG.ns
  have hNs : ∀ (sl : Array (Option Value)) h', h'.get? L = some { oL with slots := sl } → Heap.Ns h' L m := fun sl h' e => ⟨_, es, ep, e, hLd, hLk, hLf⟩
  have nL₀ : h₀.get? L = none := kts_self F
  refine ⟨FG, BG, st, fun b hb => ?_, fun v s' hl => ?_⟩
  · rcases frs_mem hf hb with rfl | hb
    · exact ⟨oL, es, ep, hLg, hLd⟩
    · obtain ⟨o, es', n', ho', hd'⟩ := D b hb
      exact ⟨o, es', n', st b o ho', hd'⟩
  rcases hl with ⟨L', m', news', F', N', k⟩ | ⟨g', L', m', news', T', F', N', k⟩
  · exact lv _ _ ⟨L', m', news', F', N', k⟩
  obtain ⟨sl, hs⟩ := T'.up hLg
  obtain ⟨T₁, S₁⟩ := kts_turn_at (h := s'.heap) (fs := frs outer) (g := h₀)
    (fun b hb => by
      obtain ⟨_, o, ho', _⟩ := B.frames.mem hb
      exact ⟨o, ho'⟩)
    (fun b o e nmem => F'.keep b o (T'.other b o (st b o e) (fun q => by
      rcases frs_mem hf q with z | z
      · rw [z, nL₀] at e
        cases e
      · exact nmem z)))
    (fun b o e hm => by
      obtain ⟨sl', hs'⟩ := T'.up (st b o e)
      exact ⟨sl', F'.keep _ _ hs'⟩)
  have B₃ : Below A₀ base outer (ktsHeap s'.heap (frs outer) h₀) := ⟨B.stack, fun b o e => T₁.other b o (B.stays b o e) (fun hm => by
    rw [(B.frames.mem hm).1] at e
    cases e), B.frames.of_keeps fun b o e _ => by
    obtain ⟨sl', hs'⟩ := T₁.up e
    exact ⟨_, hs', rfl⟩⟩
  refine k _ T₁ ⟨hNs sl _ (F'.keep _ _ hs), S₁, by rw [T₁.size]; exact F.above⟩ (fun p hp => ⟨(N' p hp).1, fun q => ?_, ?_⟩) B₃ (XB.keeps B₃.stays) (TB.keeps B₃.stays) (D.turn T₁)
  · have := (N' p hp).2.2; rw [q, hs] at this; cases this
  · refine T₁.none_ _ ?_
    cases q : h₀.get? p.1 with
    | none => rfl
    | some o =>
      obtain ⟨sl', hs'⟩ := T'.up (st _ _ q)
      have := (N' p hp).2.2
      rw [hs'] at this
      cases this
theorem code_S (B : Below A₀ base outer h₀) (F : Fr h₀ L s.heap m) (X₀ : K.In h₀) (N : News h₀ L s.heap news) (T : Top p loose mean mg mb h₀) (XB : K.In base) (TB : Top p loose mean mg mb base) (D : KtsDicts (frs outer) h₀)
    (hA : A.frames = some (env :: outer)) (hf : env.frame = some L) (hke : env.scope.kind = .function)
    (ho : K.lookup f = some ⟨oc, od, .func (fnOf name qual params body scope dV kV doc pm an cdv ct), osl⟩) (hcd : codeIn K cdv qual = true) (hroom : A.depth < recursionLimit)
    (hbind : BindsTo s (fnOf name qual params body scope dV kV doc pm an cdv ct) args binds) (hloc : ∀ y ∈ binds, scope.names.lookup y.1 = some .local)
    (h : ∀ g L' h₁, Fr h₀ L g m → Fr g L' h₁ (fun y => binds.reverse.lookup y) → News g L' h₁ news → Below A base (env :: outer) g → K.In g → Top p loose mean mg mb g → KtsDicts (frs (env :: outer)) g →
      wpAny (model prog w) (A.deeper (envOf qual scope L' f cdv)) (execs body (envOf qual scope L' f cdv))
        (fun fl s' => LeaveS (frs (env :: outer)) A₀ base outer K p loose mean mg mb h₀ h₀ L m g R (match fl with | .ret v => v | _ => .none) s')
        (fun e s' => wpAny (model prog w) (A.deeper (envOf qual scope L' f cdv)) (leaving (envOf qual scope L' f cdv) e) (fun _ s'' => R (.error e) s'') (fun e' s'' => R (.error e') s'') s')
        { s with heap := h₁, toks := s.toks + binds.length })
    (hco : scope.isCoroutine = false) (hgen : scope.isGenerator = false) (hk : scope.kind = .function)
    (hcell : ∀ x ∈ scope.names, x.2 ≠ .cell) : codeAny (model prog w) A (.call (.ref f) args) R s := by
  have X := X₀.keeps F.keep
  obtain ⟨FG, BG, st, DG, lv⟩ := groundS (R := R) B F N XB TB D hA hf hke
  refine codeAny_call_def (fd := fnOf name qual params body scope dV kV doc pm an cdv ct) (body := body) (binds := binds) hroom (X _ _ ho) rfl (T.nolimit.keeps F.keep) (codeRec_of X hcd) rfl hbind hcell hloc (fun h₁ hns hk₁ => ?_) hco hgen hk
  exact wpAny_mono (h _ s.heap.objs.size h₁ FG ⟨hns, fun b o e => hk₁ b o (of_hideAll _ e), Nat.le_of_eq (hideAll_size _ _)⟩
    (fun p hp => ⟨hk₁ _ _ (N p hp).1, Nat.ne_of_lt (Heap.lt_size (N p hp).1), hideAll_none _ (List.mem_map_of_mem hp)⟩) BG (X₀.keeps st) (T.keeps st) DG) (fun fl s' hl => lv _ _ hl) fun _ _ y => y
theorem code_SC (B : Below A₀ base outer h₀) (F : Fr h₀ L s.heap m) (X₀ : K.In h₀) (N : News h₀ L s.heap news) (T : Top p loose mean mg mb h₀) (XB : K.In base) (TB : Top p loose mean mg mb base) (D : KtsDicts (frs outer) h₀)
    (hA : A.frames = some (env :: outer)) (hf : env.frame = some L) (hke : env.scope.kind = .function)
    (ho : K.lookup f = some ⟨oc, od, .func (fnOf name qual params body scope dV kV doc pm an cdv ct), osl⟩) (hcd : codeIn K cdv qual = true) (hroom : A.depth < recursionLimit)
    (hbind : BindsTo s (fnOf name qual params body scope dV kV doc pm an cdv ct) args binds) (hloc : ∀ y ∈ binds, scope.names.lookup y.1 = some .local)
    (h : ∀ g L' h₁, Fr h₀ L g m → Fr g L' h₁ (fun y => binds.reverse.lookup y) → News g L' h₁ news → Below A base (env :: outer) g → K.In g → Top p loose mean mg mb g → KtsDicts (frs (env :: outer)) g →
      wpC (model prog w) (A.deeper (envOf qual scope L' f cdv)) (execs body (envOf qual scope L' f cdv))
        (fun fl s' => LeaveS (frs (env :: outer)) A₀ base outer K p loose mean mg mb h₀ h₀ L m g R (match fl with | .ret v => v | _ => .none) s')
        (fun e s' => wpAny (model prog w) (A.deeper (envOf qual scope L' f cdv)) (leaving (envOf qual scope L' f cdv) e) (fun _ s'' => R (.error e) s'') (fun e' s'' => R (.error e') s'') s')
        { s with heap := h₁, toks := s.toks + binds.length })
    (hco : scope.isCoroutine = false) (hgen : scope.isGenerator = false) (hk : scope.kind = .function)
    (hcell : ∀ x ∈ scope.names, x.2 ≠ .cell) : codeC (model prog w) A (.call (.ref f) args) R s := by
  have X := X₀.keeps F.keep
  obtain ⟨FG, BG, st, DG, lv⟩ := groundS (R := R) B F N XB TB D hA hf hke
  refine codeC_call_function (fd := fnOf name qual params body scope dV kV doc pm an cdv ct) hroom (X _ _ ho) rfl hco hgen rfl (codeRec_of X hcd) (hbind _ _ _ _ ?_)
  refine wpAny_newFunctionEnv hcell hloc (fun h₁ hns hsb => ⟨(T.nolimit.keeps F.keep).fresh _ hsb, codeC_func ?_⟩) hk
  have hk₁ : ∀ b o, s.heap.get? b = some o → h₁.get? b = some o := fun b o e => hsb.extBut b o (Nat.ne_of_lt (Heap.lt_size e)) (Heap.get?_push_of_some _ e)
  exact wpC_mono (h _ s.heap.objs.size h₁ FG ⟨hns, fun b o e => hk₁ b o (of_hideAll _ e), Nat.le_of_eq (hideAll_size _ _)⟩
    (fun p hp => ⟨hk₁ _ _ (N p hp).1, Nat.ne_of_lt (Heap.lt_size (N p hp).1), hideAll_none _ (List.mem_map_of_mem hp)⟩) BG (X₀.keeps st) (T.keeps st) DG) (fun fl s' hl => lv _ _ hl) fun _ _ y => y
/-- the law's frame stands alone: a turned ground is the old one to it -/
theorem fr_unturn {h : Heap} {g : Heap} (T : KtsTurn [] h₀ g) (F : Fr g L h m) : Fr h₀ L h m := ⟨F.ns, fun b o e => F.keep b o (T.other b o e (fun q => nomatch q)), by rw [← T.size]; exact F.above⟩
theorem news_unturn {h : Heap} {g : Heap} (T : KtsTurn [] h₀ g) (N : News g L h news) : News h₀ L h news := fun q hq => ⟨(N q hq).1, (N q hq).2.1, by
  cases z : h₀.get? q.1 with
  | none => rfl
  | some o => have := (N q hq).2.2; rw [T.other _ _ z (fun q => nomatch q)] at this; cases this⟩
end
end Mine
end
section
open PySem PySem.W PyProof.Rows PySem.Calls
set_option maxRecDepth 100000
namespace Mine
section
variable {M : Model} {A : Around} {E : Value → Shared → Prop} {s' : Shared} {base g : Heap} {outer : List Env} {L : Addr} {m : Str → Option Value} {env : Env} {Q : Unit → Shared → Prop} {news : Led}
/-- an own exception leaves the frame that raised it -/
theorem leave_own {e t C : Addr} {o : Obj} {msg : Value} (K : Below A base outer g) (F : Fr g L s'.heap m) (N : News g L s'.heap ((e, o) :: (t, tupObj msg) :: news)) (hx : ExcLike C t o) (hte : t ≠ e) (hs : ∀ p ∈ news, p.1 ≠ e ∧ p.1 ≠ t)
    (hf : env.frame = some L) (hk : env.scope.kind = .function)
    (hQ : ∀ h', RaisedS base g outer e (.ref C) t [msg] news h' → g.UpToSlots h' → Q () { s' with heap := h' }) :
    wpAny M (A.deeper env) (leaving env (.ref e)) Q E s' := by
  obtain ⟨hcls, hdat⟩ := hx
  have K' := pushX K F hf hk
  have he := N (e, o) (.head _)
  have ht := N (t, tupObj msg) (.tail _ (.head _))
  generalize hfs : (env :: outer).filterMap (·.frame) = fs at *
  have mem : ∀ b ∈ fs, base.get? b = none ∧ ∃ o, s'.heap.get? b = some o ∧ ∀ vs, o.data ≠ .fields vs := fun b hb => K'.frames.mem (hfs ▸ hb)
  have st : base.StaysIn (hideAll s'.heap (e :: t :: fs)) := fun b ob q => hideAll_get _ (K'.stays b ob q) fun hm => by
    rcases List.mem_cons.mp hm with rfl | hm
    · have := K.stays _ _ q; rw [he.2.2] at this; cases this
    · rcases List.mem_cons.mp hm with rfl | hm
      · have := K.stays _ _ q; rw [ht.2.2] at this; cases this
      · rw [(mem b hm).1] at q; cases q
  have hnl : ∀ q ∈ news, q.1 ∉ fs := fun q hq hm => by
    rw [← hfs] at hm
    obtain ⟨env', he', hf'⟩ := List.mem_filterMap.mp hm
    rcases List.mem_cons.mp he' with rfl | he'
    · exact (N q (.tail _ (.tail _ hq))).2.1 (Option.some.inj (hf'.symm.trans hf))
    · obtain ⟨_, ho, _⟩ := (K.frames.mem (List.mem_filterMap.mpr ⟨env', he', hf'⟩)).2
      rw [(N q (.tail _ (.tail _ hq))).2.2] at ho; cases ho
  have sg : ∀ b o, g.get? b = some o → b ∉ outer.filterMap (·.frame) → (hideAll s'.heap (e :: t :: fs)).get? b = some o := fun b ob q nm => hideAll_get _ (F.keep b ob q) fun hm => by
    rcases List.mem_cons.mp hm with rfl | hm
    · rw [he.2.2] at q; cases q
    · rcases List.mem_cons.mp hm with rfl | hm
      · rw [ht.2.2] at q; cases q
      · rcases frs_mem hf (hfs ▸ hm) with z | z
        · rw [z, kts_self F] at q; cases q
        · exact nm z
  have hl : ∀ q ∈ news, (hideAll s'.heap (e :: t :: fs)).get? q.1 = some q.2 ∧ g.get? q.1 = none ∧ base.get? q.1 = none := fun q hq => by
    have hq' := N q (.tail _ (.tail _ hq))
    refine ⟨hideAll_get _ hq'.1 fun hm => ?_, hq'.2.2, fresh_of_stays K.stays hq'.2.2⟩
    rcases List.mem_cons.mp hm with h1 | hm
    · exact (hs q hq).1 h1
    · rcases List.mem_cons.mp hm with h1 | hm
      · exact (hs q hq).2 h1
      · exact hnl q hq hm
  have hFF : s'.heap.FunFrames (hideAll s'.heap (e :: t :: fs)) (env :: outer) := funFrames_hide K'.frames fun env' he' b hb => .tail _ (.tail _ (hfs ▸ List.mem_filterMap.mpr ⟨env', he', hb⟩))
  refine wpAny_leaving_firstW (base := hideAll s'.heap (e :: t :: fs)) (A := A.deeper env) (Around.frames_deeper K.stack) hFF hf he.1 (fun b o q => of_hideAll _ q) (hideAll_none _ (.head _)) hdat rfl rfl fun h' hL => ?_
  obtain ⟨x1, x2, x3, x4⟩ := hL
  have hhide : (hideAll s'.heap (e :: t :: fs)).get? t = none := hideAll_none _ (.tail _ (.head _))
  refine hQ h' ⟨⟨_, st, sg, hl, ⟨x1, hideAll_none _ (.head _), x2.2.2, hcls ▸ x3⟩, hhide⟩, ?_⟩ ((Heap.UpToSlots.of_keeps F.keep).trans x4)
  obtain ⟨sl, hsl⟩ := x4 _ _ ht.1 fun vs q => by cases q
  exact ⟨_, _, hsl, rfl, rfl⟩
end
end Mine
end
section
open PySem PySem.W PyProof.Rows PySem.Calls
set_option maxRecDepth 100000
namespace Mine
section
variable {prog : Program} {w : World} {A : Around} {E : Value → Shared → Prop} {s : Shared} {env : Env}
noncomputable def BaFn (P : Shared → Prop) (f : Value) (s₁ : Shared) : Prop := f = .type "bytearray" ∧ P s₁
noncomputable def BaArg (Q : Value → Shared → Prop) (v : Value) (s₂ : Shared) : Prop := ∃ b t, v = .bytes b t ∧ b.size ≤ 1000 ∧ ∀ D h' k, D = s₂.heap.objs.size → IsBA h' D b → (∀ c o, s₂.heap.get? c = some o → h'.get? c = some o) → Q (.ref D) { s₂ with heap := h', toks := k }
theorem eval_bytearray {p1 p2 : Pos} {arg : Expr} {Q : Value → Shared → Prop}
    (h : wpAny (model prog w) A (eval (.Name "bytearray" p1) env) (BaFn fun s₁ => wpAny (model prog w) A (eval arg env) (BaArg Q) E s₁) E s)
    (he : eval (.Call (.Name "bytearray" p1) [arg] [] p2) env = (do callWith p2 (← eval (.Name "bytearray" p1) env) [] [(false, eval arg env)] []) := by rfl) :
    wpC (model prog w) A (eval (.Call (.Name "bytearray" p1) [arg] [] p2) env) Q E s := by
  refine wpC_call_name (wpAny_mono h (fun f s₁ h₁ => ?_) fun _ _ x => x) he
  obtain ⟨rfl, h₁⟩ := h₁
  refine wpC_callWith (P := fun _ => True) rfl (fun _ _ => ⟨.machine, .inr (.inl rfl), Looks.of_pure rfl⟩) (wpC_args_one (wpC_any (wpAny_mono h₁ (fun v s₂ h₂ => ?_) fun _ _ x => x)))
  obtain ⟨b, t, rfl, hz, h₂⟩ := h₂
  exact ⟨trivial, call_bytearray (by omega) fun h' k a c => h₂ _ h' k rfl a c⟩
theorem assign_bytearray {x : Str} {px p1 p2 pos : Pos} {arg : Expr} {Q : Flow → Shared → Prop}
    (h : wpAny (model prog w) A (eval (.Name "bytearray" p1) env) (BaFn fun s₁ => wpAny (model prog w) A (eval arg env) (BaArg fun v s' => wpAny (model prog w) A (storeName env x v) (fun _ s'' => Q .next s'') E s') E s₁) E s)
    (he : eval (.Call (.Name "bytearray" p1) [arg] [] p2) env = (do callWith p2 (← eval (.Name "bytearray" p1) env) [] [(false, eval arg env)] []) := by rfl)
    (he' : exec (.Assign [.Name x px] (.Call (.Name "bytearray" p1) [arg] [] p2) pos) env = (do standAt pos; let v ← eval (.Call (.Name "bytearray" p1) [arg] [] p2) env; standAt px; bindName env x v; pure .next) := by rfl) :
    wpC (model prog w) A (exec (.Assign [.Name x px] (.Call (.Name "bytearray" p1) [arg] [] p2) pos) env) Q E s :=
  wpC_Assign_Name (eval_bytearray h he) he'
theorem ba_new {h₀ h' : Heap} {L D : Addr} {m : Str → Option Value} {news : Led} {b : Array UInt8} (F : Fr h₀ L s.heap m) (N : News h₀ L s.heap news) (hD : D = s.heap.objs.size) (hb : IsBA h' D b) (hk : ∀ c o, s.heap.get? c = some o → h'.get? c = some o) :
    Fr h₀ L h' m ∧ News h₀ L h' ((D, baObj b) :: news) ∧ ∀ p ∈ news, p.1 < D := by
  subst hD
  exact ⟨F.keeps hk, news_pushed F N hk hb rfl, fun p hp => Heap.lt_size (N p hp).1⟩
end
end Mine
end
section
open PySem PySem.W PyProof.Rows PySem.Calls
namespace Mine
noncomputable abbrev InK (w : World) (h : Heap) : Prop := (hd.heap_39 w.params).In h
noncomputable abbrev TopK (mean : ExcName → Option Value) (mg mb : Str → Option Value) (h : Heap) : Prop := Top hd.view_39 lo mean mg mb h
/-- a def that may raise (Z says what), from any frame -/
noncomputable def CnS (w : World) (f : Addr) (d u : Nat) (vs : List Value) (kw : List (Str × Value)) (news : Led) (R : Value → Led → Prop) (Z : Value → Prop) : Prop :=
  ∀ (mean : ExcName → Option Value) (mg mb : Str → Option Value) (dp un : Nat) (gd : Option (List Code)) (cn : Str) (cs : Scope) (a : Addr) (ccd : Value) (cl : List (Str × Addr)) (outer : List Env) (A₀ : Around) (base h₀ : Heap) (L : Addr) (m : Str → Option Value) (s : Shared) (Q E : Value → Shared → Prop),
    InK w base → TopK mean mg mb base → KtsDicts (frs outer) h₀ → Below A₀ base outer h₀ → Fr h₀ L s.heap m → InK w h₀ → News h₀ L s.heap news → TopK mean mg mb h₀ → cs.kind = .function → dp + d < recursionLimit → un + u < cLine →
    (∀ v new h' tk', R v new → Fr h₀ L h' m → News h₀ L h' new → Q v { s with heap := h', toks := tk' }) →
    (∀ e cls t vs' h' tk' G, Z cls → Fr h₀ L G m → RaisedS base G (envX cn cs L a ccd cl :: outer) e cls t vs' news h' → G.UpToSlots h' → E (.ref e) { s with heap := h', toks := tk' }) →
    wpAny (model pg w) (ktrTop dp un gd cn cs L a ccd cl outer) (call (.ref f) vs kw) Q E s
/-- a def that catches inside: the ground comes back turned -/
noncomputable def CnT (w : World) (f : Addr) (d u : Nat) (vs : List Value) (kw : List (Str × Value)) (news : Led) (R : Value → Led → Prop) : Prop :=
  ∀ (mean : ExcName → Option Value) (mg mb : Str → Option Value) (dp un : Nat) (gd : Option (List Code)) (cn : Str) (cs : Scope) (a : Addr) (ccd : Value) (cl : List (Str × Addr)) (outer : List Env) (A₀ : Around) (base h₀ : Heap) (L : Addr) (m : Str → Option Value) (s : Shared) (Q E : Value → Shared → Prop),
    InK w base → TopK mean mg mb base → KtsDicts (frs outer) h₀ → Below A₀ base outer h₀ → Fr h₀ L s.heap m → InK w h₀ → News h₀ L s.heap news → TopK mean mg mb h₀ → cs.kind = .function → dp + d < recursionLimit → un + u < cLine →
    (∀ v new h' tk' h₁, R v new → KtsTurn (frs outer) h₀ h₁ → Fr h₁ L h' m → News h₁ L h' new → Below A₀ base outer h₁ → InK w h₁ → TopK mean mg mb h₁ → KtsDicts (frs outer) h₁ → Q v { s with heap := h', toks := tk' }) →
    wpAny (model pg w) (ktrTop dp un gd cn cs L a ccd cl outer) (call (.ref f) vs kw) Q E s
/-- a def that makes a bytearray, called by the law itself -/
noncomputable def CnC (w : World) (f : Addr) (d u : Nat) (vs : List Value) (kw : List (Str × Value)) (news : Led) (R : Value → Led → Prop) (Z : Value → Prop) : Prop :=
  ∀ (mean : ExcName → Option Value) (mg mb : Str → Option Value) (dp un : Nat) (gd : Option (List Code)) (cn : Str) (cs : Scope) (a : Addr) (ccd : Value) (cl : List (Str × Addr)) (A₀ : Around) (h₀ : Heap) (L : Addr) (m : Str → Option Value) (s : Shared) (Q E : Value → Shared → Prop),
    Below A₀ h₀ [] h₀ → Fr h₀ L s.heap m → InK w h₀ → News h₀ L s.heap news → TopK mean mg mb h₀ → cs.kind = .function → dp + d < recursionLimit → un + u < cLine →
    (∀ v new h' tk', R v new → Fr h₀ L h' m → News h₀ L h' new → Q v { s with heap := h', toks := tk' }) →
    (∀ e cls t vs' h' tk' G, Z cls → Fr h₀ L G m → RaisedS h₀ G [envX cn cs L a ccd cl] e cls t vs' news h' → G.UpToSlots h' → E (.ref e) { s with heap := h', toks := tk' }) →
    wpC (model pg w) (ktrTop dp un gd cn cs L a ccd cl []) (call (.ref f) vs kw) Q E s
theorem useS {w : World} {f : Addr} {d u : Nat} {vs : List Value} {kw : List (Str × Value)} {news : Led} {R : Value → Led → Prop} {Z : Value → Prop} {mean : ExcName → Option Value} {mg mb : Str → Option Value} {dp un : Nat} {gd : Option (List Code)} {cn : Str} {cs : Scope} {a : Addr} {ccd : Value} {cl : List (Str × Addr)} {outer : List Env} {A₀ : Around} {base h₀ : Heap} {L : Addr} {m : Str → Option Value} {s : Shared} {Q E : Value → Shared → Prop}
    (c : CnS w f d u vs kw news R Z) (B : Below A₀ base outer h₀) (F : Fr h₀ L s.heap m) (X : InK w h₀) (N : News h₀ L s.heap news) (T : TopK mean mg mb h₀) (XB : InK w base) (TB : TopK mean mg mb base) (D : KtsDicts (frs outer) h₀) (hk : cs.kind = .function) (hdp : dp + d < recursionLimit) (hun : un + u < cLine)
    (h : ∀ v new h' tk', R v new → Fr h₀ L h' m → News h₀ L h' new → Q v { s with heap := h', toks := tk' })
    (h2 : ∀ e cls t vs' h' tk' G, Z cls → Fr h₀ L G m → RaisedS base G (envX cn cs L a ccd cl :: outer) e cls t vs' news h' → G.UpToSlots h' → E (.ref e) { s with heap := h', toks := tk' }) :
    wpAny (model pg w) (ktrTop dp un gd cn cs L a ccd cl outer) (call (.ref f) vs kw) Q E s := c mean mg mb dp un gd cn cs a ccd cl outer A₀ base h₀ L m s Q E XB TB D B F X N T hk hdp hun h h2
theorem useT {w : World} {f : Addr} {d u : Nat} {vs : List Value} {kw : List (Str × Value)} {news : Led} {R : Value → Led → Prop} {mean : ExcName → Option Value} {mg mb : Str → Option Value} {dp un : Nat} {gd : Option (List Code)} {cn : Str} {cs : Scope} {a : Addr} {ccd : Value} {cl : List (Str × Addr)} {outer : List Env} {A₀ : Around} {base h₀ : Heap} {L : Addr} {m : Str → Option Value} {s : Shared} {Q E : Value → Shared → Prop}
    (c : CnT w f d u vs kw news R) (B : Below A₀ base outer h₀) (F : Fr h₀ L s.heap m) (X : InK w h₀) (N : News h₀ L s.heap news) (T : TopK mean mg mb h₀) (XB : InK w base) (TB : TopK mean mg mb base) (D : KtsDicts (frs outer) h₀) (hk : cs.kind = .function) (hdp : dp + d < recursionLimit) (hun : un + u < cLine)
    (h : ∀ v new h' tk' h₁, R v new → KtsTurn (frs outer) h₀ h₁ → Fr h₁ L h' m → News h₁ L h' new → Below A₀ base outer h₁ → InK w h₁ → TopK mean mg mb h₁ → KtsDicts (frs outer) h₁ → Q v { s with heap := h', toks := tk' }) :
    wpAny (model pg w) (ktrTop dp un gd cn cs L a ccd cl outer) (call (.ref f) vs kw) Q E s := c mean mg mb dp un gd cn cs a ccd cl outer A₀ base h₀ L m s Q E XB TB D B F X N T hk hdp hun h
theorem raised_sub {base G h : Heap} {l : List Env} {e t : Addr} {cls : Value} {vs : List Value} {news news' : Led} (R : RaisedS base G l e cls t vs news h) (hs : ∀ p ∈ news', p ∈ news) : RaisedS base G l e cls t vs news' h := by
  obtain ⟨⟨B, h1, h1', h2, h3, h4⟩, h5⟩ := R
  exact ⟨⟨B, h1, h1', fun q hq => h2 q (hs q hq), h3, h4⟩, h5⟩
end Mine
end
local macro_rules | `(tactic| walk_at "cn") => `(tactic| (k_dflt (apply Mine.useC; rotate_left; k_asm; k_asm; k_asm; k_asm; k_asm; rotate_right)))
local macro_rules | `(tactic| walk_at "cs") => `(tactic| (k_dflt (apply Mine.useS; rotate_left; k_asm; k_asm; k_asm; k_asm; k_asm; assumption; assumption; assumption; rotate_right)))
local macro_rules | `(tactic| walk_at "ct") => `(tactic| (k_dflt (apply Mine.useT; rotate_left; k_asm; k_asm; k_asm; k_asm; k_asm; assumption; assumption; assumption; rotate_right)))
local macro_rules | `(tactic| walk_at "cr") => `(tactic| (k_dflt (exact rfl; ktr_room; ktr_units; k_whole)))
local macro_rules | `(tactic| walk_at "i1") => `(tactic| (intro v' new' h' tk' r' F' N'; obtain ⟨⟨t', e1⟩, e2⟩ := r'; subst e1; subst e2))
local macro_rules | `(tactic| walk_at "i2") => `(tactic| (intro v' new' h' tk' r' F' N'; obtain ⟨⟨t', e1⟩, e2⟩ := r'; subst e1; (replace e2 := Eq.symm e2); subst e2))
local macro_rules | `(tactic| walk_at "i3") => `(tactic| (all_goals (first | (intro e' c' t' vs' h' tk' G' z' FG' S' U'; subst z') | (intro v' new' h' tk' r' F' N'; exact False.elim r'))))
local macro_rules | `(tactic| walk_at "i4") => `(tactic| (intro v' new' h' tk' g' r' T' F' N' B' X' P' D'; obtain ⟨e1, e2⟩ := r'; subst e1; subst e2; k_dflt (replace F' := Mine.fr_unturn T' F'); k_dflt (replace N' := Mine.news_unturn T' N'); clear T' B' X' P' D'))
local macro_rules | `(tactic| walk_at "i5") => `(tactic| (all_goals (first | (intro e' c' t' vs' h' tk' G' z' FG' S' U'; exact False.elim z') | (intro v' new' h' tk' r' F' N'; obtain ⟨⟨t', e1⟩, e2⟩ := r'; subst e1; subst e2))))
local macro_rules | `(tactic| ktr_room) => `(tactic| (k_dflt (first | decide | exact Mine.room2 (by assumption) rfl | exact Mine.room1 (by assumption) rfl | exact Mine.room0 (by assumption))))
local macro_rules | `(tactic| ktr_units) => `(tactic| (k_dflt (first | decide | exact Mine.room2 (by assumption) rfl | exact Mine.room1 (by assumption) rfl | exact Mine.room0 (by assumption))))
local macro_rules | `(tactic| k_in) => `(tactic| with_reducible (first | assumption | exact PySem.W.Frag.In.keeps (by assumption) (PyProof.Rows.Fr.keep (by assumption))))
local macro_rules | `(tactic| walk_at "enterP") => `(tactic| (apply PySem.W.code_def; k_asm; k_asm; k_asm; k_asm; k_asm; exact rfl; exact rfl; assumption; k_is; k_is; ktr_room; (first | exact PySem.BindsTo.of_eq rfl | exact PySem.W.binds_K (by k_in) rfl (by k_is) rfl rfl rfl); exact PyProof.Rows.locs rfl; rotate_left; exact rfl; exact rfl; exact rfl; decide; k_whole; intro g' L' h' FG' F' N' B' X' T'; (try dsimp only); (try k_lift B'); (try k_fold)))
local macro_rules | `(tactic| walk_at "enterS") => `(tactic| (apply Mine.code_S; k_asm; k_asm; k_asm; k_asm; k_asm; assumption; assumption; assumption; exact rfl; exact rfl; assumption; k_is; k_is; ktr_room; (first | exact PySem.BindsTo.of_eq rfl | exact PySem.W.binds_K (by k_in) rfl (by k_is) rfl rfl rfl); exact PyProof.Rows.locs rfl; rotate_left; exact rfl; exact rfl; exact rfl; decide; k_whole; intro g' L' h' FG' F' N' B' X' T' D'; (try dsimp only); (try k_lift B'); (try k_fold)))
section
open PySem PySem.W PyProof.Rows PySem.Calls PySem.Spec
set_option maxRecDepth 100000
namespace Mine
section
variable {prog : Program} {w : World} {A : Around} {E : Value → Shared → Prop} {s₁ : Shared} {env : Env} {h₀ : Heap} {L : Addr} {m : Str → Option Value}
/-- a value that a for loop walks -/
noncomputable def SrcL (prog : Program) (w : World) (A : Around) (L : Addr) (xv : Value) (s₁ : Shared) (n : Nat) (P : Nat → Value → Prop) : Prop :=
  ∀ (Q : Value → Shared → Prop) (E : Value → Shared → Prop),
    (∀ (o : Obj) (fp : List Addr) (St : Nat → Heap → Prop), Walks prog w A s₁.heap.objs.size fp [s₁.heap.objs.size] n P St → L ∉ fp → St 0 (s₁.heap.push o) →
      Q (.ref s₁.heap.objs.size) { s₁ with heap := s₁.heap.push o }) → wpAny (model prog w) A (pyIter xv) Q E s₁
/-- the locals of a loop: as ahead of it but for its own name -/
noncomputable def MapK (x : Str) (M m : Str → Option Value) : Prop := ∃ kv, m = fun y => if y = x then kv else M y
theorem MapK.start (x : Str) (M : Str → Option Value) : MapK x M M := ⟨M x, by funext y; split <;> simp_all⟩
theorem MapK.next {x : Str} {M : Str → Option Value} {v kv : Option Value} : MapK x M (fun y => if y = x then v else (fun y => if y = x then kv else M y) y) := ⟨v, by funext y; by_cases h : y = x <;> simp [h]⟩
theorem notMem2 {a b L : Addr} (h1 : L ≠ a) (h2 : L ≠ b) : L ∉ [a, b] := fun h => by
  rcases List.mem_cons.mp h with e | h
  · exact h1 e
  · exact h2 (List.mem_singleton.mp h)
theorem notMem1 {a L : Addr} (h1 : L ≠ a) : L ∉ [a] := fun h => h1 (List.mem_singleton.mp h)
theorem srcL_list (hh : A.handled = none) (F : Fr h₀ L s₁.heap m) {ax : Addr} {its : Array Value} (hl : s₁.heap.IsList ax its) (hne : L ≠ ax) : SrcL prog w A L (.ref ax) s₁ its.size (fun i v => its[i]? = some v) := by
  intro Q E hQ
  have hlt : ax < s₁.heap.objs.size := by obtain ⟨_, e, _⟩ := hl; exact Heap.lt_size e
  exact wpAny_pyIter_list hl (hQ _ _ _ (Walks.list hh s₁.heap.objs.size ax (Nat.ne_of_lt hlt) its) (notMem2 (Nat.ne_of_lt F.ns.lt) hne) ⟨⟨_, Heap.get?_push_size _ rfl, rfl, rfl⟩, hl.push _⟩)
theorem srcL_range (hh : A.handled = none) (F : Fr h₀ L s₁.heap m) {r : Addr} {lo hi : Int} {t u v : Tok} (hr : IsRange s₁.heap r lo hi 1 t u v) (h1 : -(2 ^ 62) ≤ lo) (h2 : lo < 2 ^ 62) (h3 : -(2 ^ 62) ≤ hi) (h4 : hi < 2 ^ 62) :
    SrcL prog w A L (.ref r) s₁ (hi - lo).toNat (fun i v => ∃ t, v = .int (lo + i) t) := by
  intro Q E hQ
  refine wpAny_pyIter_range hr (small_one h1 h2 h3 h4) (hQ _ _ (fun i h => IsRangeIter h s₁.heap.objs.size (lo + (i : Nat) * 1) (((hi - lo).toNat : Int) - (i : Nat)) 1) ?_ (notMem1 (Nat.ne_of_lt F.ns.lt)) ?_)
  · have W := Walks.range (prog := prog) (w := w) hh s₁.heap.objs.size lo 1 (hi - lo).toNat
    have e : (fun (i : Nat) (v : Value) => ∃ t, v = .int (lo + i) t) = fun (i : Nat) (v : Value) => ∃ t, v = .int (lo + i * 1) t := by funext i v; simp
    rw [e]; exact W
  · have e1 : (lo + ((0 : Nat) : Int) * 1) = lo := by simp
    have e2 : (((hi - lo).toNat : Int) - ((0 : Nat) : Int)) = Builtin.Range.rangeSize lo hi 1 := by rw [rangeSize_one]; split <;> omega
    show IsRangeIter _ _ _ _ _
    rw [e1, e2]
    exact Heap.get?_push_size _ rfl
theorem srcL_ba (hh : A.handled = none) (F : Fr h₀ L s₁.heap m) {a : Addr} {b : Array UInt8} (hb : IsBA s₁.heap a b) (hne : L ≠ a) :
    SrcL prog w A L (.ref a) s₁ b.size (fun i v => ∃ c u, b[i]? = some c ∧ v = .int (c.toNat : Int) u) := by
  intro Q E hQ
  have hlt : a < s₁.heap.objs.size := Heap.lt_size hb
  exact ba_pyIter hb (hQ _ _ _ (ba_walks hh s₁.heap.objs.size a (Nat.ne_of_lt hlt) b) (notMem2 (Nat.ne_of_lt F.ns.lt) hne) ⟨⟨_, Heap.get?_push_size _ rfl, rfl, rfl⟩, Heap.get?_push_of_some _ hb⟩)
theorem srcL_bytes (hh : A.handled = none) (F : Fr h₀ L s₁.heap m) {b : Array UInt8} {t : Tok} :
    SrcL prog w A L (.bytes b t) s₁ b.size (fun i v => ∃ c u, b[i]? = some c ∧ v = .int (c.toNat : Int) u) := by
  intro Q E hQ
  exact KBw.pyIter_bytes (hQ _ _ _ (KBw.walks hh s₁.heap.objs.size b t) (notMem1 (Nat.ne_of_lt F.ns.lt)) ⟨_, Heap.get?_push_size _ rfl, rfl, rfl⟩)
/-- a for loop over such a value: what holds ahead of each turn, what a turn does, and what holds behind -/
theorem loop_src {L : Addr} {xv : Value} {n : Nat} {P : Nat → Value → Prop} {x : Str} {body : List Stmt} {Q : Flow → Shared → Prop} {news : Led} (S : SrcL prog w A L xv s₁ n P)
    (F : Fr h₀ L s₁.heap m) (N : News h₀ L s₁.heap news)
    (J : Nat → (Str → Option Value) → Led → Prop) (h0 : J 0 m news)
    (step : ∀ i v m₁ news₁ h tk own, i < n → P i v → J i m₁ news₁ → (∀ p ∈ news₁, p.1 ≠ s₁.heap.objs.size) →
      Fr h₀ L h (fun y => if y = x then some v else m₁ y) → News h₀ L h (own ++ news₁) →
      wpAny (model prog w) A (execs body env) (LoopStepV h₀ L [s₁.heap.objs.size] own (J (i + 1)) { s₁ with heap := h, toks := tk } (fun v s' => Q (.ret v) s') fun s' => Q .next s') E { s₁ with heap := h, toks := tk })
    (hQ : ∀ h' tk m' news', Fr h₀ L h' m' → News h₀ L h' news' → J n m' news' → Q .next { s₁ with heap := h', toks := tk }) (hLe : env.locals = L := by rfl) :
    wpAny (model prog w) A (pyIter xv) (fun it s₂ => LoopAtV prog w A h₀ env x body Q E it s₂) E s₁ := by
  subst hLe
  refine S _ _ fun o fp St W hL hst => ?_
  have hsz : h₀.get? s₁.heap.objs.size = none := next_is_new F
  refine ⟨_, fp, _, n, P, St, m, news, J, rfl, W, hL, (fun b hb => List.mem_singleton.mp hb ▸ hsz), (fun p hp hm => Nat.ne_of_lt (Heap.lt_size (N p hp).1) (List.mem_singleton.mp hm)), hst,
    F.keeps fun _ _ e => Heap.get?_push_of_some _ e, N.grown fun _ _ e => Heap.get?_push_of_some _ e, h0, ?_, fun h' tk m' news' F' N' _ hJ => hQ h' tk m' news' F' N' hJ⟩
  rintro i v m₁ news₁ s₁' own ⟨h, tk, rfl⟩ hi hP hJ hoff _ _ _ _ F₁ N₁
  exact step i v m₁ news₁ h tk own hi hP hJ (fun p hp q => hoff p hp (List.mem_singleton.mpr q)) F₁ N₁
/-- the same, where a turn binds no name but the loop's -/
theorem loop_keep {L : Addr} {xv : Value} {n : Nat} {P : Nat → Value → Prop} {x : Str} {body : List Stmt} {Q : Flow → Shared → Prop} {news : Led} (S : SrcL prog w A L xv s₁ n P)
    (F : Fr h₀ L s₁.heap m) (N : News h₀ L s₁.heap news)
    (J : Nat → Led → Prop) (h0 : J 0 news)
    (step : ∀ i v new h tk own, i < n → P i v → J i new → (∀ p ∈ new, p.1 ≠ s₁.heap.objs.size) →
      Fr h₀ L h (fun y => if y = x then some v else m y) → News h₀ L h (own ++ new) →
      wpAny (model prog w) A (execs body env) (LoopStepV h₀ L [s₁.heap.objs.size] own (fun m' new' => MapK x m m' ∧ J (i + 1) new') { s₁ with heap := h, toks := tk } (fun v s' => Q (.ret v) s') fun s' => Q .next s') E { s₁ with heap := h, toks := tk })
    (hQ : ∀ h' tk kv new, Fr h₀ L h' (fun y => if y = x then kv else m y) → News h₀ L h' new → J n new → Q .next { s₁ with heap := h', toks := tk }) (hLe : env.locals = L := by rfl) :
    wpAny (model prog w) A (pyIter xv) (fun it s₂ => LoopAtV prog w A h₀ env x body Q E it s₂) E s₁ := by
  refine loop_src S F N (fun i m' new => MapK x m m' ∧ J i new) ⟨.start _ _, h0⟩ ?_ ?_ hLe
  · rintro i v m₁ new h tk own hi hP ⟨⟨kv, rfl⟩, hJ⟩ hoff F₁ N₁
    refine step i v new h tk own hi hP hJ hoff ?_ N₁
    have e : (fun y => if y = x then some v else (fun y => if y = x then kv else m y) y) = fun y => if y = x then some v else m y := by funext y; by_cases h : y = x <;> simp [h]
    rw [← e]; exact F₁
  · rintro h' tk m' new F' N' ⟨⟨kv, rfl⟩, hJ⟩
    exact hQ h' tk kv new F' N' hJ
/-- the locals of a loop that counts: the loop's own name, and one number -/
noncomputable def AccK (x y : Str) (a : Int) (M m : Str → Option Value) : Prop := ∃ kv u, m = fun z => if z = y then some (.int a u) else if z = x then kv else M z
theorem loop_acc {L : Addr} {xv : Value} {n : Nat} {P : Nat → Value → Prop} {x y : Str} {body : List Stmt} {Q : Flow → Shared → Prop} {news : Led} (f : Nat → Int) (S : SrcL prog w A L xv s₁ n P)
    (F : Fr h₀ L s₁.heap m) (N : News h₀ L s₁.heap news) (hxy : x ≠ y) {u₀ : Tok} (hm : m y = some (.int (f 0) u₀))
    (step : ∀ i v u h tk own, i < n → P i v → (∀ p ∈ news, p.1 ≠ s₁.heap.objs.size) →
      Fr h₀ L h (fun z => if z = x then some v else if z = y then some (.int (f i) u) else m z) → News h₀ L h (own ++ news) →
      wpAny (model prog w) A (execs body env) (LoopStepV h₀ L [s₁.heap.objs.size] own (fun m' new' => AccK x y (f (i + 1)) m m' ∧ new' = news) { s₁ with heap := h, toks := tk } (fun v s' => Q (.ret v) s') fun s' => Q .next s') E { s₁ with heap := h, toks := tk })
    (hQ : ∀ h' tk kv u, Fr h₀ L h' (fun z => if z = y then some (.int (f n) u) else if z = x then kv else m z) → News h₀ L h' news → Q .next { s₁ with heap := h', toks := tk }) (hLe : env.locals = L := by rfl) :
    wpAny (model prog w) A (pyIter xv) (fun it s₂ => LoopAtV prog w A h₀ env x body Q E it s₂) E s₁ := by
  have h0 : AccK x y (f 0) m m := ⟨m x, u₀, by funext z; by_cases h1 : z = y <;> by_cases h2 : z = x <;> simp_all⟩
  refine loop_src S F N (fun i m' new => AccK x y (f i) m m' ∧ new = news) ⟨h0, rfl⟩ ?_ ?_ hLe
  · rintro i v m₁ new h tk own hi hP ⟨⟨kv, u, rfl⟩, rfl⟩ hoff F₁ N₁
    refine step i v u h tk own hi hP hoff ?_ N₁
    have e : (fun z => if z = x then some v else (fun z => if z = y then some (.int (f i) u) else if z = x then kv else m z) z) = fun z => if z = x then some v else if z = y then some (.int (f i) u) else m z := by funext z; by_cases h1 : z = x <;> by_cases h2 : z = y <;> simp [h1, h2]
    rw [← e]; exact F₁
  · rintro h' tk m' new F' N' ⟨⟨kv, u, rfl⟩, rfl⟩
    exact hQ h' tk kv u F' N'
theorem off_one {new : Led} {I : Addr} (h : ∀ p ∈ new, p.1 ≠ I) : ∀ p ∈ new, p.1 ∉ [I] := fun p hp hm => h p hp (List.mem_singleton.mp hm)
end
end Mine
end
section
open PySem PySem.W PyProof.Rows PySem.Calls PySem.Builtin PySem.Builtin.Str
namespace Mine
noncomputable abbrev chars (x : Str) : List Nat := x.cps.toList
theorem chars_len (x : Str) : (chars x).length = x.length := by simp [chars, Str.length]
theorem str_eq_of_chars {x y : Str} (h : chars x = chars y) : x = y := by
  obtain ⟨⟨a⟩⟩ := x; obtain ⟨⟨b⟩⟩ := y; simpa [chars] using h
theorem slice_take (x : Str) {j : Int} (h : 0 ≤ j) : chars (Txt.slice x none (some j)) = (chars x).take j.toNat := by
  by_cases hb : j ≤ x.cps.toList.length
  · have e : Txt.slice x none (some j) = StrLaws.sliceText x none (some j) := rfl
    rw [e, StrLaws.sliceText_to ⟨h, hb⟩]
    simp [chars]
  · have hb' : (x.length : Int) ≤ j := by simp [Str.length] at *; omega
    rw [slice_to_beyond hb']
    have e : Txt.slice x none (some (x.length : Int)) = StrLaws.sliceText x none (some (x.length : Int)) := rfl
    rw [e, StrLaws.sliceText_to ⟨by omega, by simp [Str.length]⟩]
    have : (chars x).length ≤ j.toNat := by rw [chars_len]; omega
    rw [List.take_of_length_le this]
    have h2 : ((x.length : Int) - 0).toNat = (chars x).length := by rw [chars_len]; omega
    show (chars x).take _ = _
    rw [h2, List.take_length]
theorem slice_drop (x : Str) {i : Int} (h : 0 ≤ i) : chars (Txt.slice x (some i) none) = (chars x).drop i.toNat := by
  by_cases hb : i ≤ x.cps.toList.length
  · have e : Txt.slice x (some i) none = StrLaws.sliceText x (some i) none := rfl
    rw [e, StrLaws.sliceText_from ⟨h, hb⟩]
    show ((chars x).drop _).take _ = _
    rw [List.take_of_length_le]
    rw [List.length_drop]
    show x.cps.toList.length - i.toNat ≤ ((x.cps.toList.length : Int) - i).toNat
    omega
  · have hb' : (x.length : Int) ≤ i := by simp [Str.length] at *; omega
    rw [slice_from_beyond hb']
    have : (chars x).length ≤ i.toNat := by rw [chars_len]; omega
    rw [List.drop_of_length_le this]
end Mine
end
section
open PySem PySem.W PyProof.Rows PySem.Calls
set_option maxRecDepth 100000
namespace Mine
noncomputable def rot (s : Int) : Int := if s = 255 then 255 else s * 128 % 255
theorem rot_all : ∀ s : Fin 256, Builtin.bitOr (Int.fdiv ((s.val : Nat) : Int) (2 ^ Int.toNat 1)) (Builtin.bitAnd ((s.val : Nat) : Int) 1 * 2 ^ Int.toNat 7) = rot ((s.val : Nat) : Int) ∧ 0 ≤ rot ((s.val : Nat) : Int) ∧ rot ((s.val : Nat) : Int) ≤ 255 ∧ (Builtin.bitAnd ((s.val : Nat) : Int) 1).natAbs < 2 ^ 64 := by decide +kernel
theorem and_all : ∀ s : Fin 512, Builtin.bitAnd ((s.val : Nat) : Int) 255 = ((s.val : Nat) : Int) % 256 := by decide +kernel
theorem rot_is {s : Int} (h0 : 0 ≤ s) (h1 : s ≤ 255) : Builtin.bitOr (Int.fdiv s (2 ^ Int.toNat 1)) (Builtin.bitAnd s 1 * 2 ^ Int.toNat 7) = rot s ∧ 0 ≤ rot s ∧ rot s ≤ 255 ∧ (Builtin.bitAnd s 1).natAbs < 2 ^ 64 := by
  have := rot_all ⟨s.toNat, by omega⟩
  have e : ((s.toNat : Nat) : Int) = s := by omega
  simpa only [e] using this
theorem ck_eq {s c : Int} (h0 : 0 ≤ s) (h1 : s ≤ 255) (c0 : 0 ≤ c) (c1 : c ≤ 255) : Builtin.bitAnd (Builtin.bitOr (Int.fdiv s (2 ^ Int.toNat 1)) (Builtin.bitAnd s 1 * 2 ^ Int.toNat 7) + c) 255 = (rot s + c) % 256 := by
  obtain ⟨e, r0, r1, _⟩ := rot_is h0 h1
  rw [e]
  have := and_all ⟨(rot s + c).toNat, by omega⟩
  have e : (((rot s + c).toNat : Nat) : Int) = rot s + c := by omega
  simpa only [e] using this
/-- the checksum of octets -/
noncomputable def ckL (l : List UInt8) : Int := l.foldl (fun s c => (rot s + (c.toNat : Int)) % 256) 0
theorem ckL_in (l : List UInt8) : 0 ≤ ckL l ∧ ckL l ≤ 255 := by
  unfold ckL
  rcases List.eq_nil_or_concat l with rfl | ⟨l', c, rfl⟩
  · exact ⟨by decide, by decide⟩
  · rw [List.concat_eq_append, List.foldl_append]
    show 0 ≤ (_ + _) % 256 ∧ (_ + _) % 256 ≤ 255
    omega
theorem ckL_take {l : List UInt8} {i : Nat} {c : UInt8} (h : l[i]? = some c) : ckL (l.take (i + 1)) = (rot (ckL (l.take i)) + (c.toNat : Int)) % 256 := by
  unfold ckL
  rw [List.take_add_one, h]
  simp
end Mine
end
section
open PySem PySem.W PyProof.Rows PySem.Calls
set_option maxRecDepth 100000
namespace Mine
namespace BaF
theorem slot_ga : Slot "bytearray" "__getattribute__" "bytearray.__getattribute__" :=
  .of (owner := "bytearray") (n := "__getattribute__") (by rw [typeLookup_type, builtinLookup_eq_fast]; kernel_rfl) (by decide +kernel) (by decide +kernel) (by decide +kernel)
    (by first | exact .inl (by decide +kernel) | exact .inr (by decide +kernel)) (by rw [isSubtype_type]; kernel_rfl)
theorem args_ga (a b : Value) : argsOk "bytearray.__getattribute__" ⟨[a, b], []⟩ := by unfold argsOk; kernel_rfl
theorem entry_ga : entryFor table "bytearray.__getattribute__" = some Builtin.«object.__getattribute__» :=
  entryFor_alias (id' := "object.__getattribute__") (by kernel_rfl) (by first | rfl | decide +kernel) (by decide +kernel) (by kernel_rfl)
theorem lk_class : typeLookup (.type "bytearray") "__class__" = pure (some (.builtin "object.__class__")) := by rw [typeLookup_type, builtinLookup_eq_fast]; kernel_rfl
theorem sub_class_owner : isSubtype (.type "bytearray") (.type (".".intercalate ("object.__class__".cutAt '.').dropLast)) = pure true := by
  rw [F.owner_object_class, isSubtype_type]; kernel_rfl
end BaF
section
variable {prog : Program} {w : World} {A : Around} {E : Value → Shared → Prop} {h : Heap} {g : Array GenState} {d : Drawn} {t : Nat} {os : OsState} {a : Addr} {b : Array UInt8}
theorem ba_class_get {R : Result → Shared → Prop} (hx : IsBA h a b) (hq : R (.ok (.ret (.type "bytearray"))) ⟨h, g, d, t, os⟩) :
    codeAny (model prog w) A (.call (.builtin "getset_descriptor.__get__") ⟨[.builtin "object.__class__", .ref a, .type "bytearray"], []⟩) R ⟨h, g, d, t, os⟩ := by
  have hT : (⟨h, g, d, t, os⟩ : Shared).TypeIs (.ref a) "bytearray" := ⟨_, hx, rfl⟩
  have hT5 : (⟨h, g, d, t, os⟩ : Shared).TypeIs (.builtin "object.__class__") "getset_descriptor" := F.typeOf_object_class
  have f8 := BaF.sub_class_owner
  refine codeAny_call_builtin F.slot_gs_get.plain F.entry_gs_get (F.slot_gs_get.check _ _ _ _ _ _ _ _ hT5 (F.args_gs_get _ _ _) ?_)
  repeat (any_goals (first | assumption | wp_step))
  refine ⟨Code.quiet_builtin _ (by decide +kernel), codeAny_builtin F.entry_object_class ?_⟩
  repeat (any_goals (first | assumption | wp_step))
theorem ba_class_entry {tk : Tok} {Q : Fin → Shared → Prop} (hx : IsBA h a b) (hq : Q (.done (.ret (.type "bytearray"))) ⟨h, g, d, t, os⟩) :
    wpAny (model prog w) A (Builtin.«object.__getattribute__» ⟨[.ref a, .str "__class__" tk], []⟩) Q E ⟨h, g, d, t, os⟩ := by
  have hT : (⟨h, g, d, t, os⟩ : Shared).TypeIs (.ref a) "bytearray" := ⟨_, hx, rfl⟩
  have hT5 : (⟨h, g, d, t, os⟩ : Shared).TypeIs (.builtin "object.__class__") "getset_descriptor" := F.typeOf_object_class
  have f4 := BaF.lk_class
  have f5 := F.typeOf_object_class
  have f6 := F.slot_gs_get.lookup
  have f7 := F.slot_gs_set.lookup
  repeat (any_goals (first | assumption | wp_step))
  refine ba_class_get hx ?_
  repeat (any_goals (first | assumption | wp_step))
theorem ba_class_call {tk : Tok} {R : Result → Shared → Prop} (hx : IsBA h a b) (hq : R (.ok (.ret (.type "bytearray"))) ⟨h, g, d, t, os⟩) :
    codeAny (model prog w) A (.call (.builtin "bytearray.__getattribute__") ⟨[.ref a, .str "__class__" tk], []⟩) R ⟨h, g, d, t, os⟩ :=
  codeAny_call_builtin BaF.slot_ga.plain BaF.entry_ga (BaF.slot_ga.check _ _ _ _ _ _ _ _ (show (⟨h, g, d, t, os⟩ : Shared).TypeIs (.ref a) "bytearray" from ⟨_, hx, rfl⟩) (BaF.args_ga _ _) (ba_class_entry hx hq))
theorem ba_class_by {tk : Tok} {Q : Value → Shared → Prop} (hx : IsBA h a b) (hq : Q (.type "bytearray") ⟨h, g, d, t, os⟩) : wpAny (model prog w) A (getAttrBy (.ref a) (.str "__class__" tk) false) Q E ⟨h, g, d, t, os⟩ := by
  have hT : (⟨h, g, d, t, os⟩ : Shared).TypeIs (.ref a) "bytearray" := ⟨_, hx, rfl⟩
  have f2 := BaF.slot_ga.lookup
  have f3 := BaF.slot_ga.bind (.ref a)
  repeat (any_goals (first | assumption | wp_step))
  refine ba_class_call hx ?_
  repeat (any_goals (first | assumption | wp_step))
theorem ba_class_attr {Q : Option Value → Shared → Prop} (hx : IsBA h a b) (hq : Q (some (.type "bytearray")) ⟨h, g, d, t + 1, os⟩) : wpAny (model prog w) A (getAttr? (.ref a) "__class__") Q E ⟨h, g, d, t, os⟩ := by
  unfold getAttr? getAttrBy?
  repeat (any_goals (first | assumption | with_reducible apply ba_class_by hx | wp_step))
theorem ba_isi_nested {dep : Int} {tk : Tok} {Q : Fin → Shared → Prop} (hx : IsBA h a b) (hq : Q (.done (.ret (.bool false))) ⟨h, g, d, t + 1, os⟩) :
    wpAny (model prog w) A (Builtin.«isinstance.nested» ⟨[.ref a, .type "bytes", .int dep tk], []⟩) Q E ⟨h, g, d, t, os⟩ := by
  have hT : (⟨h, g, d, t, os⟩ : Shared).TypeIs (.ref a) "bytearray" := ⟨_, hx, rfl⟩
  have hne : (Value.type "bytearray" == Value.type "bytes") = false := by decide
  have hty := PySem.F.isi_meta_bytes
  have hsub := BaF.sub_bytes
  repeat (any_goals (first | assumption | with_reducible apply ba_class_attr hx | wp_step))
end
theorem ba_isinstance {prog : Program} {w : World} {A : Around} {E : Value → Shared → Prop} {s : Shared} {a : Addr} {b : Array UInt8} {Q : Value → Shared → Prop} (hx : IsBA s.heap a b) (h : Q (.bool false) { s with toks := s.toks + 1 }) :
    wpAny (model prog w) A (call (.builtin "isinstance") [.ref a, .type "bytes"]) Q E s :=
  call_isinstance (S := fun _ R s => IsBA s.heap a b ∧ R (.ok (.ret (.bool false))) { s with toks := s.toks + 1 }) (fun _ _ _ _ s hs => by
    obtain ⟨h, g, d, t, os⟩ := s
    exact isinstance_outer (ba_isi_nested hs.1 hs.2)) ⟨hx, h⟩
end Mine
end
section
open PySem PySem.W PyProof.Rows PySem.Calls
namespace Mine
theorem rfind_one (x : Str) (c : Nat) : -1 ≤ Txt.rfind x ⟨#[c]⟩ ∧ Txt.rfind x ⟨#[c]⟩ < x.length := by
  rcases rfind_whole x ⟨#[c]⟩ with ⟨h, _⟩ | ⟨i, h, hi, _⟩
  · rw [h]; omega
  · rw [h]
    have h1 := hi.1
    have h2 : (⟨#[c]⟩ : Str).length = 1 := rfl
    omega
/-- what splitext gives -/
noncomputable def splitR (x : Str) : Str × Str :=
  if (List.range x.length).any (fun k => decide (Txt.rfind x "/" + 1 ≤ (k : Int)) && decide ((k : Int) < Txt.rfind x ".") && x.cps[k]? != some 46) = true then (Txt.slice x none (some (Txt.rfind x ".")), Txt.slice x (some (Txt.rfind x ".")) none) else (x, "")
noncomputable def tup2 (a b : Value) : Obj := { cls := .type "tuple", data := .seq #[a, b] }
theorem item_at {x : Str} {j : Int} (h0 : 0 ≤ j) (h1 : j < x.length) : ∃ n, x.cps[j.toNat]? = some n ∧ Txt.item x j = ⟨#[n]⟩ := by
  have hlt : j.toNat < x.cps.size := by show j.toNat < x.length; omega
  exact ⟨x.cps[j.toNat], by simp [hlt], item_meets h0 (by simp [hlt])⟩
theorem str_one_ne {n c : Nat} : ((⟨#[n]⟩ : Str) != ⟨#[c]⟩) = (n != c) := by
  rw [Bool.eq_iff_iff, bne_iff_ne, bne_iff_ne]
  exact ⟨fun h e => h (by rw [e]), fun h e => h (by injection e with e; injection e with e; injection e)⟩
theorem splitR_hit {x : Str} {i : Nat} (h0 : 0 ≤ Txt.rfind x "/" + 1 + (i : Int)) (h1 : Txt.rfind x "/" + 1 + (i : Int) < x.length) (h2 : Txt.rfind x "/" + 1 + (i : Int) < Txt.rfind x ".") (hne : (Txt.item x (Txt.rfind x "/" + 1 + (i : Int)) != ".") = true) :
    splitR x = (Txt.slice x none (some (Txt.rfind x ".")), Txt.slice x (some (Txt.rfind x ".")) none) := by
  unfold splitR
  rw [if_pos]
  obtain ⟨n, hn, hi⟩ := item_at h0 h1
  rw [hi, show ("." : Str) = ⟨#[46]⟩ from rfl, str_one_ne] at hne
  refine List.any_eq_true.mpr ⟨(Txt.rfind x "/" + 1 + (i : Int)).toNat, List.mem_range.mpr (by omega), ?_⟩
  simp only [Bool.and_eq_true, decide_eq_true_eq]
  refine ⟨⟨by omega, by omega⟩, ?_⟩
  rw [hn]
  simpa using hne
theorem splitR_miss {x : Str} (hJ : ∀ k : Nat, k < (Txt.rfind x "." - (Txt.rfind x "/" + 1)).toNat → x.cps[(Txt.rfind x "/" + 1 + (k : Int)).toNat]? = some 46) (hs : -1 ≤ Txt.rfind x "/") : splitR x = (x, ("" : Str)) := by
  unfold splitR
  rw [if_neg]
  intro h
  obtain ⟨k, _, hk⟩ := List.any_eq_true.mp h
  simp only [Bool.and_eq_true, decide_eq_true_eq] at hk
  obtain ⟨⟨h1, h2⟩, h3⟩ := hk
  have := hJ ((k : Int) - (Txt.rfind x "/" + 1)).toNat (by omega)
  have e : (Txt.rfind x "/" + 1 + (((k : Int) - (Txt.rfind x "/" + 1)).toNat : Int)).toNat = k := by omega
  rw [e] at this
  rw [this] at h3
  simp at h3
theorem splitR_len (x : Str) : (splitR x).1.length ≤ x.length ∧ (splitR x).2.length ≤ x.length := by
  unfold splitR
  split
  · exact ⟨Txt.slice_le x _ _, Txt.slice_le x _ _⟩
  · exact ⟨Nat.le_refl _, Nat.zero_le _⟩
section
set_option maxRecDepth 100000 in
set_option maxHeartbeats 8000000 in
theorem splitext_ok (w : World) (news : Led) (x : Str) (t : Tok) (hx : x.length ≤ 100) :
    Cn w 97 1 8 [.str x t] news (fun v new => ∃ T ta tb, v = .ref T ∧ new = (T, tup2 (.str (splitR x).1 ta) (.str (splitR x).2 tb)) :: news ∧ (∀ p ∈ news, p.1 < T) ∧ (splitR x).1.length ≤ x.length ∧ (splitR x).2.length ≤ x.length) := by
  unfold Cn
  intro mean mg mb dp un gd cn cs a ccd cl outer A₀ base h₀ L m s Q E B F X N T hk hdp hun hret
  have hlen := splitR_len x
  w_top off
  refine wpAny_call ?_
  k_dflt cell_enter
  k_steps
  have hd : -1 ≤ Txt.rfind x "." ∧ Txt.rfind x "." < x.length := rfind_one x 46
  have hs : -1 ≤ Txt.rfind x "/" ∧ Txt.rfind x "/" < x.length := rfind_one x 47
  k_dflt (refine loop_keep (news := news) (srcL_range rfl (by k_asm) (by k_asm) (by omega) (by omega) (by omega) (by omega)) (by k_asm) (by k_asm) (fun i new => new = news ∧ ∀ k : Nat, k < i → x.cps[(Txt.rfind x "/" + 1 + k).toNat]? = some 46) ⟨rfl, fun k hk => absurd hk (Nat.not_lt_zero _)⟩ ?_ ?_)
  · rintro i v new h tk own hi ⟨t', rfl⟩ ⟨rfl, hJ⟩ hoff F₁ N₁
    have hlo : 0 ≤ Txt.rfind x "/" + 1 + (i : Int) := by omega
    have hhi : Txt.rfind x "/" + 1 + (i : Int) < x.length := by omega
    have hdt : Txt.rfind x "/" + 1 + (i : Int) < Txt.rfind x "." := by omega
    k_steps
    · have hne : (Txt.item x (Txt.rfind x "/" + 1 + (i : Int)) != ".") = true := by assumption
      k_steps
      refine .ret ?_
      k_steps
      rw [splitR_hit hlo hhi hdt hne] at hret hlen
      exact hret _ _ _ _ ⟨_, _, _, rfl, rfl, fun p hp => (by assumption : ∀ p ∈ own ++ new, p.1 < _) p (List.mem_append_right _ hp), hlen.1, hlen.2⟩ (by k_asm) (cb_drop (by assumption) (by exact fun p hp => (List.mem_cons.mp hp).elim (fun e => e ▸ .head _) fun h => .tail _ (List.mem_append_right _ h)))
    · have hne : (Txt.item x (Txt.rfind x "/" + 1 + (i : Int)) != ".") = false := by assumption
      refine LoopStepU.intro F₁ N₁ (off_one hoff) ⟨⟨_, rfl⟩, rfl, fun k hk => ?_⟩
      by_cases hki : k < i
      · exact hJ k hki
      · obtain rfl : k = i := by omega
        obtain ⟨n, hn, hi'⟩ := item_at hlo hhi
        rw [hi', show ("." : Str) = ⟨#[46]⟩ from rfl, str_one_ne] at hne
        rw [hn]
        simpa using hne
  · rintro h' tk kv new F₁ N₁ ⟨rfl, hJ⟩
    k_steps
    rw [splitR_miss hJ hs.1] at hret hlen
    exact hret _ _ _ _ ⟨_, _, _, rfl, rfl, by assumption, hlen.1, hlen.2⟩ (by k_asm) (by k_asm)
end
end Mine
end
section
open PySem PySem.W PyProof.Rows PySem.Calls PySem.Builtin PySem.Builtin.Str
namespace Mine
/-- what _pad_8dot3_name gives -/
noncomputable def padR (x : Str) : Str := Txt.ljust (Txt.strip (splitR x).1) 8 ++ Txt.ljust (Txt.strip (Txt.slice (splitR x).2 (some 1) none)) 3
theorem ljust_len {x : Str} {i : Int} {n : Nat} (h : x.length ≤ n) (hi : i ≤ n) : (Txt.ljust x i).length ≤ n := by
  unfold Txt.ljust
  split
  · exact h
  · have : (padded x 0 (i.toNat - x.length) 32).length = x.length + (i.toNat - x.length) := by simp [padded, Str.length]
    omega
theorem pad_sz {x : Str} (hx : x.length ≤ 100) : (Txt.ljust (Txt.strip (splitR x).1) 8).length + (Txt.ljust (Txt.strip (Txt.slice (splitR x).2 (some 1) none)) 3).length ≤ sizeLine := by
  have h := splitR_len x
  have h1 := ljust_len (x := Txt.strip (splitR x).1) (i := 8) (n := 100) (Nat.le_trans (len_strip _) (by omega)) (by omega)
  have h2 := ljust_len (x := Txt.strip (Txt.slice (splitR x).2 (some 1) none)) (i := 3) (n := 100) (Nat.le_trans (len_strip _) (Nat.le_trans (Txt.slice_le _ _ _) (by omega))) (by omega)
  rw [sizeLine_eq]
  omega
section
local macro_rules | `(tactic| walk_at "none0") => `(tactic| fail)
local macro_rules | `(tactic| walk_at "none1") => `(tactic| fail)
local macro_rules | `(tactic| walk_at "binaryOp Add str str") => `(tactic| (refine add_str (hsz := pad_sz (by assumption)) ?_; intro t' tk'))
local macro_rules | `(tactic| walk_at "call ref") => `(tactic| (walk_at "cn"; k_dflt (apply splitext_ok); k_dflt (assumption); walk_at "cr"; intro v' new' h' tk' r' F' N'; obtain ⟨T', ta', tb', e1, e2, l1, q1, q2⟩ := r'; subst e1; subst e2; (try k_lt l1)))
set_option maxRecDepth 100000 in
set_option maxHeartbeats 1000000 in
theorem pad_ok (w : World) (news : Led) (x : Str) (t : Tok) (hx : x.length ≤ 100) :
    Cn w 207 2 16 [.str x t] news (fun v new => ∃ t', v = .str (padR x) t' ∧ new = news) := by
  unfold Cn
  intro mean mg mb dp un gd cn cs a ccd cl outer A₀ base h₀ L m s Q E B F X N T hk hdp hun hret
  w_top off
  refine wpAny_call ?_
  k_dflt cell_enter
  k_steps
  exact hret _ _ _ _ ⟨_, rfl, rfl⟩ (by k_asm) (cb_drop (by assumption) (by exact fun p hp => .tail _ hp))
end
end Mine
end
section
open PySem PySem.W PyProof.Rows PySem.Calls PySem.Builtin PySem.Builtin.Str
namespace Mine
theorem byte_at {x : Str} (hx : ∀ c ∈ x.cps, c < 256) {i : Nat} {c : UInt8} (h : (byteArr (octs x))[i]? = some c) : ∃ n, x.cps[i]? = some n ∧ (c.toNat : Int) = n ∧ n < 256 := by
  have e : byteArr (octs x) = ((octs x).map fun n => n.toNat.toUInt8).toArray := rfl
  rw [e] at h
  simp [octs] at h
  obtain ⟨n, hn, rfl⟩ := h
  have hlt : n < 256 := hx n (Array.mem_of_getElem? hn)
  refine ⟨n, hn, ?_, hlt⟩
  simp
  omega
noncomputable def badL : List Nat := [34, 42, 43, 44, 46, 47, 58, 59, 60, 61, 62, 63, 91, 92, 93, 124]
section
local macro_rules | `(tactic| cell_enter) => `(tactic| walk_at "enterS")
local macro_rules | `(tactic| walk_at "call ref") => `(tactic| (walk_at "cn"; k_dflt (apply encoded_ok); k_dflt (assumption); k_dflt (assumption); walk_at "cr"; walk_at "i2"))
set_option maxRecDepth 100000 in
set_option maxHeartbeats 1000000 in
theorem check_ok (w : World) (news : Led) (x : Str) (t te : Tok) (en : Str) (hx : ∀ c ∈ x.cps, c < 256) (hl : x.length ≤ 1000) :
    CnS w 186 2 16 [.str x t] [(Str.ofString "encoding", .str en te)] news (fun v new => v = .none ∧ new = news ∧ ∀ c ∈ chars x, c ∉ badL) (fun c => c = .type "ValueError" ∧ ∃ c ∈ chars x, c ∈ badL) := by
  unfold CnS
  intro mean mg mb dp un gd cn cs a ccd cl outer A₀ base h₀ L m s Q E XB TB D B F X N T hk hdp hun hret hexc
  w_top off
  refine wpAny_call ?_
  k_dflt cell_enter
  k_steps
  k_dflt (refine loop_keep (news := news) (srcL_bytes rfl (by k_asm)) (by k_asm) (by k_asm) (fun i new => new = news ∧ ∀ k : Nat, k < i → ∀ c, x.cps[k]? = some c → c ∉ badL) ⟨rfl, fun k hk => absurd hk (Nat.not_lt_zero _)⟩ ?_ ?_)
  · rintro i v new h tk own hi ⟨c, t', hc, rfl⟩ ⟨rfl, hJ⟩ hoff F₁ N₁
    obtain ⟨n, hn, hcn, hlt⟩ := byte_at hx hc
    k_steps
    · rename_i wd hA h1 e1 hM h2 t2 S R U
      simp only [Bool.or_eq_true, decide_eq_true_eq, hcn, Bool.false_eq_true, or_false] at hA
      refine hexc _ _ _ _ _ _ _ ⟨rfl, n, by simpa using Array.mem_of_getElem? hn, ?_⟩ (by assumption) (raised_sub S fun p hp => List.mem_append_right _ hp) U
      simp only [badL, List.mem_cons, List.not_mem_nil, or_false]
      exact_mod_cast hA
    · rename_i wd hA
      simp only [Bool.or_eq_false_iff, decide_eq_false_iff_not, hcn, and_true] at hA
      refine LoopStepU.intro F₁ N₁ (off_one hoff) ⟨⟨_, rfl⟩, rfl, fun k hk c' hc' => ?_⟩
      by_cases hki : k < i
      · exact hJ k hki c' hc'
      · obtain rfl : k = i := by omega
        obtain rfl : n = c' := Option.some.inj (hn.symm.trans hc')
        simp only [badL, List.mem_cons, List.not_mem_nil, or_false, not_or]
        exact_mod_cast hA
  · rintro h' tk kv new F₁ N₁ ⟨rfl, hJ⟩
    k_steps
    refine hret _ _ _ _ ⟨rfl, rfl, fun c hc => ?_⟩ (by k_asm) (by k_asm)
    obtain ⟨k, hk, e⟩ := List.getElem_of_mem hc
    refine hJ k ?_ c (by rw [← e]; simp [chars] at hk ⊢)
    rw [byteArr_size, octs_length]
    simpa [chars, Str.length] using hk
end
end Mine
end
section
open PySem PySem.W PyProof.Rows PySem.Calls PySem.Builtin PySem.Builtin.Str
namespace Mine
/-- what is_8dot3_conform tells -/
noncomputable def Conf (x : Str) : Prop := x = Txt.upper x ∧ (splitR x).1.length ≤ 8 ∧ (Txt.slice (splitR x).2 (some 1) none).length ≤ 3 ∧ (∀ c ∈ chars (splitR x).1, c ∉ badL) ∧ ∀ c ∈ chars (Txt.slice (splitR x).2 (some 1) none), c ∉ badL
section
local macro_rules | `(tactic| walk_at "none0") => `(tactic| fail)
local macro_rules | `(tactic| cell_enter) => `(tactic| walk_at "enterS")
local macro_rules | `(tactic| walk_at "call ref") => `(tactic| (first
  | (walk_at "cn"; k_dflt (apply splitext_ok); k_dflt (assumption); walk_at "cr"; intro v' new' h' tk' r' F' N'; obtain ⟨T', ta', tb', e1, e2, l1, q1, q2⟩ := r'; subst e1; subst e2; (try k_lt l1))
  | (walk_at "cs"; k_dflt (apply check_ok); k_dflt (assumption); omega; walk_at "cr"; all_goals (first | (intro e' c' t' vs' h' tk' G' z' FG' S' U'; obtain ⟨e1, q1⟩ := z'; subst e1) | (intro v' new' h' tk' r' F' N'; obtain ⟨e1, e2, q1⟩ := r'; subst e1; (replace e2 := Eq.symm e2); subst e2)))))
set_option maxRecDepth 100000 in
set_option maxHeartbeats 1000000 in
theorem conf_ok (w : World) (news : Led) (x : Str) (t te : Tok) (en : Str) (hx : x.length ≤ 100) (hc1 : ∀ c ∈ (splitR x).1.cps, c < 256) (hc2 : ∀ c ∈ (Txt.slice (splitR x).2 (some 1) none).cps, c < 256) :
    CnT w 197 4 40 [.str x t, .str en te] [] news (fun v new => ∃ b, v = .bool b ∧ new = news ∧ (b = true ↔ Conf x)) := by
  unfold CnT
  intro mean mg mb dp un gd cn cs a ccd cl outer A₀ base h₀ L m s Q E XB TB D B F X N T hk hdp hun hret
  w_top off
  refine wpAny_call ?_
  k_dflt cell_enter
  k_steps
  iterate 4 (focus (
    refine hret _ _ _ _ _ ⟨_, rfl, rfl, ?_⟩ KtsTurn.refl (by assumption) (by first | k_asm | exact cb_drop (by assumption) (by exact fun p hp => .tail _ hp)) (by assumption) (by assumption) (by assumption) (by assumption)
    refine ⟨fun z => (Bool.noConfusion z : _), fun ⟨c1, c2, c3, _⟩ => ?_⟩
    first
      | (have z := (by assumption : (x != Txt.upper x) = true); rw [bne_iff_ne] at z; exact absurd c1 z)
      | omega))
  k_dflt (refine loop_keep (srcL_list rfl (by k_asm) (News.isList (by k_asm) (.head _)) ?hne) (by k_asm) (by k_asm) (fun i new => new = _ ∧ ∀ k : Nat, k < i → ∀ y, [(splitR x).1, Txt.slice (splitR x).2 (some 1) none][k]? = some y → ∀ c ∈ chars y, c ∉ badL) ⟨rfl, fun k hk => absurd hk (Nat.not_lt_zero _)⟩ ?_ ?_)
  case hne => exact Ne.symm ((by assumption : News _ _ _ ((_, W.listOf _ _) :: _)) _ (.head _)).2.1
  · rintro i v new h tk own hi hP ⟨e, hJ⟩ hoff F₁ N₁
    have hv : ∃ y t, v = .str y t ∧ [(splitR x).1, Txt.slice (splitR x).2 (some 1) none][i]? = some y ∧ (∀ c ∈ y.cps, c < 256) ∧ y.length ≤ 100 := by
      rcases (by have : i < 2 := hi; omega : i = 0 ∨ i = 1) with rfl | rfl
      · cases hP; exact ⟨_, _, rfl, rfl, hc1, by omega⟩
      · cases hP; exact ⟨_, _, rfl, rfl, hc2, by omega⟩
    obtain ⟨y, t', rfl, hy, hyc, hyl⟩ := hv
    k_steps
    · refine LoopStepU.intro (by assumption) (by assumption) (off_one hoff) ⟨⟨_, rfl⟩, e, fun k hk y' hy' => ?_⟩
      by_cases hki : k < i
      · exact hJ k hki y' hy'
      · obtain rfl : k = i := by omega
        obtain rfl : y = y' := Option.some.inj (hy.symm.trans hy')
        assumption
    · have hbad := (by assumption : ∃ c ∈ chars y, c ∈ badL)
      dsimp only
      refine LoopStepV.ret ?_
      k_steps
      subst e
      refine hret _ _ _ _ _ ⟨_, rfl, rfl, ?_⟩ (by assumption) (by assumption) (cb_drop (by assumption) (by exact fun p hp => List.mem_append_right _ (.tail _ (.tail _ hp)))) (by assumption) (by assumption) (by assumption) (by assumption)
      refine ⟨fun z => (Bool.noConfusion z : _), fun ⟨_, _, _, c4, c5⟩ => ?_⟩
      obtain ⟨c, hc, hcb⟩ := hbad
      rcases (by have : i < 2 := hi; omega : i = 0 ∨ i = 1) with rfl | rfl
      · cases hy; exact absurd hcb (c4 c hc)
      · cases hy; exact absurd hcb (c5 c hc)
  · rintro h' tk kv new F₁ N₁ ⟨e, hJ⟩
    subst e
    k_steps
    refine hret _ _ _ _ _ ⟨_, rfl, rfl, ?_⟩ KtsTurn.refl (by assumption) (cb_drop (by assumption) (by exact fun p hp => .tail _ (.tail _ hp))) (by assumption) (by assumption) (by assumption) (by assumption)
    refine ⟨fun _ => ⟨?_, by omega, by omega, hJ 0 (show 0 < 2 by decide) _ rfl, hJ 1 (show 1 < 2 by decide) _ rfl⟩, fun _ => rfl⟩
    have z := (by assumption : (x != Txt.upper x) = false)
    simpa using z
end
end Mine
end
section
open PySem PySem.W PyProof.Rows PySem.Calls
set_option maxRecDepth 100000
namespace Mine
/-- an EightDotThree's table -/
noncomputable abbrev tagD (w : World) (t1 t2 t3 : Tok) (nm : Value) (i : Bool) : Obj := dictOf [⟨PyData.keyHash w.params "name", .str "name" t1, nm⟩, ⟨PyData.keyHash w.params "encoding", .str "encoding" t2, .str "latin-1" 310⟩, ⟨PyData.keyHash w.params "initialized", .str "initialized" t3, .bool i⟩] 3
/-- what a raise of an own exception asks of the object -/
noncomputable def Own (C : Addr) (oc : Obj) (E : Value → Shared → Prop) (v : Value) (s : Shared) : Prop := ∃ e t o, v = .ref e ∧ s.heap.get? C = some oc ∧ s.heap.get? e = some o ∧ ExcLike C t o ∧ E (.ref e) s
section
variable {M : Model} {A : Around} {E : Value → Shared → Prop} {env : Env}
theorem Raise41 {s : Shared} {x : Str} {np cpos pos : Pos} {args : List Expr} {kws : List Keyword} {Q : Flow → Shared → Prop} (hh : A.handled = none)
    (h : wpAny M A (eval (.Name x np) env) (fun f s₁ => wpAny M A (callWith cpos f [] (backTo cpos (starEach args env)) (backToKw cpos (keywordEach kws env))) (Own 41 cls41 E) E s₁) E s)
    (he : exec (.Raise (some (.Call (.Name x np) args kws cpos)) none pos) env = (do
      standAt pos
      raiseStmt env (some (do let v ← eval (.Call (.Name x np) args kws cpos) env; standAt pos; pure v)) none) := by rfl) :
    wpAny M A (exec (.Raise (some (.Call (.Name x np) args kws cpos)) none pos) env) Q E s := Raise_own (bm := exMro) rfl hh h he
theorem Raise63 {s : Shared} {x : Str} {np cpos pos : Pos} {args : List Expr} {kws : List Keyword} {Q : Flow → Shared → Prop} (hh : A.handled = none)
    (h : wpAny M A (eval (.Name x np) env) (fun f s₁ => wpAny M A (callWith cpos f [] (backTo cpos (starEach args env)) (backToKw cpos (keywordEach kws env))) (Own 63 cls63 E) E s₁) E s)
    (he : exec (.Raise (some (.Call (.Name x np) args kws cpos)) none pos) env = (do
      standAt pos
      raiseStmt env (some (do let v ← eval (.Call (.Name x np) args kws cpos) env; standAt pos; pure v)) none) := by rfl) :
    wpAny M A (exec (.Raise (some (.Call (.Name x np) args kws cpos)) none pos) env) Q E s := Raise_own (bm := exMro) rfl hh h he
end
section
local macro_rules | `(tactic| cell_enter) => `(tactic| walk_at "enterP")
set_option maxHeartbeats 1000000 in
theorem made_ok (w : World) (news : Led) :
    Cn w 223 3 20 [] news (fun v new => ∃ x d t1 t2 t3, v = .ref x ∧ new = (x, instObj 223 d) :: (d, tagD w t1 t2 t3 .none false) :: news ∧ (∀ p ∈ news, p.1 < d) ∧ d < x) := by
  unfold Cn
  intro mean mg mb dp un gd cn cs a ccd cl outer A₀ base h₀ L m s Q E B F X N T hk hdp hun hret
  w_top off
  k_dflt (refine' call_cls ?k1 ?k2 ?k3 ?k4 ?k5 ?k6 ?_; (case k1 => k_asm); (case k2 => k_asm); (case k3 => k_asm); (case k4 => k_is); (case k5 => k_is); (case k6 => k_is); k_whole; intro x' d' h' F' N' l1 l2; (try k_lt l1); (try k_lt2 l2))
  k_dflt cell_enter
  k_steps
  exact hret _ _ _ _ ⟨_, _, _, _, _, rfl, rfl, by assumption, by assumption⟩ (by k_asm) (by k_asm)
end
section
local macro_rules | `(tactic| cell_enter) => `(tactic| walk_at "enterS")
local macro_rules | `(tactic| walk_at "exec Raise some none") => `(tactic| (k_dflt (refine Raise41 rfl ?_)))
local macro_rules | `(tactic| walk_at "call ref") => `(tactic| (k_dflt (refine' call_pyfat0 _ _ _ _ _ _ _ _ _ _ _ _ _ _ _ _ _ _ _ _ _ _ ?B ?F ?X ?N ?T ?hk ?hA ?hr ?_; (case hA | hk => exact rfl); (case F | B | X | N | T => k_asm); (case hr => ktr_room); k_whole); intro h' tk' e' t' o' F' N' x' n' l'))
set_option maxHeartbeats 1000000 in
theorem init_check_ok (w : World) (news : Led) (x d : Addr) (t1 t2 t3 : Tok) (nm : Value) (i : Bool) :
    CnS w 104 4 40 [.ref x] [] ((x, instObj 223 d) :: (d, tagD w t1 t2 t3 nm i) :: news) (fun v new => v = .none ∧ new = (x, instObj 223 d) :: (d, tagD w t1 t2 t3 nm i) :: news ∧ i = true) (fun c => c = .ref 41 ∧ i = false) := by
  unfold CnS
  intro mean mg mb dp un gd cn cs a ccd cl outer A₀ base h₀ L m s Q E XB TB D B F X N T hk hdp hun hret hexc
  w_top off
  refine wpAny_call ?_
  k_dflt cell_enter
  k_steps
  · exact hret _ _ _ _ ⟨rfl, rfl, by assumption⟩ (by k_asm) (by k_asm)
  · rename_i hi h1 tk1 e1 t1 o1 F1 N1 x1 n1 l1
    refine ⟨_, _, _, rfl, at41 ((by assumption : InK w _).keeps F1.keep), (N1 _ (.head _)).1, x1, ?_⟩
    k_dflt (refine leave_own (by assumption) F1 N1 x1 n1 l1 rfl rfl ?_)
    intro h2 S U
    exact hexc _ _ _ _ _ _ _ ⟨rfl, by assumption⟩ (by assumption) S U
end
end Mine
end
section
open PySem PySem.W PyProof.Rows PySem.Calls
set_option maxRecDepth 100000
namespace Mine
theorem srcW_ba {w : World} {A : Around} {h₀ : Heap} {L : Addr} {m : Str → Option Value} (hh : A.handled = none) {a : Addr} {b : Array UInt8} {news : Led} {s₁ : Shared} (F : Fr h₀ L s₁.heap m) (N : News h₀ L s₁.heap news) (hm : (a, baObj b) ∈ news) :
    SrcW w A h₀ L (.ref a) s₁ b.size (fun i v => ∃ c u, b[i]? = some c ∧ v = .int (c.toNat : Int) u) (fun nw => (a, baObj b) ∈ nw) := by
  intro Q E hQ
  have hb : IsBA s₁.heap a b := (N _ hm).1
  have hlt : a < s₁.heap.objs.size := Heap.lt_size hb
  refine ba_pyIter hb (hQ _ _ _ (ba_walks hh s₁.heap.objs.size a (Nat.ne_of_lt hlt) b) (fun b' hb' => ?_) (fun i h st => by obtain ⟨o, e, _⟩ := st.1; exact ⟨o, e⟩)
    (fun i h h' o nw st e e' _ N' hS => ⟨let ⟨o', ho', r⟩ := st.1; ⟨o', by rw [e] at ho'; cases ho'; exact e', r⟩, (N' _ hS).1⟩) ⟨⟨_, Heap.get?_push_size _ rfl, rfl, rfl⟩, Heap.get?_push_of_some _ hb⟩)
  rw [Heap.size_push]
  rcases List.mem_cons.mp hb' with rfl | hb'
  · exact Nat.lt_succ_self _
  · rw [List.mem_singleton.mp hb']; exact Nat.lt_succ_of_lt hlt
/-- the text of octets -/
noncomputable def txt (b : Array UInt8) : Str := ⟨b.map fun c => c.toNat⟩
theorem join_signs (l : List Nat) : Txt.join "" (l.map fun c => (⟨#[c]⟩ : Str)) = ⟨l.toArray⟩ := by
  have h : Txt.join "" (l.map fun c => (⟨#[c]⟩ : Str)) = Str.join "" (l.map fun c => (⟨#[c]⟩ : Str)) := by simpa using join_plain_closes "" (l.map fun c => (⟨#[c]⟩ : Str))
  have e : signs ⟨l.toArray⟩ = l.map fun c => (⟨#[c]⟩ : Str) := by simp [signs]
  rw [h, ← e]
  exact join_nil_signs _
theorem join_singles (b : Array UInt8) : Txt.join "" (b.toList.map fun c => (⟨#[c.toNat]⟩ : Str)) = txt b := by
  have h := join_signs (b.toList.map fun c => c.toNat)
  rw [List.map_map] at h
  have e : (⟨(b.toList.map fun c => c.toNat).toArray⟩ : Str) = txt b := by apply str_eq_of_chars; simp [txt, chars]
  rw [← e, ← h]; rfl
section
local macro_rules | `(tactic| walk_at "none0") => `(tactic| fail)
local macro_rules | `(tactic| walk_at "none1") => `(tactic| fail)
local macro_rules | `(tactic| walk_at "eval ListComp") => `(tactic| (k_dflt (refine ListComp_W (F₀ := by k_asm) (by with_unfolding_all rfl) (by decide) (by rfl) (by decide) (by rfl) ?_)))
set_option maxHeartbeats 1000000 in
theorem decoded_ok (w : World) (news : Led) (a : Addr) (b : Array UInt8) (hm : (a, baObj b) ∈ news) (hz : b.size ≤ 1000) :
    Cn w 90 2 16 [.ref a] news (fun v new => (∃ t, v = .str (txt b) t) ∧ new = news) := by
  unfold Cn
  intro mean mg mb dp un gd cn cs a' ccd cl outer A₀ base h₀ L m s Q E B F X N T hk hdp hun hret
  w_top off
  refine wpAny_call ?_
  k_dflt cell_enter
  k_steps
  refine ⟨_, _, _, news, srcW_ba rfl (by k_asm) (by k_asm) hm, by k_asm, by k_asm, (by rw [sizeLine_eq]; omega), hm, ?_⟩
  rintro s₂ ⟨g, rfl⟩
  have hl : b.size = b.toList.length := by simp
  rw [hl]
  refine cr_map b.toList (fun c v => ∃ u, v = .int (c.toNat : Int) u) (fun c v => ∃ u, v = .str ⟨#[c.toNat]⟩ u) ?_ ?_ ?_
  · rintro i v ⟨c, u, hc, rfl⟩
    exact ⟨c, by simpa using hc, u, rfl⟩
  · rintro a v I oI C oC D m₂ ys h tk E' ha ⟨u, rfl⟩ hC hx F9 N9 off9 ne9
    have h1 : ((a.toNat : Nat) : Int) < 256 := by have := a.toNat_lt; omega
    k_steps
    exact ⟨_, _, _, rfl, by k_asm, by k_asm, by k_asm, hm, rfl, _, rfl⟩
  · intro ys hys
    have hS : StrsAre ys (b.toList.map fun c => ⟨#[c.toNat]⟩) := all2_strs hys
    k_steps
    refine' join_list ?l ?i ?ok ?_
    case l => exact News.isList (by assumption) (.head _)
    case i => simpa using hS
    case ok =>
      rw [show ("" : Str).length = 0 from rfl, Nat.mul_zero, Nat.add_zero, List.map_map]
      have e : ∀ l : List UInt8, ((l.map (Str.length ∘ fun c : UInt8 => (⟨#[c.toNat]⟩ : Str))).sum) = l.length := by
        intro l
        induction l with
        | nil => rfl
        | cons c l ih => rw [List.map_cons, List.sum_cons, ih, List.length_cons]; show 1 + _ = _; omega
      rw [e, Array.length_toList]; omega
    intro t' k
    k_steps
    rw [join_singles]
    exact hret _ _ _ _ ⟨⟨_, rfl⟩, rfl⟩ (by k_asm) (cb_drop (by assumption) (by exact fun p hp => .tail _ hp))
end
end Mine
end
section
open PySem PySem.W PyProof.Rows PySem.Calls
set_option maxRecDepth 100000
namespace Mine
section
variable {w : World} {A : Around} {E : Value → Shared → Prop} {s : Shared} {h₀ : Heap} {L : Addr} {m : Str → Option Value} {news : Led} {a : Addr} {l : List UInt8}
theorem bytes_N {Q : Value → Shared → Prop} (hh : A.handled = none) (N : News h₀ L s.heap news) (hm : (a, baObj l.toArray) ∈ news) (hz : l.length ≤ 1000) (h : ∀ t k, Q (.bytes l.toArray t) { s with toks := k }) : wpAny (model pg w) A (call (.type "bytes") [.ref a]) Q E s :=
  ba_bytes hh (N _ hm).1 (by simp; omega) h
theorem len_N {Q : Value → Shared → Prop} (N : News h₀ L s.heap news) (hm : (a, baObj l.toArray) ∈ news) (hz : l.length ≤ 1000) (h : Q (.int l.length (s.toks + 1)) { s with toks := s.toks + 1 + 1 }) : wpAny (model pg w) A (call (.builtin "len") [.ref a]) Q E s := by
  have := ba_len (prog := pg) (w := w) (A := A) (E := E) (Q := Q) (s := s) (N _ hm).1 (by simp; omega) (by simpa using h)
  exact this
theorem slice_N {lo hi : Option Int} {lv uv : Value} {value slice : Expr} {Q : Value → Shared → Prop} (F : Fr h₀ L s.heap m) (N : News h₀ L s.heap news) (hm : (a, baObj l.toArray) ∈ news) (hz : l.length ≤ 1000) (hl : IsPart lv lo) (hu : IsPart uv hi)
    (h : ∀ D h', Fr h₀ L h' m → News h₀ L h' ((D, baObj (KBy.picked l.toArray lo hi)) :: news) → (∀ p ∈ news, p.1 < D) → Q (.ref D) { s with heap := h' })
    (hs : subscripted slice false (.ref a) (.ref s.heap.objs.size) = operate [.ref s.heap.objs.size, .ref a] (getItem (.ref a) (.ref s.heap.objs.size)) := by with_unfolding_all rfl) :
    wpAny (model pg w) A (subscriptTail value slice (.ref a) (.ref s.heap.objs.size)) Q E { s with heap := s.heap.push { cls := .type "slice", data := .fields #[lv, uv, .none] } } :=
  ba_slice F N (N _ hm).1 hl hu (Nat.le_trans (KBc.size_picked_le _ _ _) (by simp; omega)) h hs
theorem item_N {i : Int} {u : Tok} {value slice : Expr} {Q : Value → Shared → Prop} (N : News h₀ L s.heap news) (hm : (a, baObj l.toArray) ∈ news) (hz : l.length ≤ 1000) (h0 : 0 ≤ i) (h1 : i < l.length)
    (h : Q (.int (l.getD i.toNat 0).toNat s.toks) { s with toks := s.toks + 1 })
    (hs : subscripted slice false (.ref a) (.int i u) = operate [.ref a, .int i u] (getItem (.ref a) (.int i u)) := by with_unfolding_all rfl) :
    wpAny (model pg w) A (subscriptTail value slice (.ref a) (.int i u)) Q E s := ba_item (N _ hm).1 (by omega) h0 h1 h hs
end
section
local macro_rules | `(tactic| walk_at "call type:bytes") => `(tactic| (k_dflt (apply bytes_N; rfl; k_asm; k_mem; omega; k_whole); intro t' k'))
set_option maxHeartbeats 1000000 in
theorem as_bytes_ok (w : World) (news : Led) (x d b : Addr) (t1 t2 t3 : Tok) (l : List UInt8) (hz : l.length ≤ 1000) :
    Cn w 134 1 20 [.ref x] ((x, instObj 223 d) :: (d, tagD w t1 t2 t3 (.ref b) true) :: (b, baObj l.toArray) :: news) (fun v new => (∃ t, v = .bytes l.toArray t) ∧ new = (x, instObj 223 d) :: (d, tagD w t1 t2 t3 (.ref b) true) :: (b, baObj l.toArray) :: news) := by
  unfold Cn
  intro mean mg mb dp un gd cn cs a' ccd cl outer A₀ base h₀ L m s Q E B F X N T hk hdp hun hret
  w_top off
  refine wpAny_call ?_
  k_dflt cell_enter
  k_steps
  exact hret _ _ _ _ ⟨⟨_, rfl⟩, rfl⟩ (by k_asm) (by k_asm)
end
/-- what as_text gives -/
noncomputable def baseT (l : List UInt8) : Str := Txt.rstrip (txt (KBy.picked l.toArray none (some 8)))
noncomputable def extT (l : List UInt8) : Str := Txt.rstrip (txt (KBy.picked l.toArray (some 8) (some 11)))
noncomputable def tagText (l : List UInt8) : Str := Txt.join (if 0 < (extT l).length then "." else "") [baseT l, extT l]
theorem txt_len (b : Array UInt8) : (txt b).length = b.size := by simp [txt, Str.length]
theorem baseT_len {l : List UInt8} {n : Nat} (hl : l.length ≤ n) : (baseT l).length ≤ n := Nat.le_trans (len_rstrip _) (by rw [txt_len]; exact Nat.le_trans (KBc.size_picked_le _ _ _) (by simpa using hl))
theorem extT_len {l : List UInt8} {n : Nat} (hl : l.length ≤ n) : (extT l).length ≤ n := Nat.le_trans (len_rstrip _) (by rw [txt_len]; exact Nat.le_trans (KBc.size_picked_le _ _ _) (by simpa using hl))
section
local macro_rules | `(tactic| walk_at "subscriptTail Name Constant ref int") => `(tactic| (k_dflt (apply item_N; k_asm; k_mem; omega; decide; omega; k_whole)))
local macro_rules | `(tactic| walk_at "subscriptTail Name Slice ref ref") => `(tactic| (k_dflt (apply slice_N; k_asm; k_asm; k_mem; omega; constructor; constructor; k_whole); intro D' h' F' N' l1; (try k_lt l1)))
local macro_rules | `(tactic| walk_at "call ref") => `(tactic| (walk_at "cn"; k_dflt (apply decoded_ok); k_dflt (k_mem); k_dflt (exact Nat.le_trans (KBc.size_picked_le _ _ _) (by simp; omega)); walk_at "cr"; walk_at "i1"))
set_option maxHeartbeats 1000000 in
theorem as_text_ok (w : World) (news : Led) (x d b : Addr) (t1 t2 t3 : Tok) (l : List UInt8) (hz : l.length = 11) (h5 : (l.getD 0 0).toNat ≠ 5) :
    Cn w 127 4 40 [.ref x] ((x, instObj 223 d) :: (d, tagD w t1 t2 t3 (.ref b) true) :: (b, baObj l.toArray) :: news) (fun v new => (∃ t, v = .str (tagText l) t) ∧ new = (x, instObj 223 d) :: (d, tagD w t1 t2 t3 (.ref b) true) :: (b, baObj l.toArray) :: news) := by
  unfold Cn
  intro mean mg mb dp un gd cn cs a' ccd cl outer A₀ base h₀ L m s Q E B F X N T hk hdp hun hret
  w_top off
  have hb0 : (txt (KBy.picked l.toArray none (some 8))).length ≤ 11 := by rw [txt_len]; exact Nat.le_trans (KBc.size_picked_le _ _ _) (by simp; omega)
  have he0 : (txt (KBy.picked l.toArray (some 8) (some 11))).length ≤ 11 := by rw [txt_len]; exact Nat.le_trans (KBc.size_picked_le _ _ _) (by simp; omega)
  have hb : (Txt.rstrip (txt (KBy.picked l.toArray none (some 8)))).length ≤ 11 := baseT_len (by omega)
  have he : (Txt.rstrip (txt (KBy.picked l.toArray (some 8) (some 11)))).length ≤ 11 := extT_len (by omega)
  refine wpAny_call ?_
  k_dflt cell_enter
  k_steps
  · have z := (by assumption : ((l.getD (Int.toNat 0) 0).toNat : Int) = 5)
    exact absurd (by have : (Int.toNat 0) = 0 := rfl; rw [this] at z; omega) h5
  · have e : tagText l = Txt.join "." [Txt.rstrip (txt (KBy.picked l.toArray none (some 8))), Txt.rstrip (txt (KBy.picked l.toArray (some 8) (some 11)))] := by
      unfold tagText extT baseT
      rw [if_pos (by omega)]
    rw [← e]
    exact hret _ _ _ _ ⟨⟨_, rfl⟩, rfl⟩ (by k_asm) (cb_drop (by assumption) (by exact fun p hp => .tail _ (.tail _ (.tail _ hp))))
  · have e : tagText l = Txt.join "" [Txt.rstrip (txt (KBy.picked l.toArray none (some 8))), Txt.rstrip (txt (KBy.picked l.toArray (some 8) (some 11)))] := by
      unfold tagText extT baseT
      rw [if_neg (by omega)]
    rw [← e]
    exact hret _ _ _ _ ⟨⟨_, rfl⟩, rfl⟩ (by k_asm) (cb_drop (by assumption) (by exact fun p hp => .tail _ (.tail _ (.tail _ hp))))
end
end Mine
end
section
open PySem PySem.W PyProof.Rows PySem.Calls
set_option maxRecDepth 100000
namespace Mine
theorem IsBA.off {h₀ h : Heap} {L : Addr} {news : Led} {a : Addr} {b : Array UInt8} (N : News h₀ L h news) (hm : (a, baObj b) ∈ news) : L ≠ a := Ne.symm (N _ hm).2.1
theorem IsBA.of {h₀ h : Heap} {L : Addr} {news : Led} {a : Addr} {b : Array UInt8} (N : News h₀ L h news) (hm : (a, baObj b) ∈ news) : IsBA h a b := (N _ hm).1
section
local macro_rules | `(tactic| walk_at "none0") => `(tactic| fail)
local macro_rules | `(tactic| walk_at "none1") => `(tactic| fail)
local macro_rules | `(tactic| walk_at "none2") => `(tactic| fail)
local macro_rules | `(tactic| walk_at "none3") => `(tactic| fail)
local macro_rules | `(tactic| cell_enter) => `(tactic| walk_at "enterS")
local macro_rules | `(tactic| walk_at "call ref") => `(tactic| (first
  | (walk_at "cs"; k_dflt (apply init_check_ok); walk_at "cr"; all_goals (first | (intro e' c' t' vs' h' tk' G' z' FG' S' U'; obtain ⟨e1, q1⟩ := z'; first | (exact Bool.noConfusion q1) | subst e1) | (intro v' new' h' tk' r' F' N'; obtain ⟨e1, e2, q1⟩ := r'; first | (exact Bool.noConfusion q1) | (subst e1; subst e2))))
  | (walk_at "cn"; k_dflt (apply as_text_ok); k_dflt (assumption); k_dflt (assumption); walk_at "cr"; walk_at "i1")))
set_option maxHeartbeats 1000000 in
theorem unp_no (w : World) (news : Led) (x d : Addr) (t1 t2 t3 : Tok) :
    CnS w 141 6 80 [.ref x] [] ((x, instObj 223 d) :: (d, tagD w t1 t2 t3 .none false) :: news) (fun _ _ => False) (fun c => c = .ref 41) := by
  unfold CnS
  intro mean mg mb dp un gd cn cs a' ccd cl outer A₀ base h₀ L m s Q E XB TB D B F X N T hk hdp hun hret hexc
  w_top off
  refine wpAny_call ?_
  k_dflt cell_enter
  k_steps
  refine hexc _ _ _ _ _ _ _ rfl ?z9 (by assumption) (by assumption)
  assumption
set_option maxHeartbeats 1000000 in
theorem unp_yes (w : World) (news : Led) (x d b : Addr) (t1 t2 t3 : Tok) (l : List UInt8) (hz : l.length = 11) (h5 : (l.getD 0 0).toNat ≠ 5) :
    CnS w 141 6 80 [.ref x] [] ((x, instObj 223 d) :: (d, tagD w t1 t2 t3 (.ref b) true) :: (b, baObj l.toArray) :: news) (fun v new => (∃ t, v = .str (tagText l) t) ∧ new = (x, instObj 223 d) :: (d, tagD w t1 t2 t3 (.ref b) true) :: (b, baObj l.toArray) :: news) (fun _ => False) := by
  unfold CnS
  intro mean mg mb dp un gd cn cs a' ccd cl outer A₀ base h₀ L m s Q E XB TB D B F X N T hk hdp hun hret hexc
  w_top off
  refine wpAny_call ?_
  k_dflt cell_enter
  k_steps
  exact hret _ _ _ _ ⟨⟨_, rfl⟩, rfl⟩ (by k_asm) (by k_asm)
set_option maxHeartbeats 1000000 in
theorem sum_no (w : World) (news : Led) (x d : Addr) (t1 t2 t3 : Tok) :
    CnS w 179 6 80 [.ref x] [] ((x, instObj 223 d) :: (d, tagD w t1 t2 t3 .none false) :: news) (fun _ _ => False) (fun c => c = .ref 41) := by
  unfold CnS
  intro mean mg mb dp un gd cn cs a' ccd cl outer A₀ base h₀ L m s Q E XB TB D B F X N T hk hdp hun hret hexc
  w_top off
  refine wpAny_call ?_
  k_dflt cell_enter
  k_steps
  refine hexc _ _ _ _ _ _ _ rfl ?z9 (by assumption) (by assumption)
  assumption
local macro_rules | `(tactic| walk_at "binaryOp LShift int int") => `(tactic| (refine lshift_int_small (by decide) (by decide) (by assumption) ?_))
set_option maxHeartbeats 1000000 in
theorem sum_yes (w : World) (news : Led) (x d b : Addr) (t1 t2 t3 : Tok) (l : List UInt8) (hz : l.length = 11) :
    CnS w 179 6 80 [.ref x] [] ((x, instObj 223 d) :: (d, tagD w t1 t2 t3 (.ref b) true) :: (b, baObj l.toArray) :: news) (fun v new => (∃ t, v = .int (ckL l) t) ∧ new = (x, instObj 223 d) :: (d, tagD w t1 t2 t3 (.ref b) true) :: (b, baObj l.toArray) :: news) (fun _ => False) := by
  unfold CnS
  intro mean mg mb dp un gd cn cs a' ccd cl outer A₀ base h₀ L m s Q E XB TB D B F X N T hk hdp hun hret hexc
  w_top off
  refine wpAny_call ?_
  k_dflt cell_enter
  k_steps
  k_dflt (refine loop_acc (x := Str.ofString "c") (y := Str.ofString "chksum") (fun i => ckL (l.take i)) (srcL_ba rfl (by k_asm) (IsBA.of (by k_asm) (by k_mem)) (IsBA.off (b := l.toArray) (by k_asm) (by k_mem))) (by k_asm) (by k_asm) (by decide) rfl ?_ ?_)
  · rintro i v u h tk own hi ⟨c, u', hc, rfl⟩ hoff F₁ N₁
    obtain ⟨k0, k1⟩ := ckL_in (l.take i)
    obtain ⟨_, _, _, hsh⟩ := rot_is k0 k1
    have hc' : l[i]? = some c := by simpa using hc
    have c1 : (c.toNat : Int) ≤ 255 := by have := c.toNat_lt; omega
    k_steps
    refine LoopStepU.intro (by assumption) (by assumption) (off_one hoff) ⟨?_, rfl⟩
    rw [ckL_take hc', ← ck_eq k0 k1 (by omega) c1]
    exact ⟨_, _, by funext z; by_cases h1 : z = Str.ofString "chksum" <;> by_cases h2 : z = Str.ofString "c" <;> simp [h1, h2] <;> rfl⟩
  · intro h' tk kv u F₁ N₁
    have e : l.take l.toArray.size = l := by simp
    rw [e] at F₁
    k_steps
    exact hret _ _ _ _ ⟨⟨_, rfl⟩, rfl⟩ (by k_asm) (by k_asm)
end
end Mine
end
section
open PySem PySem.W PyProof.Rows PySem.Calls
set_option maxRecDepth 100000
namespace Mine
section
local macro_rules | `(tactic| k_all) => `(tactic| assumption)
local macro_rules | `(tactic| walk_at "call builtin:len") => `(tactic| (k_dflt (apply len_N; k_asm; k_mem; omega; k_whole)))
set_option maxHeartbeats 1000000 in
theorem setn_ok (w : World) (news : Led) (x d b : Addr) (t1 t2 t3 : Tok) (nm : Value) (i : Bool) (l : List UInt8) (hz : l.length = 11) (hxd : (@Ne Nat x d)) (hbd : (@Ne Nat b d)) (hs : ∀ p ∈ news, p.1 ≠ d) :
    Cn w 158 2 40 [.ref x, .ref b] ((x, instObj 223 d) :: (d, tagD w t1 t2 t3 nm i) :: (b, baObj l.toArray) :: news) (fun v new => v = .none ∧ new = (x, instObj 223 d) :: (d, tagD w t1 t2 t3 (.ref b) true) :: (b, baObj l.toArray) :: news) := by
  unfold Cn
  intro mean mg mb dp un gd cn cs a' ccd cl outer A₀ base h₀ L m s Q E B F X N T hk hdp hun hret
  w_top off
  refine wpAny_call ?_
  k_dflt cell_enter
  k_steps
  · have z := (by assumption : (l.length : Int) ≠ 11)
    omega
  exact hret _ _ _ _ ⟨rfl, rfl⟩ (by k_asm) (by k_asm)
end
section
local macro_rules | `(tactic| cell_enter) => `(tactic| walk_at "enterS")
local macro_rules | `(tactic| walk_at "exec Raise some none") => `(tactic| (k_dflt (refine Raise41 rfl ?_)))
local macro_rules | `(tactic| walk_at "call ref") => `(tactic| (k_dflt (refine' call_pyfat _ _ _ _ _ _ _ _ _ _ _ _ _ _ _ _ _ _ _ _ _ _ _ ?B ?F ?X ?N ?T ?hk ?hA ?hr ?_; (case hA | hk => exact rfl); (case F | B | X | N | T => k_asm); (case hr => ktr_room); k_whole); intro h' tk' e' t' o' F' N' x' n' l'))
local macro_rules | `(tactic| walk_at "And") => `(tactic| ((with_reducible show Str.length _ ≤ sizeLine ∧ _); refine ⟨by (rw [sizeLine_eq]; simp only [len_cat]; omega), ?_⟩))
local macro_rules | `(tactic| walk_at "joinParts") => `(tactic| (refine joinParts_nilE (joinParts_nil ?_ (by (rw [sizeLine_eq]; simp only [len_cat]; omega)))))
set_option maxHeartbeats 1000000 in
theorem raise_ok (w : World) (news : Led) (x : Str) (t : Tok) (hx : x.length ≤ 100) :
    CnS w 148 4 40 [.str x t] [] news (fun _ _ => False) (fun c => c = .ref 41) := by
  unfold CnS
  intro mean mg mb dp un gd cn cs a ccd cl outer A₀ base h₀ L m s Q E XB TB D B F X N T hk hdp hun hret hexc
  have hl0 : Str.empty.length = 0 := rfl
  have hl1 : ("Given directory name " : Str).length = 21 := by decide
  have hl2 : (" is not conform to 8.3 file naming convention." : Str).length = 46 := by decide
  w_top off
  refine wpAny_call ?_
  k_dflt cell_enter
  k_steps
  rename_i h1 tk1 e1 t1 o1 F1 N1 x1 n1 l1
  refine ⟨_, _, _, rfl, at41 ((by assumption : InK w _).keeps F1.keep), (N1 _ (.head _)).1, x1, ?_⟩
  k_dflt (refine leave_own (by assumption) F1 N1 x1 n1 l1 rfl rfl ?_)
  intro h2 S U
  exact hexc _ _ _ _ _ _ _ rfl (by assumption) S U
end
end Mine
end
section
open PySem PySem.W PyProof.Rows PySem.Calls
set_option maxRecDepth 100000
namespace Mine
section
local macro_rules | `(tactic| walk_at "none0") => `(tactic| fail)
local macro_rules | `(tactic| walk_at "none1") => `(tactic| fail)
local macro_rules | `(tactic| walk_at "none2") => `(tactic| fail)
local macro_rules | `(tactic| walk_at "none3") => `(tactic| fail)
local macro_rules | `(tactic| walk_at "none4") => `(tactic| fail)
local macro_rules | `(tactic| cell_enter) => `(tactic| walk_at "enterS")
set_option maxHeartbeats 1000000 in
theorem setb_str (w : World) (news : Led) (x d : Addr) (o : Obj) (y : Str) (t : Tok) :
    CnS w 165 2 40 [.ref x, .str y t] [] ((x, instObj 223 d) :: (d, o) :: news) (fun _ _ => False) (fun c => c = .type "TypeError") := by
  unfold CnS
  intro mean mg mb dp un gd cn cs a ccd cl outer A₀ base h₀ L m s Q E XB TB D B F X N T hk hdp hun hret hexc
  w_top off
  refine wpAny_call ?_
  k_dflt cell_enter
  k_steps
  refine hexc _ _ _ _ _ _ _ rfl ?a (by assumption) (by assumption)
  assumption
local macro_rules | `(tactic| walk_at "call builtin:isinstance") => `(tactic| (k_dflt (refine' ba_isinstance (IsBA.of ?N ?hm) ?_; (case N => k_asm); (case hm => k_mem); k_whole)))
set_option maxHeartbeats 1000000 in
theorem setb_ba (w : World) (news : Led) (x d b : Addr) (o : Obj) (bs : Array UInt8) :
    CnS w 165 2 40 [.ref x, .ref b] [] ((x, instObj 223 d) :: (d, o) :: (b, baObj bs) :: news) (fun _ _ => False) (fun c => c = .type "TypeError") := by
  unfold CnS
  intro mean mg mb dp un gd cn cs a ccd cl outer A₀ base h₀ L m s Q E XB TB D B F X N T hk hdp hun hret hexc
  w_top off
  refine wpAny_call ?_
  k_dflt cell_enter
  k_steps
  refine hexc _ _ _ _ _ _ _ rfl ?a (by assumption) (by assumption)
  assumption
set_option maxHeartbeats 1000000 in
theorem sets_bytes (w : World) (news : Led) (x d : Addr) (o : Obj) (y : Array UInt8) (t : Tok) :
    CnS w 172 2 40 [.ref x, .bytes y t] [] ((x, instObj 223 d) :: (d, o) :: news) (fun _ _ => False) (fun c => c = .type "TypeError") := by
  unfold CnS
  intro mean mg mb dp un gd cn cs a ccd cl outer A₀ base h₀ L m s Q E XB TB D B F X N T hk hdp hun hret hexc
  w_top off
  refine wpAny_call ?_
  k_dflt cell_enter
  k_steps
  refine hexc _ _ _ _ _ _ _ rfl ?a (by assumption) (by assumption)
  assumption
end
end Mine
end
section
open PySem PySem.W PyProof.Rows PySem.Calls
set_option maxRecDepth 100000
namespace Mine
theorem to_front3 {α : Type} {a b c : α} {l : List α} : ∀ p ∈ a :: b :: c :: l, p ∈ c :: a :: b :: l := by
  intro p hp
  simp only [List.mem_cons] at hp ⊢
  rcases hp with h | h | h | h <;> simp [h]
theorem keep3 {α : Type} {a b c : α} {l : List α} : ∀ p ∈ a :: b :: l, p ∈ a :: b :: c :: l := by
  intro p hp
  simp only [List.mem_cons] at hp ⊢
  rcases hp with h | h | h <;> simp [h]
theorem getD0 {l : List UInt8} {k : Nat} (h : ((l.getD (Int.toNat 0) 0).toNat : Int) = (k : Int)) : (l.getD 0 0).toNat = k := by
  have e : (l.getD (Int.toNat 0) 0) = l.getD 0 0 := rfl
  rw [e] at h; omega
theorem getD0n {l : List UInt8} {k : Nat} (h : ((l.getD (Int.toNat 0) 0).toNat : Int) ≠ (k : Int)) : (l.getD 0 0).toNat ≠ k := by
  have e : (l.getD (Int.toNat 0) 0) = l.getD 0 0 := rfl
  rw [e] at h; omega
section
local macro_rules | `(tactic| k_all) => `(tactic| assumption)
local macro_rules | `(tactic| walk_at "call builtin:len") => `(tactic| (k_dflt (apply len_N; k_asm; k_mem; omega; k_whole)))
local macro_rules | `(tactic| walk_at "subscriptTail Name Constant ref int") => `(tactic| (k_dflt (apply item_N; k_asm; k_mem; omega; decide; omega; k_whole)))
local macro_rules | `(tactic| walk_at "exec Raise some none") => `(tactic| ((with_reducible show wpAny _ _ (exec (Stmt.Raise (some (Expr.Call _ _ (_ :: _) _)) none _) _) _ _ _); k_dflt (refine Raise63 rfl ?_)))
local macro_rules | `(tactic| walk_at "call ref") => `(tactic| (first
  | (k_dflt (refine' call_notafat _ _ _ _ _ _ _ _ _ _ _ _ _ _ _ _ _ _ _ _ _ _ _ ?B ?F ?X ?N ?T ?hk ?hA ?hr ?_; (case hA | hk => exact rfl); (case F | B | X | N | T => k_asm); (case hr => ktr_room); k_whole); intro h' tk' e' t' o' F' N' x' n' l')
  | (walk_at "cn"; k_dflt (apply setn_ok); omega; k_dflt (assumption); k_dflt (assumption); k_dflt (assumption); walk_at "cr"; intro v' new' h' tk' r' F' N'; obtain ⟨e1, e2⟩ := r'; subst e1; subst e2)))
set_option maxHeartbeats 1000000 in
theorem setb_ok (w : World) (news : Led) (x d : Addr) (t1 t2 t3 : Tok) (nm : Value) (i : Bool) (l : List UInt8) (t : Tok) (hl : l.length ≤ 1000) (hxd : (@Ne Nat x d)) (hs : ∀ p ∈ news, p.1 ≠ d) :
    CnC w 165 6 120 [.ref x, .bytes l.toArray t] [] ((x, instObj 223 d) :: (d, tagD w t1 t2 t3 nm i) :: news)
      (fun v new => l.length = 11 ∧ (l.getD 0 0).toNat ≠ 0 ∧ (l.getD 0 0).toNat ≠ 229 ∧ v = .none ∧ ∃ b, new = (x, instObj 223 d) :: (d, tagD w t1 t2 t3 (.ref b) true) :: (b, baObj l.toArray) :: news ∧ (∀ p ∈ news, p.1 < b) ∧ x < b ∧ d < b)
      (fun c => (l.length ≠ 11 ∧ c = .type "ValueError") ∨ (l.length = 11 ∧ ((l.getD 0 0).toNat = 0 ∨ (l.getD 0 0).toNat = 229) ∧ c = .ref 63)) := by
  unfold CnC
  intro mean mg mb dp un gd cn cs a ccd cl A₀ h₀ L m s Q E B F X N T hk hdp hun hret hexc
  w_top off
  refine wpC_call ?_
  k_dflt (refine' code_SC (outer := []) ?k1 ?k2 ?k3 ?k4 ?k5 X T ktsDicts_nil ?kA ?kF ?kK ?k6 ?k7 ?k8 ?k9 ?kB ?_ ?c2 ?c3 ?c4 ?c5; (case kA => exact rfl); (case kF => exact rfl); (case kK => assumption); (case k1 => k_asm); (case k2 => k_asm); (case k3 => k_asm); (case k4 => k_asm); (case k5 => k_asm); (case k6 => k_is); (case k7 => k_is); (case k8 => ktr_room); (case k9 => exact BindsTo.of_eq rfl); (case c5 => decide); (case kB => exact locs rfl); (case c2 => exact rfl); (case c3 => exact rfl); (case c4 => exact rfl); k_whole; intro g' L' h' FG' F' N' B' X' T' D'; (try dsimp only); (try k_lift B'))
  refine wpC_step ?_
  k_steps
  refine wpC_execs_cons ?_
  k_dflt (refine assign_bytearray ?_)
  k_steps
  refine ⟨rfl, ?_⟩
  k_steps
  refine ⟨_, _, rfl, by simpa using hl, ?_⟩
  intro b h₁ k hD hb hkp
  k_dflt (obtain ⟨F₁, N₁, l₁⟩ := ba_new (by k_asm) N' hD hb hkp)
  have N₂ := cb_drop N₁ to_front3
  have o1 : x < b := l₁ _ (.head _)
  have o2 : d < b := l₁ _ (.tail _ (.head _))
  have o3 : ∀ p ∈ news, p.1 < b := fun p hp => l₁ p (.tail _ (.tail _ hp))
  have o4 : (@Ne Nat b d) := Nat.ne_of_gt o2
  clear N₁ N' hb hkp hD l₁
  k_steps
  refine wpC_any ?_
  k_steps
  · exact hexc _ _ _ _ _ _ _ (.inl ⟨by omega, rfl⟩) FG' (raised_sub (by assumption : RaisedS _ g' _ _ _ _ _ _ _) keep3) (by assumption)
  · have z : (l.getD 0 0).toNat = 0 := getD0 (by assumption)
    rename_i h1 tk1 e1 t1' o1' F1 N1 x1 n1 l1
    refine ⟨_, _, _, rfl, at63 ((by assumption : InK w g').keeps F1.keep), (N1 _ (.head _)).1, x1, ?_⟩
    k_dflt (refine leave_own (by assumption) F1 N1 x1 n1 l1 rfl rfl ?_)
    intro h2 S U
    exact hexc _ _ _ _ _ _ _ (.inr ⟨by omega, .inl z, rfl⟩) FG' (raised_sub S keep3) U
  · have z : (l.getD 0 0).toNat = 229 := getD0 (by assumption)
    rename_i h1 tk1 e1 t1' o1' F1 N1 x1 n1 l1
    refine ⟨_, _, _, rfl, at63 ((by assumption : InK w g').keeps F1.keep), (N1 _ (.head _)).1, x1, ?_⟩
    k_dflt (refine leave_own (by assumption) F1 N1 x1 n1 l1 rfl rfl ?_)
    intro h2 S U
    exact hexc _ _ _ _ _ _ _ (.inr ⟨by omega, .inr z, rfl⟩) FG' (raised_sub S keep3) U
  · exact hret _ _ _ _ ⟨by omega, getD0n (by assumption), getD0n (by assumption), rfl, _, rfl, o3, o1, o2⟩ (by k_asm) (by k_asm)
end
end Mine
end
section
open PySem PySem.W PyProof.Rows PySem.Calls
set_option maxRecDepth 100000
namespace Mine
theorem fr_turned {h₀ g g' : Heap} {L : Addr} {m : Str → Option Value} {env : Env} (hf : env.frame = some L) (F : Fr h₀ L g m) (T : KtsTurn (frs [env]) g g') : Fr h₀ L g' m := by
  have nL₀ := kts_self F
  obtain ⟨oL, es, ep, hL, hLd, hLk, hLf⟩ := F.ns
  obtain ⟨sl, hs⟩ := T.up hL
  refine ⟨⟨_, es, ep, hs, hLd, hLk, hLf⟩, fun b o e => T.other b o (F.keep b o e) fun q => ?_, F.above⟩
  rcases frs_mem hf q with z | z
  · rw [z, nL₀] at e; cases e
  · cases z
/-- a fact that the walk is not to look into -/
structure Hid (p : Prop) : Prop where
  out : p
/-- the octets that set_str_name lays -/
noncomputable def padL (x : Str) : List UInt8 := (octs (padR x)).map fun n => n.toNat.toUInt8
section
local macro_rules | `(tactic| walk_at "none0") => `(tactic| fail)
local macro_rules | `(tactic| walk_at "none1") => `(tactic| fail)
local macro_rules | `(tactic| walk_at "none2") => `(tactic| fail)
local macro_rules | `(tactic| walk_at "none3") => `(tactic| fail)
local macro_rules | `(tactic| k_all) => `(tactic| assumption)
local macro_rules | `(tactic| walk_at "subscriptTail Name Constant ref int") => `(tactic| (k_dflt (apply item_N; k_asm; k_mem; exact Hid.out (by with_reducible assumption); decide; exact Hid.out (by with_reducible assumption); k_whole)))
local macro_rules | `(tactic| walk_at "hd") => `(tactic| (k_dflt (exact Hid.out (by with_reducible assumption))))
local macro_rules | `(tactic| walk_at "call ref") => `(tactic| (first
  | (walk_at "ct"; k_dflt (apply conf_ok); k_dflt (with_reducible assumption); walk_at "hd"; walk_at "hd"; walk_at "cr"; intro v' new' h' tk' g' r' T' F' N' B' X' P' D'; obtain ⟨b', e1, e2, q1⟩ := r'; subst e1; (replace e2 := Eq.symm e2); subst e2; (try k_lift B'))
  | (walk_at "cs"; k_dflt (apply raise_ok); k_dflt (with_reducible assumption); walk_at "cr"; walk_at "i3")
  | (walk_at "cn"; first
    | (k_dflt (apply pad_ok); k_dflt (with_reducible assumption); walk_at "cr"; intro v' new' h' tk' r' F' N'; obtain ⟨t', e1, e2⟩ := r'; subst e1; (replace e2 := Eq.symm e2); subst e2)
    | (k_dflt (apply encoded_ok); walk_at "hd"; walk_at "hd"; walk_at "cr"; walk_at "i2"))))
set_option maxHeartbeats 1000000 in
theorem sets_ok (w : World) (news : Led) (x d : Addr) (t1 t2 t3 : Tok) (nm : Value) (i : Bool) (y : Str) (t : Tok) (hx : y.length ≤ 100) (hc1 : ∀ c ∈ (splitR y).1.cps, c < 256) (hc2 : ∀ c ∈ (Txt.slice (splitR y).2 (some 1) none).cps, c < 256)
    (hp : ∀ c ∈ (padR y).cps, c < 256) (hpl : (padR y).length ≤ 1000) (h11 : Conf y → (padL y).length = 11 ∧ ((padL y).getD 0 0).toNat ≠ 229) (hxd : (@Ne Nat x d)) (hs : ∀ p ∈ news, p.1 ≠ d) :
    CnC w 172 10 200 [.ref x, .str y t] [] ((x, instObj 223 d) :: (d, tagD w t1 t2 t3 nm i) :: news)
      (fun v new => Conf y ∧ v = .none ∧ ∃ b, new = (x, instObj 223 d) :: (d, tagD w t1 t2 t3 (.ref b) true) :: (b, baObj (padL y).toArray) :: news ∧ (∀ p ∈ news, p.1 < b) ∧ x < b ∧ d < b)
      (fun c => c = .ref 41 ∧ ¬ Conf y) := by
  unfold CnC
  intro mean mg mb dp un gd cn cs a ccd cl A₀ h₀ L m s Q E B F X N T hk hdp hun hret hexc
  replace hc1 := Hid.mk hc1
  replace hc2 := Hid.mk hc2
  replace hp := Hid.mk hp
  replace hpl := Hid.mk hpl
  replace h11 := Hid.mk h11
  w_top off
  refine wpC_call ?_
  k_dflt (refine' code_SC (outer := []) ?k1 ?k2 ?k3 ?k4 ?k5 X T ktsDicts_nil ?kA ?kF ?kK ?k6 ?k7 ?k8 ?k9 ?kB ?_ ?c2 ?c3 ?c4 ?c5; (case kA => exact rfl); (case kF => exact rfl); (case kK => assumption); (case k1 => k_asm); (case k2 => k_asm); (case k3 => k_asm); (case k4 => k_asm); (case k5 => k_asm); (case k6 => k_is); (case k7 => k_is); (case k8 => ktr_room); (case k9 => exact BindsTo.of_eq rfl); (case c5 => decide); (case kB => exact locs rfl); (case c2 => exact rfl); (case c3 => exact rfl); (case c4 => exact rfl); k_whole; intro g' L' h' FG' F' N' B' X' T' D'; (try dsimp only); (try k_lift B'))
  refine wpC_step ?_
  k_steps
  refine wpC_step ?_
  k_steps
  · have hq := (by assumption : (_ = true ↔ Conf y))
    have ha := (by assumption : _ = true)
    have hC : Conf y := hq.mp ha
    have hz : Hid ((padL y).length ≤ 1000) := ⟨by rw [(h11.out hC).1]; decide⟩
    have hz1 : Hid ((0 : Int) < ((padL y).length : Int)) := ⟨by rw [(h11.out hC).1]; decide⟩
    clear hq ha
    dsimp only
    refine wpC_execs_cons ?_
    k_dflt (refine assign_bytearray ?_)
    k_steps
    refine ⟨rfl, ?_⟩
    k_steps
    refine ⟨_, _, rfl, ?hsz, ?_⟩
    case hsz => rw [byteArr_size, octs_length]; exact hpl.out
    intro b h₁ k hD hb hkp
    k_dflt (obtain ⟨F₁, N₁, l₁⟩ := ba_new (by k_asm) (by k_asm) hD hb hkp)
    have N₂ : News _ _ h₁ ((x, instObj 223 d) :: (d, tagD w t1 t2 t3 nm i) :: (b, baObj (padL y).toArray) :: news) := cb_drop N₁ to_front3
    have o1 : x < b := l₁ _ (.head _)
    have o2 : d < b := l₁ _ (.tail _ (.head _))
    have o3 : ∀ p ∈ news, p.1 < b := fun p hp => l₁ p (.tail _ (.tail _ hp))
    have o4 : (@Ne Nat b d) := Nat.ne_of_gt o2
    clear N₁ hb hkp hD l₁
    k_steps
    refine wpC_any ?_
    k_steps
    · exact absurd (getD0 (by assumption)) (h11.out hC).2
    · exact hret _ _ _ _ ⟨hC, rfl, _, rfl, o3, o1, o2⟩ (fr_unturn (by assumption) (by assumption)) (news_unturn (by assumption) (by assumption))
  · have hq := (by assumption : (_ = true ↔ Conf y))
    have ha := (by assumption : _ = false)
    rw [ha] at hq
    refine hexc _ _ _ _ _ _ _ ⟨rfl, fun c => Bool.false_ne_true (hq.mpr c)⟩ ?z9 (by assumption) (by assumption)
    exact fr_turned rfl FG' (by assumption)
end
end Mine
end
local macro_rules | `(tactic| walk_at "hd") => `(tactic| (k_dflt (exact Mine.Hid.out (by with_reducible assumption))))
section
open PySem PySem.W PyProof.Rows PySem.Calls
set_option maxRecDepth 100000
namespace Mine
theorem good_in : ∀ c ∈ ("ABCDEFGHIJKLMNOPQRSTUVWXYZ0123456789 !#$%&'()-@^_`{}~" : Str).cps.toList, 32 ≤ c ∧ c ≤ 126 := by decide
section
local macro_rules | `(tactic| cell_enter) => `(tactic| walk_at "enterP")
set_option maxHeartbeats 1000000 in
theorem sign_ok (w : World) (news : Led) (n : Int) (t : Tok) :
    Cn w 234 1 20 [.int n t] news (fun v new => (∃ c t', v = .str ⟨#[c]⟩ t' ∧ 32 ≤ c ∧ c ≤ 126) ∧ new = news) := by
  unfold Cn
  intro mean mg mb dp un gd cn cs a ccd cl outer A₀ base h₀ L m s Q E B F X N T hk hdp hun hret
  w_top off
  refine wpAny_call ?_
  k_dflt cell_enter
  k_steps
  · have h0 : 0 ≤ Int.fmod n 60 := Int.fmod_nonneg_of_pos n (by decide)
    obtain ⟨c, hc, e⟩ := item_at (x := "ABCDEFGHIJKLMNOPQRSTUVWXYZ0123456789 !#$%&'()-@^_`{}~") h0 (by
      have z := (by assumption : Int.fmod n 60 < 53)
      have : ("ABCDEFGHIJKLMNOPQRSTUVWXYZ0123456789 !#$%&'()-@^_`{}~" : Str).length = 53 := by decide
      omega)
    rw [e]
    obtain ⟨c1, c2⟩ := good_in c (by simpa using Array.mem_of_getElem? hc)
    exact hret _ _ _ _ ⟨⟨_, _, rfl, c1, c2⟩, rfl⟩ (by k_asm) (by k_asm)
  · exact hret _ _ _ _ ⟨⟨46, _, rfl, by decide, by decide⟩, rfl⟩ (by k_asm) (by k_asm)
  · have h0 : 0 ≤ Int.fmod (Int.fdiv n 60) 95 := Int.fmod_nonneg_of_pos _ (by decide)
    have h1 : Int.fmod (Int.fdiv n 60) 95 < 95 := Int.fmod_lt_of_pos _ (by decide)
    exact hret _ _ _ _ ⟨⟨_, _, rfl, by omega, by omega⟩, rfl⟩ (by k_asm) (by k_asm)
end
theorem all2_someInts {α : Type} : ∀ {l : List α} {ys : List Value}, All2 (fun _ v => ∃ n u, v = Value.int n u) l ys → ∃ ns, IntsAre ys ns ∧ ns.length = l.length
  | _, _, .nil => ⟨[], .nil, rfl⟩
  | _, _, .cons ⟨n, u, e⟩ h => by
    obtain ⟨ns, h1, h2⟩ := all2_someInts h
    subst e
    exact ⟨n :: ns, .cons _ u h1, by simp [h2]⟩
theorem drop_cells {α : Type} {z a b c d : α} {l : List α} : ∀ p ∈ z :: l, p ∈ z :: a :: b :: c :: d :: l := by
  intro p hp
  rcases List.mem_cons.mp hp with h | h
  · simp [h]
  · simp [h]
theorem off1_ne {D : Addr} : ∀ {l : Led}, LCg.Off1 D l → ∀ p ∈ l, p.1 ≠ D
  | [], _, _, hp => nomatch hp
  | q :: l, ⟨h1, h2⟩, p, hp => by
    rcases List.mem_cons.mp hp with rfl | hp
    · exact h1
    · exact off1_ne h2 p hp
theorem pow_small {rad : Int} (h3 : 1 ≤ rad) (h4 : rad ≤ 256) {k : Nat} (hk : k ≤ 14) : (rad ^ Int.toNat (k : Int)).natAbs.log2 < 9000 := by
  have e : (rad ^ Int.toNat (k : Int)).natAbs = rad.natAbs ^ k := by rw [Int.natAbs_pow]; rfl
  rw [e]
  have hr : rad.natAbs ≤ 256 := by omega
  have hr' : 0 < rad.natAbs := by omega
  have hp : 0 < rad.natAbs ^ k := Nat.pow_pos hr'
  refine Nat.lt_trans ((Nat.log2_lt (k := 120) (Nat.ne_of_gt hp)).mpr ?_) (by decide)
  have h1 : rad.natAbs ^ k ≤ 256 ^ k := Nat.pow_le_pow_left hr k
  have h2 : 256 ^ k ≤ 256 ^ 14 := Nat.pow_le_pow_right (by decide) hk
  have h5 : (256 ^ 14 : Nat) < 2 ^ 120 := by decide
  omega
theorem Walks_lt {prog : Program} {w : World} {A : Around} {I : Addr} {fp wr : List Addr} {n : Nat} {P : Nat → Value → Prop} {St : Nat → Heap → Prop} (W : Walks prog w A I fp wr n P St) : Walks prog w A I fp wr n (fun i v => i < n ∧ P i v) St where
  sub := W.sub
  frame := W.frame
  item := fun i s Q E hi st hQ => W.item i s Q E hi st fun v h' tk hp st' hk => hQ v h' tk ⟨hi, hp⟩ st' hk
  done := W.done
  self := W.self
theorem srcW_range {w : World} {A : Around} {h₀ : Heap} {L : Addr} {m : Str → Option Value} (hh : A.handled = none) {s₁ : Shared} (F : Fr h₀ L s₁.heap m) {r : Addr} {lo hi : Int} {t u v : Tok} (hr : IsRange s₁.heap r lo hi 1 t u v) (h1 : -(2 ^ 62) ≤ lo) (h2 : lo < 2 ^ 62) (h3 : -(2 ^ 62) ≤ hi) (h4 : hi < 2 ^ 62) :
    SrcW w A h₀ L (.ref r) s₁ (hi - lo).toNat (fun i v => i < (hi - lo).toNat ∧ ∃ t, v = .int (lo + i) t) (fun _ => True) := by
  intro Q E hQ
  refine wpAny_pyIter_range hr (small_one h1 h2 h3 h4) (hQ _ [s₁.heap.objs.size] (fun i h => IsRangeIter h s₁.heap.objs.size (lo + (i : Nat) * 1) (((hi - lo).toNat : Int) - (i : Nat)) 1) ?_ ?_ ?_ ?_ ?_)
  · have W := Walks.range (prog := pg) (w := w) hh s₁.heap.objs.size lo 1 (hi - lo).toNat
    have e : (fun (i : Nat) (v : Value) => ∃ t, v = .int (lo + i) t) = fun (i : Nat) (v : Value) => ∃ t, v = .int (lo + i * 1) t := by funext i v; simp
    rw [← e] at W; exact Walks_lt W
  · intro b hb
    rw [List.mem_singleton.mp hb, Heap.size_push]; exact Nat.lt_succ_self _
  · exact fun i h st => ⟨_, st⟩
  · intro i h h' o nw st e e' _ _ _
    have st' : h.get? s₁.heap.objs.size = some _ := st
    rw [e] at st'; cases st'; exact e'
  · have e1 : (lo + ((0 : Nat) : Int) * 1) = lo := by simp
    have e2 : (((hi - lo).toNat : Int) - ((0 : Nat) : Int)) = Builtin.Range.rangeSize lo hi 1 := by rw [rangeSize_one]; split <;> omega
    show IsRangeIter _ _ _ _ _
    rw [e1, e2]
    exact Heap.get?_push_size _ rfl
section
local macro_rules | `(tactic| walk_at "eval ListComp") => `(tactic| (k_dflt (refine ListComp_W (F₀ := by k_asm) (by with_unfolding_all rfl) (by decide) (by rfl) (by decide) (by rfl) ?_)))
local macro_rules | `(tactic| walk_at "call builtin:len") => `(tactic| ((with_reducible show wpAny _ _ (call _ [Value.ref _]) _ _ _); k_dflt (refine' len_list (News.isList ?N ?m) ?f ?_; (case N => k_asm); (case m => k_mem); (case f => simp only [List.size_toArray]; omega); k_whole)))
local macro_rules | `(tactic| walk_at "subscriptTail Name BinOp ref int") => `(tactic| (k_dflt (refine' item_list_intsR (News.isList ?N ?m) ?i ?h0 ?h1 ?h2 ?_; (case N => k_asm); (case m => k_mem); (case i => assumption); (case h0 | h1 | h2 => omega); k_whole); intro t'))
local macro_rules | `(tactic| walk_at "binaryOp FloorDiv int int") => `(tactic| (refine floordiv_int (by with_reducible assumption) ?_ (Or.inl (by with_reducible assumption))))
set_option maxHeartbeats 1000000 in
theorem drawn_ok (w : World) (news : Led) (ax : Addr) (ys : List Value) (ns : List Int) (hI : IntsAre ys ns) (hlen : ys.length ≤ 100) (hsz : ys.toArray.size = ns.length) (pl sz more rad : Int) (tp ts tm tr : Tok) (h0 : 0 ≤ pl) (h1 : 0 ≤ sz) (h2 : sz ≤ 14) (h3 : 1 ≤ rad) (h4 : rad ≤ 256) :
    Cn w 239 2 40 [.ref ax, .int pl tp, .int sz ts, .int more tm, .int rad tr] ((ax, listOf ys.toArray 0) :: news) (fun v new => ∃ D zs ns', v = .ref D ∧ new = (D, LCg.lst zs) :: (ax, listOf ys.toArray 0) :: news ∧ IntsAre zs ns' ∧ ns'.length = sz.toNat ∧ ∀ p ∈ (ax, listOf ys.toArray 0) :: news, p.1 ≠ D) := by
  unfold Cn
  intro mean mg mb dp un gd cn cs a ccd cl outer A₀ base h₀ L m s Q E B F X N T hk hdp hun hret
  w_top off
  refine wpAny_call ?_
  k_dflt (refine' code_defC ?k1 ?k2 ?k3 ?k4 ?k5 ?kA ?kF ?kK ?k6 ?k7 ?k8 ?k9 ?kB ?kD ?_ ?c2 ?c3 ?c4; (case kA => exact rfl); (case kF => exact rfl); (case kK => assumption); (case k1 => k_asm); (case k2 => k_asm); (case k3 => k_asm); (case k4 => k_asm); (case k5 => k_asm); (case k6 => k_is); (case k7 => k_is); (case k8 => ktr_room); (case k9 => exact BindsTo.of_eq rfl); (case kB => exact rfl); (case kD => decide +kernel); (case c2 => exact rfl); (case c3 => exact rfl); (case c4 => exact rfl); k_whole; intro g' L' h' tk' cells' FG' F' N' Y' B' X' T' l1; (try k_lt l1); k_cells Y'; (try simp only [List.cons_append, List.nil_append] at N'); (try dsimp only); (try k_lift B'); (try k_fold))
  k_steps
  refine ⟨_, _, _, _, srcW_range rfl (by k_asm) (by assumption) (by decide) (by decide) (by omega) (by omega), by k_asm, by k_asm, (by rw [sizeLine_eq]; omega), trivial, ?_⟩
  rintro s₂ ⟨g, rfl⟩
  have hn : (sz - 0).toNat = (List.range sz.toNat).length := by simp
  rw [hn]
  refine cr_map (List.range sz.toNat) (fun k v => ∃ u, v = .int ((k : Nat) : Int) u) (fun _ v => ∃ n u, v = .int n u) ?_ ?_ ?_
  · rintro i v ⟨hi, u, rfl⟩
    refine ⟨i, ?_, u, by simp⟩
    rw [List.getElem?_range (by simpa using hi)]
  · rintro k v I oI C oC D m₂ zs h tk E' ha ⟨u, rfl⟩ hC hx F9 N9 off9 ne9
    have hk := List.mem_range.mp ha
    have hp : 0 < rad ^ Int.toNat (k : Int) := Int.pow_pos (by omega)
    have hp' : rad ^ Int.toNat (k : Int) ≠ 0 := by omega
    have hpy : Builtin.divisionGoesByPylong more (rad ^ Int.toNat (k : Int)) = false := PyProof.noPylong_of_log2 (pow_small h3 h4 (by omega))
    k_steps
    · exact ⟨_, _, _, rfl, by k_asm, by k_asm, by k_asm, trivial, rfl, _, _, rfl⟩
    · exact ⟨_, _, _, rfl, by k_asm, by k_asm, by k_asm, trivial, rfl, _, _, rfl⟩
  · intro zs hzs
    k_steps
    obtain ⟨ns', h1', h2'⟩ := all2_someInts hzs
    exact hret _ _ _ _ ⟨_, zs, ns', rfl, rfl, h1', by simpa using h2', off1_ne (l := (ax, listOf ys.toArray 0) :: news) (by assumption : (_ ∧ _ ∧ _ ∧ _ ∧ (@Ne Nat ax _) ∧ LCg.Off1 _ news)).2.2.2.2⟩ (by k_asm) (cb_drop (by assumption) drop_cells)
end
end Mine
end
section
open PySem PySem.W PyProof.Rows PySem.Calls PySem.Builtin PySem.Builtin.Str
set_option maxRecDepth 100000
namespace Mine
noncomputable def headS (l : List Nat) : List Nat := l.dropWhile (· == 32)
noncomputable def tailS (l : List Nat) : List Nat := (l.reverse.dropWhile (· == 32)).reverse
theorem tailS_more (l : List Nat) : tailS (l ++ [32]) = tailS l := by simp [tailS]
theorem tailS_stop {l : List Nat} (h : ∀ l', l ≠ l' ++ [32]) : tailS l = l := by
  rcases List.eq_nil_or_concat l with rfl | ⟨l', c, rfl⟩
  · rfl
  · have hc : c ≠ 32 := by rintro rfl; exact h l' (by simp)
    simp [tailS, hc]
theorem headS_more (l : List Nat) : headS (32 :: l) = headS l := by simp [headS]
theorem headS_stop {l : List Nat} (h : ∀ l', l ≠ 32 :: l') : headS l = l := by
  cases l with
  | nil => rfl
  | cons c l =>
    have hc : c ≠ 32 := by rintro rfl; exact h l rfl
    simp [headS, hc]
noncomputable def goodL : List Nat := ("ABCDEFGHIJKLMNOPQRSTUVWXYZ0123456789 !#$%&'()-@^_`{}~" : Str).cps.toList
noncomputable def dotsL (l : List Nat) : List Nat := (List.range l.length).filter fun k => l[k]? == some 46
noncomputable def partsL (l : List Nat) : Option (List Nat × List Nat) :=
  if (dotsL l).length > 1 ∨ dotsL l = [0] then none
  else
    let close := (dotsL l).headD l.length
    let b := l.take close
    let t := l.drop (close + 1)
    if b.length > 8 ∨ t.length > 3 ∨ ((b ++ t).filter fun c => !goodL.contains c) ≠ [] then none
    else some (headS (tailS b), headS (tailS t))
noncomputable def partsAt (l : List Nat) (c : Nat) : Option (List Nat × List Nat) :=
  if (l.take c).length > 8 ∨ (l.drop (c + 1)).length > 3 ∨ ((l.take c ++ l.drop (c + 1)).filter fun c => !goodL.contains c) ≠ [] then none
  else some (headS (tailS (l.take c)), headS (tailS (l.drop (c + 1))))
theorem partsL_at {l : List Nat} (h : ¬ ((dotsL l).length > 1 ∨ dotsL l = [0])) : partsL l = partsAt l ((dotsL l).headD l.length) := by
  unfold partsL
  rw [if_neg h]
  rfl
theorem partsAt_no {l : List Nat} {c : Nat} (h : 8 < (l.take c).length ∨ 3 < (l.drop (c + 1)).length ∨ ((l.take c ++ l.drop (c + 1)).filter fun c => !goodL.contains c) ≠ []) : partsAt l c = none := by
  unfold partsAt; rw [if_pos h]
theorem partsAt_yes {l : List Nat} {c : Nat} (h1 : ¬ 8 < (l.take c).length) (h2 : ¬ 3 < (l.drop (c + 1)).length) (h3 : ((l.take c ++ l.drop (c + 1)).filter fun c => !goodL.contains c) = []) : partsAt l c = some (headS (tailS (l.take c)), headS (tailS (l.drop (c + 1)))) := by
  unfold partsAt; rw [if_neg]; simp only [not_or]; exact ⟨h1, h2, fun h => h h3⟩
end Mine
end
section
open PySem PySem.W PyProof.Rows PySem.Calls PySem.Builtin PySem.Builtin.Str
set_option maxRecDepth 100000
namespace Mine
theorem last_yes {x : Str} (h : (Txt.slice x (some (-1)) none == (" " : Str)) = true) : ∃ l, chars x = l ++ [32] ∧ chars (Txt.slice x none (some (-1))) = l := by
  have e : Txt.slice x (some (-1)) none = (" " : Str) := by simpa using h
  have e2 := congrArg chars e
  rw [slice_from_neg (by decide), slice_drop x (by omega)] at e2
  have e3 : chars (" " : Str) = [32] := rfl
  rw [e3] at e2
  have hl := chars_len x
  rw [slice_to_neg (by decide), slice_take x (by omega)]
  refine ⟨(chars x).take (max 0 ((x.length : Int) + -1)).toNat, ?_, rfl⟩
  conv => lhs; rw [← List.take_append_drop (max 0 ((x.length : Int) + -1)).toNat (chars x)]
  rw [e2]
theorem last_no {x : Str} (h : (Txt.slice x (some (-1)) none == (" " : Str)) = false) : ∀ l, chars x ≠ l ++ [32] := by
  intro l e
  have hl := chars_len x
  rw [e] at hl
  simp at hl
  have : Txt.slice x (some (-1)) none = (" " : Str) := by
    refine str_eq_of_chars ?_
    rw [slice_from_neg (by decide), slice_drop x (by omega), e]
    have : (max 0 ((x.length : Int) + -1)).toNat = l.length := by omega
    rw [this]
    simp
    rfl
  simp [this] at h
theorem first_yes {x : Str} (h : (Txt.slice x none (some 1) == (" " : Str)) = true) : ∃ l, chars x = 32 :: l ∧ chars (Txt.slice x (some 1) none) = l := by
  have e : Txt.slice x none (some 1) = (" " : Str) := by simpa using h
  have e2 := congrArg chars e
  rw [slice_take x (by decide)] at e2
  have e3 : chars (" " : Str) = [32] := rfl
  rw [e3] at e2
  rw [slice_drop x (by decide)]
  refine ⟨(chars x).drop 1, ?_, rfl⟩
  conv => lhs; rw [← List.take_append_drop 1 (chars x)]
  have e4 : (chars x).take 1 = [32] := e2
  rw [e4]
  rfl
theorem first_no {x : Str} (h : (Txt.slice x none (some 1) == (" " : Str)) = false) : ∀ l, chars x ≠ 32 :: l := by
  intro l e
  have : Txt.slice x none (some 1) = (" " : Str) := by
    refine str_eq_of_chars ?_
    rw [slice_take x (by decide), e]
    rfl
  simp [this] at h
section
variable {w : World} {A : Around} {E : Value → Shared → Prop} {s₁ : Shared} {env : Env} {h₀ : Heap} {L : Addr} {m : Str → Option Value}
noncomputable def StopH (p : Prop) : Prop := p
theorem stopH {p : Prop} (h : StopH p) : p := h
theorem upd2 {name : Str} {v kv : Option Value} {m : Str → Option Value} : (fun z => if z = name then v else (fun z => if z = name then kv else m z) z) = fun z => if z = name then v else m z := by
  funext z; by_cases h : z = name <;> simp [h]
/-- behind a turn of a while over one text -/
noncomputable def TxtGo (h₀ : Heap) (L : Addr) (m : Str → Option Value) (name : Str) (news : Led) (P : Str → Prop) (y : Str) (s₁ : Shared) (Q : Flow → Shared → Prop) (f : Flow) (s' : Shared) : Prop :=
  match f with
  | .next => ∃ y' u' h' tk', s' = { s₁ with heap := h', toks := tk' } ∧ y'.length < y.length ∧ P y' ∧ Fr h₀ L h' (fun z => if z = name then some (.str y' u') else m z) ∧ News h₀ L h' news
  | .cont => False
  | .brk => Q .next s'
  | .ret v => Q (.ret v) s'
/-- a while that turns one text, which grows shorter -/
theorem while_txt {name : Str} {test : PySem.Expr} {body : List Stmt} {pos : Pos} {Q : Flow → Shared → Prop} {news : Led} (P : Str → Prop) {x : Str} {t : Tok}
    (F : Fr h₀ L s₁.heap m) (N : News h₀ L s₁.heap news) (hm : m name = some (.str x t)) (h0 : P x) (hE : PassesOwn (model pg w) A env E)
    (turn : ∀ y u h tk, P y → Fr h₀ L h (fun z => if z = name then some (.str y u) else m z) → News h₀ L h news →
      wpAny (model pg w) A (isTrue test env (eval test env)) (fun b s₂ => WhlIf b (wpAny (model pg w) A (execs body env) (TxtGo h₀ L m name news P y s₁ Q) E s₂) (wpAny (model pg w) A (execs [] env) Q E s₂)) E { s₁ with heap := h, toks := tk }) :
    wpAny (model pg w) A (exec (.While test body [] pos) env) Q E s₁ := by
  have key : ∀ n y u h tk, y.length ≤ n → P y → Fr h₀ L h (fun z => if z = name then some (.str y u) else m z) → News h₀ L h news → WhlRest pg w A E env test body [] Q 0 { s₁ with heap := h, toks := tk } := by
    intro n
    induction n with
    | zero =>
      intro y u h tk hy hP F' N'
      refine whl_turn (k := 0) hE (wpAny_mono (turn y u h tk hP F' N') (fun b s₂ hb => ?_) fun _ _ e => e)
      unfold WhlIf at hb ⊢
      split
      · rename_i hb'
        rw [if_pos hb'] at hb
        refine wpAny_mono hb (fun f s₃ hf => ?_) fun _ _ e => e
        cases f with
        | next => obtain ⟨y', u', h', tk', e, hl, _⟩ := hf; omega
        | cont => exact hf.elim
        | brk => exact hf
        | ret v => exact hf
      · rename_i hb'
        rw [if_neg hb'] at hb
        exact hb
    | succ n ih =>
      intro y u h tk hy hP F' N'
      refine whl_turn (k := 0) hE (wpAny_mono (turn y u h tk hP F' N') (fun b s₂ hb => ?_) fun _ _ e => e)
      unfold WhlIf at hb ⊢
      split
      · rename_i hb'
        rw [if_pos hb'] at hb
        refine wpAny_mono hb (fun f s₃ hf => ?_) fun _ _ e => e
        cases f with
        | next =>
          obtain ⟨y', u', h', tk', e, hl, hP', F'', N''⟩ := hf
          subst e
          exact ih y' u' h' tk' (by omega) hP' F'' N''
        | cont => exact hf.elim
        | brk => exact hf
        | ret v => exact hf
      · rename_i hb'
        rw [if_neg hb'] at hb
        exact hb
  refine whl_start 0 ?_
  have e : (fun z => if z = name then some (.str x t) else m z) = m := by funext z; by_cases h : z = name <;> simp [h, hm]
  have := key x.length x t s₁.heap s₁.toks (Nat.le_refl _) h0 (by rw [e]; exact F) N
  exact this
theorem TxtGo.intro {name : Str} {Q : Flow → Shared → Prop} {news : Led} {P : Str → Prop} {y y' : Str} {u' : Tok} {h' : Heap} {tk' : Nat} {m' : Str → Option Value} (F : Fr h₀ L h' m') (N : News h₀ L h' news) (hl : y'.length < y.length) (hP : P y') (e : m' = fun z => if z = name then some (.str y' u') else m z) :
    TxtGo h₀ L m name news P y s₁ Q .next { s₁ with heap := h', toks := tk' } := by
  subst e
  exact ⟨_, _, _, _, rfl, hl, hP, F, N⟩
end
section
local macro_rules | `(tactic| walk_at "none0") => `(tactic| fail)
local macro_rules | `(tactic| walk_at "none1") => `(tactic| fail)
local macro_rules | `(tactic| walk_at "none2") => `(tactic| fail)
local macro_rules | `(tactic| walk_at "none3") => `(tactic| fail)
local macro_rules | `(tactic| cell_enter) => `(tactic| walk_at "enterP")
local macro_rules | `(tactic| walk_at "exec") => `(tactic| ((with_reducible show wpAny _ _ (exec (Stmt.While _ _ _ _) _) _ _ _); refine stopH ?_))
set_option maxHeartbeats 1000000 in
theorem bare_ok (w : World) (news : Led) (x : Str) (t : Tok) (hx : x.length ≤ 1000) :
    Cn w 246 1 20 [.str x t] news (fun v new => (∃ y t', v = .str y t' ∧ chars y = headS (tailS (chars x))) ∧ new = news) := by
  unfold Cn
  intro mean mg mb dp un gd cn cs a ccd cl outer A₀ base h₀ L m s Q E B F X N T hk hdp hun hret
  w_top off
  refine wpAny_call ?_
  k_dflt cell_enter
  k_steps
  unfold StopH
  refine' while_txt (name := "text") (fun y => tailS (chars y) = tailS (chars x) ∧ y.length ≤ 1000) ?F9q ?N9q ?hm9q ?h09q ?hE9q ?_
  case F9q => k_asm
  case N9q => k_asm
  case hm9q => rfl
  case h09q => exact ⟨rfl, by assumption⟩
  case hE9q => first | passes_own | with_unfolding_all passes_own
  intro y u h9 tk9 hP9 F9 N9
  k_steps
  cases hb : (Txt.slice y (some (-1)) none == (" " : Str)) with
  | true =>
    obtain ⟨l, e1, e2⟩ := last_yes hb
    refine WhlIf.yes rfl ?_
    k_steps
    refine' TxtGo.intro ?F9q ?N9q ?hl9q ⟨?hA9q, ?hB9q⟩ ?e9q
    case F9q => k_asm
    case N9q => k_asm
    case e9q => exact upd2
    case hl9q =>
      rw [← chars_len, ← chars_len, e1, e2]; simp
    case hA9q => rw [← hP9.1, e1, e2, tailS_more]
    case hB9q =>
      have := hP9.2
      rw [← chars_len] at this ⊢
      rw [e1] at this
      rw [e2]
      simp at this
      omega
  | false =>
    have e1 := tailS_stop (last_no hb)
    refine WhlIf.no rfl ?_
    k_steps
    unfold StopH
    refine' while_txt (name := "text") (fun y => headS (chars y) = headS (tailS (chars x)) ∧ y.length ≤ 1000) ?F9q ?N9q ?hm9q ?h09q ?hE9q ?_
    case F9q => k_asm
    case N9q => k_asm
    case hm9q => rfl
    case h09q => exact ⟨by rw [← hP9.1, e1], hP9.2⟩
    case hE9q => first | passes_own | with_unfolding_all passes_own
    intro y u h9 tk9 hP9 F9 N9
    k_steps
    cases hb : (Txt.slice y none (some 1) == (" " : Str)) with
    | true =>
      obtain ⟨l, e1, e2⟩ := first_yes hb
      refine WhlIf.yes rfl ?_
      k_steps
      refine' TxtGo.intro ?F9q ?N9q ?hl9q ⟨?hA9q, ?hB9q⟩ ?e9q
      case F9q => k_asm
      case N9q => k_asm
      case e9q => exact upd2
      case hl9q => rw [← chars_len, ← chars_len, e1, e2]; simp
      case hA9q => rw [← hP9.1, e1, e2, headS_more]
      case hB9q =>
        have := hP9.2
        rw [← chars_len] at this ⊢
        rw [e1] at this
        rw [e2]
        simp at this
        omega
    | false =>
      have e1 := headS_stop (first_no hb)
      refine WhlIf.no rfl ?_
      k_steps
      exact hret _ _ _ _ ⟨⟨_, _, rfl, by rw [← hP9.1, e1]⟩, rfl⟩ (by k_asm) (by k_asm)
end
end Mine
end
section
open PySem PySem.W PyProof.Rows PySem.Calls PySem.Builtin PySem.Builtin.Str
set_option maxRecDepth 100000
namespace Mine
section
open PySem.Calls LCg LCt
variable {w : World} {A : Around} {E : Value → Shared → Prop} {s : Shared} {env : Env} {h₀ : Heap} {L : Addr} {m : Str → Option Value}
theorem Assign_ListComp_WT {ct elt iter : Expr} {x y : Str} {px py : Pos} {scope : Scope} {cl : List (Str × Addr)} {pos spos : Pos} {Q : Flow → Shared → Prop} (F₀ : Fr h₀ L s.heap m) (hLe : env.locals = L)
    (hsw : swapsWith (.ListComp elt [⟨.Name x px, iter, [ct], 0⟩] scope pos) (some (.Name y py)) spos.line env = pure true)
    (hclos : closureFor scope env = pure cl) (hcell : ∀ z ∈ scope.names, z.2 ≠ .cell) (hkind : scope.kind = .function)
    (hnames : ∀ z ∈ scope.names, z.2 = .local → scope.names.lookup z.1 = some .local) (hx : scope.names.lookup x = some .local)
    (hy : env.kindOf y = some .local) (hp : (env.scope.kind == .class || (env.scope.kind == .module && env.locals != env.globals)) = false)
    (h : wpAny (model pg w) A (eval iter env) (CompWT w A h₀ L m env ct elt x scope cl (fun s₂ => FinA h₀ L m s₂ y Q)) E s)
    (hs : ∀ x, foldedSetIterable iter env x = pure x := by intro _; rfl) :
    wpAny (model pg w) A (exec (.Assign [.Name y py] (.ListComp elt [⟨.Name x px, iter, [ct], 0⟩] scope pos) spos) env) Q E s := by
  subst hLe
  rw [exec_Assign_Name_used _ _ _ _ hsw]
  refine wpAny_bind (wpAny_standAt (wpAny_bind ?_))
  show wpAny _ A (do let _ ← comprehension (.ListComp elt [⟨.Name x px, iter, [ct], 0⟩] scope pos) scope env _ (newList []) false (eval iter env) (some (assign (.Name y py) env))) _ _ s
  refine wpAny_bind (wpAny_mono (wpAny_comprehension_free (use := some (assign (.Name y py) env)) (Q := fun _ s' => Q .next s') rfl hs hclos hkind hnames
    (wpAny_mono h (fun xv s₁ h₁ => ?_) fun _ _ e => e)) (fun _ s' hq => wpAny_pure (wpAny_pure hq)) fun _ _ e => e)
  obtain ⟨n, P, S, news, hsrc, F, N, hsz, hS, R⟩ := h₁
  refine hsrc _ _ fun o fp St W hfp hIo hSt st => ?_
  refine block_T W hsz hIo hSt hcell hkind hx st hfp
      (F.keeps fun _ _ e => Heap.get?_push_of_some _ e) (N.grown fun _ _ e => Heap.get?_push_of_some _ e) (Nat.ne_of_lt F.ns.lt) (next_is_new F) (fun p hp => Nat.ne_of_lt (Heap.lt_size (N p hp).1)) hS (R _ ⟨_, rfl⟩) ?_
  intro D C h' tk m' ys news' F' N' o1 hn hC₀ hD₀ hCL hDL hCD offC fin
  show wpAny _ A (assign (.Name y py) env (.ref D)) _ _ _
  refine wpAny_assign_Name (wpAny_storeName_local hy F'.ns (fun h₂ hn₂ hs₂ => ?_) hp)
  have hL₀ : h₀.get? env.locals = none := Heap.get?_none_of_le F'.above
  have F₂ : Fr h₀ env.locals h₂ (fun z => if z = y then some (.ref D) else m z) := ⟨hn₂, fun b o e => hs₂.extBut b o (fun q => by rw [q, hL₀] at e; cases e) (F'.keep b o e), F'.above⟩
  refine ⟨m', hn.sameBut hs₂ hCL, fun h'' hs'' => fin D h'' _ (F₂.change hs'' hCL hC₀) (fun p hp => ?_) o1⟩
  have z : h₂.get? p.1 = some p.2 := hs₂.extBut _ _ (N' p hp).2.1 (N' p hp).1
  refine ⟨hs''.extBut _ _ ?_ z, (N' p hp).2⟩
  rcases List.mem_cons.mp hp with rfl | hp
  · exact Ne.symm hCD
  · exact offC p hp
end
section
open PyProof.V PySem.Spec PySem.SeqAt
theorem readsAll_strs {h : Heap} : ∀ {vs : List Value} {ns : List Str}, StrsAre vs ns → ReadsAll h vs (ns.map PyData.str) []
  | _, _, .nil => .nil
  | _, _, .cons k t r => by
    have := ReadsAll.cons (Reads.str (h := h) k t) (readsAll_strs (h := h) r)
    simpa using this
theorem reads_strs {h : Heap} {a : Addr} {vs : List Value} {ns : List Str} (hl : h.IsList a vs.toArray) (hi : StrsAre vs ns) : Reads h (.ref a) (.list (ns.map PyData.str)) [a] := by
  obtain ⟨o, ho, hc, n, hd⟩ := hl
  exact Reads.list ho hc hd (by simpa using readsAll_strs hi)
theorem canLayAll0_strs : ∀ {ns : List Str}, (∀ n ∈ ns, PyData.strOk n = true) → PyData.canLayAll0 (ns.map PyData.str) = true
  | [], _ => by simp [PyData.canLayAll0]
  | n :: r, h => by simp [PyData.canLayAll0, PyData.canLay0, canLayAll0_strs fun n hn => h n (List.mem_cons_of_mem _ hn), h n List.mem_cons_self]
theorem depthAll_strs : ∀ ns : List Str, PyData.depthAll (ns.map PyData.str) ≤ 1
  | [] => by simp [PyData.depthAll]
  | n :: r => by
    have := depthAll_strs r
    simp only [List.map_cons, PyData.depthAll, PyData.depth]
    omega
theorem shaped_strs {ns : List Str} (hok : ∀ n ∈ ns, PyData.strOk n = true) : shaped (.list (ns.map PyData.str)) = true := by
  have h1 := depthAll_strs ns
  have h2 : PyData.depth (.list (ns.map PyData.str)) ≤ 64 := by simp only [PyData.depth]; omega
  show (PyData.canLay0 (.list (ns.map PyData.str)) && decide (PyData.depth (.list (ns.map PyData.str)) ≤ 64)) = true
  rw [Bool.and_eq_true]
  exact ⟨by simp only [PyData.canLay0]; exact canLayAll0_strs hok, decide_eq_true h2⟩
theorem ne_strs_nil {w : World} {A : Around} {E : Value → Shared → Prop} {s : Shared} {a b : Addr} {vs : List Value} {ns : List Str} {Q : Value → Shared → Prop} (hne : vs ≠ []) (hok : ∀ n ∈ ns, PyData.strOk n = true) (hl : s.heap.IsList a vs.toArray) (hi : StrsAre vs ns) (hl' : s.heap.IsList b #[]) (hu : A.units + 64 < cLine)
    (h : Q (.bool true) s) : wpAny (model pg w) A (compareOp .NotEq (.ref a) (.ref b)) Q E s :=
  ne_dataH_same (reads_strs hl hi) (reads_strs (vs := []) (ns := []) hl' .nil) (shaped_strs hok) (shaped_strs (ns := []) (fun _ hn => absurd hn List.not_mem_nil)) hu
    (by cases ns <;> simp [noMix, noMixAll]) (by cases hi with
      | nil => exact absurd rfl hne
      | cons => simpa [PySem.Spec.same, PySem.Spec.sameAll] using h)
end
theorem all2_nil {α : Type} {R : α → Value → Prop} : ∀ {l : List α}, All2 R l [] → l = []
  | [], _ => rfl
theorem all2_cons {α : Type} {R : α → Value → Prop} {z : Value} {zs : List Value} : ∀ {l : List α}, All2 R l (z :: zs) → l ≠ []
  | _ :: _, _ => List.cons_ne_nil _ _
theorem chars_append (x y : Str) : chars (x ++ y) = chars x ++ chars y := by
  show (x.cps ++ y.cps).toList = _
  simp [chars]
theorem ok_signs {l : List Nat} {p : Nat → Bool} (h : ∀ c ∈ l, c < 0x110000) : ∀ n ∈ (l.filter p).map (fun c => (⟨#[c]⟩ : Str)), PyData.strOk n = true := by
  intro n hn
  obtain ⟨c, hc, rfl⟩ := List.mem_map.mp hn
  have := h c (List.mem_filter.mp hc).1
  simp [PyData.strOk, this]
theorem slice_take_nat (x : Str) (k : Nat) : chars (Txt.slice x none (some (k : Int))) = (chars x).take k := by
  rw [slice_take x (by omega)]; rfl
theorem slice_drop_nat (x : Str) (k : Nat) : chars (Txt.slice x (some ((k : Int) + 1)) none) = (chars x).drop (k + 1) := by
  rw [slice_drop x (by omega)]; rfl
theorem good_occ (c : Nat) : (!!List.isEmpty (occurrences "ABCDEFGHIJKLMNOPQRSTUVWXYZ0123456789 !#$%&'()-@^_`{}~" (Str.mk #[c]) 0 (Str.length "ABCDEFGHIJKLMNOPQRSTUVWXYZ0123456789 !#$%&'()-@^_`{}~") 1)) = !List.contains goodL c := by
  rw [StrLaws.found_one]
  simp [goodL]
theorem item_dot {x : Str} {k : Nat} (hk : k < x.length) : (Txt.item x (k : Int) == (".": Str)) = ((chars x)[k]? == some 46) := by
  obtain ⟨n, h1, h2⟩ := item_at (x := x) (j := (k : Int)) (by omega) (by omega)
  rw [h2]
  have e : (chars x)[k]? = some n := by simpa [chars] using h1
  rw [e]
  have e3 : ("." : Str) = ⟨#[46]⟩ := rfl
  rw [e3]
  by_cases h : n = 46
  · subst h; rfl
  · have a : ((⟨#[n]⟩ : Str) == ⟨#[46]⟩) = false := by simp [h]
    rw [a]; simp [h]
theorem ne_one_nil {w : World} {A : Around} {E : Value → Shared → Prop} {s : Shared} {a b : Addr} {k : Int} {u : Tok} {Q : Value → Shared → Prop} (hl : s.heap.IsList a [Value.int k u].toArray) (hl' : s.heap.IsList b #[]) (hu : A.units + 64 < cLine)
    (h : Q (.bool true) s) : wpAny (model pg w) A (compareOp .NotEq (.ref a) (.ref b)) Q E s :=
  ne_intsK (us := []) (ms := []) hl (.cons k u .nil) hl' .nil hu (by simpa using h)
theorem len_two {w : World} {A : Around} {E : Value → Shared → Prop} {s : Shared} {l : Addr} {v1 v2 : Value} {zs : List Value} {Q : Value → Shared → Prop} (hl : s.heap.IsList l (v1 :: v2 :: zs).toArray) (hz : zs.length ≤ 100)
    (h : ∀ n : Int, 1 < n → n ≤ 200 → Q (.int n (s.toks + 1)) { s with toks := s.toks + 1 + 1 }) : wpAny (model pg w) A (call (.builtin "len") [.ref l]) Q E s :=
  len_list hl (by simp; omega) (h _ (by simp; omega) (by simp; omega))
theorem item_one {w : World} {A : Around} {E : Value → Shared → Prop} {s : Shared} {value slice : PySem.Expr} {l : Addr} {v : Value} {u : Tok} {Q : Value → Shared → Prop} (hl : s.heap.IsList l [v].toArray) (h : Q v s)
    (hs : subscripted slice false (.ref l) (.int 0 u) = operate [.ref l, .int 0 u] (getItem (.ref l) (.int 0 u)) := by with_unfolding_all rfl) : wpAny (model pg w) A (subscriptTail value slice (.ref l) (.int 0 u)) Q E s :=
  tail_any hl.typeIs slot_list_getitem.lookup (wpAny_getItem_list hl (by decide) (by decide) (by rfl) h) hs
theorem all2_len {α : Type} {R : α → Value → Prop} : ∀ {l : List α} {k : List Value}, All2 R l k → l.length = k.length
  | _, _, .nil => rfl
  | _, _, .cons _ h => by simp [all2_len h]
theorem dotsL_len (l : List Nat) : (dotsL l).length ≤ l.length := by
  have := List.length_filter_le (fun k => l[k]? == some 46) (List.range l.length)
  rwa [List.length_range] at this
section
local macro_rules | `(tactic| walk_at "call ref") => `(tactic| ((walk_at "cn"; k_dflt (apply bare_ok); omega; walk_at "cr"; intro v' new' h' tk' r' F' N'; obtain ⟨⟨y', t', e1, hy'⟩, e2⟩ := r'; subst e1; subst e2)))
local macro_rules | `(tactic| walk_at "exec Assign cons ListComp") => `(tactic| (k_dflt (refine Assign_ListComp_WT (F₀ := by k_asm) (by rfl) (by with_unfolding_all rfl) (by with_unfolding_all rfl) (by decide) (by rfl) (by decide) (by rfl) (by rfl) (by rfl) ?_)))
local macro_rules | `(tactic| walk_at "eval ListComp") => `(tactic| (k_dflt (refine ListComp_WT (F₀ := by k_asm) (by with_unfolding_all rfl) (by decide) (by rfl) (by decide) (by rfl) ?_)))
local macro_rules | `(tactic| walk_at "compareOp NotEq ref ref") => `(tactic| (first
  | (k_dflt (refine' ne_one_nil (News.isList ?N ?m1) (News.isList ?N ?m2) ?u ?_; (case N => k_asm); (case m1 | m2 => k_mem); (case u => units_room); k_whole))
  | (k_dflt (refine' ne_strs_nil ?ne ?ok (News.isList ?N ?m1) ?hS (News.isList ?N ?m2) ?u ?_; (case hS | ok => with_reducible assumption); (case ne => exact List.cons_ne_nil _ _); (case N => k_asm); (case m1 | m2 => k_mem); (case u => units_room); k_whole))))
local macro_rules | `(tactic| walk_at "subscriptTail Name Constant ref int") => `(tactic| (k_dflt (refine' item_one (News.isList ?N ?m) ?_; (case N => k_asm); (case m => k_mem); k_whole)))
local macro_rules | `(tactic| walk_at "call builtin:len") => `(tactic| ((with_reducible show wpAny _ _ (call _ [Value.ref _]) _ _ _); k_dflt (refine' len_two (News.isList ?N ?m) ?z ?_; (case N => k_asm); (case m => k_mem); (case z => assumption); k_whole); intro n' hn1' hn2'))
set_option maxHeartbeats 1000000 in
theorem parts_ok (w : World) (news : Led) (x : Str) (t : Tok) (hx : x.length ≤ 100) (hok : ∀ c ∈ chars x, c < 0x110000) :
    Cn w 251 2 200 [.str x t] news (fun v new => (v = .none ∧ new = news ∧ partsL (chars x) = none) ∨ ∃ D b tb c tc, v = .ref D ∧ new = (D, listOf #[.str b tb, .str c tc] 0) :: news ∧ partsL (chars x) = some (chars b, chars c)) := by
  unfold Cn
  intro mean mg mb dp un gd cn cs a ccd cl outer A₀ base h₀ L m s Q E B F X N T hk hdp hun hret
  w_top off
  refine wpAny_call ?_
  k_dflt (refine' code_defC ?k1 ?k2 ?k3 ?k4 ?k5 ?kA ?kF ?kK ?k6 ?k7 ?k8 ?k9 ?kB ?kD ?_ ?c2 ?c3 ?c4; (case kA => exact rfl); (case kF => exact rfl); (case kK => assumption); (case k1 => k_asm); (case k2 => k_asm); (case k3 => k_asm); (case k4 => k_asm); (case k5 => k_asm); (case k6 => k_is); (case k7 => k_is); (case k8 => ktr_room); (case k9 => exact BindsTo.of_eq rfl); (case kB => exact rfl); (case kD => decide +kernel); (case c2 => exact rfl); (case c3 => exact rfl); (case c4 => exact rfl); k_whole; intro g' L' h' tk' cells' FG' F' N' Y' B' X' T' l1; (try k_lt l1); k_cells Y'; (try simp only [List.cons_append, List.nil_append] at N'); (try dsimp only); (try k_lift B'); (try k_fold))
  k_steps
  refine ⟨_, _, _, _, srcW_range rfl (by k_asm) (by assumption) (by decide) (by decide) (by omega) (by omega), by k_asm, by k_asm, (by rw [sizeLine_eq]; omega), trivial, ?_⟩
  rintro s₂ ⟨g, rfl⟩
  have hn : ((x.length : Int) - 0).toNat = (List.range (chars x).length).length := by rw [List.length_range, chars_len]; simp
  rw [hn]
  refine cr_filter (List.range (chars x).length) (fun k v => ∃ u, v = .int ((k : Nat) : Int) u) (fun k => (chars x)[k]? == some 46) (fun k v => ∃ u, v = .int ((k : Nat) : Int) u) ?_ ?_ ?_
  · rintro i v ⟨hi, u, rfl⟩
    refine ⟨i, ?_, u, by simp⟩
    rw [List.getElem?_range (by simpa using hi)]
  · rintro k v I oI C oC D m₂ zs h tk E' ha ⟨u, rfl⟩ hC hx9 F9 N9 off9 ne9
    have hk : k < x.length := by rw [← chars_len]; exact List.mem_range.mp ha
    k_steps
    · exact item_dot hk
    · exact ⟨_, _, _, rfl, by k_asm, by k_asm, by k_asm, trivial, rfl, _, rfl⟩
    · exact ⟨_, _, _, rfl, by k_asm, by k_asm, by k_asm, trivial, rfl⟩
  · intro zs hzs
    have hds : (List.range (chars x).length).filter (fun k => (chars x)[k]? == some 46) = dotsL (chars x) := rfl
    rw [hds] at hzs
    cases hdd : dotsL (chars x) with
    | nil =>
      rw [hdd] at hzs
      cases hzs
      have hp : partsL (chars x) = partsAt (chars x) x.length := by
        rw [partsL_at (by rw [hdd]; simp), hdd, ← chars_len]; rfl
      k_steps
      · refine hret _ _ _ _ (.inl ⟨rfl, rfl, ?_⟩) (by k_asm) (cb_drop (by assumption) fun p hp => by repeat first | with_reducible exact hp | with_reducible refine List.mem_cons_of_mem _ ?_)
        rw [hp]
        refine partsAt_no (.inl ?_)
        rw [← slice_take_nat, chars_len]; omega
      · refine hret _ _ _ _ (.inl ⟨rfl, rfl, ?_⟩) (by k_asm) (cb_drop (by assumption) fun p hp => by repeat first | with_reducible exact hp | with_reducible refine List.mem_cons_of_mem _ ?_)
        rw [hp]
        refine partsAt_no (.inr (.inl ?_))
        rw [← slice_drop_nat, chars_len]; omega
      refine ⟨_, _, _, _, srcW_str rfl _ _ _, by k_asm, by k_asm, ?hsz9q, trivial, ?_⟩
      case hsz9q =>
        have hz : (Txt.slice x none (some (x.length : Int)) ++ Txt.slice x (some ((x.length : Int) + 1)) none).length ≤ 300 := by omega
        rw [sizeLine_eq]
        exact Nat.le_trans hz (by decide)
      rintro s₂ ⟨g, rfl⟩
      refine cr_filter (chars (Txt.slice x none (some (x.length : Int)) ++ Txt.slice x (some ((x.length : Int) + 1)) none)) (fun c v => ∃ u, v = .str ⟨#[c]⟩ u) (fun c => !goodL.contains c) (fun c v => ∃ u, v = .str ⟨#[c]⟩ u) ?_ ?_ ?_
      · rintro i v ⟨c, u, h1, rfl⟩
        exact ⟨c, by simpa [chars] using h1, u, rfl⟩
      · rintro c v I oI C oC D m₂ zs h tk E' ha ⟨u, rfl⟩ hC hx9 F9 N9 off9 ne9
        k_steps
        · exact good_occ c
        · exact ⟨_, _, _, rfl, by k_asm, by k_asm, by k_asm, trivial, rfl, _, rfl⟩
        · exact ⟨_, _, _, rfl, by k_asm, by k_asm, by k_asm, trivial, rfl⟩
      · intro zs hzs
        cases zs with
        | nil =>
          k_steps
          refine hret _ _ _ _ (.inr ⟨_, _, _, _, _, rfl, rfl, ?_⟩) (by k_asm) (cb_drop (by assumption) fun p hp => by
            rcases List.mem_cons.mp hp with h | h
            · exact h ▸ List.mem_cons_self
            · repeat first | with_reducible exact h | with_reducible refine List.mem_cons_of_mem _ ?_)
          have hz := all2_nil hzs
          rw [chars_append, slice_take_nat, slice_drop_nat] at hz
          rw [hp, partsAt_yes (by rw [← slice_take_nat, chars_len]; omega) (by rw [← slice_drop_nat, chars_len]; omega) hz, ← slice_take_nat, ← slice_drop_nat]
          exact congrArg some (Prod.ext (Eq.symm (by assumption)) (Eq.symm (by assumption)))
        | cons z zs =>
          have hS := all2_strs (f := fun c => (⟨#[c]⟩ : Str)) hzs
          have hOk : ∀ n ∈ ((chars (Txt.slice x none (some (x.length : Int)) ++ Txt.slice x (some ((x.length : Int) + 1)) none)).filter fun c => !goodL.contains c).map (fun c => (⟨#[c]⟩ : Str)), PyData.strOk n = true := by
            refine ok_signs fun c hc => ?_
            rw [chars_append, slice_take_nat, slice_drop_nat] at hc
            rcases List.mem_append.mp hc with h | h
            · exact hok c (List.mem_of_mem_take h)
            · exact hok c (List.mem_of_mem_drop h)
          k_steps
          refine hret _ _ _ _ (.inl ⟨rfl, rfl, ?_⟩) (by k_asm) (cb_drop (by assumption) fun p hp => by repeat first | with_reducible exact hp | with_reducible refine List.mem_cons_of_mem _ ?_)
          rw [hp]
          refine partsAt_no (.inr (.inr ?_))
          have hz := all2_cons hzs
          rw [chars_append, slice_take_nat, slice_drop_nat] at hz
          exact hz
    | cons k ds =>
      rw [hdd] at hzs
      obtain _ | ⟨⟨u, rfl⟩, hzs⟩ := hzs
      cases ds with
      | nil =>
        cases hzs
        have hp : (k : Int) ≠ 0 → partsL (chars x) = partsAt (chars x) k := fun h0 => by
          rw [partsL_at (by rw [hdd]; simp; omega), hdd]; rfl
        k_steps
        · refine hret _ _ _ _ (.inl ⟨rfl, rfl, ?_⟩) (by k_asm) (cb_drop (by assumption) fun p hp => by repeat first | with_reducible exact hp | with_reducible refine List.mem_cons_of_mem _ ?_)
          have h0 := (by assumption : [(k : Int)] = [0])
          have h1 : k = 0 := by simpa using h0
          unfold partsL
          rw [if_pos (.inr (by rw [hdd, h1]))]
        all_goals (have hk0 : (k : Int) ≠ 0 := fun h0 => absurd (by rw [h0]) (by assumption : ¬ [(k : Int)] = [0]))
        all_goals replace hp := hp hk0
        · refine hret _ _ _ _ (.inl ⟨rfl, rfl, ?_⟩) (by k_asm) (cb_drop (by assumption) fun p hp => by repeat first | with_reducible exact hp | with_reducible refine List.mem_cons_of_mem _ ?_)
          rw [hp]
          refine partsAt_no (.inl ?_)
          rw [← slice_take_nat, chars_len]; omega
        · refine hret _ _ _ _ (.inl ⟨rfl, rfl, ?_⟩) (by k_asm) (cb_drop (by assumption) fun p hp => by repeat first | with_reducible exact hp | with_reducible refine List.mem_cons_of_mem _ ?_)
          rw [hp]
          refine partsAt_no (.inr (.inl ?_))
          rw [← slice_drop_nat, chars_len]; omega
        refine ⟨_, _, _, _, srcW_str rfl _ _ _, by k_asm, by k_asm, ?hsz9q, trivial, ?_⟩
        case hsz9q =>
          have hz : (Txt.slice x none (some (k : Int)) ++ Txt.slice x (some ((k : Int) + 1)) none).length ≤ 300 := by omega
          rw [sizeLine_eq]
          exact Nat.le_trans hz (by decide)
        rintro s₂ ⟨g, rfl⟩
        refine cr_filter (chars (Txt.slice x none (some (k : Int)) ++ Txt.slice x (some ((k : Int) + 1)) none)) (fun c v => ∃ u, v = .str ⟨#[c]⟩ u) (fun c => !goodL.contains c) (fun c v => ∃ u, v = .str ⟨#[c]⟩ u) ?_ ?_ ?_
        · rintro i v ⟨c, u, h1, rfl⟩
          exact ⟨c, by simpa [chars] using h1, u, rfl⟩
        · rintro c v I oI C oC D m₂ zs h tk E' ha ⟨u, rfl⟩ hC hx9 F9 N9 off9 ne9
          k_steps
          · exact good_occ c
          · exact ⟨_, _, _, rfl, by k_asm, by k_asm, by k_asm, trivial, rfl, _, rfl⟩
          · exact ⟨_, _, _, rfl, by k_asm, by k_asm, by k_asm, trivial, rfl⟩
        · intro zs hzs
          cases zs with
          | nil =>
            k_steps
            refine hret _ _ _ _ (.inr ⟨_, _, _, _, _, rfl, rfl, ?_⟩) (by k_asm) (cb_drop (by assumption) fun p hp => by
              rcases List.mem_cons.mp hp with h | h
              · exact h ▸ List.mem_cons_self
              · repeat first | with_reducible exact h | with_reducible refine List.mem_cons_of_mem _ ?_)
            have hz := all2_nil hzs
            rw [chars_append, slice_take_nat, slice_drop_nat] at hz
            rw [hp, partsAt_yes (by rw [← slice_take_nat, chars_len]; omega) (by rw [← slice_drop_nat, chars_len]; omega) hz, ← slice_take_nat, ← slice_drop_nat]
            exact congrArg some (Prod.ext (Eq.symm (by assumption)) (Eq.symm (by assumption)))
          | cons z zs =>
            have hS := all2_strs (f := fun c => (⟨#[c]⟩ : Str)) hzs
            have hOk : ∀ n ∈ ((chars (Txt.slice x none (some (k : Int)) ++ Txt.slice x (some ((k : Int) + 1)) none)).filter fun c => !goodL.contains c).map (fun c => (⟨#[c]⟩ : Str)), PyData.strOk n = true := by
              refine ok_signs fun c hc => ?_
              rw [chars_append, slice_take_nat, slice_drop_nat] at hc
              rcases List.mem_append.mp hc with h | h
              · exact hok c (List.mem_of_mem_take h)
              · exact hok c (List.mem_of_mem_drop h)
            k_steps
            refine hret _ _ _ _ (.inl ⟨rfl, rfl, ?_⟩) (by k_asm) (cb_drop (by assumption) fun p hp => by repeat first | with_reducible exact hp | with_reducible refine List.mem_cons_of_mem _ ?_)
            rw [hp]
            refine partsAt_no (.inr (.inr ?_))
            have hz := all2_cons hzs
            rw [chars_append, slice_take_nat, slice_drop_nat] at hz
            exact hz
      | cons k2 ds =>
        obtain _ | ⟨⟨u2, rfl⟩, hzs⟩ := hzs
        have hz3 : (List.length (by assumption : List Value)) ≤ 100 := by
          rw [← all2_len hzs]
          have := dotsL_len (chars x)
          rw [hdd, chars_len] at this
          simp at this
          omega
        k_steps
        refine hret _ _ _ _ (.inl ⟨rfl, rfl, ?_⟩) (by k_asm) (cb_drop (by assumption) fun p hp => by repeat first | with_reducible exact hp | with_reducible refine List.mem_cons_of_mem _ ?_)
        unfold partsL
        rw [if_pos (.inl (by rw [hdd]; simp))]
end
end Mine
end
section
open PySem PySem.W PyProof.Rows PySem.Calls PySem.Builtin PySem.Builtin.Str
set_option maxRecDepth 100000
namespace Mine
theorem dropWhile_nil (p : Nat → Bool) : ∀ l : List Nat, l.dropWhile p = [] ↔ ∀ c ∈ l, p c = true
  | [] => by simp
  | c :: l => by
    rw [List.dropWhile_cons]
    by_cases h : p c = true
    · rw [if_pos h, dropWhile_nil p l]; simp [h]
    · rw [if_neg h]
      constructor
      · intro e; cases e
      · intro e; exact absurd (e c (.head _)) h
theorem chars_sub (x : Str) (i j : Nat) : chars (strSub x i j) = ((chars x).drop i).take (j - i) := by
  simp [chars, strSub]
theorem isSpace_printable : ∀ c, c < 127 → 32 ≤ c → Unicode.isSpace c = (c == 32) := by
  have : ∀ c, c < 127 → (32 ≤ c → Unicode.isSpace c = (c == 32)) := by decide +kernel
  exact this
theorem dropWhile_congr' {p q : Nat → Bool} : ∀ {l : List Nat}, (∀ c ∈ l, p c = q c) → l.dropWhile p = l.dropWhile q
  | [], _ => rfl
  | c :: l, h => by
    rw [List.dropWhile_cons, List.dropWhile_cons, h c (.head _), dropWhile_congr' fun d hd => h d (.tail _ hd)]
theorem drop_takeWhile (p : Nat → Bool) : ∀ l : List Nat, l.drop (l.takeWhile p).length = l.dropWhile p
  | [] => rfl
  | c :: l => by
    rw [List.takeWhile_cons, List.dropWhile_cons]
    by_cases h : p c = true
    · rw [if_pos h, if_pos h]; simpa using drop_takeWhile p l
    · rw [if_neg h, if_neg h]; rfl
theorem take_rev (p : Nat → Bool) (l : List Nat) : l.take (l.length - (l.reverse.takeWhile p).length) = (l.reverse.dropWhile p).reverse := by
  have h := drop_takeWhile p l.reverse
  rw [← h, List.drop_reverse, List.reverse_reverse]
theorem chars_stripBy (goes : Nat → Bool) (l r : Bool) (x : Str) : chars (Txt.stripBy goes l r x) =
    (fun z => if r then (z.reverse.dropWhile goes).reverse else z) (if l then (chars x).dropWhile goes else chars x) := by
  rw [PyProof.Rows.stripBy_eq, chars_sub]
  have hl := chars_len x
  have key : ∀ lo, lo ≤ (chars x).length → ((chars x).drop lo).take (stripHi goes r x lo - lo) = (fun z => if r then (z.reverse.dropWhile goes).reverse else z) ((chars x).drop lo) := by
    intro lo hlo
    cases r
    · show ((chars x).drop lo).take (x.length - lo) = (chars x).drop lo
      rw [List.take_of_length_le (by rw [List.length_drop]; omega)]
    · show ((chars x).drop lo).take (x.length - ((chars x).drop lo |>.reverse.takeWhile goes).length - lo) = _
      have h2 := take_rev goes ((chars x).drop lo)
      rw [List.length_drop] at h2
      rw [← hl]
      have e : (chars x).length - (((chars x).drop lo).reverse.takeWhile goes).length - lo = (chars x).length - lo - (((chars x).drop lo).reverse.takeWhile goes).length := by omega
      rw [e, h2]; rfl
  cases l
  · exact key 0 (Nat.zero_le _)
  · show ((chars x).drop ((chars x).takeWhile goes).length).take _ = _
    have h3 := key ((chars x).takeWhile goes).length (List.Sublist.length_le (List.takeWhile_sublist _))
    rw [drop_takeWhile] at h3 ⊢
    exact h3
noncomputable def Prn (l : List Nat) : Prop := ∀ c ∈ l, 32 ≤ c ∧ c ≤ 126
theorem Prn.space {l : List Nat} (h : Prn l) : ∀ c ∈ l, Unicode.isSpace c = (c == 32) := fun c hc => isSpace_printable c (by have := h c hc; omega) (h c hc).1
theorem Prn.sub {l k : List Nat} (h : Prn l) (hs : ∀ c ∈ k, c ∈ l) : Prn k := fun c hc => h c (hs c hc)
theorem mem_headS {l : List Nat} {c : Nat} (h : c ∈ headS l) : c ∈ l := (List.dropWhile_sublist _).subset h
theorem mem_tailS {l : List Nat} {c : Nat} (h : c ∈ tailS l) : c ∈ l := by
  have := (List.dropWhile_sublist _).subset (List.mem_reverse.mp h)
  exact List.mem_reverse.mp this
theorem chars_rstrip {x : Str} (h : Prn (chars x)) : chars (Txt.rstrip x) = tailS (chars x) := by
  rw [Txt.rstrip, chars_stripBy]
  show ((chars x).reverse.dropWhile _).reverse = _
  rw [dropWhile_congr' (q := (· == 32)) fun c hc => h.space c (List.mem_reverse.mp hc)]; rfl
theorem headS_head {c : Nat} {l : List Nat} (h : c ≠ 32) : headS (c :: l) = c :: l := by
  unfold headS; rw [List.dropWhile_cons, if_neg (by simpa using h)]
/-- a text is blanks, a middle, blanks -/
theorem tailS_append_ne {l k : List Nat} (h : tailS k ≠ []) : tailS (l ++ k) = l ++ tailS k := by
  unfold tailS at h ⊢
  rw [List.reverse_append, List.dropWhile_append]
  have h' : k.reverse.dropWhile (· == 32) ≠ [] := fun e => h (by rw [e]; rfl)
  rw [if_neg (by simpa using h')]
  simp
theorem tailS_nil_iff {k : List Nat} : tailS k = [] ↔ ∀ c ∈ k, c = 32 := by
  unfold tailS
  rw [List.reverse_eq_nil_iff, dropWhile_nil]
  simp
theorem headS_nil_iff {k : List Nat} : headS k = [] ↔ ∀ c ∈ k, c = 32 := by
  unfold headS
  rw [dropWhile_nil]
  simp
theorem tailS_cons_ne {c : Nat} {l : List Nat} (h : c ≠ 32) : tailS (c :: l) = c :: tailS l := by
  by_cases e : tailS l = []
  · rw [e]
    have h1 := tailS_nil_iff.mp e
    unfold tailS
    rw [List.reverse_cons, List.dropWhile_append]
    have e2 : l.reverse.dropWhile (· == 32) = [] := by
      rw [dropWhile_nil]; intro d hd; simpa using h1 d (List.mem_reverse.mp hd)
    rw [e2, if_pos (by rfl), List.dropWhile_cons, if_neg (by simpa using h)]
    rfl
  · exact tailS_append_ne (l := [c]) e
theorem headS_tailS (l : List Nat) : headS (tailS l) = tailS (headS l) := by
  induction l with
  | nil => rfl
  | cons c l ih =>
    by_cases hc : c = 32
    · subst hc
      rw [headS_more, ← ih]
      by_cases e : tailS l = []
      · rw [e, tailS_nil_iff.mpr]
        intro d hd
        rcases List.mem_cons.mp hd with rfl | hd
        · rfl
        · exact tailS_nil_iff.mp e d hd
      · rw [show (32 :: l : List Nat) = [32] ++ l from rfl, tailS_append_ne e]
        exact headS_more _
    · rw [tailS_cons_ne hc, headS_head hc, headS_head hc, tailS_cons_ne hc]
theorem chars_strip {x : Str} (h : Prn (chars x)) : chars (Txt.strip x) = headS (tailS (chars x)) := by
  rw [Txt.strip, chars_stripBy, headS_tailS]
  show (((chars x).dropWhile _).reverse.dropWhile _).reverse = _
  rw [dropWhile_congr' (q := (· == 32)) h.space]
  rw [dropWhile_congr' (q := (· == 32)) fun c hc => h.space c ((List.dropWhile_sublist _).subset (List.mem_reverse.mp hc))]; rfl
theorem chars_ljust {x : Str} {i : Int} {n : Nat} (hi : i = (n : Int)) : chars (Txt.ljust x i) = chars x ++ List.replicate (n - x.length) 32 := by
  subst hi
  unfold Txt.ljust
  split
  · rename_i h
    have : n - x.length = 0 := by omega
    rw [this]; simp
  · simp [padded, chars]
theorem upper_iff {x : Str} (h : Prn (chars x)) : x = Txt.upper x ↔ ∀ c ∈ chars x, ¬ (97 ≤ c ∧ c ≤ 122) := by
  rw [upper_ascii (fun c hc => by have := h c hc; omega)]
  constructor
  · intro e c hc hl
    have e2 : chars x = (chars x).map up1 := by
      have := congrArg chars e
      simpa [chars] using this
    obtain ⟨i, hi, rfl⟩ := List.getElem_of_mem hc
    have e3 : (chars x)[i]? = ((chars x).map up1)[i]? := congrArg (·[i]?) e2
    rw [List.getElem?_map, List.getElem?_eq_getElem hi] at e3
    have e4 : (chars x)[i] = up1 (chars x)[i] := by simpa using e3
    unfold up1 at e4
    rw [if_pos hl] at e4
    omega
  · intro hn
    refine str_eq_of_chars ?_
    show chars x = (x.cps.map up1).toList
    rw [Array.toList_map]
    refine (List.map_congr_left (g := fun c => c) fun c hc => ?_).trans (List.map_id' _) |>.symm
    unfold up1
    rw [if_neg (hn c hc)]
/-- where one sign stands last -/
theorem rfind_spec (x : Str) (c : Nat) : (Txt.rfind x ⟨#[c]⟩ = -1 ∧ ∀ i : Nat, (chars x)[i]? ≠ some c) ∨ ∃ i : Nat, Txt.rfind x ⟨#[c]⟩ = (i : Int) ∧ (chars x)[i]? = some c ∧ ∀ k, i < k → (chars x)[k]? ≠ some c := by
  have hat : ∀ i, StrLaws.At x ⟨#[c]⟩ x.length i ↔ (chars x)[i]? = some c := by
    intro i
    have h1 : (⟨#[c]⟩ : Str).length = 1 := rfl
    unfold StrLaws.At subAt
    rw [h1]
    constructor
    · rintro ⟨hi, he⟩
      have he' : (x.cps.extract i (i + 1)).toList = [c] := by
        have := beq_iff_eq.mp he
        rw [this]
      have hi' : i < x.cps.toList.length := by have : x.cps.toList.length = x.length := chars_len x; omega
      rw [Array.toList_extract, List.extract_eq_take_drop] at he'
      have e0 : i + 1 - i = 1 := by omega
      rw [e0, List.drop_eq_getElem_cons hi'] at he'
      have e1 : x.cps.toList[i] = c := by simpa using he'
      show x.cps.toList[i]? = _
      rw [List.getElem?_eq_getElem hi', e1]
    · intro hc
      obtain ⟨hi, e⟩ := List.getElem?_eq_some_iff.mp hc
      have hi2 : i < x.length := by rw [← chars_len]; exact hi
      refine ⟨by omega, beq_iff_eq.mpr ?_⟩
      apply Array.toList_inj.mp
      show _ = [c]
      rw [Array.toList_extract, List.extract_eq_take_drop]
      have e0 : i + 1 - i = 1 := by omega
      rw [e0]
      rw [List.drop_eq_getElem_cons hi]
      rw [e]; rfl
  rcases rfind_whole x ⟨#[c]⟩ with ⟨h, h2⟩ | ⟨i, h, hi, hk⟩
  · exact .inl ⟨h, fun i e => h2 i ((hat i).mpr e)⟩
  · exact .inr ⟨i, h, (hat i).mp hi, fun k hlt e => hk k hlt ((hat k).mpr e)⟩
end Mine
end
section
open PySem PySem.W PyProof.Rows PySem.Calls PySem.Builtin PySem.Builtin.Str
set_option maxRecDepth 100000
namespace Mine
theorem good_prn : ∀ c, c < 127 → 32 ≤ c → (c ∈ goodL ↔ ¬ (97 ≤ c ∧ c ≤ 122) ∧ c ∉ badL) := by
  have : ∀ c, c < 127 → (32 ≤ c → (c ∈ goodL ↔ ¬ (97 ≤ c ∧ c ≤ 122) ∧ c ∉ badL)) := by decide +kernel
  exact this
theorem good_low : ∀ c ∈ goodL, 32 ≤ c ∧ c ≤ 126 := by decide +kernel
theorem good_no46 : 46 ∉ goodL := by decide
theorem good_no47 : 47 ∉ goodL := by decide
theorem bad46 : 46 ∈ badL := by decide
noncomputable def Good (l : List Nat) : Prop := ∀ c ∈ l, c ∈ goodL
noncomputable def Form (l r e : List Nat) : Prop := Good r ∧ Good e ∧ r.length ≤ 8 ∧ e.length ≤ 3 ∧ ((l = r ∧ e = []) ∨ (l = r ++ 46 :: e ∧ r ≠ []))
theorem good_filter {l : List Nat} : (l.filter fun c => !goodL.contains c) = [] ↔ Good l := by
  rw [List.filter_eq_nil_iff]
  constructor
  · intro h c hc
    have := h c hc
    simpa using this
  · intro h c hc
    have := h c hc
    simpa using this
theorem dotsL_mem {l : List Nat} {k : Nat} : k ∈ dotsL l ↔ l[k]? = some 46 := by
  unfold dotsL
  rw [List.mem_filter, List.mem_range]
  constructor
  · intro h; simpa using h.2
  · intro h
    exact ⟨(List.getElem?_eq_some_iff.mp h).1, by simpa using h⟩
theorem dotsL_sorted (l : List Nat) : (dotsL l).Pairwise (· < ·) := List.Pairwise.filter _ List.pairwise_lt_range
theorem dotsL_none {l : List Nat} (h : 46 ∉ l) : dotsL l = [] := by
  rw [List.eq_nil_iff_forall_not_mem]
  intro k hk
  exact h (List.mem_of_getElem? (dotsL_mem.mp hk))
theorem dotsL_one {r e : List Nat} (hr : 46 ∉ r) (he : 46 ∉ e) : dotsL (r ++ 46 :: e) = [r.length] := by
  have hm : ∀ k, k ∈ dotsL (r ++ 46 :: e) ↔ k = r.length := by
    intro k
    rw [dotsL_mem]
    constructor
    · intro h
      rcases Nat.lt_trichotomy k r.length with hk | hk | hk
      · rw [List.getElem?_append_left hk] at h
        exact absurd (List.mem_of_getElem? h) hr
      · exact hk
      · rw [List.getElem?_append_right (by omega)] at h
        have e1 : k - r.length = (k - r.length - 1) + 1 := by omega
        rw [e1, List.getElem?_cons_succ] at h
        exact absurd (List.mem_of_getElem? h) he
    · rintro rfl
      rw [List.getElem?_append_right (Nat.le_refl _)]
      simp
  have hs := dotsL_sorted (r ++ 46 :: e)
  cases hd : dotsL (r ++ 46 :: e) with
  | nil => exact absurd ((hm r.length).mpr rfl) (by rw [hd]; exact List.not_mem_nil)
  | cons a q =>
    rw [hd] at hm hs
    obtain rfl := (hm a).mp (.head _)
    cases q with
    | nil => rfl
    | cons b q =>
      have hb := (hm b).mp (.tail _ (.head _))
      have := (List.pairwise_cons.mp hs).1 b (.head _)
      omega
theorem dot_split {l : List Nat} {k : Nat} (h : l[k]? = some 46) : l = l.take k ++ 46 :: l.drop (k + 1) := by
  obtain ⟨hk, e⟩ := List.getElem?_eq_some_iff.mp h
  conv => lhs; rw [← List.take_append_drop k l, List.drop_eq_getElem_cons hk, e]
theorem not_dot {l : List Nat} (h : Good l) : 46 ∉ l := fun hm => good_no46 (h 46 hm)
theorem parts_form {l b t : List Nat} : partsL l = some (b, t) ↔ ∃ r e, Form l r e ∧ b = headS (tailS r) ∧ t = headS (tailS e) := by
  constructor
  · intro h
    have hn : ¬ ((dotsL l).length > 1 ∨ dotsL l = [0]) := fun z => by unfold partsL at h; rw [if_pos z] at h; cases h
    rw [partsL_at hn] at h
    unfold partsAt at h
    split at h
    · cases h
    · rename_i hc
      simp only [not_or, Nat.not_lt] at hc
      obtain ⟨h1, h2, h3⟩ := hc
      rw [Decidable.not_not, good_filter] at h3
      have hp := Option.some.inj h
      refine ⟨_, _, ⟨fun c hc => h3 c (List.mem_append_left _ hc), fun c hc => h3 c (List.mem_append_right _ hc), by omega, by omega, ?_⟩, (congrArg Prod.fst hp).symm, (congrArg Prod.snd hp).symm⟩
      cases hd : dotsL l with
      | nil =>
        refine .inl ⟨?_, ?_⟩
        · simp
        · simp
      | cons a q =>
        rw [hd] at hn
        have ha : l[a]? = some 46 := dotsL_mem.mp (by rw [hd]; exact .head _)
        refine .inr ⟨dot_split ha, fun e => hn ?_⟩
        have hlt := (List.getElem?_eq_some_iff.mp ha).1
        simp only [List.headD_cons] at e
        have e2 : a = 0 := by
          have := congrArg List.length e
          rw [List.length_take] at this
          have e3 : min a l.length = 0 := this
          omega
        subst e2
        cases q with
        | nil => exact .inr rfl
        | cons _ _ => exact .inl (by simp)
  · rintro ⟨r, e, ⟨h1, h2, h3, h4, h5⟩, rfl, rfl⟩
    rcases h5 with ⟨rfl, rfl⟩ | ⟨rfl, hne⟩
    · have hd := dotsL_none (not_dot h1)
      rw [partsL_at (by rw [hd]; simp), hd]
      show partsAt l l.length = _
      have e0 : l.drop (l.length + 1) = [] := List.drop_of_length_le (by omega)
      have e1 : l.take l.length = l := List.take_length
      rw [partsAt_yes (by rw [e1]; omega) (by rw [e0]; simp) (by rw [e0, e1, List.append_nil]; exact good_filter.mpr h1), e0, e1]
    · have hd := dotsL_one (not_dot h1) (not_dot h2)
      have hpos : 0 < r.length := List.length_pos_iff.mpr hne
      rw [partsL_at (by rw [hd]; simp; omega), hd]
      show partsAt (r ++ 46 :: e) r.length = _
      have e1 : (r ++ 46 :: e).take r.length = r := by simp
      have e2 : (r ++ 46 :: e).drop (r.length + 1) = e := by
        rw [← List.drop_drop]; simp
      rw [partsAt_yes (by rw [e1]; omega) (by rw [e2]; omega) (by rw [e1, e2]; exact good_filter.mpr fun c hc => (List.mem_append.mp hc).elim (h1 c) (h2 c)), e1, e2]
theorem slice_at_nat (x : Str) (k : Nat) : chars (Txt.slice x (some (k : Int)) none) = (chars x).drop k := by
  rw [slice_drop x (by omega)]; rfl
theorem slice_to_nat (x : Str) (k : Nat) : chars (Txt.slice x none (some (k : Int))) = (chars x).take k := by
  rw [slice_take x (by omega)]; rfl
theorem slice_one (x : Str) : chars (Txt.slice x (some 1) none) = (chars x).drop 1 := slice_at_nat x 1
theorem split_form {x : Str} {r e : List Nat} (h : Form (chars x) r e) : chars (splitR x).1 = r ∧ chars (Txt.slice (splitR x).2 (some 1) none) = e := by
  obtain ⟨h1, h2, h3, h4, h5⟩ := h
  rcases h5 with ⟨h6, h7⟩ | ⟨h6, hne⟩
  · have hr : Txt.rfind x "." = -1 := by
      rcases rfind_spec x 46 with ⟨e, _⟩ | ⟨i, _, hi, _⟩
      · exact e
      · rw [h6] at hi; exact absurd (List.mem_of_getElem? hi) (not_dot h1)
    have hs : splitR x = (x, ("" : Str)) := splitR_miss (fun k hk => by rw [hr] at hk; have := (rfind_one x 47).1; have e47 : ("/" : Str) = ⟨#[47]⟩ := rfl; rw [← e47] at this; omega) (rfind_one x 47).1
    rw [hs]
    exact ⟨h6, by rw [h7, slice_one]; rfl⟩
  · have hpos : 0 < r.length := List.length_pos_iff.mpr hne
    have hd : Txt.rfind x "." = (r.length : Int) := by
      have hmem : r.length ∈ dotsL (chars x) := by rw [h6, dotsL_one (not_dot h1) (not_dot h2)]; exact .head _
      have hall : ∀ k, (chars x)[k]? = some 46 → k = r.length := fun k hk => by
        have := dotsL_mem.mpr hk
        rw [h6, dotsL_one (not_dot h1) (not_dot h2)] at this
        simpa using this
      rcases rfind_spec x 46 with ⟨_, e⟩ | ⟨i, e, hi, _⟩
      · exact absurd (dotsL_mem.mp hmem) (e _)
      · rw [← hall i hi]; exact e
    have hsl : Txt.rfind x "/" = -1 := by
      rcases rfind_spec x 47 with ⟨e, _⟩ | ⟨i, _, hi, _⟩
      · exact e
      · have hm := List.mem_of_getElem? hi
        rw [h6] at hm
        rcases List.mem_append.mp hm with hm | hm
        · exact absurd (h1 _ hm) good_no47
        · rcases List.mem_cons.mp hm with hm | hm
          · exact absurd hm (by decide)
          · exact absurd (h2 _ hm) good_no47
    have hs : splitR x = (Txt.slice x none (some (Txt.rfind x ".")), Txt.slice x (some (Txt.rfind x ".")) none) := by
      unfold splitR
      rw [if_pos]
      have hlen : r.length < x.length := by rw [← chars_len, h6]; simp
      refine List.any_eq_true.mpr ⟨0, List.mem_range.mpr (by omega), ?_⟩
      simp only [Bool.and_eq_true, decide_eq_true_eq]
      refine ⟨⟨by rw [hsl]; decide, by rw [hd]; omega⟩, ?_⟩
      rw [bne_iff_ne]
      intro e0
      have e1 : (chars x)[0]? = some 46 := by simpa [chars] using e0
      rw [h6, List.getElem?_append_left hpos] at e1
      exact not_dot h1 (List.mem_of_getElem? e1)
    rw [hs, hd]
    refine ⟨?_, ?_⟩
    · show chars (Txt.slice x none (some (r.length : Int))) = r
      rw [slice_to_nat, h6]; simp
    · show chars (Txt.slice (Txt.slice x (some (r.length : Int)) none) (some 1) none) = e
      rw [slice_one, slice_at_nat, h6]
      simp
theorem conf_form {x : Str} (hp : Prn (chars x)) : Conf x ↔ ∃ r e, Form (chars x) r e := by
  constructor
  · rintro ⟨c1, c2, c3, c4, c5⟩
    rw [upper_iff hp] at c1
    have good : ∀ {k : List Nat}, (∀ c ∈ k, c ∈ chars x) → (∀ c ∈ k, c ∉ badL) → Good k := fun hk hb c hc => (good_prn c (by have := hp c (hk c hc); omega) (hp c (hk c hc)).1).mpr ⟨c1 c (hk c hc), hb c hc⟩
    by_cases hs : splitR x = (x, ("" : Str))
    · rw [hs] at c2 c4
      exact ⟨chars x, [], ⟨good (fun _ h => h) c4, fun c hc => absurd hc List.not_mem_nil, by rw [chars_len]; exact c2, Nat.zero_le _, .inl ⟨rfl, rfl⟩⟩⟩
    · have hs2 : splitR x = (Txt.slice x none (some (Txt.rfind x ".")), Txt.slice x (some (Txt.rfind x ".")) none) ∧ 0 < Txt.rfind x "." := by
        unfold splitR at hs ⊢
        split
        · rename_i ha
          refine ⟨rfl, ?_⟩
          obtain ⟨k, _, hk⟩ := List.any_eq_true.mp ha
          simp only [Bool.and_eq_true, decide_eq_true_eq] at hk
          omega
        · rename_i ha; rw [if_neg ha] at hs; exact absurd rfl hs
      obtain ⟨hs2, hpos⟩ := hs2
      rcases rfind_spec x 46 with ⟨e, _⟩ | ⟨d, e, hd, hlast⟩
      · have e' : Txt.rfind x "." = -1 := e
        omega
      · have e' : Txt.rfind x "." = (d : Int) := e
        rw [e'] at hs2 hpos
        rw [hs2] at c2 c3 c4 c5
        have e1 : chars (Txt.slice x none (some (d : Int))) = (chars x).take d := slice_to_nat x d
        have e2 : chars (Txt.slice (Txt.slice x (some (d : Int)) none) (some 1) none) = (chars x).drop (d + 1) := by rw [slice_one, slice_at_nat, List.drop_drop]
        dsimp only at c2 c3 c4 c5
        rw [← chars_len, e1] at c2
        rw [← chars_len, e2] at c3
        rw [e1] at c4
        rw [e2] at c5
        refine ⟨(chars x).take d, (chars x).drop (d + 1), ⟨good (fun c h => List.mem_of_mem_take h) c4, good (fun c h => List.mem_of_mem_drop h) c5, c2, c3, .inr ⟨dot_split hd, fun en => ?_⟩⟩⟩
        have hlt := (List.getElem?_eq_some_iff.mp hd).1
        have := congrArg List.length en
        rw [List.length_take] at this
        have e3 : min d (chars x).length = 0 := this
        omega
  · rintro ⟨r, e, h⟩
    obtain ⟨s1, s2⟩ := split_form h
    obtain ⟨h1, h2, h3, h4, h5⟩ := h
    have gbad : ∀ {k : List Nat}, Good k → ∀ c ∈ k, c ∉ badL := fun hg c hc => by
      have := good_low c (hg c hc)
      exact ((good_prn c (by omega) this.1).mp (hg c hc)).2
    have gup : ∀ {k : List Nat}, Good k → ∀ c ∈ k, ¬ (97 ≤ c ∧ c ≤ 122) := fun hg c hc => by
      have := good_low c (hg c hc)
      exact ((good_prn c (by omega) this.1).mp (hg c hc)).1
    refine ⟨(upper_iff hp).mpr fun c hc => ?_, by rw [← chars_len, s1]; exact h3, by rw [← chars_len, s2]; exact h4, by rw [s1]; exact gbad h1, by rw [s2]; exact gbad h2⟩
    rcases h5 with ⟨h6, h7⟩ | ⟨h6, hne⟩
    · rw [h6] at hc; exact gup h1 c hc
    · rw [h6] at hc
      rcases List.mem_append.mp hc with hc | hc
      · exact gup h1 c hc
      · rcases List.mem_cons.mp hc with rfl | hc
        · omega
        · exact gup h2 c hc
theorem conf_parts {x : Str} (hp : Prn (chars x)) : Conf x ↔ partsL (chars x) ≠ none := by
  rw [conf_form hp]
  constructor
  · rintro ⟨r, e, h⟩ hn
    have := parts_form.mpr ⟨r, e, h, rfl, rfl⟩
    rw [hn] at this; cases this
  · intro h
    cases hq : partsL (chars x) with
    | none => exact absurd hq h
    | some p => obtain ⟨r, e, hf, _⟩ := parts_form.mp hq; exact ⟨r, e, hf⟩
end Mine
end
section
open PySem PySem.W PyProof.Rows PySem.Calls PySem.Builtin PySem.Builtin.Str
set_option maxRecDepth 100000
namespace Mine
noncomputable abbrev bareL (l : List Nat) : List Nat := headS (tailS l)
noncomputable def elevenL (b t : List Nat) : List Nat := (b ++ List.replicate 8 32).take 8 ++ (t ++ List.replicate 3 32).take 3
noncomputable def joinL (b t : List Nat) : List Nat := if t = [] then b else b ++ 46 :: t
noncomputable def lawText (l : List Nat) : List Nat := joinL (tailS (l.take 8)) (tailS (l.drop 8))
theorem take_pad (b : List Nat) {n : Nat} (h : b.length ≤ n) : (b ++ List.replicate n 32).take n = b ++ List.replicate (n - b.length) 32 := by
  rw [List.take_append, List.take_of_length_le h, List.take_replicate, Nat.min_eq_left (by omega)]
theorem len_headS (l : List Nat) : (headS l).length ≤ l.length := (List.dropWhile_sublist _).length_le
theorem len_tailS (l : List Nat) : (tailS l).length ≤ l.length := by
  unfold tailS; rw [List.length_reverse]
  have := (List.dropWhile_sublist (· == 32) (l := l.reverse)).length_le
  rwa [List.length_reverse] at this
theorem len_bareL (l : List Nat) : (bareL l).length ≤ l.length := Nat.le_trans (len_headS _) (len_tailS _)
theorem eleven_eq {b t : List Nat} (hb : b.length ≤ 8) (ht : t.length ≤ 3) : elevenL b t = (b ++ List.replicate (8 - b.length) 32) ++ (t ++ List.replicate (3 - t.length) 32) := by
  unfold elevenL; rw [take_pad b hb, take_pad t ht]
theorem eleven_len {b t : List Nat} (hb : b.length ≤ 8) (ht : t.length ≤ 3) : (elevenL b t).length = 11 := by
  rw [eleven_eq hb ht]; simp; omega
theorem mem_pad {b : List Nat} {k c : Nat} (h : c ∈ b ++ List.replicate k 32) : c ∈ b ∨ c = 32 := by
  rcases List.mem_append.mp h with h | h
  · exact .inl h
  · exact .inr (List.eq_of_mem_replicate h)
theorem good_prnL {l : List Nat} (h : Good l) : Prn l := fun c hc => good_low c (h c hc)
theorem good_bare {l : List Nat} (h : Good l) : Good (bareL l) := fun c hc => h c (mem_tailS (mem_headS hc))
theorem eleven_prn {b t : List Nat} (hb : b.length ≤ 8) (ht : t.length ≤ 3) (gb : Prn b) (gt : Prn t) : Prn (elevenL b t) := by
  rw [eleven_eq hb ht]
  intro c hc
  rcases List.mem_append.mp hc with hc | hc
  · rcases mem_pad hc with hc | rfl
    · exact gb c hc
    · omega
  · rcases mem_pad hc with hc | rfl
    · exact gt c hc
    · omega
theorem chars_append' (x y : Str) : chars (x ++ y) = chars x ++ chars y := by
  show (x.cps ++ y.cps).toList = _
  simp [chars]
theorem pad_form {x : Str} {r e : List Nat} (h : Form (chars x) r e) : chars (padR x) = elevenL (bareL r) (bareL e) := by
  obtain ⟨s1, s2⟩ := split_form h
  obtain ⟨h1, h2, h3, h4, _⟩ := h
  have q1 : chars (Txt.strip (splitR x).1) = bareL r := by rw [chars_strip (by rw [s1]; exact good_prnL h1), s1]
  have q2 : chars (Txt.strip (Txt.slice (splitR x).2 (some 1) none)) = bareL e := by rw [chars_strip (by rw [s2]; exact good_prnL h2), s2]
  have l1 : (bareL r).length ≤ 8 := Nat.le_trans (len_bareL r) h3
  have l2 : (bareL e).length ≤ 3 := Nat.le_trans (len_bareL e) h4
  unfold padR
  rw [chars_append', eleven_eq l1 l2]
  rw [chars_ljust (i := 8) (n := 8) rfl, chars_ljust (i := 3) (n := 3) rfl, ← chars_len, ← chars_len, q1, q2]
theorem padL_eq (x : Str) : (padL x).map (·.toNat) = (chars (padR x)).map (· % 256) := by
  unfold padL octs
  rw [List.map_map, List.map_map]
  refine List.map_congr_left fun c _ => ?_
  simp
/-- what splitext's parts hold -/
theorem split_prn {x : Str} (hp : Prn (chars x)) : Prn (chars (splitR x).1) ∧ Prn (chars (Txt.slice (splitR x).2 (some 1) none)) := by
  by_cases hs : splitR x = (x, ("" : Str))
  · rw [hs]
    exact ⟨hp, fun c hc => by rw [slice_one] at hc; exact absurd hc List.not_mem_nil⟩
  · have hs2 : splitR x = (Txt.slice x none (some (Txt.rfind x ".")), Txt.slice x (some (Txt.rfind x ".")) none) ∧ 0 < Txt.rfind x "." := by
      unfold splitR at hs ⊢
      split
      · rename_i ha
        refine ⟨rfl, ?_⟩
        obtain ⟨k, _, hk⟩ := List.any_eq_true.mp ha
        simp only [Bool.and_eq_true, decide_eq_true_eq] at hk
        omega
      · rename_i ha; rw [if_neg ha] at hs; exact absurd rfl hs
    obtain ⟨hs2, hpos⟩ := hs2
    rw [hs2]
    refine ⟨fun c hc => ?_, fun c hc => ?_⟩
    · dsimp only at hc
      rw [slice_take x (by omega)] at hc
      exact hp c (List.mem_of_mem_take hc)
    · dsimp only at hc
      rw [slice_one, slice_drop x (by omega)] at hc
      exact hp c (List.mem_of_mem_drop (List.mem_of_mem_drop hc))
theorem padR_prn {x : Str} (hp : Prn (chars x)) : Prn (chars (padR x)) := by
  obtain ⟨p1, p2⟩ := split_prn hp
  have q : ∀ {y : Str} {i : Int} {n : Nat}, i = (n : Int) → Prn (chars y) → Prn (chars (Txt.ljust (Txt.strip y) i)) := by
    intro y i n hi hy c hc
    rw [chars_ljust hi, chars_strip hy] at hc
    rcases mem_pad hc with hc | rfl
    · exact hy c (mem_tailS (mem_headS hc))
    · omega
  unfold padR
  intro c hc
  rw [chars_append'] at hc
  rcases List.mem_append.mp hc with hc | hc
  · exact q (i := 8) (n := 8) rfl p1 c hc
  · exact q (i := 3) (n := 3) rfl p2 c hc
theorem padR_len {x : Str} (hx : x.length ≤ 100) : (padR x).length ≤ 1000 := by
  have h := splitR_len x
  have h1 := ljust_len (x := Txt.strip (splitR x).1) (i := 8) (n := 100) (Nat.le_trans (len_strip _) (by omega)) (by omega)
  have h2 := ljust_len (x := Txt.strip (Txt.slice (splitR x).2 (some 1) none)) (i := 3) (n := 100) (Nat.le_trans (len_strip _) (Nat.le_trans (Txt.slice_le _ _ _) (by omega))) (by omega)
  unfold padR
  rw [← chars_len, chars_append', List.length_append, chars_len, chars_len]
  omega
theorem padL_prn {x : Str} (hp : Prn (chars x)) : (padL x).map (·.toNat) = chars (padR x) := by
  rw [padL_eq]
  have := padR_prn hp
  refine (List.map_congr_left (g := fun c => c) fun c hc => ?_).trans (List.map_id' _)
  have := this c hc
  omega
theorem pad_parts {x : Str} (hp : Prn (chars x)) {b t : List Nat} (h : partsL (chars x) = some (b, t)) : (padL x).map (·.toNat) = elevenL b t := by
  obtain ⟨r, e, hf, rfl, rfl⟩ := parts_form.mp h
  rw [padL_prn hp, pad_form hf]
theorem pad11 {x : Str} (hp : Prn (chars x)) (hc : Conf x) : (padL x).length = 11 ∧ ((padL x).getD 0 0).toNat ≠ 229 := by
  obtain ⟨r, e, hf⟩ := (conf_form hp).mp hc
  have e1 := padL_prn hp
  have e2 := pad_form hf
  have hlen : (padL x).length = 11 := by
    have := congrArg List.length e1
    rw [List.length_map, e2, eleven_len (Nat.le_trans (len_bareL _) hf.2.2.1) (Nat.le_trans (len_bareL _) hf.2.2.2.1)] at this
    exact this
  refine ⟨hlen, fun h229 => ?_⟩
  have hm : ((padL x).getD 0 0) ∈ padL x := by
    rw [List.getD_eq_getElem?_getD, List.getElem?_eq_getElem (by omega)]; exact List.getElem_mem _
  have h3 : (229 : Nat) ∈ chars (padR x) := by rw [← e1, ← h229]; exact List.mem_map_of_mem hm
  have := padR_prn hp _ h3
  omega
theorem tailS_pad (b : List Nat) : ∀ k, tailS (b ++ List.replicate k 32) = tailS b
  | 0 => by simp
  | k + 1 => by rw [List.replicate_succ', ← List.append_assoc, tailS_more, tailS_pad b k]
theorem tailS_idem (l : List Nat) : tailS (tailS l) = tailS l := by
  refine tailS_stop fun l' e => ?_
  unfold tailS at e
  have e2 := congrArg List.reverse e
  rw [List.reverse_reverse, List.reverse_append] at e2
  have hd : ∀ z : List Nat, ∀ q, z.dropWhile (· == 32) ≠ 32 :: q := by
    intro z
    induction z with
    | nil => intro q h; cases h
    | cons c z ih =>
      intro q h
      rw [List.dropWhile_cons] at h
      split at h
      · exact ih q h
      · rename_i hc
        obtain ⟨h1, _⟩ := List.cons.inj h
        exact hc (by simp [h1])
  exact hd _ _ e2
theorem tailS_bare (l : List Nat) : tailS (bareL l) = bareL l := by
  show tailS (headS (tailS l)) = headS (tailS l)
  rw [headS_tailS, tailS_idem]
theorem headS_idem (l : List Nat) : headS (headS l) = headS l := by
  induction l with
  | nil => rfl
  | cons c l ih =>
    by_cases hc : c = 32
    · subst hc; rw [headS_more]; exact ih
    · rw [headS_head hc, headS_head hc]
theorem bare_bare (l : List Nat) : bareL (bareL l) = bareL l := by
  show headS (tailS (bareL l)) = bareL l
  rw [tailS_bare]; exact headS_idem _
theorem text_eleven {b t : List Nat} (hb : b.length ≤ 8) (ht : t.length ≤ 3) (b2 : tailS b = b) (t2 : tailS t = t) : lawText (elevenL b t) = joinL b t := by
  unfold lawText
  rw [eleven_eq hb ht]
  have hl : (b ++ List.replicate (8 - b.length) 32).length = 8 := by simp; omega
  have e1 : ((b ++ List.replicate (8 - b.length) 32) ++ (t ++ List.replicate (3 - t.length) 32)).take 8 = b ++ List.replicate (8 - b.length) 32 := by
    rw [List.take_append_of_le_length (by omega), List.take_of_length_le (by omega)]
  have e2 : ((b ++ List.replicate (8 - b.length) 32) ++ (t ++ List.replicate (3 - t.length) 32)).drop 8 = t ++ List.replicate (3 - t.length) 32 := by
    have := List.drop_left (l₁ := b ++ List.replicate (8 - b.length) 32) (l₂ := t ++ List.replicate (3 - t.length) 32)
    rwa [hl] at this
  rw [e1, e2, tailS_pad, tailS_pad, b2, t2]
theorem bare_ne {r : List Nat} {c : Nat} {q : List Nat} (h : r = c :: q) (hc : c ≠ 32) : bareL r ≠ [] := by
  subst h
  show headS (tailS (c :: q)) ≠ []
  rw [headS_tailS, headS_head hc, tailS_cons_ne hc]
  exact List.cons_ne_nil _ _
/-- behind a text that was taken: the octets' text gives the same octets anew -/
theorem again_form {l b t : List Nat} (h : partsL l = some (b, t)) {c : Nat} {q : List Nat} (hl : l = c :: q) (hc : c ≠ 32) :
    (elevenL b t).length = 11 ∧ Prn (elevenL b t) ∧ Prn (lawText (elevenL b t)) ∧ (lawText (elevenL b t)).length ≤ 12 ∧ partsL (lawText (elevenL b t)) = some (b, t) := by
  obtain ⟨r, e, ⟨h1, h2, h3, h4, h5⟩, rfl, rfl⟩ := parts_form.mp h
  have l1 : (bareL r).length ≤ 8 := Nat.le_trans (len_bareL r) h3
  have l2 : (bareL e).length ≤ 3 := Nat.le_trans (len_bareL e) h4
  have g1 := good_bare h1
  have g2 := good_bare h2
  have hr : ∃ q', r = c :: q' := by
    rcases h5 with ⟨h6, _⟩ | ⟨h6, hne⟩
    · exact ⟨q, by rw [← h6, hl]⟩
    · cases r with
      | nil => exact absurd rfl hne
      | cons c' q' => rw [hl] at h6; exact ⟨q', by rw [(List.cons.inj h6).1]⟩
  obtain ⟨q', hr⟩ := hr
  have hne := bare_ne hr hc
  have ht : lawText (elevenL (bareL r) (bareL e)) = joinL (bareL r) (bareL e) := text_eleven l1 l2 (tailS_bare r) (tailS_bare e)
  have hprn : Prn (joinL (bareL r) (bareL e)) := by
    unfold joinL
    split
    · exact good_prnL g1
    · intro d hd
      rcases List.mem_append.mp hd with hd | hd
      · exact good_prnL g1 d hd
      · rcases List.mem_cons.mp hd with rfl | hd
        · omega
        · exact good_prnL g2 d hd
  have hlen : (joinL (bareL r) (bareL e)).length ≤ 12 := by
    unfold joinL
    split
    · omega
    · simp; omega
  refine ⟨eleven_len l1 l2, eleven_prn l1 l2 (good_prnL g1) (good_prnL g2), by rw [ht]; exact hprn, by rw [ht]; exact hlen, ?_⟩
  rw [ht]
  refine parts_form.mpr ⟨bareL r, bareL e, ⟨g1, g2, l1, l2, ?_⟩, (bare_bare r).symm, (bare_bare e).symm⟩
  unfold joinL
  split
  · rename_i he; exact .inl ⟨rfl, he⟩
  · exact .inr ⟨rfl, hne⟩
noncomputable def sumL (l : List Nat) : Int := l.foldl (fun (s : Int) (c : Nat) => (rot s + (c : Int)) % 256) 0
theorem ck_sum (l : List UInt8) : ckL l = sumL (l.map (·.toNat)) := by
  unfold ckL sumL
  rw [List.foldl_map]
theorem picked_lo (l : List UInt8) : (KBy.picked l.toArray none (some 8)).toList = l.take 8 := by
  rw [KBc.picked_eq]
  simp only [Option.elim, List.drop_zero, Nat.sub_zero]
  rw [KBc.clip_lit]
  simp
theorem picked_hi {l : List UInt8} (h : l.length = 11) : (KBy.picked l.toArray (some 8) (some 11)).toList = l.drop 8 := by
  rw [KBc.picked_eq]
  simp only [Option.elim]
  rw [KBc.clip_lit, KBc.clip_lit]
  simp [h]
  rw [List.take_of_length_le (by rw [List.length_drop]; omega)]
theorem chars_txt (b : Array UInt8) : chars (txt b) = b.toList.map (·.toNat) := by simp [txt, chars]
theorem tag_text {l : List UInt8} (h : l.length = 11) (hp : Prn (l.map (·.toNat))) : chars (tagText l) = lawText (l.map (·.toNat)) := by
  have e1 : chars (baseT l) = tailS ((l.map (·.toNat)).take 8) := by
    unfold baseT
    have e : chars (txt (KBy.picked l.toArray none (some 8))) = (l.map (·.toNat)).take 8 := by rw [chars_txt, picked_lo, List.map_take]
    rw [chars_rstrip (by rw [e]; exact hp.sub fun c hc => List.mem_of_mem_take hc), e]
  have e2 : chars (extT l) = tailS ((l.map (·.toNat)).drop 8) := by
    unfold extT
    have e : chars (txt (KBy.picked l.toArray (some 8) (some 11))) = (l.map (·.toNat)).drop 8 := by rw [chars_txt, picked_hi h, List.map_drop]
    rw [chars_rstrip (by rw [e]; exact hp.sub fun c hc => List.mem_of_mem_drop hc), e]
  unfold tagText lawText joinL
  rw [← e1, ← e2]
  by_cases hz : 0 < (extT l).length
  · rw [if_pos hz, if_neg (fun e => by have := congrArg List.length e; rw [chars_len] at this; simp at this; omega)]
    show chars (glued "." [baseT l, extT l]) = _
    simp [glued, chars]
    rfl
  · have hn : chars (extT l) = [] := by rw [← List.length_eq_zero_iff, chars_len]; omega
    rw [if_neg hz, if_pos hn]
    show chars (glued "" [baseT l, extT l]) = _
    have e0 : (extT l).cps = #[] := by simpa [chars] using hn
    simp [glued, chars, e0]
    rfl
end Mine
end
section
open PySem PySem.W PyProof.Rows PySem.Calls PySem.Builtin PySem.Builtin.Str
set_option maxRecDepth 100000
namespace Mine
noncomputable abbrev intsL (l : List Nat) : List Int := l.map fun c : Nat => (c : Int)
theorem sumL_in (l : List Nat) : 0 ≤ sumL l ∧ sumL l ≤ 255 := by
  unfold sumL
  rcases List.eq_nil_or_concat l with rfl | ⟨l', c, rfl⟩
  · exact ⟨by decide, by decide⟩
  · rw [List.concat_eq_append, List.foldl_append]
    show 0 ≤ (_ + _) % 256 ∧ (_ + _) % 256 ≤ 255
    omega
theorem sumL_take {l : List Nat} {i : Nat} {c : Nat} (h : l[i]? = some c) : sumL (l.take (i + 1)) = (rot (sumL (l.take i)) + (c : Int)) % 256 := by
  unfold sumL
  rw [List.take_add_one, h]
  simp
theorem ints_at {zs : List Value} {l : List Nat} (hI : IntsAre zs (intsL l)) {i : Nat} {v : Value} (h : zs.toArray[i]? = some v) : ∃ c t, v = .int ((c : Nat) : Int) t ∧ l[i]? = some c := by
  obtain ⟨n, t, e, h2⟩ := hI.at i v (by simpa using h)
  rw [List.getElem?_map] at h2
  cases hc : l[i]? with
  | none => rw [hc] at h2; cases h2
  | some c => rw [hc] at h2; cases h2; exact ⟨c, t, e, rfl⟩
theorem ints_len {zs : List Value} {l : List Nat} (hI : IntsAre zs (intsL l)) : zs.length = l.length := by rw [hI.length, List.length_map]
section
local macro_rules | `(tactic| walk_at "none0") => `(tactic| fail)
local macro_rules | `(tactic| walk_at "none1") => `(tactic| fail)
local macro_rules | `(tactic| walk_at "none2") => `(tactic| fail)
local macro_rules | `(tactic| walk_at "none3") => `(tactic| fail)
local macro_rules | `(tactic| walk_at "none4") => `(tactic| fail)
local macro_rules | `(tactic| walk_at "none5") => `(tactic| fail)
local macro_rules | `(tactic| walk_at "exec For Name Name cons nil") => `(tactic| ((rename Fr _ _ _ _ => lF'); (with_unfolding_all refine' For_invVF lF' ?k1 ?k2 ?_; (case k1 | k2 => exact rfl); k_whole)))
local macro_rules | `(tactic| walk_at "pyIter ref") => `(tactic| ((with_reducible show wpAny _ _ (pyIter _) _ _ _); refine stopH ?_))
set_option maxHeartbeats 1000000 in
theorem lsum_ok (w : World) (news : Led) (H : Addr) (zs : List Value) (n : Nat) (l : List Nat) (hI : IntsAre zs (intsL l)) (hl : ∀ c ∈ l, c < 256) (hz : l.length ≤ 100) (hm : (H, listOf zs.toArray n) ∈ news) :
    Cn w 268 1 20 [.ref H] news (fun v new => (∃ t, v = .int (sumL l) t) ∧ new = news) := by
  unfold Cn
  intro mean mg mb dp un gd cn cs a' ccd cl outer A₀ base h₀ L m s Q E B F X N T hk hdp hun hret
  w_top off
  refine wpAny_call ?_
  k_dflt cell_enter
  k_steps
  unfold StopH
  k_dflt (refine loop_acc (x := Str.ofString "octet") (y := Str.ofString "total") (fun i => sumL (l.take i)) (srcL_list rfl (by k_asm) (News.isList (by k_asm) hm) (Ne.symm ((by assumption : News _ _ _ news) _ hm).2.1)) (by k_asm) (by k_asm) (by decide) rfl ?_ ?_)
  · rintro i v u h tk own hi hc hoff F₁ N₁
    obtain ⟨c, t, rfl, hc'⟩ := ints_at hI hc
    obtain ⟨k0, k1⟩ := sumL_in (l.take i)
    have c1 : (c : Int) ≤ 255 := by have := hl c (List.mem_of_getElem? hc'); omega
    k_steps
    · have hA := (by assumption : sumL (l.take i) = 255)
      refine LoopStepU.intro (by assumption) (by assumption) (off_one hoff) ⟨?_, rfl⟩
      have e : (rot (sumL (l.take i)) + (c : Int)) % 256 = Int.fmod (sumL (l.take i) + (c : Int)) 256 := by
        rw [Int.fmod_eq_emod_of_nonneg _ (by decide)]; unfold rot; rw [if_pos hA, hA]
      rw [sumL_take hc', e]
      exact ⟨_, _, by funext z; by_cases h1 : z = Str.ofString "total" <;> by_cases h2 : z = Str.ofString "octet" <;> simp [h1, h2] <;> rfl⟩
    · have hA := (by assumption : sumL (l.take i) ≠ 255)
      refine LoopStepU.intro (by assumption) (by assumption) (off_one hoff) ⟨?_, rfl⟩
      have e : (rot (sumL (l.take i)) + (c : Int)) % 256 = Int.fmod (Int.fmod (sumL (l.take i) * 128) 255 + (c : Int)) 256 := by
        rw [Int.fmod_eq_emod_of_nonneg _ (by decide), Int.fmod_eq_emod_of_nonneg _ (by decide)]; unfold rot; rw [if_neg hA]
      rw [sumL_take hc', e]
      exact ⟨_, _, by funext z; by_cases h1 : z = Str.ofString "total" <;> by_cases h2 : z = Str.ofString "octet" <;> simp [h1, h2] <;> rfl⟩
  · intro h' tk kv u F₁ N₁
    have e : l.take zs.toArray.size = l := by rw [List.size_toArray, ints_len hI, List.take_length]
    rw [e] at F₁
    k_steps
    exact hret _ _ _ _ ⟨⟨_, rfl⟩, rfl⟩ (by k_asm) (by k_asm)
end
theorem item_p0 {w : World} {A : Around} {E : Value → Shared → Prop} {s : Shared} {value slice : PySem.Expr} {l : Addr} {a b : Value} {u : Tok} {Q : Value → Shared → Prop} (hl : s.heap.IsList l #[a, b]) (h : Q a s)
    (hs : subscripted slice false (.ref l) (.int 0 u) = operate [.ref l, .int 0 u] (getItem (.ref l) (.int 0 u)) := by with_unfolding_all rfl) : wpAny (model pg w) A (subscriptTail value slice (.ref l) (.int 0 u)) Q E s :=
  tail_any hl.typeIs slot_list_getitem.lookup (wpAny_getItem_list hl (by decide) (by decide) (by rfl) h) hs
theorem item_p1 {w : World} {A : Around} {E : Value → Shared → Prop} {s : Shared} {value slice : PySem.Expr} {l : Addr} {a b : Value} {u : Tok} {Q : Value → Shared → Prop} (hl : s.heap.IsList l #[a, b]) (h : Q b s)
    (hs : subscripted slice false (.ref l) (.int 1 u) = operate [.ref l, .int 1 u] (getItem (.ref l) (.int 1 u)) := by with_unfolding_all rfl) : wpAny (model pg w) A (subscriptTail value slice (.ref l) (.int 1 u)) Q E s :=
  tail_any hl.typeIs slot_list_getitem.lookup (wpAny_getItem_list hl (by decide) (by decide) (by rfl) h) hs
theorem eleven_chars (b c : Str) : chars (Txt.slice (b ++ "        ") none (some 8)) ++ chars (Txt.slice (c ++ "   ") none (some 3)) = elevenL (chars b) (chars c) := by
  rw [slice_take _ (by decide), slice_take _ (by decide), chars_append, chars_append]
  rfl
section
local macro_rules | `(tactic| walk_at "subscriptTail Name Constant ref int") => `(tactic| (first
  | ((with_reducible show wpAny _ _ (subscriptTail _ _ (Value.ref _) (Value.int 0 _)) _ _ _); k_dflt (refine' item_p0 (News.isList ?N ?m) ?_; (case N => k_asm); (case m => with_reducible assumption); k_whole))
  | ((with_reducible show wpAny _ _ (subscriptTail _ _ (Value.ref _) (Value.int 1 _)) _ _ _); k_dflt (refine' item_p1 (News.isList ?N ?m) ?_; (case N => k_asm); (case m => with_reducible assumption); k_whole))))
local macro_rules | `(tactic| walk_at "binaryOp Add str str") => `(tactic| (refine add_str (hsz := (by rw [sizeLine_eq]; omega)) ?_; intro t' tk'))
local macro_rules | `(tactic| walk_at "eval ListComp") => `(tactic| (k_dflt (refine ListComp_W (F₀ := by k_asm) (by with_unfolding_all rfl) (by decide) (by rfl) (by decide) (by rfl) ?_)))
set_option maxHeartbeats 1000000 in
theorem eleven_ok (w : World) (news : Led) (P : Addr) (b c : Str) (tb tc : Tok) (n : Nat) (hb : b.length ≤ 100) (hc : c.length ≤ 100) (hm : (P, listOf #[.str b tb, .str c tc] n) ∈ news) :
    Cn w 256 1 20 [.ref P] news (fun v new => ∃ D zs, v = .ref D ∧ new = (D, LCg.lst zs) :: news ∧ IntsAre zs (intsL (elevenL (chars b) (chars c))) ∧ ∀ p ∈ news, p.1 ≠ D) := by
  unfold Cn
  intro mean mg mb dp un gd cn cs a' ccd cl outer A₀ base h₀ L m s Q E B F X N T hk hdp hun hret
  have hl8 : ("        " : Str).length = 8 := by decide
  have hl3 : ("   " : Str).length = 3 := by decide
  have hb8 : (b ++ "        ").length = b.length + 8 := by rw [Str.length_append, hl8]
  have hc3 : (c ++ "   ").length = c.length + 3 := by rw [Str.length_append, hl3]
  w_top off
  refine wpAny_call ?_
  k_dflt cell_enter
  k_steps
  refine ⟨_, _, _, news, srcW_str rfl _ _ _, by k_asm, by k_asm, (by have hz : (Txt.slice (b ++ "        ") none (some 8) ++ Txt.slice (c ++ "   ") none (some 3)).length ≤ 300 := (by rw [Str.length_append]; omega); rw [sizeLine_eq]; exact Nat.le_trans hz (by decide)), trivial, ?_⟩
  rintro s₂ ⟨g, rfl⟩
  refine cr_map (chars (Txt.slice (b ++ "        ") none (some 8) ++ Txt.slice (c ++ "   ") none (some 3))) (fun c v => ∃ u, v = .str ⟨#[c]⟩ u) (fun c v => ∃ u, v = .int (c : Int) u) ?_ ?_ ?_
  · rintro i v ⟨c, u, hc, rfl⟩
    exact ⟨c, by simpa using hc, u, rfl⟩
  · rintro a v I oI C oC D m₂ ys h tk E' ha ⟨u, rfl⟩ hC hx F9 N9 off9 ne9
    k_steps
    exact ⟨_, _, _, rfl, by k_asm, by k_asm, by k_asm, trivial, rfl, _, rfl⟩
  · intro ys hys
    have hI := all2_ints (f := fun c : Nat => (c : Int)) hys
    rw [chars_append, eleven_chars] at hI
    k_steps
    exact hret _ _ _ _ ⟨_, ys, rfl, rfl, hI, off1_ne (by assumption)⟩ (by k_asm) (by k_asm)
end
end Mine
end
section
open PySem PySem.W PyProof.Rows PySem.Calls PySem.Builtin PySem.Builtin.Str
set_option maxRecDepth 100000
namespace Mine
section
variable {w : World} {A : Around} {E : Value → Shared → Prop} {s : Shared} {h₀ : Heap} {L : Addr} {m : Str → Option Value} {news : Led} {a : Addr}
theorem slice_L {value slice : Expr} {zs : List Value} {n : Nat} {vl vu : Value} {lo hi : Option Int} {Q : Value → Shared → Prop}
    (F : Fr h₀ L s.heap m) (N : News h₀ L s.heap news) (hm : (a, listOf zs.toArray n) ∈ news) (hz : zs.length ≤ 1000) (pl : IsPart vl lo) (pu : IsPart vu hi)
    (h : ∀ D h', Fr h₀ L h' m → News h₀ L h' ((D, listOf (slicePick zs.toArray lo hi none) 0) :: news) → (∀ p ∈ news, p.1 < D) → Q (.ref D) { s with heap := h' })
    (hs : subscripted slice false (.ref a) (.ref s.heap.objs.size) = operate [.ref s.heap.objs.size, .ref a] (getItem (.ref a) (.ref s.heap.objs.size)) := by with_unfolding_all rfl)
    (ht : ∀ r, letTemporaryGo value (.ref a) r = pure () := by intro _; with_unfolding_all rfl) :
    wpAny (model pg w) A (subscriptTail value slice (.ref a) (.ref s.heap.objs.size)) Q E { s with heap := s.heap.push { cls := .type "slice", data := .fields #[vl, vu, .none] } } :=
  slice_list F N (News.isList N hm) pl pu (fun h' F' N' => h _ h' F' N' fun p hp => Nat.lt_succ_of_lt (Heap.lt_size (N p hp).1)) hs ht (by rw [sizeLine_eq]; simp; omega)
theorem ints_map {its : Array Value} {l : List Nat} (hI : IntsAre its.toList (intsL l)) {i : Nat} {v : Value} (h : its[i]? = some v) : ∃ c, l[i]? = some c ∧ ∃ u, v = .int ((c : Nat) : Int) u := by
  obtain ⟨c, t, e, h2⟩ := ints_at hI (i := i) (v := v) (by simpa using h)
  exact ⟨c, h2, t, e⟩
theorem singles_sum : ∀ l : List Nat, ((l.map fun c => (⟨#[c]⟩ : Str)).map (·.length)).sum = l.length
  | [] => rfl
  | c :: l => by rw [List.map_cons, List.map_cons, List.sum_cons, singles_sum l, List.length_cons]; show 1 + _ = _; omega
theorem src_head {h₀ : Heap} {a : Addr} {its : Array Value} {n : Nat} {news : Led} : LCg.SrcAt h₀ a its ((a, listOf its n) :: news) := .inr ⟨_, .head _, rfl, _, rfl⟩
theorem pick_lo {zs : List Value} {l : List Nat} (hI : IntsAre zs (intsL l)) (h : l.length = 11) : IntsAre (slicePick zs.toArray none (some 8) none).toList (intsL (l.take 8)) := by
  have := slice_ints_upto hI (y := 8) (by decide) (by simp [h])
  rw [← List.map_take] at this
  exact this
theorem pick_hi {zs : List Value} {l : List Nat} (hI : IntsAre zs (intsL l)) (h : l.length = 11) : IntsAre (slicePick zs.toArray (some 8) none none).toList (intsL (l.drop 8)) := by
  have := slice_ints_from hI (x := 8) (by decide) (by simp [h])
  rw [← List.map_drop] at this
  exact this
theorem ints_size {its : Array Value} {l : List Nat} (hI : IntsAre its.toList (intsL l)) : its.size = l.length := by
  have := ints_len hI; simpa using this
end
section
local macro_rules | `(tactic| walk_at "eval ListComp") => `(tactic| (k_dflt (refine ListComp_W (F₀ := by k_asm) (by with_unfolding_all rfl) (by decide) (by rfl) (by decide) (by rfl) ?_)))
local macro_rules | `(tactic| walk_at "subscriptTail Name Slice ref ref") => `(tactic| (k_dflt (refine' slice_L ?F ?N ?hm ?hz ?hl ?hu ?_; (case F | N => k_asm); (case hm => first | k_mem | (repeat first | with_reducible assumption | with_reducible refine List.mem_cons_of_mem _ ?_)); (case hz => assumption); (case hl | hu => constructor); k_whole); intro D' h' F' N' l1; (try k_lt l1)))
local macro_rules | `(tactic| walk_at "exec While") => `(tactic| ((with_reducible show wpAny _ _ (exec (Stmt.While _ _ _ _) _) _ _ _); refine stopH ?_))
set_option maxHeartbeats 1000000 in
theorem text_ok (w : World) (news : Led) (H : Addr) (zs : List Value) (n : Nat) (l : List Nat) (hI : IntsAre zs (intsL l)) (hl : ∀ c ∈ l, c < 256) (hz : l.length = 11) (hz2 : zs.length ≤ 1000) (hm : (H, listOf zs.toArray n) ∈ news) :
    Cn w 261 1 40 [.ref H] news (fun v new => (∃ y t, v = .str y t ∧ chars y = lawText l) ∧ new = news) := by
  unfold Cn
  intro mean mg mb dp un gd cn cs a' ccd cl outer A₀ base h₀ L m s Q E B F X N T hk hdp hun hret
  replace hI := Hid.mk hI
  replace hl := Hid.mk hl
  replace hz := Hid.mk hz
  w_top off
  refine wpAny_call ?_
  k_dflt cell_enter
  k_steps
  refine ⟨_, _, _, _, srcW_list rfl (by k_asm) (by k_asm) src_head, by k_asm, by k_asm, (by rw [ints_size (pick_lo hI.out hz.out), sizeLine_eq, List.length_take, hz.out]; decide), src_head, ?_⟩
  rintro s₂ ⟨g, rfl⟩
  rw [ints_size (pick_lo hI.out hz.out)]
  refine cr_map (l.take 8) (fun c v => ∃ u, v = .int ((c : Nat) : Int) u) (fun c v => ∃ u, v = .str ⟨#[c]⟩ u) (fun i v h => ints_map (pick_lo hI.out hz.out) h) ?_ ?_
  · rintro a v I oI C oC D m₂ ys h tk E' ha ⟨u, rfl⟩ hC hx F9 N9 off9 ne9
    have h1 : ((a : Nat) : Int) < 256 := by have := hl.out a (List.mem_of_mem_take ha); omega
    k_steps
    exact ⟨_, _, _, rfl, by k_asm, by k_asm, by k_asm, src_head, rfl, _, rfl⟩
  intro ys hys
  replace hys : StrsAre ys (((l.take 8)).map fun c => ⟨#[c]⟩) := all2_strs hys
  k_steps
  refine' join_list (News.isList ?jl9q (.head _)) ?ji9q ?jok9q ?_
  case jl9q => assumption
  case ji9q => exact hys
  case jok9q => rw [show ("" : Str).length = 0 from rfl, Nat.mul_zero, Nat.add_zero, singles_sum, List.length_take, hz.out]; decide
  intro t' k
  rw [join_signs]
  clear hys
  k_steps
  refine ⟨_, _, _, _, srcW_list rfl (by k_asm) (by k_asm) src_head, by k_asm, by k_asm, (by rw [ints_size (pick_hi hI.out hz.out), sizeLine_eq, List.length_drop, hz.out]; decide), src_head, ?_⟩
  rintro s₂ ⟨g, rfl⟩
  rw [ints_size (pick_hi hI.out hz.out)]
  refine cr_map (l.drop 8) (fun c v => ∃ u, v = .int ((c : Nat) : Int) u) (fun c v => ∃ u, v = .str ⟨#[c]⟩ u) (fun i v h => ints_map (pick_hi hI.out hz.out) h) ?_ ?_
  · rintro a v I oI C oC D m₂ ys h tk E' ha ⟨u, rfl⟩ hC hx F9 N9 off9 ne9
    have h1 : ((a : Nat) : Int) < 256 := by have := hl.out a (List.mem_of_mem_drop ha); omega
    k_steps
    exact ⟨_, _, _, rfl, by k_asm, by k_asm, by k_asm, src_head, rfl, _, rfl⟩
  intro ys hys
  replace hys : StrsAre ys (((l.drop 8)).map fun c => ⟨#[c]⟩) := all2_strs hys
  k_steps
  refine' join_list (News.isList ?jl9q (.head _)) ?ji9q ?jok9q ?_
  case jl9q => assumption
  case ji9q => exact hys
  case jok9q => rw [show ("" : Str).length = 0 from rfl, Nat.mul_zero, Nat.add_zero, singles_sum, List.length_drop, hz.out]; decide
  intro t' k
  rw [join_signs]
  clear hys
  k_steps
  unfold StopH
  refine' while_txt (name := "base") (fun y => tailS (chars y) = tailS (l.take 8) ∧ y.length ≤ 1000) ?F9q ?N9q ?hm9q ?h09q ?hE9q ?_
  case F9q => k_asm
  case N9q => k_asm
  case hm9q => rfl
  case h09q => exact ⟨rfl, by rw [← chars_len]; show (l.take 8).length ≤ 1000; rw [List.length_take, hz.out]; decide⟩
  case hE9q => first | passes_own | with_unfolding_all passes_own
  intro y u h9 tk9 hP9 F9 N9
  k_steps
  cases hb : (Txt.slice y (some (-1)) none == (" " : Str)) with
  | true =>
    obtain ⟨l', e1, e2⟩ := last_yes hb
    refine WhlIf.yes rfl ?_
    k_steps
    refine' TxtGo.intro ?F9q ?N9q ?hl9q ⟨?hA9q, ?hB9q⟩ ?e9q
    case F9q => k_asm
    case N9q => k_asm
    case e9q => exact upd2
    case hl9q => rw [← chars_len, ← chars_len, e1, e2]; simp
    case hA9q => rw [← hP9.1, e1, e2, tailS_more]
    case hB9q =>
      have := hP9.2
      rw [← chars_len] at this ⊢
      rw [e1] at this
      rw [e2]
      simp at this
      omega
  | false =>
    have ebase := tailS_stop (last_no hb)
    rw [hP9.1] at ebase
    refine WhlIf.no rfl ?_
    have lbase := hP9.2
    clear hP9 hb
    k_steps
    unfold StopH
    refine' while_txt (name := "tail") (fun y => tailS (chars y) = tailS (l.drop 8) ∧ y.length ≤ 1000) ?F9q ?N9q ?hm9q ?h09q ?hE9q ?_
    case F9q => k_asm
    case N9q => k_asm
    case hm9q => rfl
    case h09q => exact ⟨rfl, by rw [← chars_len]; show (l.drop 8).length ≤ 1000; rw [List.length_drop, hz.out]; decide⟩
    case hE9q => first | passes_own | with_unfolding_all passes_own
    intro y u h9 tk9 hP9 F9 N9
    k_steps
    cases hb : (Txt.slice y (some (-1)) none == (" " : Str)) with
    | true =>
      obtain ⟨l', e1, e2⟩ := last_yes hb
      refine WhlIf.yes rfl ?_
      k_steps
      refine' TxtGo.intro ?F9q ?N9q ?hl9q ⟨?hA9q, ?hB9q⟩ ?e9q
      case F9q => k_asm
      case N9q => k_asm
      case e9q => exact upd2
      case hl9q => rw [← chars_len, ← chars_len, e1, e2]; simp
      case hA9q => rw [← hP9.1, e1, e2, tailS_more]
      case hB9q =>
        have := hP9.2
        rw [← chars_len] at this ⊢
        rw [e1] at this
        rw [e2]
        simp at this
        omega
    | false =>
      have etail := tailS_stop (last_no hb)
      rw [hP9.1] at etail
      refine WhlIf.no rfl ?_
      have ltail := hP9.2
      clear hP9 hb
      k_steps
      · have hy := (by with_reducible assumption : (y == ("" : Str)) = true)
        rw [beq_iff_eq] at hy
        subst hy
        refine hret _ _ _ _ ⟨⟨_, _, rfl, ?_⟩, rfl⟩ (by k_asm) (cb_drop (by assumption) fun p hp => by repeat first | with_reducible exact hp | with_reducible refine List.mem_cons_of_mem _ ?_)
        unfold lawText joinL
        rw [etail, ebase]; exact (if_pos rfl).symm
      · have hy := (by with_reducible assumption : (y == ("" : Str)) = false)
        refine hret _ _ _ _ ⟨⟨_, _, rfl, ?_⟩, rfl⟩ (by k_asm) (cb_drop (by assumption) fun p hp => by repeat first | with_reducible exact hp | with_reducible refine List.mem_cons_of_mem _ ?_)
        unfold lawText joinL
        rw [etail, ebase, if_neg (fun e => by rw [beq_eq_false_iff_ne] at hy; exact hy (str_eq_of_chars e)), chars_append, chars_append, List.append_assoc]; rfl
end
end Mine
end
section
open PySem PySem.W PyProof.Rows PySem.Calls PySem.Builtin PySem.Builtin.Str
set_option maxRecDepth 100000
namespace Mine
section
local macro_rules | `(tactic| walk_at "none0") => `(tactic| fail)
local macro_rules | `(tactic| walk_at "none1") => `(tactic| fail)
local macro_rules | `(tactic| walk_at "none2") => `(tactic| fail)
local macro_rules | `(tactic| cell_enter) => `(tactic| walk_at "enterS")
local macro_rules | `(tactic| walk_at "call ref") => `(tactic| (first
  | (walk_at "cs"; first
    | (k_dflt (apply unp_no); walk_at "cr"; walk_at "i3")
    | (k_dflt (apply sum_no); walk_at "cr"; walk_at "i3"))))
set_option maxHeartbeats 1000000 in
theorem same_no (w : World) (news : Led) (x d : Addr) (t1 t2 t3 : Tok) :
    CnT w 273 8 120 [.ref x, .none] [] ((x, instObj 223 d) :: (d, tagD w t1 t2 t3 .none false) :: news) (fun v new => v = .bool true ∧ new = (x, instObj 223 d) :: (d, tagD w t1 t2 t3 .none false) :: news) := by
  unfold CnT
  intro mean mg mb dp un gd cn cs a' ccd cl outer A₀ base h₀ L m s Q E XB TB D B F X N T hk hdp hun hret
  w_top off
  refine wpAny_call ?_
  k_dflt cell_enter
  k_steps
  exact hret _ _ _ _ _ ⟨rfl, rfl⟩ (by assumption) (by assumption) (by assumption) (by assumption) (by assumption) (by assumption) (by assumption)
end
end Mine
end
section
open PySem PySem.W PyProof.Rows PySem.Calls PySem.Builtin PySem.Builtin.Str
set_option maxRecDepth 100000
namespace Mine
/-- the octets as plain numbers -/
noncomputable abbrev nums (l : List UInt8) : List Nat := l.map (·.toNat)
theorem nums_lt (l : List UInt8) : ∀ c ∈ nums l, c < 256 := by
  intro c hc
  obtain ⟨x, _, rfl⟩ := List.mem_map.mp hc
  exact x.toNat_lt
theorem bytes_nums (l : List UInt8) : byteArr (intsL (nums l)) = l.toArray := by
  unfold byteArr
  congr 1
  rw [List.map_map, List.map_map]
  refine (List.map_congr_left (g := fun c => c) fun c _ => ?_).trans (List.map_id' _)
  simp
section
variable {w : World} {A : Around} {E : Value → Shared → Prop} {s : Shared} {h₀ : Heap} {L : Addr} {m : Str → Option Value} {news : Led}
theorem bytes_held {H : Addr} {zs : List Value} {n : Nat} {l : List UInt8} {Q : Value → Shared → Prop} (F : Fr h₀ L s.heap m) (N : News h₀ L s.heap news) (hh : A.handled = none) (hm : (H, listOf zs.toArray n) ∈ news) (hI : IntsAre zs (intsL (nums l))) (hz : l.length ≤ 1000)
    (h : ∀ h' t' k, Fr h₀ L h' m → News h₀ L h' news → Q (.bytes l.toArray t') { s with heap := h', toks := k }) : wpAny (model pg w) A (call (.type "bytes") [.ref H]) Q E s := by
  refine KBa.make_K F N hh (News.isList N hm) hI (fun n hn => ?_) (by simp; omega) fun h' t' k F' N' _ => by rw [bytes_nums]; exact h h' t' k F' N'
  obtain ⟨c, hc, rfl⟩ := List.mem_map.mp hn
  have := nums_lt l c hc
  omega
theorem eq_bytes_same {b : Array UInt8} {t u : Tok} {Q : Value → Shared → Prop} (h : Q (.bool true) s) : wpAny (model pg w) A (compareOp .Eq (.bytes b t) (.bytes b u)) Q E s := eq_bytes (by rw [beq_self_eq_true]; exact h)
theorem ne_bytes_same {b : Array UInt8} {t u : Tok} {Q : Value → Shared → Prop} (h : Q (.bool false) s) : wpAny (model pg w) A (compareOp .NotEq (.bytes b t) (.bytes b u)) Q E s := ne_bytes (by rw [bne_self_eq_false]; exact h)
theorem ne_int_same {b : Int} {t u : Tok} {Q : Value → Shared → Prop} (h : Q (.bool false) s) : wpAny (model pg w) A (compareOp .NotEq (.int b t) (.int b u)) Q E s := ne_int (by simpa using h)
theorem ne_str_same {b : Str} {t u : Tok} {Q : Value → Shared → Prop} (h : Q (.bool false) s) : wpAny (model pg w) A (compareOp .NotEq (.str b t) (.str b u)) Q E s := ne_str (by simpa using h)
theorem eq_nils {a b : Addr} {Q : Value → Shared → Prop} (hl : s.heap.IsList a [].toArray) (hl' : s.heap.IsList b [].toArray) (hu : A.units + 64 < cLine) (h : Q (.bool true) s) : wpAny (model pg w) A (compareOp .Eq (.ref a) (.ref b)) Q E s :=
  eq_intsK (ns := []) (ms := []) hl .nil hl' .nil hu (by simpa using h)
theorem eq_cons_nil {a b : Addr} {v : Value} {vs : List Value} {ns : List Int} {Q : Value → Shared → Prop} (hl : s.heap.IsList a (v :: vs).toArray) (hI : IntsAre (v :: vs) ns) (hl' : s.heap.IsList b [].toArray) (hu : A.units + 64 < cLine) (h : Q (.bool false) s) : wpAny (model pg w) A (compareOp .Eq (.ref a) (.ref b)) Q E s :=
  eq_intsK (ms := []) hl hI hl' .nil hu (by cases hI; simpa using h)
end
theorem prn_of_filter {l : List Nat} (h : (l.filter fun c => decide (c < 32) || decide (126 < c)) = []) : Prn l := by
  rw [List.filter_eq_nil_iff] at h
  intro c hc
  have := h c hc
  simp at this
  omega
theorem prn_ne5 {l : List UInt8} (hz : l.length = 11) (h : Prn (nums l)) : (l.getD 0 0).toNat ≠ 5 := by
  have hm : l.getD 0 0 ∈ l := by rw [List.getD_eq_getElem?_getD, List.getElem?_eq_getElem (by omega)]; exact List.getElem_mem _
  have := h _ (List.mem_map_of_mem hm)
  omega
theorem news_drop2 {h₀ h : Heap} {L : Addr} {a b : Addr × Obj} {l : Led} (N : News h₀ L h (a :: b :: l)) : News h₀ L h l := fun p hp => N p (.tail _ (.tail _ hp))
theorem lsum_ok' (w : World) (news : Led) (H : Addr) (zs : List Value) (n : Nat) (l : List UInt8) (hI : IntsAre zs (intsL (nums l))) (hz : l.length ≤ 100) (hm : (H, listOf zs.toArray n) ∈ news) :
    Cn w 268 1 20 [.ref H] news (fun v new => (∃ t, v = .int (ckL l) t) ∧ new = news) := by
  rw [ck_sum]
  exact lsum_ok w news H zs n (nums l) hI (nums_lt l) (by simpa using hz) hm
theorem text_ok' (w : World) (news : Led) (H : Addr) (zs : List Value) (n : Nat) (l : List UInt8) (hI : IntsAre zs (intsL (nums l))) (hz : l.length = 11) (hp : Prn (nums l)) (hm : (H, listOf zs.toArray n) ∈ news) :
    Cn w 261 1 40 [.ref H] news (fun v new => (∃ t, v = .str (tagText l) t) ∧ new = news) := by
  have h := text_ok w news H zs n (nums l) hI (nums_lt l) (by simpa using hz) (by rw [ints_len hI]; simp; omega) hm
  unfold Cn at h ⊢
  intro mean mg mb dp un gd cn cs a' ccd cl outer A₀ base h₀ L m s Q E B F X N T hk hdp hun hret
  refine h mean mg mb dp un gd cn cs a' ccd cl outer A₀ base h₀ L m s Q E B F X N T hk hdp hun fun v new h' tk' r F' N' => hret v new h' tk' ?_ F' N'
  obtain ⟨⟨y, t, e1, e2⟩, e3⟩ := r
  refine ⟨⟨t, ?_⟩, e3⟩
  rw [e1]
  congr 1
  exact str_eq_of_chars (e2.trans (tag_text hz hp).symm)
section
local macro_rules | `(tactic| cell_enter) => `(tactic| walk_at "enterS")
local macro_rules | `(tactic| walk_at "call ref") => `(tactic| (first
  | (walk_at "cn"; first
    | (k_dflt (apply as_bytes_ok); walk_at "hd"; walk_at "cr"; walk_at "i1")
    | (k_dflt (apply lsum_ok'); walk_at "hd"; walk_at "hd"; walk_at "hd"; walk_at "cr"; walk_at "i2")
    | (k_dflt (apply text_ok'); walk_at "hd"; walk_at "hd"; walk_at "hd"; walk_at "hd"; walk_at "cr"; walk_at "i2"))
  | (walk_at "cs"; first
    | (k_dflt (apply sum_yes); walk_at "hd"; walk_at "cr"; walk_at "i5")
    | (k_dflt (apply unp_yes); walk_at "hd"; walk_at "hd"; walk_at "cr"; walk_at "i5"))))
local macro_rules | `(tactic| walk_at "call type:bytes") => `(tactic| (first
  | (k_dflt (refine' bytes_held (l := ?l) ?F ?N ?hh ?hm ?hI ?hz ?_; (case hI | hm | hz => walk_at "hd"); (case hh => rfl); (case F | N => k_asm); k_whole); intro h' t' k' F' N')
  | (k_dflt (apply bytes_N; rfl; k_asm; k_mem; walk_at "hd"; k_whole); intro t' k')))
local macro_rules | `(tactic| walk_at "compareOp NotEq bytes bytes") => `(tactic| (refine ne_bytes_same ?_))
local macro_rules | `(tactic| walk_at "compareOp Eq bytes bytes") => `(tactic| (refine eq_bytes_same ?_))
local macro_rules | `(tactic| walk_at "compareOp NotEq int int") => `(tactic| (refine ne_int_same ?_))
local macro_rules | `(tactic| walk_at "compareOp NotEq str str") => `(tactic| (refine ne_str_same ?_))
local macro_rules | `(tactic| walk_at "eval ListComp") => `(tactic| (k_dflt (refine ListComp_WT (F₀ := by k_asm) (by with_unfolding_all rfl) (by decide) (by rfl) (by decide) (by rfl) ?_)))
local macro_rules | `(tactic| walk_at "compareOp Eq ref ref") => `(tactic| (first
  | (k_dflt (refine' eq_cons_nil (News.isList ?N ?m1) ?hI (News.isList ?N ?m2) ?u ?_; (case hI => walk_at "hd"); (case N => k_asm); (case m1 | m2 => k_mem); (case u => units_room); k_whole); have N9 := news_drop2 (by assumption))
  | (k_dflt (refine' eq_nils (News.isList ?N ?m1) (News.isList ?N ?m2) ?u ?_; (case N => k_asm); (case m1 | m2 => k_mem); (case u => units_room); k_whole); have N9 := news_drop2 (by assumption))))
set_option maxHeartbeats 1000000 in
theorem same_yes (w : World) (news : Led) (x d b H : Addr) (t1 t2 t3 : Tok) (l : List UInt8) (zs : List Value) (n : Nat) (hz : l.length = 11) (hI : IntsAre zs (intsL (nums l)))
    (hm : (H, listOf zs.toArray n) ∈ (x, instObj 223 d) :: (d, tagD w t1 t2 t3 (.ref b) true) :: (b, baObj l.toArray) :: news) :
    CnT w 273 8 160 [.ref x, .ref H] [] ((x, instObj 223 d) :: (d, tagD w t1 t2 t3 (.ref b) true) :: (b, baObj l.toArray) :: news) (fun v new => v = .bool true ∧ new = (x, instObj 223 d) :: (d, tagD w t1 t2 t3 (.ref b) true) :: (b, baObj l.toArray) :: news) := by
  unfold CnT
  intro mean mg mb dp un gd cn cs a' ccd cl outer A₀ base h₀ L m s Q E XB TB D B F X N T hk hdp hun hret
  have hz1 : Hid (l.length ≤ 1000) := ⟨by omega⟩
  have hz2 : Hid (l.length ≤ 100) := ⟨by omega⟩
  replace hz := Hid.mk hz
  replace hI := Hid.mk hI
  replace hm := Hid.mk hm
  w_top off
  refine wpAny_call ?_
  k_dflt cell_enter
  k_steps
  have hsz : zs.toArray.size = (nums l).length := ints_size (its := zs.toArray) hI.out
  refine ⟨_, _, _, _, srcW_list rfl (by k_asm) (by k_asm) (.inr ⟨_, hm.out, rfl, _, rfl⟩), by k_asm, by k_asm, (by rw [hsz, List.length_map, hz.out, sizeLine_eq]; decide), (.inr ⟨_, hm.out, rfl, _, rfl⟩), ?_⟩
  rintro s₂ ⟨g, rfl⟩
  rw [hsz]
  clear hsz
  refine cr_filter (nums l) (fun c v => ∃ u, v = .int ((c : Nat) : Int) u) (fun c => decide (c < 32) || decide (126 < c)) (fun c v => ∃ u, v = .int ((c : Nat) : Int) u) (fun i v h => ints_map (its := zs.toArray) hI.out h) ?_ ?_
  · rintro c v I oI C oC D m₂ zs h tk E' ha ⟨u, rfl⟩ hC hx9 F9 N9 off9 ne9
    k_steps
    all_goals first
      | (symm; simp only [Bool.or_eq_true, decide_eq_true_eq, Bool.or_eq_false_iff, decide_eq_false_iff_not]; omega)
      | exact ⟨_, _, _, rfl, by k_asm, by k_asm, by k_asm, .inr ⟨_, hm.out, rfl, _, rfl⟩, rfl, _, rfl⟩
      | exact ⟨_, _, _, rfl, by k_asm, by k_asm, by k_asm, .inr ⟨_, hm.out, rfl, _, rfl⟩, rfl⟩
  · intro ys hys
    cases ys with
    | nil =>
      have hp : Hid (Prn (nums l)) := ⟨prn_of_filter (all2_nil hys)⟩
      have h5 : Hid ((l.getD 0 0).toNat ≠ 5) := ⟨prn_ne5 hz.out hp.out⟩
      clear hys
      k_steps
      exact hret _ _ _ _ _ ⟨rfl, rfl⟩ KtsTurn.refl (by assumption) (by k_asm) (by assumption) (by assumption) (by assumption) (by assumption)
    | cons y ys =>
      have hJ : Hid (IntsAre (y :: ys) (intsL ((nums l).filter fun c => decide (c < 32) || decide (126 < c)))) := ⟨all2_ints hys⟩
      clear hys
      k_steps
      exact hret _ _ _ _ _ ⟨rfl, rfl⟩ KtsTurn.refl (by assumption) (by k_asm) (by assumption) (by assumption) (by assumption) (by assumption)
end
end Mine
end
section
open PySem PySem.W PyProof.Rows PySem.Calls PySem.Spec
set_option maxRecDepth 100000
namespace Mine
section
variable {prog : Program} {w : World} {A : Around} {E : Value → Shared → Prop} {s : Shared} {R : Result → Shared → Prop} {env : Env}
/-- entering a def whose frame has cells, in wpC; it raises nothing -/
theorem law_enter {name : Str} {params : Arguments} {body : List Stmt} {scope : Scope} {pm cd doc : Value} {a : Addr} {o : Obj} {args : List Value} {binds : List (Str × Value)}
    (hroom : A.depth < recursionLimit) (ho : s.heap.get? a = some o) (hdata : o.data = .func (Calls.docDef name params body scope pm cd doc)) (hlim : s.heap.NoLimit) (hcd : s.heap.CodeRec cd name)
    (hbind : bindArgs (Calls.docDef name params body scope pm cd doc) ⟨args, []⟩ = pure binds)
    (hkind : ∀ x ∈ binds, scope.names.lookup x.1 = some .local ∨ (scope.names.lookup x.1 = some .cell ∧ ((cellsFrom (s.heap.objs.size + 1) scope.names []).lookup x.1).isSome = true))
    (hnd : ((cellsFrom 0 scope.names []).map (·.1)).Nodup)
    (h : ∀ h₁ tk cells, Fr s.heap s.heap.objs.size h₁ (bindL (envOfC name scope s.heap.objs.size a cd).kindOf binds fun _ => none) → News s.heap s.heap.objs.size h₁ cells →
      CellsAre (bindC (envOfC name scope s.heap.objs.size a cd).kindOf binds fun _ => none) (cellsFrom (s.heap.objs.size + 1) scope.names []) cells →
      wpC (model prog w) (A.deeper (envOfC name scope s.heap.objs.size a cd)) (execs body (envOfC name scope s.heap.objs.size a cd))
        (fun f s' => R (.ok (.ret (match f with | .ret v => v | _ => .none))) s') (fun _ _ => False) { s with heap := h₁, toks := tk })
    (hco : scope.isCoroutine = false := by rfl) (hgen : scope.isGenerator = false := by rfl) (hk : scope.kind = .function := by rfl) :
    codeC (model prog w) A (.call (.ref a) ⟨args, []⟩) R s := by
  refine codeC_call_function (fd := Calls.docDef name params body scope pm cd doc) hroom ho hdata hco hgen rfl hcd ?_
  rw [hbind]
  refine wpAny_pure (wpAny_newFunctionEnv_cells hk hkind fun env' he s' x => ?_)
  subst he
  refine ⟨hlim.keeps x.toInCall.keep, codeC_func ?_⟩
  obtain ⟨h₁, tk, rfl, _⟩ := x.done
  obtain ⟨cells, NC, Y⟩ := Cl.news (h₀ := s.heap) (Nat.le_refl _) fun n c hm => ⟨x.cell n c (lookup_of_mem_nodup (cellsFrom_names scope.names 0 (s.heap.objs.size + 1) [] [] rfl ▸ hnd) hm), x.above n c hm⟩
  exact wpC_mono (h h₁ tk cells ⟨x.toInCall.ns, x.toInCall.keep, x.toInCall.fresh⟩ NC Y) (fun _ _ q => q) fun _ _ q => q.elim
/-- the end of a turn of the law's loop -/
noncomputable def TurnEnd (h₀ : Heap) (L : Addr) (s₁ : Shared) (I : Addr) (oI : Obj) (Jn : (Str → Option Value) → Led → Prop) (Q : Flow → Shared → Prop) (f : Flow) (s' : Shared) : Prop :=
  match f with
  | .next | .cont => ∃ h' tk' m' new', s' = { s₁ with heap := h', toks := tk' } ∧ Fr h₀ L h' m' ∧ News h₀ L h' ((I, oI) :: new') ∧ (∀ p ∈ new', p.1 ≠ I) ∧ Jn m' new'
  | .brk => Q .next s'
  | .ret v => Q (.ret v) s'
theorem wpC_loop {h₀ : Heap} {m : Str → Option Value} {s₁ : Shared} {L : Addr} {xv : Value} {n : Nat} {P : Nat → Value → Prop} {x : Str} {px : Pos} {body : List Stmt} {Q : Flow → Shared → Prop} {news : Led}
    (F : Fr h₀ L s₁.heap m) (N : News h₀ L s₁.heap news)
    (S : ∀ (Q : Value → Shared → Prop) (E : Value → Shared → Prop), (∀ (o : Obj) (St : Nat → Heap → Prop), Walks prog w A s₁.heap.objs.size [s₁.heap.objs.size] [s₁.heap.objs.size] n P St → (∀ i h, St i h → ∃ o, h.get? s₁.heap.objs.size = some o) → St 0 (s₁.heap.push o) →
      Q (.ref s₁.heap.objs.size) { s₁ with heap := s₁.heap.push o }) → wpAny (model prog w) A (pyIter xv) Q E s₁)
    (J : Nat → (Str → Option Value) → Led → Prop) (h0 : J 0 m news)
    (hx : env.kindOf x = some .local) (hp : (env.scope.kind == .class || (env.scope.kind == .module && env.locals != env.globals)) = false)
    (step : ∀ I i v m₁ new h tk oI, i < n → P i v → J i m₁ new → (∀ p ∈ new, p.1 ≠ I) →
      Fr h₀ L h (fun y => if y = x then some v else m₁ y) → News h₀ L h ((I, oI) :: new) → (∀ i h' tk m' new, Fr h₀ L h' m' → News h₀ L h' new → J i m' new → Q .next { s₁ with heap := h', toks := tk }) →
      wpC (model prog w) A (execs body env) (TurnEnd h₀ L s₁ I oI (J (i + 1)) Q) (fun _ _ => False) { s₁ with heap := h, toks := tk })
    (hQ : ∀ i h' tk m' new, Fr h₀ L h' m' → News h₀ L h' new → J i m' new → Q .next { s₁ with heap := h', toks := tk }) (hLe : env.locals = L) :
    wpAny (model prog w) A (pyIter xv) (fun it s₂ => codeC (model prog w) A (.forLoop (.Name x px) it body [] env) (fun r s' => match r with | .ok f => Q f s' | .error _ => False) s₂) E s₁ := by
  subst hLe
  refine S _ _ fun o St W hex hst => ?_
  have hsz : h₀.get? s₁.heap.objs.size = none := next_is_new F
  have hLI : env.locals ≠ s₁.heap.objs.size := Nat.ne_of_lt F.ns.lt
  refine codeC_forLoop (fun k s' => ∃ i h tk m₁ new, i + k = n ∧ s' = { s₁ with heap := h, toks := tk } ∧ St i h ∧ Fr h₀ env.locals h m₁ ∧ News h₀ env.locals h new ∧ (∀ p ∈ new, p.1 ≠ s₁.heap.objs.size) ∧ J i m₁ new) ?_ n
    ⟨0, _, s₁.toks, m, news, Nat.zero_add n, rfl, hst, F.keeps fun _ _ e => Heap.get?_push_of_some _ e, N.grown fun _ _ e => Heap.get?_push_of_some _ e, fun p hp => Nat.ne_of_lt (Heap.lt_size (N p hp).1), h0⟩ ?_
  · rintro k s' ⟨i, h, tk, m₁, new, hik, rfl, hS, F₁, N₁, off, hJ⟩
    have moved : ∀ {h' : Heap}, (∀ b o, b ∉ [s₁.heap.objs.size] → h.get? b = some o → h'.get? b = some o) → Fr h₀ env.locals h' m₁ ∧ News h₀ env.locals h' new := fun {h'} hk =>
      ⟨LCg.fr_but F₁ hk hLI hsz, fun p hp => ⟨hk _ _ (fun hm => off p hp (List.mem_singleton.mp hm)) (N₁ p hp).1, (N₁ p hp).2⟩⟩
    by_cases hi : i < n
    · refine W.item i { s₁ with heap := h, toks := tk } _ _ hi hS fun v h' tk' hP hS' hk => ?_
      obtain ⟨F₂, N₂⟩ := moved hk
      obtain ⟨oI, hoI⟩ := hex _ _ hS'
      refine wpAny_assign_Name (wpAny_storeName_local hx F₂.ns (fun h₂ hn₂ hs₂ => ?_) hp)
      have hL₀ : h₀.get? env.locals = none := Heap.get?_none_of_le F₂.above
      have F₃ : Fr h₀ env.locals h₂ (fun y => if y = x then some v else m₁ y) := ⟨hn₂, fun b o e => hs₂.extBut b o (fun q => by rw [q, hL₀] at e; cases e) (F₂.keep b o e), F₂.above⟩
      have N₃ : News h₀ env.locals h₂ ((s₁.heap.objs.size, oI) :: new) := fun p hp => by
        rcases List.mem_cons.mp hp with rfl | hp
        · exact ⟨hs₂.extBut _ _ (Ne.symm hLI) hoI, Ne.symm hLI, hsz⟩
        · exact ⟨hs₂.extBut _ _ (N₂ p hp).2.1 (N₂ p hp).1, (N₂ p hp).2⟩
      refine wpC_mono (step _ i v m₁ new h₂ _ oI hi hP hJ off F₃ N₃ hQ) (fun f s' hf => ?_) fun _ _ q => q
      cases f with
      | next =>
        obtain ⟨h₃, tk₃, m₃, new₃, rfl, F₄, N₄, off₄, hJ₄⟩ := hf
        refine ⟨k - 1, by omega, i + 1, h₃, tk₃, m₃, new₃, by omega, rfl, ?_, F₄, fun p hp => N₄ p (.tail _ hp), off₄, hJ₄⟩
        refine W.frame _ _ _ hS' fun b hb o' he => ?_
        rw [List.mem_singleton.mp hb] at he ⊢
        rw [hoI] at he; cases he
        exact (N₄ _ (.head _)).1
      | cont =>
        obtain ⟨h₃, tk₃, m₃, new₃, rfl, F₄, N₄, off₄, hJ₄⟩ := hf
        refine ⟨k - 1, by omega, i + 1, h₃, tk₃, m₃, new₃, by omega, rfl, ?_, F₄, fun p hp => N₄ p (.tail _ hp), off₄, hJ₄⟩
        refine W.frame _ _ _ hS' fun b hb o' he => ?_
        rw [List.mem_singleton.mp hb] at he ⊢
        rw [hoI] at he; cases he
        exact (N₄ _ (.head _)).1
      | brk => exact hf
      | ret v => exact hf
    · have e : i = n := by omega
      subst e
      refine W.done { s₁ with heap := h, toks := tk } _ _ hS fun h' tk' hk => ?_
      obtain ⟨F₂, N₂⟩ := moved hk
      exact hQ _ h' tk' m₁ new F₂ N₂ hJ
  · intro v; rfl
end
end Mine
end
section
open PySem PySem.W PyProof.Rows PySem.Calls PySem.Builtin PySem.Builtin.Str
set_option maxRecDepth 100000
namespace Mine
section
open PySem.Calls LCg
variable {w : World} {A : Around} {E : Value → Shared → Prop} {s : Shared} {env : Env} {h₀ : Heap} {L : Addr} {m : Str → Option Value}
theorem Assign_ListComp_W {elt iter : Expr} {x y : Str} {px py : Pos} {scope : Scope} {cl : List (Str × Addr)} {pos spos : Pos} {Q : Flow → Shared → Prop} (F₀ : Fr h₀ L s.heap m) (hLe : env.locals = L)
    (hsw : swapsWith (.ListComp elt [⟨.Name x px, iter, [], 0⟩] scope pos) (some (.Name y py)) spos.line env = pure true)
    (hclos : closureFor scope env = pure cl) (hcell : ∀ z ∈ scope.names, z.2 ≠ .cell) (hkind : scope.kind = .function)
    (hnames : ∀ z ∈ scope.names, z.2 = .local → scope.names.lookup z.1 = some .local) (hx : scope.names.lookup x = some .local)
    (hy : env.kindOf y = some .local) (hp : (env.scope.kind == .class || (env.scope.kind == .module && env.locals != env.globals)) = false)
    (h : wpAny (model pg w) A (eval iter env) (CompW w A h₀ L m env elt x scope cl (fun s₂ => FinA h₀ L m s₂ y Q)) E s)
    (hs : ∀ x, foldedSetIterable iter env x = pure x := by intro _; rfl) :
    wpAny (model pg w) A (exec (.Assign [.Name y py] (.ListComp elt [⟨.Name x px, iter, [], 0⟩] scope pos) spos) env) Q E s := by
  subst hLe
  rw [exec_Assign_Name_used _ _ _ _ hsw]
  refine wpAny_bind (wpAny_standAt (wpAny_bind ?_))
  show wpAny _ A (do let _ ← comprehension (.ListComp elt [⟨.Name x px, iter, [], 0⟩] scope pos) scope env _ (newList []) false (eval iter env) (some (assign (.Name y py) env))) _ _ s
  refine wpAny_bind (wpAny_mono (wpAny_comprehension_free (use := some (assign (.Name y py) env)) (Q := fun _ s' => Q .next s') rfl hs hclos hkind hnames
    (wpAny_mono h (fun xv s₁ h₁ => ?_) fun _ _ e => e)) (fun _ s' hq => wpAny_pure (wpAny_pure hq)) fun _ _ e => e)
  obtain ⟨n, P, S, news, hsrc, F, N, hsz, hS, R⟩ := h₁
  refine hsrc _ _ fun o fp St W hfp hIo hSt st => ?_
  refine block_U W hsz hIo hSt hcell hkind hx st hfp
      (F.keeps fun _ _ e => Heap.get?_push_of_some _ e) (N.grown fun _ _ e => Heap.get?_push_of_some _ e) (Nat.ne_of_lt F.ns.lt) (next_is_new F) (fun p hp => Nat.ne_of_lt (Heap.lt_size (N p hp).1)) hS (R _ ⟨_, rfl⟩) ?_
  intro D C h' tk m' ys news' F' N' o1 hn hC₀ hD₀ hCL hDL hCD offC fin
  show wpAny _ A (assign (.Name y py) env (.ref D)) _ _ _
  refine wpAny_assign_Name (wpAny_storeName_local hy F'.ns (fun h₂ hn₂ hs₂ => ?_) hp)
  have hL₀ : h₀.get? env.locals = none := Heap.get?_none_of_le F'.above
  have F₂ : Fr h₀ env.locals h₂ (fun z => if z = y then some (.ref D) else m z) := ⟨hn₂, fun b o e => hs₂.extBut b o (fun q => by rw [q, hL₀] at e; cases e) (F'.keep b o e), F'.above⟩
  refine ⟨m', hn.sameBut hs₂ hCL, fun h'' hs'' => fin D h'' _ (F₂.change hs'' hCL hC₀) (fun p hp => ?_) o1⟩
  have z : h₂.get? p.1 = some p.2 := hs₂.extBut _ _ (N' p hp).2.1 (N' p hp).1
  refine ⟨hs''.extBut _ _ ?_ z, (N' p hp).2⟩
  rcases List.mem_cons.mp hp with rfl | hp
  · exact Ne.symm hCD
  · exact offC p hp
end
section
variable {w : World} {A : Around} {E : Value → Shared → Prop} {s : Shared} {env : Env}
/-- a method call that stands as a statement, in wpC -/
noncomputable def MethFn (K : Frag) (q : Addr) (P : List Value → Shared → Prop) (fx : Value × List Value) (s₂ : Shared) : Prop := fx.1 = .ref q ∧ keepIn K (.ref q) = true ∧ P fx.2 s₂
noncomputable def MethArg (K : Frag) (P : Shared → Prop) (s₃ : Shared) : Prop := K.In s₃.heap ∧ P s₃
theorem wpC_Expr_method {K : Frag} {q : Addr} {o arg : Expr} {name : Str} {apos pos epos : Pos} {pl : Sem Bool} {Q : Flow → Shared → Prop}
    (h : wpAny (model pg w) A (eval o env) (fun ov s₁ => wpAny (model pg w) A (getMethod ov name pl) (MethFn K q fun first s₂ => wpAny (model pg w) A (eval arg env) (fun v s₃ => MethArg K (fun s₃ => wpC (model pg w) A (call (.ref q) (first ++ [v])) (fun r s' => r = .none ∧ Q .next s') E s₃) s₃) E s₂) E s₁) E s)
    (he : eval (.Call (.Attribute o name apos) [arg] [] pos) env = (do
      let ov ← eval o env
      standAt apos.atName
      let (f, first) ← holding [ov] (getMethod ov name pl)
      callWith pos f first [(false, eval arg env)] []) := by rfl)
    (hi : interactive env = false := by rfl) (hs : swapsWith (.Call (.Attribute o name apos) [arg] [] pos) none epos.line env = pure false := by rfl) :
    wpC (model pg w) A (exec (.Expr (.Call (.Attribute o name apos) [arg] [] pos) epos) env) Q E s := by
  refine wpC_Expr (wpC_method (wpAny_mono h (fun ov s₁ h₁ => wpAny_mono h₁ (fun fx s₂ h₂ => ?_) fun _ _ x => x) fun _ _ x => x) he) hi hs
  obtain ⟨e1, e2, h₂⟩ := h₂
  rw [e1]
  refine wpC_callWith (P := K.In) rfl (fun h X => keeps_K e2 h X) (wpC_args_one (wpC_any (wpAny_mono h₂ (fun v s₃ h₃ => ⟨h₃.1, wpC_mono h₃.2 (fun r s' hr => ?_) fun _ _ x => x⟩) fun _ _ x => x)))
  obtain ⟨rfl, hq⟩ := hr
  exact hq
end
/-- how the object and what the law holds go together -/
noncomputable def Held (nm : Value) (i : Bool) (hv : Value) (rest : Led) : Prop :=
  (nm = .none ∧ i = false ∧ hv = .none) ∨
  ∃ b H l zs n, nm = .ref b ∧ i = true ∧ hv = .ref H ∧ (b, baObj l.toArray) ∈ rest ∧ (H, listOf zs.toArray n) ∈ rest ∧ l.length = 11 ∧ IntsAre zs (intsL (nums l))
theorem mem_pull {α : Type} {x d b p : α} {rest : List α} (hb : b ∈ rest) (hp : p ∈ x :: d :: b :: rest) : p ∈ x :: d :: rest := by
  rcases List.mem_cons.mp hp with rfl | hp
  · exact .head _
  · rcases List.mem_cons.mp hp with rfl | hp
    · exact .tail _ (.head _)
    · rcases List.mem_cons.mp hp with rfl | hp
      · exact .tail _ (.tail _ hb)
      · exact .tail _ (.tail _ hp)
theorem mem_push {α : Type} {x d b p : α} {rest : List α} (hp : p ∈ x :: d :: rest) : p ∈ x :: d :: b :: rest := by
  rcases List.mem_cons.mp hp with rfl | hp
  · exact .head _
  · rcases List.mem_cons.mp hp with rfl | hp
    · exact .tail _ (.head _)
    · exact .tail _ (.tail _ (.tail _ hp))
theorem same_ok (w : World) (rest : Led) (x d : Addr) (t1 t2 t3 : Tok) (nm hv : Value) (i : Bool) (hh : Held nm i hv rest) :
    CnT w 273 8 160 [.ref x, hv] [] ((x, instObj 223 d) :: (d, tagD w t1 t2 t3 nm i) :: rest) (fun v new => v = .bool true ∧ new = (x, instObj 223 d) :: (d, tagD w t1 t2 t3 nm i) :: rest) := by
  rcases hh with ⟨rfl, rfl, rfl⟩ | ⟨b, H, l, zs, n, rfl, rfl, rfl, hb, hH, hz, hI⟩
  · intro mean mg mb dp un gd cn cs a' ccd cl outer A₀ base h₀ L m s Q E XB TB D B F X N T hk hdp hun hret
    exact same_no w rest x d t1 t2 t3 mean mg mb dp un gd cn cs a' ccd cl outer A₀ base h₀ L m s Q E XB TB D B F X N T hk hdp (by omega) hret
  · intro mean mg mb dp un gd cn cs a' ccd cl outer A₀ base h₀ L m s Q E XB TB D B F X N T hk hdp hun hret
    refine same_yes w rest x d b H t1 t2 t3 l zs n hz hI (.tail _ (.tail _ (.tail _ hH))) mean mg mb dp un gd cn cs a' ccd cl outer A₀ base h₀ L m s Q E XB TB D B F X (fun p hp => N p (mem_pull hb hp)) T hk hdp hun ?_
    rintro v new h' tk' h₁ ⟨rfl, rfl⟩ T' F' N' B' X' P' D'
    exact hret _ _ h' tk' h₁ ⟨rfl, rfl⟩ T' F' (fun p hp => N' p (mem_push hp)) B' X' P' D'
section
variable {w : World} {A : Around} {E : Value → Shared → Prop} {s : Shared} {h₀ : Heap} {L : Addr} {m : Str → Option Value} {news : Led} {a : Addr}
theorem slice_cells {value slice : Expr} {vs : List Value} {ns : List Int} {t : Tok} {Q : Value → Shared → Prop}
    (F : Fr h₀ L s.heap m) (N : News h₀ L s.heap news) (hl : h₀.IsList a vs.toArray) (hI : IntsAre vs ns) (hn : ns.length ≤ 63)
    (h : ∀ D h' cs ms, IntsAre cs ms → ms.length ≤ 60 → Fr h₀ L h' m → News h₀ L h' ((D, listOf cs.toArray 0) :: news) → (∀ p ∈ news, p.1 < D) → Q (.ref D) { s with heap := h' })
    (hs : subscripted slice false (.ref a) (.ref s.heap.objs.size) = operate [.ref s.heap.objs.size, .ref a] (getItem (.ref a) (.ref s.heap.objs.size)) := by with_unfolding_all rfl)
    (ht : ∀ r, letTemporaryGo value (.ref a) r = pure () := by intro _; with_unfolding_all rfl) :
    wpAny (model pg w) A (subscriptTail value slice (.ref a) (.ref s.heap.objs.size)) Q E { s with heap := s.heap.push { cls := .type "slice", data := .fields #[.none, .int 60 t, .none] } } := by
  have hl' : s.heap.IsList a vs.toArray := by obtain ⟨o, e, r⟩ := hl; exact ⟨o, F.keep _ _ e, r⟩
  refine slice_list F N hl' .none (.int 60 t) (fun h' F' N' => ?_) hs ht (by rw [sizeLine_eq]; simp [hI.length]; omega)
  have hI' := slice_ints_uptoW hI (y := 60) (by decide)
  exact h _ h' _ _ hI' (by rw [List.length_take]; have : (60 : Int).toNat = 60 := rfl; omega) F' N' fun p hp => Nat.lt_succ_of_lt (Heap.lt_size (N p hp).1)
theorem range_src (hh : A.handled = none) {r : Addr} {hi : Int} {t u v : Tok} (hr : IsRange s.heap r 0 hi 1 t u v) (h1 : 0 ≤ hi) (h2 : hi < 2 ^ 62) :
    ∀ (Q : Value → Shared → Prop) (E : Value → Shared → Prop), (∀ (o : Obj) (St : Nat → Heap → Prop), Walks pg w A s.heap.objs.size [s.heap.objs.size] [s.heap.objs.size] hi.toNat (fun i v => ∃ t, v = .int ((i : Nat) : Int) t) St → (∀ i h, St i h → ∃ o, h.get? s.heap.objs.size = some o) → St 0 (s.heap.push o) →
      Q (.ref s.heap.objs.size) { s with heap := s.heap.push o }) → wpAny (model pg w) A (pyIter (.ref r)) Q E s := by
  intro Q E hQ
  refine wpAny_pyIter_range hr (small_one (by decide) (by decide) (by omega) h2) (hQ _ (fun i h => IsRangeIter h s.heap.objs.size (0 + (i : Nat) * 1) ((hi.toNat : Int) - (i : Nat)) 1) ?_ ?_ ?_)
  · have W := Walks.range (prog := pg) (w := w) hh s.heap.objs.size 0 1 hi.toNat
    have e : (fun (i : Nat) (v : Value) => ∃ t, v = .int ((i : Nat) : Int) t) = fun (i : Nat) (v : Value) => ∃ t, v = .int (0 + i * 1) t := by funext i v; simp
    rw [e]; exact W
  · exact fun i h st => ⟨_, st⟩
  · have e2 : (((hi.toNat : Nat) : Int) - ((0 : Nat) : Int)) = Builtin.Range.rangeSize 0 hi 1 := by rw [rangeSize_one]; split <;> omega
    show IsRangeIter _ _ _ _ _
    rw [e2]
    exact Heap.get?_push_size _ rfl
end
/-- the law's locals ahead of a turn -/
noncomputable def fr4 (C x : Addr) (hv : Value) (pl : Int) (tp : Tok) (m₀ : Str → Option Value) : Str → Option Value := fun y =>
  if y = "cells" then some (.ref C) else if y = "tag" then some (.ref x) else if y = "held" then some hv else if y = "place" then some (.int pl tp) else m₀ y
theorem fr4_self {C x : Addr} {hv : Value} {pl : Int} {tp : Tok} {m : Str → Option Value} (h1 : m "cells" = some (.ref C)) (h2 : m "tag" = some (.ref x)) (h3 : m "held" = some hv) (h4 : m "place" = some (.int pl tp)) : m = fr4 C x hv pl tp m := by
  funext y
  unfold fr4
  by_cases e1 : y = "cells"
  · subst e1; rw [if_pos rfl, h1]
  · rw [if_neg e1]
    by_cases e2 : y = "tag"
    · subst e2; rw [if_pos rfl, h2]
    · rw [if_neg e2]
      by_cases e3 : y = "held"
      · subst e3; rw [if_pos rfl, h3]
      · rw [if_neg e3]
        by_cases e4 : y = "place"
        · subst e4; rw [if_pos rfl, h4]
        · rw [if_neg e4]
/-- what holds ahead of a turn of the law's loop -/
noncomputable def LawJ (w : World) (c C x d : Addr) (cs : List Value) (t1 t2 t3 : Tok) (i : Nat) (m : Str → Option Value) (new : Led) : Prop :=
  ∃ nm ii hv pl tp m₀ oc cv rest, m = fr4 C x hv pl tp m₀ ∧ new = (c, oc) :: (C, listOf cs.toArray 0) :: (x, instObj 223 d) :: (d, tagD w t1 t2 t3 nm ii) :: rest ∧ oc.data = .cell cv ∧ Held nm ii hv rest ∧
    0 ≤ pl ∧ pl ≤ 20 * (i : Int) ∧ (∀ p ∈ rest, p.1 ≠ d) ∧ (∀ p ∈ rest, p.1 ≠ c)
theorem wpC_Expr_methodC {w : World} {A : Around} {E : Value → Shared → Prop} {s : Shared} {env : Env} {K : Frag} {q : Addr} {o arg : Expr} {name : Str} {apos pos epos : Pos} {pl : Sem Bool} {Q : Flow → Shared → Prop}
    (h : wpAny (model pg w) A (eval o env) (fun ov s₁ => wpAny (model pg w) A (getMethod ov name pl) (MethFn K q fun first s₂ => wpC (model pg w) A (eval arg env) (fun v s₃ => MethArg K (fun s₃ => wpC (model pg w) A (call (.ref q) (first ++ [v])) (fun r s' => r = .none ∧ Q .next s') E s₃) s₃) E s₂) E s₁) E s)
    (he : eval (.Call (.Attribute o name apos) [arg] [] pos) env = (do
      let ov ← eval o env
      standAt apos.atName
      let (f, first) ← holding [ov] (getMethod ov name pl)
      callWith pos f first [(false, eval arg env)] []) := by rfl)
    (hi : interactive env = false := by rfl) (hs : swapsWith (.Call (.Attribute o name apos) [arg] [] pos) none epos.line env = pure false := by rfl) :
    wpC (model pg w) A (exec (.Expr (.Call (.Attribute o name apos) [arg] [] pos) epos) env) Q E s := by
  refine wpC_Expr (wpC_method (wpAny_mono h (fun ov s₁ h₁ => wpAny_mono h₁ (fun fx s₂ h₂ => ?_) fun _ _ x => x) fun _ _ x => x) he) hi hs
  obtain ⟨e1, e2, h₂⟩ := h₂
  rw [e1]
  refine wpC_callWith (P := K.In) rfl (fun h X => keeps_K e2 h X) (wpC_args_one (wpC_mono h₂ (fun v s₃ h₃ => ⟨h₃.1, wpC_mono h₃.2 (fun r s' hr => ?_) fun _ _ x => x⟩) fun _ _ x => x))
  obtain ⟨rfl, hq⟩ := hr
  exact hq
theorem wp_split {M : Model} {env : Env} {r : List Stmt} (Γ : Ctx) (Q : Flow → Pos → Shared → Prop) (E : Value → Pos → Shared → Prop) : ∀ (l : List Stmt) (p : Pos) (s : Shared),
    Sem.wp M Γ (execs l env) (fun fl p' s' => match fl with | .next => Sem.wp M Γ (execs r env) Q E p' s' | fl => Q fl p' s') E p s → Sem.wp M Γ (execs (l ++ r) env) Q E p s
  | [], p, s, h => h
  | st :: l, p, s, h => by
    rw [List.cons_append, execs_cons, Sem.wp_bind']
    rw [execs_cons, Sem.wp_bind'] at h
    refine Sem.wp_mono M Γ (exec st env) (fun fl p' s' h' => ?_) (fun _ _ _ h' => h') p s h
    cases fl with
    | next => exact wp_split Γ Q E l p' s' h'
    | _ => exact h'
theorem wpC_split5 {M : Model} {A : Around} {E : Value → Shared → Prop} {s : Shared} {env : Env} {a b c d e f : Stmt} {Q : Flow → Shared → Prop} (Mid : Shared → Prop) (h2 : ∀ s', Mid s' → wpC M A (execs [f] env) Q E s')
    (h1 : wpC M A (execs [a, b, c, d, e] env) (fun fl s' => match fl with | .next => Mid s' | fl => Q fl s') E s) : wpC M A (execs [a, b, c, d, e, f] env) Q E s := by
  intro Γ p hΓ x1 x2
  refine wp_split (r := [f]) Γ _ _ [a, b, c, d, e] p s (Sem.wp_mono M Γ _ (fun fl p' s' h' => ?_) (fun _ _ _ h' => h') p s (h1 Γ p hΓ x1 x2))
  cases fl with
  | next => exact h2 s' h' Γ p' hΓ x1 x2
  | _ => exact h'
theorem Held.mono {nm hv : Value} {i : Bool} {rest rest' : Led} (h : Held nm i hv rest) (hs : ∀ p ∈ rest, p ∈ rest') : Held nm i hv rest' := by
  rcases h with h | ⟨b, H, l, zs, n, e1, e2, e3, hb, hH, hz, hI⟩
  · exact .inl h
  · exact .inr ⟨b, H, l, zs, n, e1, e2, e3, hs _ hb, hs _ hH, hz, hI⟩
/-- behind the deed of a turn -/
noncomputable def LawMid (w : World) (h₀ : Heap) (L : Addr) (s₁ : Shared) (I : Addr) (oI : Obj) (c C x d : Addr) (cs : List Value) (t1 t2 t3 : Tok) (i : Nat) (s' : Shared) : Prop :=
  ∃ h' tk' nm ii hv pl tp m₀ oc cv rest, s' = { s₁ with heap := h', toks := tk' } ∧ Fr h₀ L h' (fr4 C x hv pl tp m₀) ∧ News h₀ L h' ((x, instObj 223 d) :: (d, tagD w t1 t2 t3 nm ii) :: (c, oc) :: (C, listOf cs.toArray 0) :: (I, oI) :: rest) ∧
    oc.data = .cell cv ∧ Held nm ii hv rest ∧ 0 ≤ pl ∧ pl ≤ 20 * ((i + 1 : Nat) : Int) ∧ (∀ p ∈ rest, p.1 ≠ d) ∧ (∀ p ∈ rest, p.1 ≠ c) ∧ (∀ p ∈ rest, p.1 ≠ I)
theorem LawMid.intro {w : World} {h₀ : Heap} {L : Addr} {s₁ : Shared} {I : Addr} {oI : Obj} {c C x d : Addr} {cs : List Value} {t1 t2 t3 : Tok} {i : Nat} {h' : Heap} {tk' : Nat} {m : Str → Option Value} {nm hv : Value} {ii : Bool} {pl : Int} {tp : Tok} {oc : Obj} {cv : Option Value} {rest : Led}
    (F : Fr h₀ L h' m) (m1 : m "cells" = some (.ref C)) (m2 : m "tag" = some (.ref x)) (m3 : m "held" = some hv) (m4 : m "place" = some (.int pl tp))
    (N : News h₀ L h' ((x, instObj 223 d) :: (d, tagD w t1 t2 t3 nm ii) :: (c, oc) :: (C, listOf cs.toArray 0) :: (I, oI) :: rest)) (hoc : oc.data = .cell cv) (hH : Held nm ii hv rest) (p0 : 0 ≤ pl) (p1 : pl ≤ 20 * ((i + 1 : Nat) : Int))
    (r1 : ∀ p ∈ rest, p.1 ≠ d) (r2 : ∀ p ∈ rest, p.1 ≠ c) (r3 : ∀ p ∈ rest, p.1 ≠ I) : LawMid w h₀ L s₁ I oI c C x d cs t1 t2 t3 i { s₁ with heap := h', toks := tk' } :=
  ⟨h', tk', nm, ii, hv, pl, tp, m, oc, cv, rest, rfl, by rw [← fr4_self m1 m2 m3 m4]; exact F, N, hoc, hH, p0, p1, r1, r2, r3⟩
theorem sub_cons {α : Type} {a : α} {l t : List α} (h : a ∈ t) (r : ∀ p ∈ l, p ∈ t) : ∀ p ∈ a :: l, p ∈ t := List.forall_mem_cons.mpr ⟨h, r⟩
theorem permA {α : Type} {I c C x d : α} {rest : List α} : ∀ p ∈ x :: d :: c :: C :: I :: rest, p ∈ I :: c :: C :: x :: d :: rest := sub_cons (.tail _ (.tail _ (.tail _ (.head _)))) (sub_cons (.tail _ (.tail _ (.tail _ (.tail _ (.head _))))) (sub_cons (.tail _ (.head _)) (sub_cons (.tail _ (.tail _ (.head _))) (sub_cons (.head _) (fun _ h => .tail _ (.tail _ (.tail _ (.tail _ (.tail _ (h))))))))))
end Mine
end
section
open PySem PySem.W PyProof.Rows PySem.Calls PySem.Builtin PySem.Builtin.Str
set_option maxRecDepth 100000
namespace Mine
section
variable {w : World} {A : Around} {E : Value → Shared → Prop} {s' : Shared} {h₀ G h : Heap} {L e t : Addr} {m : Str → Option Value} {env : Env} {cls c : Value} {vs : List Value} {news : Led} {K : Frag} {Q : Flow → Shared → Prop}
  {b₀ : Stmt} {suite : List Stmt} {pos np : Pos} {rest hs : List ExceptHandler} {x : Str}
/-- a raise that the law's own frame holds -/
noncomputable def LawFl (h₀ : Heap) (L : Addr) (env : Env) (e : Addr) (cls : Value) (t : Addr) (news : Led) (m : Str → Option Value) (h : Heap) : Prop :=
  ∃ B, h₀.StaysIn B ∧ (∀ q ∈ news, B.get? q.1 = some q.2 ∧ h₀.get? q.1 = none) ∧ Heap.FlyingW B [env] e cls (.ref t) h ∧ h.Ns L m ∧ h₀.objs.size ≤ L ∧ B.get? L = none
theorem LawFl.fr (x : LawFl h₀ L env e cls t news m h) : Fr h₀ L h m := by
  obtain ⟨B, hB, _, hfl, hn, ha, _⟩ := x
  exact ⟨hn, fun b o q => hfl.1 b o (hB b o q), ha⟩
theorem LawFl.led (x : LawFl h₀ L env e cls t news m h) : News h₀ L h news := by
  obtain ⟨B, hB, hl, hfl, _, _, hL⟩ := x
  refine fun q hq => ⟨hfl.1 _ _ (hl q hq).1, fun z => ?_, (hl q hq).2⟩
  have := (hl q hq).1
  rw [z, hL] at this
  cases this
theorem LawFl.ty {M : Model} (x : LawFl h₀ L env e cls t news m h) : Looks M h (typeOf (.ref e)) cls := by
  obtain ⟨B, hB, hl, hfl, _⟩ := x
  obtain ⟨ob, hob, hc⟩ := hfl.there
  subst hc
  exact (Looks.ld hob).andThen .now
theorem law_noted (R : RaisedS h₀ G [env] e cls t vs news s'.heap) (F : Fr h₀ L G m) (hsm : G.UpToSlots s'.heap) (hA : A.frames = some [env]) (hf : env.frame = some L)
    (k : ∀ h', LawFl h₀ L env e cls t news m h' → wpAny (model pg w) A (handleBy (.ref e) env hs) Q E { s' with heap := h' }) :
    wpAny (model pg w) A (noteFrame (.ref e) env) (fun _ s₂ => wpAny (model pg w) A (setFlight (.ref e) none) (fun _ s₃ => wpAny (model pg w) A (handleBy (.ref e) env hs) Q E s₃) E s₂) E s' := by
  obtain ⟨⟨B, hB, hBG, hl, hfl, hnew⟩, htup⟩ := R
  refine wpAny_looks_onW hA hf hfl fun h₄ hheld₄ hsm₄ => ?_
  refine wpAny_landsW hheld₄ fun h₅ hheld hsm₅ => ?_
  have hL : B.get? L = none := by
    obtain ⟨_, ⟨L', _, hf', hn', _⟩, _⟩ := hheld.2.2.1
    obtain rfl : L = L' := Option.some.inj (hf.symm.trans hf')
    exact hn'
  exact k h₅ ⟨B, hB, fun q hq => ⟨(hl q hq).1, (hl q hq).2.2⟩, hheld, (hsm.trans (hsm₄.trans hsm₅)).ns F.ns, F.above, hL⟩
theorem law_pass (R : LawFl h₀ L env e cls t news m s'.heap) (X : K.In h₀) (hx : exmOne K cls c = some false)
    (hname : ∀ (A : Around) (Q : Value → Shared → Prop) (E : Value → Shared → Prop), Q c s' → wpAny (model pg w) A (PySem.eval (.Name x np) env) Q E s')
    (k : wpAny (model pg w) A (handleBy (.ref e) env rest) Q E s') {nm : Option Str} {body : List Stmt} :
    wpAny (model pg w) A (handleBy (.ref e) env (.ExceptHandler (some (.Name x np)) nm body pos :: rest)) Q E s' := by
  refine wpAny_handleBy_cons (codeAny_handlers_test (hname _ _ _ ?_)) (by intro q; cases q)
  exact exm_one (X.keeps R.fr.keep) R.ty hx _ _ _ _ (fun _ _ q => q) k
theorem law_hit (R : LawFl h₀ L env e cls t news m s'.heap) (X : K.In h₀) (hx : exmOne K cls c = some true)
    (hname : ∀ (A : Around) (Q : Value → Shared → Prop) (E : Value → Shared → Prop), Q c s' → wpAny (model pg w) A (PySem.eval (.Name x np) env) Q E s')
    (k : ∀ h', Fr h₀ L h' m → News h₀ L h' news → wpAny (model pg w) (A.mark (some (.ref e))) (execs (b₀ :: suite) env) Q (fun _ _ => False) { s' with heap := h' }) :
    wpAny (model pg w) A (handleBy (.ref e) env (.ExceptHandler (some (.Name x np)) none (b₀ :: suite) pos :: rest)) Q E s' := by
  refine wpAny_handleBy_cons (codeAny_handlers_test (hname _ _ _ ?_)) (by intro q; cases q)
  refine exm_one (X.keeps R.fr.keep) R.ty hx _ _ _ _ (fun _ _ q => q) (codeAny_handlers_suite ?_)
  obtain ⟨B, hB, hl, hfl, hn, ha, hL⟩ := R
  refine lands_againW hfl fun h₆ hfl₆ hsm₆ => ?_
  have R' : LawFl h₀ L env e cls t news m h₆ := ⟨B, hB, hl, hfl₆, hsm₆.ns hn, ha, hL⟩
  exact wpAny_mono (k h₆ R'.fr R'.led) (fun _ _ q => q) fun _ _ q => q.elim
end
theorem wpC_cons_mid {M : Model} {A : Around} {E : Value → Shared → Prop} {s : Shared} {env : Env} {st : Stmt} {rest : List Stmt} {Q : Flow → Shared → Prop} (Mid : Shared → Prop)
    (h1 : wpC M A (exec st env) (fun f s' => f = .next ∧ Mid s') E s) (h2 : ∀ s', Mid s' → wpC M A (execs rest env) Q E s') : wpC M A (execs (st :: rest) env) Q E s :=
  wpC_execs_cons (wpC_mono h1 (fun f s' h => by obtain ⟨rfl, h⟩ := h; exact h2 s' h) fun _ _ x => x)
theorem permF {α : Type} {I c C x d : α} {rest : List α} : ∀ p ∈ C :: x :: d :: c :: I :: rest, p ∈ x :: d :: c :: C :: I :: rest := sub_cons (.tail _ (.tail _ (.tail _ (.head _)))) (sub_cons (.head _) (sub_cons (.tail _ (.head _)) (sub_cons (.tail _ (.tail _ (.head _))) (sub_cons (.tail _ (.tail _ (.tail _ (.tail _ (.head _))))) (fun _ h => .tail _ (.tail _ (.tail _ (.tail _ (.tail _ (h))))))))))
/-- nine sizes -/
noncomputable def sizesL : List Int := [11, 11, 11, 11, 11, 9, 10, 12, 13]
theorem sizes_in {k : Int} (h0 : 0 ≤ k) (h1 : k < 9) : 9 ≤ sizesL.getD k.toNat 0 ∧ sizesL.getD k.toNat 0 ≤ 13 := by
  have : ∀ n : Fin 9, 9 ≤ sizesL.getD n.val 0 ∧ sizesL.getD n.val 0 ≤ 13 := by decide
  exact this ⟨k.toNat, by omega⟩
theorem item_sizes {w : World} {A : Around} {E : Value → Shared → Prop} {s : Shared} {value slice : Expr} {l : Addr} {vs : List Value} {k : Int} {u : Tok} {Q : Value → Shared → Prop} (hl : s.heap.IsList l vs.toArray) (hi : IntsAre vs [11, 11, 11, 11, 11, 9, 10, 12, 13])
    (h0 : 0 ≤ k) (h1 : k < 9) (h : ∀ sz : Int, 9 ≤ sz → sz ≤ 13 → ∀ t, Q (.int sz t) s)
    (hs : subscripted slice false (.ref l) (.int k u) = operate [.ref l, .int k u] (getItem (.ref l) (.int k u)) := by with_unfolding_all rfl) :
    wpAny (model pg w) A (subscriptTail value slice (.ref l) (.int k u)) Q E s :=
  item_list_intsR hl hi h0 (by have e : (([11, 11, 11, 11, 11, 9, 10, 12, 13] : List Int).length : Int) = 9 := rfl; omega) (by omega) (fun t => by
    obtain ⟨a, b⟩ := sizes_in h0 h1
    unfold sizesL at a b
    exact h _ a b t) hs
theorem all2_octets {α : Type} : ∀ {l : List α} {ys : List Value}, All2 (fun _ v => ∃ (c : Nat) (u : Tok), v = Value.int (c : Int) u ∧ c < 256) l ys → ∃ l8 : List UInt8, IntsAre ys (intsL (nums l8)) ∧ l8.length = l.length
  | _, _, .nil => ⟨[], .nil, rfl⟩
  | _, _, .cons ⟨c, u, e, hc⟩ h => by
    obtain ⟨l8, h1, h2⟩ := all2_octets h
    subst e
    refine ⟨c.toUInt8 :: l8, ?_, by simp [h2]⟩
    have e : (c.toUInt8.toNat : Int) = (c : Int) := by simp; omega
    show IntsAre _ ((c.toUInt8.toNat : Int) :: intsL (nums l8))
    rw [e]
    exact .cons _ u h1
theorem as_nat {v : Int} {u : Tok} (h0 : 0 ≤ v) (h1 : v < 256) : Value.int v u = Value.int ((v.toNat : Nat) : Int) u ∧ v.toNat < 256 := ⟨by rw [Int.toNat_of_nonneg h0], by omega⟩
noncomputable def fr7 (O : Addr) (len : Nat) (ts tt : Tok) (C x : Addr) (hv : Value) (pl : Int) (tp : Tok) (m₀ : Str → Option Value) : Str → Option Value := fun y =>
  if y = "octets" then some (.ref O) else if y = "size" then some (.int (len : Int) ts) else if y = "told" then some (.int 0 tt) else fr4 C x hv pl tp m₀ y
theorem fr7_self {O : Addr} {len : Nat} {ts tt : Tok} {C x : Addr} {hv : Value} {pl : Int} {tp : Tok} {m : Str → Option Value} (h5 : m "octets" = some (.ref O)) (h6 : m "size" = some (.int (len : Int) ts)) (h7 : m "told" = some (.int 0 tt))
    (h1 : m "cells" = some (.ref C)) (h2 : m "tag" = some (.ref x)) (h3 : m "held" = some hv) (h4 : m "place" = some (.int pl tp)) : m = fr7 O len ts tt C x hv pl tp m := by
  funext y
  unfold fr7
  by_cases e1 : y = "octets"
  · subst e1; rw [if_pos rfl, h5]
  · rw [if_neg e1]
    by_cases e2 : y = "size"
    · subst e2; rw [if_pos rfl, h6]
    · rw [if_neg e2]
      by_cases e3 : y = "told"
      · subst e3; rw [if_pos rfl, h7]
      · rw [if_neg e3]
        exact congrFun (fr4_self h1 h2 h3 h4) y
/-- the octets of the second deed, laid and mended -/
noncomputable def OctMid (w : World) (h₀ : Heap) (L : Addr) (s₁ : Shared) (I : Addr) (oI : Obj) (c C x d : Addr) (cs : List Value) (t1 t2 t3 : Tok) (nm : Value) (ii : Bool) (hv : Value) (pl : Int) (len : Nat) (O : Addr) (rest : Led) (s' : Shared) : Prop :=
  ∃ h' tk' m₀ tp ts tt oc cv ys n l8, s' = { s₁ with heap := h', toks := tk' } ∧ Fr h₀ L h' (fr7 O len ts tt C x hv pl tp m₀) ∧
    News h₀ L h' ((x, instObj 223 d) :: (d, tagD w t1 t2 t3 nm ii) :: (c, oc) :: (C, listOf cs.toArray 0) :: (I, oI) :: (O, listOf ys.toArray n) :: rest) ∧
    oc.data = .cell cv ∧ IntsAre ys (intsL (nums l8)) ∧ l8.length = len
theorem OctMid.intro {w : World} {h₀ : Heap} {L : Addr} {s₁ : Shared} {I : Addr} {oI : Obj} {c C x d : Addr} {cs : List Value} {t1 t2 t3 : Tok} {nm : Value} {ii : Bool} {hv : Value} {pl : Int} {len : Nat} {O : Addr} {rest : Led} {h' : Heap} {tk' : Nat} {m : Str → Option Value} {tp ts tt : Tok} {oc : Obj} {cv : Option Value} {ys : List Value} {n : Nat} {l8 : List UInt8}
    (F : Fr h₀ L h' m) (N : News h₀ L h' ((x, instObj 223 d) :: (d, tagD w t1 t2 t3 nm ii) :: (c, oc) :: (C, listOf cs.toArray 0) :: (I, oI) :: (O, listOf ys.toArray n) :: rest))
    (h5 : m "octets" = some (.ref O)) (h6 : m "size" = some (.int (len : Int) ts)) (h7 : m "told" = some (.int 0 tt))
    (h1 : m "cells" = some (.ref C)) (h2 : m "tag" = some (.ref x)) (h3 : m "held" = some hv) (h4 : m "place" = some (.int pl tp)) (hoc : oc.data = .cell cv) (hI : IntsAre ys (intsL (nums l8))) (hl : l8.length = len) :
    OctMid w h₀ L s₁ I oI c C x d cs t1 t2 t3 nm ii hv pl len O rest { s₁ with heap := h', toks := tk' } :=
  ⟨h', tk', m, tp, ts, tt, oc, cv, ys, n, l8, rfl, by rw [← fr7_self h5 h6 h7 h1 h2 h3 h4]; exact F, N, hoc, hI, hl⟩
theorem set_octet {l8 : List UInt8} {v : Int} {b : UInt8} (h : (b.toNat : Int) = v) : (intsL (nums l8)).set 0 v = intsL (nums (l8.set 0 b)) := by
  subst h
  cases l8 <;> simp
theorem set_oct {l8 : List UInt8} {v : Int} {b : UInt8} {zs : List Value} (z : IntsAre zs ((intsL (nums l8)).set (Int.toNat 0) v)) (h : (b.toNat : Int) = v) : IntsAre zs (intsL (nums (l8.set 0 b))) := by
  have e : (Int.toNat 0) = 0 := rfl
  rw [e, set_octet h] at z
  exact z
theorem permG {α : Type} {a b c C x d I : α} {rest : List α} : ∀ p ∈ x :: d :: c :: C :: I :: a :: rest, p ∈ a :: b :: C :: x :: d :: c :: I :: rest := sub_cons (.tail _ (.tail _ (.tail _ (.head _)))) (sub_cons (.tail _ (.tail _ (.tail _ (.tail _ (.head _))))) (sub_cons (.tail _ (.tail _ (.tail _ (.tail _ (.tail _ (.head _)))))) (sub_cons (.tail _ (.tail _ (.head _))) (sub_cons (.tail _ (.tail _ (.tail _ (.tail _ (.tail _ (.tail _ (.head _))))))) (sub_cons (.head _) (fun _ h => .tail _ (.tail _ (.tail _ (.tail _ (.tail _ (.tail _ (.tail _ (h)))))))))))))
theorem getD_nums (l8 : List UInt8) : List.getD (intsL (nums l8)) (Int.toNat 0) 0 = ((l8.getD 0 0).toNat : Int) := by
  cases l8 <;> rfl
theorem any_oct {l8 : List UInt8} {b : Bool} (h : (List.any [0, 229] fun x => x == List.getD (intsL (nums l8)) (Int.toNat 0) 0) = b) : (b = true → (l8.getD 0 0).toNat = 0 ∨ (l8.getD 0 0).toNat = 229) ∧ (b = false → (l8.getD 0 0).toNat ≠ 0 ∧ (l8.getD 0 0).toNat ≠ 229) := by
  rw [getD_nums] at h
  subst h
  simp
  omega
theorem ne2 {b O d : Addr} {o1 o2 : Obj} {rest : Led} (h1 : @Ne Nat b d) (h2 : @Ne Nat O d) (h3 : ∀ p ∈ rest, p.1 ≠ d) : ∀ p ∈ (b, o1) :: (O, o2) :: rest, p.1 ≠ d := by
  intro p hp
  rcases List.mem_cons.mp hp with rfl | hp
  · exact h1
  rcases List.mem_cons.mp hp with rfl | hp
  · exact h2
  · exact h3 p hp
theorem ne1 {O d : Addr} {o2 : Obj} {rest : Led} (h2 : @Ne Nat O d) (h3 : ∀ p ∈ rest, p.1 ≠ d) : ∀ p ∈ (O, o2) :: rest, p.1 ≠ d := by
  intro p hp
  rcases List.mem_cons.mp hp with rfl | hp
  · exact h2
  · exact h3 p hp
theorem permH {α : Type} {z b O c C x d I : α} {rest : List α} : ∀ p ∈ x :: d :: c :: C :: I :: b :: O :: rest, p ∈ z :: x :: d :: b :: c :: C :: I :: O :: rest := sub_cons (.tail _ (.head _)) (sub_cons (.tail _ (.tail _ (.head _))) (sub_cons (.tail _ (.tail _ (.tail _ (.tail _ (.head _))))) (sub_cons (.tail _ (.tail _ (.tail _ (.tail _ (.tail _ (.head _)))))) (sub_cons (.tail _ (.tail _ (.tail _ (.tail _ (.tail _ (.tail _ (.head _))))))) (sub_cons (.tail _ (.tail _ (.tail _ (.head _)))) (sub_cons (.tail _ (.tail _ (.tail _ (.tail _ (.tail _ (.tail _ (.tail _ (.head _)))))))) (fun _ h => .tail _ (.tail _ (.tail _ (.tail _ (.tail _ (.tail _ (.tail _ (.tail _ (h)))))))))))))))
theorem all2_signs {α : Type} : ∀ {l : List α} {ys : List Value}, All2 (fun _ v => ∃ (c : Nat) (u : Tok), v = Value.str ⟨#[c]⟩ u ∧ 32 ≤ c ∧ c ≤ 126) l ys → ∃ k : List Nat, StrsAre ys (k.map fun c => (⟨#[c]⟩ : Str)) ∧ Prn k ∧ k.length = l.length
  | _, _, .nil => ⟨[], .nil, (fun _ h => absurd h List.not_mem_nil), rfl⟩
  | _, _, .cons ⟨c, u, e, h1, h2⟩ h => by
    obtain ⟨k, q1, q2, q3⟩ := all2_signs h
    subst e
    refine ⟨c :: k, .cons _ u q1, fun d hd => ?_, by simp [q3]⟩
    rcases List.mem_cons.mp hd with rfl | hd
    · exact ⟨h1, h2⟩
    · exact q2 d hd
noncomputable def fr6 (y : Str) (ty tt : Tok) (C x : Addr) (hv : Value) (pl : Int) (tp : Tok) (m₀ : Str → Option Value) : Str → Option Value := fun z =>
  if z = "text" then some (.str y ty) else if z = "told" then some (.int 0 tt) else fr4 C x hv pl tp m₀ z
theorem fr6_self {y : Str} {ty tt : Tok} {C x : Addr} {hv : Value} {pl : Int} {tp : Tok} {m : Str → Option Value} (h5 : m "text" = some (.str y ty)) (h7 : m "told" = some (.int 0 tt))
    (h1 : m "cells" = some (.ref C)) (h2 : m "tag" = some (.ref x)) (h3 : m "held" = some hv) (h4 : m "place" = some (.int pl tp)) : m = fr6 y ty tt C x hv pl tp m := by
  funext z
  unfold fr6
  by_cases e1 : z = "text"
  · subst e1; rw [if_pos rfl, h5]
  · rw [if_neg e1]
    by_cases e2 : z = "told"
    · subst e2; rw [if_pos rfl, h7]
    · rw [if_neg e2]
      exact congrFun (fr4_self h1 h2 h3 h4) z
/-- a text that the law may hand in -/
noncomputable def TxtOk (y : Str) : Prop := Prn (chars y) ∧ y.length ≤ 14 ∧ ∃ c q, chars y = c :: q ∧ c ≠ 32
/-- the text of the first deed, mended -/
noncomputable def TxtMid (w : World) (h₀ : Heap) (L : Addr) (s₁ : Shared) (I : Addr) (oI : Obj) (c C x d : Addr) (cs : List Value) (t1 t2 t3 : Tok) (nm : Value) (ii : Bool) (hv : Value) (pl : Int) (rest : Led) (s' : Shared) : Prop :=
  ∃ h' tk' m₀ tp ty tt oc cv y, s' = { s₁ with heap := h', toks := tk' } ∧ Fr h₀ L h' (fr6 y ty tt C x hv pl tp m₀) ∧
    News h₀ L h' ((x, instObj 223 d) :: (d, tagD w t1 t2 t3 nm ii) :: (c, oc) :: (C, listOf cs.toArray 0) :: (I, oI) :: rest) ∧ oc.data = .cell cv ∧ TxtOk y
theorem TxtMid.intro {w : World} {h₀ : Heap} {L : Addr} {s₁ : Shared} {I : Addr} {oI : Obj} {c C x d : Addr} {cs : List Value} {t1 t2 t3 : Tok} {nm : Value} {ii : Bool} {hv : Value} {pl : Int} {rest : Led} {h' : Heap} {tk' : Nat} {m : Str → Option Value} {tp ty tt : Tok} {oc : Obj} {cv : Option Value} {y : Str}
    (F : Fr h₀ L h' m) (N : News h₀ L h' ((x, instObj 223 d) :: (d, tagD w t1 t2 t3 nm ii) :: (c, oc) :: (C, listOf cs.toArray 0) :: (I, oI) :: rest))
    (h5 : m "text" = some (.str y ty)) (h7 : m "told" = some (.int 0 tt)) (h1 : m "cells" = some (.ref C)) (h2 : m "tag" = some (.ref x)) (h3 : m "held" = some hv) (h4 : m "place" = some (.int pl tp)) (hoc : oc.data = .cell cv) (hy : TxtOk y) :
    TxtMid w h₀ L s₁ I oI c C x d cs t1 t2 t3 nm ii hv pl rest { s₁ with heap := h', toks := tk' } :=
  ⟨h', tk', m, tp, ty, tt, oc, cv, y, rfl, by rw [← fr6_self h5 h7 h1 h2 h3 h4]; exact F, N, hoc, hy⟩
theorem txt_no {y : Str} (hp : Prn (chars y)) (h1 : 1 ≤ y.length) (h2 : y.length ≤ 14) (h : (Txt.item y (0 : Int) == (" " : Str)) = false) : TxtOk y := by
  obtain ⟨n, e1, e2⟩ := item_at (x := y) (j := 0) (by decide) (by omega)
  refine ⟨hp, h2, ?_⟩
  cases hc : chars y with
  | nil => have := chars_len y; rw [hc] at this; simp at this; omega
  | cons c q =>
    refine ⟨c, q, rfl, ?_⟩
    rintro rfl
    have e3 : (chars y)[0]? = some n := by simpa [chars] using e1
    rw [hc] at e3
    have e4 : (32 : Nat) = n := by simpa using e3
    subst e4
    rw [e2] at h
    exact absurd h (by decide)
theorem txt_yes {y : Str} (hp : Prn (chars y)) (h1 : 1 ≤ y.length) (h2 : y.length ≤ 14) : TxtOk ("A" ++ Txt.slice y (some 1) none) := by
  have e : chars ("A" ++ Txt.slice y (some 1) none) = 65 :: (chars y).drop 1 := by rw [chars_append, slice_one]; rfl
  refine ⟨?_, ?_, 65, _, e, by decide⟩
  · rw [e]
    intro c hc
    rcases List.mem_cons.mp hc with rfl | hc
    · omega
    · exact hp c (List.mem_of_mem_drop hc)
  · rw [← chars_len, e, List.length_cons, List.length_drop, chars_len]; omega
theorem permI {α : Type} {a b c C x d I : α} {rest : List α} : ∀ p ∈ x :: d :: c :: C :: I :: rest, p ∈ a :: b :: C :: x :: d :: c :: I :: rest := sub_cons (.tail _ (.tail _ (.tail _ (.head _)))) (sub_cons (.tail _ (.tail _ (.tail _ (.tail _ (.head _))))) (sub_cons (.tail _ (.tail _ (.tail _ (.tail _ (.tail _ (.head _)))))) (sub_cons (.tail _ (.tail _ (.head _))) (sub_cons (.tail _ (.tail _ (.tail _ (.tail _ (.tail _ (.tail _ (.head _))))))) (fun _ h => .tail _ (.tail _ (.tail _ (.tail _ (.tail _ (.tail _ (.tail _ (h))))))))))))
theorem txt_facts {y : Str} (hp : Prn (chars y)) (hl : y.length ≤ 100) : (∀ c ∈ (splitR y).1.cps, c < 256) ∧ (∀ c ∈ (Txt.slice (splitR y).2 (some 1) none).cps, c < 256) ∧ (∀ c ∈ (padR y).cps, c < 256) ∧ (padR y).length ≤ 1000 ∧
    (Conf y → (padL y).length = 11 ∧ ((padL y).getD 0 0).toNat ≠ 229) ∧ (∀ c ∈ chars y, c < 0x110000) := by
  have low : ∀ {z : Str}, Prn (chars z) → ∀ c ∈ z.cps, c < 256 := fun hz c hc => by have := hz c (by simpa [chars] using hc); omega
  exact ⟨low (z := (splitR y).1) (split_prn hp).1, low (z := Txt.slice (splitR y).2 (some 1) none) (split_prn hp).2, low (z := padR y) (padR_prn hp), padR_len hl, pad11 hp, fun c hc => by have := hp c hc; omega⟩
theorem off4 {c C I d : Addr} {o1 o2 o3 : Obj} {rest : Led} (h1 : @Ne Nat c d) (h2 : @Ne Nat C d) (h3 : @Ne Nat I d) (h5 : ∀ p ∈ rest, p.1 ≠ d) : ∀ p ∈ (c, o1) :: (C, o2) :: (I, o3) :: rest, p.1 ≠ d := by
  intro p hp
  rcases List.mem_cons.mp hp with rfl | hp
  · exact h1
  rcases List.mem_cons.mp hp with rfl | hp
  · exact h2
  rcases List.mem_cons.mp hp with rfl | hp
  · exact h3
  · exact h5 p hp
theorem parts_len {y b t : Str} (h : partsL (chars y) = some (chars b, chars t)) : b.length ≤ 8 ∧ t.length ≤ 3 := by
  obtain ⟨r, e, hf, h1, h2⟩ := parts_form.mp h
  rw [← chars_len, ← chars_len, h1, h2]
  exact ⟨Nat.le_trans (len_bareL r) hf.2.2.1, Nat.le_trans (len_bareL e) hf.2.2.2.1⟩
theorem nums_inj {l k : List UInt8} (h : nums l = nums k) : l = k := by
  have e := congrArg (List.map fun n : Nat => n.toUInt8) h
  have z : ∀ l : List UInt8, (nums l).map (fun n : Nat => n.toUInt8) = l := fun l => by
    rw [List.map_map]
    refine (List.map_congr_left (g := fun c => c) fun c _ => ?_).trans (List.map_id' _)
    simp
  rwa [z, z] at e
/-- the octets' text: what it is, and that it gives the same octets anew -/
theorem again_txt {y : Str} {b t : List Nat} (hp : Prn (chars y)) (hq : partsL (chars y) = some (b, t)) {c : Nat} {q : List Nat} (hl : chars y = c :: q) (hc : c ≠ 32) :
    (padL y).length = 11 ∧ Prn (nums (padL y)) ∧ Prn (chars (tagText (padL y))) ∧ (tagText (padL y)).length ≤ 12 ∧ Conf (tagText (padL y)) ∧ padL (tagText (padL y)) = padL y ∧
      (((padL y).getD 0 0).toNat ≠ 0 ∧ ((padL y).getD 0 0).toNat ≠ 229) := by
  have e := pad_parts hp hq
  obtain ⟨g1, g2, g3, g4, g5⟩ := again_form hq hl hc
  have hlen : (padL y).length = 11 := by
    have := congrArg List.length e
    rw [List.length_map, g1] at this
    exact this
  have hP : Prn (nums (padL y)) := by
    have : nums (padL y) = elevenL b t := e
    rw [this]; exact g2
  have hT : chars (tagText (padL y)) = lawText (elevenL b t) := by rw [tag_text hlen hP]; exact congrArg lawText e
  have hPT : Prn (chars (tagText (padL y))) := by rw [hT]; exact g3
  have hpt : partsL (chars (tagText (padL y))) = some (b, t) := by rw [hT]; exact g5
  refine ⟨hlen, hP, hPT, by rw [← chars_len, hT]; exact g4, (conf_parts hPT).mpr (by rw [hpt]; exact fun h => nomatch h), nums_inj ((pad_parts hPT hpt).trans e.symm), ?_⟩
  have hm : (padL y).getD 0 0 ∈ padL y := by rw [List.getD_eq_getElem?_getD, List.getElem?_eq_getElem (by omega)]; exact List.getElem_mem _
  have := hP _ (List.mem_map_of_mem hm)
  exact ⟨by omega, by omega⟩
theorem list_ne_tag {h₀ h : Heap} {L : Addr} {news : Led} {w : World} {P d : Addr} {its : Array Value} {n : Nat} {t1 t2 t3 : Tok} {nm : Value} {ii : Bool} (N : News h₀ L h news) (h1 : (P, listOf its n) ∈ news) (h2 : (d, tagD w t1 t2 t3 nm ii) ∈ news) : @Ne Nat P d := by
  rintro rfl
  have e := (N _ h1).1.symm.trans (N _ h2).1
  have e2 := congrArg (Option.map Obj.cls) e
  simp [W.listOf, W.dictOf] at e2
theorem permJ {α : Type} {P c C x d I : α} {rest : List α} : ∀ p ∈ x :: d :: c :: C :: I :: P :: rest, p ∈ P :: x :: d :: c :: C :: I :: rest := sub_cons (.tail _ (.head _)) (sub_cons (.tail _ (.tail _ (.head _))) (sub_cons (.tail _ (.tail _ (.tail _ (.head _)))) (sub_cons (.tail _ (.tail _ (.tail _ (.tail _ (.head _))))) (sub_cons (.tail _ (.tail _ (.tail _ (.tail _ (.tail _ (.head _)))))) (sub_cons (.head _) (fun _ h => .tail _ (.tail _ (.tail _ (.tail _ (.tail _ (.tail _ (h))))))))))))
theorem permL {α : Type} {x3 d3 b3 x2 d2 b2 : α} {l : List α} : ∀ p ∈ x2 :: d2 :: x3 :: d3 :: b2 :: b3 :: l, p ∈ x3 :: d3 :: b3 :: x2 :: d2 :: b2 :: l := sub_cons (.tail _ (.tail _ (.tail _ (.head _)))) (sub_cons (.tail _ (.tail _ (.tail _ (.tail _ (.head _))))) (sub_cons (.head _) (sub_cons (.tail _ (.head _)) (sub_cons (.tail _ (.tail _ (.tail _ (.tail _ (.tail _ (.head _)))))) (sub_cons (.tail _ (.tail _ (.head _))) (fun _ h => .tail _ (.tail _ (.tail _ (.tail _ (.tail _ (.tail _ (h))))))))))))
theorem permM {α : Type} {z1 z2 z3 z4 z5 z6 H x d b c C I P : α} {rest : List α} : ∀ p ∈ x :: d :: c :: C :: I :: b :: H :: rest, p ∈ z1 :: z2 :: z3 :: z4 :: z5 :: z6 :: H :: x :: d :: b :: c :: C :: I :: P :: rest := sub_cons (.tail _ (.tail _ (.tail _ (.tail _ (.tail _ (.tail _ (.tail _ (.head _)))))))) (sub_cons (.tail _ (.tail _ (.tail _ (.tail _ (.tail _ (.tail _ (.tail _ (.tail _ (.head _))))))))) (sub_cons (.tail _ (.tail _ (.tail _ (.tail _ (.tail _ (.tail _ (.tail _ (.tail _ (.tail _ (.tail _ (.head _))))))))))) (sub_cons (.tail _ (.tail _ (.tail _ (.tail _ (.tail _ (.tail _ (.tail _ (.tail _ (.tail _ (.tail _ (.tail _ (.head _)))))))))))) (sub_cons (.tail _ (.tail _ (.tail _ (.tail _ (.tail _ (.tail _ (.tail _ (.tail _ (.tail _ (.tail _ (.tail _ (.tail _ (.head _))))))))))))) (sub_cons (.tail _ (.tail _ (.tail _ (.tail _ (.tail _ (.tail _ (.tail _ (.tail _ (.tail _ (.head _)))))))))) (sub_cons (.tail _ (.tail _ (.tail _ (.tail _ (.tail _ (.tail _ (.head _))))))) (fun _ h => .tail _ (.tail _ (.tail _ (.tail _ (.tail _ (.tail _ (.tail _ (.tail _ (.tail _ (.tail _ (.tail _ (.tail _ (.tail _ (.tail _ (h)))))))))))))))))))))
theorem ne_of_hid {news : Led} {d : Addr} (h : Hid (∀ p ∈ news, p.1 < d)) : ∀ p ∈ news, p.1 ≠ d := fun p hp => Nat.ne_of_lt (h.out p hp)
theorem ne_of_hid2 {x d : Addr} (h : Hid (d < x)) : @Ne Nat x d := Ne.symm (Nat.ne_of_lt h.out)
theorem held_A {h₀ h : Heap} {L : Addr} {p1 p2 p3 p4 p5 : Addr × Obj} {b2 H : Addr} {l : List UInt8} {zs : List Value} {rest : Led} (_ : News h₀ L h (p1 :: p2 :: p3 :: p4 :: (b2, baObj l.toArray) :: p5 :: (H, LCg.lst zs) :: rest)) (hz : l.length = 11) (hI : IntsAre zs (intsL (nums l))) :
    Hid (Held (.ref b2) true (.ref H) (p1 :: p2 :: p3 :: p4 :: (b2, baObj l.toArray) :: p5 :: (H, LCg.lst zs) :: rest)) :=
  ⟨.inr ⟨b2, H, l, zs, zs.length, rfl, rfl, rfl, .tail _ (.tail _ (.tail _ (.tail _ (.head _)))), .tail _ (.tail _ (.tail _ (.tail _ (.tail _ (.tail _ (.head _)))))), hz, hI⟩⟩
theorem held_B {h₀ h : Heap} {L : Addr} {p1 p2 p3 p4 p5 : Addr × Obj} {b3 H : Addr} {l : List UInt8} {zs : List Value} {rest : Led} (_ : News h₀ L h (p1 :: p2 :: p3 :: p4 :: p5 :: (b3, baObj l.toArray) :: (H, LCg.lst zs) :: rest)) (hz : l.length = 11) (hI : IntsAre zs (intsL (nums l))) :
    Hid (Held (.ref b3) true (.ref H) (p1 :: p2 :: p3 :: p4 :: p5 :: (b3, baObj l.toArray) :: (H, LCg.lst zs) :: rest)) :=
  ⟨.inr ⟨b3, H, l, zs, zs.length, rfl, rfl, rfl, .tail _ (.tail _ (.tail _ (.tail _ (.tail _ (.head _))))), .tail _ (.tail _ (.tail _ (.tail _ (.tail _ (.tail _ (.head _)))))), hz, hI⟩⟩
/-- the same, the object anywhere in the ledger -/
theorem same_any (w : World) (news : Led) (x d : Addr) (t1 t2 t3 : Tok) (nm hv : Value) (i : Bool) (hx : (x, instObj 223 d) ∈ news) (hd' : (d, tagD w t1 t2 t3 nm i) ∈ news) (hh : Held nm i hv news) :
    CnT w 273 8 160 [.ref x, hv] [] news (fun v new => v = .bool true ∧ new = news) := by
  intro mean mg mb dp un gd cn cs a' ccd cl outer A₀ base h₀ L m s Q E XB TB D B F X N T hk hdp hun hret
  refine same_ok w news x d t1 t2 t3 nm hv i hh mean mg mb dp un gd cn cs a' ccd cl outer A₀ base h₀ L m s Q E XB TB D B F X (fun p hp => N p ?_) T hk hdp hun ?_
  · rcases List.mem_cons.mp hp with rfl | hp
    · exact hx
    rcases List.mem_cons.mp hp with rfl | hp
    · exact hd'
    · exact hp
  · rintro v new h' tk' h₁ ⟨rfl, rfl⟩ T' F' N' B' X' P' D'
    exact hret _ _ h' tk' h₁ ⟨rfl, rfl⟩ T' F' (fun p hp => N' p (.tail _ (.tail _ hp))) B' X' P' D'
end Mine
end
section
open PySem PySem.W PyProof.Rows PySem.Calls PySem.Builtin PySem.Builtin.Str
set_option maxRecDepth 100000
namespace Mine
theorem perm4 {α : Type} {a b c d : α} : ∀ p ∈ [a, b, c, d], p ∈ [c, d, b, a] := sub_cons (.tail _ (.tail _ (.tail _ (.head _)))) (sub_cons (.tail _ (.tail _ (.head _))) (sub_cons (.head _) (sub_cons (.tail _ (.head _)) (fun _ h => nomatch h))))
theorem raise_none (ns : List Int) : PySem.Challenge.rw_jj0019_01.row.toRowW.claim.post [ofPy (PyData.list (List.map PyData.int ns))] (.bool true) [ofPy (PyData.list (List.map PyData.int ns))] = true :=
  postW_of (X := true) (by with_unfolding_all rfl) (by with_unfolding_all rfl) rfl
theorem permD {α : Type} {I c C x d : α} {rest : List α} : ∀ p ∈ c :: C :: x :: d :: rest, p ∈ x :: d :: c :: C :: I :: rest := sub_cons (.tail _ (.tail _ (.head _))) (sub_cons (.tail _ (.tail _ (.tail _ (.head _)))) (sub_cons (.head _) (sub_cons (.tail _ (.head _)) (fun _ h => .tail _ (.tail _ (.tail _ (.tail _ (.tail _ (h)))))))))
theorem permE {α : Type} {I c C x d : α} {rest : List α} : ∀ p ∈ I :: c :: C :: x :: d :: rest, p ∈ x :: d :: c :: C :: I :: rest := sub_cons (.tail _ (.tail _ (.tail _ (.tail _ (.head _))))) (sub_cons (.tail _ (.tail _ (.head _))) (sub_cons (.tail _ (.tail _ (.tail _ (.head _)))) (sub_cons (.head _) (sub_cons (.tail _ (.head _)) (fun _ h => .tail _ (.tail _ (.tail _ (.tail _ (.tail _ (h))))))))))
theorem off5 {I c C x d : Addr} {o1 o2 o3 o4 : Obj} {rest : Led} (h1 : @Ne Nat c I) (h2 : @Ne Nat C I) (h3 : @Ne Nat x I) (h4 : @Ne Nat d I) (h5 : ∀ p ∈ rest, p.1 ≠ I) : ∀ p ∈ (c, o1) :: (C, o2) :: (x, o3) :: (d, o4) :: rest, p.1 ≠ I := by
  intro p hp
  rcases List.mem_cons.mp hp with rfl | hp
  · exact h1
  rcases List.mem_cons.mp hp with rfl | hp
  · exact h2
  rcases List.mem_cons.mp hp with rfl | hp
  · exact h3
  rcases List.mem_cons.mp hp with rfl | hp
  · exact h4
  · exact h5 p hp
theorem news_drop1 {h₀ h : Heap} {L : Addr} {a : Addr × Obj} {l : Led} (N : News h₀ L h (a :: l)) : News h₀ L h l := fun p hp => N p (.tail _ hp)
theorem permC {α : Type} {c C x d : α} {rest : List α} : ∀ p ∈ x :: d :: c :: C :: rest, p ∈ c :: C :: x :: d :: rest := sub_cons (.tail _ (.tail _ (.head _))) (sub_cons (.tail _ (.tail _ (.tail _ (.head _)))) (sub_cons (.head _) (sub_cons (.tail _ (.head _)) (fun _ h => .tail _ (.tail _ (.tail _ (.tail _ (h))))))))
section
local macro_rules | `(tactic| walk_at "call builtin:len") => `(tactic| ((with_reducible show wpAny _ _ (call _ [Value.ref _]) _ _ _); k_dflt (refine' len_list (News.isList ?N ?m) ?f ?_; (case N => k_asm); (case m => k_mem); (case f => simp only [List.size_toArray]; omega); k_whole)))
local macro_rules | `(tactic| walk_at "subscriptTail Name Name ref int") => `(tactic| (k_dflt (refine' item_list_intsR (News.isList ?N ?m) ?i ?h0 ?h1 ?h2 ?_; (case N => k_asm); (case m => k_mem); (case i => with_reducible assumption); (case h0 | h1 | h2 => omega); k_whole); intro t'))
local macro_rules | `(tactic| k_all) => `(tactic| assumption)
local macro_rules | `(tactic| walk_at "subscriptTail Name Slice ref ref") => `(tactic| (k_dflt (apply slice_cells; k_asm; k_asm; assumption; assumption; assumption; k_whole); intro D' h' cs' ms' hI' hn' F' N' l1; (try k_lt l1)))
local macro_rules | `(tactic| walk_at "pyIter ref") => `(tactic| ((with_reducible show wpAny _ _ (pyIter _) _ _ _); refine stopH ?_))
local macro_rules | `(tactic| walk_at "exec Assign cons ListComp") => `(tactic| (k_dflt (refine Assign_ListComp_W (F₀ := by k_asm) (by rfl) (by with_unfolding_all rfl) (by with_unfolding_all rfl) (by decide) (by rfl) (by decide) (by rfl) (by rfl) (by rfl) ?_)))
local macro_rules | `(tactic| walk_at "subscriptTail") => `(tactic| ((with_reducible show wpAny _ _ (subscriptTail (Expr.List _ _) _ (Value.ref _) (Value.int _ _)) _ _ _); k_dflt (refine' item_sizes (News.isList ?N ?m) ?i ?h0 ?h1 ?_; (case N => k_asm); (case m => k_mem); (case i => repeat constructor); (case h0 => exact Int.fmod_nonneg_of_pos _ (by decide)); (case h1 => exact Int.fmod_lt_of_pos _ (by decide)); k_whole); intro sz' hs1' hs2' t'))
local macro_rules | `(tactic| walk_at "eval ListComp") => `(tactic| (k_dflt (refine ListComp_W (F₀ := by k_asm) (by with_unfolding_all rfl) (by decide) (by rfl) (by decide) (by rfl) ?_)))
local macro_rules | `(tactic| walk_at "call ref") => `(tactic| (first
  | (walk_at "cn"; first
    | (k_dflt (apply eleven_ok); rotate_left 2; k_dflt (k_mem); rotate_right 2; omega; omega; walk_at "cr"; intro v' new' h' tk' r' F' N'; obtain ⟨D', zs', e1, e2, hI', off'⟩ := r'; subst e1; subst e2)
    | (k_dflt (apply text_ok'); walk_at "hd"; walk_at "hd"; walk_at "hd"; k_dflt (k_mem); walk_at "cr"; walk_at "i1")
    | (k_dflt (apply parts_ok); omega; walk_at "hd"; walk_at "cr"; intro v' new' h' tk' r' F' N'; (rcases r' with ⟨e1, e2, hq'⟩ | ⟨D', b', tb', c', tc', e1, e2, hq'⟩ <;> (subst e1; subst e2)))
    | (k_dflt (apply sign_ok); walk_at "cr"; intro v' new' h' tk' r' F' N'; obtain ⟨⟨c', t', e1, hc1', hc2'⟩, e2⟩ := r'; subst e1; (replace e2 := Eq.symm e2); subst e2)
    | (k_dflt (apply drawn_ok); k_dflt (with_reducible assumption); omega; k_dflt (with_reducible assumption); omega; omega; omega; omega; omega; walk_at "cr"; intro v' new' h' tk' r' F' N'; obtain ⟨D', zs', ns', e1, e2, hI', hn', off'⟩ := r'; subst e1; subst e2)
    | (k_dflt (apply made_ok); walk_at "cr"; intro v' new' h' tk' r' F' N'; obtain ⟨x', d', t1', t2', t3', e1, e2, l1, l2⟩ := r'; subst e1; subst e2; (have l9 := Hid.mk l1); (have l8 := Hid.mk l2); (try k_lt l1); (try k_lt2 l2)))
  | (walk_at "ct"; first
    | (k_dflt (apply conf_ok); omega; walk_at "hd"; walk_at "hd"; walk_at "cr"; intro v' new' h' tk' g' r' T' F' N' B' X' P' D'; obtain ⟨b', e1, e2, q1⟩ := r'; subst e1; subst e2; k_dflt (replace F' := fr_unturn T' F'); k_dflt (replace N' := news_unturn T' N'); clear T' B' X' P' D')
    | (k_dflt (apply same_ok); walk_at "hd"; walk_at "cr"; walk_at "i4")
    | (k_dflt (apply same_any); k_dflt (k_mem); k_dflt (k_mem); walk_at "hd"; walk_at "cr"; walk_at "i4"))
  | (walk_at "cs"; first
    | (k_dflt (apply setb_str); walk_at "cr"; walk_at "i3")
    | (k_dflt (apply setb_ba); walk_at "cr"; walk_at "i3")
    | (k_dflt (apply sets_bytes); walk_at "cr"; walk_at "i3"))))
local macro_rules | `(tactic| walk_at "noteFrame ref") => `(tactic| (k_dflt (apply law_noted; assumption; assumption; assumption; exact rfl; exact rfl; k_whole); intro h' R'))
local macro_rules | `(tactic| walk_at "nx") => `(tactic| (intro A9 Q9 E9 q9; first
  | (refine' nameX_K ?F ?Y ?T ?e ?q ?a ?b; (case F => exact LawFl.fr (by assumption)); (case Y => assumption); (case T => exact topRead_of (by assumption)); (case a | b => rfl); (case e => k_is); (case q => exact q9))
  | (refine' nameX_B ?F ?Y ?T ?e ?v ?n ?q ?a ?b; (case F => exact LawFl.fr (by assumption)); (case Y => assumption); (case T => exact topRead_of (by assumption)); (case a | b => rfl); (case e => k_is); (case v => boot_fast); (case n => decide); (case q => exact q9))))
local macro_rules | `(tactic| walk_at "handleBy ref") => `(tactic| (first
  | (k_dflt (refine' law_hit ?R ?X ?x ?n ?_; (case n => walk_at "nx"); (case R | X => assumption); (case x => kts_exm); k_whole); intro h' F' N')
  | (k_dflt (refine' law_pass ?R ?X ?x ?n ?_; (case n => walk_at "nx"); (case R | X => assumption); (case x => kts_exm); k_whole))))
local macro_rules | `(tactic| walk_at "eval Name") => `(tactic| ((with_reducible show wpAny _ _ (PySem.eval (Expr.Name (PySem.Str.ofString "bytearray") _) _) _ _ _); k_dflt (apply nameX_B; k_asm; k_asm; k_asm; k_is; boot_by_name; decide; rotate_left; rfl; rfl; k_whole)))
local macro_rules | `(tactic| walk_at "call type:bytes") => `(tactic| (k_dflt (apply bytes_held; k_asm; k_asm; rfl; k_mem; walk_at "hd"; walk_at "hd"; k_whole); intro h' t' k' F' N'))
set_option maxHeartbeats 16000000 in
theorem law_holds : PySem.Challenge.rw_jj0019_01.Holds := by
  refine Mine.hd ?_
  unfold Mine.hd.lawD
  intro w s₀ s₁ mg mb G Y fa o pm cd doc dV kV ho hd hcd hD hmg hg args vals as hpre hlay hrd hwl hlo
  have KX := kIn_of Y
  refine Ground.open G ?_
  intro T B D TE TW
  wrow_args hpre hlay hrd hwl hlo
  rename_i ns _ _ _ _ _ _ _ sa vs _ hL _ _ _ hI _ hlen _
  suffices key : ∀ (Q E : Value → Shared → Prop), (∀ h' tk' m', Fr s₁.heap s₁.heap.objs.size h' m' → Q (.bool true) { s₁ with heap := h', toks := tk' }) → wpC (model pg w) callerA (call (.ref fa) [.ref sa]) Q E s₁ by
    refine key _ _ fun h' tk' m' F => ?_
    refine GoodW.toG (goodW_bool F hg (fun _ => rfl) ?_)
    exact raise_none ns
  clear G Y B D TE TW hmg
  intro Q E hQ
  w_top off
  refine wpC_call ?_
  have he := Dflts.none hD rfl; subst he
  have he := Dflts.noKw hD; subst he
  refine law_enter (by decide) ho (fd_plain hd) (Top.nolimit T) hcd rfl (kinds_of (by kinds_ok)) (by decide) fun h₁ tk₁ cells F N0 X0 => ?_
  clear hd ho hcd hD
  k_cells X0
  have B0 := below_caller s₁.heap
  have D0 : KtsDicts (frs []) s₁.heap := ktsDicts_nil
  replace hlen : ns.length ≤ 63 := by omega
  dsimp only
  refine wpC_step ?_
  k_steps
  dsimp only
  refine wpC_step ?_
  k_steps
  dsimp only
  refine wpC_step ?_
  k_steps
  dsimp only
  refine wpC_step ?_
  k_steps
  dsimp only
  refine wpC_execs_cons ?_
  refine wpC_For ?_
  k_steps
  unfold StopH
  rename_i C _ cs ms hI2 hm60 lC _ _ _ x d t1 t2 t3 _ _ lD lX _ _ _ F1 N1 _ _ _ _ _ hr3 F3 N3 k3
  have N2 := cb_drop N3 perm4
  refine wpC_loop (n := (4 : Int).toNat) F3 N2 (range_src rfl hr3 (by decide) (by decide)) (LawJ w _ _ _ _ _ _ _ _) ⟨.none, false, .none, 0, _, _, _, _, [], fr4_self rfl rfl rfl rfl, rfl, by assumption, .inl ⟨rfl, rfl, rfl⟩, by decide, by decide, (fun _ h => nomatch h), (fun _ h => nomatch h)⟩ rfl rfl ?step ?hQ rfl
  case step =>
    clear F1 N1 hr3 F3 N3 k3 N2 hL hI hlen
    intro I i v m₁ new h tk oI hi hv9 hJ9 off F9 N9 hbrk
    refine Classical.byContradiction fun NG9 => ?_
    obtain ⟨t, rfl⟩ := hv9
    obtain ⟨nm, ii, hv, pl, tp, m₀, oc, cv, rest, rfl, rfl, hoc, hH, hp0, hp1, hrd, hrc⟩ := hJ9
    refine NG9 ?_
    clear NG9
    unfold fr4 at F9
    have hsz : cs.toArray.size = ms.length := by rw [List.size_toArray, hI2.length]
    have hz60 : cs.length ≤ 60 := by rw [hI2.length]; exact hm60
    have hp2 : pl ≤ 60 := by have : i < 4 := hi; omega
    have o1 : @Ne Nat (s₁.heap.objs.size + 1) I := off _ (.head _)
    have o2 : @Ne Nat C I := off _ (.tail _ (.head _))
    have o3 : @Ne Nat x I := off _ (.tail _ (.tail _ (.head _)))
    have o4 : @Ne Nat d I := off _ (.tail _ (.tail _ (.tail _ (.head _))))
    have o5 : ∀ p ∈ rest, p.1 ≠ I := fun p hp => off p (.tail _ (.tail _ (.tail _ (.tail _ hp))))
    clear off
    replace N9 := cb_drop N9 permA
    refine wpC_split5 (LawMid w s₁.heap s₁.heap.objs.size s₁ I oI (s₁.heap.objs.size + 1) C x d cs t1 t2 t3 i) ?tl9 ?dd9
    case tl9 =>
      clear hbrk F9 N9 hoc hH hp0 hp1 hp2 hrd hrc o5
      intro s' hJ9
      refine Classical.byContradiction fun NG9 => ?_
      obtain ⟨h', tk', nm, ii, hv, pl, tp, m₀, oc, cv, rest, rfl, F', N', hoc, hH, hp0, hp1, hrd, hrc, o5⟩ := hJ9
      refine NG9 ?_
      clear NG9
      unfold fr4 at F'
      have hH2 : Hid (Held nm ii hv ((s₁.heap.objs.size + 1, oc) :: (C, listOf cs.toArray 0) :: (I, oI) :: rest)) := ⟨hH.mono fun p hp => .tail _ (.tail _ (.tail _ hp))⟩
      refine wpC_execs_cons (wpC_If ?_)
      k_steps
      dsimp only
      refine wpC_execs_nil ?_
      dsimp only
      refine wpC_execs_nil ?_
      exact ⟨_, _, _, _, rfl, by assumption, cb_drop (by assumption) permE, off5 o1 o2 o3 o4 o5, nm, ii, hv, pl, tp, m₀, oc, cv, rest, rfl, rfl, hoc, hH, hp0, hp1, hrd, hrc⟩
    case dd9 =>
      refine wpC_execs_cons (wpC_If ?_)
      k_steps
      · dsimp only
        refine wpC_any ?_
        k_steps
        exact hbrk i _ _ _ _ F9 (cb_drop N9 permD) ⟨nm, ii, hv, pl, tp, _, oc, cv, rest, fr4_self rfl rfl rfl rfl, rfl, hoc, hH, hp0, hp1, hrd, hrc⟩
      clear hbrk
      dsimp only
      refine wpC_execs_nil ?_
      dsimp only
      refine wpC_step ?_
      k_steps
      dsimp only
      refine wpC_step ?_
      k_steps
      dsimp only
      refine wpC_step ?_
      k_steps
      dsimp only
      have N8 := news_drop1 (by assumption)
      refine wpC_execs_cons (wpC_If ?_)
      k_steps
      · dsimp only
        have hb0 : 0 ≤ Int.fmod (Int.fdiv (List.getD ms (Int.toNat pl) 0) 8) 14 := Int.fmod_nonneg_of_pos _ (by decide)
        have hb1 : Int.fmod (Int.fdiv (List.getD ms (Int.toNat pl) 0) 8) 14 < 14 := Int.fmod_lt_of_pos _ (by decide)
        refine wpC_step ?_
        k_steps
        dsimp only
        have N10 := cb_drop (by assumption : News _ _ _ ((x, _) :: _)) permF
        refine wpC_step ?_
        k_steps
        rename_i D9 zs9 ns9 hJ9 hn9 off9 _
        have hz9 : zs9.toArray.size = ns9.length := by rw [List.size_toArray, hJ9.length]
        refine ⟨_, _, _, _, srcW_list rfl (by k_asm) (by k_asm) src_head, by k_asm, by k_asm, (by rw [hz9, hn9, sizeLine_eq]; omega), src_head, ?_⟩
        rintro s₂ ⟨g, rfl⟩
        rw [hz9]
        refine cr_map ns9 (fun n v => ∃ u, v = .int n u) (fun _ v => ∃ (c : Nat) (u : Tok), v = .str ⟨#[c]⟩ u ∧ 32 ≤ c ∧ c ≤ 126) (fun i v h => ?_) ?_ ?_
        · obtain ⟨n, t, e, h2⟩ := hJ9.at i v (by simpa using h)
          exact ⟨n, h2, t, e⟩
        · rintro n v I2 oI2 C2 oC2 D2 m₂ ys h tk E' ha ⟨u, rfl⟩ hC2 hx2 F9 N9 off2 ne2
          k_steps
          all_goals exact ⟨_, _, _, rfl, by k_asm, by k_asm, by k_asm, src_head, rfl, _, _, rfl, by assumption, by assumption⟩
        · intro ys hys
          obtain ⟨k9, hS9, hp9, hk9⟩ := all2_signs hys
          clear hys
          k_steps
          refine' join_list (News.isList ?jl9q (.head _)) ?ji9q ?jok9q ?_
          case jl9q => assumption
          case ji9q => exact hS9
          case jok9q => rw [show ("" : Str).length = 0 from rfl, Nat.mul_zero, Nat.add_zero, singles_sum]; omega
          intro t' k'
          rw [join_signs]
          obtain ⟨y9, hy9⟩ : ∃ y : Str, y = ⟨k9.toArray⟩ := ⟨_, rfl⟩
          have hc9 : chars y9 = k9 := by rw [hy9]
          have hP9 : Prn (chars y9) := by rw [hc9]; exact hp9
          have hl9 : y9.length = ns9.length := by rw [← chars_len, hc9, hk9]
          have hl1 : 1 ≤ y9.length := by omega
          have hl14 : y9.length ≤ 14 := by omega
          rw [← hy9]
          have N11 := cb_drop (by assumption : News _ _ _ (_ :: _ :: (C, _) :: _)) permI
          clear hy9 hc9 hl9 hk9 hp9 hS9 hJ9 hn9 off9 hz9
          k_steps
          dsimp only
          refine wpC_step ?_
          k_steps
          dsimp only
          refine wpC_cons_mid (TxtMid w s₁.heap s₁.heap.objs.size s₁ I oI (s₁.heap.objs.size + 1) C x d cs t1 t2 t3 nm ii hv (pl + 1 + (1 + Int.fmod (Int.fdiv (List.getD ms (Int.toNat pl) 0) 8) 14)) rest) (wpC_If ?_) ?_
          · k_steps
            all_goals dsimp only
            all_goals refine wpC_any ?_
            all_goals k_steps
            · exact TxtMid.intro (by assumption) (by assumption) rfl rfl rfl rfl rfl rfl (by assumption) (txt_yes hP9 hl1 hl14)
            · exact TxtMid.intro (by assumption) (by assumption) rfl rfl rfl rfl rfl rfl (by assumption) (txt_no hP9 hl1 hl14 (by assumption))
          · clear hP9 hl1 hl14
            intro s' hJ9
            refine Classical.byContradiction fun NG9 => ?_
            obtain ⟨h', tk', m₀, tp, ty, tt, oc, cv, y, rfl, F', N', hoc, hPy, hy14, c0, q0, hcq, hc32⟩ := hJ9
            refine NG9 ?_
            clear NG9
            unfold fr6 fr4 at F'
            have hF := txt_facts hPy (by omega)
            have hx1 := Hid.mk hF.1
            have hx2 := Hid.mk hF.2.1
            have hx3 := Hid.mk hF.2.2.1
            have hx4 := Hid.mk hF.2.2.2.1
            have hx5 := Hid.mk hF.2.2.2.2.1
            have hx6 := Hid.mk hF.2.2.2.2.2
            have hxd : @Ne Nat x d := Ne.symm (Nat.ne_of_lt lX)
            have hcd : @Ne Nat (s₁.heap.objs.size + 1) d := Nat.ne_of_lt lD.2
            have hCd : @Ne Nat C d := Nat.ne_of_lt lD.1
            replace hPy := Hid.mk hPy
            replace hcq := Hid.mk hcq
            clear hF
            refine wpC_step ?_
            k_steps
            · dsimp only
              have hnc : Hid (¬ Conf y) := ⟨fun hc => (conf_parts hPy.out).mp hc (by assumption)⟩
              refine wpC_step ?_
              k_steps
              dsimp only
              rename Bool => bb
              have hb : bb = false := by
                have q := (by assumption : (bb = true ↔ Conf y))
                cases bb with
                | false => rfl
                | true => exact absurd (q.mp rfl) hnc.out
              subst hb
              refine wpC_execs_cons (wpC_If ?_)
              k_steps
              try dsimp only
              refine wpC_execs_nil ?_
              try dsimp only
              refine wpC_execs_cons (wpC_Try ?_)
              refine wpC_execs_cons (wpC_Expr_method (K := hd.heap_39 w.params) (q := 172) ?_)
              k_steps
              refine ⟨rfl, by k_is, ?_⟩
              try dsimp only
              k_steps
              have F3 := (by assumption : Fr s₁.heap s₁.heap.objs.size _ _)
              have N3 := (by assumption : News s₁.heap s₁.heap.objs.size _ _)
              refine ⟨KX.keeps F3.keep, ?_⟩
              refine' sets_ok w _ x d t1 t2 t3 nm ii y _ ?q1 hx1.out hx2.out hx3.out hx4.out hx5.out hxd ?q2 _ _ _ _ _ _ _ _ _ _ _ _ _ _ _ _ _ _ ?B9 ?F9 ?X9 ?N9 ?T9 ?hk9 ?hdp9 ?hun9 ?ret9 ?exc9
              case N9 => exact N3
              case B9 => exact B0
              case F9 => exact F3
              case X9 => exact KX
              case T9 => exact T
              case hk9 => exact rfl
              case hdp9 => ktr_room
              case hun9 => ktr_units
              case q1 => omega
              case q2 => exact off4 hcd hCd (Ne.symm o4) hrd
              case ret9 =>
                rintro v new h2 tk2 ⟨w1, _⟩ F2 N2
                exact absurd w1 hnc.out
              case exc9 =>
                rintro e cls t9 vs9 h2 tk2 G ⟨rfl, _⟩ FG S U
                k_steps
                try dsimp only
                refine wpC_execs_cons (wpC_If ?_)
                k_steps
                try dsimp only
                refine wpC_execs_nil ?_
                try dsimp only
                refine wpC_execs_cons (wpC_If ?_)
                k_steps
                try dsimp only
                repeat (refine wpC_execs_nil ?_; dsimp only)
                exact LawMid.intro (i := i) (by assumption) rfl rfl rfl rfl (by assumption) hoc hH (by omega) (by push_cast; omega) hrd hrc o5
            · dsimp only
              rename_i P9 b9 tb9 c9 tc9 hq9 _ _ _
              have hyc : Conf y := (conf_parts hPy.out).mpr (by rw [hq9]; exact fun h => nomatch h)
              obtain ⟨hbl, hcl⟩ := parts_len hq9
              have hpd : nums (padL y) = elevenL (chars b9) (chars c9) := pad_parts hPy.out hq9
              have aa := again_txt hPy.out hq9 hcq.out hc32
              replace hyc := Hid.mk hyc
              replace hpd := Hid.mk hpd
              have a1 := Hid.mk aa.1
              have a2 := Hid.mk aa.2.1
              have a3 := Hid.mk aa.2.2.1
              have a4 := Hid.mk aa.2.2.2.1
              have a5 := Hid.mk aa.2.2.2.2.1
              have a6 := Hid.mk aa.2.2.2.2.2.1
              have a7 := Hid.mk aa.2.2.2.2.2.2.1
              have a8 := Hid.mk aa.2.2.2.2.2.2.2
              clear aa
              replace hq9 := Hid.mk hq9
              have hz11 : Hid ((padL y).length ≤ 1000) := ⟨by rw [a1.out]; decide⟩
              refine wpC_step ?_
              k_steps
              try dsimp only
              rename Bool => bb
              have hb : bb = true := (by assumption : (bb = true ↔ Conf y)).mpr hyc.out
              subst hb
              refine wpC_execs_cons (wpC_If ?_)
              k_steps
              try dsimp only
              refine wpC_execs_nil ?_
              try dsimp only
              have N12 := cb_drop (by assumption : News _ _ _ ((P9, _) :: _)) permJ
              have hPd := list_ne_tag N12 (.tail _ (.tail _ (.tail _ (.tail _ (.tail _ (.head _)))))) (.tail _ (.head _))
              refine wpC_execs_cons (wpC_Try ?_)
              refine wpC_execs_cons (wpC_Expr_method (K := hd.heap_39 w.params) (q := 172) ?_)
              k_steps
              refine ⟨rfl, by k_is, ?_⟩
              dsimp only
              k_steps
              have F3 := (by assumption : Fr s₁.heap s₁.heap.objs.size _ _)
              have N3 := (by assumption : News s₁.heap s₁.heap.objs.size _ _)
              refine ⟨KX.keeps F3.keep, ?_⟩
              refine' sets_ok w _ x d t1 t2 t3 nm ii y _ ?q1 hx1.out hx2.out hx3.out hx4.out hx5.out hxd ?q2 _ _ _ _ _ _ _ _ _ _ _ _ _ _ _ _ _ _ ?B9 ?F9 ?X9 ?N9 ?T9 ?hk9 ?hdp9 ?hun9 ?ret9 ?exc9
              case N9 => exact N3
              case B9 => exact B0
              case F9 => exact F3
              case X9 => exact KX
              case T9 => exact T
              case hk9 => exact rfl
              case hdp9 => ktr_room
              case hun9 => ktr_units
              case q1 => omega
              case q2 => exact off5 hcd hCd (Ne.symm o4) hPd hrd
              case exc9 =>
                rintro e cls t9 vs9 h2 tk2 G ⟨_, w1⟩ FG S U
                exact absurd hyc.out w1
              case ret9 =>
                intro v new h2 tk2 hJ9 F2 N2
                refine Classical.byContradiction fun NG9 => ?_
                obtain ⟨_, rfl, b, rfl, u1, u2, u3⟩ := hJ9
                refine NG9 ?_
                clear NG9
                refine ⟨rfl, ?_⟩
                try dsimp only
                refine wpC_execs_nil ?_
                try dsimp only
                clear F3 N3 N12
                k_steps
                try dsimp only
                refine wpC_execs_cons (wpC_If ?_)
                k_steps
                try dsimp only
                refine wpC_execs_nil ?_
                try dsimp only
                refine wpC_execs_cons (wpC_If ?_)
                k_steps
                try dsimp only
                refine wpC_step ?_
                k_steps
                try dsimp only
                rename_i H9 zs9 hJ9 off9 _ _ _
                have hI9 : Hid (IntsAre zs9 (intsL (nums (padL y)))) := ⟨by rw [hpd.out]; exact hJ9⟩
                have fz := txt_facts a3.out (Nat.le_trans a4.out (by decide))
                have fz1 := Hid.mk fz
                clear fz hJ9
                refine wpC_step ?_
                k_steps
                try dsimp only
                refine wpC_execs_cons (wpC_Expr_method (K := hd.heap_39 w.params) (q := 172) ?_)
                k_steps
                refine ⟨rfl, by k_is, ?_⟩
                try dsimp only
                k_steps
                have F3 := (by assumption : Fr s₁.heap s₁.heap.objs.size _ _)
                have N3 := (by assumption : News s₁.heap s₁.heap.objs.size _ _)
                refine ⟨KX.keeps F3.keep, ?_⟩
                refine' sets_ok w _ _ _ _ _ _ _ _ (tagText (padL y)) _ ?q1 fz1.out.1 fz1.out.2.1 fz1.out.2.2.1 fz1.out.2.2.2.1 fz1.out.2.2.2.2.1 ?q3 ?q2 _ _ _ _ _ _ _ _ _ _ _ _ _ _ _ _ _ _ ?B9 ?F9 ?X9 ?N9 ?T9 ?hk9 ?hdp9 ?hun9 ?ret9 ?exc9
                case N9 => exact N3
                case B9 => exact B0
                case F9 => exact F3
                case X9 => exact KX
                case T9 => exact T
                case hk9 => exact rfl
                case hdp9 => ktr_room
                case hun9 => ktr_units
                case q1 => exact Nat.le_trans a4.out (by decide)
                case q3 => exact ne_of_hid2 (by with_reducible assumption)
                case q2 => exact ne_of_hid (by with_reducible assumption)
                case exc9 =>
                  rintro e cls t9 vs9 h2 tk2 G ⟨_, w1⟩ FG S U
                  exact absurd a5.out w1
                case ret9 =>
                  intro v new h3 tk3 hJ9 F4 N4
                  refine Classical.byContradiction fun NG9 => ?_
                  obtain ⟨_, rfl, b2, rfl, v1, v2, v3⟩ := hJ9
                  refine NG9 ?_
                  clear NG9
                  rw [a6.out] at N4
                  refine ⟨rfl, ?_⟩
                  try dsimp only
                  clear F3 N3
                  refine wpC_step ?_
                  k_steps
                  try dsimp only
                  refine wpC_execs_cons (wpC_Expr_method (K := hd.heap_39 w.params) (q := 165) ?_)
                  k_steps
                  refine ⟨rfl, by k_is, ?_⟩
                  try dsimp only
                  k_steps
                  have F3 := (by assumption : Fr s₁.heap s₁.heap.objs.size _ _)
                  have N3 := (by assumption : News s₁.heap s₁.heap.objs.size _ _)
                  refine ⟨KX.keeps F3.keep, ?_⟩
                  refine' setb_ok w _ _ _ _ _ _ _ _ (padL y) _ hz11.out ?q3 ?q2 _ _ _ _ _ _ _ _ _ _ _ _ _ _ _ _ _ _ ?B9 ?F9 ?X9 ?N9 ?T9 ?hk9 ?hdp9 ?hun9 ?ret9 ?exc9
                  case N9 => exact N3
                  case B9 => exact B0
                  case F9 => exact F3
                  case X9 => exact KX
                  case T9 => exact T
                  case hk9 => exact rfl
                  case hdp9 => ktr_room
                  case hun9 => ktr_units
                  case q3 => exact ne_of_hid2 (by with_reducible assumption)
                  case q2 => exact ne_of_hid (by with_reducible assumption)
                  case exc9 =>
                    rintro e cls t9 vs9 h2 tk2 G z FG S U
                    rcases z with ⟨z1, _⟩ | ⟨_, z2 | z2, _⟩
                    · exact absurd a1.out z1
                    · exact absurd z2 a7.out
                    · exact absurd z2 a8.out
                  case ret9 =>
                    intro v new h4 tk4 hJ9 F5 N5
                    refine Classical.byContradiction fun NG9 => ?_
                    obtain ⟨_, _, _, rfl, b3, rfl, y1, y2, y3⟩ := hJ9
                    refine NG9 ?_
                    clear NG9
                    refine ⟨rfl, ?_⟩
                    try dsimp only
                    clear F3 N3
                    replace N5 := cb_drop N5 permL
                    have hA := held_A N5 a1.out hI9.out
                    have hB := held_B N5 a1.out hI9.out
                    refine wpC_execs_cons (wpC_If ?_)
                    k_steps
                    try dsimp only
                    repeat (refine wpC_execs_nil ?_; try dsimp only)
                    exact LawMid.intro (i := i) (by assumption) rfl rfl rfl rfl (cb_drop (by assumption) permM) hoc (.inr ⟨b, H9, padL y, zs9, _, rfl, rfl, rfl, .head _, .tail _ (.head _), a1.out, hI9.out⟩) (by omega) (by push_cast; omega)
                      (ne2 (Ne.symm (Nat.ne_of_lt u3)) (Ne.symm (off9 _ (.tail _ (.head _)))) hrd)
                      (ne2 (Ne.symm (Nat.ne_of_lt (u1 _ (.head _)))) (Ne.symm (off9 _ (.tail _ (.tail _ (.tail _ (.head _)))))) hrc)
                      (ne2 (Ne.symm (Nat.ne_of_lt (u1 _ (.tail _ (.tail _ (.head _)))))) (Ne.symm (off9 _ (.tail _ (.tail _ (.tail _ (.tail _ (.tail _ (.head _)))))))) o5)
      dsimp only
      refine wpC_execs_cons (wpC_If ?_)
      k_steps
      · dsimp only
        refine wpC_step ?_
        k_steps
        rename Int => sz9
        have N10 := news_drop1 (by assumption)
        dsimp only
        refine wpC_step ?_
        k_steps
        dsimp only
        replace N10 := cb_drop (by assumption : News _ _ _ ((x, _) :: _)) permF
        refine wpC_step ?_
        k_steps
        rename_i D9 zs9 ns9 hJ9 hn9 off9 _
        have hz9 : zs9.toArray.size = ns9.length := by rw [List.size_toArray, hJ9.length]
        refine ⟨_, _, _, _, srcW_list rfl (by k_asm) (by k_asm) src_head, by k_asm, by k_asm, (by rw [hz9, hn9, sizeLine_eq]; omega), src_head, ?_⟩
        rintro s₂ ⟨g, rfl⟩
        rw [hz9]
        refine cr_map ns9 (fun n v => ∃ u, v = .int n u) (fun _ v => ∃ (c : Nat) (u : Tok), v = .int (c : Int) u ∧ c < 256) (fun i v h => ?_) ?_ ?_
        · obtain ⟨n, t, e, h2⟩ := hJ9.at i v (by simpa using h)
          exact ⟨n, h2, t, e⟩
        · rintro n v I2 oI2 C2 oC2 D2 m₂ ys h tk E' ha ⟨u, rfl⟩ hC2 hx2 F9 N9 off2 ne2
          have q1 : 0 ≤ Int.fmod n 256 := Int.fmod_nonneg_of_pos _ (by decide)
          have q2 : Int.fmod n 256 < 256 := Int.fmod_lt_of_pos _ (by decide)
          have q3 : 0 ≤ Int.fmod n 128 := Int.fmod_nonneg_of_pos _ (by decide)
          k_steps
          all_goals exact ⟨_, _, _, rfl, by k_asm, by k_asm, by k_asm, src_head, rfl, _, _, as_nat (by omega) (by omega)⟩
        · intro ys hys
          obtain ⟨l8, hI8, hn8⟩ := all2_octets hys
          clear hys
          have hsz8 : sz9 = (l8.length : Int) := by omega
          subst hsz8
          have hlen8 : (intsL (nums l8)).length = l8.length := by simp
          k_steps
          try dsimp only
          rename_i O9 _ _ _ _ _
          have ff := (by assumption : (@Ne Nat D9 _) ∧ (@Ne Nat C _) ∧ (@Ne Nat x _) ∧ (@Ne Nat d _) ∧ (@Ne Nat (s₁.heap.objs.size + 1) _) ∧ (@Ne Nat I O9) ∧ LCg.Off1 O9 rest)
          have f1 := ff.1
          have f2 := ff.2.1
          have f3 := ff.2.2.1
          have f4 := ff.2.2.2.1
          have f5 := ff.2.2.2.2.1
          have f6 := ff.2.2.2.2.2.1
          have f7 := ff.2.2.2.2.2.2
          clear ff
          have N11 := cb_drop (by assumption : News _ _ _ (_ :: _ :: (C, _) :: _)) permG
          have f8 := off1_ne f7
          clear f7 hJ9 hn9 off9 hz9 hn8
          refine wpC_step ?_
          k_steps
          try dsimp only
          refine wpC_cons_mid (OctMid w s₁.heap s₁.heap.objs.size s₁ I oI (s₁.heap.objs.size + 1) C x d cs t1 t2 t3 nm ii hv (pl + 1 + (l8.length : Int)) l8.length O9 rest) (wpC_If ?_) ?_
          · k_steps
            · dsimp only
              refine wpC_any ?_
              k_steps
              all_goals first
                | exact OctMid.intro (l8 := l8.set 0 0) (by assumption) (by assumption) rfl rfl rfl rfl rfl rfl rfl (by assumption) (set_oct (by assumption) rfl) (by rw [List.length_set])
                | exact OctMid.intro (l8 := l8.set 0 229) (by assumption) (by assumption) rfl rfl rfl rfl rfl rfl rfl (by assumption) (set_oct (by assumption) rfl) (by rw [List.length_set])
            · dsimp only
              refine wpC_any ?_
              k_steps
              all_goals first
                | exact OctMid.intro (l8 := l8.set 0 0) (by assumption) (by assumption) rfl rfl rfl rfl rfl rfl rfl (by assumption) (set_oct (by assumption) rfl) (by rw [List.length_set])
                | exact OctMid.intro (l8 := l8.set 0 229) (by assumption) (by assumption) rfl rfl rfl rfl rfl rfl rfl (by assumption) (set_oct (by assumption) rfl) (by rw [List.length_set])
            · dsimp only
              refine wpC_any ?_
              k_steps
              · exact OctMid.intro (l8 := l8.set 0 6) (by assumption) (by assumption) rfl rfl rfl rfl rfl rfl rfl (by assumption) (set_oct (by assumption) rfl) (by rw [List.length_set])
              · exact OctMid.intro (l8 := l8) (by assumption) (by assumption) rfl rfl rfl rfl rfl rfl rfl (by assumption) hI8 rfl
          · have g1 : ∀ p ∈ (O9, baObj #[]) :: rest, p.1 ≠ d := fun p hp => by
              rcases List.mem_cons.mp hp with rfl | hp
              · exact Ne.symm f4
              · exact hrd p hp
            have g2 : ∀ p ∈ (O9, baObj #[]) :: rest, p.1 ≠ s₁.heap.objs.size + 1 := fun p hp => by
              rcases List.mem_cons.mp hp with rfl | hp
              · exact Ne.symm f5
              · exact hrc p hp
            have g3 : ∀ p ∈ (O9, baObj #[]) :: rest, p.1 ≠ I := fun p hp => by
              rcases List.mem_cons.mp hp with rfl | hp
              · exact Ne.symm f6
              · exact o5 p hp
            have hl9 : 9 ≤ l8.length ∧ l8.length ≤ 13 := by omega
            generalize l8.length = len at hl9
            clear hI8 hlen8 f1
            intro s' hJ9
            refine Classical.byContradiction fun NG9 => ?_
            obtain ⟨h', tk', m₀, tp, ts, tt, oc, cv, ys, n, l8, rfl, F', N', hoc, hI8, hl8⟩ := hJ9
            refine NG9 ?_
            clear NG9
            unfold fr7 fr4 at F'
            have hz1 : Hid (l8.length ≤ 1000) := ⟨by omega⟩
            have hI9 : Hid (IntsAre ys (intsL (nums l8))) := ⟨hI8⟩
            have hxd : @Ne Nat x d := Ne.symm (Nat.ne_of_lt lX)
            have hcd : @Ne Nat (s₁.heap.objs.size + 1) d := Nat.ne_of_lt lD.2
            have hCd : @Ne Nat C d := Nat.ne_of_lt lD.1
            refine wpC_execs_cons (wpC_Try ?_)
            refine wpC_execs_cons (wpC_Expr_method (K := hd.heap_39 w.params) (q := 165) ?_)
            k_steps
            refine ⟨rfl, by k_is, ?_⟩
            dsimp only
            k_steps
            have F3 := (by assumption : Fr s₁.heap s₁.heap.objs.size _ _)
            have N3 := (by assumption : News s₁.heap s₁.heap.objs.size _ _)
            refine ⟨KX.keeps F3.keep, ?_⟩
            refine' setb_ok w _ x d t1 t2 t3 nm ii l8 _ hz1.out hxd ?q2 _ _ _ _ _ _ _ _ _ _ _ _ _ _ _ _ _ _ ?B9 ?F9 ?X9 ?N9 ?T9 ?hk9 ?hdp9 ?hun9 ?ret9 ?exc9
            case N9 => exact N3
            case B9 => exact B0
            case F9 => exact F3
            case X9 => exact KX
            case T9 => exact T
            case hk9 => exact rfl
            case hdp9 => ktr_room
            case hun9 => ktr_units
            case q2 => exact off5 hcd hCd (Ne.symm o4) (Ne.symm f4) hrd
            case ret9 =>
              intro v new h2 tk2 hJ9 F2 N2
              refine Classical.byContradiction fun NG9 => ?_
              obtain ⟨w1, w2, w3, rfl, b, rfl, b1, b2, b3⟩ := hJ9
              refine NG9 ?_
              clear NG9
              refine ⟨rfl, ?_⟩
              dsimp only
              refine wpC_execs_nil ?_
              dsimp only
              clear F3 N3 F' N'
              k_steps
              dsimp only
              refine wpC_execs_cons (wpC_If ?_)
              k_steps
              · exfalso; have := (by assumption : (len : Int) ≠ 11); omega
              · exfalso; rcases (any_oct (by assumption : (List.any [0, 229] fun x => x == List.getD (intsL (nums l8)) (Int.toNat 0) 0) = true)).1 rfl with q | q; exact w2 q; exact w3 q
              · dsimp only
                refine wpC_execs_nil ?_
                dsimp only
                refine wpC_execs_cons (wpC_If ?_)
                k_steps
                dsimp only
                refine wpC_step ?_
                k_steps
                dsimp only
                repeat (refine wpC_execs_nil ?_; dsimp only)
                have c1 : @Ne Nat b (s₁.heap.objs.size + 1) := Ne.symm (Nat.ne_of_lt (b1 _ (.head _)))
                have c2 : @Ne Nat b I := Ne.symm (Nat.ne_of_lt (b1 _ (.tail _ (.tail _ (.head _)))))
                exact LawMid.intro (i := i) (by assumption) rfl rfl rfl rfl (cb_drop (by assumption) permH) hoc (.inr ⟨b, O9, l8, ys, n, rfl, rfl, rfl, .head _, .tail _ (.head _), w1, hI8⟩) (by omega) (by push_cast; omega) (ne2 (Ne.symm (Nat.ne_of_lt b3)) (Ne.symm f4) hrd) (ne2 c1 (Ne.symm f5) hrc) (ne2 c2 (Ne.symm f6) o5)
            case exc9 =>
              rintro e cls t9 vs9 h2 tk2 G z FG S U
              rcases z with ⟨z1, rfl⟩ | ⟨z1, z2, rfl⟩
              · k_steps
                dsimp only
                refine wpC_execs_cons (wpC_If ?_)
                k_steps
                · dsimp only
                  refine wpC_execs_nil ?_
                  dsimp only
                  refine wpC_execs_cons (wpC_If ?_)
                  k_steps
                  dsimp only
                  repeat (refine wpC_execs_nil ?_; dsimp only)
                  exact LawMid.intro (i := i) (by assumption) rfl rfl rfl rfl (by assumption) hoc (hH.mono fun p hp => .tail _ hp) (by omega) (by push_cast; omega) (ne1 (Ne.symm f4) hrd) (ne1 (Ne.symm f5) hrc) (ne1 (Ne.symm f6) o5)
                · exfalso; have := (by assumption : (len : Int) = 11); omega
              · k_steps
                dsimp only
                refine wpC_execs_cons (wpC_If ?_)
                k_steps
                · exfalso; have := (by assumption : (len : Int) ≠ 11); omega
                · dsimp only
                  refine wpC_execs_nil ?_
                  dsimp only
                  refine wpC_execs_cons (wpC_If ?_)
                  k_steps
                  dsimp only
                  repeat (refine wpC_execs_nil ?_; dsimp only)
                  exact LawMid.intro (i := i) (by assumption) rfl rfl rfl rfl (news_drop1 (by assumption)) hoc (hH.mono fun p hp => .tail _ hp) (by omega) (by push_cast; omega) (ne1 (Ne.symm f4) hrd) (ne1 (Ne.symm f5) hrc) (ne1 (Ne.symm f6) o5)
                · exfalso; have q := (any_oct (by assumption : (List.any [0, 229] fun x => x == List.getD (intsL (nums l8)) (Int.toNat 0) 0) = false)).2 rfl; rcases z2 with z | z; exact q.1 z; exact q.2 z
      dsimp only
      refine wpC_execs_cons (wpC_Try ?_)
      refine wpC_execs_cons (wpC_If ?_)
      k_steps
      · dsimp only
        refine wpC_any ?_
        k_steps
        dsimp only
        refine wpC_execs_cons (wpC_If ?_)
        k_steps
        dsimp only
        repeat (refine wpC_execs_nil ?_; dsimp only)
        exact LawMid.intro (i := i) (by assumption) rfl rfl rfl rfl (by assumption) (by assumption) hH (by omega) (by push_cast; omega) hrd hrc o5
      dsimp only
      refine wpC_execs_cons (wpC_If ?_)
      k_steps
      · dsimp only
        refine wpC_any ?_
        k_steps
        dsimp only
        refine wpC_execs_cons (wpC_If ?_)
        k_steps
        dsimp only
        repeat (refine wpC_execs_nil ?_; dsimp only)
        exact LawMid.intro (i := i) (by assumption) rfl rfl rfl rfl (by assumption) (by assumption) hH (by omega) (by push_cast; omega) hrd hrc o5
      dsimp only
      refine wpC_execs_cons (wpC_Expr_methodC (K := hd.heap_39 w.params) (q := 165) ?_)
      k_steps
      refine ⟨rfl, by k_is, ?_⟩
      dsimp only
      refine eval_bytearray ?_
      k_steps
      refine ⟨rfl, ?_⟩
      k_steps
      refine ⟨_, _, rfl, by decide, ?_⟩
      intro b h₂ k hD hb hkp
      k_dflt (obtain ⟨F₁, N₁, l₁⟩ := ba_new (by k_asm) (by k_asm) hD hb hkp)
      refine ⟨KX.keeps F₁.keep, ?_⟩
      have N₂ := cb_drop N₁ to_front3
      clear N₁ hb hkp hD
      refine wpC_any ?_
      k_steps
      dsimp only
      refine wpC_execs_cons (wpC_If ?_)
      k_steps
      dsimp only
      repeat (refine wpC_execs_nil ?_; dsimp only)
      exact LawMid.intro (i := i) (by assumption) rfl rfl rfl rfl (cb_drop (by assumption) keep3) (by assumption) hH (by omega) (by push_cast; omega) hrd hrc o5
  case hQ =>
    clear F1 N1 hr3 F3 N3 k3 N2 hL hI hlen
    intro i h' tk m' new F' N' hJ9
    refine Classical.byContradiction fun NG9 => ?_
    obtain ⟨nm, ii, hv, pl, tp, m₀, oc, cv, rest, rfl, rfl, hoc, hH, hp0, hp1, hrd, hrc⟩ := hJ9
    refine NG9 ?_
    clear NG9
    unfold fr4 at F'
    have hH2 : Hid (Held nm ii hv ((s₁.heap.objs.size + 1, oc) :: (C, listOf cs.toArray 0) :: rest)) := ⟨hH.mono fun p hp => .tail _ (.tail _ hp)⟩
    replace N' := cb_drop N' permC
    dsimp only
    refine wpC_any ?_
    k_steps
    exact hQ _ _ _ (by assumption)
end
end Mine
end
theorem PySem.Challenge.cw_jj0019_01_holds : PySem.Challenge.rw_jj0019_01.Holds :=
  Mine.law_holds
