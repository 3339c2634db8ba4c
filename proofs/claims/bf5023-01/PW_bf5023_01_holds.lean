import PyProof.Rows.All
import PyProof.Ends
import PyProof.CompFree
import PyProof.EqLayable
import PyProof.WalksMore
import PyProof.LetGo
import PyProof.ListRange
import PyProof.Rows.TupAssign
import PyProof.Rows.CellsFrame
import PyProof.ZipIter
import PyProof.Rows.SeqMore3
import Open.Head
import Wide.FinOn
import OpenK.AllK
import Wide.All
import PySem.Challenge.RW_bf5023_01
set_option Elab.async false
section
open PySem PySem.W PySem.Calls PyProof.Rows
set_option Elab.async false
set_option maxRecDepth 100000
namespace Mine

abbrev baObj (ns : List Int) : Obj := { cls := .type "bytearray", data := .bytearray (byteArr ns) }
def Oct (ns : List Int) : Prop := ∀ n ∈ ns, 0 ≤ n ∧ n < 256

theorem ba_slot_getitem : Slot "bytearray" "__getitem__" "bytearray.__getitem__" :=
  .of (owner := "bytearray") (n := "__getitem__") (by rw [typeLookup_type, builtinLookup_eq_fast]; kernel_rfl) (by decide +kernel) (by decide +kernel) (by decide +kernel)
    (by first | exact .inl (by decide +kernel) | exact .inr (by decide +kernel)) (by rw [isSubtype_type]; kernel_rfl)
theorem ba_slot_setitem : Slot "bytearray" "__setitem__" "bytearray.__setitem__" :=
  .of (owner := "bytearray") (n := "__setitem__") (by rw [typeLookup_type, builtinLookup_eq_fast]; kernel_rfl) (by decide +kernel) (by decide +kernel) (by decide +kernel)
    (by first | exact .inl (by decide +kernel) | exact .inr (by decide +kernel)) (by rw [isSubtype_type]; kernel_rfl)
theorem ba_slot_len : Slot "bytearray" "__len__" "bytearray.__len__" :=
  .of (owner := "bytearray") (n := "__len__") (by rw [typeLookup_type, builtinLookup_eq_fast]; kernel_rfl) (by decide +kernel) (by decide +kernel) (by decide +kernel)
    (by first | exact .inl (by decide +kernel) | exact .inr (by decide +kernel)) (by rw [isSubtype_type]; kernel_rfl)
theorem ba_entry_getitem : entryFor table "bytearray.__getitem__" = some Builtin.«bytearray.__getitem__» := by first | exact entryFor_of_fast (by kernel_rfl) | exact entryFor_of_tree (by kernel_rfl)
theorem ba_entry_setitem : entryFor table "bytearray.__setitem__" = some Builtin.«bytearray.__setitem__» := by first | exact entryFor_of_fast (by kernel_rfl) | exact entryFor_of_tree (by kernel_rfl)
theorem ba_entry_len : entryFor table "bytearray.__len__" = some Builtin.«bytearray.__len__» := by first | exact entryFor_of_fast (by kernel_rfl) | exact entryFor_of_tree (by kernel_rfl)
theorem ba_args_getitem (a b : Value) : argsOk "bytearray.__getitem__" ⟨[a, b], []⟩ := by unfold argsOk; kernel_rfl
theorem ba_args_setitem (a b c : Value) : argsOk "bytearray.__setitem__" ⟨[a, b, c], []⟩ := by unfold argsOk; kernel_rfl
theorem ba_args_len (a : Value) : argsOk "bytearray.__len__" ⟨[a], []⟩ := by unfold argsOk; kernel_rfl

section
variable {prog : Program} {w : World} {A : Around} {E : Value → Shared → Prop} {s : Shared} {a : Addr} {ns : List Int}

theorem ba_typeIs (ho : s.heap.get? a = some (baObj ns)) : s.TypeIs (.ref a) "bytearray" := ⟨_, ho, rfl⟩

theorem ba_subscript {M : Model} {k : Int} {t : Tok} {Q : Option Int → Shared → Prop} (h0 : 0 ≤ k) (h1 : k < 2 ^ 63) (h : Q (some k) s) : wpAny M A (Builtin.Bytes.subscript? (.int k t)) Q E s := by
  unfold Builtin.Bytes.subscript?
  refine wpAny_bind (wpAny_specialOf (T := "int") (typeIs_int s k t) int_index ?_)
  show wpAny M A (asIndex (.int k t) >>= _) Q E s
  refine wpAny_bind (wpAny_of_eq (a := k) rfl ?_)
  have hf : Builtin.Bytes.fitsIndex k = true := by
    unfold Builtin.Bytes.fitsIndex
    simp only [Bool.and_eq_true, decide_eq_true_eq]
    omega
  show wpAny M A (if (!Builtin.Bytes.fitsIndex k) = true then _ else _) Q E s
  rw [if_neg (by rw [hf]; decide)]
  exact wpAny_pure h

theorem ba_payload {M : Model} {Q : Array UInt8 → Shared → Prop} (ho : s.heap.get? a = some (baObj ns)) (h : Q (byteArr ns) s) : wpAny M A (Builtin.Bytes.payload (.ref a)) Q E s := by
  unfold Builtin.Bytes.payload Builtin.Bytes.payload?
  refine wpAny_bind (wpAny_bind (wpAny_load ho ?_))
  exact wpAny_pure (wpAny_pure h)

theorem byteArr_get (hb : Oct ns) {k : Int} (h0 : 0 ≤ k) (h1 : k < ns.length) : ∃ x : UInt8, (byteArr ns)[k.toNat]? = some x ∧ ((x.toNat : Nat) : Int) = ns.getD k.toNat 0 := by
  have hk : k.toNat < ns.length := by omega
  refine ⟨(ns[k.toNat]).toNat.toUInt8, ?_, ?_⟩
  · unfold byteArr
    simp [hk]
  · have := hb _ (List.getElem_mem hk)
    rw [byte_back this.1 this.2, List.getD_eq_getElem?_getD, List.getElem?_eq_getElem hk]
    rfl

theorem ba_getItem {k : Int} {t : Tok} {Q : Value → Shared → Prop} (ho : s.heap.get? a = some (baObj ns)) (hb : Oct ns) (h0 : 0 ≤ k) (h1 : k < ns.length) (hz : ns.length ≤ 16777216)
    (h : Q (.int (ns.getD k.toNat 0) s.toks) { s with toks := s.toks + 1 }) : wpAny (model prog w) A (getItem (.ref a) (.int k t)) Q E s := by
  unfold getItem
  try with_reducible refine wpAny_holding ?_
  first | refine wpAny_bind (wpAny_pure ?_) | skip
  refine wpAny_bind (wpAny_sequenceKey (ba_typeIs ho) (by decide) ?_)
  refine wpAny_bind (wpAny_callSpecial?_slot (name := Str.ofString "__getitem__") (ba_typeIs ho) ba_slot_getitem
    (wpAny_call_entry ba_slot_getitem (ba_typeIs ho) ba_entry_getitem ?_ (ba_args_getitem _ _)))
  obtain ⟨x, hx, e⟩ := byteArr_get hb h0 h1
  show wpAny _ _ (Builtin.Bytes.subscript? (.int k t) >>= _) _ _ s
  refine wpAny_bind (ba_subscript h0 (by omega) ?_)
  show wpAny _ _ (Builtin.Bytes.payload (.ref a) >>= _) _ _ s
  refine wpAny_bind (ba_payload ho ?_)
  rw [seqIndex_of h0 (by rw [byteArr_size]; exact h1)]
  simp only [Option.bind_some, hx]
  rw [e]
  first
    | exact wpAny_bind (wpAny_bind (wpAny_mkInt (wpAny_pure (wpAny_pure ⟨_, rfl, wpAny_pure h⟩))))
    | exact wpAny_bind (wpAny_mkInt (wpAny_pure ⟨_, rfl, wpAny_pure h⟩))

theorem byteArr_set {k : Nat} {v : Int} : (byteArr ns).setIfInBounds k v.toNat.toUInt8 = byteArr (ns.set k v) := by
  unfold byteArr
  simp [List.map_set]

theorem Oct.set (hb : Oct ns) {k : Nat} {v : Int} (h0 : 0 ≤ v) (h1 : v < 256) : Oct (ns.set k v) := fun n hn => by
  rcases List.mem_or_eq_of_mem_set hn with h | rfl
  · exact hb n h
  · exact ⟨h0, h1⟩

theorem ba_write {M : Model} {f : Array UInt8 → Array UInt8} {ns' : List Int} {Q : Unit → Shared → Prop} (ho : s.heap.get? a = some (baObj ns)) (hf : f (byteArr ns) = byteArr ns') (hz : ns'.length ≤ 16777216)
    (h : ∀ h', h'.get? a = some (baObj ns') → Heap.SameBut a s.heap h' → Q () { s with heap := h' }) : wpAny M A (Builtin.Bytes.write (.ref a) f) Q E s := by
  show wpAny _ _ (updateBytearray a f) _ _ _
  unfold updateBytearray
  refine wpAny_bind (wpAny_load ho ?_)
  show wpAny _ _ (update a (Obj.mapBytearray f) >>= fun _ => lookBehind a) _ _ _
  refine wpAny_bind (wpAny_update ho ?_)
  have h2 : (s.heap.update a (Obj.mapBytearray f)).get? a = some (baObj ns') := by
    have := Heap.get?_update_self (Obj.mapBytearray f) ho rfl
    rw [this]
    show some (Obj.mk _ _ (.bytearray (f (byteArr ns)) 0) _) = _
    rw [hf]
  refine wpAny_lookBehind h2 ?_ (h _ h2 (Heap.SameBut.update ..))
  show (if (byteArr ns').size > sizeLine then some "bytearray:memory" else none) = none
  rw [if_neg]
  rw [byteArr_size, sizeLine_eq]
  omega

theorem ba_setItem {k v : Int} {t u : Tok} {Q : Unit → Shared → Prop} (ho : s.heap.get? a = some (baObj ns)) (h0 : 0 ≤ k) (h1 : k < ns.length) (hz : ns.length ≤ 16777216) (hv0 : 0 ≤ v) (hv1 : v < 256)
    (h : ∀ h', h'.get? a = some (baObj (ns.set k.toNat v)) → Heap.SameBut a s.heap h' → Q () { s with heap := h' }) : wpAny (model prog w) A (setItem (.ref a) (.int k t) (.int v u)) Q E s := by
  unfold setItem
  try with_reducible refine wpAny_holding ?_
  first | refine wpAny_bind (wpAny_pure ?_) | skip
  refine wpAny_bind (wpAny_sequenceKey (ba_typeIs ho) (by decide) ?_)
  refine wpAny_bind (wpAny_callSpecial?_slot (name := Str.ofString "__setitem__") (ba_typeIs ho) ba_slot_setitem
    (wpAny_call_entry ba_slot_setitem (ba_typeIs ho) ba_entry_setitem ?_ (ba_args_setitem _ _ _)))
  show wpAny _ _ (Builtin.Bytes.subscript? (.int k t) >>= _) _ _ s
  refine wpAny_bind (ba_subscript h0 (by omega) ?_)
  show wpAny _ _ (Builtin.Bytes.byteValue (.int v u) >>= _) _ _ s
  refine wpAny_bind ?_
  unfold Builtin.Bytes.byteValue
  refine wpAny_bind (wpAny_of_eq (a := v) rfl ?_)
  refine bm_if_false (by simp only [Bool.or_eq_false_iff, decide_eq_false_iff_not]; omega) ?_
  refine wpAny_pure ?_
  show wpAny _ _ (Builtin.Bytes.payload (.ref a) >>= _) _ _ s
  refine wpAny_bind (ba_payload ho ?_)
  rw [seqIndex_of h0 (by rw [byteArr_size]; exact h1)]
  refine wpAny_bind (ba_write ho byteArr_set (by rw [List.length_set]; exact hz) fun h' hg hs => ?_)
  first
    | exact wpAny_pure ⟨_, rfl, wpAny_pure (h h' hg hs)⟩
    | exact wpAny_bind (wpAny_pure (wpAny_pure ⟨_, rfl, wpAny_pure (h h' hg hs)⟩))

theorem ba_len {Q : Value → Shared → Prop} (ho : s.heap.get? a = some (baObj ns)) (hfit : ns.length < 2 ^ 62)
    (h : Q (.int ns.length (s.toks + 1)) { s with toks := s.toks + 1 + 1 }) : wpAny (model prog w) A (call (.builtin "len") [.ref a]) Q E s := by
  refine call_function_entry kind_len plain_len entry_len (args_len1 _) ?_
  unfold Builtin.«len»
  refine wpAny_bind (m := oneArg "len" _) (wpAny_pure ?_)
  refine wpAny_bind (m := callSpecial? (.ref a) (Str.ofString "__len__")) (wpAny_callSpecial?_slot (name := Str.ofString "__len__") (ba_typeIs ho) ba_slot_len
    (wpAny_call_entry ba_slot_len (ba_typeIs ho) ba_entry_len ?_ (ba_args_len _)))
  · show wpAny _ _ (do retInt (← Builtin.Bytes.payload (.ref a)).size) _ _ s
    refine wpAny_bind (ba_payload ho ?_)
    refine wpAny_bind (wpAny_mkInt (wpAny_pure ⟨_, rfl, ?_⟩))
    rw [byteArr_size]
    refine wpAny_bind (wpAny_holding (wpAny_pure ?_))
    refine wpAny_bind (wpAny_letGo ?_)
    show wpAny _ _ (if ((ns.length : Nat) : Int) < 0 then _ else _) _ _ _
    rw [if_neg (by omega)]
    show wpAny _ _ (if ((ns.length : Nat) : Int) ≥ 2 ^ 63 then _ else _) _ _ _
    rw [if_neg (by omega)]
    exact wpAny_bind (wpAny_mkInt (wpAny_pure ⟨_, rfl, h⟩))
end
end Mine
end

section
open PySem PySem.W PySem.Calls PyProof.Rows
set_option Elab.async false
set_option maxRecDepth 100000
namespace Mine

theorem ba_slot_iter : Slot "bytearray" "__iter__" "bytearray.__iter__" :=
  .of (owner := "bytearray") (n := "__iter__") (by rw [typeLookup_type, builtinLookup_eq_fast]; kernel_rfl) (by decide +kernel) (by decide +kernel) (by decide +kernel)
    (by first | exact .inl (by decide +kernel) | exact .inr (by decide +kernel)) (by rw [isSubtype_type]; kernel_rfl)
theorem bai_slot_next : Slot "bytearray_iterator" "__next__" "bytearray_iterator.__next__" :=
  .of (owner := "bytearray_iterator") (n := "__next__") (by rw [typeLookup_type, builtinLookup_eq_fast]; kernel_rfl) (by decide +kernel) (by decide +kernel) (by decide +kernel)
    (by first | exact .inl (by decide +kernel) | exact .inr (by decide +kernel)) (by rw [isSubtype_type]; kernel_rfl)
theorem ba_entry_iter : entryFor table "bytearray.__iter__" = some Builtin.«bytearray.__iter__» := by first | exact entryFor_of_fast (by kernel_rfl) | exact entryFor_of_tree (by kernel_rfl)
theorem bai_entry_next : entryFor table "bytearray_iterator.__next__" = some Builtin.«bytearray_iterator.__next__» := by first | exact entryFor_of_fast (by kernel_rfl) | exact entryFor_of_tree (by kernel_rfl)
theorem ba_args_iter (a : Value) : argsOk "bytearray.__iter__" ⟨[a], []⟩ := by unfold argsOk; kernel_rfl
theorem bai_args_next (a : Value) : argsOk "bytearray_iterator.__next__" ⟨[a], []⟩ := by unfold argsOk; kernel_rfl
theorem bai_slot_iter : Slot "bytearray_iterator" "__iter__" "bytearray_iterator.__iter__" :=
  .of (owner := "bytearray_iterator") (n := "__iter__") (by rw [typeLookup_type, builtinLookup_eq_fast]; kernel_rfl) (by decide +kernel) (by decide +kernel) (by decide +kernel)
    (by first | exact .inl (by decide +kernel) | exact .inr (by decide +kernel)) (by rw [isSubtype_type]; kernel_rfl)
theorem bai_entry_iter : entryFor table "bytearray_iterator.__iter__" = some Builtin.«dict_keyiterator.__iter__» :=
  entryFor_alias (id' := "dict_keyiterator.__iter__") (by kernel_rfl) (by first | rfl | decide +kernel | (unfold String.splitOn; simp +decide [String.splitOnAux])) (by decide +kernel) (by kernel_rfl)
theorem bai_args_iter (a : Value) : argsOk "bytearray_iterator.__iter__" ⟨[a], []⟩ := by unfold argsOk; kernel_rfl

abbrev IsBaIter (h : Heap) (I a : Addr) (i : Nat) : Prop := h.get? I = some { cls := .type "bytearray_iterator", data := .fields #[.ref a, .int i 0] }

section
variable {prog : Program} {w : World} {A : Around} {E : Value → Shared → Prop} {s : Shared} {a I : Addr} {ns : List Int}

theorem ba_pyIter {Q : Value → Shared → Prop} (ho : s.heap.get? a = some (baObj ns))
    (hQ : Q (.ref s.heap.objs.size) { s with heap := s.heap.push { cls := .type "bytearray_iterator", data := .fields #[.ref a, .int ((0 : Nat) : Int) 0] } }) :
    wpAny (model prog w) A (pyIter (.ref a)) Q E s := by
  refine wpAny_pyIter_slot (ba_typeIs ho) ba_slot_iter (wpAny_call_entry ba_slot_iter (ba_typeIs ho) ba_entry_iter ?_ (ba_args_iter _))
  show wpAny _ _ (do ret (← newFields "bytearray_iterator" [.ref a, rawInt 0])) _ _ s
  exact wpAny_bind (wpAny_newObj_type (wpAny_pure ⟨_, rfl, "bytearray_iterator", _, ⟨_, Heap.get?_push_size _ rfl, rfl⟩, bai_slot_next.lookup, hQ⟩))

theorem bai_next_item {i : Nat} {Q : Option Value → Shared → Prop} (hb : Oct ns) (hit : IsBaIter s.heap I a i) (ho : s.heap.get? a = some (baObj ns)) (hi : i < ns.length)
    (hQ : ∀ h', IsBaIter h' I a (i + 1) → Heap.SameBut I s.heap h' → Q (some (.int (ns.getD i 0) s.toks)) { s with heap := h', toks := s.toks + 1 }) :
    wpAny (model prog w) A (pyNext (.ref I)) Q E s := by
  have hT : s.TypeIs (.ref I) "bytearray_iterator" := ⟨_, hit, rfl⟩
  obtain ⟨x, hx, e⟩ := byteArr_get hb (k := (i : Int)) (by omega) (by omega)
  rw [Int.toNat_natCast] at hx e
  unfold pyNext
  refine wpAny_bind (wpAny_attempt (wpAny_callSpecial?_slot (name := Str.ofString "__next__") hT bai_slot_next
    (wpAny_call_entry bai_slot_next hT bai_entry_next ?_ (bai_args_next _))))
  show wpAny _ _ (field (.ref I) 0 >>= _) _ _ s
  refine wpAny_bind (wpAny_field hit rfl (x := .ref a) rfl ?_)
  show wpAny _ _ (load a >>= _) _ _ s
  refine wpAny_bind (wpAny_load ho ?_)
  show wpAny _ _ (field (.ref I) 1 >>= _) _ _ s
  refine wpAny_bind (wpAny_field hit rfl (x := .int i 0) rfl ?_)
  simp only [Int.toNat_natCast, hx]
  refine wpAny_bind (wpAny_setField hit rfl (by simp) ?_)
  rw [e]
  refine wpAny_bind (wpAny_mkInt (wpAny_pure ⟨_, rfl, wpAny_pure (hQ _ ?_ (Heap.SameBut.update ..))⟩))
  show Heap.get? _ I = _
  rw [Heap.get?_update_self _ hit rfl]
  simp [Obj.mapFields, rawInt]

theorem bai_next_end {Q : Option Value → Shared → Prop} (hh : A.handled = none) (hit : IsBaIter s.heap I a ns.length) (ho : s.heap.get? a = some (baObj ns))
    (hQ : ∀ h', Heap.ExtBut I s.heap h' → Q none { s with heap := h' }) :
    wpAny (model prog w) A (pyNext (.ref I)) Q E s := by
  have hT : s.TypeIs (.ref I) "bytearray_iterator" := ⟨_, hit, rfl⟩
  have hx : (byteArr ns)[ns.length]? = none := by
    rw [Array.getElem?_eq_none]
    rw [byteArr_size]
    exact Nat.le_refl _
  unfold pyNext
  refine wpAny_bind (wpAny_attempt (wpAny_callSpecial?_slot (name := Str.ofString "__next__") hT bai_slot_next
    (wpAny_call_entry bai_slot_next hT bai_entry_next ?_ (bai_args_next _))))
  show wpAny _ _ (field (.ref I) 0 >>= _) _ _ s
  refine wpAny_bind (wpAny_field hit rfl (x := .ref a) rfl ?_)
  show wpAny _ _ (load a >>= _) _ _ s
  refine wpAny_bind (wpAny_load ho ?_)
  show wpAny _ _ (field (.ref I) 1 >>= _) _ _ s
  refine wpAny_bind (wpAny_field hit rfl (x := .int ns.length 0) rfl ?_)
  simp only [Int.toNat_natCast, hx]
  refine wpAny_bind (wpAny_rule (wpAny_bind (wpAny_setField hit rfl (by simp) ?_)))
  refine wpAny_bind (wpAny_letGo ?_)
  unfold Builtin.SmallTypes.stopIteration
  show wpAny _ _ (newExc (.type "StopIteration") [] >>= _) _ _ _
  refine wpAny_bind ?_
  simp only [newExc, newTuple]
  refine wpAny_bind (wpAny_newObj_type ?_ (by size_fits))
  refine wpAny_bind (m := firstArgMember _ _) (wpAny_of_eq (a := Value.none) (by first | rfl | (simp only [firstArgMember]; rfl)) ?_)
  refine wpAny_newObj_type ?_ (by size_fits)
  simp only [raiseNew]
  refine wpAny_bind (wpAny_handled ?_)
  rw [show A.in1.handled = none from hh]
  refine wpAny_bind (wpAny_pure (wpAny_throw ?_))
  refine wpAny_bind (wpAny_isInstance (T := "StopIteration") (b := true) ⟨_, Heap.get?_push_size _ rfl, rfl⟩ isSubtype_stop ?_)
  exact wpAny_pure (hQ _ (((Heap.SameBut.update ..).extBut.push _).push _))

theorem bai_pyIter {i : Nat} {Q : Value → Shared → Prop} (hit : IsBaIter s.heap I a i) (h : Q (.ref I) s) : wpAny (model prog w) A (pyIter (.ref I)) Q E s := by
  have hT : s.TypeIs (.ref I) "bytearray_iterator" := ⟨_, hit, rfl⟩
  refine wpAny_pyIter_slot hT bai_slot_iter (wpAny_call_entry bai_slot_iter hT bai_entry_iter ?_ (bai_args_iter _))
  show wpAny _ _ (ret (.ref I)) _ _ s
  exact wpAny_pure ⟨_, rfl, "bytearray_iterator", _, hT, bai_slot_next.lookup, h⟩

theorem walks_ba (hh : A.handled = none) (hne : a ≠ I) (hb : Oct ns) :
    Walks prog w A I [I, a] [I] ns.length (fun i v => ∃ t, v = .int (ns.getD i 0) t) (fun i h => IsBaIter h I a i ∧ h.get? a = some (baObj ns)) where
  sub := fun b hb => by simp at hb; simp [hb]
  frame := fun _ _ _ st hk => ⟨hk I (by simp) _ st.1, hk a (by simp) _ st.2⟩
  item := fun i s Q E hi st hQ => by
    refine bai_next_item hb st.1 st.2 hi fun h' hit' hs' => ?_
    exact hQ _ h' _ ⟨_, rfl⟩ ⟨hit', (hs'.2 a hne).trans st.2⟩ fun b o hb e => hs'.extBut b o (fun h => hb (by simp [h])) e
  done := fun s Q E st hQ => bai_next_end hh st.1 st.2 fun h' he' => hQ h' s.toks fun b o hb e => he' b o (fun h => hb (by simp [h])) e
  self := fun _ _ _ _ st hQ => bai_pyIter st.1 hQ

theorem ba_hint {Q : Bool → Shared → Prop} (ho : s.heap.get? a = some (baObj ns)) (h : Q false s) : wpAny (model prog w) A (Builtin.List.listLengthHint (.ref a)) Q E s := by
  unfold Builtin.List.listLengthHint
  refine wpAny_bind (wpAny_specialOf (ba_typeIs ho) ba_slot_len.lookup ?_)
  generalize hid : ("bytearray.__len__" : String) = id0
  wp_delta
  rw [show splitId id0 = some ("bytearray", "__len__") from by subst hid; decide +kernel]
  subst hid
  refine wpAny_bind (wpAny_isInstance (T := "bytearray") (b := true) (ba_typeIs ho) (by rw [isSubtype_type]; kernel_rfl) ?_)
  refine wpAny_ite_split (fun hab => absurd hab (by decide)) (fun _ => ?_)
  refine wpAny_ite_split (fun _ => ?_) (fun hab => absurd (by decide +kernel) hab)
  refine wpAny_bind (wpAny_typeOf (ba_typeIs ho) ?_)
  exact wpAny_pure h

theorem ba_extend {R : Result → Shared → Prop} (hh : A.handled = none) (ho : s.heap.get? a = some (baObj ns)) (hb : Oct ns) (hlen : ns.length ≤ 16777216) (S : Addr) (res : Value) (c₀ : Nat) (hS : s.heap.get? S = some { cls := .type "list", data := .seq #[] c₀ })
    (hR : ∀ h' tk acc' c', (∀ b o, b ≠ S → s.heap.get? b = some o → h'.get? b = some o) → h'.get? S = some { cls := .type "list", dict := none, data := .seq acc' c', slots := #[] } →
      ItemsOf (fun i v => ∃ t, v = .int (ns.getD i 0) t) acc' ns.length → R (.ok (.ret res)) { s with heap := h', toks := tk }) :
    wpAny (model prog w) A.in1 (Builtin.List.listExtendWith (.ref S) (.ref a) res)
      (fun fin s' => match fin with | .done f => R (.ok f) s' | .again c' => c'.quiet = true ∧ codeAny (model prog w) A c' R s') (fun e s' => R (.error e) s') s := by
  have hSr : S ≠ a := fun e => by rw [e, ho] at hS; simp at hS
  have hSlt : S < s.heap.objs.size := Heap.lt_size hS
  have hSI : S ≠ s.heap.objs.size := Nat.ne_of_lt hSlt
  have haI : a ≠ s.heap.objs.size := Nat.ne_of_lt (Heap.lt_size ho)
  have hSf : S ∉ [s.heap.objs.size, a] := fun hm => by
    rcases List.mem_cons.mp hm with h | h
    · exact hSI h
    · exact hSr (List.mem_singleton.mp h)
  have W := (walks_ba (prog := prog) (w := w) (A := A.in1) (I := s.heap.objs.size) hh haI hb).toS
  unfold Builtin.List.listExtendWith
  refine wpAny_bind (wpAny_typeOf (ba_typeIs ho) ?_)
  have h1 : Builtin.List.listSameRef (.ref S) (.ref a) = false := by simp [Builtin.List.listSameRef, hSr]
  have h2 : (Value.type "bytearray" == Value.type "list") = false := by decide
  have h3 : (Value.type "bytearray" == Value.type "tuple") = false := by decide
  simp only [h1, h2, h3, Bool.or_false, Bool.false_eq_true, if_false]
  refine wpAny_bind (ba_pyIter ho ?_)
  have ho₁ : (s.heap.push { cls := .type "bytearray_iterator", data := .fields #[.ref a, .int ((0 : Nat) : Int) 0] }).get? a = some (baObj ns) := Heap.get?_push_of_some _ ho
  refine wpAny_bind (wpAny_holding (ba_hint (s := { s with heap := s.heap.push { cls := .type "bytearray_iterator", data := .fields #[.ref a, .int ((0 : Nat) : Int) 0] } }) ho₁ ?_))
  refine wpAny_ite_split (fun hab => absurd hab (by decide +kernel)) (fun _ => ?_)
  refine wpAny_pure ⟨plainId_quiet F.plain_extend_loop _, codeAny_extend_loopS W (by rw [sizeLine_eq]; omega) S hSf res ns.length 0 _ #[] c₀ rfl (Nat.zero_le _) ⟨Heap.get?_push_size _ rfl, ho₁⟩ (Heap.get?_push_of_some _ hS) (ItemsOf.nil _) fun s' acc' c' hm hS' hacc => ?_⟩
  rw [Moved.eq_with hm]
  refine hR s'.heap s'.toks acc' c' (fun b o hb e => hm.heap b o (fun hmem => ?_) (Heap.get?_push_of_some _ e)) hS' hacc
  rcases List.mem_cons.mp hmem with e' | hmem
  · exact hb e'
  · exact absurd (Heap.lt_size e) (by rw [List.mem_singleton.mp hmem]; exact Nat.lt_irrefl _)

theorem ba_list_init {R : Result → Shared → Prop} (hh : A.handled = none) (ho : s.heap.get? a = some (baObj ns)) (hb : Oct ns) (hlen : ns.length ≤ 16777216) (S : Addr) (hS : s.heap.get? S = some { cls := .type "list", data := .seq #[] })
    (hR : ∀ h' tk acc' c', (∀ b o, b ≠ S → s.heap.get? b = some o → h'.get? b = some o) → h'.get? S = some { cls := .type "list", dict := none, data := .seq acc' c', slots := #[] } →
      ItemsOf (fun i v => ∃ t, v = .int (ns.getD i 0) t) acc' ns.length → R (.ok (.ret .none)) { s with heap := h', toks := tk }) :
    wpAny (model prog w) A.in1 (Builtin.«list.__init__» ⟨[.ref S, .ref a], []⟩)
      (fun fin s' => match fin with | .done f => R (.ok f) s' | .again c' => c'.quiet = true ∧ codeAny (model prog w) A c' R s') (fun e s' => R (.error e) s') s := by
  have hSr : S ≠ a := fun e => by rw [e, ho] at hS; simp at hS
  show wpAny _ _ (do let old ← Builtin.List.listItems (.ref S); Builtin.List.listUpdate (.ref S) (fun _ => #[]); letGo old.toList.reverse; Builtin.List.listExtendWith (.ref S) (.ref a) .none) _ _ s
  refine wpAny_bind ?_
  unfold Builtin.List.listItems
  refine wpAny_bind (wpAny_seqItems hS rfl (wpAny_pure ?_))
  show wpAny _ _ (updateSeq S (fun _ => #[]) >>= fun _ => letGo (#[] : Array Value).toList.reverse >>= fun _ => Builtin.List.listExtendWith (.ref S) (.ref a) .none) _ _ s
  refine wpAny_bind (wpAny_updateSeq hS rfl ?_)
  have hS₂ := Heap.get?_update_self (Obj.mapSeq (fun _ => (#[] : Array Value))) hS rfl
  have oth : ∀ b o, b ≠ S → s.heap.get? b = some o → (s.heap.update S (Obj.mapSeq (fun _ => (#[] : Array Value)))).get? b = some o :=
    fun b o hb e => (Heap.get?_update_other _ _ (Ne.symm hb)).trans e
  refine wpAny_bind (wpAny_letGo ?_)
  refine ba_extend hh (oth a _ (Ne.symm hSr) ho) hb hlen S .none _ hS₂ fun h' tk acc' c' hk hS' hacc => ?_
  exact hR h' tk acc' c' (fun b o hb e => hk b o hb (oth b o hb e)) hS' hacc

theorem ints_of_items {acc : Array Value} (h : ItemsOf (fun i v => ∃ t, v = Value.int (ns.getD i 0) t) acc ns.length) : IntsAre acc.toList ns := by
  obtain ⟨l⟩ := acc
  obtain ⟨h1, h2⟩ := h
  simp only [List.size_toArray] at h1
  simp only [List.getElem?_toArray] at h2
  show IntsAre l ns
  revert ns
  induction l with
  | nil =>
    intro ns h1 _
    cases ns with
    | nil => exact .nil
    | cons n r => simp at h1
  | cons v r ih =>
    intro ns h1 h2
    cases ns with
    | nil => simp at h1
    | cons n rs =>
      obtain ⟨t, e⟩ := h2 0 v rfl
      subst e
      refine .cons n t ?_
      exact ih (by simpa using h1) fun j x hx => by
        have := h2 (j + 1) x (by simpa using hx)
        simpa using this

/-- list(x) of a bytearray: a new list of its octets -/
theorem ba_list {Q : Value → Shared → Prop} (hh : A.handled = none) (ho : s.heap.get? a = some (baObj ns)) (hb : Oct ns) (hlen : ns.length ≤ 16777216)
    (hQ : ∀ h' tk (vs : List Value) c', (∀ b o, s.heap.get? b = some o → h'.get? b = some o) → h'.get? s.heap.objs.size = some { cls := .type "list", data := .seq vs.toArray c' } → IntsAre vs ns →
      Q (.ref s.heap.objs.size) { s with heap := h', toks := tk }) :
    wpAny (model prog w) A (call (.type "list") [.ref a]) Q E s := by
  refine callType_codes (Q₁ := fun obj s₁ => obj = .ref s.heap.objs.size ∧ s₁ = { s with heap := s.heap.push { cls := .type "list", data := .seq #[] } }) F.called_list (F.typeCall_list_1 _) F.entry_list_init
    (code_list_new _ ⟨rfl, rfl⟩) fun obj s₁ h₁ => ?_
  obtain ⟨rfl, rfl⟩ := h₁
  have hS : (s.heap.push { cls := .type "list", data := .seq #[] }).get? s.heap.objs.size = some { cls := .type "list", data := .seq #[] } := Heap.get?_push_size _ rfl
  refine ⟨⟨_, hS, rfl⟩, F.args_list_init_2 _ _, ba_list_init (A := A.in1) hh (Heap.get?_push_of_some _ ho) hb hlen _ hS fun h' tk acc' c' hk hS' hacc => ?_⟩
  exact ⟨rfl, hQ h' tk acc'.toList c' (fun b o e => hk b o (Nat.ne_of_lt (Heap.lt_size e)) (Heap.get?_push_of_some _ e)) (by simpa using hS') (ints_of_items hacc)⟩
end

end Mine
end

section
open PySem PySem.W PySem.Calls PyProof.Rows
set_option Elab.async false
set_option maxRecDepth 100000
namespace Mine

/-- the codes that keep a bytearray's size fixed while they run -/
def barred : List String := Builtin.Bytes.decodersThatHold ++ ["bytearray.__contains__", "bytearray.__mod__", "bytearray.__rmod__", "_struct.pack_into.held", "bytearray.find.held"]
def okCode : Code → Bool
  | .builtin id _ => !barred.contains id
  | _ => true
def CleanIn (l : List (Code × Pos)) : Prop := ∀ x ∈ l, okCode x.1 = true
def Clean (Γ : Ctx) : Prop := okCode Γ.code = true ∧ CleanIn Γ.below

/-- wpAny over the clean contexts alone; no exception leaves -/
def wpC {α : Type} (M : Model) (A : Around) (t : Sem α) (Q : α → Shared → Prop) (s : Shared) : Prop :=
  ∀ Γ p, Γ.In A → Clean Γ → Sem.wp M Γ t (fun a _ s' => Q a s') (fun _ _ _ => False) p s
def codeC (M : Model) (A : Around) (c : Code) (R : Flow → Shared → Prop) (s : Shared) : Prop :=
  ∀ Γ p, Γ.code = c → Γ.Below A → CleanIn Γ.below → wpCode M Γ (fun r s' => match r with | .ok f => R f s' | .error _ => False) p s

section
variable {α β : Type} {M : Model} {A : Around} {s : Shared}

theorem wpC_any {t : Sem α} {Q : α → Shared → Prop} (h : wpAny M A t Q (fun _ _ => False) s) : wpC M A t Q s := fun Γ p hΓ _ => h Γ p hΓ
theorem codeC_any {c : Code} {R : Flow → Shared → Prop} (h : codeAny M A c (fun r s' => match r with | .ok f => R f s' | .error _ => False) s) : codeC M A c R s := fun Γ p hc hΓ _ => h Γ p hc hΓ
theorem wpC_pure {a : α} {Q : α → Shared → Prop} (h : Q a s) : wpC M A (pure a) Q s := fun _ _ _ _ => h
theorem wpC_mono {t : Sem α} {Q Q' : α → Shared → Prop} (h : wpC M A t Q s) (hQ : ∀ a s, Q a s → Q' a s) : wpC M A t Q' s :=
  fun Γ p hΓ hC => Sem.wp_mono M Γ t (fun a _ s => hQ a s) (fun _ _ _ e => e) p s (h Γ p hΓ hC)
theorem wpC_bind {m : Sem α} {f : α → Sem β} {Q : β → Shared → Prop} (h : wpC M A m (fun a s' => wpC M A (f a) Q s') s) : wpC M A (m >>= f) Q s := fun Γ p hΓ hC => by
  rw [Sem.wp_bind']
  exact Sem.wp_mono M Γ m (fun a p' s' h' => h' Γ p' hΓ hC) (fun _ _ _ h' => h') p s (h Γ p hΓ hC)
theorem wpC_bindA {m : Sem α} {f : α → Sem β} {Q : β → Shared → Prop} (h : wpAny M A m (fun a s' => wpC M A (f a) Q s') (fun _ _ => False) s) : wpC M A (m >>= f) Q s := wpC_bind (wpC_any h)
theorem wpC_of_eq {m : Sem α} {a : α} {Q : α → Shared → Prop} (e : m = pure a) (h : Q a s) : wpC M A m Q s := by rw [e]; exact wpC_pure h
theorem wpC_bind_eq {m : Sem α} {a : α} {f : α → Sem β} {Q : β → Shared → Prop} (e : m = pure a) (h : wpC M A (f a) Q s) : wpC M A (m >>= f) Q s := wpC_bind (wpC_of_eq e h)
theorem wpC_bind_pure {a : α} {f : α → Sem β} {Q : β → Shared → Prop} (h : wpC M A (f a) Q s) : wpC M A (pure a >>= f) Q s := wpC_bind (wpC_pure h)
theorem wpC_holding {vs : List Value} {m : Sem α} {Q : α → Shared → Prop} (h : wpC M A m Q s) : wpC M A (holding vs m) Q s := fun Γ p hΓ hC => by rw [Sem.wp_holding]; exact h Γ p hΓ hC
theorem wpC_keep {vs : List Value} {m : Sem α} {Q : α → Shared → Prop} (h : wpC M A m Q s) : wpC M A (m.keep vs) Q s := fun Γ p hΓ hC => by rw [Sem.wp_keep]; exact h Γ p hΓ hC
theorem wpC_onRaise {m : Sem α} {k : Value → Sem Unit} {Q : α → Shared → Prop} (h : wpC M A m Q s) : wpC M A (m.onRaise k) Q s := fun Γ p hΓ hC => by
  rw [Sem.wp_onRaise]
  exact Sem.wp_mono M Γ m (fun _ _ _ h' => h') (fun _ _ _ h' => h'.elim) p s (h Γ p hΓ hC)
theorem wpC_operate {vs : List Value} {m : Sem Value} {Q : Value → Shared → Prop} (h : wpC M A m Q s) : wpC M A (operate vs m) Q s := fun Γ p hΓ hC => by rw [Sem.wp_operate]; exact h Γ p hΓ hC
theorem wpC_standAt {pos : Pos} {f : Unit → Sem β} {Q : β → Shared → Prop} (h : wpC M A (f ()) Q s) : wpC M A (standAt pos >>= f) Q s := wpC_bindA (wpAny_standAt h)
theorem wpC_rule {tag : String} {f : Unit → Sem β} {Q : β → Shared → Prop} (h : wpC M A (f ()) Q s) : wpC M A (rule tag >>= f) Q s := wpC_bindA (wpAny_rule h)
theorem wpC_if_true {c : Bool} {a b : Sem α} {Q : α → Shared → Prop} (hc : c = true) (h : wpC M A a Q s) : wpC M A (if c = true then a else b) Q s := by subst hc; exact h
theorem wpC_if_false {c : Bool} {a b : Sem α} {Q : α → Shared → Prop} (hc : c = false) (h : wpC M A b Q s) : wpC M A (if c = true then a else b) Q s := by subst hc; exact h

theorem clean_enter {Γ : Ctx} (hC : Clean Γ) (c : Code) (h : Option Value) (p : Pos) : CleanIn (Γ.enter c h p).below := fun x hx => by
  rcases List.mem_cons.mp hx with rfl | hx
  · exact hC.1
  · exact hC.2 x hx

theorem codeC_mono {c : Code} {R R' : Flow → Shared → Prop} (h : codeC M A c R s) (hR : ∀ f s, R f s → R' f s) : codeC M A c R' s :=
  fun Γ p hc hΓ hC => wpCode_mono (fun r s' q => by
    cases r with
    | ok f => exact hR f s' q
    | error e => exact q) (h Γ p hc hΓ hC)
theorem wpC_run {c : Code} {h : Option Value} {Q : Flow → Shared → Prop} (hc : codeC M (A.mark h) c Q s) (hnb : h ≠ some byPass := by intro x; cases x) : wpC M A (run c h) Q s :=
  fun Γ p hΓ hC => by
    rw [Sem.wp_run]
    refine wpCode_mono (fun r s' q => ?_) (hc _ p rfl (hΓ.enter c h p hnb) (clean_enter hC c h p))
    cases r with
    | ok f => exact q
    | error e => exact q.elim
theorem wpC_runValue {c : Code} {Q : Value → Shared → Prop} (hc : codeC M A c (fun f s' => match f with | .ret v => Q v s' | _ => False) s) : wpC M A (runValue c) Q s := fun Γ p hΓ hC => by
  rw [Sem.wp_runValue]
  refine wpCode_mono (fun r s' q => ?_) (hc _ p rfl (hΓ.enter c none p (by intro x; cases x)) (clean_enter hC c none p))
  cases r with
  | ok f => cases f <;> exact q
  | error e => exact q.elim
theorem wpC_call {f : Value} {pos : List Value} {kw : List (Str × Value)} {Q : Value → Shared → Prop}
    (hc : codeC M A (.call f ⟨pos, kw⟩) (fun f s' => match f with | .ret v => Q v s' | _ => False) s) : wpC M A (call f pos kw) Q s := wpC_runValue hc

theorem codeC_of_tree {c : Code} {R : Flow → Shared → Prop} (hok : okCode c = true)
    (h : wpC M (A.under c) (M.den c) (fun fin s' => match fin with | .done f => R f s' | .again c' => c'.quiet = true ∧ codeC M A c' R s') s) : codeC M A c R s := fun Γ p hc hΓ hC => by
  rw [wpCode_iff_wp, hc]
  refine Sem.wp_mono M Γ _ (fun fin p' s' h' => ?_) (fun _ _ _ h' => h'.elim) p s (h Γ p (hc ▸ hΓ.in) ⟨by rw [hc]; exact hok, hC⟩)
  cases fin with
  | done f => exact h'
  | again c' => exact ⟨h'.1, h'.2 (Γ.goto c') p' rfl (hΓ.goto c') hC⟩

theorem codeC_loop {c : Code} {R : Flow → Shared → Prop} (hq : c.quiet = true) (hok : okCode c = true) (I : Nat → Shared → Prop)
    (turn : ∀ n s, I n s → wpC M (A.under c) (M.den c)
      (fun fin s' => match fin with
        | .done f => R f s'
        | .again c' => (c' = c ∧ ∃ m, m < n ∧ I m s') ∨ (c'.quiet = true ∧ codeC M A c' R s')) s)
    (n : Nat) (h : I n s) : codeC M A c R s := by
  induction n using Nat.strongRecOn generalizing s with
  | ind n ih =>
    refine codeC_of_tree hok (wpC_mono (turn n s h) fun fin s' hf => ?_)
    cases fin with
    | done f => exact hf
    | again c' =>
      rcases hf with ⟨rfl, m, hm, hI⟩ | hf
      · exact ⟨hq, ih m hm hI⟩
      · exact hf

theorem any_clean {f : Code × Pos → Bool} {l : List (Code × Pos)} (h : CleanIn l) (hf : ∀ c p, okCode c = true → f (c, p) = false) : l.any f = false := by
  rw [List.any_eq_false]
  intro x hx e
  rw [hf x.1 x.2 (h x hx)] at e
  exact absurd e (by decide)

theorem barred_of {id : String} {args : Args} (hok : okCode (.builtin id args) = true) (h : barred.contains id = true) : False := by
  simp only [okCode] at hok
  rw [h] at hok
  exact absurd hok (by decide)

theorem wpC_exported {v : Value} {Q : Bool → Shared → Prop} (h : Q false s) : wpC M A (Builtin.Bytes.exported v) Q s := fun Γ p hΓ hC => by
  have hcl : CleanIn ((Γ.code, p) :: Γ.below) := fun x hx => by
    rcases List.mem_cons.mp hx with rfl | hx
    · exact hC.1
    · exact hC.2 x hx
  unfold Builtin.Bytes.exported
  show Q (List.any ((Γ.code, p) :: Γ.below) _) s
  rw [any_clean hcl]
  · exact h
  · intro c p hok
    split
    · rename_i e; injection e with e1 e2; subst e1; exact (barred_of hok (by decide +kernel)).elim
    · rename_i e; injection e with e1 e2; subst e1; exact (barred_of hok (by decide +kernel)).elim
    · rename_i e; injection e with e1 e2; subst e1; exact (barred_of hok (by decide +kernel)).elim
    · rename_i e; injection e with e1 e2; subst e1; exact (barred_of hok (by decide +kernel)).elim
    · rename_i e; injection e with e1 e2; subst e1; exact (barred_of hok (by decide +kernel)).elim
    · rename_i e
      injection e with e1 e2; subst e1
      cases hd : Builtin.Bytes.decodersThatHold.contains _ with
      | false => rw [Bool.and_false]
      | true => exact (barred_of hok (List.contains_iff_mem.mpr (List.mem_append_left _ (List.contains_iff_mem.mp hd)))).elim
    · rfl
end
end Mine
end

section
open PySem PySem.W PySem.Calls PyProof.Rows
set_option Elab.async false
set_option maxRecDepth 100000
namespace Mine

theorem bt_mro : mroOf (.type "bytearray") = pure [.type "bytearray", .type "object"] := by rw [mroOf_type]; kernel_rfl
theorem bt_lookup_new : typeLookup (.type "bytearray") "__new__" = pure (some (.builtin "bytearray.__new__")) := by rw [typeLookup_type, builtinLookup_eq_fast]; kernel_rfl
theorem bt_madeBy : Bind.madeBy (.type "bytearray") = pure (some "bytearray.__new__") := madeBy_type bt_mro bt_lookup_new (by decide +kernel)
theorem bt_typeCall (a : Value) : checkTypeCall "bytearray" ⟨[a], []⟩ = pure () := by kernel_rfl
theorem bt_newCall (a : Value) : checkBuiltinCall "bytearray.__new__" ⟨[.type "bytearray", a], []⟩ = pure () := by kernel_rfl
theorem bt_sub : isSubtype (.type "bytearray") (.type "bytearray") = pure true := by rw [isSubtype_type]; kernel_rfl
theorem bt_plain_new : plainId "bytearray.__new__" = true := by decide +kernel
theorem bt_entry_new : entryFor table "bytearray.__new__" = some Builtin.«list.__new__» :=
  entryFor_alias (id' := "list.__new__") (by kernel_rfl) (by first | decide +kernel | rfl) (by decide +kernel) (by kernel_rfl)
theorem bt_slot_init : Slot "bytearray" "__init__" "bytearray.__init__" :=
  .of (owner := "bytearray") (n := "__init__") (by rw [typeLookup_type, builtinLookup_eq_fast]; kernel_rfl) (by decide +kernel) (by decide +kernel) (by decide +kernel)
    (by first | exact .inl (by decide +kernel) | exact .inr (by decide +kernel)) (by rw [isSubtype_type]; kernel_rfl)
theorem bt_entry_init : entryFor table "bytearray.__init__" = some Builtin.«bytearray.__init__» := by first | exact entryFor_of_fast (by kernel_rfl) | exact entryFor_of_tree (by kernel_rfl)
theorem bt_args_init (a b : Value) : argsOk "bytearray.__init__" ⟨[a, b], []⟩ := by unfold argsOk; kernel_rfl
theorem bt_release : typeLookup (.type "bytearray") "__release_buffer__" = pure (some (.builtin "bytearray.__release_buffer__")) := by rw [typeLookup_type, builtinLookup_eq_fast]; kernel_rfl
theorem bt_bind (v : Value) : Builtin.Bytes.bindOptional "bytearray.__init__" "bytearray" ["source", "encoding", "errors"] [v] [] = pure [some v, none, none] := by kernel_rfl
set_option maxRecDepth 1000000 in
set_option maxHeartbeats 4000000 in
theorem bt_owner_new : ("bytearray.__new__".splitOn ".__new__").headD "" = "bytearray" := by simp +decide [String.splitOn, String.splitOnAux]

section
variable {prog : Program} {w : World} {A : Around} {E : Value → Shared → Prop} {s : Shared} {a l : Addr} {ns : List Int} {vs : List Value}

theorem bt_new (v : Value) {Q : Value → Shared → Prop} (h : Q (.ref s.heap.objs.size) { s with heap := s.heap.push (baObj []) }) :
    codeAny (model prog w) A (.call (.builtin "bytearray.__new__") ⟨[.type "bytearray", v], []⟩) (wants Q E) s := by
  refine codeAny_of_tree ?_
  show wpAny _ A.in1 (do checkBuiltinCall "bytearray.__new__" ⟨[.type "bytearray", v], []⟩; again (.builtin "bytearray.__new__" ⟨[.type "bytearray", v], []⟩)) _ _ s
  refine wpAny_bind (wpAny_of_eq (bt_newCall v) (wpAny_pure ⟨plainId_quiet bt_plain_new _, codeAny_builtin_stack bt_entry_new rfl fun p st => ?_⟩))
  rw [Around.under_plainId bt_plain_new _]
  have hsub := bt_sub
  have hown := bt_owner_new
  obtain ⟨hp, g, d, tk, os⟩ := s
  simp only [hown]
  wp_walk
  exact h

theorem ba_ownRelease {M : Model} {Q : Bool → Shared → Prop} (ho : s.heap.get? a = some (baObj ns)) (h : Q false s) : wpAny M A (Builtin.Bytes.ownRelease (.ref a)) Q E s := by
  unfold Builtin.Bytes.ownRelease Builtin.Bytes.slotIsOwn
  refine wpAny_bind (wpAny_bind (wpAny_specialOf (ba_typeIs ho) bt_release ?_))
  dsimp only
  split
  · rename_i hx
    exact absurd hx (by decide +kernel)
  · have e : ("bytearray.__release_buffer__".dropRight ("__release_buffer__".length + 1)) = "bytearray" := by decide +kernel
    rw [e]
    exact wpAny_isInstance (ba_typeIs ho) bt_sub (wpAny_pure h)

theorem goods_take {p : Value → Bool} (hp : ∀ i t, p (.int i t) = (decide (0 ≤ i) && decide (i < 256))) : ∀ {vs : List Value} {ns : List Int}, IntsAre vs ns → Oct ns → vs.takeWhile p = vs
  | _, _, .nil, _ => rfl
  | _, _, .cons n t h, hb => by
    have hn := hb n (.head _)
    rw [List.takeWhile_cons_of_pos (by rw [hp]; simp [hn.1, hn.2])]
    exact congrArg _ (goods_take hp h fun x hx => hb x (.tail _ hx))
theorem goods_map {f : Value → Option UInt8} (hf : ∀ i t, f (.int i t) = some i.toNat.toUInt8) : ∀ {vs : List Value} {ns : List Int}, IntsAre vs ns → vs.filterMap f = ns.map fun n => n.toNat.toUInt8
  | _, _, .nil => rfl
  | _, _, .cons n t h => by
    rw [List.filterMap_cons_some (hf n t), List.map_cons]
    exact congrArg _ (goods_map hf h)

theorem bt_init {Q : Value → Shared → Prop} (ho : s.heap.get? a = some (baObj [])) (hl : s.heap.IsList l vs.toArray) (hi : IntsAre vs ns) (hb : Oct ns) (hz : ns.length ≤ 16777216)
    (h : ∀ h', h'.get? a = some (baObj ns) → Heap.SameBut a s.heap h' → Q .none { s with heap := h' }) :
    wpC (model prog w) A (Builtin.«bytearray.__init__» ⟨[.ref a, .ref l], []⟩) (fun fin s' => ∃ v, fin = .done (.ret v) ∧ Q v s') s := by
  have hT : s.TypeIs (.ref l) "list" := hl.typeIs
  obtain ⟨ol, hol, hoc, nl, hod⟩ := id hl
  have hla : l ≠ a := fun e => by rw [e, ho] at hol; cases hol; exact absurd hoc (by decide)
  unfold Builtin.«bytearray.__init__»
  refine wpC_bindA (ba_ownRelease ho ?_)
  refine wpC_if_false rfl ?_
  refine wpC_bind_eq (bt_bind _) ?_
  refine wpC_bind_eq (a := ()) rfl ?_
  refine wpC_bind_eq (a := ()) rfl ?_
  refine wpC_bind (wpC_bind (wpC_exported ?_))
  refine wpC_bindA ?_
  unfold Builtin.Bytes.exportsOf
  refine wpAny_bind (wpAny_load ho (wpAny_pure ?_))
  refine wpC_pure ?_
  refine wpC_if_false (by decide) ?_
  refine wpC_bindA (ba_write ho (ns' := []) rfl (by simp) fun h₁ hg₁ hs₁ => ?_)
  have hol₁ : h₁.get? l = some ol := (hs₁.2 l hla).trans hol
  have hl₁ : h₁.IsList l vs.toArray := ⟨ol, hol₁, hoc, nl, hod⟩
  have hT₁ : ({ s with heap := h₁ } : Shared).TypeIs (.ref l) "list" := Heap.IsList.typeIs (s := { s with heap := h₁ }) hl₁
  dsimp only
  refine wpC_bindA ?_
  show wpAny _ _ (load l >>= _) _ _ _
  refine wpAny_bind (wpAny_load hol₁ ?_)
  rw [hod]
  refine wpAny_pure ?_
  refine wpC_if_false rfl ?_
  refine wpC_bind_eq (a := ()) rfl ?_
  refine wpC_bindA (wpAny_specialOf hT₁ F.bm_no_index ?_)
  refine wpC_if_false rfl ?_
  refine wpC_bindA ?_
  unfold Builtin.Bytes.buffer?
  refine wpAny_bind (wpAny_specialOf hT₁ F.bm_no_buffer ?_)
  refine wpAny_bind (wpAny_specialOf hT₁ F.bm_no_buffer ?_)
  refine wpAny_pure ?_
  refine wpC_bindA (wpAny_typeOf hT₁ ?_)
  refine wpC_if_true (by decide) ?_
  refine wpC_bindA (wpAny_seqItems hol₁ hod ?_)
  dsimp only
  rw [goods_take (ns := ns) (fun _ _ => rfl) hi hb]
  rw [goods_map (ns := ns) (fun _ _ => rfl) hi]
  rw [show (vs.toArray)[vs.length]? = none from by simp]
  dsimp only
  refine wpC_rule ?_
  refine wpC_bindA (ba_write (s := { s with heap := h₁ }) hg₁ (ns' := ns) rfl hz fun h₂ hg₂ hs₂ => ?_)
  exact wpC_pure ⟨_, rfl, h h₂ hg₂ (hs₁.trans hs₂)⟩

theorem codeC_call_builtin {id : String} {args : Args} {b : Builtin} {R : Flow → Shared → Prop} (hq : plainId id = true) (hok : barred.contains id = false) (hb : entryFor table id = some b)
    (h : wpAny (model prog w) A.in1 (checkBuiltinCall id args) (fun _ s₁ => wpC (model prog w) A.in1 (b args)
      (fun fin s' => match fin with | .done f => R f s' | .again c' => c'.quiet = true ∧ codeC (model prog w) A c' R s') s₁) (fun _ _ => False) s) : codeC (model prog w) A (.call (.builtin id) args) R s := by
  refine codeC_of_tree rfl ?_
  show wpC _ A.in1 (do checkBuiltinCall id args; again (.builtin id args)) _ s
  refine wpC_bindA (wpAny_mono h (fun _ s₁ h₁ => wpC_pure ⟨plainId_quiet hq args, codeC_of_tree (by simp only [okCode, hok]; rfl) ?_⟩) fun _ _ e => e)
  rw [Around.under_plainId hq args]
  show wpC _ _ (match entryFor table id with | some b => b args | none => unsupported ((withoutEnding? id "#data").getD id)) _ s₁
  rw [hb]; exact h₁

theorem bt_callInit {Q : Value → Shared → Prop} (ho : s.heap.get? a = some (baObj [])) (hl : s.heap.IsList l vs.toArray) (hi : IntsAre vs ns) (hb : Oct ns) (hz : ns.length ≤ 16777216)
    (h : ∀ h', h'.get? a = some (baObj ns) → Heap.SameBut a s.heap h' → Q .none { s with heap := h' }) :
    wpC (model prog w) A (callSpecial? (.ref a) "__init__" [.ref l] []) (fun r s' => ∃ v, r = some v ∧ Q v s') s := by
  unfold callSpecial?
  refine wpC_bindA (wpAny_specialOf (ba_typeIs ho) bt_slot_init.lookup ?_)
  dsimp only
  refine wpC_holding ?_
  refine wpC_bind_eq (bt_slot_init.bind _) ?_
  refine wpC_bind (wpC_call (codeC_call_builtin bt_slot_init.plain (by decide +kernel) bt_entry_init (bt_slot_init.check _ _ _ _ _ _ _ _ (ba_typeIs ho) (bt_args_init _ _) ?_)))
  refine wpC_mono (bt_init ho hl hi hb hz h) fun fin s' hf => ?_
  obtain ⟨v, rfl, hv⟩ := hf
  exact wpC_pure ⟨v, rfl, hv⟩

theorem codeC_builtin {id : String} {args : Args} {b : Builtin} {R : Flow → Shared → Prop} (hok : barred.contains id = false) (hb : entryFor table id = some b)
    (h : wpC (model prog w) (A.under (.builtin id args)) (b args) (fun fin s' => match fin with | .done f => R f s' | .again c' => c'.quiet = true ∧ codeC (model prog w) A c' R s') s) :
    codeC (model prog w) A (.builtin id args) R s := by
  refine codeC_of_tree (by simp only [okCode, hok]; rfl) ?_
  show wpC _ _ (match entryFor table id with | some b => b args | none => unsupported ((withoutEnding? id "#data").getD id)) _ s
  rw [hb]; exact h

/-- bytearray(xs) of a list of octets, in the clean contexts -/
theorem call_bytearray {Q : Value → Shared → Prop} (hl : s.heap.IsList l vs.toArray) (hi : IntsAre vs ns) (hb : Oct ns) (hz : ns.length ≤ 16777216)
    (h : ∀ h', (∀ b o, s.heap.get? b = some o → h'.get? b = some o) → h'.get? s.heap.objs.size = some (baObj ns) → s.heap.objs.size < h'.objs.size → Q (.ref s.heap.objs.size) { s with heap := h' }) :
    wpC (model prog w) A (call (.type "bytearray") [.ref l]) Q s := by
  refine wpC_call (codeC_of_tree rfl ?_)
  show wpC _ _ (callAny (.type "bytearray") _) _ _
  refine wpC_pure ⟨Code.quiet_builtin _ (by decide +kernel), codeC_builtin (by decide +kernel) F.entry_type_call ?_⟩
  rw [Around.under_plain (weight_type_call_type "bytearray" [.ref l] []) (units_type_call_type "bytearray" [.ref l] [])]
  unfold Builtin.«type.__call__»
  refine wpC_if_false (by decide) ?_
  dsimp only
  refine wpC_if_false (by decide +kernel) ?_
  refine wpC_bind_eq (bt_typeCall _) ?_
  refine wpC_bind_eq bt_mro ?_
  refine wpC_if_false rfl ?_
  refine wpC_bind_eq bt_madeBy ?_
  dsimp only
  refine wpC_bind_pure ?_
  refine wpC_bind (wpC_holding (wpC_any (wpAny_call (codeAny_mono (bt_new (Q := fun v s' => v = .ref s.heap.objs.size ∧ s' = { s with heap := s.heap.push (baObj []) }) (E := fun _ _ => False) (.ref l) ⟨rfl, rfl⟩) fun r s₁ hr => ?_))))
  cases r with
  | error e => exact hr
  | ok f =>
    cases f with
    | ret v =>
      obtain ⟨rfl, rfl⟩ := hr
      have hg : (s.heap.push (baObj [])).get? s.heap.objs.size = some (baObj []) := Heap.get?_push_size _ rfl
      refine wpC_bindA (wpAny_isInstance (ba_typeIs (s := { s with heap := s.heap.push (baObj []) }) hg) bt_sub ?_)
      refine wpC_if_false rfl ?_
      refine wpC_bind (wpC_holding (wpC_mono (bt_callInit (s := { s with heap := s.heap.push (baObj []) }) (Q := fun v s' => v = .none ∧ Q (.ref s.heap.objs.size) s') hg (hl.push _) hi hb hz fun h' hg' hs' => ⟨rfl, h h' (fun b o e => ?_) hg' ?_⟩) fun r s' hr => ?_))
      · exact hs'.extBut b o (Nat.ne_of_lt (Heap.lt_size e)) (Heap.get?_push_of_some _ e)
      · rw [hs'.1, Heap.size_push]
        exact Nat.lt_succ_self _
      · obtain ⟨v, rfl, rfl, hq⟩ := hr
        dsimp only
        refine wpC_if_false (by decide) ?_
        exact wpC_pure hq
    | next => exact hr
    | brk => exact hr
    | cont => exact hr
end
end Mine
end

section
open PySem PySem.W PySem.Calls PyProof.Rows
set_option Elab.async false
set_option maxRecDepth 100000
namespace Mine
section
variable {M : Model} {A : Around} {s : Shared} {env : Env}

theorem wpC_execs_nil {Q : Flow → Shared → Prop} (h : Q .next s) : wpC M A (execs [] env) Q s := fun _ _ _ _ => h
theorem wpC_execs_cons {st : Stmt} {rest : List Stmt} {Q : Flow → Shared → Prop}
    (h : wpC M A (exec st env) (fun f s' => match f with | .next => wpC M A (execs rest env) Q s' | f => Q f s') s) : wpC M A (execs (st :: rest) env) Q s := by
  rw [execs_cons]
  refine wpC_bind (wpC_mono h fun f s' h' => ?_)
  cases f <;> first | exact h' | exact wpC_pure h'

theorem wpC_Assign_Name {x : Str} {pos' pos : Pos} {value : Expr} {Q : Flow → Shared → Prop}
    (h : wpC M A (eval value env) (fun v s₁ => wpAny M A (storeName env x v) (fun _ s₂ => Q .next s₂) (fun _ _ => False) s₁) s)
    (hs : swapsWith value (some (.Name x pos')) pos.line env = pure false := by rfl) : wpC M A (exec (.Assign [.Name x pos'] value pos) env) Q s := by
  rw [exec_Assign_Name env x pos' value pos hs]
  refine wpC_standAt (wpC_bind (wpC_mono h fun v s₁ h₁ => ?_))
  refine wpC_standAt (wpC_bindA (wpAny_bindName (wpAny_mono h₁ (fun _ s₂ h₂ => wpC_pure h₂) fun _ _ e => e)))

theorem wpC_Assign_Tuple {elts : List Expr} {k : Nat} {tpos pos : Pos} {value : Expr} {Q : Flow → Shared → Prop}
    (h : wpC M A (eval value env) (fun v s₁ => wpAny M A (assignStores env v none ((assignEach [.Tuple elts k tpos] env).map (·.2))) Q (fun _ _ => False) s₁) s)
    (hs : swapsWithSole [.Tuple elts k tpos] value pos.line env = pure false := by rfl)
    (hw : swappedStores [.Tuple elts k tpos] value env = pure none := by rfl) :
    wpC M A (exec (.Assign [.Tuple elts k tpos] value pos) env) Q s := by
  rw [exec_Assign]
  refine wpC_standAt ?_
  rw [hs]
  refine wpC_bind_pure ?_
  refine wpC_if_false rfl ?_
  refine wpC_bind (wpC_mono h fun v s₁ h₁ => ?_)
  rw [hw]
  exact wpC_bind_pure (wpC_any h₁)

theorem wpC_Assign_Tuple_swapped {elts : List Expr} {k : Nat} {tpos pos : Pos} {value : Expr} {names : List Str} {Q : Flow → Shared → Prop}
    (h : wpC M A (eval value env) (fun v s₁ => wpAny M A (unpackItems v names.length none) (fun items s₂ =>
      wpAny M A (assignInOrder (names.reverse.map fun n => bindName env n) items.reverse) (fun _ => Q .next) (fun _ _ => False) s₂) (fun _ _ => False) s₁) s)
    (hs : swapsWithSole [.Tuple elts k tpos] value pos.line env = pure false := by rfl)
    (hw : swappedStores [.Tuple elts k tpos] value env = pure (some names) := by rfl) :
    wpC M A (exec (.Assign [.Tuple elts k tpos] value pos) env) Q s := by
  rw [exec_Assign]
  refine wpC_standAt ?_
  rw [hs]
  refine wpC_bind_pure ?_
  refine wpC_if_false rfl ?_
  refine wpC_bind (wpC_mono h fun v s₁ h₁ => ?_)
  rw [hw]
  refine wpC_bind_pure (wpC_any ?_)
  show wpAny M A (do rule "assign.swapped-stores"; let items ← unpackItems v names.length none; assignInOrder (names.reverse.map fun n => bindName env n) items.reverse; pure .next) Q _ s₁
  exact wpAny_bind (wpAny_rule (wpAny_bind (wpAny_mono h₁ (fun items s₂ h₂ => wpAny_bind (wpAny_mono h₂ (fun _ _ x => wpAny_pure x) fun _ _ x => x)) fun _ _ x => x)))

theorem wpC_spliced_nil {Q : List Value → Shared → Prop} (h : Q [] s) : wpC M A (spliced []) Q s := wpC_pure h
theorem wpC_spliced_cons {x : Sem Value} {rest : List (Bool × Sem Value)} {Q : List Value → Shared → Prop}
    (h : wpC M A x (fun v s₁ => wpC M A (spliced rest) (fun vs s₂ => Q (v :: vs) s₂) s₁) s) : wpC M A (spliced ((false, x) :: rest)) Q s := by
  rw [spliced]
  refine wpC_bind (wpC_mono h fun v s₁ h₁ => ?_)
  simp only [Bool.false_eq_true, if_false]
  exact wpC_bind_pure (wpC_bind (wpC_holding (wpC_mono h₁ fun vs s₂ h₂ => wpC_pure h₂)))
theorem wpC_args_nil {pos : Pos} {Q : List Value → Shared → Prop} (h : Q [] s) : wpC M A (spliced (backTo pos (starEach [] env))) Q s := wpC_spliced_nil h
theorem wpC_args_cons {e : Expr} {rest : List Expr} {pos : Pos} {Q : List Value → Shared → Prop}
    (h : wpC M A (eval e env) (fun v s₁ => wpC M A (spliced (backTo pos (starEach rest env))) (fun vs s₂ => Q (v :: vs) s₂) s₁) s)
    (he : starEach (e :: rest) env = (false, eval e env) :: starEach rest env := by rfl) : wpC M A (spliced (backTo pos (starEach (e :: rest) env))) Q s := by
  rw [he]
  exact wpC_spliced_cons h
theorem wpC_evalArgs {f : Value} {x : Sem Value} {rest : List (Bool × Sem Value)} {Q : Args → Shared → Prop}
    (h : wpC M A (spliced ((false, x) :: rest)) (fun vs s' => Q ⟨vs, []⟩ s') s) : wpC M A (evalArgs f true ((false, x) :: rest) []) Q s := by
  unfold evalArgs
  show wpC M A (spliced ((false, x) :: rest) >>= _) Q s
  refine wpC_bind (wpC_mono h fun vs s' h' => ?_)
  refine wpC_holding ?_
  exact wpC_bind_pure (wpC_bind_pure (wpC_pure h'))

theorem wpC_Call {func : Expr} {args : List Expr} {pos : Pos} {Q : Value → Shared → Prop}
    (h : wpAny M A (eval func env) (fun f s₁ => wpC M A (callWith pos f [] (backTo pos (starEach args env)) []) Q s₁) (fun _ _ => False) s)
    (he : eval (.Call func args [] pos) env = (do callWith pos (← eval func env) [] (backTo pos (starEach args env)) (backToKw pos (keywordEach [] env))) := by rfl) :
    wpC M A (eval (.Call func args [] pos) env) Q s := by
  rw [he]; exact wpC_bindA h

theorem wpC_tail {t : Sem Value} {Q : Value → Shared → Prop} (h : wpC M A t Q s) : wpC M A (t >>= fun r => holding [r] point >>= fun _ => pure r) Q s :=
  wpC_bind (wpC_mono h fun r s₂ hr => wpC_bindA (wpAny_holding (wpAny_point (wpC_pure hr))))

theorem wpC_callWith_type {pos : Pos} {T : String} {e : Expr} {rest : List Expr} {Q : Value → Shared → Prop}
    (h : wpC M A (spliced (backTo pos (starEach (e :: rest) env))) (fun vs s₁ => wpC M A (call (.type T) vs) Q s₁) s)
    (he : starEach (e :: rest) env = (false, eval e env) :: starEach rest env := by rfl) (hplain : (backTo pos (starEach rest env)).any (·.1) = false := by rfl) :
    wpC M A (callWith pos (.type T) [] (backTo pos (starEach (e :: rest) env)) []) Q s := by
  rw [he] at h ⊢
  unfold callWith
  refine wpC_bind (wpC_holding (wpC_evalArgs (wpC_mono h fun vs s₁ h₁ => wpC_standAt ?_)))
  have hp : ((backTo pos ((false, eval e env) :: starEach rest env)).any (·.1) || ([] : List (Option Str × Sem Value)).any (·.1.isNone)) = false := by
    show ((false || (backTo pos (starEach rest env)).any (·.1)) || false) = false
    rw [hplain]; rfl
  simp only [hp]
  exact wpC_bind_pure (wpC_tail h₁)

theorem wpC_callWith_fn {pos : Pos} {a : Addr} {o : Obj} {fd : FuncData} {e : Expr} {rest : List Expr} {Q : Value → Shared → Prop}
    (h : wpC M A (spliced (backTo pos (starEach (e :: rest) env))) (fun vs s₁ => (s₁.heap.get? a = some o ∧ o.data = .func fd) ∧ wpC M A (call (.ref a) vs) Q s₁) s)
    (he : starEach (e :: rest) env = (false, eval e env) :: starEach rest env := by rfl) (hplain : (backTo pos (starEach rest env)).any (·.1) = false := by rfl) :
    wpC M A (callWith pos (.ref a) [] (backTo pos (starEach (e :: rest) env)) []) Q s := by
  rw [he] at h ⊢
  unfold callWith
  refine wpC_bind (wpC_holding (wpC_evalArgs (wpC_mono h fun vs s₁ h₁ => wpC_standAt ?_)))
  have hp : ((backTo pos ((false, eval e env) :: starEach rest env)).any (·.1) || ([] : List (Option Str × Sem Value)).any (·.1.isNone)) = false := by
    show ((false || (backTo pos (starEach rest env)).any (·.1)) || false) = false
    rw [hplain]; rfl
  simp only [hp]
  refine wpC_bind (m := keeperOf (.ref a)) (wpC_any ?_)
  unfold keeperOf
  refine wpAny_bind (wpAny_load h₁.1.1 ?_)
  rw [h₁.1.2]
  refine wpAny_pure ?_
  dsimp only
  split
  · exact wpC_tail h₁.2
  · exact wpC_tail (by unfold callMarked; exact wpC_keep h₁.2)

theorem wpC_Tuple {elts : List Expr} {k : Nat} {pos : Pos} {Q : Value → Shared → Prop}
    (h : wpC M A (spliced (backTo pos (starEach elts env))) (fun vs s₁ => wpAny M A (newTuple vs) Q (fun _ _ => False) s₁) s) : wpC M A (eval (.Tuple elts k pos) env) Q s := by
  show wpC M A (do standAt pos; newTuple (← spliced (backTo pos (starEach elts env)))) Q s
  exact wpC_standAt (wpC_bind (wpC_mono h fun vs s₁ h₁ => wpC_any h₁))

theorem wpC_If {test : Expr} {body orelse : List Stmt} {pos : Pos} {Q : Flow → Shared → Prop}
    (h : wpAny M A (isTrue test env (eval test env)) (fun b s₂ => if b then wpC M A (execs body env) Q s₂ else wpC M A (execs orelse env) Q s₂) (fun _ _ => False) s) :
    wpC M A (exec (.If test body orelse pos) env) Q s := by
  rw [exec_If]
  refine wpC_standAt (wpC_bindA (wpAny_mono h (fun b s₂ h₂ => ?_) fun _ _ e => e))
  cases b <;> exact h₂

theorem wpC_Expr {e : Expr} {pos : Pos} {Q : Flow → Shared → Prop} (h : wpC M A (eval e env) (fun v s' => (∀ a, v ≠ .ref a) ∧ Q .next s') s)
    (hi : interactive env = false := by rfl) (hs : swapsWith e none pos.line env = pure false := by rfl) : wpC M A (exec (.Expr e pos) env) Q s := by
  rw [exec_Expr env e pos hi hs]
  refine wpC_standAt (wpC_bind (wpC_mono h fun v s' h' => ?_))
  rw [dropValue_plain h'.1]
  exact wpC_pure h'.2

theorem wpC_For {target iter : Expr} {body orelse : List Stmt} {pos : Pos} {Q : Flow → Shared → Prop}
    (h : wpAny M A (eval iter env) (fun x s₁ => wpAny M A (pyIter x) (fun it s₂ => codeC M A (.forLoop target it body orelse env) Q s₂) (fun _ _ => False) s₁) (fun _ _ => False) s)
    (hs : ∀ x, foldedSetIterable iter env x = pure x := by intro _; rfl) :
    wpC M A (exec (.For target iter body orelse pos) env) Q s := by
  rw [exec_For]
  refine wpC_standAt (wpC_bindA (wpAny_mono h (fun x s₁ h₁ => ?_) fun _ _ e => e))
  rw [hs x]
  refine wpC_bind_pure (wpC_standAt (wpC_bindA (wpAny_holding (wpAny_mono h₁ (fun it s₂ h₂ => ?_) fun _ _ e => e))))
  unfold runOwn
  exact wpC_onRaise (wpC_run h₂)

theorem wpC_Return {e : Expr} {pos : Pos} {Q : Flow → Shared → Prop} (h : wpC M A (eval e env) (fun v s' => Q (.ret v) s') s) : wpC M A (exec (.Return (some e) pos) env) Q s := by
  rw [exec_Return_some]
  exact wpC_standAt (wpC_bind (wpC_mono h fun v s' h' => wpC_pure h'))
end

section
variable {prog : Program} {w : World} {A : Around} {s : Shared} {R : Flow → Shared → Prop}

theorem codeC_forLoop {target : Expr} {it : Value} {body : List Stmt} {env : Env} (I : Nat → Shared → Prop)
    (turn : ∀ n s, I n s → wpAny (model prog w) A (pyNext it) (fun r s₁ => match r with
      | none => R .next s₁
      | some v => wpAny (model prog w) A (letOwnedTupleGo target it v) (fun _ s₁' => wpAny (model prog w) A (assign target env v) (fun _ s₂ => wpC (model prog w) A (execs body env) (fun f s₃ => match f with
          | .next | .cont => ∃ m, m < n ∧ I m s₃
          | .brk => R .next s₃
          | .ret v => R (.ret v) s₃) s₂) (fun _ _ => False) s₁') (fun _ _ => False) s₁) (fun _ _ => False) s)
    (n : Nat) (h : I n s) : codeC (model prog w) A (.forLoop target it body [] env) R s := by
  refine codeC_loop rfl rfl I (fun n s hI => ?_) n h
  show wpC _ A ((forTurn target it body [] env).onRaise (fun x => do noteFrame x env; theTreesLotGoes x)) _ s
  refine wpC_onRaise ?_
  simp only [forTurn]
  refine wpC_standAt (wpC_bindA (wpAny_onRaise (wpAny_mono (turn n s hI) (fun r s₁ h₁ => ?_) fun _ _ h' => h'.elim)))
  cases r with
  | none => exact wpC_pure (.inr ⟨rfl, codeC_any (codeAny_block (wpAny_execs_nil h₁))⟩)
  | some v =>
    refine wpC_bindA (wpAny_mono h₁ (fun _ s₁' h₁' => ?_) fun _ _ h' => h')
    refine wpC_bindA (wpAny_mono h₁' (fun _ s₂ h₂ => wpC_bind (wpC_mono h₂ fun f s₃ h₃ => ?_)) fun _ _ h' => h')
    cases f with
    | next => exact wpC_pure (.inl ⟨rfl, h₃⟩)
    | cont => exact wpC_pure (.inl ⟨rfl, h₃⟩)
    | brk => exact wpC_pure h₃
    | ret v => exact wpC_pure h₃

theorem codeC_func {body : List Stmt} {env : Env} (h : wpC (model prog w) (A.deeper env) (execs body env) (fun f s' => R (.ret (match f with | .ret v => v | _ => .none)) s') s) :
    codeC (model prog w) A (.func body env) R s := by
  refine codeC_of_tree rfl ?_
  show wpC _ (A.deeper env) (do point; match ← (execs body env).onRaise (leaving env) with | .ret v => ret v | _ => ret .none) _ s
  refine wpC_bindA (wpAny_point (wpC_bind (wpC_onRaise (wpC_mono h fun f s' h' => ?_))))
  cases f <;> exact wpC_pure h'

theorem codeC_call_function {a : Addr} {args : Args} {o : Obj} {fd : FuncData} {body : List Stmt} (hroom : A.depth < recursionLimit)
    (ho : s.heap.get? a = some o) (hd' : o.data = .func fd) (hco : fd.scope.isCoroutine = false) (hgen : fd.scope.isGenerator = false) (hbody : fd.body = .stmts body) (hcd : s.heap.CodeRec fd.code fd.qualname)
    (h : wpAny (model prog w) A.in1 (bindArgs fd args) (fun binds s₁ =>
      wpAny (model prog w) A.in1 (newFunctionEnv fd.scope fd.globals fd.closure binds (fd.qualname ++ ".<locals>.") (some a) fd.code none fd.builtins)
        (fun env s₂ => s₂.heap.NoLimit ∧ codeC (model prog w) A (.func body env) R s₂) (fun _ _ => False) s₁) (fun _ _ => False) s) :
    codeC (model prog w) A (.call (.ref a) args) R s := by
  refine codeC_of_tree rfl ?_
  show wpC _ A.in1 (callAny (.ref a) args) _ s
  simp only [callAny]
  refine wpC_bindA (wpAny_load ho ?_)
  obtain ⟨c, oc, vs, tq, hc, hoc, hdc, hq⟩ := hcd
  simp only [hd', callFunction, hco, hgen, hbody, hc]
  rw [hc] at h
  refine wpC_bind (m := field (.ref c) 1) (wpC_any (wpAny_field hoc hdc hq (wpC_bind_pure ?_)))
  exact wpC_bindA (wpAny_mono h (fun binds s₁ h₁ => wpC_bindA (wpAny_mono h₁ (fun env s₂ h₂ => wpC_bindA (wpAny_enterFrame h₂.1 hroom
    (wpC_pure (And.intro rfl h₂.2)))) fun _ _ h' => h')) fun _ _ h' => h')
end
end Mine
end

section
open PySem PySem.W PySem.Calls PyProof.Rows
set_option Elab.async false
set_option maxRecDepth 100000
namespace Mine

def recAt (p : Program) (i : Nat) : DefRec := match p.main.body[i]? with
  | some (.FunctionDef n a b _ _ _ sc _ _ pos) => ⟨n, a, b, sc, pos⟩
  | _ => ⟨Str.empty, ⟨[], [], none, [], [], none, []⟩, [], { kind := .function, names := [], isGenerator := false, isCoroutine := false, more := [] }, ⟨0, 0, 0, 0⟩⟩

def theP : Program := PySem.Challenge.pw_bf5023_01
def dSub : DefRec := recAt theP 1
def dUp : DefRec := recAt theP 2
def dAvg : DefRec := recAt theP 3
def dPae : DefRec := recAt theP 4
def dUnd : DefRec := recAt theP 6
def dLaw : DefRec := recAt theP 7

/-- a def of the text stands at f -/
def FnAt (h : Heap) (f c' : Addr) (d : DefRec) : Prop := ∃ o pm doc, h.get? f = some o ∧ o.data = .func (docDef d.name d.params d.body d.scope pm (.ref c') doc) ∧ h.CodeRec (.ref c') d.name

theorem FnAt.keeps {h h' : Heap} {f c' : Addr} {d : DefRec} (x : FnAt h f c' d) (hk : ∀ b o, h.get? b = some o → h'.get? b = some o) : FnAt h' f c' d :=
  let ⟨o, pm, doc, h1, h2, h3⟩ := x; ⟨o, pm, doc, hk _ _ h1, h2, h3.keeps hk⟩

/-- what the calls ask of the ground -/
structure Base (h : Heap) : Prop where
  nolimit : h.NoLimit
  names : ∃ mg mb, h.Ns mainGlobals mg ∧ h.Ns builtinsNs mb ∧ (∀ x : Str, x ≠ "__name__" → mb x = bootBuiltins x) ∧
    mg "range" = none ∧ mg "len" = none ∧ mg "abs" = none ∧ mg "bytearray" = none ∧ mg "zip" = none ∧ mg "list" = none ∧
    (∃ f c', mg "undo_filter_sub" = some (.ref f) ∧ FnAt h f c' dSub) ∧ (∃ f c', mg "undo_filter_up" = some (.ref f) ∧ FnAt h f c' dUp) ∧
    (∃ f c', mg "undo_filter_average" = some (.ref f) ∧ FnAt h f c' dAvg) ∧ (∃ f c', mg "undo_filter_paeth" = some (.ref f) ∧ FnAt h f c' dPae) ∧
    (∃ f c', mg "_law_undone" = some (.ref f) ∧ FnAt h f c' dUnd)

theorem Base.keeps {h h' : Heap} (B : Base h) (hk : ∀ b o, h.get? b = some o → h'.get? b = some o) : Base h' := by
  obtain ⟨n, mg, mb, a, b, c, d1, d2, d3, d4, d5, d6, ⟨f1, c1, e1, g1⟩, ⟨f2, c2, e2, g2⟩, ⟨f3, c3, e3, g3⟩, ⟨f4, c4, e4, g4⟩, ⟨f5, c5, e5, g5⟩⟩ := B
  exact ⟨n.keeps hk, mg, mb, a.keeps hk, b.keeps hk, c, d1, d2, d3, d4, d5, d6, ⟨f1, c1, e1, g1.keeps hk⟩, ⟨f2, c2, e2, g2.keeps hk⟩, ⟨f3, c3, e3, g3.keeps hk⟩, ⟨f4, c4, e4, g4.keeps hk⟩, ⟨f5, c5, e5, g5.keeps hk⟩⟩

section
variable {M : Model} {A : Around} {E : Value → Shared → Prop} {s : Shared} {name : Str} {scope : Scope} {L a : Addr} {cd : Value} {h₀ : Heap} {m : Str → Option Value} {Q : Value → Shared → Prop}

theorem nm_range {pos : Pos} (F : Fr h₀ L s.heap m) (B : Base h₀) (h : Q (.type "range") s) (hk : scope.kind = .function) (hx : (envOf name scope L a cd).kindOf "range" = some .globalImplicit) :
    wpAny M A (eval (.Name "range" pos) (envOf name scope L a cd)) Q E s := by
  obtain ⟨n, mg, mb, a, b, c, d1, d2, d3, d4, d5, d6, _⟩ := B
  exact Name_function_global hk hx (loadGlobal_builtin (env := envOf name scope L _ cd) (a.keeps F.keep) d1 (b.keeps F.keep) ((c _ (by decide)).trans (by decide +kernel)) h) (by decide)
theorem nm_len {pos : Pos} (F : Fr h₀ L s.heap m) (B : Base h₀) (h : Q (.builtin "len") s) (hk : scope.kind = .function) (hx : (envOf name scope L a cd).kindOf "len" = some .globalImplicit) :
    wpAny M A (eval (.Name "len" pos) (envOf name scope L a cd)) Q E s := by
  obtain ⟨n, mg, mb, a, b, c, d1, d2, d3, d4, d5, d6, _⟩ := B
  exact Name_function_global hk hx (loadGlobal_builtin (env := envOf name scope L _ cd) (a.keeps F.keep) d2 (b.keeps F.keep) ((c _ (by decide)).trans (by decide +kernel)) h) (by decide)
theorem nm_abs {pos : Pos} (F : Fr h₀ L s.heap m) (B : Base h₀) (h : Q (.builtin "abs") s) (hk : scope.kind = .function) (hx : (envOf name scope L a cd).kindOf "abs" = some .globalImplicit) :
    wpAny M A (eval (.Name "abs" pos) (envOf name scope L a cd)) Q E s := by
  obtain ⟨n, mg, mb, a, b, c, d1, d2, d3, d4, d5, d6, _⟩ := B
  exact Name_function_global hk hx (loadGlobal_builtin (env := envOf name scope L _ cd) (a.keeps F.keep) d3 (b.keeps F.keep) ((c _ (by decide)).trans (by decide +kernel)) h) (by decide)
end

end Mine
end

section
open PySem PySem.W PySem.Calls PyProof.Rows
set_option Elab.async false
set_option maxRecDepth 100000
namespace Mine

theorem Fr.with {h₀ h : Heap} {L : Addr} {m : Str → Option Value} {x : Str} {v : Value} (F : Fr h₀ L h m) (e : m x = some v) : Fr h₀ L h (fun y => if y = x then some v else m y) := by
  have : (fun y => if y = x then some v else m y) = m := by
    funext y
    by_cases h : y = x
    · subst h; simp [e]
    · simp [h]
  rw [this]; exact F

section
variable {prog : Program} {w : World} {A : Around} {E : Value → Shared → Prop} {s : Shared} {h₀ : Heap} {L a : Addr} {m : Str → Option Value} {news : List (Addr × Obj)} {ns : List Int}

theorem nba_item {value slice : Expr} {k : Int} {u : Tok} {Q : Value → Shared → Prop} (N : News h₀ L s.heap news) (hm : (a, baObj ns) ∈ news) (hb : Oct ns) (h0 : 0 ≤ k) (h1 : k < ns.length) (hz : ns.length ≤ 16777216)
    (h : Q (.int (ns.getD k.toNat 0) s.toks) { s with toks := s.toks + 1 })
    (hs : subscripted slice false (.ref a) (.int k u) = operate [.ref a, .int k u] (getItem (.ref a) (.int k u)) := by with_unfolding_all rfl) (hg : ∀ r, letTemporaryGo value (.ref a) r = pure () := by intro _; with_unfolding_all rfl) :
    wpAny (model prog w) A (subscriptTail value slice (.ref a) (.int k u)) Q E s :=
  subscriptTail_builtin (ba_typeIs (N.get hm)) ba_slot_getitem.lookup (ba_getItem (N.get hm) hb h0 h1 hz h) hs hg

theorem nba_set {k v : Int} {t u : Tok} {rest : List (Addr × Obj)} {Q : Unit → Shared → Prop} (F : Fr h₀ L s.heap m) (N : News h₀ L s.heap ((a, baObj ns) :: rest)) (hne : ∀ p ∈ rest, p.1 ≠ a) (h0 : 0 ≤ k) (h1 : k < ns.length) (hz : ns.length ≤ 16777216) (hv0 : 0 ≤ v) (hv1 : v < 256)
    (h : ∀ h', Fr h₀ L h' m → News h₀ L h' ((a, baObj (ns.set k.toNat v)) :: rest) → Q () { s with heap := h' }) : wpAny (model prog w) A (setItem (.ref a) (.int k t) (.int v u)) Q E s := by
  refine ba_setItem (N.get (.head _)) h0 h1 hz hv0 hv1 fun h' hg hs => h h' (F.update N (.head _) hs) fun p hp => ?_
  rcases List.mem_cons.mp hp with rfl | hp
  · exact ⟨hg, (N _ (.head _)).2⟩
  · exact ⟨(hs.2 _ (hne p hp)).trans (N p (.tail _ hp)).1, (N p (.tail _ hp)).2⟩

theorem nba_len {Q : Value → Shared → Prop} (N : News h₀ L s.heap news) (hm : (a, baObj ns) ∈ news) (hz : ns.length ≤ 16777216) (h : Q (.int ns.length (s.toks + 1)) { s with toks := s.toks + 1 + 1 }) :
    wpAny (model prog w) A (call (.builtin "len") [.ref a]) Q E s := ba_len (N.get hm) (by omega) h

theorem and255 {x : Int} {t u : Tok} {Q : Value → Shared → Prop} (h : Q (.int (x % 256) s.toks) { s with toks := s.toks + 1 }) : wpAny (model prog w) A (binaryOp .BitAnd (.int x t) (.int 255 u)) Q E s := by
  refine and_int ?_
  have e : Builtin.bitAnd x 255 = x % 256 := kbt_mask x 8
  rw [e]; exact h
end

local macro_rules | `(tactic| walk_at "eval Name") => `(tactic| (refine nm_range (by assumption) (by assumption) ?_ rfl rfl))
local macro_rules | `(tactic| walk_at "eval Name") => `(tactic| (refine nm_len (by assumption) (by assumption) ?_ rfl rfl))
local macro_rules | `(tactic| walk_at "eval Name") => `(tactic| (refine nm_abs (by assumption) (by assumption) ?_ rfl rfl))
local macro_rules | `(tactic| walk_at "subscriptTail") => `(tactic| ((with_reducible show wpAny _ _ (subscriptTail _ _ (Value.ref _) (Value.int _ _)) _ _ _); refine nba_item (by assumption) (by k_mem) (by assumption) (by omega) (by omega) (by omega) ?_))
local macro_rules | `(tactic| walk_at "setItem ref int") => `(tactic| ((with_reducible show wpAny _ _ (setItem (Value.ref _) (Value.int _ _) (Value.int _ _)) _ _ _); refine nba_set (by assumption) (by assumption) (by assumption) (by omega) (by omega) (by omega) (by omega) (by omega) ?_; intro _ _ _))
local macro_rules | `(tactic| walk_at "call builtin:len") => `(tactic| ((with_reducible show wpAny _ _ (call (Value.builtin "len") [Value.ref _]) _ _ _); refine nba_len (by assumption) (by k_mem) (by omega) ?_))
local macro_rules | `(tactic| walk_at "binaryOp BitAnd int int") => `(tactic| (with_reducible refine and255 ?_))
local macro_rules | `(tactic| walk_at "binaryOp RShift int int") => `(tactic| (refine wpAny_rshift1_int (by omega) ?_))

section
variable {prog : Program} {w : World} {A : Around} {s : Shared} {g : Heap} {f c' sc pv r L : Addr} {m : Str → Option Value} {xs bs ys : List Int} {rest : List (Addr × Obj)}


/-- the end of a turn: only these things are known -/
structure TEnd (g : Heap) (L : Addr) (s : Shared) (news : List (Addr × Obj)) (P : (Str → Option Value) → Prop) (fl : Flow) (s' : Shared) : Prop where
  fl : fl = .next
  st : ∃ h' tk m', s' = { s with heap := h', toks := tk } ∧ Fr g L h' m' ∧ News g L h' news ∧ P m'

theorem TEnd.mk' {g h' : Heap} {L : Addr} {s : Shared} {news news' : List (Addr × Obj)} {P : (Str → Option Value) → Prop} {tk : Nat} {m' : Str → Option Value} (F : Fr g L h' m') (N : News g L h' news') (e : news' = news) (p : P m') :
    TEnd g L s news P .next { s with heap := h', toks := tk } := ⟨rfl, h', tk, m', rfl, F, e ▸ N, p⟩

def itObj (x left : Int) : Obj := { cls := .type "range_iterator", data := .fields #[rawInt x, rawInt left, rawInt 1] }

/-- a for over a range by ones, whose turns change the frame and the ledger's first object -/
theorem range_go {env : Env} {x : Str} {px : Pos} {body : List Stmt} {a b : Int} {t u v : Tok} {rr : Addr} {n : Nat} {G : Nat → List Int} {J : Nat → (Str → Option Value) → Prop} {Q : Flow → Shared → Prop}
    (hh : A.handled = none) (hx : env.kindOf x = some .local) (hk : env.scope.kind = .function) (hL : env.locals = L)
    (ha : -(2 ^ 61) < a ∧ a < 2 ^ 61) (hb : -(2 ^ 61) < b ∧ b < 2 ^ 61) (hn : n = (b - a).toNat)
    (hr : IsRange s.heap rr a b 1 t u v) (F : Fr g L s.heap m) (N : News g L s.heap ((r, baObj (G 0)) :: rest)) (h0 : J 0 m)
    (turn : ∀ i tk it m₁ (s₁ : Shared), i < n → J i m₁ → it.1 ≠ r → Fr g L s₁.heap (fun y => if y = x then some (.int (a + i) tk) else m₁ y) → News g L s₁.heap ((r, baObj (G i)) :: it :: rest) →
      wpAny (model prog w) A (execs body env) (TEnd g L s₁ ((r, baObj (G (i + 1))) :: it :: rest) (J (i + 1))) (fun _ _ => False) s₁)
    (done : ∀ h' tk m', Fr g L h' m' → News g L h' ((r, baObj (G n)) :: rest) → J n m' → Q .next { s with heap := h', toks := tk }) :
    wpAny (model prog w) A (pyIter (.ref rr)) (fun it s₂ =>
      codeAny (model prog w) A (.forLoop (.Name x px) it body [] env) (fun r s' => match r with | .ok f => Q f s' | .error e => cameBackBy (model prog w) A env (fun _ _ => False) e s') s₂) (fun _ _ => False) s := by
  subst hL
  have hs1 : Builtin.Range.small a b 1 = true := small_one (by omega) (by omega) (by omega) (by omega)
  have hsz : Builtin.Range.rangeSize a b 1 = (n : Int) := by rw [rangeSize_one]; split <;> omega
  refine wpAny_pyIter_range hr hs1 ?_
  rw [hsz]
  have F2 := (F.push (itObj a n))
  have N2 := News.push F N (itObj a n)
  generalize hI : s.heap.objs.size = I at N2 ⊢
  have hIr : I ≠ r := by
    have h1 : r < s.heap.objs.size := Heap.lt_size (N.get (.head _))
    rw [hI] at h1
    exact Nat.ne_of_gt h1
  have hIrest : ∀ p ∈ rest, p.1 ≠ I := fun p hp => by
    have h1 : p.1 < s.heap.objs.size := Heap.lt_size (N p (.tail _ hp)).1
    rw [hI] at h1
    exact Nat.ne_of_lt h1
  have hxL : I ≠ env.locals := N2.ne (.head _)
  have hp : (env.scope.kind == .class || (env.scope.kind == .module && env.locals != env.globals)) = false := by rw [hk]; rfl
  refine codeAny_forLoop (fun k s' => ∃ i h' tk m', s' = { s with heap := h', toks := tk } ∧ i ≤ n ∧ k = n + 1 - i ∧ Fr g env.locals h' m' ∧ News g env.locals h' ((r, baObj (G i)) :: (I, itObj (a + i) (n - i)) :: rest) ∧ J i m') ?_ (n + 1)
    ⟨0, _, _, m, rfl, Nat.zero_le _, rfl, F2, ?_, h0⟩
  · rintro k s' ⟨i, h', tk, m', rfl, hi, rfl, F', N', hJ⟩
    have hit : IsRangeIter h' I (a + i) (n - i) 1 := N'.get (.tail _ (.head _))
    by_cases hlt : i < n
    · refine wpAny_pyNext_range_item (s := { s with heap := h', toks := tk }) hit (by omega) fun h₁ hit₁ hs₁ => ?_
      have F₁ := F'.update N' (.tail _ (.head _)) hs₁
      refine wpAny_assign_Name (wpAny_storeName_local hx F₁.ns (fun h₂ hn₂ hs₂ => ?_) hp)
      have N₂ : News g env.locals h₂ ((r, baObj (G i)) :: (I, itObj (a + ((i + 1 : Nat) : Int)) (n - ((i + 1 : Nat) : Int))) :: rest) := by
        intro p hp
        have hpL : p.1 ≠ env.locals ∧ g.get? p.1 = none := by
          rcases List.mem_cons.mp hp with rfl | hp
          · exact (N' _ (.head _)).2
          · rcases List.mem_cons.mp hp with rfl | hp
            · exact (N' (I, itObj (a + i) (n - i)) (.tail _ (.head _))).2
            · exact (N' p (.tail _ (.tail _ hp))).2
        refine ⟨(hs₂.2 _ hpL.1).trans ?_, hpL⟩
        rcases List.mem_cons.mp hp with rfl | hp
        · exact (hs₁.2 _ (Ne.symm hIr)).trans (N' _ (.head _)).1
        · rcases List.mem_cons.mp hp with rfl | hp
          · show h₁.get? I = _
            have e1 : a + ((i + 1 : Nat) : Int) = a + (i : Int) + 1 := by omega
            have e2 : (n : Int) - ((i + 1 : Nat) : Int) = (n : Int) - (i : Int) - 1 := by omega
            rw [e1, e2]
            exact hit₁
          · exact (hs₁.2 _ (hIrest p hp)).trans (N' p (.tail _ (.tail _ hp))).1
      refine wpAny_mono (turn i _ (I, _) m' _ hlt hJ hIr (F₁.set hn₂ hs₂) N₂) (fun fl s₃ h₃ => ?_) fun _ _ e => e.elim
      obtain ⟨rfl, h₃', tk₃, m₃, rfl, F₃, N₃, hJ₃⟩ := h₃
      exact ⟨n + 1 - (i + 1), by omega, i + 1, h₃', tk₃, m₃, rfl, hlt, rfl, F₃, N₃, hJ₃⟩
    · have hin : i = n := by omega
      subst hin
      refine wpAny_pyNext_range_end (s := { s with heap := h', toks := tk }) hh hit (by omega) fun h₁ he₁ => wpAny_execs_nil ?_
      have hge : ∀ b, (∃ o, g.get? b = some o) → b ≠ I := by
        rintro b ⟨o, e⟩ rfl
        rw [(N' _ (.tail _ (.head _))).2.2] at e
        cases e
      refine done h₁ tk m' ⟨F'.ns.extBut he₁ (Ne.symm hxL), fun b o e => he₁ b o (hge b ⟨o, e⟩) (F'.keep b o e), F'.above⟩ (fun p hp => ?_) hJ
      have hpI : p.1 ≠ I := by
        rcases List.mem_cons.mp hp with rfl | hp
        · exact Ne.symm hIr
        · exact hIrest p hp
      have hp' : p ∈ (r, baObj (G i)) :: (I, itObj (a + i) (i - i)) :: rest := by
        rcases List.mem_cons.mp hp with rfl | hp
        · exact .head _
        · exact .tail _ (.tail _ hp)
      exact ⟨he₁ _ _ hpI (N' p hp').1, (N' p hp').2⟩
  · intro p hp
    rcases List.mem_cons.mp hp with rfl | hp
    · exact N2 _ (.tail _ (.head _))
    · rcases List.mem_cons.mp hp with rfl | hp
      · have h1 := N2 _ (.head _)
        have e1 : a + ((0 : Nat) : Int) = a := by simp
        have e2 : (n : Int) - ((0 : Nat) : Int) = n := by simp
        rw [e1, e2]
        exact h1
      · exact N2 p (.tail _ (.tail _ hp))
end

section
/-- the pure law: one octet -/
abbrev ab (x : Int) : Int := if x < 0 then -x else x
def pae (a b c : Int) : Int :=
  if ab (a + b - c - a) ≤ ab (a + b - c - b) ∧ ab (a + b - c - a) ≤ ab (a + b - c - c) then a
  else if ab (a + b - c - b) ≤ ab (a + b - c - c) then b else c
def stepV (way x a b c : Int) : Int :=
  if way = 1 then (x + a) % 256 else if way = 2 then (x + b) % 256 else if way = 3 then (x + (a + b) / 2) % 256 else if way = 4 then (x + pae a b c) % 256 else x
def undoN (way : Int) (u : Nat) (xs bs : List Int) : Nat → List Int
  | 0 => []
  | i + 1 => undoN way u xs bs i ++ [stepV way (xs.getD i 0) (if i < u then 0 else (undoN way u xs bs i).getD (i - u) 0) (bs.getD i 0) (if i < u then 0 else bs.getD (i - u) 0)]
def undo (way : Int) (u : Nat) (xs bs : List Int) : List Int := undoN way u xs bs xs.length
def mid (way : Int) (u : Nat) (xs bs : List Int) (i : Nat) : List Int := undoN way u xs bs i ++ xs.drop i

variable {way : Int} {u : Nat} {xs bs : List Int}
theorem undoN_len : ∀ i, (undoN way u xs bs i).length = i
  | 0 => rfl
  | i + 1 => by rw [undoN, List.length_append, undoN_len i]; rfl
theorem mid_zero : mid way u xs bs 0 = xs := by simp [mid, undoN]
theorem mid_end : mid way u xs bs xs.length = undo way u xs bs := by simp [mid, undo]
theorem mid_len {i : Nat} (hi : i ≤ xs.length) : (mid way u xs bs i).length = xs.length := by simp [mid, undoN_len]; omega
theorem mid_set {i : Nat} {v : Int} (hi : i < xs.length) (hv : v = stepV way (xs.getD i 0) (if i < u then 0 else (mid way u xs bs i).getD (i - u) 0) (bs.getD i 0) (if i < u then 0 else bs.getD (i - u) 0)) (hu : 1 ≤ u) :
    (mid way u xs bs i).set i v = mid way u xs bs (i + 1) := by
  have e : (mid way u xs bs i).getD (i - u) 0 = if i < u then (mid way u xs bs i).getD (i - u) 0 else (undoN way u xs bs i).getD (i - u) 0 := by
    split
    · rfl
    · simp only [mid, List.getD_eq_getElem?_getD]
      rw [List.getElem?_append_left (by rw [undoN_len]; omega)]
  have hv' : v = stepV way (xs.getD i 0) (if i < u then 0 else (undoN way u xs bs i).getD (i - u) 0) (bs.getD i 0) (if i < u then 0 else bs.getD (i - u) 0) := by
    rw [hv, e]
    by_cases h : i < u <;> simp [h]
  have hd : xs.drop i = xs.getD i 0 :: xs.drop (i + 1) := by
    rw [List.drop_eq_getElem_cons hi, List.getD_eq_getElem?_getD, List.getElem?_eq_getElem hi]; rfl
  unfold mid
  rw [hd, List.set_append_right _ _ (by rw [undoN_len]; exact Nat.le_refl _), undoN_len, Nat.sub_self, undoN, ← hv']
  simp
theorem mid_setI {i : Nat} {v : Int} (hi : i < xs.length) (hu : 1 ≤ u) (hv : v = stepV way (xs.getD (i : Int).toNat 0) (if i < u then 0 else (mid way u xs bs i).getD ((i : Int) - u).toNat 0) (bs.getD (i : Int).toNat 0) (if i < u then 0 else bs.getD ((i : Int) - u).toNat 0)) :
    (mid way u xs bs i).set (i : Int).toNat v = mid way u xs bs (i + 1) := by
  have e : ((i : Int) - u).toNat = i - u := by omega
  rw [e] at hv
  exact mid_set hi hv hu
theorem stepV_oct {x a b c : Int} (hx : 0 ≤ x ∧ x < 256) : 0 ≤ stepV way x a b c ∧ stepV way x a b c < 256 := by
  unfold stepV
  repeat' split
  all_goals first | omega | exact hx
theorem Oct.getD {ns : List Int} (h : Oct ns) (k : Nat) : 0 ≤ ns.getD k 0 ∧ ns.getD k 0 < 256 := by
  rw [List.getD_eq_getElem?_getD]
  cases e : ns[k]? with
  | none => simp
  | some x => exact h x (List.mem_of_getElem? e)
theorem undoN_oct (hx : Oct xs) : ∀ i, Oct (undoN way u xs bs i)
  | 0 => fun n hn => nomatch hn
  | i + 1 => fun n hn => by
    rw [undoN] at hn
    rcases List.mem_append.mp hn with hn | hn
    · exact undoN_oct hx i n hn
    · rw [List.mem_singleton.mp hn]
      exact stepV_oct (hx.getD i)
theorem mid_oct (hx : Oct xs) (i : Nat) : Oct (mid way u xs bs i) := fun n hn => by
  rcases List.mem_append.mp hn with hn | hn
  · exact undoN_oct hx i n hn
  · exact hx n (List.mem_of_mem_drop hn)
theorem undo_oct (hx : Oct xs) : Oct (undo way u xs bs) := undoN_oct hx _
theorem undo_len : (undo way u xs bs).length = xs.length := undoN_len _
/-- by «sub» the first octets stay as they are -/
theorem mid_sub (hx : Oct xs) : ∀ i, i ≤ u → i ≤ xs.length → mid 1 u xs bs i = xs
  | 0, _, _ => mid_zero
  | i + 1, h, hl => by
    have ih := mid_sub hx i (by omega) (by omega)
    have hd : xs.drop i = xs.getD i 0 :: xs.drop (i + 1) := by
      rw [List.drop_eq_getElem_cons (by omega), List.getD_eq_getElem?_getD, List.getElem?_eq_getElem (by omega)]; rfl
    have hv := hx.getD i
    have e : stepV 1 (xs.getD i 0) (if i < u then 0 else (undoN 1 u xs bs i).getD (i - u) 0) (bs.getD i 0) (if i < u then 0 else bs.getD (i - u) 0) = xs.getD i 0 := by
      rw [if_pos (by omega : i < u)]
      show (xs.getD i 0 + 0) % 256 = _
      omega
    unfold mid at ih ⊢
    rw [undoN, e, List.append_assoc, List.singleton_append, ← hd]
    exact ih
end
end Mine
end

section
open PySem PySem.W PySem.Calls PyProof.Rows
set_option Elab.async false
set_option maxRecDepth 100000
namespace Mine

local macro_rules | `(tactic| walk_at "eval Name") => `(tactic| (refine nm_range (by assumption) (by assumption) ?_ rfl rfl))
local macro_rules | `(tactic| walk_at "eval Name") => `(tactic| (refine nm_len (by assumption) (by assumption) ?_ rfl rfl))
local macro_rules | `(tactic| walk_at "eval Name") => `(tactic| (refine nm_abs (by assumption) (by assumption) ?_ rfl rfl))
local macro_rules | `(tactic| walk_at "subscriptTail") => `(tactic| ((with_reducible show wpAny _ _ (subscriptTail _ _ (Value.ref _) (Value.int _ _)) _ _ _); refine nba_item (by assumption) (by first | k_mem | assumption) (by assumption) (by omega) (by omega) (by omega) ?_))
local macro_rules | `(tactic| walk_at "setItem ref int") => `(tactic| ((with_reducible show wpAny _ _ (setItem (Value.ref _) (Value.int _ _) (Value.int _ _)) _ _ _); refine nba_set (by assumption) (by assumption) (by assumption) (by omega) (by omega) (by omega) (by omega) (by omega) ?_; intro _ _ _))
local macro_rules | `(tactic| walk_at "call builtin:len") => `(tactic| ((with_reducible show wpAny _ _ (call (Value.builtin "len") [Value.ref _]) _ _ _); refine nba_len (by assumption) (by first | k_mem | assumption) (by omega) ?_))
local macro_rules | `(tactic| walk_at "binaryOp BitAnd int int") => `(tactic| (with_reducible refine and255 ?_))
local macro_rules | `(tactic| walk_at "binaryOp RShift int int") => `(tactic| (refine wpAny_rshift1_int (by omega) ?_))

section
variable {prog : Program} {w : World} {A : Around} {E : Value → Shared → Prop} {s : Shared} {g h₀ : Heap} {f c' sc pv r L : Addr} {m : Str → Option Value} {xs bs ys : List Int} {rest : List (Addr × Obj)}

theorem news_start {h₁ : Heap} (F : Fr s.heap s.heap.objs.size h₁ m) (hr : s.heap.get? r = some (baObj xs)) (hsc : s.heap.get? sc = some (baObj xs)) (hpv : s.heap.get? pv = some (baObj bs)) :
    Fr (hideAll s.heap [r, sc, pv]) s.heap.objs.size h₁ m ∧ News (hideAll s.heap [r, sc, pv]) s.heap.objs.size h₁ ((r, baObj xs) :: [(sc, baObj xs), (pv, baObj bs)]) := by
  refine ⟨⟨F.ns, fun b o e => F.keep b o (of_hideAll _ e), Nat.le_of_eq (hideAll_size _ _)⟩, fun p hp => ?_⟩
  have one : ∀ {a : Addr} {o : Obj}, s.heap.get? a = some o → a ∈ [r, sc, pv] → h₁.get? a = some o ∧ a ≠ s.heap.objs.size ∧ (hideAll s.heap [r, sc, pv]).get? a = none :=
    fun e hm => ⟨F.keep _ _ e, Nat.ne_of_lt (Heap.lt_size e), hideAll_none _ hm⟩
  rcases List.mem_cons.mp hp with rfl | hp
  · exact one hr (by simp)
  · rcases List.mem_cons.mp hp with rfl | hp
    · exact one hsc (by simp)
    · rw [List.mem_singleton.mp hp]
      exact one hpv (by simp)

theorem base_hide (B : Base h₀) (hk : ∀ b o, h₀.get? b = some o → s.heap.get? b = some o) (f1 : h₀.get? r = none) (f2 : h₀.get? sc = none) (f3 : h₀.get? pv = none) : Base (hideAll s.heap [r, sc, pv]) := by
  refine B.keeps fun b o e => hideAll_get _ (hk b o e) fun hm => ?_
  simp only [List.mem_cons, List.not_mem_nil, or_false] at hm
  rcases hm with rfl | rfl | rfl
  · rw [f1] at e; cases e
  · rw [f2] at e; cases e
  · rw [f3] at e; cases e

theorem news_end {h' : Heap} (F : Fr (hideAll s.heap [r, sc, pv]) L h' m) (N : News (hideAll s.heap [r, sc, pv]) L h' ((r, baObj ys) :: [(sc, baObj xs), (pv, baObj bs)])) (hsc : s.heap.get? sc = some (baObj xs)) (hpv : s.heap.get? pv = some (baObj bs)) :
    h'.get? r = some (baObj ys) ∧ ∀ b o, b ≠ r → s.heap.get? b = some o → h'.get? b = some o := by
  refine ⟨N.get (.head _), fun b o hb e => ?_⟩
  by_cases h1 : b = sc
  · subst h1; rw [hsc] at e; cases e; exact N.get (.tail _ (.head _))
  · by_cases h2 : b = pv
    · subst h2; rw [hpv] at e; cases e; exact N.get (.tail _ (.tail _ (.head _)))
    · exact F.keep b o (hideAll_get _ e fun hm => by
        simp only [List.mem_cons, List.not_mem_nil, or_false] at hm
        rcases hm with h | h | h
        · exact hb h
        · exact h1 h
        · exact h2 h)

theorem stepV_1 {x a b c : Int} : stepV 1 x a b c = (x + a) % 256 := by simp [stepV]
theorem stepV_2 {x a b c : Int} : stepV 2 x a b c = (x + b) % 256 := by simp [stepV]
theorem stepV_3 {x a b c : Int} : stepV 3 x a b c = (x + (a + b) / 2) % 256 := by simp [stepV]
theorem stepV_4 {x a b c : Int} : stepV 4 x a b c = (x + pae a b c) % 256 := by simp [stepV]

set_option maxHeartbeats 1000000 in
theorem up_call {u : Nat} {t : Tok} {Q : Value → Shared → Prop} (hroom : A.depth < recursionLimit) (hh : A.handled = none) (B : Base h₀) (hk : ∀ b o, h₀.get? b = some o → s.heap.get? b = some o) (hf : FnAt s.heap f c' dUp)
    (hr : s.heap.get? r = some (baObj xs)) (hsc : s.heap.get? sc = some (baObj xs)) (hpv : s.heap.get? pv = some (baObj bs)) (n1 : sc ≠ r) (n2 : pv ≠ r) (f1 : h₀.get? r = none) (f2 : h₀.get? sc = none) (f3 : h₀.get? pv = none)
    (hx : Oct xs) (hb : Oct bs) (hl : bs.length = xs.length) (hz : xs.length ≤ 1048576) (hu : 1 ≤ u)
    (hQ : ∀ h' tk, h'.get? r = some (baObj (undo 2 u xs bs)) → (∀ b o, b ≠ r → s.heap.get? b = some o → h'.get? b = some o) → Q .none { s with heap := h', toks := tk }) :
    wpAny (model prog w) A (call (.ref f) [.int u t, .ref sc, .ref pv, .ref r]) Q E s := by
  obtain ⟨o, pm, doc, ho, hd, hcd⟩ := hf
  refine wpAny_call (call_plain_ret hroom ho hd (B.nolimit.keeps hk) hcd (binds := [("filter_unit", .int u t), ("scanline", .ref sc), ("previous", .ref pv), ("result", .ref r)]) (by rfl) (locs rfl) (fun h₁ F₁ => ?_) rfl rfl rfl (by decide))
  obtain ⟨F, N⟩ := news_start F₁ hr hsc hpv
  have Bg := base_hide (s := s) B hk f1 f2 f3
  clear F₁
  generalize hg : hideAll s.heap [r, sc, pv] = g at F N Bg
  have hne : ∀ p ∈ [(sc, baObj xs), (pv, baObj bs)], p.1 ≠ r := by simp [n1, n2]
  refine wpAny_execs_cons ?_
  refine wpAny_For ?_
  repeat' walk1
  refine range_go (L := s.heap.objs.size) (a := 0) (b := xs.length) (n := xs.length) (r := r) (rest := [(sc, baObj xs), (pv, baObj bs)]) (G := mid 2 u xs bs) (J := fun _ m => m "scanline" = some (.ref sc) ∧ m "previous" = some (.ref pv) ∧ m "result" = some (.ref r))
    hh rfl rfl rfl (by omega) (by omega) (by omega) (by assumption) (by assumption) (by rw [mid_zero]; assumption) ⟨rfl, rfl, rfl⟩ ?_ ?_
  · rintro i tk it m₁ s₁ hi ⟨h1, h2, h3⟩ hit F N
    have F := Fr.with F (x := "scanline") ((if_neg (by decide)).trans h1)
    have F := Fr.with F (x := "previous") ((if_neg (by decide)).trans ((if_neg (by decide)).trans h2))
    have F := Fr.with F (x := "result") ((if_neg (by decide)).trans ((if_neg (by decide)).trans ((if_neg (by decide)).trans h3)))
    have hne' : ∀ p ∈ [it, (sc, baObj xs), (pv, baObj bs)], p.1 ≠ r := by simp [n1, n2, hit]
    have hy : Oct (mid 2 u xs bs i) := mid_oct hx i
    have hyl : (mid 2 u xs bs i).length = xs.length := mid_len (by omega)
    simp only [Int.zero_add] at F
    repeat' walk1
    refine TEnd.mk' (by assumption) (by assumption) (congrArg (fun l => (r, baObj l) :: _) (mid_set (way := 2) hi ?_ hu)) ⟨rfl, rfl, rfl⟩
    rw [stepV_2, Int.toNat_natCast]
  · rintro h' tk m' F N _
    rw [mid_end] at N
    obtain ⟨e1, e2⟩ := news_end (s := s) (by rw [hg]; exact F) (by rw [hg]; exact N) hsc hpv
    exact wpAny_execs_nil (hQ h' tk e1 e2)

theorem fin_a {x a b c : Int} (h1 : ab (a + b - c - a) ≤ ab (a + b - c - b)) (h2 : ab (a + b - c - a) ≤ ab (a + b - c - c)) : (x + a) % 256 = stepV 4 x a b c := by
  rw [stepV_4]; unfold pae; rw [if_pos ⟨h1, h2⟩]
theorem fin_b1 {x a b c : Int} (h1 : ¬ ab (a + b - c - a) ≤ ab (a + b - c - b)) (h2 : ab (a + b - c - b) ≤ ab (a + b - c - c)) : (x + b) % 256 = stepV 4 x a b c := by
  rw [stepV_4]; unfold pae; rw [if_neg fun h => h1 h.1, if_pos h2]
theorem fin_b2 {x a b c : Int} (h1 : ¬ ab (a + b - c - a) ≤ ab (a + b - c - c)) (h2 : ab (a + b - c - b) ≤ ab (a + b - c - c)) : (x + b) % 256 = stepV 4 x a b c := by
  rw [stepV_4]; unfold pae; rw [if_neg fun h => h1 h.2, if_pos h2]
theorem fin_c1 {x a b c : Int} (h1 : ¬ ab (a + b - c - a) ≤ ab (a + b - c - b)) (h2 : ¬ ab (a + b - c - b) ≤ ab (a + b - c - c)) : (x + c) % 256 = stepV 4 x a b c := by
  rw [stepV_4]; unfold pae; rw [if_neg fun h => h1 h.1, if_neg h2]
theorem fin_c2 {x a b c : Int} (h1 : ¬ ab (a + b - c - a) ≤ ab (a + b - c - c)) (h2 : ¬ ab (a + b - c - b) ≤ ab (a + b - c - c)) : (x + c) % 256 = stepV 4 x a b c := by
  rw [stepV_4]; unfold pae; rw [if_neg fun h => h1 h.2, if_neg h2]
theorem ai0 (u : Nat) (t : Tok) : some (Value.int (-(u : Int)) t) = some (Value.int (((0 : Nat) : Int) - u) t) := congrArg (fun z => some (Value.int z t)) (by omega)
theorem ai1 (u i : Nat) (t : Tok) : some (Value.int ((i : Int) - u + 1) t) = some (Value.int (((i + 1 : Nat) : Int) - u) t) := congrArg (fun z => some (Value.int z t)) (by omega)

set_option maxHeartbeats 4000000 in
theorem avg_call {u : Nat} {t : Tok} {Q : Value → Shared → Prop} (hroom : A.depth < recursionLimit) (hh : A.handled = none) (B : Base h₀) (hk : ∀ b o, h₀.get? b = some o → s.heap.get? b = some o) (hf : FnAt s.heap f c' dAvg)
    (hr : s.heap.get? r = some (baObj xs)) (hsc : s.heap.get? sc = some (baObj xs)) (hpv : s.heap.get? pv = some (baObj bs)) (n1 : sc ≠ r) (n2 : pv ≠ r) (f1 : h₀.get? r = none) (f2 : h₀.get? sc = none) (f3 : h₀.get? pv = none)
    (hx : Oct xs) (hb : Oct bs) (hl : bs.length = xs.length) (hz : xs.length ≤ 1048576) (hu : 1 ≤ u)
    (hQ : ∀ h' tk, h'.get? r = some (baObj (undo 3 u xs bs)) → (∀ b o, b ≠ r → s.heap.get? b = some o → h'.get? b = some o) → Q .none { s with heap := h', toks := tk }) :
    wpAny (model prog w) A (call (.ref f) [.int u t, .ref sc, .ref pv, .ref r]) Q E s := by
  obtain ⟨o, pm, doc, ho, hd, hcd⟩ := hf
  refine wpAny_call (call_plain_ret hroom ho hd (B.nolimit.keeps hk) hcd (binds := [("filter_unit", .int u t), ("scanline", .ref sc), ("previous", .ref pv), ("result", .ref r)]) (by rfl) (locs rfl) (fun h₁ F₁ => ?_) rfl rfl rfl (by decide))
  obtain ⟨F, N⟩ := news_start F₁ hr hsc hpv
  have Bg := base_hide (s := s) B hk f1 f2 f3
  clear F₁
  generalize hg : hideAll s.heap [r, sc, pv] = g at F N Bg
  have hne : ∀ p ∈ [(sc, baObj xs), (pv, baObj bs)], p.1 ≠ r := by simp [n1, n2]
  iterate 7 walk1
  refine wpAny_For ?_
  repeat' walk1
  refine range_go (L := s.heap.objs.size) (a := 0) (b := xs.length) (n := xs.length) (r := r) (rest := [(sc, baObj xs), (pv, baObj bs)]) (G := mid 3 u xs bs) (J := fun i m => m "scanline" = some (.ref sc) ∧ m "previous" = some (.ref pv) ∧ m "result" = some (.ref r) ∧ ∃ t, m "ai" = some (.int ((i : Int) - u) t))
    hh rfl rfl rfl (by omega) (by omega) (by omega) (by assumption) (by assumption) (by rw [mid_zero]; assumption) ⟨rfl, rfl, rfl, _, Eq.trans rfl (ai0 u _)⟩ ?_ ?_
  · rintro i tk it m₁ s₁ hi ⟨h1, h2, h3, t4, h4⟩ hit F N
    have F := Fr.with F (x := "ai") ((if_neg (by decide)).trans h4)
    have F := Fr.with F (x := "scanline") ((if_neg (by decide)).trans ((if_neg (by decide)).trans h1))
    have F := Fr.with F (x := "previous") ((if_neg (by decide)).trans ((if_neg (by decide)).trans ((if_neg (by decide)).trans h2)))
    have F := Fr.with F (x := "result") ((if_neg (by decide)).trans ((if_neg (by decide)).trans ((if_neg (by decide)).trans ((if_neg (by decide)).trans h3))))
    have hne' : ∀ p ∈ [it, (sc, baObj xs), (pv, baObj bs)], p.1 ≠ r := by simp [n1, n2, hit]
    have hy : Oct (mid 3 u xs bs i) := mid_oct hx i
    have hyl : (mid 3 u xs bs i).length = xs.length := mid_len (by omega)
    simp only [Int.zero_add] at F
    have q1 := hb.getD (i : Int).toNat
    have q2 := hy.getD ((i : Int) - u).toNat
    repeat' walk1
    all_goals refine TEnd.mk' (by assumption) (by assumption) (congrArg (fun l => (r, baObj l) :: _) (mid_set (way := 3) hi ?_ hu)) ⟨rfl, rfl, rfl, _, Eq.trans rfl (ai1 u i _)⟩
    · have hlt : i < u := by omega
      rw [stepV_3, if_pos hlt, Int.toNat_natCast]
    · have hge : ¬ i < u := by omega
      have e : ((i : Int) - u).toNat = i - u := by omega
      rw [stepV_3, if_neg hge, e, Int.toNat_natCast]
  · rintro h' tk m' F N _
    rw [mid_end] at N
    obtain ⟨e1, e2⟩ := news_end (s := s) (by rw [hg]; exact F) (by rw [hg]; exact N) hsc hpv
    exact wpAny_execs_nil (hQ h' tk e1 e2)
set_option maxHeartbeats 4000000 in
theorem pae_call {u : Nat} {t : Tok} {Q : Value → Shared → Prop} (hroom : A.depth < recursionLimit) (hh : A.handled = none) (B : Base h₀) (hk : ∀ b o, h₀.get? b = some o → s.heap.get? b = some o) (hf : FnAt s.heap f c' dPae)
    (hr : s.heap.get? r = some (baObj xs)) (hsc : s.heap.get? sc = some (baObj xs)) (hpv : s.heap.get? pv = some (baObj bs)) (n1 : sc ≠ r) (n2 : pv ≠ r) (f1 : h₀.get? r = none) (f2 : h₀.get? sc = none) (f3 : h₀.get? pv = none)
    (hx : Oct xs) (hb : Oct bs) (hl : bs.length = xs.length) (hz : xs.length ≤ 1048576) (hu : 1 ≤ u)
    (hQ : ∀ h' tk, h'.get? r = some (baObj (undo 4 u xs bs)) → (∀ b o, b ≠ r → s.heap.get? b = some o → h'.get? b = some o) → Q .none { s with heap := h', toks := tk }) :
    wpAny (model prog w) A (call (.ref f) [.int u t, .ref sc, .ref pv, .ref r]) Q E s := by
  obtain ⟨o, pm, doc, ho, hd, hcd⟩ := hf
  refine wpAny_call (call_plain_ret hroom ho hd (B.nolimit.keeps hk) hcd (binds := [("filter_unit", .int u t), ("scanline", .ref sc), ("previous", .ref pv), ("result", .ref r)]) (by rfl) (locs rfl) (fun h₁ F₁ => ?_) rfl rfl rfl (by decide))
  obtain ⟨F, N⟩ := news_start F₁ hr hsc hpv
  have Bg := base_hide (s := s) B hk f1 f2 f3
  clear F₁
  generalize hg : hideAll s.heap [r, sc, pv] = g at F N Bg
  have hne : ∀ p ∈ [(sc, baObj xs), (pv, baObj bs)], p.1 ≠ r := by simp [n1, n2]
  iterate 7 walk1
  refine wpAny_For ?_
  repeat' walk1
  refine range_go (L := s.heap.objs.size) (a := 0) (b := xs.length) (n := xs.length) (r := r) (rest := [(sc, baObj xs), (pv, baObj bs)]) (G := mid 4 u xs bs) (J := fun i m => m "scanline" = some (.ref sc) ∧ m "previous" = some (.ref pv) ∧ m "result" = some (.ref r) ∧ ∃ t, m "ai" = some (.int ((i : Int) - u) t))
    hh rfl rfl rfl (by omega) (by omega) (by omega) (by assumption) (by assumption) (by rw [mid_zero]; assumption) ⟨rfl, rfl, rfl, _, Eq.trans rfl (ai0 u _)⟩ ?_ ?_
  · rintro i tk it m₁ s₁ hi ⟨h1, h2, h3, t4, h4⟩ hit F N
    have F := Fr.with F (x := "ai") ((if_neg (by decide)).trans h4)
    have F := Fr.with F (x := "scanline") ((if_neg (by decide)).trans ((if_neg (by decide)).trans h1))
    have F := Fr.with F (x := "previous") ((if_neg (by decide)).trans ((if_neg (by decide)).trans ((if_neg (by decide)).trans h2)))
    have F := Fr.with F (x := "result") ((if_neg (by decide)).trans ((if_neg (by decide)).trans ((if_neg (by decide)).trans ((if_neg (by decide)).trans h3))))
    have hne' : ∀ p ∈ [it, (sc, baObj xs), (pv, baObj bs)], p.1 ≠ r := by simp [n1, n2, hit]
    have hy : Oct (mid 4 u xs bs i) := mid_oct hx i
    have hyl : (mid 4 u xs bs i).length = xs.length := mid_len (by omega)
    simp only [Int.zero_add] at F
    have q1 := hb.getD (i : Int).toNat
    have q2 := hy.getD ((i : Int) - u).toNat
    have q3 := hb.getD ((i : Int) - u).toNat
    have q4 := hx.getD (i : Int).toNat
    repeat' walk1
    all_goals refine TEnd.mk' (by assumption) (by assumption) (congrArg (fun l => (r, baObj l) :: _) (mid_setI (way := 4) hi hu ?_)) ⟨rfl, rfl, rfl, _, Eq.trans rfl (ai1 u i _)⟩
    all_goals first
      | (have hlt : i < u := by omega
         rw [if_pos hlt, if_pos hlt]
         with_reducible first | exact fin_a (by with_reducible assumption) (by with_reducible assumption) | exact fin_b1 (by with_reducible assumption) (by with_reducible assumption) | exact fin_b2 (by with_reducible assumption) (by with_reducible assumption) | exact fin_c1 (by with_reducible assumption) (by with_reducible assumption) | exact fin_c2 (by with_reducible assumption) (by with_reducible assumption))
      | (have hge : ¬ i < u := by omega
         rw [if_neg hge, if_neg hge]
         with_reducible first | exact fin_a (by with_reducible assumption) (by with_reducible assumption) | exact fin_b1 (by with_reducible assumption) (by with_reducible assumption) | exact fin_b2 (by with_reducible assumption) (by with_reducible assumption) | exact fin_c1 (by with_reducible assumption) (by with_reducible assumption) | exact fin_c2 (by with_reducible assumption) (by with_reducible assumption))
  · rintro h' tk m' F N _
    rw [mid_end] at N
    obtain ⟨e1, e2⟩ := news_end (s := s) (by rw [hg]; exact F) (by rw [hg]; exact N) hsc hpv
    exact wpAny_execs_nil (hQ h' tk e1 e2)

set_option maxHeartbeats 4000000 in
theorem sub_call {u : Nat} {t : Tok} {Q : Value → Shared → Prop} (hroom : A.depth < recursionLimit) (hh : A.handled = none) (B : Base h₀) (hk : ∀ b o, h₀.get? b = some o → s.heap.get? b = some o) (hf : FnAt s.heap f c' dSub)
    (hr : s.heap.get? r = some (baObj xs)) (hsc : s.heap.get? sc = some (baObj xs)) (hpv : s.heap.get? pv = some (baObj bs)) (n1 : sc ≠ r) (n2 : pv ≠ r) (f1 : h₀.get? r = none) (f2 : h₀.get? sc = none) (f3 : h₀.get? pv = none)
    (hx : Oct xs) (hb : Oct bs) (hl : bs.length = xs.length) (hz : xs.length ≤ 1048576) (hu : 1 ≤ u) (hu' : u ≤ 1048576)
    (hQ : ∀ h' tk, h'.get? r = some (baObj (undo 1 u xs bs)) → (∀ b o, b ≠ r → s.heap.get? b = some o → h'.get? b = some o) → Q .none { s with heap := h', toks := tk }) :
    wpAny (model prog w) A (call (.ref f) [.int u t, .ref sc, .ref pv, .ref r]) Q E s := by
  obtain ⟨o, pm, doc, ho, hd, hcd⟩ := hf
  refine wpAny_call (call_plain_ret hroom ho hd (B.nolimit.keeps hk) hcd (binds := [("filter_unit", .int u t), ("scanline", .ref sc), ("previous", .ref pv), ("result", .ref r)]) (by rfl) (locs rfl) (fun h₁ F₁ => ?_) rfl rfl rfl (by decide))
  obtain ⟨F, N⟩ := news_start F₁ hr hsc hpv
  have Bg := base_hide (s := s) B hk f1 f2 f3
  clear F₁
  generalize hg : hideAll s.heap [r, sc, pv] = g at F N Bg
  have hne : ∀ p ∈ [(sc, baObj xs), (pv, baObj bs)], p.1 ≠ r := by simp [n1, n2]
  iterate 5 walk1
  refine wpAny_For ?_
  repeat' walk1
  have gl : ∀ j, j ≤ xs.length → (mid 1 u xs bs j).length = xs.length := fun j hj => mid_len hj
  refine range_go (L := s.heap.objs.size) (a := u) (b := xs.length) (n := xs.length - u) (r := r) (rest := [(sc, baObj xs), (pv, baObj bs)]) (G := fun i => mid 1 u xs bs (min (u + i) xs.length)) (J := fun i m => m "scanline" = some (.ref sc) ∧ m "previous" = some (.ref pv) ∧ m "result" = some (.ref r) ∧ ∃ t, m "ai" = some (.int (i : Int) t))
    hh rfl rfl rfl (by omega) (by omega) (by omega) (by assumption) (by assumption) (by rw [mid_sub hx _ (by omega) (by omega)]; assumption) ⟨rfl, rfl, rfl, _, rfl⟩ ?_ ?_
  · rintro i tk it m₁ s₁ hi ⟨h1, h2, h3, t4, h4⟩ hit F N
    have hj : u + i < xs.length := by omega
    have em : min (u + i) xs.length = u + i := by omega
    have em' : min (u + (i + 1)) xs.length = u + i + 1 := by omega
    rw [em] at N
    rw [em']
    have F := Fr.with F (x := "ai") ((if_neg (by decide)).trans h4)
    have F := Fr.with F (x := "scanline") ((if_neg (by decide)).trans ((if_neg (by decide)).trans h1))
    have F := Fr.with F (x := "previous") ((if_neg (by decide)).trans ((if_neg (by decide)).trans ((if_neg (by decide)).trans h2)))
    have F := Fr.with F (x := "result") ((if_neg (by decide)).trans ((if_neg (by decide)).trans ((if_neg (by decide)).trans ((if_neg (by decide)).trans h3))))
    have hne' : ∀ p ∈ [it, (sc, baObj xs), (pv, baObj bs)], p.1 ≠ r := by simp [n1, n2, hit]
    have hy : Oct (mid 1 u xs bs (u + i)) := mid_oct hx _
    have hyl := gl (u + i) (by omega)
    repeat' walk1
    have ei : ((u : Int) + i).toNat = u + i := by omega
    refine TEnd.mk' (by assumption) (by assumption) (congrArg (fun l => (r, baObj l) :: _) ?_) ⟨rfl, rfl, rfl, _, Eq.trans rfl (congrArg (fun z => some (Value.int z _)) (by omega : (i : Int) + 1 = ((i + 1 : Nat) : Int)))⟩
    rw [ei]
    refine mid_set (way := 1) hj ?_ hu
    rw [stepV_1, if_neg (by omega : ¬ u + i < u), Int.toNat_natCast, Nat.add_sub_cancel_left]
  · rintro h' tk m' F N _
    rw [show min (u + (xs.length - u)) xs.length = xs.length by omega, mid_end] at N
    obtain ⟨e1, e2⟩ := news_end (s := s) (by rw [hg]; exact F) (by rw [hg]; exact N) hsc hpv
    exact wpAny_execs_nil (hQ h' tk e1 e2)
end
end Mine
end

section
open PySem PySem.W PySem.Calls PyProof.Rows
set_option Elab.async false
set_option maxRecDepth 100000
namespace Mine

/-- a list value of rows: references to lists of whole numbers, none in X -/
inductive RowsAre (h : Heap) (X : List Addr) : List Value → List (List Int) → Prop
  | nil : RowsAre h X [] []
  | cons {a : Addr} {xs : List Value} {row : List Int} {vs : List Value} {rows : List (List Int)} : a ∉ X → h.IsList a xs.toArray → IntsAre xs row → RowsAre h X vs rows → RowsAre h X (.ref a :: vs) (row :: rows)

theorem RowsAre.at {h h' : Heap} {X : List Addr} (hk : ∀ b o, b ∉ X → h.get? b = some o → h'.get? b = some o) : ∀ {vs : List Value} {rows : List (List Int)}, RowsAre h X vs rows → RowsAre h' X vs rows
  | _, _, .nil => .nil
  | _, _, .cons ha hl hi r => .cons ha (hl.at fun o e => hk _ o ha e) hi (r.at hk)
theorem RowsAre.sub {h : Heap} {X Y : List Addr} (hs : ∀ b, b ∈ Y → b ∈ X) : ∀ {vs : List Value} {rows : List (List Int)}, RowsAre h X vs rows → RowsAre h Y vs rows
  | _, _, .nil => .nil
  | _, _, .cons ha hl hi r => .cons (fun x => ha (hs _ x)) hl hi (r.sub hs)
theorem RowsAre.less {h : Heap} {X : List Addr} {vs : List Value} {rows : List (List Int)} (r : RowsAre h X vs rows) : RowsAre h [] vs rows := r.sub (by simp)
theorem RowsAre.snoc {h : Heap} {X : List Addr} {a : Addr} {xs : List Value} {row : List Int} (ha : a ∉ X) (hl : h.IsList a xs.toArray) (hi : IntsAre xs row) :
    ∀ {vs : List Value} {rows : List (List Int)}, RowsAre h X vs rows → RowsAre h X (vs ++ [.ref a]) (rows ++ [row])
  | _, _, .nil => .cons ha hl hi .nil
  | _, _, .cons ha' hl' hi' r => .cons ha' hl' hi' (r.snoc ha hl hi)
theorem RowsAre.length {h : Heap} {X : List Addr} : ∀ {vs : List Value} {rows : List (List Int)}, RowsAre h X vs rows → vs.length = rows.length
  | _, _, .nil => rfl
  | _, _, .cons _ _ _ r => congrArg (· + 1) r.length
theorem RowsAre.get {h : Heap} {X : List Addr} : ∀ {vs : List Value} {rows : List (List Int)}, RowsAre h X vs rows → ∀ {i : Nat} {v : Value}, vs[i]? = some v →
    ∃ a xs row, v = .ref a ∧ rows[i]? = some row ∧ a ∉ X ∧ h.IsList a xs.toArray ∧ IntsAre xs row
  | _, _, .nil, _, _, e => nomatch e
  | _, _, .cons ha hl hi _, 0, _, e => by cases e; exact ⟨_, _, _, rfl, rfl, ha, hl, hi⟩
  | _, _, .cons _ _ _ r, i + 1, _, e => r.get (i := i) (by simpa using e)

theorem ints_at : ∀ {vs : List Value} {ns : List Int}, IntsAre vs ns → ∀ {i : Nat} {v : Value}, vs[i]? = some v → ∃ n t, v = .int n t ∧ ns[i]? = some n
  | _, _, .nil, _, _, e => nomatch e
  | _, _, .cons n t _, 0, _, e => by cases e; exact ⟨n, t, rfl, rfl⟩
  | _, _, .cons _ _ h, i + 1, _, e => ints_at h (i := i) (by simpa using e)

/-- the pure law: all rows -/
def undoneR (u : Nat) : List Int → List Int → List (List Int) → List (List Int)
  | above, w :: ws, r :: rs => undo w u r above :: undoneR u (undo w u r above) ws rs
  | _, _, _ => []

theorem undo_other {way : Int} {u : Nat} {xs bs : List Int} (h1 : way ≠ 1) (h2 : way ≠ 2) (h3 : way ≠ 3) (h4 : way ≠ 4) : undo way u xs bs = xs := by
  have : ∀ i, i ≤ xs.length → undoN way u xs bs i = xs.take i := by
    intro i
    induction i with
    | zero => intro _; rfl
    | succ i ih =>
      intro hi
      rw [undoN, ih (by omega), stepV, if_neg h1, if_neg h2, if_neg h3, if_neg h4, List.take_add_one, List.getD_eq_getElem?_getD, List.getElem?_eq_getElem (by omega)]
      rfl
  rw [undo, this _ (Nat.le_refl _), List.take_length]

theorem Fr.kept {h₀ h h' : Heap} {L : Addr} {m : Str → Option Value} (F : Fr h₀ L h m) (hk : ∀ b o, h.get? b = some o → h'.get? b = some o) : Fr h₀ L h' m := ⟨F.ns.keeps hk, fun b o e => hk b o (F.keep b o e), F.above⟩
theorem Fr.ext {h₀ h h' : Heap} {L I : Addr} {m : Str → Option Value} (F : Fr h₀ L h m) (hk : Heap.ExtBut I h h') (hI : h.get? I = none) : Fr h₀ L h' m :=
  F.kept fun b o e => hk b o (fun x => by subst x; rw [hI] at e; cases e) e
theorem News.kept {h₀ h h' : Heap} {L : Addr} {news : List (Addr × Obj)} (N : News h₀ L h news) (hk : ∀ b o, h.get? b = some o → h'.get? b = some o) : News h₀ L h' news :=
  fun p hp => ⟨hk _ _ (N p hp).1, (N p hp).2⟩

section
variable {M : Model} {A : Around} {E : Value → Shared → Prop} {s : Shared} {name : Str} {scope : Scope} {L a : Addr} {cd : Value} {h₀ : Heap} {m : Str → Option Value} {Q : Value → Shared → Prop}

theorem nm_bytearray {pos : Pos} (F : Fr h₀ L s.heap m) (B : Base h₀) (h : Q (.type "bytearray") s) (hk : scope.kind = .function) (hx : (envOf name scope L a cd).kindOf "bytearray" = some .globalImplicit) :
    wpAny M A (eval (.Name "bytearray" pos) (envOf name scope L a cd)) Q E s := by
  obtain ⟨n, mg, mb, a, b, c, d1, d2, d3, d4, d5, d6, _⟩ := B
  exact Name_function_global hk hx (loadGlobal_builtin (env := envOf name scope L _ cd) (a.keeps F.keep) d4 (b.keeps F.keep) ((c _ (by decide)).trans (by decide +kernel)) h) (by decide)
theorem nm_zip {pos : Pos} (F : Fr h₀ L s.heap m) (B : Base h₀) (h : Q (.type "zip") s) (hk : scope.kind = .function) (hx : (envOf name scope L a cd).kindOf "zip" = some .globalImplicit) :
    wpAny M A (eval (.Name "zip" pos) (envOf name scope L a cd)) Q E s := by
  obtain ⟨n, mg, mb, a, b, c, d1, d2, d3, d4, d5, d6, _⟩ := B
  exact Name_function_global hk hx (loadGlobal_builtin (env := envOf name scope L _ cd) (a.keeps F.keep) d5 (b.keeps F.keep) ((c _ (by decide)).trans (by decide +kernel)) h) (by decide)
theorem nm_list {pos : Pos} (F : Fr h₀ L s.heap m) (B : Base h₀) (h : Q (.type "list") s) (hk : scope.kind = .function) (hx : (envOf name scope L a cd).kindOf "list" = some .globalImplicit) :
    wpAny M A (eval (.Name "list" pos) (envOf name scope L a cd)) Q E s := by
  obtain ⟨n, mg, mb, a, b, c, d1, d2, d3, d4, d5, d6, _⟩ := B
  exact Name_function_global hk hx (loadGlobal_builtin (env := envOf name scope L _ cd) (a.keeps F.keep) d6 (b.keeps F.keep) ((c _ (by decide)).trans (by decide +kernel)) h) (by decide)
theorem nm_glob {x : Str} {pos : Pos} {mg : Str → Option Value} {v : Value} (F : Fr h₀ L s.heap m) (hg : h₀.Ns mainGlobals mg) (hv : mg x = some v) (h : Q v s) (hk : scope.kind = .function) (hx : (envOf name scope L a cd).kindOf x = some .globalImplicit) (hd : (x == ("__debug__" : Str)) = false) :
    wpAny M A (eval (.Name x pos) (envOf name scope L a cd)) Q E s :=
  Name_function_global hk hx (loadGlobal_global (env := envOf name scope L _ cd) (hg.keeps F.keep) hv h) hd
end

section
variable {prog : Program} {w : World} {A : Around} {E : Value → Shared → Prop} {s : Shared}
theorem sub_list {l : Addr} {value slice : Expr} {its : Array Value} {k : Int} {t : Tok} {x : Value} {Q : Value → Shared → Prop} (hl : s.heap.IsList l its) (h0 : 0 ≤ k) (hf : k < 2 ^ 63) (hx : its[k.toNat]? = some x) (h : Q x s)
    (hs : subscripted slice false (.ref l) (.int k t) = operate [.ref l, .int k t] (getItem (.ref l) (.int k t)) := by with_unfolding_all rfl) (hg : ∀ r, letTemporaryGo value (.ref l) r = pure () := by intro _; with_unfolding_all rfl) :
    wpAny (model prog w) A (subscriptTail value slice (.ref l) (.int k t)) Q E s :=
  subscriptTail_builtin hl.typeIs slot_list_getitem.lookup (wpAny_getItem_list hl h0 hf hx h) hs hg
end

/-- how the call of _law_undone begins: in the clean contexts -/
theorem call_plain_C {prog : Program} {w : World} {A : Around} {R : Flow → Shared → Prop} {s : Shared} {name : Str} {params : Arguments} {body : List Stmt} {scope : Scope}
    {pm cd doc : Value} {a : Addr} {o : Obj} {args : List Value} {binds : List (Str × Value)}
    (hroom : A.depth < recursionLimit) (ho : s.heap.get? a = some o) (hdata : o.data = .func (Calls.docDef name params body scope pm cd doc)) (hlim : s.heap.NoLimit) (hcd : s.heap.CodeRec cd name)
    (hbind : bindArgs (Calls.docDef name params body scope pm cd doc) ⟨args, []⟩ = pure binds)
    (hloc : ∀ x ∈ binds, scope.names.lookup x.1 = some .local)
    (h : ∀ h₁, Fr s.heap s.heap.objs.size h₁ (fun x => binds.reverse.lookup x) →
      wpC (model prog w) (A.deeper (envOf name scope s.heap.objs.size a cd)) (execs body (envOf name scope s.heap.objs.size a cd))
        (fun f s' => R (.ret (match f with | .ret v => v | _ => .none)) s')
        { s with heap := h₁, toks := s.toks + binds.length })
    (hco : scope.isCoroutine = false := by rfl) (hgen : scope.isGenerator = false := by rfl) (hk : scope.kind = .function := by rfl)
    (hcell : ∀ x ∈ scope.names, x.2 ≠ .cell := by decide) :
    codeC (model prog w) A (.call (.ref a) ⟨args, []⟩) R s := by
  refine codeC_call_function hroom ho hdata hco hgen rfl hcd ?_
  rw [hbind]
  refine wpAny_pure (wpAny_newFunctionEnv hcell hloc (fun h₁ hns hsb => ⟨hlim.fresh _ hsb, ?_⟩) hk)
  show codeC _ _ (.func body (envOf name scope s.heap.objs.size a cd)) _ _
  exact codeC_func (h h₁ ⟨hns, fun b o e => hsb.extBut b o (Nat.ne_of_lt (Heap.lt_size e)) (Heap.get?_push_of_some _ e), Nat.le_refl _⟩)
end Mine
end

section
open PySem PySem.W PySem.Calls PyProof.Rows
set_option Elab.async false
set_option maxRecDepth 100000
namespace Mine

section
variable {prog : Program} {w : World} {A : Around} {s : Shared} {env : Env} {g : Heap}

/-- for (a, b) in an iterator of pairs, in the clean contexts -/
theorem codeC_forLoop_W {R : Flow → Shared → Prop} {xi xc : Str} {pk pv pt : Pos} {x1 : Nat} {body : List Stmt} {I : Addr} {fp wr X : List Addr} {n : Nat} {Pt : Nat → Array Value → Prop} {St : Nat → Heap → Prop} {Mid : Nat → Addr → Heap → Prop}
    {P2 : Nat → Value → Value → Prop} {m : Str → Option Value} (hh : A.handled = none) (W : WalksT prog w A I fp wr n Pt St Mid) (h2 : ∀ i vals, Pt i vals → ∃ v0 v1, vals = #[v0, v1] ∧ P2 i v0 v1)
    (hxi : env.kindOf xi = some .local) (hxc : env.kindOf xc = some .local)
    (hp : (env.scope.kind == .class || (env.scope.kind == .module && env.locals != env.globals)) = false)
    (hLf : env.locals ∉ fp) (hwr : ∀ b ∈ wr, g.get? b = none) (hX : ∀ b ∈ wr, b ∈ X) (hXL : env.locals ∈ X)
    (J : Nat → Heap → (Str → Option Value) → Prop)
    (hJ : ∀ i h h' m, J i h m → (∀ b o, b ∉ X → h.get? b = some o → h'.get? b = some o) → J i h' m)
    (hst : St 0 s.heap) (F : Fr g env.locals s.heap m) (h0 : J 0 s.heap m)
    (step : ∀ i v0 v1 m₁ h tk, i < n → P2 i v0 v1 → St (i + 1) h → J i h m₁ →
      Fr g env.locals h (fun y => if y = xc then some v1 else if y = xi then some v0 else m₁ y) →
      wpC (model prog w) A (execs body env) (fun f s' => f = .next ∧ ∃ h' tk' m', s' = { s with heap := h', toks := tk' } ∧ Fr g env.locals h' m' ∧ J (i + 1) h' m' ∧ (∀ b ∈ fp, ∀ o, h.get? b = some o → h'.get? b = some o)) { s with heap := h, toks := tk })
    (hR : ∀ h' tk m', Fr g env.locals h' m' → J n h' m' → R .next { s with heap := h', toks := tk }) :
    codeC (model prog w) A (.forLoop (.Tuple [.Name xi pk, .Name xc pv] x1 pt) (.ref I) body [] env) R s := by
  have hLw : env.locals ∉ wr := fun h => hLf (W.sub _ h)
  have old : ∀ b o, g.get? b = some o → b ∉ wr := fun b o e hb => by rw [hwr b hb] at e; cases e
  refine codeC_forLoop
    (fun k s' => ∃ h' tk m' i, s' = { s with heap := h', toks := tk } ∧ St i h' ∧ Fr g env.locals h' m' ∧ J i h' m' ∧ i ≤ n ∧ k = n + 1 - i) ?_ (n + 1)
    ⟨s.heap, s.toks, m, 0, rfl, hst, F, h0, Nat.zero_le _, rfl⟩
  rintro k s' ⟨H, tk, m', i, rfl, hst', F', hJ', hi, rfl⟩
  have next : ∀ h₁ : Heap, (∀ b o, b ∉ wr → H.get? b = some o → h₁.get? b = some o) → Fr g env.locals h₁ m' := fun h₁ hk₁ =>
    ⟨F'.ns.at' fun o e => hk₁ _ o hLw e, fun b o e => hk₁ b o (old b o e) (F'.keep b o e), F'.above⟩
  by_cases hlt : i < n
  · refine W.item i _ _ _ hlt hst' fun T vals h₁ tk₁ hPt _ hT hMid hk₁ => ?_
    obtain ⟨v0, v1, rfl, hP2⟩ := h2 i vals hPt
    refine W.go _ x1 pt i T _ _ _ hMid fun h₂ hst₂ hk₂ => ?_
    have ht₂ : h₂.IsTuple T #[v0, v1] := hT.at fun o e => hk₂ T o (W.apart i T h₁ hMid) e
    refine wpAny_assign_Tuple hh ht₂ rfl rfl fun h₃ hx₃ => ?_
    replace hx₃ : Heap.ExtBut h₂.objs.size h₂ h₃ := hx₃
    have up₃ : ∀ b o, h₂.get? b = some o → h₃.get? b = some o := fun b o x => hx₃ b o (Nat.ne_of_lt (Heap.lt_size x)) x
    have F₃ := next h₃ fun b o hb x => up₃ b o (hk₂ b o hb (hk₁ b o hb x))
    show wpAny _ A (do holding [v1] (assign (.Name xi pk) env v0); do holding [] (assign (.Name xc pv) env v1); pure ()) _ _ _
    refine wpAny_bind (wpAny_holding (wpAny_assign_Name (wpAny_storeName_local hxi F₃.ns (fun h₄ hn₄ hs₄ => ?_) hp)))
    replace hs₄ : Heap.SameBut env.locals h₃ h₄ := hs₄
    have F₄ := F₃.set hn₄ hs₄
    refine wpAny_bind (wpAny_holding (wpAny_assign_Name (wpAny_storeName_local hxc F₄.ns (fun h₅ hn₅ hs₅ => wpAny_pure ?_) hp)))
    replace hs₅ : Heap.SameBut env.locals h₄ h₅ := hs₅
    have F₅ := F₄.set hn₅ hs₅
    have up₅ : ∀ b o, b ≠ env.locals → h₃.get? b = some o → h₅.get? b = some o := fun b o q e => hs₅.extBut b o q (hs₄.extBut b o q e)
    have hst₅ : St (i + 1) h₅ := W.frame _ _ _ hst₂ fun b hb o e => up₅ b o (fun q => hLf (q ▸ hb)) (up₃ b o e)
    have hJ₅ : J i h₅ m' := hJ _ _ _ _ hJ' fun b o hb e => up₅ b o (fun q => hb (q ▸ hXL)) (up₃ b o (hk₂ b o (fun q => hb (hX _ q)) (hk₁ b o (fun q => hb (hX _ q)) e)))
    refine wpC_mono (step i v0 v1 m' h₅ _ hlt hP2 hst₅ hJ₅ F₅) fun f s₃ h₆ => ?_
    obtain ⟨rfl, h₆', tk₆, m₆, rfl, F₆, hJ₆, hk₆⟩ := h₆
    exact ⟨n + 1 - (i + 1), by omega, h₆', tk₆, m₆, i + 1, rfl, W.frame _ _ _ hst₅ hk₆, F₆, hJ₆, hlt, rfl⟩
  · have hin : i = n := by omega
    subst hin
    refine W.done _ _ _ hst' fun h₁ tk₁ hk₁ => ?_
    exact hR h₁ _ m' (next h₁ hk₁) (hJ _ _ _ _ hJ' fun b o hb e => hk₁ b o (fun q => hb (hX _ q)) e)
end

section
variable {prog : Program} {w : World} {A : Around} {s : Shared} {L f : Addr} {cd : Value} {g : Heap} {m : Str → Option Value}
abbrev undE (L f : Addr) (cd : Value) : Env := envOf dUnd.name dUnd.scope L f cd

/-- bytearray(x) of a local list of octets -/
theorem ba_of {x : Str} {px pc pf : Pos} {la : Addr} {xs : List Value} {row : List Int} {Q : Value → Shared → Prop} (F : Fr g L s.heap m) (B : Base g) (hx : m x = some (.ref la)) (hkx : (undE L f cd).kindOf x = some .local) (hd : (x == ("__debug__" : Str)) = false)
    (hl : s.heap.IsList la xs.toArray) (hi : IntsAre xs row) (hb : Oct row) (hz : row.length ≤ 1048576)
    (h : ∀ h', (∀ b o, s.heap.get? b = some o → h'.get? b = some o) → h'.get? s.heap.objs.size = some (baObj row) → s.heap.objs.size < h'.objs.size → Q (.ref s.heap.objs.size) { s with heap := h' }) :
    wpC (model prog w) A (eval (.Call (.Name "bytearray" pf) [.Name x px] [] pc) (undE L f cd)) Q s := by
  refine wpC_Call (nm_bytearray F B ?_ rfl rfl)
  refine wpC_callWith_type (wpC_args_cons (wpC_any (ld F hx (wpC_args_nil ?_) rfl hkx hd)))
  exact call_bytearray hl hi hb (by omega) h
end
end Mine
end

section
open PySem PySem.W PySem.Calls PyProof.Rows
set_option Elab.async false
set_option maxRecDepth 100000
namespace Mine

section
variable {prog : Program} {w : World} {A : Around} {s : Shared} {L f : Addr} {cd : Value} {g : Heap} {m : Str → Option Value}

/-- what one arm of the chain leaves -/
def ArmEnd (s : Shared) (r : Addr) (res : List Int) (s' : Shared) : Prop :=
  ∃ h' tk, s' = { s with heap := h', toks := tk } ∧ h'.get? r = some (baObj res) ∧ ∀ b o, b ≠ r → s.heap.get? b = some o → h'.get? b = some o

theorem arm {fn : Str} {p1 p2 p3 p4 p5 p6 p7 p8 p9 : Pos} {la ab r fa c' : Addr} {d : DefRec} {u : Nat} {tu : Tok} {xs : List Value} {row res : List Int} {mg : Str → Option Value} (F : Fr g L s.heap m) (B : Base g)
    (hmu : m "unit" = some (.int u tu)) (hml : m "line" = some (.ref la)) (hma : m "above" = some (.ref ab)) (hmr : m "result" = some (.ref r))
    (hg : g.Ns mainGlobals mg) (hfn : mg fn = some (.ref fa)) (hfo : FnAt g fa c' d) (hkfn : (undE L f cd).kindOf fn = some .globalImplicit) (hd : (fn == ("__debug__" : Str)) = false)
    (hl : s.heap.IsList la xs.toArray) (hi : IntsAre xs row) (hb : Oct row) (hz : row.length ≤ 1048576)
    (hcall : ∀ s' : Shared, (∃ h' tk, s' = { s with heap := h', toks := tk }) → (∀ b o, s.heap.get? b = some o → s'.heap.get? b = some o) → s'.heap.get? s.heap.objs.size = some (baObj row) →
      wpAny (model prog w) A (call (.ref fa) [.int u tu, .ref s.heap.objs.size, .ref ab, .ref r]) (fun v s'' => v = .none ∧ ArmEnd s' r res s'') (fun _ _ => False) s') :
    wpC (model prog w) A (execs [.Expr (.Call (.Name fn p1) [.Name "unit" p2, .Call (.Name "bytearray" p3) [.Name "line" p4] [] p5, .Name "above" p6, .Name "result" p7] [] p8) p9] (undE L f cd)) (fun fl s' => fl = .next ∧ ArmEnd s r res s') s := by
  refine wpC_execs_cons (wpC_Expr (wpC_Call (nm_glob F hg hfn ?_ rfl hkfn hd)))
  obtain ⟨o, pm, doc, ho, hdt, hcd⟩ := hfo
  refine wpC_callWith_fn (o := o) (fd := docDef d.name d.params d.body d.scope pm (.ref c') doc) ?_
  refine wpC_args_cons (wpC_any (ld F hmu ?_))
  refine wpC_args_cons (ba_of F B hml rfl (by decide) hl hi hb hz fun h₁ hk₁ hg₁ hs₁ => ?_)
  have F₁ := F.kept hk₁
  refine wpC_args_cons (wpC_any (ld (s := { s with heap := h₁ }) F₁ hma ?_))
  refine wpC_args_cons (wpC_any (ld (s := { s with heap := h₁ }) F₁ hmr ?_))
  refine wpC_args_nil ⟨⟨F₁.keep _ _ ho, hdt⟩, wpC_any (wpAny_mono (hcall _ ⟨_, _, rfl⟩ hk₁ hg₁) (fun v s₂ h₂ => ?_) fun _ _ e => e)⟩
  obtain ⟨rfl, h₂, tk₂, rfl, e1, e2⟩ := h₂
  refine ⟨(by intro a e; cases e), wpC_execs_nil ⟨rfl, h₂, tk₂, rfl, e1, fun b o hb e => e2 b o hb (hk₁ b o e)⟩⟩

def unBody : List Stmt := match dUnd.body[1]? with | some (Stmt.For _ _ b _ _) => b | _ => []
def unIf : Stmt := match unBody[1]? with | some st => st | _ => Stmt.Pass ⟨0, 0, 0, 0⟩

theorem wpC_dec {α : Type} {M : Model} {c : Prop} [Decidable c] {a b : Sem α} {Q : α → Shared → Prop} (h1 : c → wpC M A a Q s) (h2 : ¬c → wpC M A b Q s) : (if decide c = true then wpC M A a Q s else wpC M A b Q s) := by
  by_cases h : c
  · rw [if_pos (decide_eq_true h)]; exact h1 h
  · rw [if_neg (by simpa using h)]; exact h2 h

theorem way_is {k : Int} {x1 : Nat} {p1 p2 p3 pos : Pos} {way : Int} {tw : Tok} {body orelse : List Stmt} {Q : Flow → Shared → Prop} (F : Fr g L s.heap m) (hm : m "way" = some (.int way tw))
    (h1 : ∀ tk, way = k → wpC (model prog w) A (execs body (undE L f cd)) Q { s with toks := tk }) (h2 : ∀ tk, way ≠ k → wpC (model prog w) A (execs orelse (undE L f cd)) Q { s with toks := tk }) :
    wpC (model prog w) A (exec (.If (.Compare (.Name "way" p1) [.Eq] [.Constant (.int k) x1 p2] p3) body orelse pos) (undE L f cd)) Q s := by
  refine wpC_If (wpAny_isTrue_Compare1 (ld F hm (wpAny_Constant_int (eq_int (wpAny_truthy_bool ?_)))))
  exact wpC_dec (h1 _) (h2 _)
end
end Mine
end

section
open PySem PySem.W PySem.Calls PyProof.Rows
set_option Elab.async false
set_option maxRecDepth 100000
namespace Mine

section
variable {prog : Program} {w : World} {A : Around} {s : Shared} {L f : Addr} {cd : Value} {g : Heap} {m : Str → Option Value}

set_option maxHeartbeats 4000000 in
/-- the chain of filters -/
theorem undo_if {la ab r : Addr} {u : Nat} {tu tw : Tok} {way : Int} {xs : List Value} {row above : List Int} (hroom : A.depth < recursionLimit) (hh : A.handled = none) (F : Fr g L s.heap m) (B : Base g)
    (hmu : m "unit" = some (.int u tu)) (hmw : m "way" = some (.int way tw)) (hml : m "line" = some (.ref la)) (hma : m "above" = some (.ref ab)) (hmr : m "result" = some (.ref r))
    (hl : s.heap.IsList la xs.toArray) (hi : IntsAre xs row) (hb : Oct row) (hz : row.length ≤ 1048576) (hba : Oct above) (hla : above.length = row.length) (hu : 1 ≤ u) (hu' : u ≤ 1048576)
    (hr : s.heap.get? r = some (baObj row)) (hab : s.heap.get? ab = some (baObj above)) (hne : ab ≠ r) (fr : g.get? r = none) (fa : g.get? ab = none) :
    wpC (model prog w) A (exec unIf (undE L f cd)) (fun fl s' => fl = .next ∧ ArmEnd s r (undo way u row above) s') s := by
  obtain ⟨n, mg, mb, a, b, c, d1, d2, d3, d4, d5, d6, ⟨f1, c1, e1, g1⟩, ⟨f2, c2, e2, g2⟩, ⟨f3, c3, e3, g3⟩, ⟨f4, c4, e4, g4⟩, ⟨f5, c5, e5, g5⟩⟩ := id B
  have fsz : g.get? s.heap.objs.size = none := by
    cases hq : g.get? s.heap.objs.size with
    | none => rfl
    | some o' => exact absurd (Heap.lt_size (F.keep _ _ hq)) (Nat.lt_irrefl _)
  have szr : s.heap.objs.size ≠ r := Nat.ne_of_gt (Heap.lt_size hr)
  refine way_is F hmw (fun tk hw => ?_) fun tk h1 => ?_
  · subst hw
    refine arm (s := { s with toks := tk }) F B hmu hml hma hmr a e1 g1 rfl (by decide) hl hi hb hz fun s' hs' hk hn => ?_
    exact sub_call hroom hh B (fun b o e => hk _ _ (F.keep _ _ e)) (g1.keeps fun b o e => hk _ _ (F.keep _ _ e)) (hk _ _ hr) hn (hk _ _ hab) szr hne fr fsz fa hb hba hla hz hu hu' fun h' tk q1 q2 => ⟨rfl, h', tk, rfl, q1, q2⟩
  refine wpC_execs_cons (way_is (s := { s with toks := tk }) F hmw (fun tk hw => ?_) fun tk h2 => ?_)
  · subst hw
    refine wpC_mono (arm (s := { s with toks := tk }) (res := undo 2 u row above) F B hmu hml hma hmr a e2 g2 rfl (by decide) hl hi hb hz fun s' hs' hk hn => ?_) fun fl s' h' => ?_
    · exact up_call hroom hh B (fun b o e => hk _ _ (F.keep _ _ e)) (g2.keeps fun b o e => hk _ _ (F.keep _ _ e)) (hk _ _ hr) hn (hk _ _ hab) szr hne fr fsz fa hb hba hla hz hu fun h' tk q1 q2 => ⟨rfl, h', tk, rfl, q1, q2⟩
    · obtain ⟨rfl, h'⟩ := h'; exact wpC_execs_nil ⟨rfl, h'⟩
  refine wpC_execs_cons (way_is (s := { s with toks := tk }) F hmw (fun tk hw => ?_) fun tk h3 => ?_)
  · subst hw
    refine wpC_mono (arm (s := { s with toks := tk }) (res := undo 3 u row above) F B hmu hml hma hmr a e3 g3 rfl (by decide) hl hi hb hz fun s' hs' hk hn => ?_) fun fl s' h' => ?_
    · exact avg_call hroom hh B (fun b o e => hk _ _ (F.keep _ _ e)) (g3.keeps fun b o e => hk _ _ (F.keep _ _ e)) (hk _ _ hr) hn (hk _ _ hab) szr hne fr fsz fa hb hba hla hz hu fun h' tk q1 q2 => ⟨rfl, h', tk, rfl, q1, q2⟩
    · obtain ⟨rfl, h'⟩ := h'; exact wpC_execs_nil (wpC_execs_nil ⟨rfl, h'⟩)
  refine wpC_execs_cons (way_is (s := { s with toks := tk }) F hmw (fun tk hw => ?_) fun tk h4 => ?_)
  · subst hw
    refine wpC_mono (arm (s := { s with toks := tk }) (res := undo 4 u row above) F B hmu hml hma hmr a e4 g4 rfl (by decide) hl hi hb hz fun s' hs' hk hn => ?_) fun fl s' h' => ?_
    · exact pae_call hroom hh B (fun b o e => hk _ _ (F.keep _ _ e)) (g4.keeps fun b o e => hk _ _ (F.keep _ _ e)) (hk _ _ hr) hn (hk _ _ hab) szr hne fr fsz fa hb hba hla hz hu fun h' tk q1 q2 => ⟨rfl, h', tk, rfl, q1, q2⟩
    · obtain ⟨rfl, h'⟩ := h'; exact wpC_execs_nil (wpC_execs_nil (wpC_execs_nil ⟨rfl, h'⟩))
  refine wpC_execs_nil (wpC_execs_nil (wpC_execs_nil (wpC_execs_nil ⟨rfl, s.heap, tk, rfl, ?_, fun b o _ e => e⟩)))
  rw [undo_other h1 h2 h3 h4]
  exact hr

theorem stS {x : Str} {v : Value} {name : Str} {scope : Scope} {a : Addr} {M : Model} {E : Value → Shared → Prop} {Q : Unit → Shared → Prop} (F : Fr g L s.heap m)
    (h : ∀ h', Fr g L h' (fun y => if y = x then some v else m y) → (∀ b o, b ≠ L → s.heap.get? b = some o → h'.get? b = some o) → Q () { s with heap := h', toks := s.toks + 1 })
    (hk : scope.kind = .function := by rfl) (hl : (envOf name scope L a cd).kindOf x = some .local := by rfl) :
    wpAny M A (storeName (envOf name scope L a cd) x v) Q E s :=
  wpAny_storeName_local hl F.ns (fun h' hn hs => h h' (F.set hn hs) fun b o hb e => hs.extBut b o hb e)
    (by show (scope.kind == .class || (scope.kind == .module && L != mainGlobals)) = false; rw [hk]; rfl)

/-- what stands between two turns of the walk over the lines -/
structure Turn (g : Heap) (X : List Addr) (D : Addr) (n0 u : Nat) (tu : Tok) (total : List (List Int)) (ways : List Int) (rows : List (List Int)) (i : Nat) (h : Heap) (m : Str → Option Value) : Prop where
  hD : m "done" = some (.ref D)
  hu : m "unit" = some (.int u tu)
  ex : ∃ ab above dn dv, m "above" = some (.ref ab) ∧ h.get? ab = some (baObj above) ∧ ab ∉ X ∧ ab ≠ D ∧ g.get? ab = none ∧ above.length = n0 ∧ Oct above ∧ PlainL h D (List.toArray dv) ∧ RowsAre h (D :: X) dv dn ∧
    dn ++ undoneR u above (ways.drop i) (rows.drop i) = total ∧ dn.length = i

set_option maxHeartbeats 4000000 in
theorem turn_step {X : List Addr} {D : Addr} {n0 u i : Nat} {tu : Tok} {total : List (List Int)} {ways : List Int} {rows : List (List Int)} {fp : List Addr} {la : Addr} {way : Int} {tw : Tok} {xs : List Value} {row : List Int}
    (hroom : A.depth < recursionLimit) (hh : A.handled = none) (B : Base g) (hDX : D ∉ X) (hDL : D ≠ L) (hgD : g.get? D = none) (hfpD : D ∉ fp) (hfpL : L ∉ fp)
    (hu : 1 ≤ u) (hu' : u ≤ 1048576) (J : Turn g X D n0 u tu total ways rows i s.heap m)
    (F : Fr g L s.heap (fun y => if y = "line" then some (.ref la) else if y = "way" then some (.int way tw) else m y))
    (hl : s.heap.IsList la xs.toArray) (hi : IntsAre xs row) (hb : Oct row) (hz : row.length ≤ 1048576) (hn0 : row.length = n0) (hway : ways[i]? = some way) (hrow : rows[i]? = some row) (hLX : L ∈ X) (hXs : ∀ b ∈ X, b < s.heap.objs.size) (hi62 : i < 1048576) :
    wpC (model prog w) A (execs unBody (undE L f cd)) (fun fl s' => fl = .next ∧ ∃ h' tk' m', s' = { s with heap := h', toks := tk' } ∧ Fr g L h' m' ∧ Turn g X D n0 u tu total ways rows (i + 1) h' m' ∧ (∀ b ∈ fp, ∀ o, s.heap.get? b = some o → h'.get? b = some o)) s := by
  obtain ⟨hD, hmu, ab, above, dn, dv, hma, hgab, habX, habD, hgn, hal, hoab, hPD, hR, htot, hdl⟩ := J
  have e1 : (fun y => if y = ("line" : Str) then some (Value.ref la) else if y = "way" then some (.int way tw) else m y) "line" = some (.ref la) := if_pos rfl
  have habL : ab ≠ L := fun q => habX (q ▸ hLX)
  -- the new bytearray
  refine wpC_execs_cons (wpC_Assign_Name (ba_of F B e1 rfl (by decide) hl hi hb hz fun h₁ hk₁ hg₁ hs₁ => ?_))
  have F₁ := F.kept hk₁
  generalize hr : s.heap.objs.size = r at hg₁ hs₁ ⊢
  have hrold : ∀ {b o}, s.heap.get? b = some o → b ≠ r := fun e => hr ▸ Nat.ne_of_lt (Heap.lt_size e)
  have fr : g.get? r = none := by
    cases hq : g.get? r with
    | none => rfl
    | some o' => exact absurd rfl (hrold (F.keep _ _ hq))
  have hrL : r ≠ L := by obtain ⟨oL, _, _, hL, _⟩ := F.ns; exact (hrold hL).symm
  refine stS (s := { s with heap := h₁ }) F₁ fun h₂ F₂ hk₂ => ?_
  replace F₂ : Fr g L h₂ (fun y => if y = "result" then some (.ref r) else if y = "line" then some (.ref la) else if y = "way" then some (.int way tw) else m y) := F₂
  have up : ∀ b o, b ≠ L → s.heap.get? b = some o → h₂.get? b = some o := fun b o hb e => hk₂ b o hb (hk₁ b o e)
  have hlaL : la ≠ L := by
    rintro rfl
    obtain ⟨oL, _, c1, hL, c2, c3, c4⟩ := F.ns
    obtain ⟨o, ho, hc, nn, hd⟩ := hl
    rw [hL] at ho
    cases ho
    rw [hd] at c2
    cases c2
  have hl₂ : h₂.IsList la xs.toArray := hl.at fun o e => up _ o hlaL e
  refine wpC_execs_cons (wpC_mono (undo_if (s := { s with heap := h₂, toks := s.toks + 1 }) (above := above) (row := row) (r := r) (ab := ab) (la := la) (way := way) (u := u) hroom hh F₂ B
    ((if_neg (by decide)).trans ((if_neg (by decide)).trans ((if_neg (by decide)).trans hmu))) ((if_neg (by decide)).trans ((if_neg (by decide)).trans (if_pos rfl)))
    ((if_neg (by decide)).trans (if_pos rfl)) ((if_neg (by decide)).trans ((if_neg (by decide)).trans ((if_neg (by decide)).trans hma))) (if_pos rfl)
    hl₂ hi hb hz hoab (hal.trans hn0.symm) hu hu' (hk₂ _ _ hrL hg₁) (up _ _ habL hgab) (hrold hgab) fr hgn) fun fl s₃ h₃ => ?_)
  obtain ⟨rfl, h₃, tk₃, rfl, hr₃, hk₃⟩ := h₃
  have F₃ : Fr g L h₃ (fun y => if y = "result" then some (.ref r) else if y = "line" then some (.ref la) else if y = "way" then some (.int way tw) else m y) :=
    ⟨F₂.ns.at' fun o e => hk₃ L o (Ne.symm hrL) e, fun b o e => hk₃ b o (fun q => by subst q; rw [fr] at e; cases e) (F₂.keep b o e), F₂.above⟩
  have up₃ : ∀ b o, b ≠ L → s.heap.get? b = some o → h₃.get? b = some o := fun b o hb e => hk₃ b o (hrold e) (up b o hb e)
  have hP₃ : PlainL h₃ D dv.toArray := let ⟨o, n, e, q⟩ := hPD; ⟨o, n, up₃ D o hDL e, q⟩
  have hDlt : D < r := by rw [← hr]; exact hPD.lt
  have hrlt : r < h₃.objs.size := Heap.lt_size hr₃
  have hXr : ∀ b ∈ X, b < r := fun b hb => by rw [← hr]; exact hXs b hb
  have q1 : h₃.objs.size ≠ D := Nat.ne_of_gt (Nat.lt_trans hDlt hrlt)
  have q2 : h₃.objs.size ≠ L := Nat.ne_of_gt (Nat.lt_trans (hXr L hLX) hrlt)
  -- its list is appended
  refine wpC_execs_cons (wpC_any (wpAny_Expr (wpAny_Call_append rfl rfl rfl rfl (ld (s := { s with heap := h₃, toks := tk₃ }) F₃ ((if_neg (by decide)).trans ((if_neg (by decide)).trans ((if_neg (by decide)).trans hD)))
    ⟨D, _, rfl, hP₃, wpAny_Call_NameR (nm_list (s := { s with heap := h₃, toks := tk₃ }) F₃ B (PyProof.Rows.callWith_type1 (args_cons ?_)) rfl rfl)⟩))))
  refine ld (s := { s with heap := h₃, toks := tk₃ }) F₃ (if_pos rfl) ?_
  refine args_nil ?_
  refine ba_list (s := { s with heap := h₃, toks := tk₃ }) hh hr₃ (undo_oct hb) (by rw [undo_len]; omega) fun h₄ tk₄ vs₄ c₄ hk₄ hg₄ hi₄ => ?_
  have F₄ := F₃.kept hk₄
  refine list_append_plainL (s := { s with heap := h₄, toks := tk₄ }) (hP₃.keeps hk₄) (fun h₅ hP₅ hs₅ => ?_) (by have := hR.length; simp only [List.size_toArray, sizeLine]; omega)
  have F₅ : Fr g L h₅ _ := ⟨F₄.ns.at' fun o e => hs₅.extBut L o (Ne.symm hDL) e, fun b o e => hs₅.extBut b o (fun q => by subst q; rw [hgD] at e; cases e) (F₄.keep b o e), F₄.above⟩
  -- it is the row above
  refine wpC_execs_cons (wpC_any (wpAny_Assign_Name (ld (s := { s with heap := h₅, toks := tk₄ }) F₅ (if_pos rfl) (stS (s := { s with heap := h₅, toks := tk₄ }) F₅ fun h₆ F₆ hk₆ => wpC_execs_nil ⟨rfl, h₆, _, _, rfl, F₆, ?_, ?_⟩))))
  · refine ⟨(if_neg (by decide)).trans ((if_neg (by decide)).trans ((if_neg (by decide)).trans ((if_neg (by decide)).trans hD))),
      (if_neg (by decide)).trans ((if_neg (by decide)).trans ((if_neg (by decide)).trans ((if_neg (by decide)).trans hmu))),
      r, undo way u row above, dn ++ [undo way u row above], dv ++ [.ref h₃.objs.size], if_pos rfl, ?_, ?_, Nat.ne_of_gt hDlt, fr, undo_len.trans hn0, undo_oct hb, ?_, ?_, ?_, ?_⟩
    · exact hk₆ _ _ hrL (hs₅.extBut _ _ (Nat.ne_of_gt hDlt) (hk₄ _ _ hr₃))
    · intro q; exact Nat.lt_irrefl _ (hXr r q)
    · obtain ⟨o, n, e, q1, q2, q3⟩ := hP₅
      refine ⟨o, n, hk₆ _ _ hDL e, q1, q2, ?_⟩
      rw [q3]; simp
    · refine RowsAre.snoc ?_ (xs := vs₄) ?_ hi₄ (hR.at fun b o hbX e => ?_)
      · intro q
        rcases List.mem_cons.mp q with q | q
        · exact q1 q
        · exact Nat.lt_irrefl _ (Nat.lt_trans (hXr _ q) hrlt)
      · exact ⟨_, hk₆ _ _ q2 (hs₅.extBut _ _ q1 hg₄), rfl, c₄, rfl⟩
      · have q1 : b ≠ D := fun q => hbX (q ▸ .head _)
        have q2 : b ≠ L := fun q => hbX (q ▸ .tail _ hLX)
        exact hk₆ _ _ q2 (hs₅.extBut _ _ q1 (hk₄ _ _ (up₃ _ _ q2 e)))
    · rw [← htot, List.append_assoc, List.singleton_append]
      congr 1
      have w1 : ways.drop i = way :: ways.drop (i + 1) := by
        obtain ⟨hlt, e⟩ := List.getElem?_eq_some_iff.mp hway
        rw [List.drop_eq_getElem_cons hlt, e]
      have w2 : rows.drop i = row :: rows.drop (i + 1) := by
        obtain ⟨hlt, e⟩ := List.getElem?_eq_some_iff.mp hrow
        rw [List.drop_eq_getElem_cons hlt, e]
      rw [w1, w2, undoneR]
    · simp [hdl]
  · intro b hbf o e
    have q1 : b ≠ D := fun q => hfpD (q ▸ hbf)
    have q2 : b ≠ L := fun q => hfpL (q ▸ hbf)
    exact hk₆ _ _ q2 (hs₅.extBut _ _ q1 (hk₄ _ _ (up₃ _ _ q2 e)))
end
end Mine
end

section
open PySem PySem.W PySem.Calls PyProof.Rows
set_option Elab.async false
set_option maxRecDepth 100000
namespace Mine

theorem rep_zero : ∀ n : Nat, (List.replicate n [(0 : Int)]).flatten = List.replicate n 0
  | 0 => rfl
  | n + 1 => by rw [List.replicate_succ, List.flatten_cons, rep_zero n]; rfl
theorem oct_zero (n : Nat) : Oct (List.replicate n 0) := fun x hx => by rw [List.eq_of_mem_replicate hx]; decide

theorem News.ext {h₀ h h' : Heap} {L I : Addr} {news : List (Addr × Obj)} (N : News h₀ L h news) (hk : Heap.ExtBut I h h') (hI : h.get? I = none) : News h₀ L h' news :=
  Mine.News.kept N (fun (b : Addr) (o : Obj) e => hk b o (fun x => by subst x; rw [hI] at e; cases e) e)
theorem get_size (h : Heap) : h.get? h.objs.size = none := by
  cases hq : h.get? h.objs.size with
  | none => rfl
  | some o => exact absurd (Heap.lt_size hq) (Nat.lt_irrefl _)
theorem get_above {h : Heap} {a : Addr} (ha : h.objs.size ≤ a) : h.get? a = none := by
  cases hq : h.get? a with
  | none => rfl
  | some o => exact absurd (Heap.lt_size hq) (Nat.not_lt.mpr ha)

theorem Turn.at {g h h' : Heap} {X : List Addr} {D : Addr} {n0 u i : Nat} {tu : Tok} {total : List (List Int)} {ways : List Int} {rows : List (List Int)} {m : Str → Option Value} (J : Turn g X D n0 u tu total ways rows i h m) (hDX : D ∉ X)
    (hk : ∀ b o, b ∉ X → h.get? b = some o → h'.get? b = some o) : Turn g X D n0 u tu total ways rows i h' m := by
  obtain ⟨hD, hmu, ab, above, dn, dv, hma, hgab, habX, habD, hgn, hal, hoab, ⟨o, n, e, q⟩, hR, htot, hdl⟩ := J
  exact ⟨hD, hmu, ab, above, dn, dv, hma, hk _ _ habX hgab, habX, habD, hgn, hal, hoab, ⟨o, n, hk _ _ hDX e, q⟩, hR.at fun b o hb e => hk b o (fun x => hb (.tail _ x)) e, htot, hdl⟩

theorem undoneR_end {u : Nat} {above : List Int} {ways : List Int} {rows : List (List Int)} : undoneR u above (ways.drop rows.length) (rows.drop rows.length) = [] := by
  rw [List.drop_length]
  cases ways.drop rows.length <;> rfl

section
variable {prog : Program} {w : World} {A : Around} {s : Shared} {f c' W Ln : Addr} {u n0 : Nat} {tu : Tok} {wv rv : List Value} {ways : List Int} {rows : List (List Int)}

set_option maxHeartbeats 8000000 in
theorem undone_call {Q : Value → Shared → Prop} (hroom : A.depth + 1 < recursionLimit) (hh : A.handled = none) (B : Base s.heap) (hf : FnAt s.heap f c' dUnd)
    (hW : s.heap.IsList W wv.toArray) (hwi : IntsAre wv ways) (hL : s.heap.IsList Ln rv.toArray) (hR : RowsAre s.heap [] rv rows)
    (hlen : ways.length = rows.length) (hne : rows ≠ []) (hn : ∀ r ∈ rows, r.length = n0 ∧ Oct r) (hz : n0 ≤ 1048576) (hi : rows.length < 1048576) (hu : 1 ≤ u) (hu' : u ≤ 1048576)
    (hQ : ∀ h' tk out ov, (∀ b o, s.heap.get? b = some o → h'.get? b = some o) → s.heap.objs.size ≤ out → h'.IsList out (List.toArray ov) → RowsAre h' [out] ov (undoneR u (List.replicate n0 0) ways rows) → Q (.ref out) { s with heap := h', toks := tk }) :
    wpC (model prog w) A (call (.ref f) [.ref W, .int u tu, .ref Ln]) Q s := by
  obtain ⟨o, pm, doc, ho, hd, hcd⟩ := hf
  obtain ⟨g, gens, dr, tk0, os⟩ := s
  dsimp only at *
  refine wpC_call (call_plain_C (by omega) ho hd B.nolimit hcd (binds := [("ways", .ref W), ("unit", .int u tu), ("lines", .ref Ln)]) (by rfl) (locs rfl) (fun h₀ F₀ => ?_) rfl rfl rfl (by decide))
  show wpC _ (A.deeper _) (execs dUnd.body (undE g.objs.size f (.ref c'))) _ _
  have hroom' : (A.deeper (undE g.objs.size f (.ref c'))).depth < recursionLimit := hroom
  generalize hA : A.deeper (undE g.objs.size f (.ref c')) = A' at hroom' ⊢
  have hh' : A'.handled = none := by rw [← hA]; exact hh
  clear hA
  dsimp only at *
  generalize hLL : g.objs.size = L at F₀ ⊢
  generalize tk0 + [(("ways" : Str), Value.ref W), ("unit", .int u tu), ("lines", .ref Ln)].length = tk1
  -- the first row
  obtain ⟨r0, rest, hrows⟩ : ∃ r0 rest, rows = r0 :: rest := by cases rows with | nil => exact absurd rfl hne | cons a b => exact ⟨a, b, rfl⟩
  have hrl := hR.length
  obtain ⟨v0, hv0⟩ : ∃ v0, rv[0]? = some v0 := ⟨rv[0]'(by rw [hrl, hrows]; simp), List.getElem?_eq_getElem _⟩
  obtain ⟨l0, xs0, row0, rfl, hr0, _, hl0, hi0⟩ := hR.get hv0
  have hrow0 : row0.length = n0 := (hn row0 (List.mem_of_getElem? hr0)).1
  have hxs0 : xs0.toArray.size = n0 := by rw [List.size_toArray, hi0.length, hrow0]
  -- the first statement
  refine wpC_execs_cons (wpC_Assign_Tuple_swapped (names := ["done", "above"]) ?_)
  refine wpC_Tuple (wpC_args_cons (wpC_any (List_ (args_nil (newList_N (s := ⟨h₀, gens, dr, tk1, os⟩) F₀ News.nil fun h₁ F₁ N₁ => ?_)))))
  refine wpC_args_cons (wpC_Call (nm_bytearray F₁ B ?_ rfl rfl))
  refine wpC_callWith_type (wpC_args_cons (wpC_any (wpAny_BinOp (List_ (args_cons (wpAny_Constant_int (args_nil (newList_N F₁ N₁ fun h₂ F₂ N₂ => ?_))))))))
  refine wpAny_Call_NameR (nm_len F₂ B (callWith_builtin1 (args_cons (Subscript_ (ld F₂ rfl (wpAny_Constant_int (sub_list (k := 0) (its := rv.toArray) (hL.at fun o e => F₂.keep _ _ e) (by decide) (by decide) (by simpa using hv0) ?_)))))) rfl rfl)
  refine args_nil (call_len_list (hl0.at fun o e => F₂.keep _ _ e) (by omega) ?_)
  rw [hxs0]
  refine KM.mul (ns := [0]) F₂ N₂ (News.isList N₂ (.head _)) (.cons 0 _ .nil) (by omega) (by omega) (by simp; omega) fun D3 h₃ F₃ N₃ hlt3 hi3 _ _ _ _ _ => ?_
  rw [Int.toNat_natCast, rep_zero] at hi3
  refine wpC_args_nil ?_
  dsimp only at *
  refine call_bytearray (News.isList N₃ (.head _)) hi3 (oct_zero n0) (by simp; omega) fun h₄ hk₄ hg₄ hs₄ => ?_
  dsimp only at *
  have F₄ := F₃.kept hk₄
  have N₄ : News g L h₄ ((h₃.objs.size, baObj (List.replicate n0 0)) :: _) := fun p hp => by
    rcases List.mem_cons.mp hp with rfl | hp
    · refine ⟨hg₄, Nat.ne_of_gt F₃.ns.lt, ?_⟩
      cases hq : g.get? h₃.objs.size with
      | none => rfl
      | some o' => exact absurd (Heap.lt_size (F₃.keep _ _ hq)) (Nat.lt_irrefl _)
    · exact Mine.News.kept N₃ hk₄ p hp
  have hZD : h₀.objs.size < h₃.objs.size := Heap.lt_size (N₃.get (.tail _ (.tail _ (.head _))))
  generalize hZ : h₃.objs.size = Z at hg₄ hs₄ N₄ hZD ⊢
  refine wpC_args_nil ?_
  refine newTuple_N (s := ⟨h₄, gens, dr, _, os⟩) F₄ N₄ (vs := [.ref h₀.objs.size, .ref Z]) (hsz := by simp [sizeLine]) fun h₅ F₅ N₅ => ?_
  refine wpAny_unpackItems_tuple (items := #[.ref h₀.objs.size, .ref Z]) hh' ⟨_, N₅.get (.head _), rfl, _, rfl⟩ fun h₆ hx₆ => ?_
  dsimp only at *
  have F₆ := Fr.ext F₅ hx₆ (get_size _)
  have N₆ := News.ext N₅ hx₆ (get_size _)
  show wpAny _ _ (assignInOrder [bindName (undE L f (.ref c')) "above", bindName (undE L f (.ref c')) "done"] [.ref Z, .ref h₀.objs.size]) _ _ _
  refine wpAny_assignInOrder_more (wpAny_bindName (stN (s := ⟨h₆, gens, dr, _, os⟩) F₆ N₆ fun h₇ F₇ N₇ => ?_))
  refine wpAny_assignInOrder_more (wpAny_bindName (stN (s := ⟨h₇, gens, dr, _, os⟩) F₇ N₇ fun h₈ F₈ N₈ => ?_))
  refine wpAny_assignInOrder_none ?_
  dsimp only
  have hDo := N₈.get (.tail _ (.tail _ (.tail _ (.tail _ (.head _)))))
  have hDg := N₈.fresh (.tail _ (.tail _ (.tail _ (.tail _ (.head _)))))
  have hDL := (N₈ _ (.tail _ (.tail _ (.tail _ (.tail _ (.head _)))))).2.1
  have hZo := N₈.get (.tail _ (.head _))
  have hZg := N₈.fresh (.tail _ (.head _))
  have hZL := (N₈ _ (.tail _ (.head _))).2.1
  dsimp only at hDo hDg hDL hZo hZg hZL
  have hgD : g.objs.size ≤ h₀.objs.size := by rw [hLL]; exact Nat.le_of_lt F₀.ns.lt
  have hDZ : h₀.objs.size ≠ Z := Nat.ne_of_lt hZD
  clear N₈ N₇ N₆ N₅ N₄ N₃ N₂ N₁ F₇ F₆ F₅ F₄ F₃ F₂ F₁ F₀ hx₆ hg₄ hs₄ hk₄ hlt3 hi3 hZ hZD
  generalize h₀.objs.size = D at *
  generalize _ + 1 = tk8
  -- the loop over ways and lines
  have hW₈ := hW.at fun o e => F₈.keep _ o e
  have hL₈ := hL.at fun o e => F₈.keep _ o e
  refine wpC_execs_cons (wpC_For (wpAny_Call_NameR (nm_zip F₈ B (PyProof.Rows.callWith_type1 (args_cons (ld F₈ (by first | rfl | decide) (args_cons (ld F₈ (by first | rfl | decide) (args_nil ?_))))) ) rfl rfl)) ?_)
  rotate_left
  · intro _; rfl
  refine call_zip_2 hW₈ hL₈ fun h₉ hzip hTI hTO hi1 hi2 hsz hk₉ => ?_
  dsimp only at hzip hTI hTO hi1 hi2 hsz hk₉ ⊢
  generalize hk : h₈.objs.size = k at *
  have wlt : W < k := by obtain ⟨_, e, _⟩ := hW₈; exact hk ▸ Heap.lt_size e
  have llt : Ln < k := by obtain ⟨_, e, _⟩ := hL₈; exact hk ▸ Heap.lt_size e
  have F₉ := F₈.kept hk₉
  have Llt : L < k := hk ▸ F₈.ns.lt
  have Dlt : D < k := hk ▸ Heap.lt_size hDo
  have Zlt : Z < k := hk ▸ Heap.lt_size hZo
  have gk : g.objs.size ≤ k := by
    have := F₈.above
    exact Nat.le_trans this (Nat.le_of_lt Llt)
  have ap : ZipApart (k + 4) (k + 2) (k + 3) k (k + 1) W Ln := by
    constructor <;> first | exact Nat.ne_of_lt (Nat.lt_of_lt_of_le wlt (by omega)) | exact Nat.ne_of_lt (Nat.lt_of_lt_of_le llt (by omega)) | exact Nat.ne_of_lt (by omega) | exact Nat.ne_of_gt (by omega)
  refine wpAny_pyIter_zip hzip ?_
  have hn' : min wv.toArray.size rv.toArray.size = rows.length := by
    have h1 := hwi.length
    rw [List.size_toArray, List.size_toArray, hrl, h1, hlen, Nat.min_self]
  have Wk := WalksT.zip2 (prog := prog) (w := w) hh' (k + 4) (k + 2) (k + 3) k (k + 1) W Ln ap wv.toArray rv.toArray
  rw [hn'] at Wk
  have hXD : D ∉ [L, k + 4, k + 3, k, k + 1] := by
    intro q
    simp only [List.mem_cons, List.not_mem_nil, or_false] at q
    rcases q with q | q | q | q | q
    · exact hDL q
    all_goals exact absurd q (Nat.ne_of_lt (by omega))
  refine codeC_forLoop_W (env := undE L f (.ref c')) (g := g) (X := [L, k + 4, k + 3, k, k + 1]) (P2 := fun i v0 v1 => wv.toArray[i]? = some v0 ∧ rv.toArray[i]? = some v1) hh' Wk (fun i vals ⟨x, y, e1, e2, e3⟩ => ⟨x, y, e3, e1, e2⟩) rfl rfl rfl ?_ ?_ (by simp) (.head _)
    (Turn g [L, k + 4, k + 3, k, k + 1] D n0 u tu (undoneR u (List.replicate n0 0) ways rows) ways rows) (fun i h h' m J hk => J.at hXD hk) ?_ F₉ ?_ ?_ ?_
  · show L ∉ _
    intro q
    simp only [List.mem_cons, List.not_mem_nil, or_false] at q
    rcases q with q | q | q | q | q | q | q
    · exact absurd q (Nat.ne_of_lt (by omega))
    · exact absurd q (Nat.ne_of_lt (by omega))
    · exact absurd q (Nat.ne_of_lt (by omega))
    · exact absurd q (Nat.ne_of_lt (by omega))
    · exact absurd q (Nat.ne_of_lt (by omega))
    · obtain ⟨_, e, _⟩ := hW; exact absurd q (Nat.ne_of_gt (hLL ▸ Heap.lt_size e))
    · obtain ⟨_, e, _⟩ := hL; exact absurd q (Nat.ne_of_gt (hLL ▸ Heap.lt_size e))
  · intro b hb
    simp only [List.mem_cons, List.not_mem_nil, or_false] at hb
    refine get_above ?_
    rcases hb with rfl | rfl | rfl | rfl <;> omega
  · exact ⟨hzip, hTI, ⟨_, _, hTO⟩, hi1, hi2, hW₈.at fun o e => hk₉ _ o e, hL₈.at fun o e => hk₉ _ o e⟩
  · refine ⟨by first | rfl | decide, by first | rfl | decide, Z, List.replicate n0 0, [], [], by first | rfl | decide, hk₉ _ _ hZo, ?_, Ne.symm hDZ, hZg, List.length_replicate .., oct_zero n0, ⟨_, _, hk₉ _ _ hDo, rfl, rfl, rfl⟩, .nil, rfl, rfl⟩
    intro q
    simp only [List.mem_cons, List.not_mem_nil, or_false] at q
    rcases q with q | q | q | q | q
    · exact hZL q
    all_goals exact absurd q (Nat.ne_of_lt (by omega))
  · rintro i v0 v1 m₁ h tk hin ⟨p0, p1⟩ ⟨hzi, _⟩ J F
    obtain ⟨way, tw, rfl, hway⟩ := ints_at hwi (i := i) (v := v0) (by simpa using p0)
    obtain ⟨la, xs, row, rfl, hrow, _, hla, hia⟩ := hR.get (i := i) (v := v1) (by simpa using p1)
    have hzlt : k + 4 < h.objs.size := Heap.lt_size hzi
    have hrow' := hn row (List.mem_of_getElem? hrow)
    refine turn_step (s := ⟨h, gens, dr, tk, os⟩) (X := [L, k + 4, k + 3, k, k + 1]) (fp := [k + 4, k + 2, k + 3, k, k + 1, W, Ln]) hroom' hh' B hXD hDL hDg ?_ ?_ hu hu' J F (hla.at fun o e => F.keep _ o e) hia hrow'.2 (hrow'.1 ▸ hz) hrow'.1 hway hrow (.head _) ?_ (by omega)
    · intro q
      simp only [List.mem_cons, List.not_mem_nil, or_false] at q
      rcases q with q | q | q | q | q | q | q
      · exact absurd q (Nat.ne_of_lt (by omega))
      · exact absurd q (Nat.ne_of_lt (by omega))
      · exact absurd q (Nat.ne_of_lt (by omega))
      · exact absurd q (Nat.ne_of_lt (by omega))
      · exact absurd q (Nat.ne_of_lt (by omega))
      · obtain ⟨_, e, _⟩ := hW; rw [← q, hDg] at e; cases e
      · obtain ⟨_, e, _⟩ := hL; rw [← q, hDg] at e; cases e
    · intro q
      simp only [List.mem_cons, List.not_mem_nil, or_false] at q
      rcases q with q | q | q | q | q | q | q
      · exact absurd q (Nat.ne_of_lt (by omega))
      · exact absurd q (Nat.ne_of_lt (by omega))
      · exact absurd q (Nat.ne_of_lt (by omega))
      · exact absurd q (Nat.ne_of_lt (by omega))
      · exact absurd q (Nat.ne_of_lt (by omega))
      · obtain ⟨_, e, _⟩ := hW; exact absurd q (Nat.ne_of_gt (hLL ▸ Heap.lt_size e))
      · obtain ⟨_, e, _⟩ := hL; exact absurd q (Nat.ne_of_gt (hLL ▸ Heap.lt_size e))
    · intro b hb
      simp only [List.mem_cons, List.not_mem_nil, or_false] at hb
      have hkl : k < h.objs.size := Nat.lt_of_le_of_lt (Nat.le_add_right _ _) hzlt
      rcases hb with rfl | rfl | rfl | rfl | rfl
      · exact Nat.lt_trans Llt hkl
      · exact hzlt
      · exact Nat.lt_of_le_of_lt (by omega) hzlt
      · exact hkl
      · exact Nat.lt_of_le_of_lt (by omega) hzlt
  · rintro h' tk' m' F' ⟨hD, _, ab, above, dn, dv, _, _, _, _, _, _, _, hP, hRd, htot, _⟩
    rw [undoneR_end, List.append_nil] at htot
    subst htot
    refine wpC_execs_cons (wpC_Return (wpC_any (ld F' hD ?_)))
    exact hQ h' _ D dv F'.keep hgD hP.isList (hRd.sub fun b hb => by rw [List.mem_singleton.mp hb]; exact .head _)
end
end Mine
end

section
open PySem PySem.W PySem.Calls PyProof.Rows
set_option Elab.async false
set_option maxRecDepth 100000
namespace Mine

theorem range_snoc {α : Type} (f : Nat → α) (i : Nat) : (List.range i).map f ++ [f i] = (List.range (i + 1)).map f := by rw [List.range_succ, List.map_append]; rfl

section
variable {prog : Program} {w : World} {A : Around} {s : Shared} {env : Env}

/-- the loop of a list comprehension whose elements are fresh lists of whole numbers -/
theorem compLoop_H {R : Result → Shared → Prop} {elt iter : Expr} {x : Str} {px : Pos} {scope : Scope} {pos : Pos} {I D : Addr} {fp wr : List Addr} {n : Nat} {P : Nat → Value → Prop} {St : Nat → Heap → Prop}
    {cenv : Env} {m : Str → Option Value} (W : Walks prog w A I fp wr n P St) (f : Nat → List Int)
    (hx : cenv.kindOf x = some .local) (hp : (cenv.scope.kind == .class || (cenv.scope.kind == .module && cenv.locals != cenv.globals)) = false)
    (hDC : D ≠ cenv.locals) (hDf : D ∉ fp) (hCf : cenv.locals ∉ fp)
    (hst : St 0 s.heap) (hacc : s.heap.PlainList D #[]) (hn : s.heap.Ns cenv.locals m) (hsz : n ≤ sizeLine)
    (helt : ∀ i v h tk m₂, i < n → P i v → h.Ns cenv.locals m₂ → m₂ x = some v → (∀ b o, b ≠ cenv.locals → b ∉ wr → b ≠ D → s.heap.get? b = some o → h.get? b = some o) → D < h.objs.size → St (i + 1) h →
      wpAny (model prog w) A (eval elt cenv) (fun y s₄ => ∃ h' tk' a xs, s₄ = { s with heap := h', toks := tk' } ∧ (∀ b o, h.get? b = some o → h'.get? b = some o) ∧ y = .ref a ∧ a ≠ D ∧ a ≠ cenv.locals ∧ a ∉ wr ∧ h'.IsList a (List.toArray xs) ∧ IntsAre xs (f i)) (fun _ _ => False) { s with heap := h, toks := tk })
    (hR : ∀ h' tk m' vs, h'.Ns cenv.locals m' → h'.IsList D (List.toArray vs) → RowsAre h' (D :: cenv.locals :: wr) vs ((List.range n).map f) →
      (∀ b o, b ≠ cenv.locals → b ∉ wr → b ≠ D → s.heap.get? b = some o → h'.get? b = some o) → R (.ok .next) { s with heap := h', toks := tk }) :
    codeAny (model prog w) A (.compLoop (.ListComp elt [⟨.Name x px, iter, [], 0⟩] scope pos) 0 (.ref I) (.ref D) cenv) R s := by
  refine codeAny_compLoop_list
    (fun k s' => ∃ h' tk m' i, ∃ vs : List Value, s' = { s with heap := h', toks := tk } ∧ St i h' ∧ h'.PlainList D vs.toArray ∧ h'.Ns cenv.locals m' ∧
      RowsAre h' (D :: cenv.locals :: wr) vs ((List.range i).map f) ∧ i ≤ n ∧ k = n + 1 - i ∧
      (∀ b o, b ≠ cenv.locals → b ∉ wr → b ≠ D → s.heap.get? b = some o → h'.get? b = some o)) ?_ (n + 1)
    ⟨s.heap, s.toks, m, 0, [], rfl, hst, hacc, hn, .nil, Nat.zero_le _, rfl, fun _ _ _ _ _ e => e⟩
  rintro k s' ⟨H, tk, m', i, vs, rfl, hst', hacc', hn', hRr, hi, rfl, hk⟩
  have hCw : cenv.locals ∉ wr := fun h => hCf (W.sub _ h)
  have hDw : D ∉ wr := fun h => hDf (W.sub _ h)
  by_cases hlt : i < n
  · refine W.item i _ _ _ hlt hst' fun v h₁ tk₁ hPv hst₁ hk₁ => ?_
    refine wpAny_assign_Name (wpAny_storeName_local hx (hn'.at' fun o e => hk₁ _ o hCw e) (fun h₂ hn₂ hs₂ => ?_) hp)
    have up₂ : ∀ b o, b ≠ cenv.locals → b ∉ wr → H.get? b = some o → h₂.get? b = some o := fun b o hbC hbf e => hs₂.extBut b o hbC (hk₁ b o hbf e)
    have hst₂ : St (i + 1) h₂ := W.frame _ _ _ hst₁ fun b hb o e => hs₂.extBut b o (fun h => hCf (h ▸ hb)) e
    have hacc₂ : h₂.PlainList D vs.toArray := hacc'.at fun o e => up₂ D o hDC hDw e
    have hDlt : D < h₂.objs.size := by obtain ⟨_, e⟩ := hacc₂; exact Heap.lt_size e
    refine wpAny_mono (helt i v h₂ _ _ hlt hPv hn₂ (by simp) (fun b o hbC hbf hbD e => up₂ b o hbC hbf (hk b o hbC hbf hbD e)) hDlt hst₂) (fun y s₄ h₄ => ?_) fun _ _ e => e.elim
    obtain ⟨h₄, tk₄, a, xs, rfl, hk₄, rfl, ha1, ha2, ha3, hla, hia⟩ := h₄
    have hys : vs.toArray.size ≤ sizeLine := by
      have e1 := hRr.length
      simp only [List.length_map, List.length_range] at e1
      rw [List.size_toArray, e1]; omega
    refine wpAny_list_append_plain (hsz := hys) (hacc₂.at fun o e => hk₄ _ o e) fun h₅ hl₅ hs₅ => ?_
    refine ⟨n + 1 - (i + 1), by omega, h₅, tk₄, _, i + 1, vs ++ [.ref a], rfl, ?_, ?_, (hn₂.keeps hk₄).sameBut hs₅ (Ne.symm hDC), ?_, hlt, rfl,
      fun b o hbC hbf hbD e => hs₅.extBut b o hbD (hk₄ b o (up₂ b o hbC hbf (hk b o hbC hbf hbD e)))⟩
    · exact W.frame _ _ h₅ hst₂ fun b hb o e => hs₅.extBut b o (fun h => hDf (h ▸ hb)) (hk₄ b o e)
    · simpa using hl₅
    · rw [← range_snoc]
      refine RowsAre.snoc ?_ (hla.at fun o e => hs₅.extBut _ _ ha1 e) hia (hRr.at fun b o hb e => ?_)
      · simp only [List.mem_cons, not_or]
        exact ⟨ha1, ha2, ha3⟩
      · simp only [List.mem_cons, not_or] at hb
        exact hs₅.extBut _ _ hb.1 (hk₄ _ _ (up₂ _ _ hb.2.1 hb.2.2 e))
  · have hin : i = n := by omega
    subst hin
    refine W.done _ _ _ hst' fun h₁ tk₁ hk₁ => ?_
    exact hR h₁ tk₁ m' vs (hn'.at' fun o e => hk₁ _ o hCw e) (hacc'.at fun o e => hk₁ _ o hDw e).isList (hRr.at fun b o hb e => by
      simp only [List.mem_cons, not_or] at hb
      exact hk₁ _ _ hb.2.2 e) fun b o hbC hbf hbD e => hk₁ b o hbf (hk b o hbC hbf hbD e)

/-- a list comprehension whose elements are fresh lists of whole numbers -/
theorem comp_H {E : Value → Shared → Prop} {elt iter : Expr} {x : Str} {px : Pos} {scope : Scope} {cl : List (Str × Addr)} {pos : Pos} {Q : Value → Shared → Prop} (f : Nat → List Int)
    (hclos : closureFor scope env = pure cl) (hcell : ∀ y ∈ scope.names, y.2 ≠ .cell) (hkind : scope.kind = .function)
    (hnames : ∀ y ∈ scope.names, y.2 = .local → scope.names.lookup y.1 = some .local) (hx : scope.names.lookup x = some .local)
    (h : wpAny (model prog w) A (eval iter env) (fun xv s₁ => wpAny (model prog w) A (pyIter xv) (fun it s₂ => ∃ I fp wr n P St, it = .ref I ∧ Walks prog w A I fp wr n P St ∧ n ≤ sizeLine ∧ St 0 s₂.heap ∧ (∀ b ∈ fp, b < s₂.heap.objs.size) ∧
      (∀ D C i v h tk m₂, s₂.heap.objs.size ≤ D → s₂.heap.objs.size ≤ C → i < n → P i v → h.Ns C m₂ → m₂ x = some v → (∀ b o, b ∉ wr → s₂.heap.get? b = some o → h.get? b = some o) → D < h.objs.size → St (i + 1) h →
        wpAny (model prog w) A (eval elt (compEnvC scope cl C env)) (fun y s₄ => ∃ h' tk' a xs, s₄ = { s₂ with heap := h', toks := tk' } ∧ (∀ b o, h.get? b = some o → h'.get? b = some o) ∧ y = .ref a ∧ a ≠ D ∧ a ≠ C ∧ a ∉ wr ∧ h'.IsList a (List.toArray xs) ∧ IntsAre xs (f i)) (fun _ _ => False) { s₂ with heap := h, toks := tk }) ∧
      (∀ D h' tk vs, s₂.heap.objs.size ≤ D → h'.IsList D (List.toArray vs) → RowsAre h' [D] vs ((List.range n).map f) →
        (∀ b o, b ∉ wr → s₂.heap.get? b = some o → h'.get? b = some o) → Q (.ref D) { s₂ with heap := h', toks := tk })) E s₁) E s)
    (hs : ∀ x, foldedSetIterable iter env x = pure x := by intro _; rfl) :
    wpAny (model prog w) A (eval (.ListComp elt [⟨.Name x px, iter, [], 0⟩] scope pos) env) Q E s := by
  rw [eval_ListComp]
  refine wpAny_comprehension_free (use := none) rfl hs hclos hkind hnames (wpAny_mono h (fun xv s₁ h₁ => wpAny_mono h₁ (fun it s₂ h₂ => ?_) fun _ _ e => e) fun _ _ e => e)
  obtain ⟨I, fp, wr, n, P, St, rfl, W, hsz, hst, hfp, hq, hQ⟩ := h₂
  refine wpAny_newObj_type (wpAny_newFunctionEnv hcell (by intro y hy; simp at hy) (fun h₁ hns₁ hsb₁ => ?_) hkind)
  dsimp only at hns₁ hsb₁ ⊢
  generalize hH2 : s₂.heap.push { cls := .type "list", dict := none, data := .seq ([] : List Value).toArray } = H2 at hns₁ hsb₁ ⊢
  have hC : H2.objs.size = s₂.heap.objs.size + 1 := by rw [← hH2, Heap.size_push]
  have hDC : s₂.heap.objs.size ≠ H2.objs.size := by rw [hC]; exact Nat.ne_of_lt (Nat.lt_succ_self _)
  have hCle : s₂.heap.objs.size ≤ H2.objs.size := by rw [hC]; exact Nat.le_succ _
  have below : ∀ b, b < s₂.heap.objs.size → b ≠ H2.objs.size ∧ b ≠ s₂.heap.objs.size := fun b hb => ⟨by rw [hC]; exact Nat.ne_of_lt (Nat.lt_succ_of_lt hb), Nat.ne_of_lt hb⟩
  have hDf : s₂.heap.objs.size ∉ fp := fun hm => Nat.lt_irrefl _ (hfp _ hm)
  have hCf : H2.objs.size ∉ fp := fun hm => by have := hfp _ hm; rw [hC] at this; exact Nat.lt_irrefl _ (Nat.lt_of_succ_lt this)
  have old : ∀ b o, s₂.heap.get? b = some o → h₁.get? b = some o := fun b o e => hsb₁.extBut b o (below b (Heap.lt_size e)).1 (Heap.get?_push_of_some _ (hH2 ▸ Heap.get?_push_of_some _ e))
  have hacc : h₁.PlainList s₂.heap.objs.size #[] := ⟨_, hsb₁.extBut _ _ hDC (Heap.get?_push_of_some _ (hH2 ▸ Heap.get?_push_size _ rfl))⟩
  have hst₁ : St 0 h₁ := W.frame _ _ _ hst fun b _ o e => old b o e
  have loop : ∀ s₃ : Shared, s₃ = { s₂ with heap := h₁, toks := s₂.toks + ([] : List (Str × Value)).length } →
      codeAny (model prog w) A (.compLoop (.ListComp elt [⟨.Name x px, iter, [], 0⟩] scope pos) 0 (.ref I) (.ref s₂.heap.objs.size) (compEnvC scope cl H2.objs.size env))
        (compPost (model prog w) A E none Q (.ref s₂.heap.objs.size) H2.objs.size) s₃ := by
    rintro s₃ rfl
    refine compLoop_H (cenv := compEnvC scope cl H2.objs.size env) W f (lookup_relabel_local hx) (by simp [compEnvC, relabel, hkind]) hDC hDf hCf hst₁ hacc hns₁ hsz
      (fun i v h tk m₂ hi hv hn hm hk hD hS => hq s₂.heap.objs.size H2.objs.size i v h tk m₂ (Nat.le_refl _) hCle hi hv hn hm (fun b o hbf e => hk b o (below b (Heap.lt_size e)).1 hbf (below b (Heap.lt_size e)).2 (old b o e)) hD hS)
      fun h' tk m' vs hn hl hR hk => ?_
    refine ⟨m', hn, fun h'' hs'' => ?_⟩
    refine hQ s₂.heap.objs.size h'' tk vs (Nat.le_refl _) (hl.extBut hs''.extBut hDC) ((hR.at fun b o hb e => hs''.extBut b o (fun q => hb (q ▸ .tail _ (.head _))) e).sub fun b hb => by rw [List.mem_singleton.mp hb]; exact .head _) fun b o hbf e => ?_
    exact hs''.extBut b o (below b (Heap.lt_size e)).1 (hk b o (below b (Heap.lt_size e)).1 hbf (below b (Heap.lt_size e)).2 (old b o e))
  exact codeAny_compStart_list (loop _ rfl) (W.self 0 _ _ _ hst₁ (loop _ rfl))
end
end Mine
end

section
open PySem PySem.W PySem.Calls PyProof.Rows
set_option Elab.async false
set_option maxRecDepth 100000
namespace Mine

/-- a list of rows as data -/
def rowData (rows : List (List Int)) : PyData := .list (rows.map fun r => .list (r.map .int))
theorem ints_read {h : Heap} : ∀ {vs : List Value} {ns : List Int}, IntsAre vs ns → ∃ as, ReadsAll h vs (ns.map .int) as
  | _, _, .nil => ⟨[], .nil⟩
  | _, _, .cons n t r => by obtain ⟨as, ih⟩ := ints_read (h := h) r; exact ⟨_, .cons (.int n t) ih⟩
theorem rows_read {h : Heap} {X : List Addr} : ∀ {vs : List Value} {rows : List (List Int)}, RowsAre h X vs rows → ∃ as, ReadsAll h vs (rows.map fun r => .list (r.map .int)) as
  | _, _, .nil => ⟨[], .nil⟩
  | _, _, .cons _ hl hi r => by
    obtain ⟨as, ih⟩ := rows_read r
    obtain ⟨o, ho, hc, n, hd⟩ := hl
    obtain ⟨bs, hb⟩ := ints_read (h := h) hi
    exact ⟨_, .cons (.list ho hc hd (by simpa using hb)) ih⟩
theorem ints_lay : ∀ ns : List Int, PyData.canLayAll0 (ns.map .int) = true
  | [] => rfl
  | n :: r => by rw [List.map_cons, PyData.canLayAll0, ints_lay r]; rfl
theorem ints_depth : ∀ ns : List Int, PyData.depthAll (ns.map .int) ≤ 1
  | [] => by simp [PyData.depthAll]
  | n :: r => by
    have := ints_depth r
    simp only [List.map_cons, PyData.depthAll, PyData.depth]
    omega
theorem rows_lay : ∀ rows : List (List Int), PyData.canLayAll0 (rows.map fun r => .list (r.map .int)) = true
  | [] => rfl
  | n :: r => by rw [List.map_cons, PyData.canLayAll0, rows_lay r, PyData.canLay0, ints_lay]; rfl
theorem rows_depth : ∀ rows : List (List Int), PyData.depthAll (rows.map fun r => .list (r.map .int)) ≤ 2
  | [] => by simp [PyData.depthAll]
  | n :: r => by
    have := rows_depth r
    have := ints_depth n
    simp only [List.map_cons, PyData.depthAll, PyData.depth]
    omega

section
variable {prog : Program} {w : World} {A : Around} {E : Value → Shared → Prop} {s : Shared}
theorem rows_ne {a b : Addr} {vs ws : List Value} {rows : List (List Int)} {X Y : List Addr} {Q : Value → Shared → Prop} (ha : s.heap.IsList a vs.toArray) (hb : s.heap.IsList b ws.toArray) (hv : RowsAre s.heap X vs rows) (hw : RowsAre s.heap Y ws rows)
    (hu : A.units + 8 < cLine) (h : Q (.bool false) s) : wpAny (model prog w) A (compareOp .NotEq (.ref a) (.ref b)) Q E s := by
  obtain ⟨as, ra⟩ := rows_read hv
  obtain ⟨bs, rb⟩ := rows_read hw
  obtain ⟨o, ho, hc, n, hd⟩ := ha
  obtain ⟨o', ho', hc', n', hd'⟩ := hb
  have hl : (rowData rows).canLay0 = true := by unfold rowData; rw [PyData.canLay0]; exact rows_lay rows
  have hdp : (rowData rows).depth ≤ 3 := by
    have := rows_depth rows
    unfold rowData
    simp only [PyData.depth]
    omega
  refine PySem.SeqAt.compareNe_reads (da := rowData rows) (db := rowData rows) (.list ho hc hd (by simpa using ra)) (.list ho' hc' hd' (by simpa using rb)) hl hl ?_ ?_
  · have : min (rowData rows).depth (rowData rows).depth ≤ 3 := Nat.le_trans (Nat.min_le_left _ _) hdp
    omega
  · rw [PySem.SeqAt.eqv_refl _ hl]; exact h
theorem rows_eq {a b : Addr} {vs ws : List Value} {rows : List (List Int)} {X Y : List Addr} {Q : Value → Shared → Prop} (ha : s.heap.IsList a vs.toArray) (hb : s.heap.IsList b ws.toArray) (hv : RowsAre s.heap X vs rows) (hw : RowsAre s.heap Y ws rows)
    (hu : A.units + 8 < cLine) (h : Q (.bool true) s) : wpAny (model prog w) A (compareOp .Eq (.ref a) (.ref b)) Q E s := by
  obtain ⟨as, ra⟩ := rows_read hv
  obtain ⟨bs, rb⟩ := rows_read hw
  obtain ⟨o, ho, hc, n, hd⟩ := ha
  obtain ⟨o', ho', hc', n', hd'⟩ := hb
  have hl : (rowData rows).canLay0 = true := by unfold rowData; rw [PyData.canLay0]; exact rows_lay rows
  have hdp : (rowData rows).depth ≤ 3 := by
    have := rows_depth rows
    unfold rowData
    simp only [PyData.depth]
    omega
  refine PySem.SeqAt.compareEq_reads (da := rowData rows) (db := rowData rows) (.list ho hc hd (by simpa using ra)) (.list ho' hc' hd' (by simpa using rb)) hl hl ?_ ?_
  · have : min (rowData rows).depth (rowData rows).depth ≤ 3 := Nat.le_trans (Nat.min_le_left _ _) hdp
    omega
  · rw [PySem.SeqAt.eqv_refl _ hl]; exact h

/-- a slice of a list -/
theorem Slice_ {env : Env} {lo hi st : Option Expr} {p : Pos} {Q : Value → Shared → Prop}
    (h : wpAny (model prog w) A (valueOrNone (evalOpt lo env)) (fun l s₁ => wpAny (model prog w) A (valueOrNone (evalOpt hi env)) (fun u s₂ => wpAny (model prog w) A (valueOrNone (evalOpt st env)) (fun k s₃ =>
      Q (.ref s₃.heap.objs.size) { s₃ with heap := s₃.heap.push { cls := .type "slice", data := .fields #[l, u, k] } }) E s₂) E s₁) E s) :
    wpAny (model prog w) A (eval (.Slice lo hi st p) env) Q E s := by
  rw [arm_eval_Slice]
  exact wpAny_bind (wpAny_mono h (fun l s₁ h₁ => wpAny_bind (wpAny_holding (wpAny_mono h₁ (fun u s₂ h₂ => wpAny_bind (wpAny_holding (wpAny_mono h₂ (fun k s₃ h₃ => wpAny_newObj_type h₃) fun _ _ x => x))) fun _ _ x => x))) fun _ _ x => x)
theorem part_none {env : Env} {Q : Value → Shared → Prop} (h : Q .none s) : wpAny (model prog w) A (valueOrNone (evalOpt none env)) Q E s := wpAny_pure h
theorem part_some {env : Env} {e : Expr} {Q : Value → Shared → Prop} (h : wpAny (model prog w) A (eval e env) Q E s) : wpAny (model prog w) A (valueOrNone (evalOpt (some e) env)) Q E s := h

theorem subscriptTail_any {value slice : Expr} {o i : Value} {T id : String} {ops : List Value} {Q : Value → Shared → Prop} (hT : s.TypeIs o T)
    (hl : typeLookup (.type T) "__getitem__" = pure (some (.builtin id))) (h : wpAny (model prog w) A (getItem o i) Q E s)
    (hs : subscripted slice false o i = operate ops (getItem o i)) :
    wpAny (model prog w) A (subscriptTail value slice o i) Q E s := by
  unfold subscriptTail
  refine wpAny_bind ?_
  rw [getitemInPython_of_ne hT.not_modules]
  refine wpAny_bind (wpAny_specialOf hT hl ?_)
  have fin : wpAny (model prog w) A (subscripted slice false o i) (fun r s₃ => wpAny (model prog w) A (letTemporaryGo value o r >>= fun _ => pure r) Q E s₃) E s := by
    rw [hs]
    exact wpAny_operating (wpAny_mono h (fun r s₃ h₃ => wpAny_bind (wpAny_letTemporaryGo (wpAny_pure h₃))) fun _ _ x => x)
  first
    | exact wpAny_pure (wpAny_bind fin)
    | exact wpAny_bind (wpAny_pure (wpAny_bind fin))
    | exact wpAny_bind fin

theorem sub_slice {l sl : Addr} {value : Expr} {lo hi st : Option Expr} {p : Pos} {vs : List Value} {ns : List Int} {vl vu vk : Value} {x y z : Option Int} {Q : Value → Shared → Prop} (hl : s.heap.IsList l vs.toArray) (hi' : IntsAre vs ns) (hsl : s.heap.IsSliceOf sl vl vu vk)
    (pl : IsPart vl x) (pu : IsPart vu y) (pk : IsPart vk z) (h0 : z ≠ some 0) (hsz : ns.length ≤ sizeLine)
    (h : ∀ h' ws, (∀ b o, s.heap.get? b = some o → h'.get? b = some o) → h'.IsList s.heap.objs.size (List.toArray ws) → IntsAre ws (pickNums ns x y z) → s.heap.objs.size < h'.objs.size → Q (.ref s.heap.objs.size) { s with heap := h' })
    (hs : ∃ ops, subscripted (.Slice lo hi st p) false (.ref l) (.ref sl) = operate ops (getItem (.ref l) (.ref sl)) := by exact ⟨_, rfl⟩) :
    wpAny (model prog w) A (subscriptTail value (.Slice lo hi st p) (.ref l) (.ref sl)) Q E s := by
  obtain ⟨ops, hs⟩ := hs
  refine subscriptTail_any hl.typeIs list_getitem_lookup (wpAny_getItem_list_slice hl hsl pl pu pk h0 ?_ (by rw [List.size_toArray, hi'.length]; exact hsz)) hs
  refine h _ (slicePick vs.toArray x y z).toList (fun b o e => Heap.get?_push_of_some _ e) ⟨_, Heap.get?_push_size _ rfl, rfl, 0, ?_⟩ (hi'.pick x y z) (by rw [Heap.size_push]; exact Nat.lt_succ_self _)
  simp
end
end Mine
end

section
open PySem PySem.W PySem.Calls PyProof.Rows
set_option Elab.async false
set_option maxRecDepth 100000
namespace Mine

/-- a frame with cells: everything of it lies below lo -/
structure LF (g : Heap) (L : Addr) (cs : List (Str × Addr)) (lo : Nat) (h : Heap) (m cm : Str → Option Value) : Prop where
  F : Fr g L h m
  X : Cl L cs h cm
  Llo : L < lo
  clo : ∀ n c, (n, c) ∈ cs → c < lo
  last : ∃ n c, cs.lookup n = some c ∧ lo = c + 1

section
variable {g h h' : Heap} {L : Addr} {cs : List (Str × Addr)} {lo : Nat} {m cm : Str → Option Value}
theorem LF.size (F : LF g L cs lo h m cm) : lo ≤ h.objs.size := by obtain ⟨n, c, e, rfl⟩ := F.last; exact (F.X.cell n c e).lt
theorem LF.at (F : LF g L cs lo h m cm) (hk : ∀ b o, b < lo → h.get? b = some o → h'.get? b = some o) : LF g L cs lo h' m cm :=
  ⟨⟨F.F.ns.at' fun o e => hk _ o F.Llo e, fun b o e => hk b o (Nat.lt_trans (Nat.lt_of_lt_of_le (Heap.lt_size e) F.F.above) F.Llo) (F.F.keep b o e), F.F.above⟩,
    ⟨fun n c e => let ⟨o, ho, hd⟩ := F.X.cell n c e; ⟨o, hk _ o (F.clo n c (mem_of_lookup e)) ho, hd⟩, F.X.apart, F.X.above⟩, F.Llo, F.clo, F.last⟩
theorem LF.kept (F : LF g L cs lo h m cm) (hk : ∀ b o, h.get? b = some o → h'.get? b = some o) : LF g L cs lo h' m cm := F.at fun b o _ e => hk b o e
theorem LF.ne (F : LF g L cs lo h m cm) {I : Addr} (hI : lo ≤ I) (hk : ∀ b o, b ≠ I → h.get? b = some o → h'.get? b = some o) : LF g L cs lo h' m cm :=
  F.at fun b o hb e => hk b o (Nat.ne_of_lt (Nat.lt_of_lt_of_le hb hI)) e
theorem LF.fresh (F : LF g L cs lo h m cm) {I : Addr} (hI : lo ≤ I) : g.get? I = none := get_above (Nat.le_trans F.F.above (Nat.le_trans (Nat.le_of_lt F.Llo) hI))
end

/-- no frame and no cell -/
def notFrame (o : Obj) : Prop := (∀ es ep, o.data ≠ .dict es ep) ∧ ∀ v, o.data ≠ .cell v
theorem IsList.nf {h h' : Heap} {a : Addr} {its : Array Value} (hl : h.IsList a its) (hk : ∀ b o, notFrame o → h.get? b = some o → h'.get? b = some o) : h'.IsList a its :=
  let ⟨o, ho, hc, n, hd⟩ := hl; ⟨o, hk a o ⟨fun _ _ q => (by rw [hd] at q; cases q), fun _ q => (by rw [hd] at q; cases q)⟩ ho, hc, n, hd⟩
theorem PlainL.nf {h h' : Heap} {a : Addr} {its : Array Value} (hl : PlainL h a its) (hk : ∀ b o, notFrame o → h.get? b = some o → h'.get? b = some o) : PlainL h' a its :=
  let ⟨o, n, ho, hc, hdn, hd⟩ := hl; ⟨o, n, hk a o ⟨fun _ _ q => (by rw [hd] at q; cases q), fun _ q => (by rw [hd] at q; cases q)⟩ ho, hc, hdn, hd⟩
theorem RowsAre.nf {h h' : Heap} {X : List Addr} (hk : ∀ b o, notFrame o → h.get? b = some o → h'.get? b = some o) : ∀ {vs : List Value} {rows : List (List Int)}, RowsAre h X vs rows → RowsAre h' X vs rows
  | _, _, .nil => .nil
  | _, _, .cons ha hl hi r => .cons ha (IsList.nf hl hk) hi (r.nf hk)

section
variable {M : Model} {A : Around} {E : Value → Shared → Prop} {s : Shared} {name : Str} {scope : Scope} {L a : Addr} {cd : Value} {g : Heap} {m cm : Str → Option Value} {lo : Nat}

theorem stL {x : Str} {v : Value} {Q : Unit → Shared → Prop} (F : LF g L (cellsFrom (L + 1) scope.names []) lo s.heap m cm)
    (h : ∀ h', LF g L (cellsFrom (L + 1) scope.names []) lo h' (fun y => if y = x then some v else m y) cm → (∀ b o, notFrame o → s.heap.get? b = some o → h'.get? b = some o) → Q () { s with heap := h', toks := s.toks + 1 })
    (hk : scope.kind = .function := by rfl) (hl : (envOfC name scope L a cd).kindOf x = some .local := by rfl) :
    wpAny M A (storeName (envOfC name scope L a cd) x v) Q E s :=
  wpAny_storeName_local hl F.F.ns (fun h' hn hs => h h' ⟨F.F.set hn hs, F.X.sameBut hs (Nat.le_refl _), F.Llo, F.clo, F.last⟩ fun b o hb e => hs.extBut b o (fun q => by
      obtain ⟨oL, es, ep, hL, hd, _⟩ := F.F.ns
      have e' : s.heap.get? L = some o := by subst q; exact e
      rw [hL] at e'; cases e'; exact hb.1 _ _ hd) e)
    (by show (scope.kind == .class || (scope.kind == .module && L != mainGlobals)) = false; rw [hk]; rfl)

theorem stCe {x : Str} {c : Addr} {v : Value} {Q : Unit → Shared → Prop} (F : LF g L (cellsFrom (L + 1) scope.names []) lo s.heap m cm) (hc : (cellsFrom (L + 1) scope.names []).lookup x = some c)
    (h : ∀ h', LF g L (cellsFrom (L + 1) scope.names []) lo h' m (fun y => if y = x then some v else cm y) → (∀ b o, notFrame o → s.heap.get? b = some o → h'.get? b = some o) → Q () { s with heap := h' })
    (hk : scope.kind = .function := by rfl) (hl : (envOfC name scope L a cd).kindOf x = some .cell := by rfl) :
    wpAny M A (storeName (envOfC name scope L a cd) x v) Q E s := by
  have hm := mem_of_lookup hc
  have hLc : L < c := F.X.above x c hm
  refine wpAny_storeName_cell hk hl hc (F.X.cell x c hc) fun h' hv hs => h h' ⟨⟨F.F.ns.sameBut hs (Nat.ne_of_lt hLc), fun b o e => (hs.2 b (Nat.ne_of_lt (Nat.lt_trans (Nat.lt_of_lt_of_le (Heap.lt_size e) F.F.above) hLc))).trans (F.F.keep b o e), F.F.above⟩,
    ⟨fun n c' e => ?_, F.X.apart, F.X.above⟩, F.Llo, F.clo, F.last⟩ fun b o hb e => hs.extBut b o (fun q => by
    obtain ⟨oc, hoc, hd⟩ := F.X.cell x c hc
    rw [q, hoc] at e; cases e; exact hb.2 _ hd) e
  by_cases hn : n = x
  · subst hn; rw [hc] at e; cases e; simpa using hv
  · have hcc : c' ≠ c := fun q => hn (name_of_addr F.X.apart (mem_of_lookup e) (q ▸ mem_of_lookup hc))
    simpa [hn] using (F.X.cell n c' e).sameBut hs hcc

theorem gl_len {pos : Pos} {Q : Value → Shared → Prop} (F : Fr g L s.heap m) (B : Base g) (h : Q (.builtin "len") s) (hk : scope.kind = .function) (hx : (envOfC name scope L a cd).kindOf "len" = some .globalImplicit) :
    wpAny M A (eval (.Name "len" pos) (envOfC name scope L a cd)) Q E s := by
  obtain ⟨n, mg, mb, a, b, c, d1, d2, d3, d4, d5, d6, _⟩ := B
  exact Name_function_global hk hx (loadGlobal_builtin (env := envOfC name scope L _ cd) (a.keeps F.keep) d2 (b.keeps F.keep) ((c _ (by decide)).trans (by decide +kernel)) h) (by decide)
theorem gl_range {pos : Pos} {Q : Value → Shared → Prop} (F : Fr g L s.heap m) (B : Base g) (h : Q (.type "range") s) (hk : scope.kind = .function) (hx : (envOfC name scope L a cd).kindOf "range" = some .globalImplicit) :
    wpAny M A (eval (.Name "range" pos) (envOfC name scope L a cd)) Q E s := by
  obtain ⟨n, mg, mb, a, b, c, d1, d2, d3, d4, d5, d6, _⟩ := B
  exact Name_function_global hk hx (loadGlobal_builtin (env := envOfC name scope L _ cd) (a.keeps F.keep) d1 (b.keeps F.keep) ((c _ (by decide)).trans (by decide +kernel)) h) (by decide)
theorem gl_und {pos : Pos} {Q : Value → Shared → Prop} (F : Fr g L s.heap m) (B : Base g) (h : ∀ f c', FnAt g f c' dUnd → Q (.ref f) s) (hk : scope.kind = .function) (hx : (envOfC name scope L a cd).kindOf "_law_undone" = some .globalImplicit) :
    wpAny M A (eval (.Name "_law_undone" pos) (envOfC name scope L a cd)) Q E s := by
  obtain ⟨n, mg, mb, a, b, c, d1, d2, d3, d4, d5, d6, _, _, _, _, ⟨f, c', e, hf⟩⟩ := B
  exact Name_function_global hk hx (loadGlobal_global (env := envOfC name scope L _ cd) (a.keeps F.keep) e (h f c' hf)) (by decide)

theorem wpC_isTrue_Compare1 {env : Env} {l r : Expr} {op : CmpOp} {pos : Pos} {whole : Sem Value} {Q : Bool → Shared → Prop}
    (h : wpC M A (eval l env) (fun a s₁ => wpAny M A (eval r env) (fun b s₂ => wpAny M A (compareOp op a b) (fun c s₃ => wpAny M A (truthy c) Q (fun _ _ => False) s₃) (fun _ _ => False) s₂) (fun _ _ => False) s₁) s)
    (hm : behindInMarks op r = false := by with_unfolding_all rfl) : wpC M A (isTrue (.Compare l [op] [r] pos) env whole) Q s := fun Γ p hΓ hC => by
  simp only [isTrue_Compare1, markedBehindIn_of_false hm, Sem.wp_bind', Sem.wp_holding, Sem.wp_cmd_standAt, Sem.wp_operate]
  exact Sem.wp_mono M Γ _ (fun a p₁ s₁ h₁ => Sem.wp_mono M Γ _ (fun b _ s₂ h₂ => Sem.wp_mono M Γ _ (fun c p₃ s₃ h₃ => h₃ Γ p₃ hΓ)
    (fun _ _ _ h' => h') _ _ (h₂ Γ _ hΓ)) (fun _ _ _ h' => h') _ _ (h₁ Γ p₁ hΓ)) (fun _ _ _ h' => h') _ _ (h Γ p hΓ hC)
theorem wpC_IfC {env : Env} {test : Expr} {body orelse : List Stmt} {pos : Pos} {Q : Flow → Shared → Prop}
    (h : wpC M A (isTrue test env (eval test env)) (fun b s₂ => if b then wpC M A (execs body env) Q s₂ else wpC M A (execs orelse env) Q s₂) s) :
    wpC M A (exec (.If test body orelse pos) env) Q s := by
  rw [exec_If]
  refine wpC_standAt (wpC_bind (wpC_mono h fun b s₂ h₂ => ?_))
  cases b <;> exact h₂
end

theorem call_cells_C {prog : Program} {w : World} {A : Around} {R : Flow → Shared → Prop} {s : Shared} {name : Str} {params : Arguments} {body : List Stmt} {scope : Scope}
    {pm cd doc : Value} {a : Addr} {o : Obj} {args : List Value} {binds : List (Str × Value)}
    (hroom : A.depth < recursionLimit) (ho : s.heap.get? a = some o) (hdata : o.data = .func (Calls.docDef name params body scope pm cd doc)) (hlim : s.heap.NoLimit) (hcd : s.heap.CodeRec cd name)
    (hbind : bindArgs (Calls.docDef name params body scope pm cd doc) ⟨args, []⟩ = pure binds)
    (hkind : ∀ x ∈ binds, scope.names.lookup x.1 = some .local ∨ (scope.names.lookup x.1 = some .cell ∧ ((cellsFrom (s.heap.objs.size + 1) scope.names []).lookup x.1).isSome = true))
    (h : ∀ h₁ tk, Fr s.heap s.heap.objs.size h₁ (bindL (envOfC name scope s.heap.objs.size a cd).kindOf binds fun _ => none) →
      Cl s.heap.objs.size (cellsFrom (s.heap.objs.size + 1) scope.names []) h₁ (bindC (envOfC name scope s.heap.objs.size a cd).kindOf binds fun _ => none) →
      wpC (model prog w) (A.deeper (envOfC name scope s.heap.objs.size a cd)) (execs body (envOfC name scope s.heap.objs.size a cd))
        (fun f s' => R (.ret (match f with | .ret v => v | _ => .none)) s') { s with heap := h₁, toks := tk })
    (hco : scope.isCoroutine = false := by rfl) (hgen : scope.isGenerator = false := by rfl) (hk : scope.kind = .function := by rfl) :
    codeC (model prog w) A (.call (.ref a) ⟨args, []⟩) R s := by
  refine codeC_call_function hroom ho hdata hco hgen rfl hcd ?_
  rw [hbind]
  refine wpAny_pure (wpAny_newFunctionEnv_cells hk hkind fun env he s' x => ?_)
  subst he
  refine ⟨hlim.keeps x.toInCall.keep, codeC_func ?_⟩
  obtain ⟨h₁, tk, rfl, _⟩ := x.done
  exact h h₁ tk ⟨x.toInCall.ns, x.toInCall.keep, x.toInCall.fresh⟩ ⟨x.cell, x.apart, x.above⟩

section
variable {prog : Program} {w : World} {A : Around} {s : Shared} {env : Env}
theorem codeC_forWalk {R : Flow → Shared → Prop} {x : Str} {px : Pos} {body : List Stmt} {I : Addr} {n : Nat} {P : Nat → Value → Prop} {St : Nat → Heap → Prop} (W : Walks prog w A I [I] [I] n P St) (J : Nat → Shared → Prop)
    (hJ : ∀ i s₁ h' tk, J i s₁ → (∀ b o, b ≠ I → s₁.heap.get? b = some o → h'.get? b = some o) → J i { s₁ with heap := h', toks := tk })
    (hst : St 0 s.heap) (h0 : J 0 s)
    (step : ∀ i v s₁, i < n → P i v → J i s₁ → St (i + 1) s₁.heap → wpAny (model prog w) A (storeName env x v) (fun _ s₂ => wpC (model prog w) A (execs body env) (fun f s₃ => f = .next ∧ J (i + 1) s₃ ∧ (∀ o, s₁.heap.get? I = some o → s₃.heap.get? I = some o)) s₂) (fun _ _ => False) s₁)
    (done : ∀ s', J n s' → R .next s') : codeC (model prog w) A (.forLoop (.Name x px) (.ref I) body [] env) R s := by
  refine codeC_forLoop (fun k s' => ∃ i, St i s'.heap ∧ J i s' ∧ i ≤ n ∧ k = n + 1 - i) ?_ (n + 1) ⟨0, hst, h0, Nat.zero_le _, rfl⟩
  rintro k s' ⟨i, hst', hJ', hi, rfl⟩
  by_cases hlt : i < n
  · refine W.item i _ _ _ hlt hst' fun v h₁ tk₁ hPv hst₁ hk₁ => ?_
    refine wpAny_of_eq (a := ()) rfl (wpAny_assign_Name (wpAny_mono (step i v { s' with heap := h₁, toks := tk₁ } hlt hPv (hJ i s' h₁ tk₁ hJ' fun b o hb e => hk₁ b o (by simpa using hb) e) hst₁) (fun _ s₂ h₂ => wpC_mono h₂ fun f s₃ h₃ => ?_) fun _ _ e => e))
    obtain ⟨rfl, hJ₃, hI⟩ := h₃
    exact ⟨n + 1 - (i + 1), by omega, i + 1, W.frame _ _ _ hst₁ fun b hb o e => by rw [List.mem_singleton.mp hb] at e ⊢; exact hI o e, hJ₃, hlt, rfl⟩
  · have hin : i = n := by omega
    subst hin
    refine W.done _ _ _ hst' fun h₁ tk₁ hk₁ => ?_
    exact done _ (hJ i s' h₁ tk₁ hJ' fun b o hb e => hk₁ b o (by simpa using hb) e)
end
section
variable {prog : Program} {w : World} {A : Around} {E : Value → Shared → Prop} {s : Shared}
theorem add_lists' {l b : Addr} {vs ws : List Value} {Q : Value → Shared → Prop} (hl : s.heap.IsList l vs.toArray) (hb : s.heap.IsList b ws.toArray)
    (h : ∀ h', (∀ b o, s.heap.get? b = some o → h'.get? b = some o) → h'.IsList s.heap.objs.size (vs ++ ws).toArray → Q (.ref s.heap.objs.size) { s with heap := h' })
    (hsz : vs.length + ws.length ≤ sizeLine) :
    wpAny (model prog w) A (binaryOp .Add (.ref l) (.ref b)) Q E s := by
  obtain ⟨⟨cls, dd, data, sl⟩, ho, hc, n, hd⟩ := id hl
  obtain ⟨⟨cls2, dd2, data2, sl2⟩, ho2, hc2, n2, hd2⟩ := id hb
  simp only at hc hd hc2 hd2
  subst hc hd hc2 hd2
  have e : vs.toArray ++ ws.toArray = (vs ++ ws).toArray := by simp
  refine concat_meets ⟨_, ho, rfl⟩ ⟨_, ho2, rfl⟩ noFill_list_add seq_list_add PySem.F.slot_list_add PySem.F.entry_list_add (PySem.F.args_list_add_2 _ _) (list_addW l b vs.toArray ws.toArray n n2 dd dd2 sl sl2 (by simpa using hsz)) ⟨ho, ho2, ?_⟩
  rw [e]
  exact h _ (fun b o e => Heap.get?_push_of_some _ e) ⟨_, Heap.get?_push_size _ rfl, rfl, 0, rfl⟩
theorem range_it {a b : Int} {t u v : Tok} {rr : Addr} {n : Nat} {Q : Value → Shared → Prop} (hr : IsRange s.heap rr a b 1 t u v) (ha : -(2 ^ 61) < a ∧ a < 2 ^ 61) (hb : -(2 ^ 61) < b ∧ b < 2 ^ 61) (hn : n = (b - a).toNat)
    (h : ∀ h', (∀ b o, s.heap.get? b = some o → h'.get? b = some o) → IsRangeIter h' s.heap.objs.size (a + ((0 : Nat) : Int) * 1) ((n : Int) - ((0 : Nat) : Int)) 1 → Q (.ref s.heap.objs.size) { s with heap := h' }) :
    wpAny (model prog w) A (pyIter (.ref rr)) Q E s := by
  refine wpAny_pyIter_range hr (small_one (by omega) (by omega) (by omega) (by omega)) (h _ (fun b o e => Heap.get?_push_of_some _ e) ?_)
  have hsz : Builtin.Range.rangeSize a b 1 = (n : Int) := by rw [rangeSize_one]; split <;> omega
  rw [hsz]
  have e1 : a + ((0 : Nat) : Int) * 1 = a := by simp
  have e2 : (n : Int) - ((0 : Nat) : Int) = n := by simp
  rw [e1, e2]
  exact Heap.get?_push_size _ rfl
end

theorem paired_ints {p : Int → Prop} {F : Value → Value → Prop} (hF : ∀ v y, F v y → ∃ n t, y = .int n t ∧ p n) : ∀ {vs ys : List Value}, Paired F vs ys → ∃ ns, IntsAre ys ns ∧ ns.length = vs.length ∧ ∀ n ∈ ns, p n
  | _, _, .nil => ⟨[], .nil, rfl, fun _ h => nomatch h⟩
  | _, _, .cons h r => by
    obtain ⟨ns, h1, h2, h3⟩ := paired_ints hF r
    obtain ⟨n, t, rfl, hp⟩ := hF _ _ h
    refine ⟨n :: ns, .cons n t h1, by simp [h2], fun k hk => ?_⟩
    rcases List.mem_cons.mp hk with rfl | hk
    · exact hp
    · exact h3 k hk
theorem filter_true {l : List Value} : l.filter (fun _ => true) = l := List.filter_eq_self.mpr fun _ _ => rfl
theorem ints_fun : ∀ {vs : List Value} {a b : List Int}, IntsAre vs a → IntsAre vs b → a = b
  | _, _, _, .nil, .nil => rfl
  | _, _, _, .cons n t h, .cons _ _ h' => by rw [ints_fun h h']
theorem ints_of : ∀ ns : List Int, IntsAre (ns.map fun n => .int n 0) ns
  | [] => .nil
  | n :: r => .cons n 0 (ints_of r)
theorem pick_upto {ns : List Int} {y : Int} (h0 : 0 ≤ y) : pickNums ns none (some y) none = ns.take y.toNat := ints_fun ((ints_of ns).pick none (some y) none) (slice_ints_uptoW (ints_of ns) h0)
theorem pick_from {ns : List Int} {x : Int} (h0 : 0 ≤ x) : pickNums ns (some x) none none = ns.drop x.toNat := ints_fun ((ints_of ns).pick (some x) none none) (slice_ints_fromW (ints_of ns) h0)
end Mine
end

section
open PySem PySem.W PySem.Calls PyProof.Rows
set_option Elab.async false
set_option maxRecDepth 100000
namespace Mine

theorem compTurn_2a (elt t1 i1 t2 i2 : Expr) (scope : Scope) (pos : Pos) (it acc : Value) (env : Env) :
    compTurn (.ListComp elt [⟨t1, i1, [], 0⟩, ⟨t2, i2, [], 0⟩] scope pos) 0 it acc env = (standAt i1.pos >>= fun _ => pyNext it >>= fun r => match r with
      | none => pure (.done .next)
      | some v => letOwnedTupleGo t1 it v >>= fun _ => assign t1 env v >>= fun _ => eval i2 env >>= fun x => standAt i2.pos >>= fun _ => foldedSetIterable i2 env x >>= fun x => holding [x] (pyIter x) >>= fun it2 =>
          runOwn (.compStart (.ListComp elt [⟨t1, i1, [], 0⟩, ⟨t2, i2, [], 0⟩] scope pos) 1 it2 acc env) env >>= fun _ =>
          again (.compLoop (.ListComp elt [⟨t1, i1, [], 0⟩, ⟨t2, i2, [], 0⟩] scope pos) 0 it acc env)) := by
  unfold compTurn
  simp [-bind_pure_comp]
  congr 1
theorem compTurn_2b (elt t1 i1 t2 i2 : Expr) (scope : Scope) (pos : Pos) (it acc : Value) (env : Env) :
    compTurn (.ListComp elt [⟨t1, i1, [], 0⟩, ⟨t2, i2, [], 0⟩] scope pos) 1 it acc env = (standAt i2.pos >>= fun _ => pyNext it >>= fun r => match r with
      | none => pure (.done .next)
      | some v => letOwnedTupleGo t2 it v >>= fun _ => assign t2 env v >>= fun _ => eval elt env >>= fun x => call (.builtin "list.append") [acc, x] >>= fun _ =>
          again (.compLoop (.ListComp elt [⟨t1, i1, [], 0⟩, ⟨t2, i2, [], 0⟩] scope pos) 1 it acc env)) := by
  unfold compTurn
  simp [-bind_pure_comp]
  congr 1

section
variable {prog : Program} {w : World} {A : Around} {s : Shared} {cenv : Env} {R : Result → Shared → Prop}

theorem codeAny_compStart_2 {elt t1 i1 t2 i2 scope pos it acc env}
    (h0 : codeAny (model prog w) A (.compLoop (.ListComp elt [⟨t1, i1, [], 0⟩, ⟨t2, i2, [], 0⟩] scope pos) 1 it acc env) R s)
    (h : wpAny (model prog w) A (pyIter it) (fun it' s' => codeAny (model prog w) A (.compLoop (.ListComp elt [⟨t1, i1, [], 0⟩, ⟨t2, i2, [], 0⟩] scope pos) 1 it' acc env) R s')
      (notedBy (model prog w) A env fun x s' => R (.error x) s') s) :
    codeAny (model prog w) A (.compStart (.ListComp elt [⟨t1, i1, [], 0⟩, ⟨t2, i2, [], 0⟩] scope pos) 1 it acc env) R s := by
  refine codeAny_of_tree ?_
  show wpAny _ _ ((compStart (.ListComp elt [⟨t1, i1, [], 0⟩, ⟨t2, i2, [], 0⟩] scope pos) 1 it acc env).onRaise (fun x => do noteFrame x env; standAt theWindowsPlace)) _ _ s
  refine wpAny_notedAt ?_
  unfold compStart
  show wpAny _ _ (ask >>= _) _ _ s
  refine wpAny_bind (wpAny_askSetting (wpAny_ite ?_))
  split
  · first
      | exact wpAny_bind (wpAny_pure (wpAny_pure (And.intro rfl h0)))
      | exact wpAny_pure (And.intro rfl h0)
  · first
      | exact wpAny_bind (wpAny_rule (wpAny_bind (wpAny_standAt (wpAny_bind (wpAny_mono h (fun it' s' h' => wpAny_pure (And.intro rfl h')) fun _ _ x => x)))))
      | (refine wpAny_bind (wpAny_rule ?_); show wpAny _ _ (standAt i2.pos >>= _) _ _ s; exact wpAny_bind (wpAny_standAt (wpAny_bind (wpAny_mono h (fun it' s' h' => wpAny_pure (And.intro rfl h')) fun _ _ x => x))))

/-- the inner loop: each number of a list is appended -/
theorem compLoop_in {t1 i1 i2 : Expr} {y : Str} {py pe : Pos} {scope : Scope} {pos : Pos} {I S D : Addr} {ws ys : List Value} {m : Str → Option Value} (hh : A.handled = none)
    (hk : cenv.scope.kind = .function) (hy : cenv.kindOf y = some .local) (hd : (y == ("__debug__" : Str)) = false)
    (hp : (cenv.scope.kind == .class || (cenv.scope.kind == .module && cenv.locals != cenv.globals)) = false)
    (hDC : D ≠ cenv.locals) (hIC : I ≠ cenv.locals) (hDI : D ≠ I) (hSI : S ≠ I) (hSD : S ≠ D) (hSC : S ≠ cenv.locals)
    (hit : s.heap.IsListIter I S 0) (hl : s.heap.IsList S ws.toArray) (hacc : s.heap.PlainList D ys.toArray) (hn : s.heap.Ns cenv.locals m) (hsz : ys.length + ws.length ≤ sizeLine)
    (hR : ∀ h' tk m', h'.Ns cenv.locals m' → h'.PlainList D (ys ++ ws).toArray → (∀ b o, b ≠ cenv.locals → b ≠ D → b ≠ I → s.heap.get? b = some o → h'.get? b = some o) → R (.ok .next) { s with heap := h', toks := tk }) :
    codeAny (model prog w) A (.compLoop (.ListComp (.Name y pe) [⟨t1, i1, [], 0⟩, ⟨.Name y py, i2, [], 0⟩] scope pos) 1 (.ref I) (.ref D) cenv) R s := by
  refine codeAny_loop rfl (fun k s' => ∃ i h' tk m', s' = { s with heap := h', toks := tk } ∧ h'.IsListIter I S i ∧ h'.IsList S ws.toArray ∧ h'.PlainList D (ys ++ ws.take i).toArray ∧ h'.Ns cenv.locals m' ∧ i ≤ ws.length ∧ k = ws.length + 1 - i ∧
    (∀ b o, b ≠ cenv.locals → b ≠ D → b ≠ I → s.heap.get? b = some o → h'.get? b = some o)) (fun k s' hI => ?_) (ws.length + 1) ⟨0, s.heap, s.toks, m, rfl, hit, hl, by simpa using hacc, hn, Nat.zero_le _, rfl, fun _ _ _ _ _ e => e⟩
  obtain ⟨i, H, tk, m', rfl, hit', hl', hacc', hn', hi, rfl, hk'⟩ := hI
  show wpAny _ _ ((compTurn (.ListComp (.Name y pe) [⟨t1, i1, [], 0⟩, ⟨.Name y py, i2, [], 0⟩] scope pos) 1 (.ref I) (.ref D) cenv).onRaise (fun x => do noteFrame x cenv; theTreesLotGoes x)) _ _ _
  refine wpAny_noted ?_
  rw [compTurn_2b]
  refine wpAny_bind (wpAny_standAt (wpAny_bind ?_))
  by_cases hlt : i < ws.length
  · refine wpAny_pyNext_list_item hit' hl' (x := ws[i]) (by simp [hlt]) fun h₁ hit₁ hs₁ => ?_
    refine wpAny_bind (wpAny_of_eq (a := ()) rfl (wpAny_bind (wpAny_assign_Name (wpAny_storeName_local hy (hn'.sameBut hs₁ (Ne.symm hIC)) (fun h₂ hn₂ hs₂ => ?_) hp))))
    refine wpAny_bind (wpAny_Name (wpAny_loadName_local hk hy hn₂ (if_pos rfl) (wpAny_bind ?_)) hd)
    have hacc₂ : h₂.PlainList D (ys ++ ws.take i).toArray := hacc'.at fun o e => hs₂.extBut _ o hDC (hs₁.extBut _ o hDI e)
    refine wpAny_list_append_plain (hsz := by simp only [List.size_toArray, List.length_append, List.length_take]; omega) hacc₂ fun h₃ hl₃ hs₃ => wpAny_pure ?_
    refine ⟨rfl, ws.length + 1 - (i + 1), by omega, i + 1, h₃, _, _, rfl, ?_, ?_, ?_, hn₂.sameBut hs₃ (Ne.symm hDC), hlt, rfl, fun b o h1 h2 h3 e => hs₃.extBut b o h2 (hs₂.extBut b o h1 (hs₁.extBut b o h3 (hk' b o h1 h2 h3 e)))⟩
    · exact ((hit₁.extBut hs₂.extBut hIC).extBut hs₃.extBut (Ne.symm hDI))
    · exact ((hl'.extBut hs₁.extBut hSI).extBut hs₂.extBut hSC).extBut hs₃.extBut hSD
    · have e : ys ++ ws.take (i + 1) = (ys ++ ws.take i) ++ [ws[i]] := by rw [List.append_assoc, List.take_add_one, List.getElem?_eq_getElem hlt]; rfl
      rw [e]
      simpa using hl₃
  · have hin : i = ws.length := by omega
    subst hin
    refine wpAny_pyNext_list_end hh hit' hl' (by simp) fun h₁ he₁ => wpAny_pure ?_
    rw [List.take_length] at hacc'
    exact hR h₁ tk m' (hn'.at' fun o e => he₁ _ o (Ne.symm hIC) e) (hacc'.at fun o e => he₁ _ o hDI e) fun b o h1 h2 h3 e => he₁ b o h3 (hk' b o h1 h2 h3 e)

/-- the outer loop: a list of rows, of each row a fresh list, of that list each number -/
theorem compLoop_out {i1 i2 : Expr} {x y : Str} {px py pe : Pos} {scope : Scope} {pos : Pos} {I T D : Addr} {tv : List Value} {m : Str → Option Value} {N : Nat} (f : Nat → List Int) (hh : A.handled = none)
    (hk : cenv.scope.kind = .function) (hx : cenv.kindOf x = some .local) (hy : cenv.kindOf y = some .local) (hd : (y == ("__debug__" : Str)) = false)
    (hp : (cenv.scope.kind == .class || (cenv.scope.kind == .module && cenv.locals != cenv.globals)) = false)
    (hDC : D ≠ cenv.locals) (hIC : I ≠ cenv.locals) (hDI : D ≠ I) (hTI : T ≠ I) (hTD : T ≠ D) (hTC : T ≠ cenv.locals)
    (hit : s.heap.IsListIter I T 0) (hl : s.heap.IsList T tv.toArray) (hacc : s.heap.PlainList D #[]) (hn : s.heap.Ns cenv.locals m) (hN : ∀ i, (f i).length ≤ N) (hsz : tv.length * N ≤ sizeLine)
    (hfold : ∀ x, foldedSetIterable i2 cenv x = pure x)
    (helt : ∀ i v h tk m₂, tv[i]? = some v → h.Ns cenv.locals m₂ → m₂ x = some v → (∀ b o, b ≠ cenv.locals → b ≠ D → b ≠ I → s.heap.get? b = some o → h.get? b = some o) →
      wpAny (model prog w) A (eval i2 cenv) (fun z s₄ => ∃ h' tk' a xs, s₄ = { s with heap := h', toks := tk' } ∧ (∀ b o, h.get? b = some o → h'.get? b = some o) ∧ z = .ref a ∧ h.get? a = none ∧ h'.IsList a (List.toArray xs) ∧ IntsAre xs (f i)) (fun _ _ => False) { s with heap := h, toks := tk })
    (hR : ∀ h' tk m' vs, h'.Ns cenv.locals m' → h'.PlainList D (List.toArray vs) → IntsAre vs ((List.range tv.length).flatMap f) → (∀ b o, b ≠ cenv.locals → b ≠ D → b ≠ I → s.heap.get? b = some o → h'.get? b = some o) → R (.ok .next) { s with heap := h', toks := tk }) :
    codeAny (model prog w) A (.compLoop (.ListComp (.Name y pe) [⟨.Name x px, i1, [], 0⟩, ⟨.Name y py, i2, [], 0⟩] scope pos) 0 (.ref I) (.ref D) cenv) R s := by
  have hfl : ∀ i, ((List.range i).flatMap f).length ≤ i * N := by
    intro i
    induction i with
    | zero => simp
    | succ i ih =>
      rw [List.range_succ, List.flatMap_append, List.length_append, Nat.succ_mul]
      have := hN i
      have e : ([i].flatMap f) = f i := by simp
      rw [e]; omega
  refine codeAny_loop rfl (fun k s' => ∃ i h' tk m' vs, s' = { s with heap := h', toks := tk } ∧ h'.IsListIter I T i ∧ h'.IsList T tv.toArray ∧ h'.PlainList D (List.toArray vs) ∧ IntsAre vs ((List.range i).flatMap f) ∧ h'.Ns cenv.locals m' ∧ i ≤ tv.length ∧ k = tv.length + 1 - i ∧
    (∀ b o, b ≠ cenv.locals → b ≠ D → b ≠ I → s.heap.get? b = some o → h'.get? b = some o)) (fun k s' hI => ?_) (tv.length + 1) ⟨0, s.heap, s.toks, m, [], rfl, hit, hl, hacc, .nil, hn, Nat.zero_le _, rfl, fun _ _ _ _ _ e => e⟩
  obtain ⟨i, H, tk, m', vs, rfl, hit', hl', hacc', hvs, hn', hi, rfl, hk'⟩ := hI
  show wpAny _ _ ((compTurn (.ListComp (.Name y pe) [⟨.Name x px, i1, [], 0⟩, ⟨.Name y py, i2, [], 0⟩] scope pos) 0 (.ref I) (.ref D) cenv).onRaise (fun x => do noteFrame x cenv; theTreesLotGoes x)) _ _ _
  refine wpAny_noted ?_
  rw [compTurn_2a]
  refine wpAny_bind (wpAny_standAt (wpAny_bind ?_))
  by_cases hlt : i < tv.length
  · refine wpAny_pyNext_list_item hit' hl' (x := tv[i]) (by simp [hlt]) fun h₁ hit₁ hs₁ => ?_
    refine wpAny_bind (wpAny_of_eq (a := ()) rfl (wpAny_bind (wpAny_assign_Name (wpAny_storeName_local hx (hn'.sameBut hs₁ (Ne.symm hIC)) (fun h₂ hn₂ hs₂ => ?_) hp))))
    have up₂ : ∀ b o, b ≠ cenv.locals → b ≠ D → b ≠ I → s.heap.get? b = some o → h₂.get? b = some o := fun b o h1 h2 h3 e => hs₂.extBut b o h1 (hs₁.extBut b o h3 (hk' b o h1 h2 h3 e))
    refine wpAny_bind (wpAny_mono (helt i tv[i] h₂ _ _ (List.getElem?_eq_getElem hlt) hn₂ (if_pos rfl) up₂) (fun z s₄ h₄ => ?_) fun _ _ e => e.elim)
    obtain ⟨h₃, tk₃, S, ws, rfl, hk₃, rfl, hS, hlS, hiS⟩ := h₄
    refine wpAny_bind (wpAny_standAt (wpAny_bind ?_))
    rw [hfold]
    refine wpAny_pure (wpAny_bind (wpAny_holding (wpAny_pyIter_list hlS ?_)))
    dsimp only
    generalize hH : h₃.push { cls := .type "list_iterator", data := .fields #[.ref S, .int 0 0] } = H₄
    have up₄ : ∀ b o, h₃.get? b = some o → H₄.get? b = some o := fun b o e => hH ▸ Heap.get?_push_of_some _ e
    have hI2 : H₄.IsListIter h₃.objs.size S 0 := hH ▸ ⟨_, Heap.get?_push_size _ rfl, rfl, rfl⟩
    have hD₂ : h₂.PlainList D vs.toArray := hacc'.at fun o e => hs₂.extBut _ o hDC (hs₁.extBut _ o hDI e)
    have old : ∀ {b : Addr} {o : Obj}, h₂.get? b = some o → b ≠ h₃.objs.size := fun e => Nat.ne_of_lt (Heap.lt_size (hk₃ _ _ e))
    have hC2 : h₃.objs.size ≠ cenv.locals := Nat.ne_of_gt (hn₂.keeps hk₃).lt
    have hD2 : D ≠ h₃.objs.size := by obtain ⟨_, e⟩ := hD₂; exact old e
    have hSlt : S ≠ h₃.objs.size := by obtain ⟨_, e, _⟩ := hlS; exact Nat.ne_of_lt (Heap.lt_size e)
    have hSC : S ≠ cenv.locals := fun q => by obtain ⟨o, _, _, e, _⟩ := hn₂; rw [← q, hS] at e; cases e
    have hSD : S ≠ D := fun q => by obtain ⟨_, e⟩ := hD₂; rw [← q, hS] at e; cases e
    have hIlt : I ≠ h₃.objs.size := by obtain ⟨_, e, _⟩ := hit₁; exact old (hs₂.extBut _ _ hIC e)
    have hTlt : T ≠ h₃.objs.size := by obtain ⟨_, e, _⟩ := hl'; exact old (hs₂.extBut _ _ hTC (hs₁.extBut _ _ hTI e))
    have key : ∀ (A' : Around) (_ : A'.handled = none) (R' : Result → Shared → Prop), (∀ h' tk' m', h'.Ns cenv.locals m' → h'.PlainList D (vs ++ ws).toArray → (∀ b o, b ≠ cenv.locals → b ≠ D → b ≠ h₃.objs.size → H₄.get? b = some o → h'.get? b = some o) → R' (.ok .next) { s with heap := h', toks := tk' }) →
        codeAny (model prog w) A' (.compLoop (.ListComp (.Name y pe) [⟨.Name x px, i1, [], 0⟩, ⟨.Name y py, i2, [], 0⟩] scope pos) 1 (.ref h₃.objs.size) (.ref D) cenv) R' { s with heap := H₄, toks := tk₃ } := fun A' hh' R' hR' =>
      compLoop_in (ys := vs) (ws := ws) (S := S) hh' hk hy hd hp hDC hC2 hD2 hSlt hSD hSC hI2 (hlS.at fun o e => up₄ _ o e) (hD₂.at fun o e => up₄ _ o (hk₃ _ o e)) ((hn₂.keeps hk₃).keeps up₄)
        (by
          have a1 := hvs.length
          have a2 := hiS.length
          have a3 := hfl i
          have a4 := hN i
          have a5 : (i + 1) * N ≤ tv.length * N := Nat.mul_le_mul_right N hlt
          rw [Nat.succ_mul] at a5
          omega) hR'
    refine wpAny_bind (wpAny_runOwn ?_)
    refine codeAny_compStart_2 (key _ hh _ ?_) (wpAny_pyIter_listiter hI2 (key _ hh _ ?_))
    all_goals (
    intro h₅ tk₅ m₅ hn₅ hP₅ hk₅
    refine wpAny_pure ⟨rfl, tv.length + 1 - (i + 1), by omega, i + 1, h₅, tk₅, m₅, vs ++ ws, rfl, ?_, ?_, hP₅, ?_, hn₅, hlt, rfl, fun b o h1 h2 h3 e => ?_⟩
    · exact ((hit₁.extBut hs₂.extBut hIC).at fun o e => hk₃ _ o e).at fun o e => hk₅ _ o hIC (Ne.symm hDI) hIlt (up₄ _ o e)
    · exact (((hl'.extBut hs₁.extBut hTI).extBut hs₂.extBut hTC).at fun o e => hk₃ _ o e).at fun o e => hk₅ _ o hTC hTD hTlt (up₄ _ o e)
    · rw [List.range_succ, List.flatMap_append]
      have e : ([i].flatMap f) = f i := by simp
      rw [e]
      exact hvs.append hiS
    · have e₂ := up₂ b o h1 h2 h3 e
      exact hk₅ b o h1 h2 (old e₂) (up₄ b o (hk₃ b o e₂)))
  · have hin : i = tv.length := by omega
    subst hin
    refine wpAny_pyNext_list_end hh hit' hl' (by simp) fun h₁ he₁ => wpAny_pure ?_
    exact hR h₁ tk m' vs (hn'.at' fun o e => he₁ _ o (Ne.symm hIC) e) (hacc'.at fun o e => he₁ _ o hDI e) hvs fun b o h1 h2 h3 e => he₁ b o h3 (hk' b o h1 h2 h3 e)
end
end Mine
end

section
open PySem PySem.W PySem.Calls PyProof.Rows
set_option Elab.async false
set_option maxRecDepth 100000
namespace Mine

def innerNames : List (Str × NameKind) := [(".0", .local), ("line", .local), ("octet", .local), ("unit", .free), ("x", .free)]
/-- the octets of the pixel in place x -/
def pixel (x u : Nat) (row : List Int) : List Int := pickNums row (some ((x : Int) * u)) (some (((x : Int) + 1) * u)) none

section
variable {prog : Program} {w : World} {A : Around} {h : Heap} {gens : Array GenState} {dr : Drawn} {tk : Nat} {os : OsState} {E1 : Env}

theorem comp_inner {E : Value → Shared → Prop} {nm : Str} {sc : Scope} {cl : List (Str × Addr)} {T cT cx cu : Addr} {x u : Nat} {tx tu : Tok} {tv : List Value} {rows : List (List Int)} {X : List Addr} {k1 : Nat} {p1 p2 p3 p4 p5 p6 p7 p8 p9 p10 p11 p12 p13 p14 p15 p16 : Pos} {Q : Value → Shared → Prop}
    (hh : A.handled = none) (hk1 : E1.scope.kind = .function) (hnm : E1.kindOf nm = some .cell) (hdn : (nm == ("__debug__" : Str)) = false) (hlk : E1.cells.lookup nm = some cT) (hcT : h.IsCell cT (some (.ref T)))
    (hsk : sc.kind = .function) (hsn : sc.names = innerNames) (hclos : closureFor sc E1 = pure cl) (hkx : E1.kindOf "x" = some .cell) (hku : E1.kindOf "unit" = some .cell) (hlx : cl.lookup (Str.ofString "x") = some cx) (hlu : cl.lookup (Str.ofString "unit") = some cu)
    (hcx : h.IsCell cx (some (.int x tx))) (hcu : h.IsCell cu (some (.int u tu))) (hxb : x ≤ 16) (hub : u ≤ 16)
    (hl : h.IsList T tv.toArray) (hr : RowsAre h X tv rows) (hz : ∀ r ∈ rows, r.length ≤ 64) (hn : rows.length ≤ 64)
    (hQ : ∀ D h' tk' vs, h.get? D = none → (∀ b o, h.get? b = some o → h'.get? b = some o) → h'.IsList D (List.toArray vs) → IntsAre vs (rows.flatMap (pixel x u)) → Q (.ref D) ⟨h', gens, dr, tk', os⟩) :
    wpAny (model prog w) A (eval (.ListComp (.Name "octet" p1) [⟨.Name "line" p2, .Name nm p3, [], 0⟩, ⟨.Name "octet" p4, .Subscript (.Name "line" p5) (.Slice (some (.BinOp (.Name "x" p6) .Mult (.Name "unit" p7) p8)) (some (.BinOp (.BinOp (.Name "x" p9) .Add (.Constant (.int 1) k1 p10) p11) .Mult (.Name "unit" p12) p13)) none p14) p15, [], 0⟩] sc p16) E1) Q E ⟨h, gens, dr, tk, os⟩ := by
  have hcell : ∀ y ∈ sc.names, y.2 ≠ .cell := by rw [hsn]; decide
  have hrl := hr.length
  rw [eval_ListComp]
  refine wpAny_comprehension_free (use := none) rfl (fun _ => rfl) hclos hsk (by rw [hsn]; decide) ?_
  refine wpAny_Name (wpAny_loadName_cell hk1 hnm hlk hcT (wpAny_pyIter_list hl ?_)) hdn
  dsimp only
  generalize hH : h.push { cls := .type "list_iterator", data := .fields #[.ref T, .int 0 0] } = H
  have up : ∀ b o, h.get? b = some o → H.get? b = some o := fun b o e => hH ▸ Heap.get?_push_of_some _ e
  have hit : H.IsListIter h.objs.size T 0 := hH ▸ ⟨_, Heap.get?_push_size _ rfl, rfl, rfl⟩
  have hTlt : T < h.objs.size := by obtain ⟨_, e, _⟩ := hl; exact Heap.lt_size e
  have hHs : H.objs.size = h.objs.size + 1 := by rw [← hH, Heap.size_push]
  refine wpAny_newObj_type (wpAny_newFunctionEnv hcell (by intro y hy; simp at hy) (fun h₁ hns₁ hsb₁ => ?_) hsk)
  dsimp only at hns₁ hsb₁ ⊢
  generalize hH2 : H.push { cls := .type "list", dict := none, data := .seq ([] : List Value).toArray } = H2 at hns₁ hsb₁ ⊢
  have hC : H2.objs.size = H.objs.size + 1 := by rw [← hH2, Heap.size_push]
  have old : ∀ b o, H.get? b = some o → h₁.get? b = some o := fun b o e => hsb₁.extBut b o (by rw [hC]; exact Nat.ne_of_lt (Nat.lt_succ_of_lt (Heap.lt_size e))) (Heap.get?_push_of_some _ (hH2 ▸ Heap.get?_push_of_some _ e))
  have hDC : H.objs.size ≠ H2.objs.size := by rw [hC]; exact Nat.ne_of_lt (Nat.lt_succ_self _)
  have hacc : h₁.PlainList H.objs.size #[] := ⟨_, hsb₁.extBut _ _ hDC (Heap.get?_push_of_some _ (hH2 ▸ Heap.get?_push_size _ rfl))⟩
  have hIC : h.objs.size ≠ H2.objs.size := by rw [hC, hHs]; exact Nat.ne_of_lt (Nat.lt_succ_of_lt (Nat.lt_succ_self _))
  have hDI : H.objs.size ≠ h.objs.size := by rw [hHs]; exact Nat.ne_of_gt (Nat.lt_succ_self _)
  have hTD : T ≠ H.objs.size := by rw [hHs]; exact Nat.ne_of_lt (Nat.lt_succ_of_lt hTlt)
  have hTC : T ≠ H2.objs.size := by rw [hC, hHs]; exact Nat.ne_of_lt (Nat.lt_succ_of_lt (Nat.lt_succ_of_lt hTlt))
  have below : ∀ b o, h.get? b = some o → b ≠ H2.objs.size ∧ b ≠ H.objs.size ∧ b ≠ h.objs.size := fun b o e => by
    have := Heap.lt_size e
    rw [hC, hHs]
    exact ⟨Nat.ne_of_lt (Nat.lt_succ_of_lt (Nat.lt_succ_of_lt this)), Nat.ne_of_lt (Nat.lt_succ_of_lt this), Nat.ne_of_lt this⟩
  have up₁ : ∀ b o, h.get? b = some o → h₁.get? b = some o := fun b o e => old b o (up b o e)
  have hke : (compEnvC sc cl H2.objs.size E1).scope.kind = .function := hsk
  have hff : (E1.scope.kind == .function) = true := by rw [hk1]; rfl
  have j1 : (compEnvC sc cl H2.objs.size E1).kindOf "line" = some .local := lookup_relabel_local (by rw [hsn]; rfl)
  have j2 : (compEnvC sc cl H2.objs.size E1).kindOf "octet" = some .local := lookup_relabel_local (by rw [hsn]; rfl)
  have j3 : (compEnvC sc cl H2.objs.size E1).kindOf "x" = some .cell := by
    show (List.map _ sc.names).lookup _ = _
    rw [hsn]
    simp only [innerNames, List.map_cons, List.map_nil, hff, hkx, hku]
    rfl
  have j4 : (compEnvC sc cl H2.objs.size E1).kindOf "unit" = some .cell := by
    show (List.map _ sc.names).lookup _ = _
    rw [hsn]
    simp only [innerNames, List.map_cons, List.map_nil, hff, hkx, hku]
    rfl
  have pl : ∀ r ∈ rows, (pixel x u r).length ≤ 64 := fun r hr' => Nat.le_trans (length_pickNums_le (ints_of r) _ _ _) (hz r hr')
  have eE : (List.range tv.length).flatMap (fun i => pixel x u (rows.getD i [])) = rows.flatMap (pixel x u) := by
    have e0 : ∀ l : List (List Int), (List.range l.length).flatMap (fun i => pixel x u (l.getD i [])) = l.flatMap (pixel x u) := by
      intro l
      rw [List.flatMap_def, List.flatMap_def]
      congr 1
      apply List.ext_getElem (by simp)
      intro i h1 h2
      simp at h1 h2 ⊢
      rw [List.getElem?_eq_getElem h2]
      rfl
    rw [hrl]; exact e0 rows
  have loop : ∀ s₃ : Shared, s₃ = { heap := h₁, gens := gens, drawn := dr, toks := tk + ([] : List (Str × Value)).length, os := os } →
      codeAny (model prog w) A (.compLoop (.ListComp (.Name "octet" p1) [⟨.Name "line" p2, .Name nm p3, [], 0⟩, ⟨.Name "octet" p4, .Subscript (.Name "line" p5) (.Slice (some (.BinOp (.Name "x" p6) .Mult (.Name "unit" p7) p8)) (some (.BinOp (.BinOp (.Name "x" p9) .Add (.Constant (.int 1) k1 p10) p11) .Mult (.Name "unit" p12) p13)) none p14) p15, [], 0⟩] sc p16) 0 (.ref h.objs.size) (.ref H.objs.size) (compEnvC sc cl H2.objs.size E1))
        (compPost (model prog w) A E none Q (.ref H.objs.size) H2.objs.size) s₃ := by
    rintro s₃ rfl
    refine compLoop_out (cenv := compEnvC sc cl H2.objs.size E1) (T := T) (tv := tv) (N := 64) (fun i => if i < rows.length then pixel x u (rows.getD i []) else []) hh hke j1 j2 (by decide) (by simp [compEnvC, relabel, hsk]) hDC hIC hDI (Nat.ne_of_lt hTlt) hTD hTC ((hit.at fun o e => old _ o e)) (hl.at fun o e => up₁ _ o e) hacc hns₁ ?_ ?_ (fun _ => rfl) ?_ ?_
    · intro i
      split
      · rename_i hi
        rw [List.getD_eq_getElem?_getD, List.getElem?_eq_getElem hi]
        exact pl _ (List.getElem_mem hi)
      · simp
    · rw [hrl]; simp only [sizeLine]; omega
    · intro i v h₂ tk₂ m₂ hv hn₂ hm₂ hk₂
      obtain ⟨la, xs, row, rfl, hrow, _, hla, hia⟩ := hr.get hv
      have hi : i < rows.length := (List.getElem?_eq_some_iff.mp hrow).1
      have up₂ : ∀ b o, h.get? b = some o → h₂.get? b = some o := fun b o e => let ⟨q1, q2, q3⟩ := below b o e; hk₂ b o q1 q2 q3 (up₁ b o e)
      have cx₂ := hcx.keeps up₂
      have cu₂ := hcu.keeps up₂
      refine Subscript_ (wpAny_Name (wpAny_loadName_local hke j1 hn₂ hm₂ ?_) (by decide))
      refine Slice_ (part_some (wpAny_BinOp (wpAny_Name (wpAny_loadName_cell hke j3 hlx cx₂ (wpAny_Name (wpAny_loadName_cell hke j4 hlu cu₂ ?_) (by decide))) (by decide))))
      refine mul_int (hm := .of_left (intBits_le_64 (by omega) (by omega))) ?_
      refine part_some (wpAny_BinOp (wpAny_BinOp (wpAny_Name (wpAny_loadName_cell hke j3 hlx cx₂ (wpAny_Constant_int (add_int ?_))) (by decide))))
      refine wpAny_Name (wpAny_loadName_cell hke j4 hlu cu₂ ?_) (by decide)
      refine mul_int (hm := .of_left (intBits_le_64 (by omega) (by omega))) ?_
      refine part_none ?_
      dsimp only
      refine sub_slice (s := ⟨_, gens, dr, _, os⟩) ((hla.at fun o e => up₂ _ o e).at fun o e => Heap.get?_push_of_some _ e) hia (Heap.IsSliceOf.new ..) (.int _ _) (.int _ _) .none (by simp) (by have := hz row (List.mem_of_getElem? hrow); simp only [sizeLine]; omega) fun h₃ ws hk₃ hl₃ hi₃ hs₃ => ?_
      dsimp only at hk₃ hl₃ hs₃ ⊢
      refine ⟨h₃, _, _, ws, rfl, fun b o e => hk₃ b o (Heap.get?_push_of_some _ e), rfl, get_above (by rw [Heap.size_push]; exact Nat.le_succ _), hl₃, ?_⟩
      rw [if_pos hi, List.getD_eq_getElem?_getD, hrow]
      exact hi₃
    · intro h' tk' m' vs hn' hP' hi' hk'
      refine ⟨m', hn', fun h'' hs'' => ?_⟩
      refine hQ H.objs.size h'' tk' vs (get_above (by rw [hHs]; exact Nat.le_succ _)) (fun b o e => let ⟨q1, q2, q3⟩ := below b o e; hs''.extBut b o q1 (hk' b o q1 q2 q3 (up₁ b o e))) (hP'.isList.extBut hs''.extBut hDC) ?_
      rw [← eE]
      have e1 : (List.range tv.length).flatMap (fun i => if i < rows.length then pixel x u (rows.getD i []) else []) = (List.range tv.length).flatMap (fun i => pixel x u (rows.getD i [])) := by
        rw [List.flatMap_def, List.flatMap_def]
        congr 1
        refine List.map_congr_left fun i hi => ?_
        rw [if_pos (by rw [← hrl]; exact List.mem_range.mp hi)]
      rw [← e1]
      exact hi'
  exact codeAny_compStart_list (loop _ rfl) (wpAny_pyIter_listiter (hit.at fun o e => old _ o e) (loop _ rfl))
end
end Mine
end

section
open PySem PySem.W PySem.Calls PyProof.Rows
set_option Elab.async false
set_option maxRecDepth 100000
namespace Mine

section
variable {prog : Program} {w : World} {A : Around} {s : Shared} {cenv : Env}

theorem compLoop_X {R : Result → Shared → Prop} {elt iter : Expr} {x : Str} {px : Pos} {scope : Scope} {pos : Pos} {I D cx : Addr} {n : Nat} {P : Nat → Value → Prop} {St : Nat → Heap → Prop} {v₀ : Option Value}
    (W : Walks prog w A I [I] [I] n P St) (f : Nat → List Int) (hk : cenv.scope.kind = .function) (hx : cenv.kindOf x = some .cell) (hcx : cenv.cells.lookup x = some cx)
    (hDI : D ≠ I) (hxI : cx ≠ I) (hxD : cx ≠ D)
    (hst : St 0 s.heap) (hacc : s.heap.PlainList D #[]) (hc : s.heap.IsCell cx v₀) (hsz : n ≤ sizeLine)
    (helt : ∀ i v h tk, i < n → P i v → h.IsCell cx (some v) → (∀ b o, b ≠ cx → b ≠ I → b ≠ D → s.heap.get? b = some o → h.get? b = some o) → St (i + 1) h →
      wpAny (model prog w) A (eval elt cenv) (fun y s₄ => ∃ h' tk' a xs, s₄ = { s with heap := h', toks := tk' } ∧ (∀ b o, h.get? b = some o → h'.get? b = some o) ∧ y = .ref a ∧ h.get? a = none ∧ h'.IsList a (List.toArray xs) ∧ IntsAre xs (f i)) (fun _ _ => False) { s with heap := h, toks := tk })
    (hI : ∀ i h, St i h → ∃ o, h.get? I = some o)
    (hR : ∀ h' tk vs, h'.IsList D (List.toArray vs) → RowsAre h' [D] vs ((List.range n).map f) → (∀ b o, b ≠ cx → b ≠ I → b ≠ D → s.heap.get? b = some o → h'.get? b = some o) → R (.ok .next) { s with heap := h', toks := tk }) :
    codeAny (model prog w) A (.compLoop (.ListComp elt [⟨.Name x px, iter, [], 0⟩] scope pos) 0 (.ref I) (.ref D) cenv) R s := by
  refine codeAny_compLoop_list
    (fun k s' => ∃ h' tk i, ∃ vs : List Value, ∃ v, s' = { s with heap := h', toks := tk } ∧ St i h' ∧ h'.PlainList D vs.toArray ∧ h'.IsCell cx v ∧
      RowsAre h' [D, cx, I] vs ((List.range i).map f) ∧ i ≤ n ∧ k = n + 1 - i ∧
      (∀ b o, b ≠ cx → b ≠ I → b ≠ D → s.heap.get? b = some o → h'.get? b = some o)) ?_ (n + 1)
    ⟨s.heap, s.toks, 0, [], v₀, rfl, hst, hacc, hc, .nil, Nat.zero_le _, rfl, fun _ _ _ _ _ e => e⟩
  rintro k s' ⟨H, tk, i, vs, v, rfl, hst', hacc', hc', hRr, hi, rfl, hk'⟩
  by_cases hlt : i < n
  · refine W.item i _ _ _ hlt hst' fun v h₁ tk₁ hPv hst₁ hk₁ => ?_
    have k₁ : ∀ b o, b ≠ I → H.get? b = some o → h₁.get? b = some o := fun b o hb e => hk₁ b o (by simpa using hb) e
    refine wpAny_assign_Name (wpAny_storeName_cell (v₀ := _) hk hx hcx (let ⟨o, ho, hd⟩ := hc'; ⟨o, k₁ _ _ hxI ho, hd⟩) fun h₂ hc₂ hs₂ => ?_)
    have up₂ : ∀ b o, b ≠ cx → b ≠ I → H.get? b = some o → h₂.get? b = some o := fun b o h1 h2 e => hs₂.extBut b o h1 (k₁ b o h2 e)
    have hst₂ : St (i + 1) h₂ := W.frame _ _ _ hst₁ fun b hb o e => hs₂.extBut b o (fun q => by rw [List.mem_singleton.mp hb] at q; exact hxI q.symm) e
    have hacc₂ : h₂.PlainList D vs.toArray := hacc'.at fun o e => up₂ D o (Ne.symm hxD) hDI e
    refine wpAny_mono (helt i v h₂ _ hlt hPv hc₂ (fun b o h1 h2 h3 e => up₂ b o h1 h2 (hk' b o h1 h2 h3 e)) hst₂) (fun y s₄ h₄ => ?_) fun _ _ e => e.elim
    obtain ⟨h₄, tk₄, a, xs, rfl, hk₄, rfl, ha, hla, hia⟩ := h₄
    have hys : vs.toArray.size ≤ sizeLine := by
      have e1 := hRr.length
      simp only [List.length_map, List.length_range] at e1
      rw [List.size_toArray, e1]; omega
    have aD : a ≠ D := fun q => by obtain ⟨_, e⟩ := hacc₂; rw [← q, ha] at e; cases e
    have ax : a ≠ cx := fun q => by obtain ⟨_, e, _⟩ := hc₂; rw [← q, ha] at e; cases e
    have aI : a ≠ I := fun q => by obtain ⟨_, e⟩ := hI _ _ hst₂; rw [← q, ha] at e; cases e
    refine wpAny_list_append_plain (hsz := hys) (hacc₂.at fun o e => hk₄ _ o e) fun h₅ hl₅ hs₅ => ?_
    refine ⟨n + 1 - (i + 1), by omega, h₅, tk₄, i + 1, vs ++ [.ref a], some v, rfl, ?_, ?_, ?_, ?_, hlt, rfl, fun b o h1 h2 h3 e => hs₅.extBut b o h3 (hk₄ b o (up₂ b o h1 h2 (hk' b o h1 h2 h3 e)))⟩
    · exact W.frame _ _ h₅ hst₂ fun b hb o e => hs₅.extBut b o (fun q => by rw [List.mem_singleton.mp hb] at q; exact hDI q.symm) (hk₄ b o e)
    · simpa using hl₅
    · obtain ⟨o, ho, hd⟩ := hc₂; exact ⟨o, hs₅.extBut _ _ hxD (hk₄ _ _ ho), hd⟩
    · rw [← range_snoc]
      refine RowsAre.snoc (by simp [aD, ax, aI]) (hla.at fun o e => hs₅.extBut _ _ aD e) hia (hRr.at fun b o hb e => ?_)
      simp only [List.mem_cons, not_or] at hb
      exact hs₅.extBut _ _ hb.1 (hk₄ _ _ (up₂ _ _ hb.2.1 hb.2.2.1 e))
  · have hin : i = n := by omega
    subst hin
    refine W.done _ _ _ hst' fun h₁ tk₁ hk₁ => ?_
    have k₁ : ∀ b o, b ≠ I → H.get? b = some o → h₁.get? b = some o := fun b o hb e => hk₁ b o (by simpa using hb) e
    refine hR h₁ tk₁ vs ((hacc'.at fun o e => k₁ _ o hDI e).isList) ((hRr.at fun b o hb e => ?_).sub fun b hb => by rw [List.mem_singleton.mp hb]; exact .head _) fun b o h1 h2 h3 e => k₁ b o h2 (hk' b o h1 h2 h3 e)
    simp only [List.mem_cons, not_or] at hb
    exact k₁ _ _ hb.2.2.1 e

def outerNames (nm : Str) : List (Str × NameKind) := [(".0", .local), ("x", .cell), (nm, .free), ("unit", .free)]

theorem newEnv_x {M : Model} {E : Value → Shared → Prop} {sc : Scope} {nm : Str} {globals : Addr} {cl : List (Str × Addr)} {qual : Str} {env : Env} {Q : Env → Shared → Prop} (hsn : sc.names = outerNames nm)
    (h : Q { scope := sc, locals := s.heap.objs.size, globals := globals, cells := (Str.ofString "x", s.heap.objs.size + 1) :: cl, qual := qual, func := none, code := env.code, frame := env.frame, builtins := env.builtins }
      { s with heap := (s.heap.push { cls := .type "dict", data := .dict #[] }).push { cls := .type "cell", data := .cell none } }) :
    wpAny M A (newFunctionEnv sc globals cl [] qual none .none (some env)) Q E s := by
  simp only [newFunctionEnv, Option.isSome_some, if_true]
  refine wpAny_bind (wpAny_alloc ?_)
  rw [hsn]
  simp [outerNames, -bind_pure_comp]
  refine wpAny_bind (wpAny_alloc (wpAny_pure ?_))
  dsimp only
  rw [Heap.size_push]
  exact h
end

section
variable {prog : Program} {w : World} {A : Around} {L fa : Addr} {cd : Value} {g h : Heap} {m cm : Str → Option Value} {lo : Nat} {gens : Array GenState} {dr : Drawn} {tk : Nat} {os : OsState}
abbrev lawE (L f : Addr) (cd : Value) : Env := envOfC dLaw.name dLaw.scope L f cd

theorem comp_outer {E : Value → Shared → Prop} {nm : Str} {sc1 sc2 : Scope} {T cT : Addr} {wd u : Nat} {tw tu : Tok} {tv : List Value} {rows : List (List Int)} {X : List Addr} {k1 : Nat} {p1 p2 p3 p4 p5 p6 p7 p8 p9 p10 p11 p12 p13 p14 p15 p16 p17 p18 p19 p20 p21 p22 : Pos} {use : Option (Value → Sem Unit)} {Q : Value → Shared → Prop}
    (hh : A.handled = none) (B : Base g) (K : LF g L (cellsFrom (L + 1) dLaw.scope.names []) lo h m cm)
    (hnm : (lawE L fa cd).kindOf nm = some .cell) (hdn : (nm == ("__debug__" : Str)) = false) (hlk : (cellsFrom (L + 1) dLaw.scope.names []).lookup nm = some cT) (hcT : cm nm = some (.ref T)) (hcu : cm "unit" = some (.int u tu)) (hmw : m "wide" = some (.int wd tw))
    (hsk1 : sc1.kind = .function) (hsn1 : sc1.names = outerNames nm) (hsk : sc2.kind = .function) (hsn : sc2.names = innerNames)
    (hclos1 : closureFor sc1 (lawE L fa cd) = pure [(Str.ofString "unit", L + 2), (nm, cT)]) (hE : ∀ C, (compEnvC sc1 [(Str.ofString "x", C + 1), (Str.ofString "unit", L + 2), (nm, cT)] C (lawE L fa cd)).kindOf nm = some .cell ∧ [(Str.ofString "x", C + 1), (Str.ofString "unit", L + 2), (nm, cT)].lookup nm = some cT ∧ (compEnvC sc1 [(Str.ofString "x", C + 1), (Str.ofString "unit", L + 2), (nm, cT)] C (lawE L fa cd)).kindOf "unit" = some .cell)
    (hu : u ≤ 4) (hwd : wd ≤ 4) (hl : h.IsList T tv.toArray) (hr : RowsAre h X tv rows) (hz : ∀ r ∈ rows, r.length ≤ 64) (hn : rows.length ≤ 64)
    (hQ : ∀ D C h' tk' m' vs, h.objs.size ≤ D → h.objs.size ≤ C → D ≠ C → (∀ b o, h.get? b = some o → h'.get? b = some o) → h'.Ns C m' → h'.IsList D (List.toArray vs) → RowsAre h' [D] vs ((List.range wd).map fun x => rows.flatMap (pixel x u)) →
      compPost (model prog w) A E use Q (.ref D) C (.ok .next) ⟨h', gens, dr, tk', os⟩) :
    wpAny (model prog w) A (comprehension (.ListComp (.ListComp (.Name "octet" p1) [⟨.Name "line" p2, .Name nm p3, [], 0⟩, ⟨.Name "octet" p4, .Subscript (.Name "line" p5) (.Slice (some (.BinOp (.Name "x" p6) .Mult (.Name "unit" p7) p8)) (some (.BinOp (.BinOp (.Name "x" p9) .Add (.Constant (.int 1) k1 p10) p11) .Mult (.Name "unit" p12) p13)) none p14) p15, [], 0⟩] sc2 p16)
      [⟨.Name "x" p17, .Call (.Name "range" p18) [.Name "wide" p19] [] p20, [], 0⟩] sc1 p21) sc1 (lawE L fa cd) p22 (newList []) false (eval (.Call (.Name "range" p18) [.Name "wide" p19] [] p20) (lawE L fa cd)) use) Q E ⟨h, gens, dr, tk, os⟩ := by
  refine wpAny_comprehension_free rfl (fun _ => rfl) hclos1 hsk1 (by rw [hsn1]; intro y hy hl'; simp only [outerNames, List.mem_cons, List.not_mem_nil, or_false] at hy; rcases hy with rfl | rfl | rfl | rfl <;> first | rfl | cases hl') ?_
  refine wpAny_Call_NameR (gl_range (s := ⟨h, gens, dr, _, os⟩) K.F B (callWith_type1 (args_cons (ldLoc (s := ⟨h, gens, dr, _, os⟩) K.F hmw (args_nil (call_range_1 ?_))))) rfl rfl)
  dsimp only
  refine range_it (n := wd) (IsRange.new ..) (by omega) (by omega) (by omega) fun h₁ hk₁ hit => ?_
  dsimp only at hk₁ hit ⊢
  have up₁ : ∀ b o, h.get? b = some o → h₁.get? b = some o := fun b o e => hk₁ b o (Heap.get?_push_of_some _ e)
  have hIge : ∀ ob : Obj, h.objs.size ≤ (h.push ob).objs.size := fun ob => by rw [Heap.size_push]; exact Nat.le_succ _
  have hIge := hIge { cls := .type "range", data := .fields #[.int 0 tk, .int wd tw, .int 1 (tk + 1)] }
  generalize (h.push _).objs.size = I at hit hIge ⊢
  have hIlt : I < h₁.objs.size := Heap.lt_size hit
  have hs1 : h.objs.size ≤ h₁.objs.size := Nat.le_of_lt (Nat.lt_of_le_of_lt hIge hIlt)
  refine wpAny_newObj_type (newEnv_x hsn1 ?_)
  dsimp only
  generalize hH2 : (((h₁.push { cls := .type "list", dict := none, data := .seq ([] : List Value).toArray }).push { cls := .type "dict", data := .dict #[] }).push { cls := .type "cell", data := .cell none }) = H2
  have hD : (h₁.push { cls := .type "list", dict := none, data := .seq ([] : List Value).toArray }).objs.size = h₁.objs.size + 1 := Heap.size_push ..
  rw [hD]
  have up₂ : ∀ b o, h₁.get? b = some o → H2.get? b = some o := fun b o e => hH2 ▸ Heap.get?_push_of_some _ (Heap.get?_push_of_some _ (Heap.get?_push_of_some _ e))
  have hacc : H2.PlainList h₁.objs.size #[] := ⟨_, hH2 ▸ Heap.get?_push_of_some _ (Heap.get?_push_of_some _ (Heap.get?_push_size _ rfl))⟩
  have hns : H2.Ns (h₁.objs.size + 1) (fun _ => none) := by
    rw [← hH2, ← hD]
    exact (Heap.Ns.new (h₁.push { cls := .type "list", dict := none, data := .seq ([] : List Value).toArray }) (.type "dict")).push _
  have hcell : H2.IsCell (h₁.objs.size + 1 + 1) none := by
    rw [← hH2, ← hD]
    refine ⟨{ cls := .type "cell", data := .cell none }, ?_, rfl⟩
    have := Heap.get?_push_size ((h₁.push { cls := .type "list", dict := none, data := .seq ([] : List Value).toArray }).push { cls := .type "dict", data := .dict #[] }) (o := { cls := .type "cell", data := .cell none }) rfl
    rw [Heap.size_push] at this
    exact this
  have hCsz : H2.objs.size = h₁.objs.size + 3 := by rw [← hH2, Heap.size_push, Heap.size_push, Heap.size_push]
  generalize hDD : h₁.objs.size = D at *
  obtain ⟨e1, e2, e3⟩ := hE (D + 1)
  have hk1 : (compEnvC sc1 [(Str.ofString "x", D + 1 + 1), (Str.ofString "unit", L + 2), (nm, cT)] (D + 1) (lawE L fa cd)).scope.kind = .function := hsk1
  have hkx : (compEnvC sc1 [(Str.ofString "x", D + 1 + 1), (Str.ofString "unit", L + 2), (nm, cT)] (D + 1) (lawE L fa cd)).kindOf "x" = some .cell := by
    show (List.map _ sc1.names).lookup _ = _
    rw [hsn1]; rfl
  have upH : ∀ b o, h.get? b = some o → H2.get? b = some o := fun b o e => up₂ b o (up₁ b o e)
  have lt0 : ∀ {b : Addr} {o : Obj}, h.get? b = some o → b < h.objs.size := fun e => Heap.lt_size e
  have ne0 : ∀ {b : Addr} {o : Obj}, h.get? b = some o → b ≠ D + 1 + 1 ∧ b ≠ I ∧ b ≠ D := fun e => by
    have q := lt0 e
    exact ⟨Nat.ne_of_lt (Nat.lt_of_lt_of_le q (by omega)), Nat.ne_of_lt (Nat.lt_of_lt_of_le q hIge), Nat.ne_of_lt (Nat.lt_of_lt_of_le q hs1)⟩
  have loop : ∀ s₃ : Shared, s₃ = { heap := H2, gens := gens, drawn := dr, toks := tk + 1 + 1, os := os } →
      codeAny (model prog w) A (.compLoop (.ListComp (.ListComp (.Name "octet" p1) [⟨.Name "line" p2, .Name nm p3, [], 0⟩, ⟨.Name "octet" p4, .Subscript (.Name "line" p5) (.Slice (some (.BinOp (.Name "x" p6) .Mult (.Name "unit" p7) p8)) (some (.BinOp (.BinOp (.Name "x" p9) .Add (.Constant (.int 1) k1 p10) p11) .Mult (.Name "unit" p12) p13)) none p14) p15, [], 0⟩] sc2 p16)
      [⟨.Name "x" p17, .Call (.Name "range" p18) [.Name "wide" p19] [] p20, [], 0⟩] sc1 p21) 0 (.ref I) (.ref D) (compEnvC sc1 [(Str.ofString "x", D + 1 + 1), (Str.ofString "unit", L + 2), (nm, cT)] (D + 1) (lawE L fa cd)))
        (compPost (model prog w) A E use Q (.ref D) (D + 1)) s₃ := by
    rintro s₃ rfl
    refine compLoop_X (Walks.range hh I 0 1 wd) (fun x => rows.flatMap (pixel x u)) hk1 hkx (cx := D + 1 + 1) rfl (Nat.ne_of_gt hIlt) (Nat.ne_of_gt (by omega)) (Nat.ne_of_gt (by omega)) (up₂ _ _ hit) hacc hcell (by simp only [sizeLine]; omega) ?_ (fun i h' hS => ⟨_, hS⟩) ?_
    · rintro i v h₂ tk₂ hi ⟨tx, rfl⟩ hcx hk₂ hS
      have ei : (0 : Int) + (i : Int) * 1 = i := by omega
      rw [ei] at hcx
      have up : ∀ b o, h.get? b = some o → h₂.get? b = some o := fun b o e => let ⟨q1, q2, q3⟩ := ne0 e; hk₂ b o q1 q2 q3 (upH b o e)
      have K₂ := K.kept up
      refine comp_inner (E1 := compEnvC sc1 [(Str.ofString "x", D + 1 + 1), (Str.ofString "unit", L + 2), (nm, cT)] (D + 1) (lawE L fa cd)) (cl := [(Str.ofString "x", D + 1 + 1), (Str.ofString "unit", L + 2)]) hh hk1 e1 hdn e2 (hcT ▸ K₂.X.cell nm cT hlk) hsk hsn (by unfold closureFor; rw [hsn]; rfl) hkx e3 rfl rfl hcx (hcu ▸ K₂.X.cell "unit" (L + 2) rfl) (by omega) (by omega) (hl.at fun o e => up _ o e) (hr.at fun b o _ e => up b o e) hz hn fun D' h₃ tk₃ vs hD' hk₃ hl₃ hi₃ => ?_
      exact ⟨h₃, tk₃, D', vs, rfl, hk₃, rfl, hD', hl₃, hi₃⟩
    · intro h' tk' vs hl' hR' hk'
      refine hQ D (D + 1) h' tk' _ vs hs1 (Nat.le_succ_of_le hs1) (Nat.ne_of_lt (Nat.lt_succ_self _)) (fun b o e => let ⟨q1, q2, q3⟩ := ne0 e; hk' b o q1 q2 q3 (upH b o e)) (hns.at' fun o e => hk' _ o (Nat.ne_of_lt (Nat.lt_succ_self _)) (Nat.ne_of_gt (Nat.lt_succ_of_lt hIlt)) (Nat.ne_of_gt (Nat.lt_succ_self _)) e) hl' hR'
  exact codeAny_compStart_list (loop _ rfl) (wpAny_pyIter_rangeiter (up₂ _ _ hit) (loop _ rfl))
end
end Mine
end

section
open PySem PySem.W PySem.Calls PyProof.Rows
set_option Elab.async false
set_option maxRecDepth 100000
namespace Mine

/-- the other way round: up and sub change places -/
def swapW (way : Int) : Int := if way = 1 then 2 else if way = 2 then 1 else way
/-- Paeth's choice is the same when left and above change places -/
theorem pae_swap {a b c : Int} : pae b a c = pae a b c := by
  unfold pae
  simp only [ab]
  repeat' split
  all_goals omega

theorem stepV_swap {way x a b c : Int} : stepV (swapW way) x a b c = stepV way x b a c := by
  unfold swapW
  by_cases h1 : way = 1
  · subst h1; simp [stepV]
  · by_cases h2 : way = 2
    · subst h2; simp [stepV]
    · rw [if_neg h1, if_neg h2]
      unfold stepV
      rw [if_neg h1, if_neg h2, if_neg h1, if_neg h2, pae_swap, Int.add_comm b a]

theorem undoN_at {way : Int} {u : Nat} {xs bs : List Int} {i : Nat} (hu0 : 1 ≤ u) : ∀ {n : Nat}, i < n → (undoN way u xs bs n).getD i 0 = stepV way (xs.getD i 0) (if i < u then 0 else (undoN way u xs bs n).getD (i - u) 0) (bs.getD i 0) (if i < u then 0 else bs.getD (i - u) 0)
  | 0, h => absurd h (Nat.not_lt_zero _)
  | n + 1, h => by
    have lo : ∀ j, j < n → (undoN way u xs bs (n + 1)).getD j 0 = (undoN way u xs bs n).getD j 0 := fun j hj => by
      rw [undoN, List.getD_eq_getElem?_getD, List.getElem?_append_left (by rw [undoN_len]; exact hj), ← List.getD_eq_getElem?_getD]
    by_cases hin : i < n
    · have e := undoN_at (u := u) (way := way) (xs := xs) (bs := bs) hu0 hin
      rw [lo i hin, lo (i - u) (by omega)]; exact e
    · obtain rfl : i = n := by omega
      have hi : (undoN way u xs bs (i + 1)).getD i 0 = stepV way (xs.getD i 0) (if i < u then 0 else (undoN way u xs bs i).getD (i - u) 0) (bs.getD i 0) (if i < u then 0 else bs.getD (i - u) 0) := by
        conv => lhs; rw [undoN, List.getD_eq_getElem?_getD, List.getElem?_append_right (by rw [undoN_len]; exact Nat.le_refl _), undoN_len, Nat.sub_self]
        rfl
      rw [hi]
      by_cases hu : i < u
      · simp only [hu, if_true]
      · simp only [hu, if_false]
        rw [lo (i - u) (by omega)]

theorem undo_at {way : Int} {u : Nat} {xs bs : List Int} {i : Nat} (hu : 1 ≤ u) (h : i < xs.length) : (undo way u xs bs).getD i 0 = stepV way (xs.getD i 0) (if i < u then 0 else (undo way u xs bs).getD (i - u) 0) (bs.getD i 0) (if i < u then 0 else bs.getD (i - u) 0) :=
  undoN_at hu h

theorem undoneR_oct {u n : Nat} : ∀ {above ways : List Int} {rows : List (List Int)}, (∀ r ∈ rows, r.length = n ∧ Oct r) → ∀ r ∈ undoneR u above ways rows, r.length = n ∧ Oct r
  | _, [], rows, _, r, hr => by cases rows <;> simp [undoneR] at hr
  | _, _ :: _, [], _, r, hr => by simp [undoneR] at hr
  | above, w :: ws, q :: rs, h, r, hr => by
    rw [undoneR] at hr
    rcases List.mem_cons.mp hr with rfl | hr
    · exact ⟨undo_len.trans (h q (.head _)).1, undo_oct (h q (.head _)).2⟩
    · exact undoneR_oct (fun x hx => h x (.tail _ hx)) r hr
theorem undoneR_len {u : Nat} : ∀ {above ways : List Int} {rows : List (List Int)}, ways.length = rows.length → (undoneR u above ways rows).length = rows.length
  | _, [], [], _ => rfl
  | _, _ :: ws, _ :: rs, h => by
    rw [undoneR, List.length_cons, List.length_cons, undoneR_len (by simpa using h)]

theorem undoneR_get {u : Nat} {way : Int} : ∀ {n y : Nat} {above : List Int} {rows : List (List Int)}, rows.length = n → y < n →
    (undoneR u above (List.replicate n way) rows).getD y [] = undo way u (rows.getD y []) (if y = 0 then above else (undoneR u above (List.replicate n way) rows).getD (y - 1) [])
  | 0, _, _, _, _, h => absurd h (Nat.not_lt_zero _)
  | n + 1, y, above, [], hr, _ => nomatch hr
  | n + 1, 0, above, r :: rs, hr, _ => rfl
  | n + 1, y + 1, above, r :: rs, hr, h => by
    rw [List.replicate_succ, undoneR]
    have ih := undoneR_get (u := u) (way := way) (n := n) (y := y) (above := undo way u r above) (rows := rs) (by simpa using hr) (by omega)
    show (undoneR u (undo way u r above) (List.replicate n way) rs).getD y [] = undo way u (rs.getD y []) (if y + 1 = 0 then above else (undo way u r above :: undoneR u (undo way u r above) (List.replicate n way) rs).getD (y + 1 - 1) [])
    rw [ih, if_neg (Nat.succ_ne_zero y), Nat.add_sub_cancel]
    cases y with
    | zero => rfl
    | succ k => rfl

theorem pixel_eq {wd u x : Nat} {row : List Int} (hx : x < wd) (hn : row.length = wd * u) : pixel x u row = (row.drop (x * u)).take u := by
  have h1 : (x + 1) * u ≤ wd * u := Nat.mul_le_mul_right u hx
  have e1 : (x : Int) * u = ((x * u : Nat) : Int) := by simp
  have e2 : ((x : Int) + 1) * u = (((x + 1) * u : Nat) : Int) := by simp
  have h2 : (x + 1) * u = x * u + u := Nat.succ_mul x u
  unfold pixel
  rw [e1, e2]
  have q := ints_fun ((ints_of row).pick (some ((x * u : Nat) : Int)) (some (((x + 1) * u : Nat) : Int)) none) (slice_ints (ints_of row) (by omega) (by omega) (by omega))
  rw [q, Int.toNat_natCast]
  congr 1
  omega
theorem pixel_len {wd u x : Nat} {row : List Int} (hx : x < wd) (hn : row.length = wd * u) : (pixel x u row).length = u := by
  have h1 : (x + 1) * u ≤ wd * u := Nat.mul_le_mul_right u hx
  rw [Nat.succ_mul] at h1
  rw [pixel_eq hx hn, List.length_take, List.length_drop]
  omega
theorem pixel_at {wd u x c : Nat} {row : List Int} (hx : x < wd) (hn : row.length = wd * u) (hc : c < u) : (pixel x u row).getD c 0 = row.getD (x * u + c) 0 := by
  rw [pixel_eq hx hn, List.getD_eq_getElem?_getD, List.getElem?_take_of_lt hc, List.getElem?_drop, ← List.getD_eq_getElem?_getD]

theorem flat_len {u : Nat} {f : List Int → List Int} : ∀ {rows : List (List Int)}, (∀ r ∈ rows, (f r).length = u) → (rows.flatMap f).length = rows.length * u
  | [], _ => by simp
  | r :: rs, h => by
    rw [List.flatMap_cons, List.length_append, h r (.head _), flat_len fun q hq => h q (.tail _ hq), List.length_cons, Nat.succ_mul, Nat.add_comm]
theorem flat_at {u c : Nat} {f : List Int → List Int} (hc : c < u) : ∀ {rows : List (List Int)} {y : Nat}, (∀ r ∈ rows, (f r).length = u) → y < rows.length → (rows.flatMap f).getD (y * u + c) 0 = (f (rows.getD y [])).getD c 0
  | [], _, _, h => absurd h (Nat.not_lt_zero _)
  | r :: rs, 0, h, _ => by
    rw [List.flatMap_cons, Nat.zero_mul, Nat.zero_add, List.getD_eq_getElem?_getD, List.getElem?_append_left (by rw [h r (.head _)]; exact hc), ← List.getD_eq_getElem?_getD]; rfl
  | r :: rs, y + 1, h, hy => by
    have hr := h r (.head _)
    rw [List.flatMap_cons, List.getD_eq_getElem?_getD, List.getElem?_append_right (by rw [hr, Nat.succ_mul]; omega), hr]
    have e : (y + 1) * u + c - u = y * u + c := by rw [Nat.succ_mul]; omega
    rw [e, ← List.getD_eq_getElem?_getD]
    exact flat_at hc (fun q hq => h q (.tail _ hq)) (by simpa using hy)

theorem column_ok {u wd ht x : Nat} {rows : List (List Int)} (hx : x < wd) (hr : rows.length = ht) (hn : ∀ r ∈ rows, r.length = wd * u ∧ Oct r) : (rows.flatMap (pixel x u)).length = ht * u ∧ Oct (rows.flatMap (pixel x u)) := by
  refine ⟨(flat_len fun r hr' => pixel_len hx (hn r hr').1).trans (by rw [hr]), fun n hn' => ?_⟩
  obtain ⟨r, hr', hm⟩ := List.mem_flatMap.mp hn'
  unfold pixel pickNums at hm
  obtain ⟨j, _, e⟩ := List.mem_filterMap.mp hm
  exact (hn r hr').2 n (List.mem_of_getElem? e)

theorem mem_getD {rows : List (List Int)} {y : Nat} (h : y < rows.length) : rows.getD y [] ∈ rows := by
  rw [List.getD_eq_getElem?_getD, List.getElem?_eq_getElem h]; exact List.getElem_mem h
theorem zero_at {n i : Nat} : (List.replicate n (0 : Int)).getD i 0 = 0 := by
  rw [List.getD_eq_getElem?_getD, List.getElem?_replicate]; split <;> rfl
theorem place_lt {wd u x c : Nat} (hx : x < wd) (hc : c < u) : x * u + c < wd * u := by
  have := Nat.mul_le_mul_right u hx
  rw [Nat.succ_mul] at this
  omega
theorem place_low {u x c : Nat} (hc : c < u) : x * u + c < u ↔ x = 0 := by
  constructor
  · intro h
    rcases Nat.eq_zero_or_pos x with q | q
    · exact q
    · have := Nat.mul_le_mul_right u q
      omega
  · rintro rfl; omega
theorem place_pred {u x c : Nat} (hx : x ≠ 0) : x * u + c - u = (x - 1) * u + c := by
  have : x * u = (x - 1) * u + u := by conv => lhs; rw [show x = (x - 1) + 1 by omega, Nat.succ_mul]
  omega

theorem law_key {u wd ht : Nat} {way : Int} {rows : List (List Int)} (hu : 1 ≤ u) (hr : rows.length = ht) (hn : ∀ r ∈ rows, r.length = wd * u ∧ Oct r) : ∀ (N x y c : Nat), x + y ≤ N → x < wd → y < ht → c < u →
    ((undoneR u (List.replicate (ht * u) 0) (List.replicate wd (swapW way)) ((List.range wd).map fun x => rows.flatMap (pixel x u))).getD x []).getD (y * u + c) 0 = ((undoneR u (List.replicate (wd * u) 0) (List.replicate ht way) rows).getD y []).getD (x * u + c) 0 := by
  have hcl : ((List.range wd).map fun x => rows.flatMap (pixel x u)).length = wd := by simp
  have hcol : ∀ x, x < wd → ((List.range wd).map fun x => rows.flatMap (pixel x u)).getD x [] = rows.flatMap (pixel x u) := fun x hx => by
    rw [List.getD_eq_getElem?_getD, List.getElem?_map, List.getElem?_range hx]; rfl
  have col : ∀ x y c, x < wd → y < ht → c < u → (rows.flatMap (pixel x u)).getD (y * u + c) 0 = (rows.getD y []).getD (x * u + c) 0 := fun x y c hx hy hc => by
    rw [flat_at hc (fun r hr' => pixel_len hx (hn r hr').1) (by rw [hr]; exact hy), pixel_at hx (hn _ (mem_getD (by rw [hr]; exact hy))).1 hc]
  have gT := fun x (hx : x < wd) => undoneR_get (u := u) (way := swapW way) (n := wd) (y := x) (above := List.replicate (ht * u) 0) (rows := (List.range wd).map fun x => rows.flatMap (pixel x u)) hcl hx
  have gR := fun y (hy : y < ht) => undoneR_get (u := u) (way := way) (n := ht) (y := y) (above := List.replicate (wd * u) 0) (rows := rows) hr hy
  generalize undoneR u (List.replicate (ht * u) 0) (List.replicate wd (swapW way)) ((List.range wd).map fun x => rows.flatMap (pixel x u)) = T' at gT ⊢
  generalize undoneR u (List.replicate (wd * u) 0) (List.replicate ht way) rows = T at gR ⊢
  intro N
  induction N using Nat.strongRecOn with
  | ind N ih =>
    intro x y c hN hx hy hc
    have IH : ∀ x' y', x' + y' < x + y → x' < wd → y' < ht → (T'.getD x' []).getD (y' * u + c) 0 = (T.getD y' []).getD (x' * u + c) 0 := fun x' y' h1 h2 h3 => ih (x + y - 1) (by omega) x' y' c (by omega) h2 h3 hc
    have rl : (rows.getD y []).length = wd * u := (hn _ (mem_getD (by rw [hr]; exact hy))).1
    have cl : (rows.flatMap (pixel x u)).length = ht * u := (column_ok hx hr hn).1
    have a1 := undo_at (way := swapW way) (u := u) (xs := rows.flatMap (pixel x u)) (bs := if x = 0 then List.replicate (ht * u) 0 else T'.getD (x - 1) []) (i := y * u + c) hu (by rw [cl]; exact place_lt hy hc)
    have a2 := undo_at (way := way) (u := u) (xs := rows.getD y []) (bs := if y = 0 then List.replicate (wd * u) 0 else T.getD (y - 1) []) (i := x * u + c) hu (by rw [rl]; exact place_lt hx hc)
    have t1 := gT x hx
    rw [hcol x hx] at t1
    rw [← t1] at a1
    rw [← gR y hy] at a2
    rw [a1, a2, col x y c hx hy hc]
    have lx : (x * u + c < u) = (x = 0) := propext (place_low hc)
    have ly : (y * u + c < u) = (y = 0) := propext (place_low hc)
    simp only [lx, ly]
    by_cases x0 : x = 0
    · by_cases y0 : y = 0
      · simp only [x0, y0, if_true, zero_at]
        exact stepV_swap
      · simp only [x0, y0, if_true, if_false, zero_at]
        have q := IH x (y - 1) (by omega) hx (by omega)
        rw [x0] at q
        rw [place_pred y0, q]
        exact stepV_swap
    · by_cases y0 : y = 0
      · simp only [x0, y0, if_true, if_false, zero_at]
        have q := IH (x - 1) y (by omega) (by omega) hy
        rw [y0] at q
        rw [place_pred x0, q]
        exact stepV_swap
      · simp only [x0, y0, if_false]
        rw [place_pred x0, place_pred y0, IH x (y - 1) (by omega) hx (by omega), IH (x - 1) y (by omega) (by omega) hy, IH (x - 1) (y - 1) (by omega) (by omega) (by omega)]
        exact stepV_swap

theorem pure_law {u wd ht : Nat} {way : Int} {rows : List (List Int)} (hu : 1 ≤ u) (hr : rows.length = ht) (hn : ∀ r ∈ rows, r.length = wd * u ∧ Oct r) :
    undoneR u (List.replicate (ht * u) 0) (List.replicate wd (swapW way)) ((List.range wd).map fun x => rows.flatMap (pixel x u)) =
      (List.range wd).map fun x => (undoneR u (List.replicate (wd * u) 0) (List.replicate ht way) rows).flatMap (pixel x u) := by
  have key := law_key (way := way) hu hr hn
  have hcl : (List.replicate wd (swapW way)).length = ((List.range wd).map fun x => rows.flatMap (pixel x u)).length := by simp
  have l1 := undoneR_len (u := u) (above := List.replicate (ht * u) 0) hcl
  have o1 := undoneR_oct (u := u) (n := ht * u) (above := List.replicate (ht * u) 0) (ways := List.replicate wd (swapW way)) (rows := (List.range wd).map fun x => rows.flatMap (pixel x u)) (fun r hr' => by
    obtain ⟨x, hx, rfl⟩ := List.mem_map.mp hr'
    exact column_ok (List.mem_range.mp hx) hr hn)
  have l2 := undoneR_len (u := u) (above := List.replicate (wd * u) 0) (ways := List.replicate ht way) (rows := rows) (by rw [List.length_replicate, hr])
  have o2 := undoneR_oct (u := u) (n := wd * u) (above := List.replicate (wd * u) 0) (ways := List.replicate ht way) hn
  generalize undoneR u (List.replicate (ht * u) 0) (List.replicate wd (swapW way)) ((List.range wd).map fun x => rows.flatMap (pixel x u)) = T' at *
  generalize undoneR u (List.replicate (wd * u) 0) (List.replicate ht way) rows = T at *
  simp only [List.length_map, List.length_range] at l1
  apply List.ext_getElem (by simp [l1])
  intro x h1 h2
  have hx : x < wd := by rw [← l1]; exact h1
  simp only [List.getElem_map, List.getElem_range]
  have e1 : T'.getD x [] = T'[x] := by rw [List.getD_eq_getElem?_getD, List.getElem?_eq_getElem h1]; rfl
  have hl1 : T'[x].length = ht * u := (o1 _ (List.getElem_mem h1)).1
  have hl2 : (T.flatMap (pixel x u)).length = ht * u := (flat_len fun r hr' => pixel_len hx (o2 r hr').1).trans (by rw [l2, hr])
  apply List.ext_getElem (by rw [hl1, hl2])
  intro i g1 g2
  have hi : i < ht * u := by rw [← hl1]; exact g1
  have hc : i % u < u := Nat.mod_lt _ hu
  have hy : i / u < ht := Nat.div_lt_of_lt_mul (by rw [Nat.mul_comm]; exact hi)
  have ei : i / u * u + i % u = i := by rw [Nat.mul_comm]; exact Nat.div_add_mod i u
  have q := key (x + i / u) x (i / u) (i % u) (Nat.le_refl _) hx hy hc
  rw [ei, e1] at q
  have q2 := flat_at (f := pixel x u) (rows := T) (y := i / u) hc (fun r hr' => pixel_len hx (o2 r hr').1) (by rw [l2, hr]; exact hy)
  rw [ei, pixel_at hx (o2 _ (mem_getD (by rw [l2, hr]; exact hy))).1 hc] at q2
  have q3 := q.trans q2.symm
  rw [List.getD_eq_getElem?_getD, List.getElem?_eq_getElem g1, List.getD_eq_getElem?_getD, List.getElem?_eq_getElem g2] at q3
  exact q3
end Mine
end

section
open PySem PySem.W PySem.Calls PyProof.Rows
set_option Elab.async false
set_option maxRecDepth 100000
namespace Mine

theorem rep_one {α : Type} (v : α) : ∀ n : Nat, (List.replicate n [v]).flatten = List.replicate n v
  | 0 => rfl
  | n + 1 => by rw [List.replicate_succ, List.flatten_cons, rep_one v n]; rfl
theorem ints_rep1 {v : Int} {t : Tok} : ∀ n : Nat, IntsAre (List.replicate n (.int v t)) (List.replicate n v)
  | 0 => .nil
  | n + 1 => by rw [List.replicate_succ, List.replicate_succ]; exact .cons v t (ints_rep1 n)

section
variable {prog : Program} {w : World} {A : Around} {E : Value → Shared → Prop} {s : Shared}
theorem mul_list' {l : Addr} {vs : List Value} {x : Int} {u : Tok} {Q : Value → Shared → Prop} (hl : s.heap.IsList l vs.toArray) (hlo : 0 ≤ x) (hhi : x ≤ 1000) (hsz : vs.length * x.toNat ≤ 2 ^ 20)
    (h : ∀ h', (∀ b o, s.heap.get? b = some o → h'.get? b = some o) → h'.IsList s.heap.objs.size (List.replicate x.toNat vs).flatten.toArray → Q (.ref s.heap.objs.size) { s with heap := h' }) : wpAny (model prog w) A (binaryOp .Mult (.ref l) (.int x u)) Q E s := by
  obtain ⟨⟨cls, d, data, sl⟩, ho, hcl, k, hd⟩ := id hl
  simp only at hcl hd
  subst hcl hd
  have hsz' : vs.toArray.size * x.toNat ≤ 2 ^ 20 := by simpa using hsz
  refine wpAny_binaryOp_repeat_ref (T := "list") (U := "int") (by decide) ⟨_, ho, rfl⟩ (fun s' => typeIs_int s' x u) noFill_list_mul F.fills_int_mul F.slot_int_rmul repeat_list F.slot_int_index.lookup
    (call_meets F.slot_int_rmul (typeIs_int s x u) F.entry_int_rmul (F.args_int_rmul_2 _ _) (lm_int_rmul_list_any x u l vs.toArray k d sl)
      ⟨ho, rfl, ⟨_, ho, rfl⟩, call_meets F.slot_list_mul ⟨_, ho, rfl⟩ F.entry_list_mul (F.args_list_mul_2 _ _)
        (lm_list_mul_any l vs.toArray k d sl x u (by simp [Builtin.List.listFitsIndex]; omega) (by omega) (by simp [Builtin.List.listTooLong, sizeLine]; omega))
        ⟨ho, ?_⟩⟩)
  refine h _ (fun b o e => Heap.get?_push_of_some _ e) ⟨_, Heap.get?_push_size _ rfl, rfl, 0, ?_⟩
  exact congrArg (fun z => Data.seq z 0) (listMul_foldl_if vs.toArray x.toNat)

/-- a list of one, repeated -/
theorem mul_one' {l : Addr} {v : Value} {n : Nat} {u : Tok} {Q : Value → Shared → Prop} (hl : s.heap.IsList l (List.toArray [v])) (hn : n ≤ 1000)
    (h : ∀ h', (∀ b o, s.heap.get? b = some o → h'.get? b = some o) → h'.IsList s.heap.objs.size (List.replicate n v).toArray → Q (.ref s.heap.objs.size) { s with heap := h' }) : wpAny (model prog w) A (binaryOp .Mult (.ref l) (.int n u)) Q E s := by
  refine mul_list' hl (by omega) (by omega) (by rw [Int.toNat_natCast, List.length_singleton]; omega) fun h' hk hl' => h h' hk ?_
  rw [Int.toNat_natCast, rep_one] at hl'
  exact hl'

theorem sub_list_any {l : Addr} {value slice : Expr} {its : Array Value} {k : Int} {t : Tok} {x : Value} {Q : Value → Shared → Prop} (hl : s.heap.IsList l its) (h0 : 0 ≤ k) (hf : k < 2 ^ 63) (hx : its[k.toNat]? = some x) (h : Q x s)
    (hs : subscripted slice false (.ref l) (.int k t) = operate [.ref l, .int k t] (getItem (.ref l) (.int k t)) := by with_unfolding_all rfl) :
    wpAny (model prog w) A (subscriptTail value slice (.ref l) (.int k t)) Q E s :=
  subscriptTail_any hl.typeIs slot_list_getitem.lookup (wpAny_getItem_list hl h0 hf hx h) hs
theorem mk_list {xs : List Value} {Q : Value → Shared → Prop} (h : ∀ h', (∀ b o, s.heap.get? b = some o → h'.get? b = some o) → h'.get? s.heap.objs.size = some { cls := .type "list", data := .seq xs.toArray } → Q (.ref s.heap.objs.size) { s with heap := h' }) (hsz : xs.length ≤ 1000) :
    wpAny (model prog w) A (newList xs) Q E s := wpAny_newList (h _ (fun b o e => Heap.get?_push_of_some _ e) (Heap.get?_push_size _ rfl)) (by simp only [sizeLine]; omega)
end
end Mine
end

section
open PySem PySem.W PySem.Calls PyProof.Rows
set_option Elab.async false
set_option maxRecDepth 100000
namespace Mine

theorem RowsAre.new {h : Heap} {X : List Addr} {I : Addr} (hI : h.get? I = none) : ∀ {vs : List Value} {rows : List (List Int)}, RowsAre h X vs rows → RowsAre h (I :: X) vs rows
  | _, _, .nil => .nil
  | _, _, .cons ha hl hi r => .cons (by
      intro q
      rcases List.mem_cons.mp q with rfl | q
      · obtain ⟨_, e, _⟩ := hl; rw [hI] at e; cases e
      · exact ha q) hl hi (r.new hI)

section
variable {prog : Program} {w : World} {A : Around} {L fa : Addr} {cd : Value} {g h : Heap} {m cm : Str → Option Value} {lo : Nat} {gens : Array GenState} {dr : Drawn} {tk : Nat} {os : OsState}

set_option maxHeartbeats 8000000 in
theorem law_end {R : Flow → Shared → Prop} {T : Addr} {u wd ht way : Nat} {tu tw th ty : Tok} {tv : List Value} {rows : List (List Int)}
    (hroom : A.depth + 1 < recursionLimit) (hun : A.units + 8 < cLine) (hh : A.handled = none) (B : Base g) (K : LF g L (cellsFrom (L + 1) dLaw.scope.names []) lo h m cm)
    (hmw : m "wide" = some (.int wd tw)) (hmh : m "high" = some (.int ht th)) (hmy : m "way" = some (.int way ty)) (hcu : cm "unit" = some (.int u tu)) (hcT : cm "table" = some (.ref T)) (hlT : h.IsList T tv.toArray) (hR : RowsAre h [] tv rows)
    (hrl : rows.length = ht) (hn : ∀ r ∈ rows, r.length = wd * u ∧ Oct r) (hu1 : 1 ≤ u) (hu2 : u ≤ 4) (hw1 : 1 ≤ wd) (hw2 : wd ≤ 4) (hh1 : 1 ≤ ht) (hh2 : ht ≤ 4) (hy1 : 1 ≤ way) (hy2 : way ≤ 4)
    (hQ : ∀ h' tk, (∀ b o, g.get? b = some o → h'.get? b = some o) → R (.ret (.bool true)) ⟨h', gens, dr, tk, os⟩) :
    wpC (model prog w) A (execs (dLaw.body.drop 5) (lawE L fa cd)) R ⟨h, gens, dr, tk, os⟩ := by
  have hz : wd * u ≤ 16 := Nat.mul_le_mul hw2 hu2
  have hz2 : ht * u ≤ 16 := Nat.mul_le_mul hh2 hu2
  -- the columns
  refine wpC_execs_cons (wpC_any ?_)
  show wpAny _ _ (exec (.Assign [.Name "columns" _] _ _) _) _ _ _
  rw [exec_Assign_Name_used _ _ _ _ rfl]
  refine wpAny_bind (wpAny_standAt (wpAny_bind ?_))
  show wpAny _ A (do let _ ← comprehension (.ListComp _ [⟨_, _, _, 0⟩] _ _) _ (lawE L fa cd) _ (newList []) false (eval _ (lawE L fa cd)) (some (assign (.Name "columns" _) (lawE L fa cd)))) _ _ _
  refine wpAny_bind (wpAny_mono (comp_outer (nm := "table") (T := T) (rows := rows) (use := some (assign (.Name "columns" _) (lawE L fa cd))) (Q := fun _ s' => wpC (model prog w) A (execs (dLaw.body.drop 6) (lawE L fa cd)) R s') hh B K rfl (by decide) rfl hcT hcu hmw rfl rfl rfl rfl rfl (fun C => ⟨rfl, rfl, rfl⟩) hu2 hw2 hlT hR (fun r hr => by have := (hn r hr).1; omega) (by omega) ?_) (fun _ s' hq => wpAny_pure (wpAny_pure hq)) fun _ _ e => e)
  intro D C h₁ tk₁ m₁ dv hD hC hDC hk₁ hns hlD hRD
  have K₁ := K.kept hk₁
  have hLC : L < C := Nat.lt_of_lt_of_le K.Llo (Nat.le_trans K.size hC)
  show wpAny _ A (assign (.Name "columns" _) (lawE L fa cd) (.ref D)) _ _ _
  refine wpAny_assign_Name (wpAny_storeName_local rfl K₁.F.ns (fun h₂ hn₂ hs₂ => ⟨m₁, hns.sameBut hs₂ (Nat.ne_of_gt hLC), fun h₃ hs₃ => ?_⟩) rfl)
  replace hs₂ : Heap.SameBut L h₁ h₂ := hs₂
  have K₃ : LF g L (cellsFrom (L + 1) dLaw.scope.names []) lo h₃ (fun y => if y = "columns" then some (.ref D) else m y) cm :=
    (LF.mk (K₁.F.set hn₂ hs₂) (K₁.X.sameBut hs₂ (Nat.le_refl _)) K₁.Llo K₁.clo K₁.last).ne (Nat.le_trans K.size hC) fun b o hb e => hs₃.extBut b o hb e
  have nf₃ : ∀ b o, notFrame o → h₁.get? b = some o → h₃.get? b = some o := fun b o ho e => hs₃.extBut b o (fun q => by
      obtain ⟨oL, es, ep, hL', hd, _⟩ := hns
      subst q
      rw [hL'] at e; cases e; exact ho.1 _ _ hd) (hs₂.extBut b o (fun q => by
      obtain ⟨oL, es, ep, hL', hd, _⟩ := K₁.F.ns
      subst q
      rw [hL'] at e; cases e; exact ho.1 _ _ hd) e)
  have hlD := IsList.nf hlD nf₃
  have hRD := hRD.nf nf₃
  have hlT := IsList.nf (hlT.at fun o e => hk₁ _ o e) nf₃
  have hR := (hR.at fun b o _ e => hk₁ b o e).nf nf₃
  have f1 : (fun y => if y = (Str.ofString "columns") then some (Value.ref D) else m y) "columns" = some (.ref D) := if_pos rfl
  have f2 : (fun y => if y = (Str.ofString "columns") then some (Value.ref D) else m y) "wide" = some (.int wd tw) := (if_neg (by decide)).trans hmw
  have f3 : (fun y => if y = (Str.ofString "columns") then some (Value.ref D) else m y) "high" = some (.int ht th) := (if_neg (by decide)).trans hmh
  have f4 : (fun y => if y = (Str.ofString "columns") then some (Value.ref D) else m y) "way" = some (.int way ty) := (if_neg (by decide)).trans hmy
  generalize (fun y => if y = (Str.ofString "columns") then some (Value.ref D) else m y) = m₃ at K₃ f1 f2 f3 f4
  clear hs₂ hs₃ hn₂ hns nf₃ K₁ hk₁ K
  generalize _ + 1 = tk₃
  -- the rows undone
  refine wpC_execs_cons (wpC_Assign_Name (wpC_Call (gl_und (s := ⟨h₃, gens, dr, _, os⟩) K₃.F B (fun f c' hf => ?_) rfl rfl)))
  obtain ⟨o, pm, doc, ho, hdt, hcd⟩ := id hf
  refine wpC_callWith_fn (o := o) (fd := docDef dUnd.name dUnd.params dUnd.body dUnd.scope pm (.ref c') doc) ?_
  refine wpC_args_cons (wpC_any (wpAny_BinOp (List_ (args_cons (ldLoc (s := ⟨h₃, gens, dr, _, os⟩) K₃.F f4 (args_nil (mk_list (s := ⟨h₃, gens, dr, _, os⟩) (xs := [.int way ty]) (fun h₄ hk₄ hg₄ => ?_) (by simp))))))))
  dsimp only at hk₄ hg₄ ⊢
  have K₄ := K₃.kept hk₄
  refine ldLoc (s := ⟨h₄, gens, dr, _, os⟩) K₄.F f3 (mul_one' (s := ⟨h₄, gens, dr, _, os⟩) ⟨_, hg₄, rfl, 0, rfl⟩ (by omega) fun h₅ hk₅ hl₅ => ?_)
  dsimp only at hk₅ hl₅ ⊢
  have K₅ := K₄.kept hk₅
  have up₅ : ∀ b o, h₃.get? b = some o → h₅.get? b = some o := fun b o e => hk₅ b o (hk₄ b o e)
  refine wpC_args_cons (wpC_any (ldC (s := ⟨h₅, gens, dr, _, os⟩) K₅.X rfl hcu ?_))
  refine wpC_args_cons (wpC_any (ldC (s := ⟨h₅, gens, dr, _, os⟩) K₅.X rfl hcT ?_))
  refine wpC_args_nil ⟨⟨K₅.F.keep _ _ ho, hdt⟩, ?_⟩
  refine undone_call (s := ⟨h₅, gens, dr, _, os⟩) (n0 := wd * u) (rows := rows) (ways := List.replicate ht (way : Int)) hroom hh (B.keeps K₅.F.keep) (hf.keeps K₅.F.keep) hl₅ (ints_rep1 ht) (hlT.at fun o e => up₅ _ o e) (hR.at fun b o _ e => up₅ b o e) (by rw [List.length_replicate, hrl]) (by intro q; rw [q] at hrl; simp at hrl; omega) hn (by omega) (by omega) hu1 (by omega) fun h₆ tk₆ O ov hk₆ hO₆ hlO hRO => ?_
  dsimp only at hk₆ hO₆
  have K₆ := K₅.kept hk₆
  have up₆ : ∀ b o, h₃.get? b = some o → h₆.get? b = some o := fun b o e => hk₆ b o (up₅ b o e)
  refine stCe (s := ⟨h₆, gens, dr, tk₆, os⟩) K₆ rfl fun h₇ K₇ hk₇ => ?_
  have hlO := IsList.nf hlO hk₇
  have hRO := hRO.nf hk₇
  have hlD := IsList.nf (hlD.at fun o e => up₆ _ o e) hk₇
  have hRD := (hRD.at fun b o _ e => up₆ b o e).nf hk₇
  have c1 : (fun y => if y = (Str.ofString "told") then some (Value.ref O) else cm y) "told" = some (.ref O) := if_pos rfl
  have c2 : (fun y => if y = (Str.ofString "told") then some (Value.ref O) else cm y) "unit" = some (.int u tu) := (if_neg (by decide)).trans hcu
  generalize (fun y => if y = (Str.ofString "told") then some (Value.ref O) else cm y) = cm₇ at K₇ c1 c2
  dsimp only
  clear hk₇ hk₆ hk₅ hk₄ up₅ up₆ K₆ K₅ K₄ K₃ hlT hR hl₅ hg₄ hO₆
  have hROl := undoneR_oct (u := u) (above := List.replicate (wd * u) 0) (ways := List.replicate ht (way : Int)) hn
  have hROn := undoneR_len (u := u) (above := List.replicate (wd * u) 0) (ways := List.replicate ht (way : Int)) (rows := rows) (by rw [List.length_replicate, hrl])
  -- the columns undone
  refine wpC_execs_cons (wpC_Assign_Name (wpC_Call (gl_und (s := ⟨h₇, gens, dr, _, os⟩) K₇.F B (fun f' c'' hf' => ?_) rfl rfl)))
  obtain ⟨o', pm', doc', ho', hdt', hcd'⟩ := id hf'
  refine wpC_callWith_fn (o := o') (fd := docDef dUnd.name dUnd.params dUnd.body dUnd.scope pm' (.ref c'') doc') ?_
  refine wpC_args_cons (wpC_any (wpAny_BinOp (List_ (args_cons (Subscript_ (List_ ?_))))))
  refine args_cons (wpAny_Constant_int ?_)
  refine args_cons (wpAny_Constant_int ?_)
  refine args_cons (wpAny_Constant_int ?_)
  refine args_cons (wpAny_Constant_int ?_)
  refine args_cons (wpAny_Constant_int ?_)
  refine args_nil (mk_list (s := ⟨h₇, gens, dr, _, os⟩) (fun h₈ hk₈ hg₈ => ?_) (by simp))
  dsimp only at hk₈ hg₈ ⊢
  have K₈ := K₇.kept hk₈
  refine ldLoc (s := ⟨h₈, gens, dr, _, os⟩) K₈.F f4 ?_
  obtain ⟨tz, hz5⟩ : ∃ t, (List.toArray [Value.int 0 (tk₆ + 0), .int 2 (tk₆ + 0 + 1), .int 1 (tk₆ + 0 + 1 + 1), .int 3 (tk₆ + 0 + 1 + 1 + 1), .int 4 (tk₆ + 0 + 1 + 1 + 1 + 1)])[(way : Int).toNat]? = some (.int (swapW way) t) := by
    have : way = 1 ∨ way = 2 ∨ way = 3 ∨ way = 4 := by omega
    rcases this with rfl | rfl | rfl | rfl <;> exact ⟨_, rfl⟩
  refine sub_list_any (s := ⟨h₈, gens, dr, _, os⟩) ⟨_, hg₈, rfl, 0, rfl⟩ (by omega) (by omega) hz5 ?_
  refine args_nil (mk_list (s := ⟨h₈, gens, dr, _, os⟩) (xs := [.int (swapW way) tz]) (fun h₉ hk₉ hg₉ => ?_) (by simp))
  dsimp only at hk₉ hg₉ ⊢
  have K₉ := K₈.kept hk₉
  refine ldLoc (s := ⟨h₉, gens, dr, _, os⟩) K₉.F f2 (mul_one' (s := ⟨h₉, gens, dr, _, os⟩) ⟨_, hg₉, rfl, 0, rfl⟩ (by omega) fun h₁₀ hk₁₀ hl₁₀ => ?_)
  dsimp only at hk₁₀ hl₁₀ ⊢
  have K₁₀ := K₉.kept hk₁₀
  have up₁₀ : ∀ b o, h₇.get? b = some o → h₁₀.get? b = some o := fun b o e => hk₁₀ b o (hk₉ b o (hk₈ b o e))
  refine wpC_args_cons (wpC_any (ldC (s := ⟨h₁₀, gens, dr, _, os⟩) K₁₀.X rfl c2 ?_))
  refine wpC_args_cons (wpC_any (ldLoc (s := ⟨h₁₀, gens, dr, _, os⟩) K₁₀.F f1 ?_))
  refine wpC_args_nil ⟨⟨K₁₀.F.keep _ _ ho', hdt'⟩, ?_⟩
  refine undone_call (s := ⟨h₁₀, gens, dr, _, os⟩) (n0 := ht * u) (rows := (List.range wd).map fun x => rows.flatMap (pixel x u)) (ways := List.replicate wd (swapW (way : Int))) hroom hh (B.keeps K₁₀.F.keep) (hf'.keeps K₁₀.F.keep) hl₁₀ (ints_rep1 wd) (hlD.at fun o e => up₁₀ _ o e) (hRD.less.at fun b o _ e => up₁₀ b o e) (by simp) (by intro q; have := congrArg List.length q; simp at this; omega)
    (fun r hr => by
      obtain ⟨x, hx, rfl⟩ := List.mem_map.mp hr
      exact column_ok (List.mem_range.mp hx) hrl hn) (by omega) (by simp; omega) hu1 (by omega) fun h₁₁ tk₁₁ P pv hk₁₁ hP hlP hRP => ?_
  dsimp only at hk₁₁ hP
  have K₁₁ := K₁₀.kept hk₁₁
  have up₁₁ : ∀ b o, h₇.get? b = some o → h₁₁.get? b = some o := fun b o e => hk₁₁ b o (up₁₀ b o e)
  refine stL (s := ⟨h₁₁, gens, dr, tk₁₁, os⟩) K₁₁ fun h₁₂ K₁₂ hk₁₂ => ?_
  have hlP := IsList.nf hlP hk₁₂
  have hRP := hRP.nf hk₁₂
  have hlO := IsList.nf (hlO.at fun o e => up₁₁ _ o e) hk₁₂
  have hRO := (hRO.at fun b o _ e => up₁₁ b o e).nf hk₁₂
  dsimp only
  -- the two compared
  refine wpC_execs_cons (wpC_Return (wpC_any (wpAny_Compare1 (ldLoc (s := ⟨h₁₂, gens, dr, _, os⟩) K₁₂.F (if_pos rfl) ?_))))
  rw [eval_ListComp]
  refine comp_outer (nm := "told") (T := O) (rows := undoneR u (List.replicate (wd * u) 0) (List.replicate ht (way : Int)) rows) (use := none) hh B K₁₂ rfl (by decide) rfl c1 c2 ((if_neg (by decide)).trans f2) rfl rfl rfl rfl rfl (fun C => ⟨rfl, rfl, rfl⟩) hu2 hw2 hlO hRO (fun r hr => by have := (hROl r hr).1; omega) (by omega) ?_
  intro D' C' h₁₃ tk₁₃ m₁₃ ev hD' hC' hDC' hk₁₃ hns₁₃ hlE hRE
  refine ⟨m₁₃, hns₁₃, fun h₁₄ hs₁₄ => ?_⟩
  have up₁₄ : ∀ b o, h₁₂.get? b = some o → h₁₄.get? b = some o := fun b o e => hs₁₄.extBut b o (Nat.ne_of_lt (Nat.lt_of_lt_of_le (Heap.lt_size e) hC')) (hk₁₃ b o e)
  rw [← pure_law hu1 hrl hn] at hRE
  have nf₁₄ : ∀ b o, notFrame o → h₁₃.get? b = some o → h₁₄.get? b = some o := fun b o hno e => hs₁₄.extBut b o (fun q => by
      obtain ⟨oL, es, ep, hL', hd', _⟩ := hns₁₃
      subst q
      rw [hL'] at e; cases e; exact hno.1 _ _ hd') e
  refine rows_eq (s := ⟨h₁₄, gens, dr, _, os⟩) (hlP.at fun o e => up₁₄ _ o e) (IsList.nf hlE nf₁₄) (hRP.at fun b o _ e => up₁₄ b o e) (hRE.nf nf₁₄) hun ?_
  exact hQ h₁₄ _ fun b o e => up₁₄ b o (K₁₂.F.keep b o e)
end
end Mine
end

section
open PySem PySem.W PySem.Calls PyProof.Rows
set_option Elab.async false
set_option maxRecDepth 100000
namespace Mine

def drawNames : List (Str × NameKind) := [(".0", .local), ("k", .local), ("len", .globalImplicit), ("cells", .free)]

section
variable {prog : Program} {w : World} {A : Around} {L fa : Addr} {cd : Value} {g h : Heap} {m cm : Str → Option Value} {lo : Nat} {gens : Array GenState} {dr : Drawn} {tk : Nat} {os : OsState}

set_option maxHeartbeats 4000000 in
/-- the octets of one row: a comprehension over a range held in a name -/
theorem octets_made {E : Value → Shared → Prop} {scope : Scope} {C rr : Addr} {cv : List Value} {cs : List Int} {a n : Nat} {t1 t2 t3 : Tok} {p1 p2 p3 p4 p5 p6 p7 p8 p9 p10 p11 p12 p13 p14 p15 p16 p17 p18 p19 : Pos} {k1 k2 k3 : Nat} {Q : Value → Shared → Prop}
    (hh : A.handled = none) (B : Base g) (K : LF g L (cellsFrom (L + 1) dLaw.scope.names []) lo h m cm) (hsk : scope.kind = .function) (hsn : scope.names = drawNames)
    (hats : m "ats" = some (.ref rr)) (hrr : IsRange h rr a ((a + n : Nat) : Int) 1 t1 t2 t3) (hC : cm "cells" = some (.ref C)) (hlC : h.IsList C cv.toArray) (hiC : IntsAre cv cs) (hcs : cs.length ≤ 61) (hb1 : a ≤ 1000) (hn : n ≤ 100)
    (hQ : ∀ D h' tk' vs ns, h.get? D = none → (∀ b o, h.get? b = some o → h'.get? b = some o) → h'.IsList D (List.toArray vs) → IntsAre vs ns → Oct ns → ns.length = n → Q (.ref D) ⟨h', gens, dr, tk', os⟩) :
    wpAny (model prog w) A (eval (.ListComp (.BinOp (.IfExp (.Compare (.Name "k" p1) [.Lt] [.Call (.Name "len" p2) [.Name "cells" p3] [] p4] p5) (.Subscript (.Name "cells" p6) (.Name "k" p7) p8) (.BinOp (.BinOp (.Constant (.int 90) k1 p9) .Mult (.Name "k" p10) p11) .Add (.Constant (.int 7) k2 p12) p13) p14) .Mod (.Constant (.int 256) k3 p15) p16)
      [⟨.Name "k" p17, .Name "ats" p18, [], 0⟩] scope p19) (lawE L fa cd)) Q E ⟨h, gens, dr, tk, os⟩ := by
  have hcell : ∀ y ∈ scope.names, y.2 ≠ .cell := by rw [hsn]; decide
  have hclos : closureFor scope (lawE L fa cd) = pure [(Str.ofString "cells", L + 1)] := by unfold closureFor; rw [hsn]; rfl
  refine wpAny_ListComp_free (fun _ => true) (fun _ y => ∃ n t, y = .int n t ∧ 0 ≤ n ∧ n < 256) hclos hcell hsk (by rw [hsn]; decide) (by rw [hsn]; rfl) ?_
  refine ldLoc (s := ⟨h, gens, dr, _, os⟩) K.F hats ?_
  refine range_it (n := n) hrr (by omega) (by omega) (by omega) fun h₁ hk₁ hit => ?_
  dsimp only at hk₁ hit ⊢
  generalize hI : h.objs.size = I at hit ⊢
  have hIlt : I < h₁.objs.size := Heap.lt_size hit
  have K₁ := K.kept hk₁
  refine ⟨I, [I], [I], n, _, _, rfl, Walks.range hh I a 1 n, by simp only [sizeLine]; omega, hit, ?_, ?_, ?_⟩
  · intro b hb; rw [List.mem_singleton.mp hb]; exact hIlt
  · constructor
    · intro Ca i v s₃ m₃ E' _ _ _ _ _ _
      exact wpAny_pure ⟨rfl, s₃.heap, s₃.toks, rfl, fun _ _ e => e⟩
    · rintro Ca i v s₃ m₃ E' hCa ⟨tv, rfl⟩ _ hn₃ hm₃ hk₃ _
      obtain ⟨n', mg, mb, ga, gb, gc, d1, d2, _⟩ := id B
      have hke : (compEnvC scope [(Str.ofString "cells", L + 1)] Ca (lawE L fa cd)).scope.kind = .function := hsk
      have j1 : (compEnvC scope [(Str.ofString "cells", L + 1)] Ca (lawE L fa cd)).kindOf "k" = some .local := by
        show (List.map _ scope.names).lookup _ = _
        rw [hsn]; rfl
      have j2 : (compEnvC scope [(Str.ofString "cells", L + 1)] Ca (lawE L fa cd)).kindOf "len" = some .globalImplicit := by
        show (List.map _ scope.names).lookup _ = _
        rw [hsn]; rfl
      have j3 : (compEnvC scope [(Str.ofString "cells", L + 1)] Ca (lawE L fa cd)).kindOf "cells" = some .cell := by
        show (List.map _ scope.names).lookup _ = _
        rw [hsn]; rfl
      have up₃ : ∀ b o, h.get? b = some o → s₃.heap.get? b = some o := fun b o e => hk₃ b o (by simp only [List.mem_singleton]; exact hI ▸ Nat.ne_of_lt (Heap.lt_size e)) (hk₁ b o e)
      have K₃ := K.kept up₃
      have x1 : s₃.heap.IsCell (L + 1) (some (.ref C)) := hC ▸ K₃.X.cell "cells" (L + 1) rfl
      have l1 := hlC.at fun o e => up₃ _ o e
      have hsz : cv.toArray.size = cs.length := by rw [List.size_toArray, hiC.length]
      have fin : ∀ (c1 : Int) (t1 : Tok) (s' : Shared), (∃ h' tk', s' = { s₃ with heap := h', toks := tk' } ∧ ∀ b o, s₃.heap.get? b = some o → h'.get? b = some o) →
          wpAny (model prog w) A (eval (.Constant (.int 256) k3 p15) (compEnvC scope [(Str.ofString "cells", L + 1)] Ca (lawE L fa cd))) (fun b s₂ => wpAny (model prog w) A (binaryOp .Mod (.int c1 t1) b) (fun y s₄ => (∃ n t, y = Value.int n t ∧ 0 ≤ n ∧ n < 256) ∧ Keeps s₃ s₄) E' s₂) E' s' := by
        rintro c1 t1 s' ⟨h', tk', rfl, hk'⟩
        refine wpAny_Constant_int (mod_int (by decide) ⟨⟨_, _, rfl, ?_⟩, h', _, rfl, hk'⟩)
        rw [Int.fmod_eq_emod_of_nonneg _ (by decide)]
        omega
      refine wpAny_BinOp (wpAny_IfExp (wpAny_isTrue_Compare1 (wpAny_Name (wpAny_loadName_local hke j1 hn₃ hm₃ ?_) (by decide))))
      refine wpAny_Call_NameR (Name_function_global hke j2 (loadGlobal_builtin (v := .builtin "len") (env := compEnvC scope [(Str.ofString "cells", L + 1)] Ca (lawE L fa cd)) (ga.keeps K₃.F.keep) d2 (gb.keeps K₃.F.keep) ((gc _ (by decide)).trans (by decide +kernel)) ?_) (by decide))
      refine callWith_builtin1 (args_cons (wpAny_Name (wpAny_loadName_cell hke j3 rfl x1 (args_nil (call_len_list l1 (by omega) (lt_int (wpAny_truthy_bool ?_))))) (by decide)))
      by_cases hlt : (a : Int) + (i : Int) * 1 < (cv.toArray.size : Int)
      · rw [if_pos (decide_eq_true hlt)]
        refine Subscript_ (wpAny_Name (wpAny_loadName_cell hke j3 rfl x1 (wpAny_Name (wpAny_loadName_local hke j1 hn₃ hm₃ ?_) (by decide))) (by decide))
        obtain ⟨c1, hc1⟩ : ∃ c1, cs[((a : Int) + (i : Int) * 1).toNat]? = some c1 := ⟨cs[((a : Int) + (i : Int) * 1).toNat]'(by omega), List.getElem?_eq_getElem _⟩
        obtain ⟨t1, hv1⟩ := hiC.get _ c1 hc1
        exact sub_list (s := { s₃ with toks := _ }) l1 (by omega) (by omega) (by simpa using hv1) (fin c1 t1 _ ⟨s₃.heap, _, rfl, fun _ _ e => e⟩)
      · rw [if_neg (by simpa using hlt)]
        refine wpAny_BinOp (wpAny_BinOp (wpAny_Constant_int (wpAny_Name (wpAny_loadName_local hke j1 hn₃ hm₃ ?_) (by decide))))
        refine mul_int (hm := .of_left (by decide)) (wpAny_Constant_int (add_int ?_))
        exact fin _ _ _ ⟨s₃.heap, _, rfl, fun _ _ e => e⟩
  · intro D h' tk' ys vs hD hl' hpl' hlen hP hF hk'
    obtain ⟨ns, hi', hnl, hp⟩ := paired_ints (p := fun n => 0 ≤ n ∧ n < 256) (fun v y ⟨n, t, e, q⟩ => ⟨n, t, e, q⟩) hF
    refine hQ D h' tk' ys.toList ns ?_ (fun b o e => hk' b o (by simp only [List.mem_singleton]; exact hI ▸ Nat.ne_of_lt (Heap.lt_size e)) (hk₁ b o e)) (by simpa using hl') hi' hp (by rw [hnl, filter_true, hlen])
    cases hq : h.get? D with
    | none => rfl
    | some o => rw [hk₁ _ _ hq] at hD; cases hD
end
end Mine
end

section
open PySem PySem.W PySem.Calls PyProof.Rows
set_option Elab.async false
set_option maxRecDepth 100000
namespace Mine

section
variable {prog : Program} {w : World} {A : Around} {L fa : Addr} {cd : Value} {g h : Heap} {m cm : Str → Option Value} {lo : Nat} {gens : Array GenState} {dr : Drawn} {tk : Nat} {os : OsState}

/-- what stands between two turns of the first loop -/
structure Tab (g : Heap) (L lo C T I : Nat) (cm : Str → Option Value) (wd ht way u : Nat) (tw th ty : Tok) (cv : List Value) (gens : Array GenState) (dr : Drawn) (os : OsState) (i : Nat) (s : Shared) : Prop where
  ex : ∃ h tk m rows tv, s = ⟨h, gens, dr, tk, os⟩ ∧ LF g L (cellsFrom (L + 1) dLaw.scope.names []) lo h m cm ∧ m "wide" = some (.int wd tw) ∧ m "high" = some (.int ht th) ∧ m "way" = some (.int way ty) ∧
    h.IsList C cv.toArray ∧ PlainL h T (List.toArray tv) ∧ RowsAre h [T, I] tv rows ∧ rows.length = i ∧ (∀ r ∈ rows, r.length = wd * u ∧ Oct r)

set_option maxHeartbeats 8000000 in
theorem law_tab {R : Flow → Shared → Prop} {C : Addr} {cv : List Value} {cs : List Int} {u wd ht way : Nat} {tu tw th ty : Tok} (hh : A.handled = none) (B : Base g) (K : LF g L (cellsFrom (L + 1) dLaw.scope.names []) lo h m cm)
    (hmw : m "wide" = some (.int wd tw)) (hmh : m "high" = some (.int ht th)) (hmy : m "way" = some (.int way ty)) (hcu : cm "unit" = some (.int u tu)) (hcC : cm "cells" = some (.ref C)) (hlC : h.IsList C cv.toArray) (hiC : IntsAre cv cs) (hcs : cs.length ≤ 61)
    (hu2 : u ≤ 4) (hw2 : wd ≤ 4) (hh2 : ht ≤ 4)
    (hQ : ∀ h' tk' m' cm' T rows tv, LF g L (cellsFrom (L + 1) dLaw.scope.names []) lo h' m' cm' → m' "wide" = some (.int wd tw) → m' "high" = some (.int ht th) → m' "way" = some (.int way ty) → cm' "unit" = some (.int u tu) → cm' "table" = some (.ref T) → h'.IsList T (List.toArray tv) → RowsAre h' [] tv rows →
      rows.length = ht → (∀ r ∈ rows, r.length = wd * u ∧ Oct r) → wpC (model prog w) A (execs (dLaw.body.drop 5) (lawE L fa cd)) R ⟨h', gens, dr, tk', os⟩) :
    wpC (model prog w) A (execs (dLaw.body.drop 3) (lawE L fa cd)) R ⟨h, gens, dr, tk, os⟩ := by
  -- the empty list
  refine wpC_execs_cons (wpC_any (wpAny_Assign_Name (List_ (args_nil (mk_list (s := ⟨h, gens, dr, _, os⟩) (xs := []) (fun h₁ hk₁ hg₁ => ?_) (by simp))))))
  dsimp only at hk₁ hg₁ ⊢
  have loT : lo ≤ h.objs.size := K.size
  have K₁ := K.kept hk₁
  have hlC₁ := hlC.at fun o e => hk₁ _ o e
  have hCT : C ≠ h.objs.size := by obtain ⟨_, e, _⟩ := hlC; exact Nat.ne_of_lt (Heap.lt_size e)
  generalize h.objs.size = T at *
  clear hk₁ hlC K
  have nfl : ∀ {xs : List Value}, notFrame { cls := .type "list", data := .seq xs.toArray } := ⟨fun _ _ q => (nomatch q), fun _ q => nomatch q⟩
  refine stCe (s := ⟨h₁, gens, dr, _, os⟩) K₁ rfl fun h₅ K₅ hk₅ => ?_
  have hgT := hk₅ _ _ nfl hg₁
  have hlC₅ := IsList.nf hlC₁ hk₅
  have c1 : (fun y => if y = (Str.ofString "table") then some (Value.ref T) else cm y) "table" = some (.ref T) := if_pos rfl
  have c2 : (fun y => if y = (Str.ofString "table") then some (Value.ref T) else cm y) "unit" = some (.int u tu) := (if_neg (by decide)).trans hcu
  have c3 : (fun y => if y = (Str.ofString "table") then some (Value.ref T) else cm y) "cells" = some (.ref C) := (if_neg (by decide)).trans hcC
  generalize (fun y => if y = (Str.ofString "table") then some (Value.ref T) else cm y) = cm₅ at K₅ c1 c2 c3
  dsimp only
  clear hk₅ K₁ hg₁ hlC₁
  -- the loop over the rows
  refine wpC_execs_cons (wpC_For (wpAny_Call_NameR (gl_range (s := ⟨h₅, gens, dr, _, os⟩) K₅.F B (callWith_type1 (args_cons (ldLoc (s := ⟨h₅, gens, dr, _, os⟩) K₅.F hmh (args_nil (call_range_1 ?_))))) rfl rfl)) ?_)
  rotate_left
  · intro _; rfl
  dsimp only
  refine range_it (n := ht) (IsRange.new ..) (by omega) (by omega) (by omega) fun h₆ hk₆ hit => ?_
  dsimp only at hk₆ hit ⊢
  have up₆ : ∀ b o, h₅.get? b = some o → h₆.get? b = some o := fun b o e => hk₆ b o (Heap.get?_push_of_some _ e)
  have hIge : ∀ ob : Obj, h₅.objs.size ≤ (h₅.push ob).objs.size := fun ob => by rw [Heap.size_push]; exact Nat.le_succ _
  have hIge := hIge { cls := .type "range", data := .fields #[.int 0 tk, .int ht th, .int 1 (tk + 1)] }
  generalize (h₅.push _).objs.size = I at hit hIge ⊢
  have loI : lo ≤ I := Nat.le_trans K₅.size hIge
  have nTI : T ≠ I := Nat.ne_of_lt (Nat.lt_of_lt_of_le (Heap.lt_size hgT) hIge)
  have nCI : C ≠ I := by obtain ⟨_, e, _⟩ := hlC₅; exact Nat.ne_of_lt (Nat.lt_of_lt_of_le (Heap.lt_size e) hIge)
  refine codeC_forWalk (Walks.range hh I 0 1 ht) (Tab g L lo C T I cm₅ wd ht way u tw th ty cv gens dr os) ?_ hit ?_ ?_ ?_
  · rintro i s₁ h' tk' ⟨h, tk, m, rows, tv, rfl, K, e1, e2, e3, l1, l5, l6, l7, l8⟩ hk
    exact ⟨h', tk', m, rows, tv, rfl, K.ne loI hk, e1, e2, e3, l1.at fun o e => hk _ o nCI e, let ⟨o, n, e, q⟩ := l5; ⟨o, n, hk _ _ nTI e, q⟩,
      l6.at fun b o hb e => hk b o (fun q => hb (by simp [q])) e, l7, l8⟩
  · exact ⟨h₆, _, m, [], [], rfl, K₅.kept up₆, hmw, hmh, hmy, hlC₅.at fun o e => up₆ _ o e, ⟨_, _, up₆ _ _ hgT, rfl, rfl, rfl⟩, .nil, rfl, fun _ hr => nomatch hr⟩
  · rintro i v s₁ hi ⟨tv', rfl⟩ ⟨h, tk, m, rows, tv, rfl, K, e1, e2, e3, l1, l5, l6, l7, l8⟩ hS
    refine stL (s := ⟨h, gens, dr, tk, os⟩) K fun h₁ K₁ hk₁ => ?_
    have nfI : notFrame { cls := .type "range_iterator", data := .fields #[rawInt (0 + ((i + 1 : Nat) : Int) * 1), rawInt ((ht : Int) - ((i + 1 : Nat) : Int)), rawInt 1] } := ⟨fun _ _ q => (nomatch q), fun _ q => nomatch q⟩
    have hS₁ := hk₁ _ _ nfI hS
    have l1 := IsList.nf l1 hk₁
    have l5 := PlainL.nf l5 hk₁
    have l6 := l6.nf hk₁
    dsimp only
    have ez : (0 : Int) + (i : Int) * 1 = i := by omega
    rw [ez] at K₁
    have f1 : (fun y => if y = (Str.ofString "y") then some (Value.int (i : Int) tv') else m y) "wide" = some (.int wd tw) := (if_neg (by decide)).trans e1
    have f2 : (fun y => if y = (Str.ofString "y") then some (Value.int (i : Int) tv') else m y) "high" = some (.int ht th) := (if_neg (by decide)).trans e2
    have f3 : (fun y => if y = (Str.ofString "y") then some (Value.int (i : Int) tv') else m y) "way" = some (.int way ty) := (if_neg (by decide)).trans e3
    have f4 : (fun y => if y = (Str.ofString "y") then some (Value.int (i : Int) tv') else m y) "y" = some (.int i tv') := if_pos rfl
    generalize (fun y => if y = (Str.ofString "y") then some (Value.int (i : Int) tv') else m y) = m₁ at K₁ f1 f2 f3 f4
    -- the range of the row
    have hwu : wd * u ≤ 16 := Nat.mul_le_mul hw2 hu2
    have p1 : (i : Int) * wd = ((i * wd : Nat) : Int) := by simp
    have p2 : (1 : Int) + ((i * wd : Nat) : Int) * u = ((1 + i * wd * u : Nat) : Int) := by simp
    have p3 : ((i : Int) + 1) * wd = (((i + 1) * wd : Nat) : Int) := by simp
    have p4 : (1 : Int) + (((i + 1) * wd : Nat) : Int) * u = (((1 + i * wd * u) + wd * u : Nat) : Int) := by
      have : (i + 1) * wd * u = i * wd * u + wd * u := by rw [Nat.succ_mul, Nat.add_mul]
      rw [← Int.natCast_mul, this]; omega
    have b1 : i * wd ≤ 16 := Nat.mul_le_mul (by omega : i ≤ 4) hw2
    have b2 : i * wd * u ≤ 64 := Nat.mul_le_mul b1 hu2
    have b3 : (i + 1) * wd ≤ 20 := Nat.mul_le_mul (by omega : i + 1 ≤ 5) hw2
    refine wpC_execs_cons (wpC_any (wpAny_Assign_Name ?_))
    refine wpAny_Call_NameR (gl_range (s := ⟨h₁, gens, dr, _, os⟩) K₁.F B (callWith_type1 ?_) rfl rfl)
    refine args_cons (wpAny_BinOp (wpAny_Constant_int ?_))
    refine wpAny_BinOp (wpAny_BinOp (ldLoc (s := ⟨h₁, gens, dr, _, os⟩) K₁.F f4 (ldLoc (s := ⟨h₁, gens, dr, _, os⟩) K₁.F f1 ?_)))
    refine mul_int (hm := .of_left (intBits_le_64 (by omega) (by omega))) ?_
    rw [p1]
    refine ldC (s := ⟨h₁, gens, dr, _, os⟩) K₁.X rfl c2 ?_
    refine mul_int (hm := .of_left (intBits_le_64 (by omega) (by omega))) (add_int ?_)
    rw [p2]
    refine args_cons (wpAny_BinOp (wpAny_Constant_int ?_))
    refine wpAny_BinOp (wpAny_BinOp (wpAny_BinOp (ldLoc (s := ⟨h₁, gens, dr, _, os⟩) K₁.F f4 (wpAny_Constant_int (add_int (ldLoc (s := ⟨h₁, gens, dr, _, os⟩) K₁.F f1 ?_))))))
    refine mul_int (hm := .of_right (intBits_le_64 (by omega) (by omega))) ?_
    rw [p3]
    refine ldC (s := ⟨h₁, gens, dr, _, os⟩) K₁.X rfl c2 ?_
    refine mul_int (hm := .of_left (intBits_le_64 (by omega) (by omega))) (add_int ?_)
    rw [p4]
    refine args_nil (call_range_2 ?_)
    dsimp only
    generalize i * wd * u = iwu at b2 ⊢
    have hrrT : h₁.objs.size ≠ T := by obtain ⟨o, n, e, _⟩ := l5; exact Nat.ne_of_gt (Heap.lt_size e)
    have hrrI : h₁.objs.size ≠ I := Nat.ne_of_gt (Heap.lt_size hS₁)
    refine stL (s := ⟨h₁.push _, gens, dr, _, os⟩) (K₁.kept fun b o e => Heap.get?_push_of_some _ e) fun h₃ K₃ hk₃ => ?_
    obtain ⟨t1, t2, t3, hrr⟩ : ∃ t1 t2 t3, IsRange h₃ h₁.objs.size ((1 + iwu : Nat) : Int) ((1 + iwu + wd * u : Nat) : Int) 1 t1 t2 t3 := ⟨_, _, _, hk₃ _ _ (by constructor <;> (intros; intro q; cases q)) (IsRange.new ..)⟩
    have l1 := IsList.nf (l1.at fun o e => Heap.get?_push_of_some _ e) hk₃
    have l5 := PlainL.nf (l5.keeps fun b o e => Heap.get?_push_of_some _ e) hk₃
    have l6 := (l6.at fun b o _ e => Heap.get?_push_of_some _ e).nf hk₃
    have hS₃ := hk₃ _ _ nfI (Heap.get?_push_of_some _ hS₁)
    generalize h₁.objs.size = rr at *
    have g1 : (fun y => if y = (Str.ofString "ats") then some (Value.ref rr) else m₁ y) "wide" = some (.int wd tw) := (if_neg (by decide)).trans f1
    have g2 : (fun y => if y = (Str.ofString "ats") then some (Value.ref rr) else m₁ y) "high" = some (.int ht th) := (if_neg (by decide)).trans f2
    have g3 : (fun y => if y = (Str.ofString "ats") then some (Value.ref rr) else m₁ y) "way" = some (.int way ty) := (if_neg (by decide)).trans f3
    have g4 : (fun y => if y = (Str.ofString "ats") then some (Value.ref rr) else m₁ y) "ats" = some (.ref rr) := if_pos rfl
    generalize (fun y => if y = (Str.ofString "ats") then some (Value.ref rr) else m₁ y) = m₃ at K₃ g1 g2 g3 g4
    dsimp only
    clear hk₃ hk₁ hS₁ K₁ K
    -- the octets of the row are appended
    refine wpC_execs_cons (wpC_any (wpAny_Expr (wpAny_Call_append rfl rfl rfl rfl (ldC (s := ⟨h₃, gens, dr, _, os⟩) K₃.X rfl c1 ⟨T, _, rfl, l5, ?_⟩))))
    refine octets_made (a := 1 + iwu) (n := wd * u) hh B K₃ rfl rfl g4 hrr c3 l1 hiC hcs (by omega) (by omega) fun Bq h₅ tk₅ bv bs hBq hk₅ hlB hiB hob hbl => ?_
    have l5' := PlainL.nf l5 fun b o _ e => hk₅ b o e
    refine list_append_plainL (s := ⟨h₅, gens, dr, _, os⟩) l5' (fun h₆ hP₆ hs₆ => ?_) (by rw [List.size_toArray, l6.length]; simp only [sizeLine]; omega)
    have bT : Bq ≠ T := fun q => by obtain ⟨o, n, e, _⟩ := l5; rw [← q, hBq] at e; cases e
    have bI : Bq ≠ I := fun q => by rw [← q, hBq] at hS₃; cases hS₃
    refine wpC_execs_nil ⟨rfl, ⟨h₆, _, m₃, rows ++ [bs], tv ++ [.ref Bq], rfl, (K₃.kept hk₅).ne loT fun b o hb e => hs₆.extBut b o hb e, g1, g2, g3, ?_, ?_, ?_, ?_, ?_⟩, fun o e => ?_⟩
    · exact (l1.at fun o e => hk₅ _ o e).at fun o e => hs₆.extBut _ o hCT e
    · obtain ⟨o, n, e, q1, q2, q3⟩ := hP₆
      exact ⟨o, n, e, q1, q2, by rw [q3]; simp⟩
    · refine RowsAre.snoc (xs := bv) (by simp [bT, bI]) (hlB.at fun o e => hs₆.extBut _ o bT e) hiB ((l6.at fun b o _ e => hk₅ b o e).at fun b o hb e => hs₆.extBut b o (fun q => hb (by simp [q])) e)
    · simp [l7]
    · intro r hr
      rcases List.mem_append.mp hr with hr | hr
      · exact l8 r hr
      · rw [List.mem_singleton.mp hr]
        exact ⟨hbl, hob⟩
    · have e' : h.get? I = some o := e
      rw [hS] at e'; cases e'
      exact hs₆.extBut _ _ (Ne.symm nTI) (hk₅ _ _ hS₃)
  · rintro s' ⟨h, tk, m, rows, tv, rfl, K, e1, e2, e3, l1, l5, l6, l7, l8⟩
    exact hQ h tk m cm₅ T rows tv K e1 e2 e3 c2 c1 l5.isList l6.less l7 l8
end
end Mine
end

section
open PySem PySem.W PySem.Calls PyProof.Rows
set_option Elab.async false
set_option maxRecDepth 100000
namespace Mine

theorem cells_cs (L : Nat) : cellsFrom (L + 1) dLaw.scope.names [] = [(Str.ofString "told", L + 4), (Str.ofString "table", L + 3), (Str.ofString "unit", L + 2), (Str.ofString "cells", L + 1)] := by rfl

def cellsOf (ns : List Int) : List Int := ns.take 49 ++ [(0 : Int)].drop (ns.take 1).length
theorem cellsOf_len (ns : List Int) : 1 ≤ (cellsOf ns).length ∧ (cellsOf ns).length ≤ 61 := by
  unfold cellsOf
  cases ns with
  | nil => simp
  | cons a r => simp; omega

section
variable {prog : Program} {w : World} {A : Around} {s : Shared} {fa c' l : Addr} {vs : List Value} {ns : List Int}

set_option maxHeartbeats 8000000 in
theorem law_call {Q : Value → Shared → Prop} (hroom : A.depth + 2 < recursionLimit) (hun : A.units + 64 < cLine) (hh : A.handled = none) (B : Base s.heap) (hf : FnAt s.heap fa c' dLaw) (hl : s.heap.IsList l vs.toArray) (hi : IntsAre vs ns) (hz : ns.length ≤ 16777216)
    (hQ : ∀ h' tk, (∀ b o, s.heap.get? b = some o → h'.get? b = some o) → Q (.bool true) { s with heap := h', toks := tk }) :
    wpC (model prog w) A (call (.ref fa) [.ref l]) Q s := by
  obtain ⟨o, pm, doc, ho, hd, hcd⟩ := hf
  obtain ⟨g, gens, dr, tk0, os⟩ := s
  dsimp only at *
  refine wpC_call (call_cells_C (by omega) ho hd B.nolimit hcd (binds := [("script", .ref l)]) (by rfl) (by intro x hx; simp only [List.mem_singleton] at hx; subst hx; exact .inl rfl) (fun h₀ tk F₀ X₀ => ?_) rfl rfl rfl)
  show wpC _ (A.deeper _) (execs dLaw.body (lawE g.objs.size fa (.ref c'))) _ _
  dsimp only at *
  have hroom' : (A.deeper (lawE g.objs.size fa (.ref c'))).depth + 1 < recursionLimit := hroom
  have hun' : (A.deeper (lawE g.objs.size fa (.ref c'))).units + 8 < cLine := by rw [Around.deeper_units]; omega
  generalize hA : A.deeper (lawE g.objs.size fa (.ref c')) = A' at hroom' hun' ⊢
  have hh' : A'.handled = none := by rw [← hA]; exact hh
  clear hA
  generalize hLL : g.objs.size = L at F₀ X₀ ⊢
  have K₀ : LF g L (cellsFrom (L + 1) dLaw.scope.names []) (L + 5) h₀ _ _ := ⟨F₀, X₀, Nat.lt_add_of_pos_right (by decide), fun n c hm => by
    rw [cells_cs] at hm
    simp only [List.mem_cons, List.not_mem_nil, or_false, Prod.mk.injEq] at hm
    rcases hm with ⟨_, rfl⟩ | ⟨_, rfl⟩ | ⟨_, rfl⟩ | ⟨_, rfl⟩ <;> exact Nat.add_lt_add_left (by decide) _, Str.ofString "told", L + 4, rfl, rfl⟩
  clear F₀ X₀
  -- the first statement
  have hl₀ := hl.at fun o e => K₀.F.keep _ o e
  refine wpC_execs_cons (wpC_Assign_Name (wpC_any (wpAny_BinOp (Subscript_ (ldLoc K₀.F rfl (Slice_ (part_none (part_some (wpAny_Constant_int (part_none ?_))))))))))
  refine sub_slice (s := ⟨_, gens, dr, _, os⟩) (hl₀.at fun o e => Heap.get?_push_of_some _ e) hi (Heap.IsSliceOf.new ..) .none (.int 49 _) .none (by simp) (by simp only [sizeLine]; omega) fun h₁ ws₁ hk₁ hl₁ hi₁ hs₁ => ?_
  dsimp only at hk₁ hl₁ hs₁ ⊢
  have K₁ := K₀.kept fun b o e => hk₁ b o (Heap.get?_push_of_some _ e)
  rw [pick_upto (by decide)] at hi₁
  generalize (h₀.push _).objs.size = l1 at hl₁ hs₁ ⊢
  clear hk₁ hl₀ K₀
  have hl₁' := hl.at fun o e => K₁.F.keep _ o e
  refine Subscript_ (List_ (args_cons (wpAny_Constant_int (args_nil (mk_list (s := ⟨h₁, gens, dr, _, os⟩) (xs := [.int 0 _]) (fun h₂ hk₂ hg₂ => ?_) (by simp)))))) 
  dsimp only at hk₂ hg₂ ⊢
  have K₂ := K₁.kept hk₂
  have hlz : h₂.IsList h₁.objs.size (List.toArray [.int 0 _]) := ⟨_, hg₂, rfl, 0, rfl⟩
  have hl1₂ := hl₁.at fun o e => hk₂ _ o e
  generalize h₁.objs.size = lz at hlz ⊢
  clear hk₂ hg₂ hl₁ K₁ hl₁'
  refine Slice_ (part_some (wpAny_Call_NameR (gl_len K₂.F B (callWith_builtin1 (args_cons (Subscript_ (ldLoc K₂.F rfl (Slice_ (part_none (part_some (wpAny_Constant_int (part_none ?_)))))))) ) rfl rfl)))
  refine sub_slice (s := ⟨_, gens, dr, _, os⟩) ((hl.at fun o e => K₂.F.keep _ o e).at fun o e => Heap.get?_push_of_some _ e) hi (Heap.IsSliceOf.new ..) .none (.int 1 _) .none (by simp) (by simp only [sizeLine]; omega) fun h₃ ws₃ hk₃ hl₃ hi₃ hs₃ => ?_
  dsimp only at hk₃ hl₃ hs₃ ⊢
  replace hk₃ : ∀ b o, h₂.get? b = some o → h₃.get? b = some o := fun b o e => hk₃ b o (Heap.get?_push_of_some _ e)
  have K₃ := K₂.kept hk₃
  rw [pick_upto (by decide)] at hi₃
  refine args_nil (call_len_list (s := ⟨h₃, gens, dr, _, os⟩) hl₃ (by rw [List.size_toArray, hi₃.length]; have := List.length_take_le 1 ns; simp only [Int.toNat_one] at *; omega) (part_none (part_none ?_)))
  dsimp only
  refine sub_slice (s := ⟨_, gens, dr, _, os⟩) (ns := [0]) ((hlz.at fun o e => hk₃ _ o e).at fun o e => Heap.get?_push_of_some _ e) (.cons 0 _ .nil) (Heap.IsSliceOf.new ..) (.int _ _) .none .none (by simp) (by simp [sizeLine]) fun h₄ ws₄ hk₄ hl₄ hi₄ hs₄ => ?_
  dsimp only at hk₄ hl₄ hs₄ ⊢
  replace hk₄ : ∀ b o, h₃.get? b = some o → h₄.get? b = some o := fun b o e => hk₄ b o (Heap.get?_push_of_some _ e)
  have K₄ := K₃.kept hk₄
  rw [pick_from (by omega), Int.toNat_natCast, List.size_toArray, hi₃.length] at hi₄
  refine add_lists' (s := ⟨h₄, gens, dr, _, os⟩) ((hl1₂.at fun o e => hk₃ _ o e).at fun o e => hk₄ _ o e) hl₄ (fun h₅ hk₅ hl₅ => ?_) ?_
  rotate_left
  · rw [hi₁.length, hi₄.length]
    have := List.length_take_le 49 ns
    simp only [List.length_drop, List.length_take, List.length_singleton, sizeLine] at *
    omega
  dsimp only at hk₅ hl₅ ⊢
  have K₅ := K₄.kept hk₅
  have hi₅ : IntsAre (ws₁ ++ ws₄) (cellsOf ns) := hi₁.append hi₄
  have hC := K₄.size
  generalize h₄.objs.size = C at hl₅ hC ⊢
  generalize ws₁ ++ ws₄ = cv at hl₅ hi₅
  clear hl₄ hi₄ hk₄ hs₄ hk₃ hl₃ hi₃ hs₃ K₃ K₂ K₄ hl1₂ hlz hi₁
  have hcl := cellsOf_len ns
  generalize cellsOf ns = cs at hi₅ hcl
  refine stCe (s := ⟨h₅, gens, dr, _, os⟩) K₅ rfl fun h₆ K₆ hk₆ => ?_
  have hl₆ := IsList.nf hl₅ hk₆
  dsimp only
  clear hl₅ hk₆ hk₅ K₅ hs₁
  -- unit, wide, high
  obtain ⟨c0, hc0⟩ : ∃ c0, cs[0]? = some c0 := ⟨cs[0]'(by omega), List.getElem?_eq_getElem _⟩
  obtain ⟨t0, hv0⟩ := hi₅.get 0 c0 hc0
  have hv0' : cv.toArray[(0 : Int).toNat]? = some (.int c0 t0) := by simpa using hv0
  refine wpC_execs_cons (wpC_any (Assign_Tuple (Tuple_ ?_)))
  refine args_cons (wpAny_BinOp (wpAny_Constant_int (wpAny_BinOp (Subscript_ (ldC (s := ⟨h₆, _, _, _, _⟩) K₆.X rfl (if_pos rfl) (wpAny_Constant_int (sub_list (s := ⟨h₆, _, _, _, _⟩) hl₆ (by decide) (by decide) hv0' ?_)))))))
  refine wpAny_Constant_int (mod_int (by decide) (sub_int ?_))
  refine args_cons (wpAny_BinOp (wpAny_Constant_int (wpAny_BinOp (wpAny_BinOp (Subscript_ (ldC (s := ⟨h₆, _, _, _, _⟩) K₆.X rfl (if_pos rfl) (wpAny_Constant_int (sub_list (s := ⟨h₆, _, _, _, _⟩) hl₆ (by decide) (by decide) hv0' ?_))))))))
  refine wpAny_Constant_int (floordiv_int (by decide) (wpAny_Constant_int (mod_int (by decide) (sub_int ?_))))
  refine args_nil ?_
  dsimp only
  obtain ⟨u, hu, hu1, hu2⟩ : ∃ u : Nat, (3 : Int) - c0.fmod 3 = u ∧ 1 ≤ u ∧ u ≤ 4 := ⟨((3 : Int) - c0.fmod 3).toNat, by rw [Int.fmod_eq_emod_of_nonneg _ (by decide)]; omega, by rw [Int.fmod_eq_emod_of_nonneg _ (by decide)]; omega, by rw [Int.fmod_eq_emod_of_nonneg _ (by decide)]; omega⟩
  obtain ⟨wd, hwd, hw1, hw2⟩ : ∃ u : Nat, (4 : Int) - (c0.fdiv 3).fmod 4 = u ∧ 1 ≤ u ∧ u ≤ 4 := ⟨((4 : Int) - (c0.fdiv 3).fmod 4).toNat, by rw [Int.fmod_eq_emod_of_nonneg _ (by decide)]; omega, by rw [Int.fmod_eq_emod_of_nonneg _ (by decide)]; omega, by rw [Int.fmod_eq_emod_of_nonneg _ (by decide)]; omega⟩
  obtain ⟨ht, hht, ht1, ht2⟩ : ∃ u : Nat, (4 : Int) - (c0.fdiv 12).fmod 4 = u ∧ 1 ≤ u ∧ u ≤ 4 := ⟨((4 : Int) - (c0.fdiv 12).fmod 4).toNat, by rw [Int.fmod_eq_emod_of_nonneg _ (by decide)]; omega, by rw [Int.fmod_eq_emod_of_nonneg _ (by decide)]; omega, by rw [Int.fmod_eq_emod_of_nonneg _ (by decide)]; omega⟩
  obtain ⟨way, hwy, hy1, hy2⟩ : ∃ u : Nat, (4 : Int) - (c0.fdiv 48).fmod 4 = u ∧ 1 ≤ u ∧ u ≤ 4 := ⟨((4 : Int) - (c0.fdiv 48).fmod 4).toNat, by rw [Int.fmod_eq_emod_of_nonneg _ (by decide)]; omega, by rw [Int.fmod_eq_emod_of_nonneg _ (by decide)]; omega, by rw [Int.fmod_eq_emod_of_nonneg _ (by decide)]; omega⟩
  rw [hu, hwd]
  refine wpAny_newTuple ?_ (by simp [sizeLine])
  dsimp only
  refine wpAny_assign_Tuple (items := #[_, _]) hh' ⟨_, Heap.get?_push_size _ rfl, rfl, _, rfl⟩ rfl rfl fun h₇ hx₇ => ?_
  dsimp only at hx₇ ⊢
  have hk₇ : ∀ b o, h₆.get? b = some o → h₇.get? b = some o := fun b o e => hx₇ b o (fun q => by subst q; exact absurd (Heap.lt_size e) (by rw [Heap.size_push]; exact Nat.not_lt.mpr (Nat.le_succ _))) (Heap.get?_push_of_some _ e)
  have K₇ := K₆.kept hk₇
  have hl₇ := hl₆.at fun o e => hk₇ _ o e
  clear hx₇ K₆ hk₇ hl₆
  refine wpAny_assignInOrder_more (wpAny_assign_Name (stCe (s := ⟨h₇, gens, dr, _, os⟩) K₇ rfl fun h₈ K₈ hk₈ => ?_))
  refine wpAny_assignInOrder_more (wpAny_assign_Name (stL (s := ⟨h₈, gens, dr, _, os⟩) K₈ fun h₉ K₉ hk₉ => ?_))
  refine wpAny_assignInOrder_none ?_
  have hl₉ := IsList.nf (IsList.nf hl₇ hk₈) hk₉
  dsimp only
  clear hl₇ hk₈ hk₉ K₇ K₈
  -- high, way
  refine wpC_execs_cons (wpC_any (Assign_Tuple_swapped (names := ["high", "way"]) (Tuple_ ?_)))
  refine args_cons (wpAny_BinOp (wpAny_Constant_int (wpAny_BinOp (wpAny_BinOp (Subscript_ (ldC (s := ⟨h₉, _, _, _, _⟩) K₉.X rfl ((if_neg (by decide)).trans (if_pos rfl)) (wpAny_Constant_int (sub_list (s := ⟨h₉, _, _, _, _⟩) hl₉ (by decide) (by decide) hv0' ?_))))))))
  refine wpAny_Constant_int (floordiv_int (by decide) (wpAny_Constant_int (mod_int (by decide) (sub_int ?_))))
  refine args_cons (wpAny_BinOp (wpAny_Constant_int (wpAny_BinOp (wpAny_BinOp (Subscript_ (ldC (s := ⟨h₉, _, _, _, _⟩) K₉.X rfl ((if_neg (by decide)).trans (if_pos rfl)) (wpAny_Constant_int (sub_list (s := ⟨h₉, _, _, _, _⟩) hl₉ (by decide) (by decide) hv0' ?_))))))))
  refine wpAny_Constant_int (floordiv_int (by decide) (wpAny_Constant_int (mod_int (by decide) (sub_int ?_))))
  refine args_nil ?_
  dsimp only
  rw [hht, hwy]
  clear hu hwd hht hwy hv0 hv0' hc0
  refine wpAny_newTuple ?_ (by simp [sizeLine])
  dsimp only
  refine wpAny_unpackItems_tuple (items := #[_, _]) hh' ⟨_, Heap.get?_push_size _ rfl, rfl, _, rfl⟩ fun h₁₁ hx₁₁ => ?_
  dsimp only at hx₁₁ ⊢
  have hk₁₁ : ∀ b o, h₉.get? b = some o → h₁₁.get? b = some o := fun b o e => hx₁₁ b o (fun q => by subst q; exact absurd (Heap.lt_size e) (by rw [Heap.size_push]; exact Nat.not_lt.mpr (Nat.le_succ _))) (Heap.get?_push_of_some _ e)
  have K₁₁ := K₉.kept hk₁₁
  have hl₁₁ := hl₉.at fun o e => hk₁₁ _ o e
  clear hx₁₁ hk₁₁ hl₉ K₉
  refine wpAny_assignInOrder_more (wpAny_bindName (stL (s := ⟨h₁₁, gens, dr, _, os⟩) K₁₁ fun h₁₂ K₁₂ hk₁₂ => ?_))
  refine wpAny_assignInOrder_more (wpAny_bindName (stL (s := ⟨h₁₂, gens, dr, _, os⟩) K₁₂ fun h₁₃ K₁₃ hk₁₃ => ?_))
  refine wpAny_assignInOrder_none ?_
  have hl₁₃ := IsList.nf (IsList.nf hl₁₁ hk₁₂) hk₁₃
  dsimp only
  clear hl₁₁ hk₁₂ hk₁₃ K₁₁ K₁₂
  refine law_tab (tw := _) (th := _) (ty := _) (tu := _) (u := u) (wd := wd) (ht := ht) (way := way) (C := C) (cv := cv) (cs := cs) hh' B K₁₃ ((if_neg (by decide)).trans ((if_neg (by decide)).trans (if_pos rfl))) (if_pos rfl) ((if_neg (by decide)).trans (if_pos rfl)) (if_pos rfl) ((if_neg (by decide)).trans (if_pos rfl)) hl₁₃ hi₅ hcl.2 hu2 hw2 ht2 ?_
  intro h' tk' m' cm' T rows tv K hmw hmh hmy hcu hcT hlT hR hrl hrows
  refine law_end hroom' hun' hh' B K hmw hmh hmy hcu hcT hlT hR hrl hrows hu1 hu2 hw1 hw2 ht1 ht2 hy1 hy2 fun h' tk hk => ?_
  exact hQ h' tk hk
end
end Mine
end

section
open PySem PySem.W PySem.Calls PyProof.Rows
set_option Elab.async false
set_option maxRecDepth 100000
namespace Mine

theorem caller_clean : Clean (⟨.builtin "claim.caller" {}, none, none, [], none⟩ : Ctx) := ⟨by decide +kernel, fun x hx => nomatch hx⟩

theorem thread_ends_C {prog : Program} {w : World} {t : Sem Fin} {s : Shared} {R : Result → Shared → Prop} (hreg : s.asleep)
    (h : wpC (model prog w) callerA t (fun fin s' => ∃ f, fin = .done f ∧ (R (.ok f) s' ∧ leftWithCleanup s'.gens = false)) s) :
    ∃ n r s' s'', runN (denote table) prog w n s ⟨t, .builtin "claim.caller" {}, default, []⟩ = .halted (outcomeOf r) s' ∧
      schedN (denote table) prog w n (.single s ⟨t, .builtin "claim.caller" {}, default, []⟩) = .halted (outcomeOf r) s' ∧ s'.forget = s''.forget ∧ R r s'' := by
  obtain ⟨n, r, s₁, s₂, hs, hn, hfo, hR⟩ := wp_halts_full (M := model prog w) (R := R) hreg (Sem.wp_mono _ _ t (fun fin p' s' h' => (by obtain ⟨f, rfl, hf⟩ := h'; exact hf)) (fun _ _ _ h' => h'.elim) default s (h _ default caller_in caller_clean))
  exact ⟨n, r, s₂, s₁, hn, hs, hfo, hR⟩

theorem callFrom_of_specC {c : ClaimW} {tree : List Value → Sem Fin} {w : World} {s : Shared} {free : Addr → Prop} {gens : Prop} {kept : Heap → Prop} (hz : s.asleep) (hgens : s.gens = #[])
    (hspec : ∀ args, c.pre args = true → WData.layableAll args = true →
      ∀ ord : List DictEntry → List DictEntry, (∀ l, (ord l).Perm l) →
      ∃ vs s₁, layAllW c.records (classAt s.heap) w.params ord args s = some (vs, s₁) ∧
        wpC (model c.prog w) callerA (tree vs) (fun fin s' => ∃ f, fin = .done f ∧ (c.Ends s args vs s₁ (.ok f) s' ∧ s'.os = s.os ∧ AllBare s'.gens ∧ kept s'.heap)) s₁) :
    c.CallFrom (fun vs => ⟨tree vs, .builtin "claim.caller" {}, default, []⟩) w free gens kept s := by
  intro args hpre hlay ord hord
  obtain ⟨vs, s₁, hlaid, hcode⟩ := hspec args hpre hlay ord hord
  have hal := layAllW_rest _ _ _ hlaid
  obtain ⟨k, r, s', s'', hrun, hsched, hfo, hcase, hos, hkp⟩ := thread_ends_C (prog := c.prog) (w := w) (t := tree vs) (s := s₁)
    (R := fun r s' => c.Ends s args vs s₁ r s' ∧ s'.os = s.os ∧ kept s'.heap)
    (Shared.asleep_of_life hal.2.2.2 hz)
    (wpC_mono hcode (by
      rintro fin s' ⟨f, e, h1, h2, h3, h4⟩
      exact ⟨f, e, ⟨h1, h2, h4⟩, leftWithCleanup_false_of_bare h3⟩))
  obtain ⟨eh, _, _, eo, _⟩ := Shared.forget_eq hfo
  have hcase := hcase.congr eh
  have hkp : kept s'.heap := by first | exact eh ▸ hkp | (rw [eh] at hkp; exact hkp) | (rw [← eh] at hkp; exact hkp)
  rw [← eo] at hos
  have hlife : s'.heap.life = s.heap.life := (runN_life _ _ _ hrun).trans hal.2.2.2
  refine ⟨vs, s₁, hlaid, k, _, s', hsched, ?_, (fun _ i x hx => by rw [hgens] at hx; simp at hx), hkp, by rw [hlife], Shared.rest_eq hos⟩
  rcases hcase with ⟨v, rfl, d1, d2, d3, d4, d5⟩ | ⟨e, ob, cls, rfl, d1, d2, d3, d4, d5⟩
  · exact .inl ⟨v, rfl, d1, d2, d3, fun b o y _ => d4 b o y, d5⟩
  · exact .inr ⟨e, ob, cls, rfl, d1, d2, d3, d4, fun b o y _ => d5 b o y⟩

abbrev WalkC (q : Program) (loose : List Str) (XP : (Str → Option Value) → Heap → Prop) (YP : World → Heap → Prop) (r : RowW) (d : DefRec) (kwd : List (Str × Expr)) : Prop :=
  ∀ (w : World) (s₀ s₁ : Shared) (mg mb : Str → Option Value), Ground q loose r.records XP w s₀ mg mb s₁.heap → YP w s₁.heap → ∀ (a : Addr) (o : Obj) (pm cd doc dV kV : Value), s₁.heap.get? a = some o →
    o.data = .func { docDef d.name d.params d.body d.scope pm cd doc with defaults := dV, kwdefaults := kV } → s₁.heap.CodeRec cd d.name → Dflts mg s₁.heap d.params kwd dV kV → mg d.name = some (.ref a) → s₁.gens = #[] →
    ∀ (args : List WData) (vals : List Value) (as : List Addr), r.claim.pre args = true → WData.layableAll args = true → ReadsAllW r.records (classAt s₀.heap) s₁.heap vals args as → WellAll w.params s₁.heap vals args → (∀ a ∈ as, (a == sysModules) = false) →
      wpC (model r.prog w) callerA (PySem.call (.ref a) vals) (fun v s' => GoodWG r.claim (classAt s₀.heap) (ExcName.means s₀.heap) args s₁ (.ok (.ret v)) s') s₁

theorem PySem.W.holds_open {r : OpenRow} {q : Program} {loose : List Str} {Xt : Shared → Bool} {XP : (Str → Option Value) → Heap → Prop} {α : Type} {Yf : Shared → α} {Ya : World → α} {YP : World → Heap → Prop} {d : DefRec} {kwd : List (Str × Expr)} {N : Nat}
    (left : LeftO r.prog q loose Xt Yf Ya N) (hY : ∀ w s, Yf s = Ya w → YP w s.heap) (hYk : ∀ w h h', YP w h → (∀ b o, h.get? b = some o → h'.get? b = some o) → YP w h')
    (hX : ∀ s, Xt s = true → XP (s.heap.nsMap mainGlobals) s.heap) (hXk : ∀ mg h h', XP mg h → (∀ b o, h.get? b = some o → h'.get? b = some o) → XP mg h')
    (hdef : defOf q r.name = some (d, kwd)) (hp : r.prog.theDef r.name = some (d.params, d.body, d.scope)) (hk : kwWritten? d.params.kwonlyargs d.params.kw_defaults = some kwd) (hRf : ∀ s, Xt s = true → RecFacts r.records s.heap) (hwr : (!r.writes || r.records.isEmpty) = true)
    (k1 : r.wellSaid = true) (ok : (chainsOk q && opensWell r.prog && (frees r.toRowW && r.within.isEmpty)) = true) (hb : r.prog.bare) (hw : r.toRowW.promised)
    (call : WalkC q loose XP YP r.toRowW d kwd) : r.Holds := by
  refine ⟨k1, hw, ?_⟩
  obtain ⟨ok, k5⟩ := Bool.and_eq_true_iff.mp ok
  obtain ⟨hch, o1⟩ := Bool.and_eq_true_iff.mp ok
  obtain ⟨k5, k6⟩ := Bool.and_eq_true_iff.mp k5
  obtain ⟨hsame, hu, ha, hap, hm⟩ := frees_parts k5
  refine ⟨⟨hb, o1, by show r.makers.map _ = []; rw [hm]; rfl⟩, hw.witness, fun w => ⟨(left.behind hX hch w).1, fun s' hs' => ?_⟩⟩
  obtain ⟨s₀, hf, hg0, s, hT, hz, hgens, hg, G00, y⟩ := (left.behind (XP := fun mg h => XP mg h ∧ RecFacts r.records h) (fun s hs => ⟨hX s hs, hRf s hs⟩) hch w).2 s' hs'
  have G0 : Ground q loose [] XP w s (s.heap.nsMap mainGlobals) (s.heap.nsMap builtinsNs) s.heap := ⟨G00.T, G00.B, G00.D, G00.TE, G00.TD, G00.W, G00.X.1, G00.cls, G00.has, G00.apart, G00.once, G00.K⟩
  have RF := G00.X.2
  have hT' := hT
  refine ⟨s₀, hf, hg0, s, hT, fun n hn => ?_, RF.1, RF.2.1, ?_⟩
  · obtain rfl : n = r.name := by split at hn <;> simp_all
    exact pinned_of_view hg G0 hdef hp hk
  have hgens : s.gens = #[] := Array.eq_empty_of_size_eq_zero (beq_iff_eq.mp hgens)
  have G : Ground q loose r.records XP w s _ _ s.heap := RF.ground G0
  refine callFrom_of_specC (c := r.toRowW.claim) hz hgens fun args hpre hlay ord hord => ?_
  obtain ⟨⟨vs, s₁⟩, hlaid⟩ := Option.isSome_iff_exists.mp (layAllW_isSome (P := w.params) (ord := ord) G.has args r.toRowW.args s (pre_splitW hpre).1)
  have keeps := layAllW_keeps _ _ _ hlaid
  have hal := layAllW_rest _ _ _ hlaid
  obtain ⟨as, hrd, hin, hold⟩ := reads_layAllW hord _ _ _ hlaid hlay s₁.heap (fun _ _ e => e)
  have L : Laid r.toRowW.records w s s₁ args vs as := ⟨⟨ord, hord, hlaid⟩, hrd, hin, hold, keeps, hal.1.trans hgens, hal.2.2.1⟩
  have G₁ := G.keeps hXk keeps
  obtain ⟨a, o, pm, cd, doc, dV, kV, h1, h2, h3, h4, h5⟩ := G₁.fn hdef
  have h := call w s s₁ _ _ G₁ (hYk _ _ _ (hY w s y) keeps) a o pm cd doc dV kV h2 h3 h4 h5 (defOf_name hdef ▸ h1) L.gens args vs as hpre hlay L.reads L.well (L.low G.low)
  have hi := ident_freeW hu ha hap
  have hwi : r.toRowW.claim.within = [] := List.isEmpty_iff.mp k6
  refine ⟨vs, s₁, hlaid, wpC_bindA (wpAny_nsGet G₁.T.g ?_)⟩
  rw [h1]
  exact wpC_bind (wpC_mono h fun v s' g => wpC_pure ⟨_, rfl, have z := g.laid (c := r.toRowW.claim) hsame hwi hi L; ⟨z.1, z.2.1, z.2.2, fun q => ⟨namesKept_of hT' hg _ keeps g.2.1.old, noTable hwr q⟩⟩⟩)
end Mine
end

section
open PySem PySem.W PyProof.Rows
set_option Elab.async false
set_option maxRecDepth 100000
namespace Mine
set_option maxHeartbeats 4000000 in
theorem base_of_top {p : Program} {loose : List Str} {mean : ExcName → Option Value} {mg mb : Str → Option Value} {h : Heap} (T : Top p loose mean mg mb h)
    (m1 : dSub ∈ recsOf p) (m2 : dUp ∈ recsOf p) (m3 : dAvg ∈ recsOf p) (m4 : dPae ∈ recsOf p) (m5 : dUnd ∈ recsOf p) (m6 : dLaw ∈ recsOf p)
    (hf : ((["range", "len", "abs", "bytearray", "zip", "list"] : List String).all fun x => !(startupNames.contains (Str.ofString x) || loose.contains (Str.ofString x) || ((recsOf p).map (·.name)).contains (Str.ofString x) || ((litsOf p).map (·.1)).contains (Str.ofString x) || ((clssOf p loose).map (·.name)).contains (Str.ofString x))) = true) :
    Base h ∧ ∃ fa c', mg "law" = some (.ref fa) ∧ FnAt h fa c' dLaw := by
  have fn : ∀ d ∈ recsOf p, ∃ f c', mg d.name = some (.ref f) ∧ FnAt h f c' d := fun d hd => by
    obtain ⟨a, o, pm, code, doc, e1, e2, e3, e4⟩ := T.fn d hd
    obtain ⟨c, oc, vs, tq, hc, r⟩ := id e4
    subst hc
    exact ⟨a, c, e1, o, pm, doc, e2, e3, e4⟩
  have fr : ∀ x ∈ (["range", "len", "abs", "bytearray", "zip", "list"] : List String), mg (Str.ofString x) = none := fun x hx => by
    have q := List.all_eq_true.mp hf x hx
    simp only [Bool.not_eq_true', Bool.or_eq_false_iff] at q
    obtain ⟨⟨⟨⟨q1, q2⟩, q3⟩, q4⟩, q5⟩ := q
    have nc : ∀ {l : List Str}, l.contains (Str.ofString x) = false → Str.ofString x ∉ l := fun hq hm => by rw [List.contains_iff_mem.mpr hm] at hq; cases hq
    exact T.free _ (nc q1) (nc q2) (nc q3) (nc q4) (nc q5)
  refine ⟨⟨T.nolimit, mg, mb, T.g, T.b, T.builtins, fr "range" (by simp), fr "len" (by simp), fr "abs" (by simp), fr "bytearray" (by simp), fr "zip" (by simp), fr "list" (by simp), ?_, ?_, ?_, ?_, ?_⟩, ?_⟩
  · obtain ⟨f, c, e, q⟩ := fn _ m1; exact ⟨f, c, e, q⟩
  · obtain ⟨f, c, e, q⟩ := fn _ m2; exact ⟨f, c, e, q⟩
  · obtain ⟨f, c, e, q⟩ := fn _ m3; exact ⟨f, c, e, q⟩
  · obtain ⟨f, c, e, q⟩ := fn _ m4; exact ⟨f, c, e, q⟩
  · obtain ⟨f, c, e, q⟩ := fn _ m5; exact ⟨f, c, e, q⟩
  · obtain ⟨f, c, e, q⟩ := fn _ m6; exact ⟨f, c, e, q⟩

set_option maxHeartbeats 8000000 in
theorem tst : PySem.Challenge.rw_bf5023_01.Holds := by
  w_on; o_law; k_head; (case hw => w_witness2)
  intro w s₀ s₁ mg mb G Y fa o pm cd doc dV kV ho hd hcd hD hmg hg args vals as hpre hlay hrd hwl hlo
  have T := G.T
  clear Y ho hd hcd hD
  obtain ⟨B, fa', c', e1, hf⟩ := base_of_top T (List.mem_of_getElem? (i := 0) rfl) (List.mem_of_getElem? (i := 1) rfl) (List.mem_of_getElem? (i := 2) rfl) (List.mem_of_getElem? (i := 3) rfl) (List.mem_of_getElem? (i := 4) rfl) (List.mem_of_getElem? (i := 5) rfl) (by decide +kernel)
  obtain rfl : fa' = fa := by
    have q : mg "law" = some (.ref fa) := hmg
    rw [e1] at q; cases q; rfl
  clear hmg G T e1
  wrow_args hpre hlay hrd hwl hlo
  rename_i hL _ _ _ hI _ hcond _
  have hcond' := hcond
  refine wpC_mono (law_call (Q := fun v s' => v = .bool true ∧ (∀ b o, s₁.heap.get? b = some o → s'.heap.get? b = some o) ∧ s'.os = s₁.os ∧ s'.gens = s₁.gens) (by decide) (by decide) rfl B hf hL hI (by omega) fun h' tk hk => ⟨rfl, hk, rfl, rfl⟩) fun v s' h => ?_
  obtain ⟨rfl, hk, ho', hg'⟩ := h
  refine GoodW.toG ⟨.inl ⟨.bool true, .bool true, [], rfl, ?_, .bool true, ?_, ?_⟩, hk, ho', hg'.trans hg⟩
  · intro cls; rfl
  · first | rfl | wrow_post | exact postW_of (by wrow_shape) (by wtm_val) (by str_meet; first | done | w_fin)
  · intro _; exact ⟨.nil, fun a ha => nomatch ha⟩
end Mine
end

theorem PySem.Challenge.cw_bf5023_01_holds : PySem.Challenge.rw_bf5023_01.Holds := by
  exact Mine.tst
