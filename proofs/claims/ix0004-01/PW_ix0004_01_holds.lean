import PyProof.Rows.All
import Wide.All
import OpenK.AllK
import Wide.FinOn
import Lean
import PySem.Challenge.RW_ix0004_01
set_option Elab.async false
set_option linter.all false
section
open PySem PySem.W PyProof.Rows PySem.Calls
set_option linter.deprecated false
set_option maxRecDepth 100000
namespace Mine
namespace BA
open Builtin
abbrev baObj (b : Array UInt8) : Obj := { cls := .type "bytearray", data := .bytearray b }
abbrev IsBA (h : Heap) (a : Addr) (b : Array UInt8) : Prop := h.get? a = some (baObj b)

theorem look_buffer : typeLookup (.type "bytearray") "__buffer__" = pure (some (.builtin "bytearray.__buffer__")) := by rw [typeLookup_type, builtinLookup_eq_fast]; kernel_rfl
theorem look_release : typeLookup (.type "bytearray") "__release_buffer__" = pure (some (.builtin "bytearray.__release_buffer__")) := by rw [typeLookup_type, builtinLookup_eq_fast]; kernel_rfl
theorem slot_len : Slot "bytearray" "__len__" "bytearray.__len__" :=
  .of (owner := "bytearray") (n := "__len__") (by rw [typeLookup_type, builtinLookup_eq_fast]; kernel_rfl) (by decide +kernel) (by decide +kernel) (by decide +kernel)
    (by first | exact .inl (by decide +kernel) | exact .inr (by decide +kernel)) (by rw [isSubtype_type]; kernel_rfl)
theorem slot_item : Slot "bytearray" "__getitem__" "bytearray.__getitem__" :=
  .of (owner := "bytearray") (n := "__getitem__") (by rw [typeLookup_type, builtinLookup_eq_fast]; kernel_rfl) (by decide +kernel) (by decide +kernel) (by decide +kernel)
    (by first | exact .inl (by decide +kernel) | exact .inr (by decide +kernel)) (by rw [isSubtype_type]; kernel_rfl)
theorem slot_add : Slot "bytearray" "__add__" "bytearray.__add__" :=
  .of (owner := "bytearray") (n := "__add__") (by rw [typeLookup_type, builtinLookup_eq_fast]; kernel_rfl) (by decide +kernel) (by decide +kernel) (by decide +kernel)
    (by first | exact .inl (by decide +kernel) | exact .inr (by decide +kernel)) (by rw [isSubtype_type]; kernel_rfl)
theorem entry_len : entryFor table "bytearray.__len__" = some Builtin.«bytearray.__len__» := by first | exact entryFor_of_fast (by kernel_rfl) | exact entryFor_of_tree (by kernel_rfl)
theorem entry_item : entryFor table "bytearray.__getitem__" = some Builtin.«bytearray.__getitem__» := by first | exact entryFor_of_fast (by kernel_rfl) | exact entryFor_of_tree (by kernel_rfl)
theorem entry_add : entryFor table "bytearray.__add__" = some Builtin.«bytearray.__add__» := by first | exact entryFor_of_fast (by kernel_rfl) | exact entryFor_of_tree (by kernel_rfl)
theorem args_len (a : Value) : argsOk "bytearray.__len__" ⟨[a], []⟩ := by unfold argsOk; kernel_rfl
theorem args_item (a b : Value) : argsOk "bytearray.__getitem__" ⟨[a, b], []⟩ := by unfold argsOk; kernel_rfl
theorem args_add (a b : Value) : argsOk "bytearray.__add__" ⟨[a, b], []⟩ := by unfold argsOk; kernel_rfl
theorem noR_add : typeLookup (.type "bytearray") (dunderR "add") = pure none := by rw [typeLookup_type, builtinLookup_eq_fast]; kernel_rfl
theorem noFill_add : fillsNumberSlot (.type "bytearray") "add" = pure false := PyProof.Rows.fillsNumberSlot_seq (id := "bytearray.__add__") (r := none) slot_add.lookup (by decide +kernel) noR_add rfl
theorem seq_add : seqSlot? (.type "bytearray") "__add__" = pure (some (.builtin "bytearray.__add__")) := PyProof.Rows.seqSlot_of slot_add.lookup (by decide +kernel)

theorem sub_self : isSubtype (.type "bytearray") (.type "bytearray") = pure true := by rw [isSubtype_type]; kernel_rfl

section
variable {M : Model} {A : Around} {E : Value → Shared → Prop} {s : Shared} {a : Addr} {b c : Array UInt8} {t u : Tok}
theorem typeIs (h : IsBA s.heap a b) : s.TypeIs (.ref a) "bytearray" := ⟨_, h, rfl⟩
theorem if_false {α : Type} {c : Bool} {x y : Sem α} {Q : α → Shared → Prop} (hc : c = false) (h : wpAny M A y Q E s) : wpAny M A (if c = true then x else y) Q E s := by
  subst hc
  exact h
theorem if_true {α : Type} {c : Bool} {x y : Sem α} {Q : α → Shared → Prop} (hc : c = true) (h : wpAny M A x Q E s) : wpAny M A (if c = true then x else y) Q E s := by
  subst hc
  exact h
theorem payload_ {Q : Array UInt8 → Shared → Prop} (h : IsBA s.heap a b) (q : Q b s) : wpAny M A (Bytes.payload (.ref a)) Q E s := by
  unfold Bytes.payload Bytes.payload?
  exact wpAny_bind (wpAny_bind (wpAny_load h (wpAny_pure (wpAny_pure q))))
theorem own_ {name : String} {id : String} {n : String} {Q : Bool → Shared → Prop} (h : IsBA s.heap a b) (hl : typeLookup (.type "bytearray") name = pure (some (.builtin id))) (he : id.endsWith ("." ++ name) = true) (hd : id.dropRight (name.length + 1) = n) (hn : n = "bytearray") (q : Q true s) : wpAny M A (Bytes.slotIsOwn (.ref a) name) Q E s := by
  unfold Bytes.slotIsOwn
  refine wpAny_bind (wpAny_specialOf (typeIs h) hl ?_)
  dsimp only
  rw [he, hd, hn]
  exact wpAny_isInstance (typeIs h) sub_self q
theorem release_ {Q : Bool → Shared → Prop} (h : IsBA s.heap a b) (q : Q false s) : wpAny M A (Bytes.ownRelease (.ref a)) Q E s := by
  unfold Bytes.ownRelease
  exact wpAny_bind (own_ h look_release (by decide +kernel) (by decide +kernel) rfl (wpAny_pure q))
theorem buffer_ {id : String} {full : Bool} {Q : Option (Array UInt8) → Shared → Prop} (h : IsBA s.heap a b) (q : Q (some b) s) : wpAny M A (Bytes.buffer? id (.ref a) full) Q E s := by
  unfold Bytes.buffer?
  refine wpAny_bind (wpAny_specialOf (typeIs h) look_buffer ?_)
  dsimp only
  refine wpAny_bind (own_ h look_buffer (by decide +kernel) (by decide +kernel) rfl ?_)
  refine if_false rfl ?_
  refine wpAny_bind (wpAny_specialOf (typeIs h) look_buffer ?_)
  refine wpAny_bind (release_ h ?_)
  refine if_false rfl ?_
  exact wpAny_bind (payload_ h (wpAny_pure q))
theorem quiet_ {id : String} {Q : Option (Array UInt8) → Shared → Prop} (h : IsBA s.heap a b) (q : Q (some b) s) : wpAny M A (Bytes.bufferQuiet? id (.ref a)) Q E s := by
  unfold Bytes.bufferQuiet?
  exact wpAny_bind (wpAny_attempt (buffer_ h (wpAny_pure q)))
theorem tooLong_not {n : Nat} (h : n ≤ 16777216) : Bytes.tooLong n = false := by
  unfold Bytes.tooLong
  rw [sizeLine_eq]
  exact decide_eq_false (by omega)
theorem new_ {Q : Value → Shared → Prop} (hz : b.size ≤ 16777216) (h : Q (.ref s.heap.objs.size) { s with heap := s.heap.push (baObj b) }) : wpAny M A (Bytes.newBytearray b) Q E s := by
  unfold Bytes.newBytearray
  exact wpAny_newObj_type h (by show b.size ≤ sizeLine; rw [sizeLine_eq]; exact hz)
theorem add_body_ba {Q : Value → Shared → Prop} {d : Addr} (ha : IsBA s.heap a b) (hd : IsBA s.heap d c) (hz : b.size + c.size ≤ 16777216) (h : Q (.ref s.heap.objs.size) { s with heap := s.heap.push (baObj (b ++ c)) }) :
    wpAny M A (Builtin.«bytearray.__add__» ⟨[.ref a, .ref d], []⟩) (fun fin s' => ∃ v, fin = .done (.ret v) ∧ Q v s') E s := by
  show wpAny M A (Bytes.buffer? "bytearray.__add__" (.ref a) >>= fun r => _) _ E s
  refine wpAny_bind (buffer_ ha ?_)
  show wpAny M A (Bytes.bufferQuiet? "bytearray.__add__" (.ref d) >>= fun r => _) _ E s
  refine wpAny_bind (quiet_ hd ?_)
  refine if_false (tooLong_not hz) ?_
  exact wpAny_bind (new_ (by rw [Array.size_append]; exact hz) (wpAny_pure ⟨_, rfl, h⟩))
theorem add_body_b {Q : Value → Shared → Prop} (ha : IsBA s.heap a b) (hz : b.size + c.size ≤ 16777216) (h : Q (.ref s.heap.objs.size) { s with heap := s.heap.push (baObj (b ++ c)) }) :
    wpAny M A (Builtin.«bytearray.__add__» ⟨[.ref a, .bytes c t], []⟩) (fun fin s' => ∃ v, fin = .done (.ret v) ∧ Q v s') E s := by
  show wpAny M A (Bytes.buffer? "bytearray.__add__" (.ref a) >>= fun r => _) _ E s
  refine wpAny_bind (buffer_ ha ?_)
  show wpAny M A (Bytes.bufferQuiet? "bytearray.__add__" (.bytes c t) >>= fun r => _) _ E s
  refine wpAny_bind (wpAny_of_eq KBy.quiet_eq ?_)
  refine if_false (tooLong_not hz) ?_
  exact wpAny_bind (new_ (by rw [Array.size_append]; exact hz) (wpAny_pure ⟨_, rfl, h⟩))
theorem len_body {Q : Value → Shared → Prop} (ha : IsBA s.heap a b) (h : Q (.int b.size s.toks) { s with toks := s.toks + 1 }) :
    wpAny M A (Builtin.«bytearray.__len__» ⟨[.ref a], []⟩) (fun fin s' => ∃ v, fin = .done (.ret v) ∧ Q v s') E s := by
  show wpAny M A (Bytes.payload (.ref a) >>= fun r => _) _ E s
  refine wpAny_bind (payload_ ha ?_)
  exact wpAny_bind (wpAny_mkInt (wpAny_pure ⟨_, rfl, h⟩))
theorem item_body {Q : Value → Shared → Prop} {k : Int} {x : UInt8} (ha : IsBA s.heap a b) (h0 : 0 ≤ k) (h1 : k < 2 ^ 63) (hx : b[k.toNat]? = some x) (h : Q (.int x.toNat s.toks) { s with toks := s.toks + 1 }) :
    wpAny M A (Builtin.«bytearray.__getitem__» ⟨[.ref a, .int k t], []⟩) (fun fin s' => ∃ v, fin = .done (.ret v) ∧ Q v s') E s := by
  show wpAny M A (Bytes.subscript? (.int k t) >>= fun r => _) _ E s
  refine wpAny_bind (wpAny_of_eq (a := some k) ?_ ?_)
  · unfold Bytes.subscript?
    have hf : Bytes.fitsIndex k = true := by simp only [Bytes.fitsIndex, Bool.and_eq_true, decide_eq_true_eq]; omega
    show (if (!Bytes.fitsIndex k) = true then _ else _) = _
    rw [hf]; rfl
  · dsimp only
    refine wpAny_bind (payload_ ha ?_)
    have hlt : k.toNat < b.size := by
      rcases Nat.lt_or_ge k.toNat b.size with q | q
      · exact q
      · rw [Array.getElem?_eq_none q] at hx; cases hx
    have e : seqIndex? k b.size = some k.toNat := by
      have h2 : ¬ k < 0 := by omega
      have h3 : k < (b.size : Int) := by omega
      simp [seqIndex?, h2, h3, h0]
    rw [e]
    simp only [Option.bind_some, hx]
    wp_walk
    exact ⟨_, rfl, h⟩
theorem slice_body {Q : Value → Shared → Prop} {q : Addr} {l u : Value} {lo hi : Option Int} (ha : IsBA s.heap a b) (hS : s.heap.IsSliceOf q l u .none) (hl : IsPart l lo) (hu : IsPart u hi) (hz : (KBy.picked b lo hi).size ≤ 16777216)
    (h : Q (.ref s.heap.objs.size) { s with heap := s.heap.push (baObj (KBy.picked b lo hi)) }) :
    wpAny M A (Builtin.«bytearray.__getitem__» ⟨[.ref a, .ref q], []⟩) (fun fin s' => ∃ v, fin = .done (.ret v) ∧ Q v s') E s := by
  obtain ⟨o, ho, hc, hd⟩ := hS
  have hT : s.TypeIs (.ref q) "slice" := ⟨o, ho, hc⟩
  show wpAny M A (Bytes.subscript? (.ref q) >>= fun r => _) _ E s
  refine wpAny_bind ?_
  unfold Bytes.subscript?
  refine wpAny_bind (wpAny_specialOf hT slice_no_index (wpAny_pure ?_))
  refine wpAny_bind (wpAny_typeOf hT ?_)
  refine if_false (by rfl) ?_
  show wpAny M A (Bytes.sliceParts (.ref q) >>= fun r => _) _ E s
  refine wpAny_bind ?_
  unfold Bytes.sliceParts
  refine wpAny_bind (wpAny_field (x := .none) ho hd rfl ?_)
  kby_none
  refine wpAny_ite (KBy.ite_no (show ¬ ((Value.none == rawInt 0) = true) from Bool.false_ne_true) ?_)
  refine wpAny_bind (wpAny_field (x := l) ho hd rfl ?_)
  have go : wpAny M A (sliceIndices (rawPart lo) (rawPart hi) (rawPart none) b.size) (fun r s' => r = sliceBounds lo hi none b.size ∧ s' = s) (fun _ _ => False) s :=
    wpAny_of_eq (sliceIndices_raw lo hi none b.size (fun e => nomatch e)) ⟨rfl, rfl⟩
  cases hl <;> cases hu <;> (first
    | (kby_none; (refine wpAny_bind (wpAny_field (x := .none) ho hd rfl ?_)); kby_none)
    | (kby_none; (refine wpAny_bind (wpAny_field (x := .int _ _) ho hd rfl ?_)); kby_int)
    | (kby_int; (refine wpAny_bind (wpAny_field (x := .none) ho hd rfl ?_)); kby_none)
    | (kby_int; (refine wpAny_bind (wpAny_field (x := .int _ _) ho hd rfl ?_)); kby_int)) <;> refine wpAny_pure ?_
  all_goals
    refine wpAny_bind (payload_ ha ?_)
    refine wpAny_bind (wpAny_mono go (fun r s' hr => ?_) fun _ _ e => e.elim)
    obtain ⟨hr1, hr2⟩ := hr
    subst hr1 hr2
    exact wpAny_bind (new_ hz (wpAny_pure ⟨_, rfl, h⟩))
end
section
variable {prog : Program} {w : World} {A : Around} {E : Value → Shared → Prop} {s : Shared} {value slice : PySem.Expr} {a d : Addr} {b c : Array UInt8} {t : Tok} {h₀ : Heap} {L : Addr} {m : PySem.Str → Option Value} {news : List (Addr × Obj)} {l u : Value} {lo hi : Option Int} {Q : Value → Shared → Prop} {i : Int}
theorem slice_N (hF : Fr h₀ L s.heap m) (hN : News h₀ L s.heap news) (ha : IsBA s.heap a b) (hl : IsPart l lo) (hu : IsPart u hi) (hz : (KBy.picked b lo hi).size ≤ 16777216)
    (h : ∀ h' x, Fr h₀ L h' m → News h₀ L h' ((x, baObj (KBy.picked b lo hi)) :: news) → (∀ p ∈ news, p.1 < x) → Q (.ref x) { s with heap := h' })
    (hs : subscripted slice false (.ref a) (.ref s.heap.objs.size) = operate [.ref s.heap.objs.size, .ref a] (getItem (.ref a) (.ref s.heap.objs.size)) := by with_unfolding_all rfl) :
    wpAny (model prog w) A (subscriptTail value slice (.ref a) (.ref s.heap.objs.size)) Q E { s with heap := s.heap.push { cls := .type "slice", data := .fields #[l, u, .none] } } := by
  have ha' : IsBA (s.heap.push { cls := .type "slice", data := .fields #[l, u, .none] }) a b := Heap.get?_push_of_some _ ha
  refine tail_any (T := "bytearray") ⟨_, ha', rfl⟩ slot_item.lookup ?_ hs
  refine wpAny_getItem_slot (T := "bytearray") ⟨_, ha', rfl⟩ (by decide) slot_item (wpAny_call_entry slot_item ⟨_, ha', rfl⟩ entry_item ?_ (args_item _ _))
  refine slice_body (s := { s with heap := s.heap.push { cls := .type "slice", data := .fields #[l, u, .none] } }) ha' (Heap.IsSliceOf.new _ _ _ _) hl hu hz ?_
  have N1 := News.pushKeep hN { cls := .type "slice", data := .fields #[l, u, .none] }
  have F1 := hF.push { cls := .type "slice", data := .fields #[l, u, .none] }
  exact h _ _ (F1.push _) (News.push F1 N1 _ rfl) (fun p hp => Heap.lt_size (N1 p hp).1)
theorem item_N {k : Int} {x : UInt8} {ui : Tok} (ha : IsBA s.heap a b) (h0 : 0 ≤ k) (h1 : k < 2 ^ 63) (hx : b[k.toNat]? = some x) (h : Q (.int x.toNat s.toks) { s with toks := s.toks + 1 })
    (hs : subscripted slice false (.ref a) (.int k ui) = operate [.ref a, .int k ui] (getItem (.ref a) (.int k ui)) := by with_unfolding_all rfl) :
    wpAny (model prog w) A (subscriptTail value slice (.ref a) (.int k ui)) Q E s := by
  refine tail_any (T := "bytearray") ⟨_, ha, rfl⟩ slot_item.lookup ?_ hs
  refine wpAny_getItem_slot (T := "bytearray") ⟨_, ha, rfl⟩ (by decide) slot_item (wpAny_call_entry slot_item ⟨_, ha, rfl⟩ entry_item ?_ (args_item _ _))
  exact item_body ha h0 h1 hx h
theorem len_N (ha : IsBA s.heap a b) (hz : b.size ≤ 16777216) (h : Q (.int b.size (s.toks + 1)) { s with toks := s.toks + 1 + 1 }) : wpAny (model prog w) A (call (.builtin "len") [.ref a]) Q E s := by
  refine call_function_entry kind_len plain_len PySem.entry_len (args_len1 _) ?_
  unfold Builtin.«len»
  refine wpAny_bind (m := oneArg "len" _) (wpAny_pure ?_)
  refine wpAny_bind (m := callSpecial? (.ref a) (PySem.Str.ofString "__len__")) (wpAny_callSpecial?_slot (name := PySem.Str.ofString "__len__") (typeIs ha) slot_len
    (wpAny_call_entry slot_len (typeIs ha) entry_len ?_ (args_len _)))
  refine wpAny_mono (len_body (Q := fun v s' => v = .int b.size s.toks ∧ s' = { s with toks := s.toks + 1 }) ha ⟨rfl, rfl⟩) (fun fin s' hq => ?_) fun _ _ e => e
  obtain ⟨v, rfl, rfl, rfl⟩ := hq
  refine ⟨_, rfl, ?_⟩
  wp_walk
  refine wpAny_ite_false (decide_eq_false (by omega)) ?_
  wp_walk
  exact ⟨_, rfl, h⟩
theorem add_ba (hF : Fr h₀ L s.heap m) (hN : News h₀ L s.heap news) (ha : IsBA s.heap a b) (hd : IsBA s.heap d c) (hz : b.size + c.size ≤ 16777216)
    (h : ∀ h' x, Fr h₀ L h' m → News h₀ L h' ((x, baObj (b ++ c)) :: news) → (∀ p ∈ news, p.1 < x) → Q (.ref x) { s with heap := h' }) : wpAny (model prog w) A (binaryOp .Add (.ref a) (.ref d)) Q E s := by
  refine wpAny_binaryOp_concat (typeIs ha) (typeIs hd) noFill_add seq_add (wpAny_call_entry slot_add (typeIs ha) entry_add ?_ (args_add _ _))
  exact add_body_ba ha hd hz (h _ _ (hF.push _) (News.push hF hN _ rfl) (fun p hp => Heap.lt_size (hN p hp).1))
theorem concat_two {x y : Value} {T T' id : String} (ha : s.TypeIs x T) (hb : s.TypeIs y T') (hne : (Value.type T == Value.type T') = false)
    (hfill : fillsNumberSlot (.type T) "add" = pure false) (hfill' : fillsNumberSlot (.type T') "add" = pure false) (hseq : seqSlot? (.type T) "__add__" = pure (some (.builtin id)))
    (hc : wpAny (model prog w) A (call (.builtin id) [x, y]) Q E s) : wpAny (model prog w) A (binaryOp .Add x y) Q E s := by
  unfold binaryOp
  refine wpAny_holding ?_
  refine wpAny_bind (m := binaryOp1 "add" x y) ?_
  · simp only [binaryOp1]
    refine wpAny_bind (wpAny_typeOf ha (wpAny_bind (wpAny_typeOf hb (wpAny_bind (wpAny_of_eq hfill ?_)))))
    simp only [hne, hfill', pure_bind, Bool.false_and, Bool.false_eq_true, if_false]
    refine wpAny_pure ?_
    refine wpAny_bind (wpAny_typeOf ha ?_)
    refine wpAny_bind (wpAny_of_eq hseq ?_)
    exact wpAny_bind (wpAny_rule hc)
theorem add_b (hF : Fr h₀ L s.heap m) (hN : News h₀ L s.heap news) (ha : IsBA s.heap a b) (hz : b.size + c.size ≤ 16777216)
    (h : ∀ h' x, Fr h₀ L h' m → News h₀ L h' ((x, baObj (b ++ c)) :: news) → (∀ p ∈ news, p.1 < x) → Q (.ref x) { s with heap := h' }) : wpAny (model prog w) A (binaryOp .Add (.ref a) (.bytes c t)) Q E s := by
  refine concat_two (typeIs ha) (typeIs_bytes s c t) (by decide) noFill_add KBy.noFill_bytes_add seq_add (wpAny_call_entry slot_add (typeIs ha) entry_add ?_ (args_add _ _))
  exact add_body_b ha hz (h _ _ (hF.push _) (News.push hF hN _ rfl) (fun p hp => Heap.lt_size (hN p hp).1))
end
theorem mro_ba : mroOf (.type "bytearray") = pure [.type "bytearray", .type "object"] := by rw [mroOf_type]; kernel_rfl
theorem lookup_new : typeLookup (.type "bytearray") "__new__" = pure (some (.builtin "bytearray.__new__")) := by rw [typeLookup_type, builtinLookup_eq_fast]; kernel_rfl
theorem slot_init : Slot "bytearray" "__init__" "bytearray.__init__" :=
  .of (owner := "bytearray") (n := "__init__") (by rw [typeLookup_type, builtinLookup_eq_fast]; kernel_rfl) (by decide +kernel) (by decide +kernel) (by decide +kernel)
    (by first | exact .inl (by decide +kernel) | exact .inr (by decide +kernel)) (by rw [isSubtype_type]; kernel_rfl)
theorem called_ba : TypeCalled "bytearray" "bytearray.__new__" "bytearray.__init__" :=
  ⟨by decide +kernel, by decide +kernel, ⟨_, _, mro_ba⟩, madeBy_type mro_ba lookup_new (by decide +kernel), by decide +kernel, by rw [isSubtype_type]; kernel_rfl, slot_init⟩
theorem typeCall_ba (a : Value) : checkTypeCall "bytearray" ⟨[a], []⟩ = pure () := by kernel_rfl
theorem newCall_ba (a : Value) : checkBuiltinCall "bytearray.__new__" ⟨[.type "bytearray", a], []⟩ = pure () := by kernel_rfl
theorem entry_new : entryFor table "bytearray.__new__" = some Builtin.«list.__new__» := entryFor_alias (id' := "list.__new__") (by kernel_rfl) rfl (by decide +kernel) (by kernel_rfl)
theorem plain_new : plainId "bytearray.__new__" = true := by decide +kernel
theorem entry_init : entryFor table "bytearray.__init__" = some Builtin.«bytearray.__init__» := by first | exact entryFor_of_fast (by kernel_rfl) | exact entryFor_of_tree (by kernel_rfl)
theorem args_init (a b : Value) : argsOk "bytearray.__init__" ⟨[a, b], []⟩ := by unfold argsOk; kernel_rfl
set_option maxRecDepth 1000000 in
set_option maxHeartbeats 4000000 in
theorem owner_new : ("bytearray.__new__".splitOn ".__new__").headD "" = "bytearray" := by simp +decide [String.splitOn, String.splitOnAux]
section
variable {prog : Program} {w : World} {A : Around} {E : Value → Shared → Prop} {s : Shared}
theorem code_new (a : Value) {Q₁ : Value → Shared → Prop}
    (h : Q₁ (.ref s.heap.objs.size) { s with heap := s.heap.push (baObj #[]) }) :
    codeAny (model prog w) A (.call (.builtin "bytearray.__new__") ⟨[.type "bytearray", a], []⟩) (wants Q₁ E) s := by
  refine codeAny_of_tree ?_
  show wpAny _ A.in1 (do checkBuiltinCall "bytearray.__new__" ⟨[.type "bytearray", a], []⟩; again (.builtin "bytearray.__new__" ⟨[.type "bytearray", a], []⟩)) _ _ s
  refine wpAny_bind (wpAny_of_eq (newCall_ba a) (wpAny_pure ⟨plainId_quiet plain_new _, codeAny_builtin_stack entry_new rfl fun p st => ?_⟩))
  rw [Around.under_plainId plain_new _]
  have hsub := sub_self
  have hown := owner_new
  obtain ⟨hp, g, d, tk, os⟩ := s
  simp only [hown]
  wp_walk
  exact h
end
end BA
end Mine
end
section
open PySem PySem.W PyProof.Rows PySem.Calls
set_option maxRecDepth 100000
namespace Mine

def badId (id : String) : Bool := (["bytearray.__contains__", "bytearray.__mod__", "bytearray.__rmod__", "_struct.pack_into.held", "bytearray.find.held"] ++ Builtin.Bytes.decodersThatHold).contains id
theorem bad1 : ¬ badId "bytearray.__contains__" = false := by decide +kernel
theorem bad2 : ¬ badId "bytearray.__mod__" = false := by decide +kernel
theorem bad3 : ¬ badId "bytearray.__rmod__" = false := by decide +kernel
theorem bad4 : ¬ badId "_struct.pack_into.held" = false := by decide +kernel
theorem bad5 : ¬ badId "bytearray.find.held" = false := by decide +kernel
def badCode : Code → Bool
  | .builtin id _ => badId id
  | _ => false
def Clean (Γ : Ctx) : Prop := badCode Γ.code = false ∧ ∀ q ∈ Γ.below, badCode q.1 = false
def wpN {α : Type} (M : Model) (A : Around) (t : Sem α) (Q : α → Shared → Prop) (E : Value → Shared → Prop) (s : Shared) : Prop :=
  ∀ Γ p, Γ.In A → Clean Γ → Sem.wp M Γ t (fun a _ s' => Q a s') (fun e _ s' => E e s') p s
def codeN (M : Model) (A : Around) (c : Code) (R : Result → Shared → Prop) (s : Shared) : Prop :=
  ∀ Γ p, Γ.code = c → Γ.Below A → Clean Γ → wpCode M Γ R p s

theorem Clean.goto {Γ : Ctx} (h : Clean Γ) {c : Code} (hc : badCode c = false) : Clean (Γ.goto c) := ⟨hc, h.2⟩
theorem Clean.enter {Γ : Ctx} (h : Clean Γ) {c : Code} (hc : badCode c = false) (hd : Option Value) (p : Pos) : Clean (Γ.enter c hd p) :=
  ⟨hc, fun q hq => by
    rcases List.mem_cons.mp hq with rfl | hq
    · exact h.1
    · exact h.2 q hq⟩

section
variable {α β : Type} {M : Model} {A : Around} {E : Value → Shared → Prop} {s : Shared}
theorem wpN_of {t : Sem α} {Q : α → Shared → Prop} (h : wpAny M A t Q E s) : wpN M A t Q E s := fun Γ p hΓ _ => h Γ p hΓ
theorem codeN_of {c : Code} {R : Result → Shared → Prop} (h : codeAny M A c R s) : codeN M A c R s := fun Γ p hc hΓ _ => h Γ p hc hΓ
theorem wpN_pure {a : α} {Q : α → Shared → Prop} (h : Q a s) : wpN M A (pure a) Q E s := fun _ _ _ _ => h
theorem wpN_mono {t : Sem α} {Q Q' : α → Shared → Prop} {E' : Value → Shared → Prop} (h : wpN M A t Q E s) (hQ : ∀ a s, Q a s → Q' a s) (hE : ∀ e s, E e s → E' e s) : wpN M A t Q' E' s :=
  fun Γ p hΓ hc => Sem.wp_mono M Γ t (fun a _ s => hQ a s) (fun e _ s => hE e s) p s (h Γ p hΓ hc)
theorem wpN_bind {m : Sem α} {f : α → Sem β} {Q : β → Shared → Prop} (h : wpN M A m (fun a s' => wpN M A (f a) Q E s') E s) : wpN M A (m >>= f) Q E s := fun Γ p hΓ hc => by
  rw [Sem.wp_bind']
  exact Sem.wp_mono M Γ m (fun a p' s' h' => h' Γ p' hΓ hc) (fun _ _ _ h' => h') p s (h Γ p hΓ hc)
theorem wpN_any {m : Sem α} {f : α → Sem β} {Q : β → Shared → Prop} (h : wpAny M A m (fun a s' => wpN M A (f a) Q E s') E s) : wpN M A (m >>= f) Q E s := wpN_bind (wpN_of h)
theorem wpN_eq {m : Sem α} {f : α → Sem β} {a : α} {Q : β → Shared → Prop} (e : m = pure a) (h : wpN M A (f a) Q E s) : wpN M A (m >>= f) Q E s := by subst e; exact wpN_bind (wpN_pure h)
theorem wpN_tryCatch {m : Sem α} {k : Value → Sem α} {Q : α → Shared → Prop} (h : wpN M A m Q (fun e s' => wpN M A (k e) Q E s') s) : wpN M A (tryCatch m k) Q E s := fun Γ p hΓ hc => by
  rw [Sem.wp_tryCatch']
  exact Sem.wp_mono M Γ m (fun _ _ _ h' => h') (fun e p' s' h' => h' Γ p' hΓ hc) p s (h Γ p hΓ hc)
theorem wpN_onRaise {m : Sem α} {k : Value → Sem Unit} {Q : α → Shared → Prop} (h : wpN M A m Q (fun e s' => wpN M A (k e) (fun _ s'' => E e s'') E s') s) : wpN M A (m.onRaise k) Q E s := fun Γ p hΓ hc => by
  rw [Sem.wp_onRaise]
  exact Sem.wp_mono M Γ m (fun _ _ _ h' => h') (fun e p' s' h' => h' Γ p' hΓ hc) p s (h Γ p hΓ hc)
theorem wpN_attempt {m : Sem α} {Q : Except Value α → Shared → Prop} (h : wpN M A m (fun a => Q (.ok a)) (fun e => Q (.error e)) s) : wpN M A m.attempt Q E s := fun Γ p hΓ hc => by
  rw [Sem.wp_attempt]; exact h Γ p hΓ hc
theorem wpN_holding {vs : List Value} {m : Sem α} {Q : α → Shared → Prop} (h : wpN M A m Q E s) : wpN M A (holding vs m) Q E s := fun Γ p hΓ hc => by
  rw [Sem.wp_holding]; exact h Γ p hΓ hc
theorem wpN_keep {vs : List Value} {m : Sem α} {Q : α → Shared → Prop} (h : wpN M A m Q E s) : wpN M A (m.keep vs) Q E s := fun Γ p hΓ hc => by
  rw [Sem.wp_keep]; exact h Γ p hΓ hc
theorem codeN_mono {c : Code} {R R' : Result → Shared → Prop} (h : codeN M A c R s) (hR : ∀ r s, R r s → R' r s) : codeN M A c R' s := fun Γ p hc hΓ hcl => wpCode_mono hR (h Γ p hc hΓ hcl)
theorem wpN_run {c : Code} {h : Option Value} {Q : Flow → Shared → Prop} (hb : badCode c = false)
    (hc : codeN M (A.mark h) c (fun r s' => match r with | .ok f => Q f s' | .error e => E e s') s) (hnb : h ≠ some byPass := by intro x; cases x) : wpN M A (run c h) Q E s :=
  fun Γ p hΓ hcl => by rw [Sem.wp_run]; exact hc _ p rfl (hΓ.enter c h p hnb) (hcl.enter hb h p)
theorem wpN_runValue {c : Code} {Q : Value → Shared → Prop} (hb : badCode c = false)
    (hc : codeN M A c (fun r s' => match r with | .ok (.ret v) => Q v s' | .ok _ => False | .error e => E e s') s) : wpN M A (runValue c) Q E s :=
  fun Γ p hΓ hcl => by rw [Sem.wp_runValue]; exact hc _ p rfl (hΓ.enter c none p (by intro x; cases x)) (hcl.enter hb none p)
theorem wpN_call {f : Value} {pos : List Value} {kw : List (Str × Value)} {Q : Value → Shared → Prop}
    (hc : codeN M A (.call f ⟨pos, kw⟩) (fun r s' => match r with | .ok (.ret v) => Q v s' | .ok _ => False | .error e => E e s') s) : wpN M A (call f pos kw) Q E s := wpN_runValue rfl hc
theorem codeN_of_tree {c : Code} {R : Result → Shared → Prop}
    (h : wpN M (A.under c) (M.den c) (fun fin s' => match fin with | .done f => R (.ok f) s' | .again c' => c'.quiet = true ∧ badCode c' = false ∧ codeN M A c' R s') (fun e s' => R (.error e) s') s) : codeN M A c R s := fun Γ p hc hΓ hcl => by
  rw [wpCode_iff_wp, hc]
  refine Sem.wp_mono M Γ _ (fun fin p' s' h' => ?_) (fun _ _ _ h' => h') p s (h Γ p (hc ▸ hΓ.in) hcl)
  cases fin with
  | done f => exact h'
  | again c' => exact ⟨h'.1, h'.2.2 (Γ.goto c') p' rfl (hΓ.goto c') (hcl.goto h'.2.1)⟩
theorem wpN_if_false {c : Bool} {x y : Sem α} {Q : α → Shared → Prop} (hc : c = false) (h : wpN M A y Q E s) : wpN M A (if c = true then x else y) Q E s := by
  subst hc
  exact h
theorem wpN_if_true {c : Bool} {x y : Sem α} {Q : α → Shared → Prop} (hc : c = true) (h : wpN M A x Q E s) : wpN M A (if c = true then x else y) Q E s := by
  subst hc
  exact h
theorem wpN_exported {v : Value} {Q : Bool → Shared → Prop} (h : Q false s) : wpN M A (Builtin.Bytes.exported v) Q E s := fun Γ p _ hcl => by
  have key : ∀ b : Bool, b = false → Q b s := fun b hb => by subst hb; exact h
  refine key _ ?_
  rw [List.any_eq_false]
  rintro ⟨c, q⟩ hx
  have hb : badCode c = false := by
    rcases List.mem_cons.mp hx with e | hx
    · cases e; exact hcl.1
    · exact hcl.2 _ hx
  clear hx h key
  split
  all_goals first
    | exact Bool.false_ne_true
    | (rename_i heq; cases heq; first | exact absurd hb bad1 | exact absurd hb bad2 | exact absurd hb bad3 | exact absurd hb bad4 | exact absurd hb bad5)
    | (rename_i heq; cases heq; simp only [badCode, badId, List.contains_eq_mem, List.mem_append, decide_eq_false_iff_not, not_or] at hb; simp [List.contains_eq_mem, hb.2])
end
end Mine
end
section
open PySem PySem.W PyProof.Rows PySem.Calls
set_option maxRecDepth 100000
namespace Mine

abbrev WalkC (q : Program) (loose : List Str) (XP : (Str → Option Value) → Heap → Prop) (YP : World → Heap → Prop) (r : RowW) (d : DefRec) (kwd : List (Str × Expr)) : Prop :=
  ∀ (w : World) (s₀ s₁ : Shared) (mg mb : Str → Option Value), Ground q loose r.records XP w s₀ mg mb s₁.heap → YP w s₁.heap → ∀ (a : Addr) (o : Obj) (pm cd doc dV kV : Value), s₁.heap.get? a = some o →
    o.data = .func { docDef d.name d.params d.body d.scope pm cd doc with defaults := dV, kwdefaults := kV } → s₁.heap.CodeRec cd d.name → Dflts mg s₁.heap d.params kwd dV kV → mg d.name = some (.ref a) → s₁.gens = #[] →
    ∀ (args : List WData) (vals : List Value) (as : List Addr), r.claim.pre args = true → WData.layableAll args = true → ReadsAllW r.records (classAt s₀.heap) s₁.heap vals args as → WellAll w.params s₁.heap vals args → (∀ a ∈ as, (a == sysModules) = false) →
      wpN (model r.prog w) callerA (PySem.call (.ref a) vals) (fun v s' => GoodWG r.claim (classAt s₀.heap) (ExcName.means s₀.heap) args s₁ (.ok (.ret v)) s')
        (fun e s' => GoodWG r.claim (classAt s₀.heap) (ExcName.means s₀.heap) args s₁ (.error e) s') s₁

theorem clean_caller : Clean ⟨.builtin "claim.caller" {}, none, none, [], none⟩ := ⟨by show badId "claim.caller" = false; decide +kernel, fun _ h => nomatch h⟩

theorem ends_clean {prog : Program} {w : World} {t : Sem Fin} {s : Shared} {R : Result → Shared → Prop} (hreg : s.asleep)
    (h : wpN (model prog w) callerA t (fun fin s' => ∃ f, fin = .done f ∧ (R (.ok f) s' ∧ leftWithCleanup s'.gens = false)) (fun e s' => R (.error e) s' ∧ leftWithCleanup s'.gens = false) s) :
    ∃ n r s' s'', schedN (denote table) prog w n (.single s ⟨t, .builtin "claim.caller" {}, default, []⟩) = .halted (outcomeOf r) s' ∧ runN (denote table) prog w n s ⟨t, .builtin "claim.caller" {}, default, []⟩ = .halted (outcomeOf r) s' ∧
      s'.forget = s''.forget ∧ R r s'' := by
  obtain ⟨n, r, s₁, s₂, hs, hn, hfo, hR⟩ := wp_halts_full (M := model prog w) (R := R) hreg
    (Sem.wp_mono _ _ t (fun fin p' s' hq => by obtain ⟨f, rfl, hf⟩ := hq; exact hf) (fun _ _ _ hq => hq) default s (h _ default caller_in clean_caller))
  exact ⟨n, r, s₂, s₁, hs, hn, hfo, hR⟩

theorem PySem.W.holds_open {r : OpenRow} {q : Program} {loose : List Str} {Xt : Shared → Bool} {XP : (Str → Option Value) → Heap → Prop} {α : Type} {Yf : Shared → α} {Ya : World → α} {YP : World → Heap → Prop} {d : DefRec} {kwd : List (Str × Expr)} {N : Nat}
    (left : LeftO r.prog q loose Xt Yf Ya N) (hY : ∀ w s, Yf s = Ya w → YP w s.heap) (hYk : ∀ w h h', YP w h → (∀ b o, h.get? b = some o → h'.get? b = some o) → YP w h')
    (hX : ∀ s, Xt s = true → XP (s.heap.nsMap mainGlobals) s.heap) (hXk : ∀ mg h h', XP mg h → (∀ b o, h.get? b = some o → h'.get? b = some o) → XP mg h')
    (hdef : defOf q r.name = some (d, kwd)) (hp : r.prog.theDef r.name = some (d.params, d.body, d.scope)) (hk : kwWritten? d.params.kwonlyargs d.params.kw_defaults = some kwd) (hRf : ∀ s, Xt s = true → RecFacts r.records s.heap) (hwr : (!r.writes || r.records.isEmpty) = true)
    (k1 : r.wellSaid = true) (ok : (chainsOk q && opensWell r.prog && (frees r.toRowW && r.within.isEmpty)) = true) (hb : r.prog.bare) (hw : r.toRowW.promised)
    (call : WalkC q loose XP YP r.toRowW d kwd) : r.Holds := by
  refine ⟨k1, hw, ?_⟩
  obtain ⟨ok, k5⟩ := Bool.and_eq_true_iff.mp ok
  obtain ⟨hch, o1⟩ := Bool.and_eq_true_iff.mp ok
  obtain ⟨k5, k6⟩ := Bool.and_eq_true_iff.mp k5
  obtain ⟨hsame, hu, ha, hap, hm⟩ := frees_parts k5
  have hi := ident_freeW hu ha hap
  have hwi : r.toRowW.claim.within = [] := List.isEmpty_iff.mp k6
  refine ⟨⟨hb, o1, by show r.makers.map _ = []; rw [hm]; rfl⟩, hw.witness, fun w => ⟨(left.behind hX hch w).1, fun s' hs' => ?_⟩⟩
  obtain ⟨s₀, hf, hg0, s, hT, hz, hgens, hg, G00, y⟩ := (left.behind (XP := fun mg h => XP mg h ∧ RecFacts r.records h) (fun s hs => ⟨hX s hs, hRf s hs⟩) hch w).2 s' hs'
  have G0 : Ground q loose [] XP w s (s.heap.nsMap mainGlobals) (s.heap.nsMap builtinsNs) s.heap := ⟨G00.T, G00.B, G00.D, G00.TE, G00.TD, G00.W, G00.X.1, G00.cls, G00.has, G00.apart, G00.once, G00.K⟩
  have RF := G00.X.2
  have hgens : s.gens = #[] := Array.eq_empty_of_size_eq_zero (beq_iff_eq.mp hgens)
  have G : Ground q loose r.records XP w s _ _ s.heap := RF.ground G0
  refine ⟨s₀, hf, hg0, s, hT, fun n hn => ?_, RF.1, RF.2.1, ?_⟩
  · obtain rfl : n = r.name := by split at hn <;> simp_all
    exact pinned_of_view hg G0 hdef hp hk
  · intro args hpre hlay ord hord
    obtain ⟨⟨vs, s₁⟩, hlaid⟩ := Option.isSome_iff_exists.mp (layAllW_isSome (P := w.params) (ord := ord) G.has args r.args s (pre_splitW hpre).1)
    have keeps := layAllW_keeps _ _ _ hlaid
    have hal := layAllW_rest _ _ _ hlaid
    obtain ⟨as, hrd, hin, hold⟩ := reads_layAllW hord _ _ _ hlaid hlay s₁.heap (fun _ _ e => e)
    have L : Laid r.records w s s₁ args vs as := ⟨⟨ord, hord, hlaid⟩, hrd, hin, hold, keeps, hal.1.trans hgens, hal.2.2.1⟩
    have G₁ := G.keeps hXk keeps
    obtain ⟨a, o, pm, cd, doc, dV, kV, h1, h2, h3, h4, h5⟩ := G₁.fn hdef
    have h := call w s s₁ _ _ G₁ (hYk _ _ _ (hY w s y) keeps) a o pm cd doc dV kV h2 h3 h4 h5 (defOf_name hdef ▸ h1) L.gens args vs as hpre hlay L.reads L.well (L.low G.low)
    have mk : ∀ res s', GoodWG r.toRowW.claim (classAt s.heap) (ExcName.means s.heap) args s₁ res s' →
        (r.toRowW.claim.Ends s args vs s₁ res s' ∧ s'.os = s.os ∧ (r.writes = true → namesKept r.prog r.keeps s.heap s'.heap ∧ ∀ x ∈ r.records, ∀ a, classAt s.heap x.1 = some a → recordClass s'.heap a x.1 (x.2.map (·.1)) = true)) ∧ leftWithCleanup s'.gens = false := fun res s' g =>
      have z := g.laid (c := r.toRowW.claim) hsame hwi hi L
      ⟨⟨z.1, z.2.1, fun q => ⟨namesKept_of hT hg r.keeps keeps g.2.1.old, noTable hwr q⟩⟩, leftWithCleanup_false_of_bare z.2.2⟩
    obtain ⟨k, res, s2, s3, hsched, hrun, hfo, hcase, hos, hkp⟩ := ends_clean (prog := r.prog) (w := w) (s := s₁) (t := (do
        match ← nsGet mainNs r.name with
        | some f => do ret (← PySem.call f vs)
        | none => unsupported "claim.caller:no-such-global")) (R := fun res s' => r.toRowW.claim.Ends s args vs s₁ res s' ∧ s'.os = s.os ∧
          (r.writes = true → namesKept r.prog r.keeps s.heap s'.heap ∧ ∀ x ∈ r.records, ∀ a, classAt s.heap x.1 = some a → recordClass s'.heap a x.1 (x.2.map (·.1)) = true))
      (Shared.asleep_of_life hal.2.2.2 hz)
      (wpN_any (wpAny_nsGet G₁.T.g (by
        rw [h1]
        exact wpN_bind (wpN_mono h (fun v s' g => wpN_pure ⟨_, rfl, mk _ _ g⟩) fun e s' g => mk _ _ g))))
    obtain ⟨eh, _, _, eo, _⟩ := Shared.forget_eq hfo
    have hcase := hcase.congr eh
    rw [← eh] at hkp
    rw [← eo] at hos
    have hlife : s2.heap.life = s.heap.life := (runN_life _ _ _ hrun).trans hal.2.2.2
    refine ⟨vs, s₁, hlaid, k, _, s2, hsched, ?_, (fun _ i x hx => by rw [hgens] at hx; simp at hx), hkp, by rw [hlife], Shared.rest_eq hos⟩
    rcases hcase with ⟨v, rfl, d1, d2, d3, d4, d5⟩ | ⟨e, ob, cls, rfl, d1, d2, d3, d4, d5⟩
    · exact .inl ⟨v, rfl, d1, d2, d3, fun b o y _ => d4 b o y, d5⟩
    · exact .inr ⟨e, ob, cls, rfl, d1, d2, d3, d4, fun b o y _ => d5 b o y⟩
end Mine
end
section
open PySem PySem.W PyProof.Rows
set_option maxRecDepth 100000
set_option maxHeartbeats 8000000
namespace Mine
open_top hd for PySem.Challenge.rw_ix0004_01
end Mine
end
section
open PySem PySem.W PyProof.Rows PySem.Calls
set_option maxRecDepth 100000
set_option linter.deprecated false
namespace Mine
namespace BA
open Builtin
theorem bind_init (v : Value) : Bytes.bindOptional "bytearray.__init__" "bytearray" ["source", "encoding", "errors"] [v] [] = pure [some v, none, none] := by kernel_rfl
theorem no_str_bytes (b : Array UInt8) (t : Tok) : asStr? (.bytes b t) = pure none := by rfl
theorem bytes_no_index : typeLookup (.type "bytes") "__index__" = pure none := by rw [typeLookup_type, builtinLookup_eq_fast]; kernel_rfl
section
variable {prog : Program} {w : World} {A : Around} {E : Value → Shared → Prop} {s : Shared} {x : Addr} {b : Array UInt8} {t : Tok}
theorem write_ {c : Array UInt8} {f : Array UInt8 → Array UInt8} {M : Model} {Q : Unit → Shared → Prop} (hx : IsBA s.heap x b) (hf : f b = c) (hz : c.size ≤ 16777216)
    (h : ∀ h', h'.get? x = some (baObj c) → h'.objs.size = s.heap.objs.size → (∀ a o, a ≠ x → s.heap.get? a = some o → h'.get? a = some o) → Q () { s with heap := h' }) : wpAny M A (Bytes.write (.ref x) f) Q E s := by
  show wpAny _ _ (updateBytearray x f) _ _ _
  unfold updateBytearray
  refine wpAny_bind (wpAny_load hx ?_)
  show wpAny _ _ (update x (Obj.mapBytearray f) >>= fun _ => lookBehind x) _ _ _
  refine wpAny_bind (wpAny_update hx ?_)
  have h2 : (s.heap.update x (Obj.mapBytearray f)).get? x = some (baObj c) := by
    rw [← hf]
    exact Heap.get?_update_self (Obj.mapBytearray f) hx rfl
  refine wpAny_lookBehind h2 ?_ (h _ h2 (Heap.size_after_update ..) fun a o hn e => (Heap.get?_update_other _ _ (Ne.symm hn)).trans e)
  show (if c.size > sizeLine then some "bytearray:memory" else none) = none
  rw [if_neg (by rw [sizeLine_eq]; omega)]
theorem exportsOf_ {M : Model} {Q : Nat → Shared → Prop} (hx : IsBA s.heap x b) (h : Q 0 s) : wpAny M A (Bytes.exportsOf (.ref x)) Q E s := by
  unfold Bytes.exportsOf
  exact wpAny_bind (wpAny_load hx (wpAny_pure h))
theorem init_bytes {Q : Value → Shared → Prop} (hx : IsBA s.heap x #[]) (hz : b.size ≤ 16777216)
    (h : ∀ h', h'.get? x = some (baObj b) → h'.objs.size = s.heap.objs.size → (∀ a o, a ≠ x → s.heap.get? a = some o → h'.get? a = some o) → Q .none { s with heap := h' }) :
    wpN (model prog w) A (Builtin.«bytearray.__init__» ⟨[.ref x, .bytes b t], []⟩) (fun fin s' => ∃ v, fin = .done (.ret v) ∧ Q v s') E s := by
  show wpN _ A (Bytes.ownRelease (.ref x) >>= fun r => _) _ E s
  refine wpN_any (release_ hx ?_)
  refine wpN_if_false rfl ?_
  refine wpN_eq (bind_init _) ?_
  refine wpN_eq (a := ()) rfl ?_
  refine wpN_eq (a := ()) rfl ?_
  refine wpN_bind (m := (Bytes.exported (.ref x) <||> _)) ?_
  refine wpN_bind (wpN_exported ?_)
  refine wpN_of ?_
  refine wpAny_bind (exportsOf_ hx (wpAny_pure ?_))
  refine wpN_of ?_
  refine if_false rfl ?_
  refine wpAny_bind (write_ hx rfl (Nat.zero_le _) fun h1 hx1 hs1 hk1 => ?_)
  refine wpAny_bind (wpAny_of_eq (no_str_bytes b t) ?_)
  refine if_false rfl ?_
  refine wpAny_bind (wpAny_of_eq (a := ()) rfl ?_)
  refine wpAny_bind (wpAny_specialOf (typeIs_bytes _ b t) bytes_no_index ?_)
  refine if_false rfl ?_
  refine wpAny_bind (wpAny_of_eq (a := some b) ?_ ?_)
  · unfold Bytes.buffer?
    rw [KBy.special_eq KBy.look_buffer, KBy.own_buffer, KBy.own_release]
    kernel_rfl
  · refine wpAny_bind (wpAny_rule ?_)
    refine wpAny_bind (write_ hx1 rfl hz fun h2 hx2 hs2 hk2 => ?_)
    exact wpAny_pure ⟨_, rfl, h h2 hx2 (hs2.trans hs1) fun a o hn e => hk2 a o hn (hk1 a o hn e)⟩
theorem no_str_int (n : Int) (t : Tok) : asStr? (.int n t) = pure none := by rfl
theorem int_index : typeLookup (.type "int") "__index__" = pure (some (.builtin "int.__index__")) := by rw [typeLookup_type, builtinLookup_eq_fast]; kernel_rfl
theorem init_int {Q : Value → Shared → Prop} {n : Int} (hx : IsBA s.heap x #[]) (h0 : 0 ≤ n) (hz : n ≤ 16777216)
    (h : ∀ h', h'.get? x = some (baObj (Array.replicate n.toNat 0)) → h'.objs.size = s.heap.objs.size → (∀ a o, a ≠ x → s.heap.get? a = some o → h'.get? a = some o) → Q .none { s with heap := h' }) :
    wpN (model prog w) A (Builtin.«bytearray.__init__» ⟨[.ref x, .int n t], []⟩) (fun fin s' => ∃ v, fin = .done (.ret v) ∧ Q v s') E s := by
  show wpN _ A (Bytes.ownRelease (.ref x) >>= fun r => _) _ E s
  refine wpN_any (release_ hx ?_)
  refine wpN_if_false rfl ?_
  refine wpN_eq (bind_init _) ?_
  refine wpN_eq (a := ()) rfl ?_
  refine wpN_eq (a := ()) rfl ?_
  refine wpN_bind (m := (Bytes.exported (.ref x) <||> _)) ?_
  refine wpN_bind (wpN_exported ?_)
  refine wpN_of ?_
  refine wpAny_bind (exportsOf_ hx (wpAny_pure ?_))
  refine wpN_of ?_
  refine if_false rfl ?_
  refine wpAny_bind (write_ hx rfl (Nat.zero_le _) fun h1 hx1 hs1 hk1 => ?_)
  refine wpAny_bind (wpAny_of_eq (no_str_int n t) ?_)
  refine if_false rfl ?_
  refine wpAny_bind (wpAny_of_eq (a := ()) rfl ?_)
  refine wpAny_bind (wpAny_specialOf (typeIs_int _ n t) int_index ?_)
  refine if_true rfl ?_
  refine wpAny_bind (wpAny_attempt (wpAny_of_eq (rfl : asIndex (.int n t) = pure n) ?_))
  have hf : Bytes.fitsIndex n = true := by simp only [Bytes.fitsIndex, Bool.and_eq_true, decide_eq_true_eq]; omega
  refine if_false (by rw [hf]; rfl) ?_
  refine wpAny_ite_false (decide_eq_false (show ¬ n < 0 by omega)) ?_
  refine if_false (by rw [beq_eq_false_iff_ne]; omega) ?_
  refine if_false (tooLong_not (by omega)) ?_
  refine wpAny_bind (wpAny_rule ?_)
  by_cases hp : n > 0
  · refine wpAny_ite_true (decide_eq_true hp) ?_
    refine wpAny_bind (write_ hx1 rfl (by rw [Array.size_replicate]; omega) fun h2 hx2 hs2 hk2 => ?_)
    exact wpAny_pure ⟨_, rfl, h h2 hx2 (hs2.trans hs1) fun a o hn e => hk2 a o hn (hk1 a o hn e)⟩
  · refine wpAny_ite_false (decide_eq_false hp) ?_
    have e : n = 0 := by omega
    subst e
    exact wpAny_pure ⟨_, rfl, h h1 hx1 hs1 hk1⟩
end
end BA
end Mine
end
section
open PySem PySem.W PyProof.Rows PySem.Calls
set_option maxRecDepth 100000
set_option linter.deprecated false
namespace Mine
section
variable {prog : Program} {w : World} {A : Around} {E : Value → Shared → Prop} {s : Shared} {R : Result → Shared → Prop}
theorem codeN_builtin {id : String} {args : Args} {b : Builtin} (hb : entryFor table id = some b)
    (h : wpN (model prog w) (A.under (.builtin id args)) (b args) (fun fin s' => match fin with | .done f => R (.ok f) s' | .again c' => c'.quiet = true ∧ badCode c' = false ∧ codeN (model prog w) A c' R s') (fun e s' => R (.error e) s') s) :
    codeN (model prog w) A (.builtin id args) R s := by
  refine codeN_of_tree ?_
  show wpN _ _ (match entryFor table id with | some b => b args | none => unsupported ((withoutEnding? id "#data").getD id)) _ _ s
  rw [hb]; exact h
theorem codeN_call_builtin {id : String} {args : Args} {b : Builtin} (hp : plainId id = true) (hg : badId id = false) (hb : entryFor table id = some b) (hc : wpAny (model prog w) A.in1 (checkBuiltinCall id args) (fun _ s₁ => s₁ = s) (fun _ _ => False) s)
    (h : wpN (model prog w) A.in1 (b args) (fun fin s' => match fin with | .done f => R (.ok f) s' | .again c' => c'.quiet = true ∧ badCode c' = false ∧ codeN (model prog w) A c' R s') (fun e s' => R (.error e) s') s) :
    codeN (model prog w) A (.call (.builtin id) args) R s := by
  refine codeN_of_tree ?_
  show wpN _ A.in1 (do checkBuiltinCall id args; again (.builtin id args)) _ _ s
  refine wpN_any (wpAny_mono hc (fun _ s₁ e => ?_) fun _ _ e => e.elim)
  subst e
  refine wpN_pure ⟨plainId_quiet hp _, hg, codeN_builtin hb ?_⟩
  rw [Around.under_plainId hp _]
  exact h
namespace BA
theorem sub_ba : isSubtype (.type "bytearray") (.type "bytearray") = pure true := sub_self
theorem call_core {v : Value} {Q : Value → Shared → Prop}
    (hi : IsBA (s.heap.push (baObj #[])) s.heap.objs.size #[] → wpN (model prog w) A.in1.in1 (Builtin.«bytearray.__init__» ⟨[.ref s.heap.objs.size, v], []⟩) (fun fin s' => ∃ r, fin = .done (.ret r) ∧ r = .none ∧ Q (.ref s.heap.objs.size) s') E { s with heap := s.heap.push (baObj #[]) }) :
    wpN (model prog w) A (call (.type "bytearray") [v]) Q E s := by
  have ft := called_ba
  refine wpN_call (codeN_of_tree ?_)
  show wpN _ _ (callAny (.type "bytearray") _) _ _ _
  refine wpN_pure ⟨Code.quiet_builtin _ (by decide +kernel), by show badId "type.__call__" = false; decide +kernel, codeN_builtin F.entry_type_call ?_⟩
  rw [Around.under_plain (weight_type_call_type "bytearray" [v] []) rfl]
  unfold Builtin.«type.__call__»
  have h1 := ft.notType
  have h2 := ft.canCreate
  dsimp only
  refine wpN_if_false h1 ?_
  refine wpN_if_false h2 ?_
  refine wpN_eq (typeCall_ba v) ?_
  refine wpN_eq mro_ba ?_
  refine wpN_if_false rfl ?_
  refine wpN_eq ft.made ?_
  refine wpN_eq (a := .builtin "bytearray.__new__") rfl ?_
  refine wpN_bind (wpN_holding (wpN_of (wpAny_call (code_new v ?_))))
  have hx : IsBA (s.heap.push (baObj #[])) s.heap.objs.size #[] := Heap.get?_push_size _ rfl
  have hT : ({ s with heap := s.heap.push (baObj #[]) } : Shared).TypeIs (.ref s.heap.objs.size) "bytearray" := ⟨_, hx, rfl⟩
  refine wpN_any (wpAny_isInstance hT sub_self ?_)
  refine wpN_if_false rfl ?_
  refine wpN_bind (wpN_holding ?_)
  unfold callSpecial?
  refine wpN_any (wpAny_specialOf hT slot_init.lookup ?_)
  refine wpN_holding ?_
  refine wpN_eq (slot_init.bind _) ?_
  refine wpN_bind (wpN_call (codeN_call_builtin slot_init.plain (by decide +kernel) entry_init (slot_init.check _ _ _ _ _ _ _ _ hT (args_init _ _) rfl) ?_))
  refine wpN_mono (hi hx) (fun fin s' hq => ?_) fun _ _ e => e
  obtain ⟨r, rfl, rfl, hq⟩ := hq
  exact wpN_pure (wpN_if_false rfl (wpN_pure hq))
theorem callN_bytes {b : Array UInt8} {t : Tok} {Q : Value → Shared → Prop} (hz : b.size ≤ 16777216)
    (h : ∀ h' x, h'.get? x = some (baObj b) → s.heap.get? x = none → (∀ a o, s.heap.get? a = some o → h'.get? a = some o) → s.heap.objs.size < h'.objs.size → Q (.ref x) { s with heap := h' }) : wpN (model prog w) A (call (.type "bytearray") [.bytes b t]) Q E s := by
  refine call_core fun hx => ?_
  refine wpN_mono (init_bytes (Q := fun r s' => r = .none ∧ Q (.ref s.heap.objs.size) s') hx hz fun h' hx' hs hk => ⟨rfl, h h' _ hx' ?_ (fun a o e => hk a o (Nat.ne_of_lt (Heap.lt_size e)) (Heap.get?_push_of_some _ e)) ?_⟩) (fun _ _ ⟨v, e, q⟩ => ⟨v, e, q⟩) fun _ _ e => e
  · cases q : s.heap.get? s.heap.objs.size with
    | none => rfl
    | some o => exact absurd (Heap.lt_size q) (Nat.lt_irrefl _)
  · rw [hs, Heap.size_push]; exact Nat.lt_succ_self _
theorem callN_int {n : Int} {t : Tok} {Q : Value → Shared → Prop} (h0 : 0 ≤ n) (hz : n ≤ 16777216)
    (h : ∀ h' x, h'.get? x = some (baObj (Array.replicate n.toNat 0)) → s.heap.get? x = none → (∀ a o, s.heap.get? a = some o → h'.get? a = some o) → s.heap.objs.size < h'.objs.size → Q (.ref x) { s with heap := h' }) : wpN (model prog w) A (call (.type "bytearray") [.int n t]) Q E s := by
  refine call_core fun hx => ?_
  refine wpN_mono (init_int (Q := fun r s' => r = .none ∧ Q (.ref s.heap.objs.size) s') hx h0 hz fun h' hx' hs hk => ⟨rfl, h h' _ hx' ?_ (fun a o e => hk a o (Nat.ne_of_lt (Heap.lt_size e)) (Heap.get?_push_of_some _ e)) ?_⟩) (fun _ _ ⟨v, e, q⟩ => ⟨v, e, q⟩) fun _ _ e => e
  · cases q : s.heap.get? s.heap.objs.size with
    | none => rfl
    | some o => exact absurd (Heap.lt_size q) (Nat.lt_irrefl _)
  · rw [hs, Heap.size_push]; exact Nat.lt_succ_self _
end BA
end
end Mine
end
section
open PySem PySem.W PyProof.Rows PySem.Calls
set_option maxRecDepth 100000
namespace Mine
section
variable {prog : Program} {w : World} {A : Around} {E : Value → Shared → Prop} {s : Shared} {R : Result → Shared → Prop}
theorem codeN_call_builtin_at {id : String} {args : Args} {b : Builtin} (hqt : (Code.builtin id args).quiet = true) (hg : badId id = false) (hb : entryFor table id = some b) (hc : wpAny (model prog w) A.in1 (checkBuiltinCall id args) (fun _ s₁ => s₁ = s) (fun _ _ => False) s)
    (h : wpN (model prog w) (A.under (.builtin id args)) (b args) (fun fin s' => match fin with | .done f => R (.ok f) s' | .again c' => c'.quiet = true ∧ badCode c' = false ∧ codeN (model prog w) A c' R s') (fun e s' => R (.error e) s') s) :
    codeN (model prog w) A (.call (.builtin id) args) R s := by
  refine codeN_of_tree ?_
  show wpN _ A.in1 (do checkBuiltinCall id args; again (.builtin id args)) _ _ s
  refine wpN_any (wpAny_mono hc (fun _ s₁ e => ?_) fun _ _ e => e.elim)
  subst e
  exact wpN_pure ⟨hqt, hg, codeN_builtin hb h⟩
end
section
variable {prog : Program} {w : World} {A : Around} {K : Frag} {C fI : Addr} {R : Result → Shared → Prop} {h : Heap} {g : Array GenState} {d : Drawn} {t : Nat} {os : OsState}
theorem makeN_core {rest : List Value} {kw : List (Str × Value)} (X : K.In h) (hm : makesIn K C = true) (hi : findIn K (.ref C) "__init__" = some (some (.ref fI))) (hf : typeIn K (.ref fI) = some (.type "function"))
    (hq : codeN (model prog w) (A.under (.builtin "type.__call__" ⟨.ref C :: rest, kw⟩)) (.call (.ref fI) ⟨.ref (h.objs.size + 1) :: rest, kw⟩) (InitBack (h.objs.size + 1) R) ⟨(h.push emptyDict).push (instObj C h.objs.size), g, d, t, os⟩) :
    codeN (model prog w) A (.call (.ref C) ⟨rest, kw⟩) R ⟨h, g, d, t, os⟩ := by
  have Y' := makes_of (M := model prog w) X hm
  obtain ⟨⟨oc, od, cd, sl, hC, e1, e2, e4⟩, made, base, self, top, call, typ⟩ := makes_of (M := model prog w) X hm
  refine codeN_of_tree ?_
  show wpN _ _ (callAny (.ref C) _) _ _ _
  refine wpN_any (m := load C) (wpAny_load hC ?_)
  show wpN _ _ (callAny.viaDunder (.ref C) _) _ _ _
  unfold callAny.viaDunder
  refine wpN_any (call.at ?_)
  dsimp only
  rw [tc_bind]
  refine wpN_bind (wpN_pure (wpN_bind (wpN_pure ?_)))
  refine wpN_pure (a := Fin.again (.call (.builtin "type.__call__") ⟨.ref C :: rest, kw⟩)) ⟨rfl, rfl, ?_⟩
  refine codeN_call_builtin_at (Code.quiet_builtin _ (by decide +kernel)) (by decide +kernel) entry_typeCall (check_slot tc_kind tc_split typ (tc_args _ _ _) rfl) ?_
  unfold Builtin.«type.__call__»
  have hmr : Looks (model prog w) h (mroOf (.ref C)) cd.mro := ((Looks.ld (part := none) hC).andThen .now).andThen .now
  dsimp only
  refine wpN_if_false rfl ?_
  refine wpN_any (hmr.at ?_)
  refine wpN_if_false e4 ?_
  refine wpN_any (made.at ?_)
  refine wpN_eq (a := .builtin "object.__new__") rfl ?_
  refine wpN_bind (wpN_holding (wpN_of (wpAny_call (new_K Y' (looks_findIn X hi) (.inl rfl) ?_))))
  have k : ∀ b o, h.get? b = some o → ((h.push emptyDict).push (instObj C h.objs.size)).get? b = some o := fun b o e => Heap.get?_push_of_some _ (Heap.get?_push_of_some _ e)
  have hx : ((h.push emptyDict).push (instObj C h.objs.size)).get? (h.objs.size + 1) = some (instObj C h.objs.size) := by heap_get
  have t1 : Looks (model prog w) ((h.push emptyDict).push (instObj C h.objs.size)) (typeOf (.ref (h.objs.size + 1))) (.ref C) := (Looks.ld hx).andThen .now
  have X' : K.In ((h.push emptyDict).push (instObj C h.objs.size)) := X.keeps k
  have t2 : Looks (model prog w) ((h.push emptyDict).push (instObj C h.objs.size)) (isInstance (.ref (h.objs.size + 1)) (.ref C)) true := by
    unfold isInstance
    exact t1.andThen (self.keeps k)
  refine wpN_any (m := isInstance (.ref (h.objs.size + 1)) (.ref C)) (t2.at ?_)
  refine wpN_if_false rfl ?_
  refine wpN_bind (wpN_holding ?_)
  unfold callSpecial?
  have t3 : Looks (model prog w) ((h.push emptyDict).push (instObj C h.objs.size)) (specialOf (.ref (h.objs.size + 1)) "__init__") (some (.ref fI)) := by
    unfold specialOf
    exact t1.andThen ((looks_findIn X hi).keeps k)
  refine wpN_any (t3.at ?_)
  refine wpN_holding ?_
  refine wpN_any ((bind_fn X' (.ref (h.objs.size + 1)) hf).at ?_)
  refine wpN_bind (wpN_call (codeN_mono hq fun r s' z => ?_))
  rcases r with e | (v | _ | _ | _) <;> first | exact z | exact z.elim | skip
  obtain ⟨rfl, z⟩ := z
  exact wpN_pure (wpN_if_false rfl (wpN_pure z))
end

section
variable {prog : Program} {w : World} {s : Shared} {R : Result → Shared → Prop}
/-- the shape in which my contracts hold their surroundings -/
abbrev AX (dp un : Nat) (gd : Option (List Code)) (l : List Env) : Around := { handled := none, depth := dp, frames := some l, guards := gd, units := un }
structure Kept (g h : Heap) : Prop where
  keep : ∀ b o, g.get? b = some o → h.get? b = some o
  size : g.objs.size ≤ h.objs.size
def Led (g h : Heap) (l : List (Addr × Obj)) : Prop := ∀ p ∈ l, h.get? p.1 = some p.2 ∧ g.get? p.1 = none
theorem Kept.refl (h : Heap) : Kept h h := ⟨fun _ _ e => e, Nat.le_refl _⟩
theorem Kept.trans {a b c : Heap} (x : Kept a b) (y : Kept b c) : Kept a c := ⟨fun q o e => y.keep q o (x.keep q o e), Nat.le_trans x.size y.size⟩
theorem Kept.of_fr {g h : Heap} {L : Addr} {m : Str → Option Value} (F : Fr g L h m) : Kept g h := ⟨F.keep, Nat.le_of_lt (Nat.lt_of_le_of_lt F.above F.ns.lt)⟩
theorem Led.of_news {g h : Heap} {L : Addr} {l : List (Addr × Obj)} (N : News g L h l) : Led g h l := fun p hp => ⟨(N p hp).1, (N p hp).2.2⟩
theorem Led.sub {g h : Heap} {l l' : List (Addr × Obj)} (N : Led g h l) (hs : ∀ p ∈ l', p ∈ l) : Led g h l' := fun p hp => N p (hs p hp)
theorem news_sub {g h : Heap} {L : Addr} {l l' : List (Addr × Obj)} (N : News g L h l) (hs : ∀ p ∈ l', p ∈ l) : News g L h l' := fun p hp => N p (hs p hp)

theorem enter {dp un : Nat} {gd : Option (List Code)} {l : List Env} {A₀ : Around} {base g : Heap} {K : Frag} {p : Program} {loose : List Str} {mean : ExcName → Option Value} {mg mb : Str → Option Value}
    {name qual : Str} {params : Arguments} {body : List Stmt} {scope : Scope} {dV kV doc pm cdv ct oc : Value} {an od : Option Addr} {osl : Array (Option Value)} {f : Addr} {args : Args} {binds : List (Str × Value)} {wr : List (Addr × Obj)}
    (_B : Below A₀ base l g) (X : K.In g) (T : Top p loose mean mg mb g) (Kp : Kept g s.heap) (N : Led g s.heap wr) (hdp : dp < recursionLimit)
    (ho : K.lookup f = some ⟨oc, od, .func (fnOf name qual params body scope dV kV doc pm an cdv ct), osl⟩) (hcd : codeIn K cdv qual = true)
    (hbind : BindsTo s (fnOf name qual params body scope dV kV doc pm an cdv ct) args binds) (hloc : ∀ y ∈ binds, scope.names.lookup y.1 = some .local)
    (h : ∀ L h₁, Fr g L h₁ (fun y => binds.reverse.lookup y) → News g L h₁ wr → Kept s.heap h₁ →
      wpAny (model prog w) ((AX dp un gd l).deeper (envOf qual scope L f cdv)) (execs body (envOf qual scope L f cdv))
        (fun fl s' => R (.ok (.ret (match fl with | .ret v => v | _ => .none))) s')
        (fun e s' => wpAny (model prog w) ((AX dp un gd l).deeper (envOf qual scope L f cdv)) (leaving (envOf qual scope L f cdv) e) (fun _ s'' => R (.error e) s'') (fun e' s'' => R (.error e') s'') s')
        { s with heap := h₁, toks := s.toks + binds.length })
    (hco : scope.isCoroutine = false) (hgen : scope.isGenerator = false) (hk : scope.kind = .function)
    (hcell : ∀ x ∈ scope.names, x.2 ≠ .cell) : codeAny (model prog w) (AX dp un gd l) (.call (.ref f) args) R s := by
  refine codeAny_call_def (fd := fnOf name qual params body scope dV kV doc pm an cdv ct) (body := body) (binds := binds) hdp (Kp.keep _ _ (X _ _ ho)) rfl (T.nolimit.keeps Kp.keep) (codeRec_of (X.keeps Kp.keep) hcd) rfl hbind hcell hloc (fun h₁ hns hk₁ => ?_) hco hgen hk
  refine h s.heap.objs.size h₁ ⟨hns, fun b o e => hk₁ b o (Kp.keep b o e), Kp.size⟩ (fun p hp => ⟨hk₁ _ _ (N p hp).1, Nat.ne_of_lt (Heap.lt_size (N p hp).1), (N p hp).2⟩) ⟨hk₁, Nat.le_of_lt hns.lt⟩
theorem codeN_func {A : Around} {body : List Stmt} {env : Env}
    (h : wpN (model prog w) (A.deeper env) (execs body env) (fun f s' => R (.ok (.ret (match f with | .ret v => v | _ => .none))) s')
      (fun e s' => wpAny (model prog w) (A.deeper env) (leaving env e) (fun _ s'' => R (.error e) s'') (fun e' s'' => R (.error e') s'') s') s) :
    codeN (model prog w) A (.func body env) R s := by
  refine codeN_of_tree ?_
  show wpN _ (A.deeper env) (do point; match ← (execs body env).onRaise (leaving env) with | .ret v => ret v | _ => ret .none) _ _ s
  refine wpN_any (wpAny_point (wpN_bind (wpN_onRaise (wpN_mono h (fun f s' h' => ?_) fun _ _ h' => wpN_of h'))))
  cases f <;> exact wpN_pure h'
theorem codeN_call_function {A : Around} {a : Addr} {args : Args} {o : Obj} {fd : FuncData} {body : List Stmt} (hroom : A.depth < recursionLimit) (ho : s.heap.get? a = some o)
    (hd' : o.data = .func fd) (hco : fd.scope.isCoroutine = false) (hgen : fd.scope.isGenerator = false) (hbody : fd.body = .stmts body) (hcd : s.heap.CodeRec fd.code fd.qualname)
    (h : wpAny (model prog w) A.in1 (bindArgs fd args) (fun binds s₁ =>
      wpAny (model prog w) A.in1 (newFunctionEnv fd.scope fd.globals fd.closure binds (fd.qualname ++ ".<locals>.") (some a) fd.code none fd.builtins)
        (fun env s₂ => s₂.heap.NoLimit ∧ codeN (model prog w) A (.func body env) R s₂) (fun _ _ => False) s₁) (fun _ _ => False) s) :
    codeN (model prog w) A (.call (.ref a) args) R s := by
  refine codeN_of_tree ?_
  refine wpN_of ?_
  show wpAny _ A.in1 (callAny (.ref a) args) _ _ s
  simp only [callAny]
  refine wpAny_bind (wpAny_load ho ?_)
  obtain ⟨c, oc, vs, tq, hc, hoc, hdc, hq⟩ := hcd
  simp only [hd', callFunction, hco, hgen, hbody, hc]
  rw [hc] at h
  refine wpAny_bind (m := field (.ref c) 1) (wpAny_field hoc hdc hq (wpAny_bind (wpAny_pure ?_)))
  exact wpAny_bind (wpAny_mono h (fun binds s₁ h₁ => wpAny_bind (wpAny_mono h₁ (fun env s₂ h₂ => wpAny_bind (wpAny_enterFrame h₂.1 hroom
    (wpAny_pure ⟨rfl, rfl, h₂.2⟩))) fun _ _ h' => h'.elim)) fun _ _ h' => h'.elim)
theorem enterN {dp un : Nat} {gd : Option (List Code)} {l : List Env} {A₀ : Around} {base g : Heap} {K : Frag} {p : Program} {loose : List Str} {mean : ExcName → Option Value} {mg mb : Str → Option Value}
    {name qual : Str} {params : Arguments} {body : List Stmt} {scope : Scope} {dV kV doc pm cdv ct oc : Value} {an od : Option Addr} {osl : Array (Option Value)} {f : Addr} {args : Args} {binds : List (Str × Value)} {wr : List (Addr × Obj)}
    (_B : Below A₀ base l g) (X : K.In g) (T : Top p loose mean mg mb g) (Kp : Kept g s.heap) (N : Led g s.heap wr) (hdp : dp < recursionLimit)
    (ho : K.lookup f = some ⟨oc, od, .func (fnOf name qual params body scope dV kV doc pm an cdv ct), osl⟩) (hcd : codeIn K cdv qual = true)
    (hbind : BindsTo s (fnOf name qual params body scope dV kV doc pm an cdv ct) args binds) (hloc : ∀ y ∈ binds, scope.names.lookup y.1 = some .local)
    (h : ∀ L h₁, Fr g L h₁ (fun y => binds.reverse.lookup y) → News g L h₁ wr → Kept s.heap h₁ →
      wpN (model prog w) ((AX dp un gd l).deeper (envOf qual scope L f cdv)) (execs body (envOf qual scope L f cdv))
        (fun fl s' => R (.ok (.ret (match fl with | .ret v => v | _ => .none))) s')
        (fun e s' => wpAny (model prog w) ((AX dp un gd l).deeper (envOf qual scope L f cdv)) (leaving (envOf qual scope L f cdv) e) (fun _ s'' => R (.error e) s'') (fun e' s'' => R (.error e') s'') s')
        { s with heap := h₁, toks := s.toks + binds.length })
    (hco : scope.isCoroutine = false) (hgen : scope.isGenerator = false) (hk : scope.kind = .function)
    (hcell : ∀ x ∈ scope.names, x.2 ≠ .cell) : codeN (model prog w) (AX dp un gd l) (.call (.ref f) args) R s := by
  refine codeN_call_function (fd := fnOf name qual params body scope dV kV doc pm an cdv ct) (body := body) hdp (Kp.keep _ _ (X _ _ ho)) rfl hco hgen rfl (codeRec_of (X.keeps Kp.keep) hcd) (hbind _ _ _ _ ?_)
  refine wpAny_newFunctionEnv hcell hloc (fun h₁ hns hsb => ?_) hk
  have hk₁ : ∀ b o, s.heap.get? b = some o → h₁.get? b = some o := fun b o e => hsb.extBut b o (Nat.ne_of_lt (Heap.lt_size e)) (Heap.get?_push_of_some _ e)
  refine ⟨(T.nolimit.keeps Kp.keep).keeps hk₁, codeN_func ?_⟩
  exact h s.heap.objs.size h₁ ⟨hns, fun b o e => hk₁ b o (Kp.keep b o e), Kp.size⟩ (fun p hp => ⟨hk₁ _ _ (N p hp).1, Nat.ne_of_lt (Heap.lt_size (N p hp).1), (N p hp).2⟩) ⟨hk₁, Nat.le_of_lt hns.lt⟩
theorem wpN_execs_cons {M : Model} {A : Around} {E : Value → Shared → Prop} {env : Env} {st : Stmt} {rest : List Stmt} {Q : Flow → Shared → Prop}
    (h : wpN M A (exec st env) (fun f s' => match f with | .next => wpN M A (execs rest env) Q E s' | f => Q f s') E s) : wpN M A (execs (st :: rest) env) Q E s := by
  rw [execs_cons]
  refine wpN_bind (wpN_mono h (fun f s' hq => ?_) fun _ _ e => e)
  cases f with
  | next => exact hq
  | brk => exact wpN_pure hq
  | cont => exact wpN_pure hq
  | ret v => exact wpN_pure hq
end
end Mine
end
section
open PySem PySem.W PyProof.Rows PySem.Calls
set_option maxRecDepth 100000
namespace Mine
noncomputable abbrev LS : List Str := looseW hd.view_39 [Str.ofString "Buffer", Str.ofString "RangeSet"]
noncomputable abbrev PG : Program := PySem.Challenge.rw_ix0004_01.row.prog

theorem hide_kept (h : Heap) (as : List Addr) : Kept (hideAll h as) h := ⟨fun _ _ e => of_hideAll _ e, Nat.le_of_eq (hideAll_size _ _)⟩
/-- out of a frame and its ledger: what a callee's contract asks, and the way back -/
theorem use {w : World} {dp un : Nat} {gd : Option (List Code)} {outer : List Env} {env : Env} {A₀ : Around} {base h₀ : Heap} {L : Addr} {s : Shared} {m : Str → Option Value} {mean : ExcName → Option Value} {mg mb : Str → Option Value} {news : List (Addr × Obj)}
    (B : Below A₀ base outer h₀) (F : Fr h₀ L s.heap m) (X : (hd.heap_39 w.params).In h₀) (T : Top hd.view_39 LS mean mg mb h₀) (N : News h₀ L s.heap news) (hf : env.frame = some L) (hke : env.scope.kind = .function)
    (wr rest : List (Addr × Obj)) (hwr : ∀ p ∈ wr, p ∈ news) (hrest : ∀ p ∈ rest, p ∈ news) (hdis : ∀ p ∈ rest, ∀ q ∈ wr, p.1 ≠ q.1) :
    ∃ g, Below (AX dp un gd (env :: outer)) base (env :: outer) g ∧ (hd.heap_39 w.params).In g ∧ Top hd.view_39 LS mean mg mb g ∧ Kept g s.heap ∧ Led g s.heap wr ∧
      ∀ h' news', Kept g h' → Led g h' news' → Fr h₀ L h' m ∧ News h₀ L h' (news' ++ rest) := by
  have nm : ∀ b o, h₀.get? b = some o → b ∉ wr.map (·.1) := fun b o e q => by
    obtain ⟨p, hp, rfl⟩ := List.mem_map.mp q
    rw [(N p (hwr p hp)).2.2] at e; cases e
  have st : h₀.StaysIn (hideAll s.heap (wr.map (·.1))) := fun b o e => hideAll_get _ (F.keep b o e) (nm b o e)
  obtain ⟨oL, es, ep, hL, hLd, hLk, hLf⟩ := F.ns
  have nL : L ∉ wr.map (·.1) := fun q => by
    obtain ⟨p, hp, e⟩ := List.mem_map.mp q
    exact (N p (hwr p hp)).2.1 e
  have hLg := hideAll_get (wr.map (·.1)) hL nL
  have hbase : base.get? L = none := by
    cases hq : base.get? L with
    | none => rfl
    | some o => exact absurd (Nat.lt_of_lt_of_le (Heap.lt_size (B.stays L o hq)) F.above) (Nat.lt_irrefl _)
  have hN : ∀ p ∈ wr, (hideAll s.heap (wr.map (·.1))).get? p.1 = none := fun p hp => hideAll_none _ (List.mem_map_of_mem hp)
  have hR : ∀ p ∈ rest, (hideAll s.heap (wr.map (·.1))).get? p.1 = some p.2 := fun p hp => hideAll_get _ (N p (hrest p hp)).1 fun q => by
    obtain ⟨q', hq', e⟩ := List.mem_map.mp q
    exact hdis p hp q' hq' e.symm
  have hK := hide_kept s.heap (wr.map (·.1))
  generalize hideAll s.heap (wr.map (·.1)) = gg at st hLg hN hR hK
  refine ⟨gg, ⟨rfl, fun b o e => st b o (B.stays b o e), ⟨by rw [hke]; decide, ⟨L, oL, hf, hbase, hLg, fun vs => by rw [hLd]; exact fun z => nomatch z⟩, B.frames.of_keeps fun b o e _ => ⟨o, st b o e, rfl⟩⟩⟩, X.keeps st, T.keeps st, hK, fun p hp => ⟨(N p (hwr p hp)).1, hN p hp⟩, fun h' news' K' N' => ⟨⟨⟨oL, es, ep, K'.keep L oL hLg, hLd, hLk, hLf⟩, fun b o e => K'.keep b o (st b o e), F.above⟩, fun p hp => ?_⟩⟩
  rcases List.mem_append.mp hp with hp | hp
  · refine ⟨(N' p hp).1, fun q => ?_, ?_⟩
    · have := (N' p hp).2; rw [q, hLg] at this; cases this
    · cases q : h₀.get? p.1 with
      | none => rfl
      | some o => have := (N' p hp).2; rw [st _ _ q] at this; cases this
  · exact ⟨K'.keep _ _ (hR p hp), (N p (hrest p hp)).2⟩
theorem led_ne {g h : Heap} {l : List (Addr × Obj)} {a b : Addr} {o₁ o₂ : Obj} (N : Led g h l) (h1 : (a, o₁) ∈ l) (h2 : (b, o₂) ∈ l) (hne : o₁ ≠ o₂) : @Ne Nat a b := fun e => by
  have x := (N _ h1).1
  have y := (N _ h2).1
  dsimp only at x y
  have e' : (a : Addr) = b := e
  rw [e', y] at x
  exact hne (Option.some.inj x).symm
/-- a def's contract: what it may change, what stands behind it; D: the room it wants -/
def Con (w : World) (mean : ExcName → Option Value) (mg mb : Str → Option Value) (D : Nat) (f : Addr) (pos : List Value) (kw : List (Str × Value)) (wr : List (Addr × Obj)) (post : Value → List (Addr × Obj) → Prop) : Prop :=
  ∀ (dp un : Nat) (gd : Option (List Code)) (l : List Env) (base g : Heap) (s : Shared) (R : Result → Shared → Prop), Below (AX dp un gd l) base l g → (hd.heap_39 w.params).In g → Top hd.view_39 LS mean mg mb g → Kept g s.heap → Led g s.heap wr →
    dp + D < recursionLimit → un + 10 * D < cLine → (∀ v news' h' tk, post v news' → Kept g h' → Led g h' news' → R (.ok (.ret v)) { s with heap := h', toks := tk }) → codeAny (model PG w) (AX dp un gd l) (.call (.ref f) ⟨pos, kw⟩) R s
inductive Split (wr : List (Addr × Obj)) : List (Addr × Obj) → List (Addr × Obj) → Prop
  | nil : Split wr [] []
  | keep {p r r'} : (∀ q ∈ wr, q.1 ≠ p.1) → Split wr r r' → Split wr (p :: r) (p :: r')
  | drop {p r r'} : Split wr r r' → Split wr (p :: r) r'
theorem Split.sub {wr : List (Addr × Obj)} : ∀ {l r : List (Addr × Obj)}, Split wr l r → (∀ p ∈ r, p ∈ l) ∧ ∀ p ∈ r, ∀ q ∈ wr, p.1 ≠ q.1
  | _, _, .nil => ⟨fun _ h => h, fun _ h => nomatch h⟩
  | _, _, .keep h x => ⟨fun p hp => by
      rcases List.mem_cons.mp hp with rfl | hp
      · exact .head _
      · exact .tail _ (x.sub.1 p hp), fun p hp q hq => by
      rcases List.mem_cons.mp hp with rfl | hp
      · exact Ne.symm (h q hq)
      · exact x.sub.2 p hp q hq⟩
  | _, _, .drop x => ⟨fun p hp => .tail _ (x.sub.1 p hp), x.sub.2⟩
theorem Con.call {w : World} {dp un : Nat} {gd : Option (List Code)} {outer : List Env} {env : Env} {A₀ : Around} {base h₀ : Heap} {L : Addr} {s : Shared} {m : Str → Option Value} {mean : ExcName → Option Value} {mg mb : Str → Option Value} {news wr rest : List (Addr × Obj)}
    {D : Nat} {f : Addr} {pos : List Value} {kw : List (Str × Value)} {post : Value → List (Addr × Obj) → Prop} {Q E : Value → Shared → Prop} (C : Con w mean mg mb D f pos kw wr post)
    (B : Below A₀ base outer h₀) (F : Fr h₀ L s.heap m) (X : (hd.heap_39 w.params).In h₀) (T : Top hd.view_39 LS mean mg mb h₀) (N : News h₀ L s.heap news) (hf : env.frame = some L) (hke : env.scope.kind = .function)
    (hwr : ∀ p ∈ wr, p ∈ news) (hs : Split wr news rest) (hdp : dp + D < recursionLimit) (hun : un + 10 * D < cLine)
    (k : ∀ v news' h' tk, post v news' → Fr h₀ L h' m → News h₀ L h' (news' ++ rest) → Q v { s with heap := h', toks := tk }) :
    wpAny (model PG w) (AX dp un gd (env :: outer)) (call (.ref f) pos kw) Q E s := by
  obtain ⟨g, B', X', T', K', N', back⟩ := use (dp := dp) (un := un) (gd := gd) B F X T N hf hke wr rest hwr hs.sub.1 hs.sub.2
  refine wpAny_call (C dp un gd _ base g s _ B' X' T' K' N' hdp hun fun v news' h' tk hp K2 L2 => ?_)
  obtain ⟨F3, N3⟩ := back h' news' K2 L2
  exact k v news' h' tk hp F3 N3
theorem fill : PySem.Challenge.rw_ix0004_01.Holds → hd.heap_39 = hd.heap_39 := by k_fill; intro _; rfl
end Mine
end
section
open PySem PySem.W PyProof.Rows PySem.Calls
set_option maxRecDepth 100000
set_option maxHeartbeats 8000000
namespace Mine
abbrev bufD (P : Params) (o : Addr) (k : Int) (t1 t2 t3 : Tok) : Obj := dictOf [⟨PyData.keyHash P (Str.ofString "_octets"), .str (Str.ofString "_octets") t1, .ref o⟩, ⟨PyData.keyHash P (Str.ofString "_place"), .str (Str.ofString "_place") t2, .int k t3⟩] 2
/-- a Buffer: its object x, its dict d, its octets o, its place k -/
abbrev bufL (P : Params) (x d o : Addr) (bs : List UInt8) (k : Int) (t1 t2 t3 : Tok) : List (Addr × Obj) := [(x, instObj 193 d), (d, bufD P o k t1 t2 t3), (o, BA.baObj bs.toArray)]
theorem cls_ne {o₁ o₂ : Obj} (h : o₁.cls ≠ o₂.cls) : o₁ ≠ o₂ := fun e => h (congrArg Obj.cls e)
theorem led_ba {g h : Heap} {L a : Addr} {news : List (Addr × Obj)} {b : Array UInt8} (N : News g L h news) (hm : (a, BA.baObj b) ∈ news) : BA.IsBA h a b := (N _ hm).1
theorem len_app {prog : Program} {w : World} {A : Around} {E : Value → Shared → Prop} {s : Shared} {a : Addr} {p q : List UInt8} {Q : Value → Shared → Prop} (ha : BA.IsBA s.heap a (p ++ q).toArray) (hz : p.length + q.length ≤ 16777216)
    (h : Q (.int ((p.length : Int) + (q.length : Int)) (s.toks + 1)) { s with toks := s.toks + 1 + 1 }) : wpAny (model prog w) A (call (.builtin "len") [.ref a]) Q E s := by
  have e : (((p ++ q).toArray.size : Nat) : Int) = (p.length : Int) + (q.length : Int) := by simp
  exact BA.len_N ha (by simpa using hz) (by rw [e]; exact h)
theorem led3 {g h : Heap} {L : Addr} {news : List (Addr × Obj)} {p1 p2 p3 : Addr × Obj} (N : News g L h news) (h1 : p1 ∈ news) (h2 : p2 ∈ news) (h3 : p3 ∈ news) : Led g h [p1, p2, p3] := fun p hp => by
  have := Led.of_news N
  simp only [List.mem_cons, List.not_mem_nil, or_false] at hp
  rcases hp with rfl | rfl | rfl
  · exact this _ h1
  · exact this _ h2
  · exact this _ h3
theorem picked_lo (pre old : List UInt8) : KBy.picked (pre ++ old).toArray none (some (pre.length : Int)) = pre.toArray := by
  rw [KBc.picked_eq]
  simp [clipAt_nat]
theorem picked_hi (pre old : List UInt8) (n : Nat) : KBy.picked (pre ++ old).toArray (some ((pre.length : Int) + (n : Int))) none = (old.drop n).toArray := by
  rw [KBc.picked_eq]
  have e : (pre.length : Int) + (n : Int) = ((pre.length + n : Nat) : Int) := by omega
  rw [e]
  simp only [Option.elim, clipAt_nat, List.size_toArray, List.length_append]
  congr 1
  by_cases hn : n ≤ old.length
  · rw [Nat.min_eq_left (by omega), List.take_of_length_le (by simp; omega), List.drop_append, List.drop_of_length_le (by omega)]
    simp
  · rw [Nat.min_eq_right (by omega), List.drop_of_length_le (l := old) (by omega)]
    simp
local macro_rules | `(tactic| walk_at "mine room") => `(tactic| first | (dsimp only; omega) | ((try simp only [depth_mark, depth_under_make, depth_under_kw, depth_in1, depth_deeper, units_deeper, units_in1, units_under_make]); (try dsimp only); omega))
local macro_rules | `(tactic| walk_at "mine one") => `(tactic| (first | (k_unfold; (try dsimp only)) | (k_end; wrow_close) | walk1 | (dsimp only; walk1) | (leave1; walk_say "STEP leave1"; try dsimp only) | (dsimp only; k_unfold; (try dsimp only)) | (dsimp only [StepO]; k_unfold; (try dsimp only)) | fail "no step"))
local macro_rules | `(tactic| walk_at "mine enter") => `(tactic| (refine' enter ?k1 ?k2 ?k3 ?k4 ?k5 ?kd ?k6 ?k7 ?k8 ?k9 ?_ ?c2 ?c3 ?c4 ?c5; (case k1 => assumption); (case k2 => assumption); (case k3 => assumption); (case k4 => assumption); (case k5 => assumption); (case kd => omega); (case k6 => k_is); (case k7 => k_is); (case k8 => first | exact BindsTo.of_eq rfl | exact binds_K (Frag.In.keeps (by assumption) (Kept.keep (by assumption))) rfl (by k_is) rfl rfl rfl | exact binds_K (by k_in) rfl (by k_is) rfl rfl rfl); (case c5 => decide); (case k9 => exact locs rfl); (case c2 => exact rfl); (case c3 => exact rfl); (case c4 => exact rfl); k_whole; intro L' h' F' N' K'; (try dsimp only); (try k_fold)))
local macro_rules | `(tactic| walk_at "mine wr") => `(tactic| ((repeat (refine List.forall_mem_cons.mpr ⟨?_, ?_⟩; (· k_mem))); exact List.forall_mem_nil _))
local macro_rules | `(tactic| walk_at "mine split") => `(tactic| (repeat' (first | exact Split.nil | (refine' Split.keep ?a ?_; (case a => k_all)) | refine' Split.drop ?_)))
local macro_rules | `(tactic| walk_at "mine con") => `(tactic| ((case kB => assumption); (case kF => k_asm); (case kX => assumption); (case kT => assumption); (case kN => k_asm); (case kf => exact rfl); (case kk => exact rfl); (case kw => walk_at "mine wr"); (case ks => walk_at "mine split"); (case kd => walk_at "mine room"); (case ku => walk_at "mine room")))
local macro_rules | `(tactic| walk_at "mine conE") => `(tactic| ((case kB => assumption); (case kF => k_asm); (case kX => assumption); (case kT => assumption); (case kN => k_asm); (case kf => exact rfl); (case kk => exact rfl); (case kw => walk_at "mine wr"); (case ks => walk_at "mine split"); (case kd => walk_at "mine room"); (case ku => walk_at "mine room")))
local macro_rules | `(tactic| k_room) => `(tactic| ((try simp only [depth_mark, depth_under_make, depth_under_kw, depth_in1, depth_deeper, depth_caller]); (try dsimp only); omega))
local macro_rules | `(tactic| walk_at "mine map") => `(tactic| (refine' map_off _ ?hs ?a; (case a => (intro y hy; (have nn : ∀ z, _ = true → y ≠ z := fun z hz e => by subst e; exact absurd (hz.symm.trans hy) (by decide)); (try dsimp only); (repeat rw [if_neg (nn _ (by decide))]); first | done | exact rfl)); (case hs => decide)))
local macro_rules | `(tactic| walk_at "mine oneD") => `(tactic| (first | (k_unfold; (try dsimp only)) | (k_end; wrow_close) | (walk1; (try dsimp only [List.cons_append, List.nil_append])) | (dsimp only; walk1) | (leave1; walk_say "STEP leave1"; try dsimp only) | (dsimp only; k_unfold; (try dsimp only)) | (dsimp only [StepO]; k_unfold; (try dsimp only)) | fail "no step"))
local macro_rules | `(tactic| walk_at "mine size") => `(tactic| ((try simp only [Array.size_append]); refine Nat.le_trans (by first | exact Nat.add_le_add (Nat.add_le_add (KBc.size_picked_le _ _ _) (Nat.le_refl _)) (KBc.size_picked_le _ _ _) | exact Nat.add_le_add (KBc.size_picked_le _ _ _) (Nat.le_refl _) | exact KBc.size_picked_le _ _ _) ?_; simp only [List.size_toArray, List.length_append]; omega))
local macro_rules | `(tactic| walk_at "call builtin:len") => `(tactic| (k_here; (with_reducible show wpAny _ _ (call (Value.builtin "len") [Value.ref _]) _ _ _); (with_reducible rename News _ _ _ _ => N'); (refine' len_app ?ba ?hz ?_; (case ba => exact led_ba N' (by k_mem)); (case hz => omega); k_whole)))
local macro_rules | `(tactic| walk_at "subscriptTail") => `(tactic| (k_here; (with_reducible show wpAny _ _ (subscriptTail _ (Expr.Slice _ _ none _) (Value.ref _) (Value.ref _)) _ _ _); (with_reducible rename Fr _ _ _ _ => F'); (with_reducible rename News _ _ _ _ => N'); (refine' BA.slice_N (s := ⟨_, _, _, _, _⟩) F' N' ?ba (by constructor) (by constructor) ?hz ?_; (case ba => exact led_ba N' (by k_mem)); (case hz => walk_at "mine size"); intro h' x' F' N' l1; (try k_lt l1); (try k_sweep); (try dsimp only))))
local macro_rules | `(tactic| walk_at "binaryOp Add") => `(tactic| (k_here; (with_reducible show wpAny _ _ (binaryOp _ (Value.ref _) (Value.bytes _ _)) _ _ _); (with_reducible rename Fr _ _ _ _ => F'); (with_reducible rename News _ _ _ _ => N'); (refine' BA.add_b F' N' ?ba ?hz ?_; (case ba => exact led_ba N' (by k_mem)); (case hz => walk_at "mine size"); intro h' x' F' N' l1; (try k_lt l1); (try k_sweep); (try dsimp only))))
local macro_rules | `(tactic| walk_at "binaryOp Add") => `(tactic| (k_here; (with_reducible show wpAny _ _ (binaryOp _ (Value.ref _) (Value.ref _)) _ _ _); (with_reducible rename Fr _ _ _ _ => F'); (with_reducible rename News _ _ _ _ => N'); (refine' BA.add_ba F' N' ?ba ?bb ?hz ?_; (case ba => exact led_ba N' (by k_mem)); (case bb => exact led_ba N' (by k_mem)); (case hz => walk_at "mine size"); intro h' x' F' N' l1; (try k_lt l1); (try k_sweep); (try dsimp only))))

theorem push_bytes {w : World} {mean : ExcName → Option Value} {mg mb : Str → Option Value} {x d o : Addr} {t1 t2 t3 t4 : Tok} {pre old : List UInt8} {v : Array UInt8} (hv : v.size ≤ old.length) (hz : pre.length + old.length ≤ 100000) :
    Con w mean mg mb 5 155 [.ref x, .bytes v t4] [] (bufL w.params x d o (pre ++ old) pre.length t1 t2 t3)
      (fun r news' => r = .none ∧ ∃ o' t3', news' = bufL w.params x d o' (pre ++ v.toList ++ old.drop v.size) (pre.length + v.size) t1 t2 t3') := by
  intro dp un gd l base g s R B X T Kp N hdp hun ret
  w_on
  have hxd : @Ne Nat x d := led_ne N (.head _) (.tail _ (.head _)) (cls_ne (by simp))
  have hxo : @Ne Nat x o := led_ne N (.head _) (.tail _ (.tail _ (.head _))) (cls_ne (by simp))
  have hdo : @Ne Nat d o := led_ne N (.tail _ (.head _)) (.tail _ (.tail _ (.head _))) (cls_ne (by simp))
  walk_at "mine enter"
  repeat' walk_at "mine one"
  (with_reducible rename Fr _ _ _ _ => F1)
  (with_reducible rename News _ _ _ _ => N1)
  rw [picked_lo, picked_hi, show pre.toArray ++ v ++ (old.drop v.size).toArray = (pre ++ v.toList ++ old.drop v.size).toArray from by simp] at N1
  refine' ret _ _ _ _ ⟨rfl, _, _, rfl⟩ (Kept.of_fr F1) (led3 N1 ?a ?b ?c)
  case a => k_mem
  case b => k_mem
  case c => k_mem
end Mine
end
section
open PySem PySem.W PyProof.Rows PySem.Calls
set_option maxRecDepth 100000
set_option maxHeartbeats 8000000
namespace Mine
/-- x in k octets, the greatest first -/
def beI (k : Nat) (x : Int) : List UInt8 := ((KTBy.little k x).reverse).map fun i => UInt8.ofNat i.toNat
theorem beI_length (k : Nat) (x : Int) : (beI k x).length = k := by simp [beI, KTBy.little_length]
theorem toList_of_ints {b : Array UInt8} {k : Nat} {x : Int} (h : KBw.bInts b = (KTBy.little k x).reverse) : b.toList = beI k x := by
  unfold beI
  rw [← h]
  unfold KBw.bInts
  rw [List.map_map]
  conv => lhs; rw [← List.map_id b.toList]
  refine List.map_congr_left fun c _ => ?_
  show c = UInt8.ofNat ((c.toNat : Int).toNat)
  rw [Int.toNat_natCast, UInt8.ofNat_toNat]
theorem and_apart {v : Int} (k : Nat) (c : Nat) (h0 : 0 ≤ v) (h1 : v < 2 ^ k) : Builtin.bitAnd v ((2 ^ k * c : Nat) : Int) = 0 := by
  obtain ⟨n, rfl⟩ := Int.eq_ofNat_of_zero_le h0
  have hn : n < 2 ^ k := by
    have : ((n : Nat) : Int) < ((2 ^ k : Nat) : Int) := by rw [Int.natCast_pow]; exact h1
    exact Int.ofNat_lt.mp this
  have e1 : decide (0 ≤ ((n : Nat) : Int)) = true := decide_eq_true (by omega)
  have e2 : decide (0 ≤ ((2 ^ k * c : Nat) : Int)) = true := decide_eq_true (Int.natCast_nonneg _)
  unfold Builtin.bitAnd
  rw [e1, e2]
  show ((((n : Int).toNat &&& ((2 ^ k * c : Nat) : Int).toNat : Nat)) : Int) = 0
  rw [Int.toNat_natCast, Int.toNat_natCast]
  have : n &&& (2 ^ k * c) = 0 := by
    refine Nat.eq_of_testBit_eq fun i => ?_
    rw [Nat.testBit_and, Nat.zero_testBit]
    by_cases hi : i < k
    · rw [Nat.testBit_two_pow_mul]
      simp [Nat.not_le.mpr hi]
    · rw [Nat.testBit_lt_two_pow (Nat.lt_of_lt_of_le hn (Nat.pow_le_pow_right (by decide) (Nat.le_of_not_lt hi)))]
      rfl
  rw [this]
  rfl
theorem or_apart {v : Int} (k c : Nat) (h0 : 0 ≤ v) (h1 : v < 2 ^ k) : Builtin.bitOr v ((2 ^ k * c : Nat) : Int) = v + ((2 ^ k * c : Nat) : Int) := by
  rw [bitOr_and, and_apart k c h0 h1]
  omega
section
variable {prog : Program} {w : World} {A : Around} {E : Value → Shared → Prop} {s : Shared} {Q : Value → Shared → Prop} {v : Int} {t u : Tok}
theorem or14 (h0 : 0 ≤ v) (h1 : v ≤ 16383) (h : Q (.int (v + 16384) s.toks) { s with toks := s.toks + 1 }) : wpAny (model prog w) A (binaryOp .BitOr (.int v t) (.int 16384 u)) Q E s := by
  refine or_int ?_
  rw [show Builtin.bitOr v 16384 = v + 16384 from or_apart 14 1 h0 (by omega)]
  exact h
theorem or30 (h0 : 0 ≤ v) (h1 : v ≤ 1073741823) (h : Q (.int (v + 2147483648) s.toks) { s with toks := s.toks + 1 }) : wpAny (model prog w) A (binaryOp .BitOr (.int v t) (.int 2147483648 u)) Q E s := by
  refine or_int ?_
  rw [show Builtin.bitOr v 2147483648 = v + 2147483648 from or_apart 30 2 h0 (by omega)]
  exact h
theorem or62 (h0 : 0 ≤ v) (h1 : v < 4611686018427387904) (h : Q (.int (v + 13835058055282163712) s.toks) { s with toks := s.toks + 1 }) : wpAny (model prog w) A (binaryOp .BitOr (.int v t) (.int 13835058055282163712 u)) Q E s := by
  refine or_int ?_
  rw [show Builtin.bitOr v 13835058055282163712 = v + 13835058055282163712 from or_apart 62 3 h0 (by omega)]
  exact h
theorem tobytes {x B : Int} (k : Nat) {t1 t2 t3 : Tok} (hk : k ≤ 8) (hB : (256 : Int) ^ k = B) (h0 : 0 ≤ x) (h1 : x < B) (h : ∀ t' k', Q (.bytes (beI k x).toArray t') { s with toks := k' }) :
    wpAny (model prog w) A (call (.builtin "int.to_bytes") [.int x t1, .int (k : Int) t2, .str (PySem.Str.ofString "big") t3]) Q E s := by
  refine KTBy.to_big hk hB h0 h1 fun b t' k' hb _ => ?_
  rw [show b = (beI k x).toArray from by rw [← toList_of_ints hb, Array.toArray_toList]]
  exact h t' k'
end
/-- the octets of a number by QUIC's variable length -/
def vidx (v : Int) : Nat := if v ≤ 63 then 0 else if v ≤ 16383 then 1 else if v ≤ 1073741823 then 2 else 3
def venc (v : Int) : List UInt8 := if v ≤ 63 then beI 1 v else if v ≤ 16383 then beI 2 (v + 16384) else if v ≤ 1073741823 then beI 4 (v + 2147483648) else beI 8 (v + 13835058055282163712)
theorem venc_length (v : Int) : (venc v).length = 2 ^ vidx v := by
  unfold venc vidx
  split
  · simp [beI_length]
  · split
    · simp [beI_length]
    · split <;> simp [beI_length]
local macro_rules | `(tactic| walk_at "mine room") => `(tactic| first | (dsimp only; omega) | ((try simp only [depth_mark, depth_under_make, depth_under_kw, depth_in1, depth_deeper, units_deeper, units_in1, units_under_make]); (try dsimp only); omega))
local macro_rules | `(tactic| walk_at "mine one") => `(tactic| (first | (k_unfold; (try dsimp only)) | (k_end; wrow_close) | walk1 | (dsimp only; walk1) | (leave1; walk_say "STEP leave1"; try dsimp only) | (dsimp only; k_unfold; (try dsimp only)) | (dsimp only [StepO]; k_unfold; (try dsimp only)) | fail "no step"))
local macro_rules | `(tactic| walk_at "mine enter") => `(tactic| (refine' enter ?k1 ?k2 ?k3 ?k4 ?k5 ?kd ?k6 ?k7 ?k8 ?k9 ?_ ?c2 ?c3 ?c4 ?c5; (case k1 => assumption); (case k2 => assumption); (case k3 => assumption); (case k4 => assumption); (case k5 => assumption); (case kd => omega); (case k6 => k_is); (case k7 => k_is); (case k8 => first | exact BindsTo.of_eq rfl | exact binds_K (Frag.In.keeps (by assumption) (Kept.keep (by assumption))) rfl (by k_is) rfl rfl rfl | exact binds_K (by k_in) rfl (by k_is) rfl rfl rfl); (case c5 => decide); (case k9 => exact locs rfl); (case c2 => exact rfl); (case c3 => exact rfl); (case c4 => exact rfl); k_whole; intro L' h' F' N' K'; (try dsimp only); (try k_fold)))
local macro_rules | `(tactic| walk_at "mine wr") => `(tactic| ((repeat (refine List.forall_mem_cons.mpr ⟨?_, ?_⟩; (· k_mem))); exact List.forall_mem_nil _))
local macro_rules | `(tactic| walk_at "mine split") => `(tactic| (repeat' (first | exact Split.nil | (refine' Split.keep ?a ?_; (case a => k_all)) | refine' Split.drop ?_)))
local macro_rules | `(tactic| walk_at "mine con") => `(tactic| ((case kB => assumption); (case kF => k_asm); (case kX => assumption); (case kT => assumption); (case kN => k_asm); (case kf => exact rfl); (case kk => exact rfl); (case kw => walk_at "mine wr"); (case ks => walk_at "mine split"); (case kd => walk_at "mine room"); (case ku => walk_at "mine room")))
local macro_rules | `(tactic| walk_at "mine conE") => `(tactic| ((case kB => assumption); (case kF => k_asm); (case kX => assumption); (case kT => assumption); (case kN => k_asm); (case kf => exact rfl); (case kk => exact rfl); (case kw => walk_at "mine wr"); (case ks => walk_at "mine split"); (case kd => walk_at "mine room"); (case ku => walk_at "mine room")))
local macro_rules | `(tactic| k_room) => `(tactic| ((try simp only [depth_mark, depth_under_make, depth_under_kw, depth_in1, depth_deeper, depth_caller]); (try dsimp only); omega))
local macro_rules | `(tactic| walk_at "mine map") => `(tactic| (refine' map_off _ ?hs ?a; (case a => (intro y hy; (have nn : ∀ z, _ = true → y ≠ z := fun z hz e => by subst e; exact absurd (hz.symm.trans hy) (by decide)); (try dsimp only); (repeat rw [if_neg (nn _ (by decide))]); first | done | exact rfl)); (case hs => decide)))
local macro_rules | `(tactic| walk_at "mine oneD") => `(tactic| (first | (k_unfold; (try dsimp only)) | (k_end; wrow_close) | (walk1; (try dsimp only [List.cons_append, List.nil_append])) | (dsimp only; walk1) | (leave1; walk_say "STEP leave1"; try dsimp only) | (dsimp only; k_unfold; (try dsimp only)) | (dsimp only [StepO]; k_unfold; (try dsimp only)) | fail "no step"))
local macro_rules | `(tactic| walk_at "call ref") => `(tactic| (k_here; (with_reducible show wpAny _ _ (call (Value.ref 155) [Value.ref _, Value.bytes _ _]) _ _ _); k_dflt (refine' Con.call (push_bytes ?hv ?hz) ?kB ?kF ?kX ?kT ?kN ?kf ?kk ?kw ?ks ?kd ?ku ?_; walk_at "mine con"; (case hv => (simp only [List.size_toArray, beI_length]; omega)); (case hz => omega); intro v' news' h' tk' hp' F' N'; obtain ⟨hv', o', t3', hn'⟩ := hp'; subst hv'; subst hn'; dsimp only [bufL, List.cons_append, List.nil_append] at N'; (try k_sweep); (try dsimp only))))
local macro_rules | `(tactic| walk_at "binaryOp BitOr int int") => `(tactic| (k_here; (first | refine or14 (by assumption) (by assumption) ?_ | refine or30 (by assumption) (by assumption) ?_ | refine or62 (by assumption) (by assumption) ?_)))
local macro_rules | `(tactic| walk_at "call builtin:int.to_bytes") => `(tactic| (k_here; (first | (with_unfolding_all refine tobytes (B := 256) 1 (by decide) (by decide) (by omega) (by omega) ?_) | (with_unfolding_all refine tobytes (B := 65536) 2 (by decide) (by decide) (by omega) (by omega) ?_) | (with_unfolding_all refine tobytes (B := 4294967296) 4 (by decide) (by decide) (by omega) (by omega) ?_) | (with_unfolding_all refine tobytes (B := 18446744073709551616) 8 (by decide) (by decide) (by omega) (by omega) ?_)); intro _ _; (try dsimp only)))
theorem push_uint_var {w : World} {mean : ExcName → Option Value} {mg mb : Str → Option Value} {x d o : Addr} {t1 t2 t3 t4 : Tok} {pre old : List UInt8} {v : Int} (h0 : 0 ≤ v) (h1 : v < 4611686018427387904) (hv : (venc v).length ≤ old.length) (hz : pre.length + old.length ≤ 100000) :
    Con w mean mg mb 10 190 [.ref x, .int v t4] [] (bufL w.params x d o (pre ++ old) pre.length t1 t2 t3)
      (fun r news' => r = .none ∧ ∃ o' t3', news' = bufL w.params x d o' (pre ++ venc v ++ old.drop (venc v).length) (pre.length + (venc v).length) t1 t2 t3') := by
  intro dp un gd l base g s R B X T Kp N hdp hun ret
  w_on
  have hxd : @Ne Nat x d := led_ne N (.head _) (.tail _ (.head _)) (cls_ne (by simp))
  have hxo : @Ne Nat x o := led_ne N (.head _) (.tail _ (.tail _ (.head _))) (cls_ne (by simp))
  have hdo : @Ne Nat d o := led_ne N (.tail _ (.head _)) (.tail _ (.tail _ (.head _))) (cls_ne (by simp))
  have split : (v ≤ 63 ∧ venc v = beI 1 v) ∨ (¬ v ≤ 63 ∧ v ≤ 16383 ∧ venc v = beI 2 (v + 16384)) ∨ (¬ v ≤ 63 ∧ ¬ v ≤ 16383 ∧ v ≤ 1073741823 ∧ venc v = beI 4 (v + 2147483648)) ∨ (¬ v ≤ 63 ∧ ¬ v ≤ 16383 ∧ ¬ v ≤ 1073741823 ∧ venc v = beI 8 (v + 13835058055282163712)) := by
    unfold venc
    by_cases c1 : v ≤ 63
    · exact .inl ⟨c1, by rw [if_pos c1]⟩
    · by_cases c2 : v ≤ 16383
      · exact .inr (.inl ⟨c1, c2, by rw [if_neg c1, if_pos c2]⟩)
      · by_cases c3 : v ≤ 1073741823
        · exact .inr (.inr (.inl ⟨c1, c2, c3, by rw [if_neg c1, if_neg c2, if_pos c3]⟩))
        · exact .inr (.inr (.inr ⟨c1, c2, c3, by rw [if_neg c1, if_neg c2, if_neg c3]⟩))
  rcases split with ⟨c1, e⟩ | ⟨c1, c2, e⟩ | ⟨c1, c2, c3, e⟩ | ⟨c1, c2, c3, e⟩ <;> rw [e, beI_length] at hv <;> rw [e, beI_length] at ret
  all_goals
    walk_at "mine enter"
    repeat' walk_at "mine one"
    (with_reducible rename Fr _ _ _ _ => F1)
    (with_reducible rename News _ _ _ _ => N1)
    simp only [List.size_toArray, beI_length] at N1
    exact ret _ _ _ _ ⟨rfl, _, _, rfl⟩ (Kept.of_fr F1) (Led.of_news N1)
end Mine
end
section
open PySem PySem.W PyProof.Rows PySem.Calls
set_option maxRecDepth 100000
namespace Mine
/-- the turns of a frame: sizes and gaps, the newest first; s: the start of the row before -/
def fgap : Int → List (Int × Int) → List UInt8
  | _, [] => []
  | s, (a, b) :: r => venc (s - b - 1) ++ venc (b - a - 1) ++ fgap a r
/-- a frame of rows, the newest first -/
def fenc (delay : Int) : List (Int × Int) → List UInt8
  | [] => []
  | (a, b) :: r => venc (b - 1) ++ venc delay ++ venc (r.length : Int) ++ venc (b - 1 - a) ++ fgap a r
/-- how many rows are written -/
def cntOf (n : Nat) (M cap : Int) : Nat := if 2 * ((n : Int) + 1) * 8 > cap then (min (n : Int) (cap / (2 * ((2 ^ vidx M : Nat) : Int)) - 1)).toNat else n
/-- the greater of two, as max says it -/
abbrev mx (a b : Int) : Int := if b > a then b else a
/-- rows, the newest first: apart, in order, none below 0, none above 2 ** 62 -/
def OkR : List (Int × Int) → Prop
  | [] => True
  | (a, b) :: r => 0 ≤ a ∧ a < b ∧ b ≤ 4611686018427387904 ∧ (∀ q ∈ r.head?, q.2 < a) ∧ OkR r
end Mine
end
section
open PySem PySem.W PyProof.Rows PySem.Calls
set_option maxRecDepth 100000
namespace Mine
/-- as `use`, and what stands in the callee's ground of the caller's own -/
theorem use2 {w : World} {dp un : Nat} {gd : Option (List Code)} {outer : List Env} {env : Env} {A₀ : Around} {base h₀ : Heap} {L : Addr} {s : Shared} {m : Str → Option Value} {mean : ExcName → Option Value} {mg mb : Str → Option Value} {news : List (Addr × Obj)}
    (B : Below A₀ base outer h₀) (F : Fr h₀ L s.heap m) (X : (hd.heap_39 w.params).In h₀) (T : Top hd.view_39 LS mean mg mb h₀) (N : News h₀ L s.heap news) (hf : env.frame = some L) (hke : env.scope.kind = .function)
    (wr rest : List (Addr × Obj)) (hwr : ∀ p ∈ wr, p ∈ news) (hrest : ∀ p ∈ rest, p ∈ news) (hdis : ∀ p ∈ rest, ∀ q ∈ wr, p.1 ≠ q.1) :
    ∃ g, (Below (AX dp un gd (env :: outer)) base (env :: outer) g ∧ (hd.heap_39 w.params).In g ∧ Top hd.view_39 LS mean mg mb g ∧ Kept g s.heap ∧ Led g s.heap wr ∧
      ∀ h' news', Kept g h' → Led g h' news' → Fr h₀ L h' m ∧ News h₀ L h' (news' ++ rest)) ∧ Fr h₀ L g m ∧ (∀ p ∈ rest, g.get? p.1 = some p.2) ∧ ∀ b o, h₀.get? b = some o → g.get? b = some o := by
  have nm : ∀ b o, h₀.get? b = some o → b ∉ wr.map (·.1) := fun b o e q => by
    obtain ⟨p, hp, rfl⟩ := List.mem_map.mp q
    rw [(N p (hwr p hp)).2.2] at e; cases e
  have st : h₀.StaysIn (hideAll s.heap (wr.map (·.1))) := fun b o e => hideAll_get _ (F.keep b o e) (nm b o e)
  obtain ⟨oL, es, ep, hL, hLd, hLk, hLf⟩ := F.ns
  have nL : L ∉ wr.map (·.1) := fun q => by
    obtain ⟨p, hp, e⟩ := List.mem_map.mp q
    exact (N p (hwr p hp)).2.1 e
  have hLg := hideAll_get (wr.map (·.1)) hL nL
  have hbase : base.get? L = none := by
    cases hq : base.get? L with
    | none => rfl
    | some o => exact absurd (Nat.lt_of_lt_of_le (Heap.lt_size (B.stays L o hq)) F.above) (Nat.lt_irrefl _)
  have hN : ∀ p ∈ wr, (hideAll s.heap (wr.map (·.1))).get? p.1 = none := fun p hp => hideAll_none _ (List.mem_map_of_mem hp)
  have hR : ∀ p ∈ rest, (hideAll s.heap (wr.map (·.1))).get? p.1 = some p.2 := fun p hp => hideAll_get _ (N p (hrest p hp)).1 fun q => by
    obtain ⟨q', hq', e⟩ := List.mem_map.mp q
    exact hdis p hp q' hq' e.symm
  have hK := hide_kept s.heap (wr.map (·.1))
  generalize hideAll s.heap (wr.map (·.1)) = gg at st hLg hN hR hK
  refine ⟨gg, ⟨⟨rfl, fun b o e => st b o (B.stays b o e), ⟨by rw [hke]; decide, ⟨L, oL, hf, hbase, hLg, fun vs => by rw [hLd]; exact fun z => nomatch z⟩, B.frames.of_keeps fun b o e _ => ⟨o, st b o e, rfl⟩⟩⟩, X.keeps st, T.keeps st, hK, fun p hp => ⟨(N p (hwr p hp)).1, hN p hp⟩, fun h' news' K' N' => ⟨⟨⟨oL, es, ep, K'.keep L oL hLg, hLd, hLk, hLf⟩, fun b o e => K'.keep b o (st b o e), F.above⟩, fun p hp => ?_⟩⟩, ⟨⟨oL, es, ep, hLg, hLd, hLk, hLf⟩, st, F.above⟩, hR, st⟩
  rcases List.mem_append.mp hp with hp | hp
  · refine ⟨(N' p hp).1, fun q => ?_, ?_⟩
    · have := (N' p hp).2; rw [q, hLg] at this; cases this
    · cases q : h₀.get? p.1 with
      | none => rfl
      | some o => have := (N' p hp).2; rw [st _ _ q] at this; cases this
  · exact ⟨K'.keep _ _ (hR p hp), (N p (hrest p hp)).2⟩
/-- a def's contract with errors: rd what it may lean on (it stands in the ground), err the class of what it may raise -/
def ConE (w : World) (mean : ExcName → Option Value) (mg mb : Str → Option Value) (D : Nat) (f : Addr) (pos : List Value) (kw : List (Str × Value)) (rd wr : List (Addr × Obj)) (post : Value → List (Addr × Obj) → Prop) (err : Value → Prop) : Prop :=
  ∀ (dp un : Nat) (gd : Option (List Code)) (l : List Env) (base g : Heap) (s : Shared) (R : Result → Shared → Prop), Below (AX dp un gd l) base l g → (hd.heap_39 w.params).In g → Top hd.view_39 LS mean mg mb g → Kept g s.heap → Led g s.heap wr → (∀ p ∈ rd, g.get? p.1 = some p.2) →
    dp + D < recursionLimit → un + 10 * D < cLine → (∀ v news' h' tk, post v news' → Kept g h' → Led g h' news' → R (.ok (.ret v)) { s with heap := h', toks := tk }) →
    (∀ e t cls vs h' tk, err cls → RaisedK base l e cls t vs [] h' → g.UpToSlots h' → R (.error (.ref e)) { s with heap := h', toks := tk }) → codeAny (model PG w) (AX dp un gd l) (.call (.ref f) ⟨pos, kw⟩) R s
theorem Con.toE {w : World} {mean : ExcName → Option Value} {mg mb : Str → Option Value} {D : Nat} {f : Addr} {pos : List Value} {kw : List (Str × Value)} {wr : List (Addr × Obj)} {post : Value → List (Addr × Obj) → Prop} (C : Con w mean mg mb D f pos kw wr post) :
    ConE w mean mg mb D f pos kw [] wr post (fun _ => False) := fun dp un gd l base g s R B X T K N _ h1 h2 k _ => C dp un gd l base g s R B X T K N h1 h2 k
theorem ConE.callE {w : World} {dp un : Nat} {gd : Option (List Code)} {outer : List Env} {env : Env} {A₀ : Around} {base h₀ : Heap} {L : Addr} {s : Shared} {m : Str → Option Value} {mean : ExcName → Option Value} {mg mb : Str → Option Value} {news wr rd rest : List (Addr × Obj)}
    {D : Nat} {f : Addr} {pos : List Value} {kw : List (Str × Value)} {post : Value → List (Addr × Obj) → Prop} {err : Value → Prop} {Q E : Value → Shared → Prop} (C : ConE w mean mg mb D f pos kw rd wr post err)
    (B : Below A₀ base outer h₀) (F : Fr h₀ L s.heap m) (X : (hd.heap_39 w.params).In h₀) (T : Top hd.view_39 LS mean mg mb h₀) (N : News h₀ L s.heap news) (hf : env.frame = some L) (hke : env.scope.kind = .function)
    (hwr : ∀ p ∈ wr, p ∈ news) (hs : Split wr news rest) (hrd : ∀ p ∈ rd, p ∈ rest ∨ h₀.get? p.1 = some p.2) (hdp : dp + D < recursionLimit) (hun : un + 10 * D < cLine)
    (k : ∀ v news' h' tk, post v news' → Fr h₀ L h' m → News h₀ L h' (news' ++ rest) → Q v { s with heap := h', toks := tk })
    (ke : ∀ e t cls vs g₂ h' tk, err cls → RaisedK base (env :: outer) e cls t vs [] h' → Fr h₀ L g₂ m → g₂.UpToSlots h' → E (.ref e) { s with heap := h', toks := tk }) :
    wpAny (model PG w) (AX dp un gd (env :: outer)) (call (.ref f) pos kw) Q E s := by
  obtain ⟨g, ⟨B', X', T', K', N', back⟩, Fg, hR, st⟩ := use2 (dp := dp) (un := un) (gd := gd) B F X T N hf hke wr rest hwr hs.sub.1 hs.sub.2
  refine wpAny_call (C dp un gd _ base g s _ B' X' T' K' N' (fun p hp => (hrd p hp).elim (hR p) (st _ _)) hdp hun (fun v news' h' tk hp K2 L2 => ?_) fun e t cls vs h' tk hc hr hu => ?_)
  · obtain ⟨F3, N3⟩ := back h' news' K2 L2
    exact k v news' h' tk hp F3 N3
  · exact ke e t cls vs g h' tk hc hr Fg hu
end Mine
end
section
open PySem PySem.W PyProof.Rows PySem.Calls
set_option maxRecDepth 100000
namespace Mine
/-- what a turn of a loop must reach: the ledger its of the loop's own iterators stands, Jn holds of all else -/
def StepO (h₀ : Heap) (L : Addr) (ws : List (Addr × String)) (its : List (Addr × Obj)) (Jn : (Str → Option Value) → List (Addr × Obj) → Prop) (s₁ : Shared) (Q : Flow → Shared → Prop) (f : Flow) (s₃ : Shared) : Prop :=
  match f with
  | .ret v => Q (.ret v) s₃
  | .brk => Q .next s₃
  | _ => ∃ h' tk m' news', s₃ = { s₁ with heap := h', toks := tk } ∧ Fr h₀ L h' m' ∧ News h₀ L h' (its ++ news') ∧ (∀ p ∈ news', ∀ x ∈ ws, p.2.cls ≠ .type x.2) ∧ Jn m' news'
section
variable {prog : Program} {w : World} {A : Around} {E : Value → Shared → Prop} {s : Shared} {env : Env} {h₀ : Heap} {target : Expr} {body : List Stmt} {Q : Flow → Shared → Prop}
theorem objs_cls : ∀ {ws : List (Addr × String)} {its : List (Addr × Obj)}, Objs ws its → ∀ q ∈ its, ∃ x ∈ ws, q.2.cls = .type x.2
  | [], [], _, q, hq => nomatch hq
  | [], _ :: _, h, q, hq => by cases h
  | _ :: _, [], h, q, hq => nomatch hq
  | x :: ws, p :: its, ⟨h1, h2⟩, q, hq => by
    rcases List.mem_cons.mp hq with rfl | hq
    · exact ⟨x, .head _, h1.2⟩
    · obtain ⟨y, hy, e⟩ := objs_cls h2 q hq
      exact ⟨y, .tail _ hy, e⟩
theorem objs_cons {x : Addr × String} {ws : List (Addr × String)} {its : List (Addr × Obj)} (h : Objs (x :: ws) its) : ∃ o r, its = (x.1, o) :: r ∧ o.cls = .type x.2 ∧ Objs ws r := by
  cases its with
  | nil => exact False.elim h
  | cons p r =>
    have h' : (p.1 = x.1 ∧ p.2.cls = .type x.2) ∧ Objs ws r := h
    exact ⟨p.2, r, by rw [← h'.1.1], h'.1.2, h'.2⟩
theorem objs_nil {its : List (Addr × Obj)} (h : Objs [] its) : its = [] := by
  cases its with
  | nil => rfl
  | cons p r => exact False.elim h
theorem objs_one {I : Addr} {n : String} {its : List (Addr × Obj)} (h : Objs [(I, n)] its) : ∃ o, its = [(I, o)] ∧ o.cls = .type n := by
  obtain ⟨o, r, rfl, e2, h2⟩ := objs_cons h
  have := objs_nil h2
  subst this
  exact ⟨o, rfl, e2⟩
theorem objs_two {I I' : Addr} {n n' : String} {its : List (Addr × Obj)} (h : Objs [(I, n), (I', n')] its) : ∃ o o', its = [(I, o), (I', o')] ∧ o.cls = .type n ∧ o'.cls = .type n' := by
  obtain ⟨o, r, rfl, e2, h2⟩ := objs_cons h
  obtain ⟨o', rfl, e3⟩ := objs_one h2
  exact ⟨o, o', rfl, e2, e3⟩
theorem turns_J {I : Addr} {fp wr : List Addr} {n : Nat} {P Md : Nat → Value → Heap → Prop} {St : Nat → Heap → Prop} {ws : List (Addr × String)} {keep : List (Addr × Obj)} {m₀ : Str → Option Value} {news : List (Addr × Obj)} {hp : Heap} {tk0 : Nat}
    (W : KTurns prog w A target I fp wr n P Md St)
    (hobj : ∀ i h, St i h → ∃ its, Objs ws its ∧ ∀ p ∈ its, h.get? p.1 = some p.2)
    (hws : ∀ b ∈ ws.map (·.1), b ∈ fp ∧ h₀.get? b = none) (hwr : ∀ b ∈ wr, b ∈ ws.map (·.1))
    (hfp : ∀ b ∈ fp, b ∈ ws.map (·.1) ∨ (∃ o, (b, o) ∈ keep) ∨ ∃ o, h₀.get? b = some o) (hL : env.locals ∉ fp) (hnw : ∀ p ∈ news, p.1 ∉ wr) (hst : St 0 hp)
    (F : Fr h₀ env.locals hp m₀) (N : News h₀ env.locals hp news)
    (J : Nat → (Str → Option Value) → List (Addr × Obj) → Prop) (hk : ∀ i m nx, J i m nx → ∀ p ∈ keep, p ∈ nx) (h0 : J 0 m₀ news)
    (turn : ∀ i v m₁ news₁ h₁ tk₁ its, i < n → P i v h₁ → J i m₁ news₁ → Objs ws its → Fr h₀ env.locals h₁ m₁ → News h₀ env.locals h₁ (its ++ news₁) →
      wpAny (model prog w) A (assign target env v) (fun _ s₂ => wpAny (model prog w) A (execs body env) (StepO h₀ env.locals ws its (J (i + 1)) { s with heap := h₁, toks := tk₁ } Q) E s₂) E { s with heap := h₁, toks := tk₁ })
    (done : ∀ h' tk m' news', Fr h₀ env.locals h' m' → News h₀ env.locals h' news' → J n m' news' → Q .next { s with heap := h', toks := tk }) :
    TurnsAt prog w A h₀ env target body Q E (.ref I) { s with heap := hp, toks := tk0 } := by
  refine ⟨I, fp, wr, n, P, Md, St, m₀, news, J, rfl, W, hL, fun b hb => (hws b (hwr b hb)).2, hnw, hst, F, N, h0, ?_, fun h' tk m' news' F' N' _ hJ => done h' tk m' news' F' N' hJ⟩
  intro i v m₁ news₁ h₁ tk₁ own hin hP hJ hoff hown hget hall hst₁ F₁ N₁
  obtain ⟨its, hits, hval⟩ := hobj (i + 1) h₁ hst₁
  have hmap := hits.map
  have hin' : ∀ p ∈ its, p ∈ own := fun p hp => by
    have h1 : p.1 ∈ ws.map (·.1) := by rw [← hmap]; exact List.mem_map_of_mem hp
    exact hall _ (hws _ h1).1 (hws _ h1).2 _ (hval p hp)
  have N₂ : News h₀ env.locals h₁ (its ++ news₁) := fun p hp => (List.mem_append.mp hp).elim (fun hp => N₁ _ (List.mem_append_left _ (hin' p hp))) fun hp => N₁ _ (List.mem_append_right _ hp)
  have fin : ∀ s₃, (∃ h' tk m' news', s₃ = { s with heap := h', toks := tk } ∧ Fr h₀ env.locals h' m' ∧ News h₀ env.locals h' (its ++ news') ∧ (∀ p ∈ news', ∀ x ∈ ws, p.2.cls ≠ .type x.2) ∧ J (i + 1) m' news') →
      LoopStepU h₀ env.locals wr own (J (i + 1)) { s with heap := h₁, toks := tk₁ } .next s₃ := by
    rintro s₃ ⟨h', tk, m', news', e, F', N', ho, hJ'⟩
    refine ⟨rfl, h', tk, m', news', e, F', fun p hp => ?_, fun p hp hI => ?_, hJ'⟩
    · rcases List.mem_append.mp hp with hp | hp
      · have h2 : h₁.get? p.1 = some p.2 := hget _ hp
        rcases hfp _ (hown _ hp) with h3 | ⟨o, h3⟩ | ⟨o, h3⟩
        · rw [← hmap] at h3
          obtain ⟨q, hq, e⟩ := List.mem_map.mp h3
          have h5 := hval q hq
          rw [e, h2] at h5
          have : q = p := Prod.ext e (Option.some.inj h5).symm
          exact this ▸ N' _ (List.mem_append_left _ hq)
        · have h4 := (N₁ _ (List.mem_append_right _ (hk _ _ _ hJ _ h3))).1
          have h4' : h₁.get? p.1 = some o := h4
          rw [h2] at h4'
          have : p = (p.1, o) := Prod.ext rfl (Option.some.inj h4')
          rw [this]
          exact N' _ (List.mem_append_right _ (hk _ _ _ hJ' _ h3))
        · have h4 := (N₁ _ (List.mem_append_left _ hp)).2.2
          rw [h3] at h4; cases h4
      · exact N' _ (List.mem_append_right _ hp)
    · have h4 : p.1 ∈ its.map (·.1) := by rw [hmap]; exact hwr _ hI
      obtain ⟨q, hq, e⟩ := List.mem_map.mp h4
      obtain ⟨x, hx, hc⟩ := objs_cls hits q hq
      have a1 := (N' _ (List.mem_append_left _ hq)).1
      have a2 := (N' _ (List.mem_append_right _ hp)).1
      rw [e, a2] at a1
      exact ho p hp x hx (by rw [Option.some.inj a1]; exact hc)
  refine wpAny_mono (turn i v m₁ news₁ h₁ tk₁ its hin hP hJ hits F₁ N₂) (fun _ s₂ h₂ => wpAny_mono h₂ (fun f s₃ p => ?_) fun _ _ e => e) fun _ _ e => e
  cases f with
  | ret v => exact p
  | brk => exact p
  | next => exact fin _ p
  | cont => exact fin _ p
theorem list_J {l : Addr} {vs : List Value} {m₀ : Str → Option Value} {news keep : List (Addr × Obj)} (J : Nat → (Str → Option Value) → List (Addr × Obj) → Prop)
    (hh : A.handled = none) (F : Fr h₀ env.locals s.heap m₀) (N : News h₀ env.locals s.heap news) (hl : s.heap.IsList l vs.toArray) (hkeep : (∃ o, (l, o) ∈ keep) ∨ ∃ o, h₀.get? l = some o)
    (hk : ∀ i m nx, J i m nx → ∀ p ∈ keep, p ∈ nx) (h0 : J 0 m₀ news)
    (turn : ∀ i v m₁ news₁ h₁ tk₁ I it, vs[i]? = some v → J i m₁ news₁ → it.cls = .type "list_iterator" → Fr h₀ env.locals h₁ m₁ → News h₀ env.locals h₁ ((I, it) :: news₁) →
      wpAny (model prog w) A (assign target env v) (fun _ s₂ => wpAny (model prog w) A (execs body env) (StepO h₀ env.locals [(I, "list_iterator")] [(I, it)] (J (i + 1)) { s with heap := h₁, toks := tk₁ } Q) E s₂) E { s with heap := h₁, toks := tk₁ })
    (done : ∀ h' tk m' news', Fr h₀ env.locals h' m' → News h₀ env.locals h' news' → J vs.length m' news' → Q .next { s with heap := h', toks := tk }) :
    wpAny (model prog w) A (pyIter (.ref l)) (fun it s₂ => TurnsAt prog w A h₀ env target body Q E it s₂) E s := by
  have hls := hl
  obtain ⟨ol, hol, hcl, n', hdl⟩ := id hl
  have hlt : l < s.heap.objs.size := Heap.lt_size hol
  have hne : l ≠ s.heap.objs.size := Nat.ne_of_lt hlt
  have hLl : l ≠ env.locals := fun e => by
    obtain ⟨oL, es, ep, hL, hLd, _⟩ := F.ns
    rw [e, hL] at hol
    cases hol
    rw [hLd] at hdl; cases hdl
  refine wpAny_pyIter_list hl ?_
  refine turns_J (tk0 := s.toks) (ws := [(s.heap.objs.size, "list_iterator")]) (keep := keep) (KTurns.ofWalks (Walks.list hh s.heap.objs.size l hne vs.toArray) fun i v s Q E st q => letGo_listiter st.1 q) (fun i h st => ?_) (fun b hb => ?_) (fun b hb => by simpa using hb) (fun b hb => ?_) ?_ (fun p hp hI => ?_) ?_ (F.push _) (fun p hp => ⟨Heap.get?_push_of_some _ (N p hp).1, (N p hp).2⟩) J hk h0 ?_ ?_
  · obtain ⟨it, hit, hic, _⟩ := st.1
    exact ⟨[(s.heap.objs.size, it)], ⟨⟨rfl, hic⟩, trivial⟩, fun p hp => by rw [List.mem_singleton.mp hp]; exact hit⟩
  · have hb' : b = s.heap.objs.size := by simpa using hb
    rw [hb']
    exact ⟨List.mem_cons_self .., next_is_new F⟩
  · have hb' : b = s.heap.objs.size ∨ b = l := by simpa using hb
    rcases hb' with e | e
    · exact .inl (by simp [e])
    · exact .inr (e ▸ hkeep)
  · intro hI
    rcases List.mem_cons.mp hI with e | hI
    · exact absurd F.ns.lt (e ▸ Nat.lt_irrefl _)
    · exact hLl (List.mem_singleton.mp hI).symm
  · exact absurd (Heap.lt_size (N p hp).1) ((List.mem_singleton.mp hI) ▸ Nat.lt_irrefl _)
  · exact ⟨⟨_, Heap.get?_push_size _ rfl, rfl, rfl⟩, hl.at fun o e => Heap.get?_push_of_some _ e⟩
  · intro i v m₁ news₁ h₁ tk₁ its hin hP hJ hits F₁ N₁
    obtain ⟨qo, rfl, e2⟩ := objs_one hits
    exact turn i v m₁ news₁ h₁ tk₁ _ qo (by have hP' : vs.toArray[i]? = some v := hP; simpa using hP') hJ e2 F₁ N₁
  · intro h' tk m' news' F' N' hJ
    exact done h' tk m' news' F' N' (by simpa using hJ)
theorem range_J {r : Addr} {a₀ b₀ c₀ : Int} {t₀ u₀ v₀ : Tok} {n : Nat} {m₀ : Str → Option Value} {news : List (Addr × Obj)} (J : Nat → (Str → Option Value) → List (Addr × Obj) → Prop)
    (hh : A.handled = none) (hr : IsRange s.heap r a₀ b₀ c₀ t₀ u₀ v₀) (hsmall : Builtin.Range.small a₀ b₀ c₀ = true) (hn : Builtin.Range.rangeSize a₀ b₀ c₀ = (n : Int)) (F : Fr h₀ env.locals s.heap m₀) (N : News h₀ env.locals s.heap news)
    (h0 : J 0 m₀ news)
    (turn : ∀ i t m₁ news₁ h₁ tk₁ I it, i < n → J i m₁ news₁ → it.cls = .type "range_iterator" → Fr h₀ env.locals h₁ m₁ → News h₀ env.locals h₁ ((I, it) :: news₁) →
      wpAny (model prog w) A (assign target env (.int (a₀ + (i : Int) * c₀) t)) (fun _ s₂ => wpAny (model prog w) A (execs body env) (StepO h₀ env.locals [(I, "range_iterator")] [(I, it)] (J (i + 1)) { s with heap := h₁, toks := tk₁ } Q) E s₂) E { s with heap := h₁, toks := tk₁ })
    (done : ∀ h' tk m' news', Fr h₀ env.locals h' m' → News h₀ env.locals h' news' → J n m' news' → Q .next { s with heap := h', toks := tk })
    (hgo : ∀ I i v (s : Shared) (Q : Unit → Shared → Prop) (E : Value → Shared → Prop), IsRangeIter s.heap I (a₀ + ((i : Nat) : Int) * c₀) ((n : Int) - (i : Nat)) c₀ → Q () s → wpAny (model prog w) A (letOwnedTupleGo target (.ref I) v) Q E s := by intro _ _ _ _ _ _ _ h; exact wpAny_of_eq (a := ()) rfl h) :
    wpAny (model prog w) A (pyIter (.ref r)) (fun it s₂ => TurnsAt prog w A h₀ env target body Q E it s₂) E s := by
  refine wpAny_pyIter_range hr hsmall ?_
  have W : Walks prog w A s.heap.objs.size [s.heap.objs.size] [s.heap.objs.size] n (fun i v => i < n ∧ ∃ t, v = .int (a₀ + i * c₀) t)
      (fun i h => IsRangeIter h s.heap.objs.size (a₀ + (i : Nat) * c₀) ((n : Int) - (i : Nat)) c₀) := (Walks.range hh _ a₀ c₀ n).bound
  refine turns_J (tk0 := s.toks) (ws := [(s.heap.objs.size, "range_iterator")]) (keep := []) (KTurns.ofWalks W fun i v s Q E st q => hgo _ i v s Q E st q) (fun i h st => ?_) (fun b hb => ?_) (fun b hb => by simpa using hb) (fun b hb => .inl (by simpa using hb)) ?_ (fun p hp hI => ?_) (by show IsRangeIter _ _ _ _ _; rw [hn]; simpa using Heap.get?_push_size _ rfl) (F.push _) (fun p hp => ⟨Heap.get?_push_of_some _ (N p hp).1, (N p hp).2⟩) J (fun _ _ _ _ _ h => nomatch h) h0 ?_ ?_
  · exact ⟨[(s.heap.objs.size, _)], ⟨⟨rfl, rfl⟩, trivial⟩, fun p hp => by rw [List.mem_singleton.mp hp]; exact st⟩
  · have hb' : b = s.heap.objs.size := by simpa using hb
    rw [hb']
    exact ⟨List.mem_cons_self .., next_is_new F⟩
  · intro hI
    exact absurd F.ns.lt ((List.mem_singleton.mp hI) ▸ Nat.lt_irrefl _)
  · exact absurd (Heap.lt_size (N p hp).1) ((List.mem_singleton.mp hI) ▸ Nat.lt_irrefl _)
  · intro i v m₁ news₁ h₁ tk₁ its hin hP hJ hits F₁ N₁
    obtain ⟨_, t, rfl⟩ := hP
    obtain ⟨qo, rfl, e2⟩ := objs_one hits
    exact turn i t m₁ news₁ h₁ tk₁ _ qo hin hJ e2 F₁ N₁
  · exact done
theorem enum_J {elts : List Expr} {k : Nat} {pos : Pos} {l : Addr} {vs : List Value} {m₀ : Str → Option Value} {news keep : List (Addr × Obj)} (J : Nat → (Str → Option Value) → List (Addr × Obj) → Prop)
    (hh : A.handled = none) (F : Fr h₀ env.locals s.heap m₀) (N : News h₀ env.locals s.heap news) (hl : s.heap.IsList l vs.toArray) (hkeep : (∃ o, (l, o) ∈ keep) ∨ ∃ o, h₀.get? l = some o)
    (hk : ∀ i m nx, J i m nx → ∀ p ∈ keep, p ∈ nx) (h0 : J 0 m₀ news)
    (turn : ∀ i v t T m₁ news₁ h₁ tk₁ I I' it it', vs[i]? = some v → J i m₁ news₁ → it.cls = .type "enumerate" → it'.cls = .type "list_iterator" → IsTup h₁ T #[.int (i : Int) t, v] → Fr h₀ env.locals h₁ m₁ → News h₀ env.locals h₁ ((I, it) :: (I', it') :: news₁) →
      wpAny (model prog w) A (assign (.Tuple elts k pos) env (.ref T)) (fun _ s₂ => wpAny (model prog w) A (execs body env) (StepO h₀ env.locals [(I, "enumerate"), (I', "list_iterator")] [(I, it), (I', it')] (J (i + 1)) { s with heap := h₁, toks := tk₁ } Q) E s₂) E { s with heap := h₁, toks := tk₁ })
    (done : ∀ h' tk m' news', Fr h₀ env.locals h' m' → News h₀ env.locals h' news' → J vs.length m' news' → Q .next { s with heap := h', toks := tk }) :
    wpAny (model prog w) A (call (.type "enumerate") [.ref l]) (fun xv s₁ => wpAny (model prog w) A (pyIter xv) (fun it s₂ => TurnsAt prog w A h₀ env (.Tuple elts k pos) body Q E it s₂) E s₁) E s := by
  obtain ⟨ol, hol, hcl, n', hdl⟩ := id hl
  have hlt : l < s.heap.objs.size := Heap.lt_size hol
  have hLs : env.locals < s.heap.objs.size := F.ns.lt
  have hLl : l ≠ env.locals := fun e => by
    obtain ⟨oL, es, ep, hL, hLd, _⟩ := F.ns
    rw [e, hL] at hol
    cases hol
    rw [hLd] at hdl; cases hdl
  refine call_enumerate_list hl fun h' hE hI hsz hk' => ?_
  refine wpAny_pyIter_enum hE ?_
  refine turns_J (tk0 := s.toks) (ws := [(s.heap.objs.size + 1, "enumerate"), (s.heap.objs.size, "list_iterator")]) (keep := keep) (KTurns.ofWalksU (WalksT.enumerate hh (s.heap.objs.size + 1) s.heap.objs.size l (Nat.succ_ne_self _) (ktu_ne 1 hlt) (Nat.ne_of_lt hlt) vs.toArray).toU) ?_ ?_ ?_ ?_ ?_ ?_ ?_ (F.keeps hk') (N.grown hk') J hk h0 ?_ ?_
  · rintro i h ⟨⟨old, he⟩, ⟨oi, hoi, hic, _⟩, _⟩
    have he' : ∃ oe : Obj, h.get? (s.heap.objs.size + 1) = some oe ∧ oe.cls = .type "enumerate" := ⟨_, he, rfl⟩
    obtain ⟨oe, h1, h2⟩ := he'
    refine ⟨[(s.heap.objs.size + 1, oe), (s.heap.objs.size, oi)], ⟨⟨rfl, h2⟩, ⟨rfl, hic⟩, trivial⟩, fun p hp => ?_⟩
    rcases List.mem_cons.mp hp with rfl | hp
    · exact h1
    · rw [List.mem_singleton.mp hp]; exact hoi
  · intro b hb
    have hb' : b = s.heap.objs.size + 1 ∨ b = s.heap.objs.size := by simpa using hb
    rcases hb' with rfl | rfl
    · exact ⟨by simp, ktu_new F (Nat.le_add_right _ _)⟩
    · exact ⟨by simp, ktu_new F (Nat.le_refl _)⟩
  · intro b hb
    simpa using hb
  · intro b hb
    have hb' : b = s.heap.objs.size + 1 ∨ b = s.heap.objs.size ∨ b = l := by simpa using hb
    rcases hb' with rfl | rfl | rfl
    · exact .inl (by simp)
    · exact .inl (by simp)
    · exact .inr hkeep
  · intro hI'
    have hb' : env.locals = s.heap.objs.size + 1 ∨ env.locals = s.heap.objs.size ∨ env.locals = l := by simpa using hI'
    rcases hb' with e | e | e
    · exact ktu_ne 1 hLs e
    · exact Nat.ne_of_lt hLs e
    · exact hLl e.symm
  · intro p hp hI'
    have hb' : p.1 = s.heap.objs.size + 1 ∨ p.1 = s.heap.objs.size := by simpa using hI'
    have hlp := Heap.lt_size (N p hp).1
    rcases hb' with e | e
    · exact ktu_ne 1 hlp e
    · exact Nat.ne_of_lt hlp e
  · exact ⟨⟨.none, hE⟩, hI, hl.at fun o e => hk' l o e⟩
  · intro i v m₁ news₁ h₁ tk₁ its hin hP hJ hits F₁ N₁
    obtain ⟨T, vals, rfl, ⟨t, x, hx, rfl⟩, hT⟩ := hP
    obtain ⟨o, o', rfl, e2, e3⟩ := objs_two hits
    exact turn i x t T m₁ news₁ h₁ tk₁ _ _ o o' (by simpa using hx) hJ e2 e3 hT F₁ N₁
  · intro h' tk m' news' F' N' hJ
    exact done h' tk m' news' F' N' (by simpa using hJ)
end
end Mine
end
section
open PySem PySem.W PyProof.Rows PySem.Calls
set_option maxRecDepth 100000
set_option maxHeartbeats 8000000
namespace Mine
structure RG where
  (r d : Addr) (a b : Int) (t1 t2 ta tb : Tok)
abbrev rngD (P : Params) (a b : Int) (t1 t2 ta tb : Tok) : Obj := dictOf [⟨PyData.keyHash P (Str.ofString "start"), .str (Str.ofString "start") t1, .int a ta⟩, ⟨PyData.keyHash P (Str.ofString "stop"), .str (Str.ofString "stop") t2, .int b tb⟩] 2
abbrev rgL (P : Params) (x : RG) : List (Addr × Obj) := [(x.r, instObj 235 x.d), (x.d, rngD P x.a x.b x.t1 x.t2 x.ta x.tb)]
def rowsL (P : Params) (rs : List RG) : List (Addr × Obj) := rs.flatMap (rgL P)
abbrev rsD (P : Params) (l : Addr) (t : Tok) : Obj := dictOf [⟨PyData.keyHash P (Str.ofString "_ranges"), .str (Str.ofString "_ranges") t, .ref l⟩] 1
abbrev refsOf (rs : List RG) : List Value := rs.map fun y => .ref y.r
abbrev rsL (P : Params) (x d l : Addr) (rs : List RG) (n : Nat) (t : Tok) : List (Addr × Obj) := [(x, instObj 329 d), (d, rsD P l t), (l, listOf (refsOf rs).toArray n)]
def Halt (P : Prop) : Prop := P
theorem halt {P : Prop} (h : Halt P) : P := h
theorem InstAt.of_base {h₀ h : Heap} {L x C dx : Addr} {m : Str → Option Value} {od : Obj} {sl : Array (Option Value)} (F : Fr h₀ L h m) (h1 : h₀.get? x = some (⟨.ref C, some dx, .plain, sl⟩ : Obj)) (h2 : h₀.get? dx = some od) :
    PySem.W.InstAt h x ⟨.ref C, some dx, .plain, sl⟩ C (some od) := ⟨F.keep _ _ h1, rfl, rfl, F.keep _ _ h2⟩
theorem fr_map {g h : Heap} {L : Addr} {m : Str → Option Value} (_ : Fr g L h m) : ∃ m', m' = m := ⟨m, rfl⟩
abbrev upd (st : List Str) (u m₀ : Str → Option Value) : Str → Option Value := fun y => if st.contains y = true then u y else m₀ y
theorem upd_off {st st' : List Str} {u m₀ : Str → Option Value} {y : Str} (hs : ∀ z ∈ st', st.contains z = true) (hy : st.contains y = false) : upd st' u m₀ y = m₀ y := by
  show (if st'.contains y = true then u y else m₀ y) = m₀ y
  rw [if_neg]
  intro hc
  have := hs y (List.contains_iff_mem.mp hc)
  rw [hy] at this; cases this
theorem map_off {st : List Str} (st' : List Str) {u m m₀ : Str → Option Value} (hs : ∀ z ∈ st', st.contains z = true) (h : ∀ y, st.contains y = false → m y = upd st' u m₀ y) : ∀ y, st.contains y = false → m y = m₀ y := fun y hy => (h y hy).trans (upd_off hs hy)
theorem trk0 {st : List Str} {m m₀ : Str → Option Value} (ho : ∀ y, st.contains y = false → m y = m₀ y) : m = upd st m m₀ := by
  funext y
  show m y = if st.contains y = true then m y else m₀ y
  cases h : st.contains y with
  | true => simp
  | false => simpa using ho y h
theorem list_at {h : Heap} {g : Heap} {L l : Addr} {news : List (Addr × Obj)} {its : Array Value} {n : Nat} (N : News g L h news) (hm : (l, listOf its n) ∈ news) : h.IsList l its := ⟨_, (N _ hm).1, rfl, n, rfl⟩
theorem news_ne {g h : Heap} {L : Addr} {l : List (Addr × Obj)} {a b : Addr} {o₁ o₂ : Obj} (N : News g L h l) (h1 : (a, o₁) ∈ l) (h2 : (b, o₂) ∈ l) (hne : o₁.cls ≠ o₂.cls) : @Ne Nat a b := fun e => by
  have x := (N _ h1).1
  have y := (N _ h2).1
  dsimp only at x y
  have e' : (a : Addr) = b := e
  rw [e', y] at x
  exact hne (by rw [Option.some.inj x])
theorem news_neT {g h : Heap} {L : Addr} {l : List (Addr × Obj)} {a b : Addr} {o₁ o₂ : Obj} {n : String} (N : News g L h l) (h1 : (a, o₁) ∈ l) (h2 : (b, o₂) ∈ l) (hc : o₁.cls = .type n) (hne : Value.type n ≠ o₂.cls) : @Ne Nat a b := news_ne N h1 h2 (by rw [hc]; exact hne)
theorem tyne {a b : String} (h : a ≠ b) : Value.type a ≠ Value.type b := fun e => h (by injection e)
theorem ins0 (l : List Value) (y : Value) : kl_ins l 0 y = y :: l := by
  unfold kl_ins
  simp
theorem rows_at {P : Params} {rs : List RG} {g : Heap} (h : ∀ p ∈ rowsL P rs, g.get? p.1 = some p.2) : ∀ y ∈ rs, g.get? y.r = some (instObj 235 y.d) ∧ g.get? y.d = some (rngD P y.a y.b y.t1 y.t2 y.ta y.tb) := fun y hy =>
  ⟨h (y.r, instObj 235 y.d) (List.mem_flatMap.mpr ⟨y, hy, .head _⟩), h (y.d, rngD P y.a y.b y.t1 y.t2 y.ta y.tb) (List.mem_flatMap.mpr ⟨y, hy, .tail _ (.head _)⟩)⟩
theorem fin_range {P : Params} {g h : Heap} {L x d l r dd : Addr} {a b : Int} {t t1 t2 ta tb : Tok} {rs' : RG → List RG} {all : List (Addr × Obj)} {n : Nat} {its : Array Value}
    (N : News g L h ((r, instObj 235 dd) :: (dd, rngD P a b t1 t2 ta tb) :: all)) (hx : (x, instObj 329 d) ∈ all) (hd : (d, rsD P l t) ∈ all) (hl : (l, listOf its n) ∈ all) (he : ∀ y : RG, y.r = r → its = (refsOf (rs' y)).toArray) :
    ∃ (y : RG) (n' : Nat), y.a = a ∧ y.b = b ∧ Led g h (rsL P x d l (rs' y) n' t ++ rgL P y) := by
  refine ⟨⟨r, dd, a, b, t1, t2, ta, tb⟩, n, rfl, rfl, fun p hp => ?_⟩
  rw [he ⟨r, dd, a, b, t1, t2, ta, tb⟩ rfl] at hl
  refine Led.of_news N p ?_
  simp only [List.mem_append, List.mem_cons, List.not_mem_nil, or_false] at hp
  rcases hp with (rfl | rfl | rfl) | rfl | rfl
  · exact .tail _ (.tail _ hx)
  · exact .tail _ (.tail _ hd)
  · exact .tail _ (.tail _ hl)
  · exact .head _
  · exact .tail _ (.head _)
local macro_rules | `(tactic| walk_at "mine room") => `(tactic| first | (dsimp only; omega) | ((try simp only [depth_mark, depth_under_make, depth_under_kw, depth_in1, depth_deeper, units_deeper, units_in1, units_under_make]); (try dsimp only); omega))
local macro_rules | `(tactic| walk_at "mine one") => `(tactic| (first | (k_unfold; (try dsimp only)) | (k_end; wrow_close) | walk1 | (dsimp only; walk1) | (leave1; walk_say "STEP leave1"; try dsimp only) | (dsimp only; k_unfold; (try dsimp only)) | (dsimp only [StepO]; k_unfold; (try dsimp only)) | fail "no step"))
local macro_rules | `(tactic| walk_at "mine enter") => `(tactic| (refine' enter ?k1 ?k2 ?k3 ?k4 ?k5 ?kd ?k6 ?k7 ?k8 ?k9 ?_ ?c2 ?c3 ?c4 ?c5; (case k1 => assumption); (case k2 => assumption); (case k3 => assumption); (case k4 => assumption); (case k5 => assumption); (case kd => omega); (case k6 => k_is); (case k7 => k_is); (case k8 => first | exact BindsTo.of_eq rfl | exact binds_K (Frag.In.keeps (by assumption) (Kept.keep (by assumption))) rfl (by k_is) rfl rfl rfl | exact binds_K (by k_in) rfl (by k_is) rfl rfl rfl); (case c5 => decide); (case k9 => exact locs rfl); (case c2 => exact rfl); (case c3 => exact rfl); (case c4 => exact rfl); k_whole; intro L' h' F' N' K'; (try dsimp only); (try k_fold)))
local macro_rules | `(tactic| walk_at "mine wr") => `(tactic| ((repeat (refine List.forall_mem_cons.mpr ⟨?_, ?_⟩; (· k_mem))); exact List.forall_mem_nil _))
local macro_rules | `(tactic| walk_at "mine split") => `(tactic| (repeat' (first | exact Split.nil | (refine' Split.keep ?a ?_; (case a => k_all)) | refine' Split.drop ?_)))
local macro_rules | `(tactic| walk_at "mine con") => `(tactic| ((case kB => assumption); (case kF => k_asm); (case kX => assumption); (case kT => assumption); (case kN => k_asm); (case kf => exact rfl); (case kk => exact rfl); (case kw => walk_at "mine wr"); (case ks => walk_at "mine split"); (case kd => walk_at "mine room"); (case ku => walk_at "mine room")))
local macro_rules | `(tactic| walk_at "mine conE") => `(tactic| ((case kB => assumption); (case kF => k_asm); (case kX => assumption); (case kT => assumption); (case kN => k_asm); (case kf => exact rfl); (case kk => exact rfl); (case kw => walk_at "mine wr"); (case ks => walk_at "mine split"); (case kd => walk_at "mine room"); (case ku => walk_at "mine room")))
local macro_rules | `(tactic| k_room) => `(tactic| ((try simp only [depth_mark, depth_under_make, depth_under_kw, depth_in1, depth_deeper, depth_caller]); (try dsimp only); omega))
local macro_rules | `(tactic| walk_at "mine map") => `(tactic| (refine' map_off _ ?hs ?a; (case a => (intro y hy; (have nn : ∀ z, _ = true → y ≠ z := fun z hz e => by subst e; exact absurd (hz.symm.trans hy) (by decide)); (try dsimp only); (repeat rw [if_neg (nn _ (by decide))]); first | done | exact rfl)); (case hs => decide)))
local macro_rules | `(tactic| walk_at "mine oneD") => `(tactic| (first | (k_unfold; (try dsimp only)) | (k_end; wrow_close) | (walk1; (try dsimp only [List.cons_append, List.nil_append])) | (dsimp only; walk1) | (leave1; walk_say "STEP leave1"; try dsimp only) | (dsimp only; k_unfold; (try dsimp only)) | (dsimp only [StepO]; k_unfold; (try dsimp only)) | fail "no step"))
local macro_rules | `(tactic| walk_at "mine size") => `(tactic| ((try simp only [Array.size_append]); refine Nat.le_trans (by first | exact Nat.add_le_add (Nat.add_le_add (KBc.size_picked_le _ _ _) (Nat.le_refl _)) (KBc.size_picked_le _ _ _) | exact Nat.add_le_add (KBc.size_picked_le _ _ _) (Nat.le_refl _) | exact KBc.size_picked_le _ _ _) ?_; simp only [List.size_toArray, List.length_append]; omega))
local macro_rules | `(tactic| walk_at "call builtin:len") => `(tactic| (k_here; (with_reducible show wpAny _ _ (call (Value.builtin "len") [Value.ref _]) _ _ _); (with_reducible rename News _ _ _ _ => N'); (first | (refine' len_app ?ba ?hz ?_; (case ba => exact led_ba N' (by k_mem)); (case hz => omega); k_whole) | (refine' len_bs ?ba ?hz ?_; (case ba => exact led_ba N' (by k_mem)); (case hz => omega); k_whole))))
local macro_rules | `(tactic| walk_at "subscriptTail") => `(tactic| (k_here; (with_reducible show wpAny _ _ (subscriptTail _ (Expr.Slice _ _ none _) (Value.ref _) (Value.ref _)) _ _ _); (with_reducible rename Fr _ _ _ _ => F'); (with_reducible rename News _ _ _ _ => N'); (refine' BA.slice_N (s := ⟨_, _, _, _, _⟩) F' N' ?ba (by constructor) (by constructor) ?hz ?_; (case ba => exact led_ba N' (by k_mem)); (case hz => walk_at "mine size"); intro h' x' F' N' l1; (try k_lt l1); (try k_sweep); (try dsimp only))))
local macro_rules | `(tactic| walk_at "binaryOp Add") => `(tactic| (k_here; (with_reducible show wpAny _ _ (binaryOp _ (Value.ref _) (Value.bytes _ _)) _ _ _); (with_reducible rename Fr _ _ _ _ => F'); (with_reducible rename News _ _ _ _ => N'); (refine' BA.add_b F' N' ?ba ?hz ?_; (case ba => exact led_ba N' (by k_mem)); (case hz => walk_at "mine size"); intro h' x' F' N' l1; (try k_lt l1); (try k_sweep); (try dsimp only))))
local macro_rules | `(tactic| walk_at "binaryOp Add") => `(tactic| (k_here; (with_reducible show wpAny _ _ (binaryOp _ (Value.ref _) (Value.ref _)) _ _ _); (with_reducible rename Fr _ _ _ _ => F'); (with_reducible rename News _ _ _ _ => N'); (refine' BA.add_ba F' N' ?ba ?bb ?hz ?_; (case ba => exact led_ba N' (by k_mem)); (case bb => exact led_ba N' (by k_mem)); (case hz => walk_at "mine size"); intro h' x' F' N' l1; (try k_lt l1); (try k_sweep); (try dsimp only))))
local macro_rules | `(tactic| walk_at "call type:bytes") => `(tactic| (k_here; (with_reducible show wpAny _ _ (call (Value.type "bytes") [Value.ref _]) _ _ _); (with_reducible rename News _ _ _ _ => N'); (refine' BA.bytes_of ?ba ?hz ?_; (case ba => exact led_ba N' (by k_mem)); (case hz => walk_at "mine size"); intro _ _; (try dsimp only))))
local macro_rules | `(tactic| walk_at "exec For Tuple Call cons nil") => `(tactic| (k_here; (rename Fr _ _ _ _ => lF'); (with_unfolding_all refine' For_turns lF' ?_; k_whole)))
local macro_rules | `(tactic| walk_at "call type:enumerate") => `(tactic| (k_here; (with_reducible show wpAny _ _ (call (Value.type _) [Value.ref _]) (fun xv s₁ => wpAny _ _ (pyIter xv) (fun it s₂ => TurnsAt _ _ _ _ _ _ _ _ _ it s₂) _ s₁) _ _); refine halt ?_))
local macro_rules | `(tactic| k_inst) => `(tactic| (refine' Mine.InstAt.of_base ?F ?h1 ?h2; (case F => k_asm); (case h1 => assumption); (case h2 => assumption)))
local macro_rules | `(tactic| walk_at "call builtin:list.insert") => `(tactic| (k_here; (with_reducible show wpAny _ _ (call (Value.builtin _) [Value.ref _, Value.int _ _, _]) _ _ _); k_dflt (refine' kl_insert ?F ?N ?f ?e ?U ?z ?_; (case F => k_asm); (case N => k_asm); (case f => rfl); (case e => exact ins0 _ _); (case U => k_upd); (case z => (simp only [List.length_map, List.size_toArray]; rw [sizeLine_eq]; omega)); intro h' F' N'; (try k_sweep); (try dsimp only))))
local macro_rules | `(tactic| walk_at "call builtin:list.append") => `(tactic| (k_here; (with_reducible show wpAny _ _ (call (Value.builtin _) [Value.ref _, _]) _ _ _); k_dflt (refine' append_K ?k1 ?k2 ?k3 ?_ ?z; (case k1 => k_asm); (case k2 => k_asm); (case k3 => k_upd); (case z => (simp only [List.length_map, List.size_toArray]; rw [sizeLine_eq]; omega)); intro h' F' N'; (try k_sweep); (try dsimp only))))
theorem add_front {w : World} {mean : ExcName → Option Value} {mg mb : Str → Option Value} {x d l : Addr} {t1 ta tb : Tok} {rs : List RG} {n : Nat} {a b : Int} (hab : a < b) (hsz : rs.length ≤ 1000000) (hlt : ∀ y ∈ rs.head?, b < y.a) :
    ConE w mean mg mb 10 263 [.ref x, .int a ta, .int b tb] [] (rowsL w.params rs) (rsL w.params x d l rs n t1)
      (fun r news' => r = .none ∧ ∃ y n', y.a = a ∧ y.b = b ∧ news' = rsL w.params x d l (y :: rs) n' t1 ++ rgL w.params y)
      (fun _ => False) := by
  intro dp un gd ll base g s R B X T Kp N hrd hdp hun ret fail
  w_on
  have hxd : @Ne Nat x d := led_ne N (.head _) (.tail _ (.head _)) (cls_ne (by simp))
  have hxl : @Ne Nat x l := led_ne N (.head _) (.tail _ (.tail _ (.head _))) (cls_ne (by simp))
  have hdl : @Ne Nat d l := led_ne N (.tail _ (.head _)) (.tail _ (.tail _ (.head _))) (cls_ne (by simp))
  walk_at "mine enter"
  repeat' walk_at "mine one"
  refine halt ?_
  (with_reducible rename Fr _ _ _ _ => F1)
  (with_reducible rename News _ _ _ _ => N1)
  obtain ⟨m₀, hm₀⟩ := fr_map F1
  refine enum_J (keep := rsL w.params x d l rs n t1) (fun i m nx => i = 0 ∧ m = m₀ ∧ nx = rsL w.params x d l rs n t1) rfl F1 N1 (list_at N1 (.tail _ (.tail _ (.head _)))) ?hkeep ?hk ?h0 ?turn ?done
  case hk => exact fun i m nx hj p hp => hj.2.2 ▸ hp
  case h0 => exact ⟨rfl, hm₀.symm, rfl⟩
  case hkeep => exact .inl ⟨_, .tail _ (.tail _ (.head _))⟩
  case turn =>
    rintro i v t T' m₁ news₁ h₁ tk₁ I I' it it' hv ⟨rfl, rfl, rfl⟩ hc hc' hT F2 N2
    subst hm₀
    clear F1 N1
    cases rs with
    | nil => simp at hv
    | cons y0 rs =>
      obtain ⟨hr0, hd0⟩ := rows_at hrd y0 (.head _)
      have hb : b < y0.a := hlt y0 rfl
      have hv' : v = .ref y0.r := by simpa using hv.symm
      subst hv'
      have hIl := news_neT N2 (.head _) (.tail _ (.tail _ (.tail _ (.tail _ (.head _))))) hc (tyne (by decide))
      have hIl' := news_neT N2 (.tail _ (.head _)) (.tail _ (.tail _ (.tail _ (.tail _ (.head _))))) hc' (tyne (by decide))
      repeat' walk_at "mine one"
      (with_reducible rename Fr _ _ _ _ => F3)
      (with_reducible rename News _ _ _ _ => N3)
      obtain ⟨y, n', ya, yb, hL⟩ := fin_range (rs' := fun y => y :: y0 :: rs) N3 (by k_mem) (by k_mem) (by k_mem) (fun y hy => by simp [refsOf, hy])
      exact ret _ _ _ _ ⟨rfl, y, n', ya, yb, rfl⟩ (Kept.of_fr F3) hL
  case done =>
    rintro h' tk m' news' F2 N2 ⟨h0, rfl, rfl⟩
    subst hm₀
    clear F1 N1
    cases rs with
    | cons y0 rs => simp at h0
    | nil =>
      repeat' walk_at "mine one"
      (with_reducible rename Fr _ _ _ _ => F3)
      (with_reducible rename News _ _ _ _ => N3)
      obtain ⟨y, n', ya, yb, hL⟩ := fin_range (rs' := fun y => [y]) N3 (by k_mem) (by k_mem) (by k_mem) (fun y hy => by simp [refsOf, hy])
      exact ret _ _ _ _ ⟨rfl, y, n', ya, yb, rfl⟩ (Kept.of_fr F3) hL
theorem StepO.go {h₀ h' : Heap} {L : Addr} {ws : List (Addr × String)} {its news' : List (Addr × Obj)} {Jn : (Str → Option Value) → List (Addr × Obj) → Prop} {s₁ : Shared} {Q : Flow → Shared → Prop} {f : Flow} {tk : Nat} {m' : Str → Option Value} (hf : f = .next ∨ f = .cont)
    (F : Fr h₀ L h' m') (N : News h₀ L h' (its ++ news')) (hc : ∀ p ∈ news', ∀ x ∈ ws, p.2.cls ≠ .type x.2) (hJ : Jn m' news') : StepO h₀ L ws its Jn s₁ Q f { s₁ with heap := h', toks := tk } := by
  rcases hf with rfl | rfl <;> exact ⟨h', tk, m', news', rfl, F, N, hc, hJ⟩
theorem rs_cls {P : Params} {x d l : Addr} {rs : List RG} {n : Nat} {t : Tok} {ws : List (Addr × String)} (h : ∀ y ∈ ws, y.2 ≠ "dict" ∧ y.2 ≠ "list") : ∀ p ∈ rsL P x d l rs n t, ∀ y ∈ ws, p.2.cls ≠ .type y.2 := by
  intro p hp y hy
  simp only [List.mem_cons, List.not_mem_nil, or_false] at hp
  rcases hp with rfl | rfl | rfl
  · exact fun e => nomatch e
  · exact tyne (Ne.symm (h y hy).1)
  · exact tyne (Ne.symm (h y hy).2)
theorem add_back {w : World} {mean : ExcName → Option Value} {mg mb : Str → Option Value} {x d l : Addr} {t1 ta tb : Tok} {rs : List RG} {n : Nat} {a b : Int} (hab : a < b) (hsz : rs.length ≤ 1000000) (hlt : ∀ y ∈ rs, y.a < y.b ∧ y.b < a) :
    ConE w mean mg mb 10 263 [.ref x, .int a ta, .int b tb] [] (rowsL w.params rs) (rsL w.params x d l rs n t1)
      (fun r news' => r = .none ∧ ∃ y n', y.a = a ∧ y.b = b ∧ news' = rsL w.params x d l (rs ++ [y]) n' t1 ++ rgL w.params y)
      (fun _ => False) := by
  intro dp un gd ll base g s R B X T Kp N hrd hdp hun ret fail
  w_on
  have hxd : @Ne Nat x d := led_ne N (.head _) (.tail _ (.head _)) (cls_ne (by simp))
  have hxl : @Ne Nat x l := led_ne N (.head _) (.tail _ (.tail _ (.head _))) (cls_ne (by simp))
  have hdl : @Ne Nat d l := led_ne N (.tail _ (.head _)) (.tail _ (.tail _ (.head _))) (cls_ne (by simp))
  walk_at "mine enter"
  repeat' walk_at "mine one"
  refine halt ?_
  (with_reducible rename Fr _ _ _ _ => F1)
  (with_reducible rename News _ _ _ _ => N1)
  obtain ⟨m₀, hm₀⟩ := fr_map F1
  refine enum_J (keep := rsL w.params x d l rs n t1) (fun i m nx => nx = rsL w.params x d l rs n t1 ∧ ∀ y, [Str.ofString "i", Str.ofString "r"].contains y = false → m y = m₀ y) rfl F1 N1 (list_at N1 (.tail _ (.tail _ (.head _)))) ?hkeep ?hk ?h0 ?turn ?done
  case hk => exact fun i m nx hj p hp => hj.1 ▸ hp
  case h0 => exact ⟨rfl, fun y _ => by rw [hm₀]⟩
  case hkeep => exact .inl ⟨_, .tail _ (.tail _ (.head _))⟩
  case turn =>
    rintro i v t T' m₁ news₁ h₁ tk₁ I I' it it' hv ⟨rfl, hm⟩ hc hc' hT F2 N2
    rw [trk0 hm] at F2
    subst hm₀
    clear F1 N1
    obtain ⟨y0, hy0, hv'⟩ : ∃ y0 ∈ rs, v = .ref y0.r := by
      have := List.mem_of_getElem? hv
      obtain ⟨y, hy, e⟩ := List.mem_map.mp this
      exact ⟨y, hy, e.symm⟩
    obtain ⟨hr0, hd0⟩ := rows_at hrd y0 hy0
    obtain ⟨hb1, hb2⟩ := hlt y0 hy0
    subst hv'
    repeat' walk_at "mine one"
    (with_reducible rename Fr _ _ _ _ => F3)
    (with_reducible rename News _ _ _ _ => N3)
    refine StepO.go (.inr rfl) F3 N3 (rs_cls (by simp)) ⟨rfl, ?_⟩
    walk_at "mine map"
  case done =>
    rintro h' tk m' news' F2 N2 ⟨rfl, hm⟩
    rw [trk0 hm] at F2
    subst hm₀
    clear F1 N1
    repeat' walk_at "mine one"
    (with_reducible rename Fr _ _ _ _ => F3)
    (with_reducible rename News _ _ _ _ => N3)
    obtain ⟨y, n', ya, yb, hL⟩ := fin_range (rs' := fun y => rs ++ [y]) N3 (by k_mem) (by k_mem) (by k_mem) (fun y hy => by simp [refsOf, hy])
    exact ret _ _ _ _ ⟨rfl, y, n', ya, yb, rfl⟩ (Kept.of_fr F3) hL
end Mine
end
section
open PySem PySem.W PyProof.Rows PySem.Calls
set_option maxRecDepth 100000
set_option linter.deprecated false
namespace Mine
namespace BA
open Builtin
theorem noBytes : typeLookup (.type "bytearray") "__bytes__" = pure none := by rw [typeLookup_type, builtinLookup_eq_fast]; kernel_rfl
theorem noIndex : typeLookup (.type "bytearray") "__index__" = pure none := by rw [typeLookup_type, builtinLookup_eq_fast]; kernel_rfl
section
variable {prog : Program} {w : World} {A : Around} {E : Value → Shared → Prop} {s : Shared} {a : Addr} {b : Array UInt8} {Q : Value → Shared → Prop}
theorem bytes_new (ha : IsBA s.heap a b) (hz : b.size ≤ 16777216) (hQ : ∀ t k, Q (.bytes b t) { s with toks := k }) :
    codeAny (model prog w) A (.call (.builtin "bytes.__new__") ⟨[.type "bytes", .ref a], []⟩) (wants Q E) s := by
  refine codeAny_of_tree ?_
  show wpAny _ A.in1 (do checkBuiltinCall "bytes.__new__" ⟨[.type "bytes", .ref a], []⟩; again (.builtin "bytes.__new__" ⟨[.type "bytes", .ref a], []⟩)) _ _ s
  refine wpAny_bind (wpAny_of_eq (F.bm_newCall _) (wpAny_pure ⟨plainId_quiet F.bm_plain _, codeAny_builtin F.bm_entry ?_⟩))
  rw [Around.under_plainId F.bm_plain _]
  have hT : s.TypeIs (.ref a) "bytearray" := ⟨_, ha, rfl⟩
  unfold Builtin.«bytes.__new__»
  refine wpAny_bind (wpAny_of_eq (a := true) rfl ?_)
  refine if_false rfl ?_
  refine wpAny_bind (wpAny_of_eq F.bm_sub ?_)
  refine if_false rfl ?_
  refine wpAny_bind (wpAny_of_eq (F.bm_bind _) ?_)
  refine wpAny_bind (wpAny_of_eq (a := ()) rfl ?_)
  refine wpAny_bind (wpAny_of_eq (a := ()) rfl ?_)
  refine if_false rfl ?_
  refine wpAny_bind (wpAny_specialOf hT noBytes ?_)
  refine wpAny_bind (wpAny_bind ?_)
  show wpAny _ _ (load a >>= _) _ _ _
  refine wpAny_bind (wpAny_load ha ?_)
  refine wpAny_pure (wpAny_pure ?_)
  refine if_false rfl ?_
  refine wpAny_bind (wpAny_specialOf hT noIndex ?_)
  refine if_true rfl ?_
  first
    | show wpAny _ _ (Bytes.buffer? "bytes.__new__" (.ref a) true >>= _) _ _ _
    | (refine wpAny_bind ?_; show wpAny _ _ (Bytes.buffer? "bytes.__new__" (.ref a) true >>= _) _ _ _)
  refine wpAny_bind (buffer_ ha ?_)
  refine wpAny_bind (wpAny_rule ?_)
  refine wpAny_bind (wpAny_mkBytes ?_ (by rw [sizeLine_eq]; exact hz))
  exact wpAny_pure (hQ _ _)
theorem bytes_of (ha : IsBA s.heap a b) (hz : b.size ≤ 16777216) (hQ : ∀ t k, Q (.bytes b t) { s with toks := k }) : wpAny (model prog w) A (call (.type "bytes") [.ref a]) Q E s := by
  refine callType_codes (Q₁ := fun obj s₁ => s₁.TypeIs obj "bytes" ∧ Q obj s₁) F.bm_called (F.bm_typeCall _) F.entry_object_init (bytes_new ha hz fun t k => ⟨typeIs_bytes _ _ _, hQ t k⟩) fun obj s₁ h₁ => ?_
  exact ⟨h₁.1, F.args_object_init_2 obj _, object_init_meets F.bm_called.init.lookup F.bm_called.made (by decide) prog w A.in1 _ s₁ ⟨h₁.1, rfl, h₁.2⟩⟩
end
end BA
end Mine
end
section
open PySem PySem.W PyProof.Rows PySem.Calls
set_option maxRecDepth 100000
set_option maxHeartbeats 8000000
namespace Mine
theorem len_bs {prog : Program} {w : World} {A : Around} {E : Value → Shared → Prop} {s : Shared} {a : Addr} {bs : List UInt8} {Q : Value → Shared → Prop} (ha : BA.IsBA s.heap a bs.toArray) (hz : bs.length ≤ 16777216)
    (h : Q (.int (bs.length : Int) (s.toks + 1)) { s with toks := s.toks + 1 + 1 }) : wpAny (model prog w) A (call (.builtin "len") [.ref a]) Q E s :=
  BA.len_N ha (by simpa using hz) (by simpa using h)
theorem picked_mid (bs : List UInt8) (k n : Nat) (h : k + n ≤ bs.length) : KBy.picked bs.toArray (some (k : Int)) (some ((k : Int) + (n : Int))) = ((bs.drop k).take n).toArray := by
  rw [KBc.picked_eq]
  have e : (k : Int) + (n : Int) = ((k + n : Nat) : Int) := by omega
  rw [e]
  simp only [Option.elim, clipAt_nat, List.size_toArray]
  congr 1
  rw [Nat.min_eq_left h, Nat.min_eq_left (by omega)]
  congr 1
  omega
theorem raised_nil {base : Heap} {l : List Env} {e : Addr} {cls : Value} {t : Addr} {vs : List Value} {news : List (Addr × Obj)} {h : Heap} (R : RaisedK base l e cls t vs news h) : RaisedK base l e cls t vs [] h := by
  obtain ⟨⟨B, h1, _, h3⟩, h4⟩ := R
  exact ⟨⟨B, h1, (fun q hq => nomatch hq), h3⟩, h4⟩
local macro_rules | `(tactic| walk_at "mine room") => `(tactic| first | (dsimp only; omega) | ((try simp only [depth_mark, depth_under_make, depth_under_kw, depth_in1, depth_deeper, units_deeper, units_in1, units_under_make]); (try dsimp only); omega))
local macro_rules | `(tactic| walk_at "mine one") => `(tactic| (first | (k_unfold; (try dsimp only)) | (k_end; wrow_close) | walk1 | (dsimp only; walk1) | (leave1; walk_say "STEP leave1"; try dsimp only) | (dsimp only; k_unfold; (try dsimp only)) | (dsimp only [StepO]; k_unfold; (try dsimp only)) | fail "no step"))
local macro_rules | `(tactic| walk_at "mine enter") => `(tactic| (refine' enter ?k1 ?k2 ?k3 ?k4 ?k5 ?kd ?k6 ?k7 ?k8 ?k9 ?_ ?c2 ?c3 ?c4 ?c5; (case k1 => assumption); (case k2 => assumption); (case k3 => assumption); (case k4 => assumption); (case k5 => assumption); (case kd => omega); (case k6 => k_is); (case k7 => k_is); (case k8 => first | exact BindsTo.of_eq rfl | exact binds_K (Frag.In.keeps (by assumption) (Kept.keep (by assumption))) rfl (by k_is) rfl rfl rfl | exact binds_K (by k_in) rfl (by k_is) rfl rfl rfl); (case c5 => decide); (case k9 => exact locs rfl); (case c2 => exact rfl); (case c3 => exact rfl); (case c4 => exact rfl); k_whole; intro L' h' F' N' K'; (try dsimp only); (try k_fold)))
local macro_rules | `(tactic| walk_at "mine wr") => `(tactic| ((repeat (refine List.forall_mem_cons.mpr ⟨?_, ?_⟩; (· k_mem))); exact List.forall_mem_nil _))
local macro_rules | `(tactic| walk_at "mine split") => `(tactic| (repeat' (first | exact Split.nil | (refine' Split.keep ?a ?_; (case a => k_all)) | refine' Split.drop ?_)))
local macro_rules | `(tactic| walk_at "mine con") => `(tactic| ((case kB => assumption); (case kF => k_asm); (case kX => assumption); (case kT => assumption); (case kN => k_asm); (case kf => exact rfl); (case kk => exact rfl); (case kw => walk_at "mine wr"); (case ks => walk_at "mine split"); (case kd => walk_at "mine room"); (case ku => walk_at "mine room")))
local macro_rules | `(tactic| walk_at "mine conE") => `(tactic| ((case kB => assumption); (case kF => k_asm); (case kX => assumption); (case kT => assumption); (case kN => k_asm); (case kf => exact rfl); (case kk => exact rfl); (case kw => walk_at "mine wr"); (case ks => walk_at "mine split"); (case kd => walk_at "mine room"); (case ku => walk_at "mine room")))
local macro_rules | `(tactic| k_room) => `(tactic| ((try simp only [depth_mark, depth_under_make, depth_under_kw, depth_in1, depth_deeper, depth_caller]); (try dsimp only); omega))
local macro_rules | `(tactic| walk_at "mine map") => `(tactic| (refine' map_off _ ?hs ?a; (case a => (intro y hy; (have nn : ∀ z, _ = true → y ≠ z := fun z hz e => by subst e; exact absurd (hz.symm.trans hy) (by decide)); (try dsimp only); (repeat rw [if_neg (nn _ (by decide))]); first | done | exact rfl)); (case hs => decide)))
local macro_rules | `(tactic| walk_at "mine oneD") => `(tactic| (first | (k_unfold; (try dsimp only)) | (k_end; wrow_close) | (walk1; (try dsimp only [List.cons_append, List.nil_append])) | (dsimp only; walk1) | (leave1; walk_say "STEP leave1"; try dsimp only) | (dsimp only; k_unfold; (try dsimp only)) | (dsimp only [StepO]; k_unfold; (try dsimp only)) | fail "no step"))
local macro_rules | `(tactic| walk_at "mine size") => `(tactic| ((try simp only [Array.size_append]); refine Nat.le_trans (by first | exact Nat.add_le_add (Nat.add_le_add (KBc.size_picked_le _ _ _) (Nat.le_refl _)) (KBc.size_picked_le _ _ _) | exact Nat.add_le_add (KBc.size_picked_le _ _ _) (Nat.le_refl _) | exact KBc.size_picked_le _ _ _) ?_; simp only [List.size_toArray, List.length_append]; omega))
local macro_rules | `(tactic| walk_at "call builtin:len") => `(tactic| (k_here; (with_reducible show wpAny _ _ (call (Value.builtin "len") [Value.ref _]) _ _ _); (with_reducible rename News _ _ _ _ => N'); (first | (refine' len_app ?ba ?hz ?_; (case ba => exact led_ba N' (by k_mem)); (case hz => omega); k_whole) | (refine' len_bs ?ba ?hz ?_; (case ba => exact led_ba N' (by k_mem)); (case hz => omega); k_whole))))
local macro_rules | `(tactic| walk_at "subscriptTail") => `(tactic| (k_here; (with_reducible show wpAny _ _ (subscriptTail _ (Expr.Slice _ _ none _) (Value.ref _) (Value.ref _)) _ _ _); (with_reducible rename Fr _ _ _ _ => F'); (with_reducible rename News _ _ _ _ => N'); (refine' BA.slice_N (s := ⟨_, _, _, _, _⟩) F' N' ?ba (by constructor) (by constructor) ?hz ?_; (case ba => exact led_ba N' (by k_mem)); (case hz => walk_at "mine size"); intro h' x' F' N' l1; (try k_lt l1); (try k_sweep); (try dsimp only))))
local macro_rules | `(tactic| walk_at "binaryOp Add") => `(tactic| (k_here; (with_reducible show wpAny _ _ (binaryOp _ (Value.ref _) (Value.bytes _ _)) _ _ _); (with_reducible rename Fr _ _ _ _ => F'); (with_reducible rename News _ _ _ _ => N'); (refine' BA.add_b F' N' ?ba ?hz ?_; (case ba => exact led_ba N' (by k_mem)); (case hz => walk_at "mine size"); intro h' x' F' N' l1; (try k_lt l1); (try k_sweep); (try dsimp only))))
local macro_rules | `(tactic| walk_at "binaryOp Add") => `(tactic| (k_here; (with_reducible show wpAny _ _ (binaryOp _ (Value.ref _) (Value.ref _)) _ _ _); (with_reducible rename Fr _ _ _ _ => F'); (with_reducible rename News _ _ _ _ => N'); (refine' BA.add_ba F' N' ?ba ?bb ?hz ?_; (case ba => exact led_ba N' (by k_mem)); (case bb => exact led_ba N' (by k_mem)); (case hz => walk_at "mine size"); intro h' x' F' N' l1; (try k_lt l1); (try k_sweep); (try dsimp only))))
local macro_rules | `(tactic| walk_at "call type:bytes") => `(tactic| (k_here; (with_reducible show wpAny _ _ (call (Value.type "bytes") [Value.ref _]) _ _ _); (with_reducible rename News _ _ _ _ => N'); (refine' BA.bytes_of ?ba ?hz ?_; (case ba => exact led_ba N' (by k_mem)); (case hz => walk_at "mine size"); intro _ _; (try dsimp only))))
theorem pull_bytes {w : World} {mean : ExcName → Option Value} {mg mb : Str → Option Value} {x d o : Addr} {t1 t2 t3 t4 : Tok} {bs : List UInt8} {k n : Nat} (hz : bs.length ≤ 100000) (hk : k ≤ 100000) (hn : n ≤ 100000) :
    ConE w mean mg mb 5 113 [.ref x, .int n t4] [] [] (bufL w.params x d o bs k t1 t2 t3)
      (fun r news' => k + n ≤ bs.length ∧ (∃ t, r = .bytes ((bs.drop k).take n).toArray t) ∧ ∃ t3', news' = bufL w.params x d o bs ((k : Int) + (n : Int)) t1 t2 t3')
      (fun cls => ¬ k + n ≤ bs.length ∧ cls = .ref 31) := by
  intro dp un gd l base g s R B X T Kp N _ hdp hun ret fail
  w_on
  have hxd : @Ne Nat x d := led_ne N (.head _) (.tail _ (.head _)) (cls_ne (by simp))
  have hxo : @Ne Nat x o := led_ne N (.head _) (.tail _ (.tail _ (.head _))) (cls_ne (by simp))
  have hdo : @Ne Nat d o := led_ne N (.tail _ (.head _)) (.tail _ (.tail _ (.head _))) (cls_ne (by simp))
  by_cases hc : k + n ≤ bs.length
  · walk_at "mine enter"
    repeat' walk_at "mine one"
    (with_reducible rename Fr _ _ _ _ => F1)
    (with_reducible rename News _ _ _ _ => N1)
    rw [picked_mid _ _ _ hc]
    refine' ret _ _ _ _ ⟨hc, ⟨_, rfl⟩, _, rfl⟩ (Kept.of_fr F1) (led3 N1 ?a ?b ?c)
    case a => k_mem
    case b => k_mem
    case c => k_mem
  · walk_at "mine enter"
    repeat' walk_at "mine one"
    (with_reducible rename RaisedK _ _ _ _ _ _ _ _ => R1)
    (with_reducible rename Heap.UpToSlots _ _ => U1)
    exact fail _ _ _ _ _ _ ⟨hc, rfl⟩ (raised_nil R1) U1
end Mine
end
section
open PySem PySem.W PyProof.Rows PySem.Calls
set_option maxRecDepth 100000
set_option maxHeartbeats 8000000
namespace Mine
theorem pull_bytes' {w : World} {mean : ExcName → Option Value} {mg mb : Str → Option Value} {x d o : Addr} {t1 t2 t3 t4 : Tok} {bs : List UInt8} {k : Nat} {i : Int} (hi : 0 ≤ i) (hz : bs.length ≤ 100000) (hk : k ≤ 100000) (hn : i ≤ 100000) :
    ConE w mean mg mb 5 113 [.ref x, .int i t4] [] [] (bufL w.params x d o bs k t1 t2 t3)
      (fun r news' => k + i.toNat ≤ bs.length ∧ (∃ t, r = .bytes ((bs.drop k).take i.toNat).toArray t) ∧ ∃ t3', news' = bufL w.params x d o bs ((k : Int) + i) t1 t2 t3')
      (fun cls => ¬ k + i.toNat ≤ bs.length ∧ cls = .ref 31) := by
  obtain ⟨n, rfl⟩ := Int.eq_ofNat_of_zero_le hi
  exact pull_bytes hz hk (by omega)
/-- the number that stands in these octets, the greatest first -/
def uval (l : List UInt8) : Int := KFB.value (KBw.bInts l.toArray)
theorem uval_nat (l : List UInt8) : uval l = ((l.foldl (fun (acc : Nat) (b : UInt8) => acc * 256 + b.toNat) 0 : Nat) : Int) := by
  unfold uval KFB.value KBw.bInts
  rw [KFB.fold_cast]
  rfl
theorem uval_nonneg (l : List UInt8) : 0 ≤ uval l := by rw [uval_nat]; exact Int.natCast_nonneg _
/-- QUIC's variable length number at place k: its value, the place behind it -/
def pv (bs : List UInt8) (k : Nat) : Option (Int × Nat) :=
  match bs[k]? with
  | none => none
  | some c => if k + 2 ^ (c.toNat / 64) ≤ bs.length then some (uval ((bs.drop k).take (2 ^ (c.toNat / 64))) % 2 ^ (8 * 2 ^ (c.toNat / 64) - 2), k + 2 ^ (c.toNat / 64)) else none
theorem bitAnd_mask {x : Int} (m : Nat) (hx : 0 ≤ x) : Builtin.bitAnd x ((2 : Int) ^ m - 1) = x % 2 ^ m := by
  obtain ⟨n, rfl⟩ := Int.eq_ofNat_of_zero_le hx
  have e1 : (2 : Int) ^ m - 1 = ((2 ^ m - 1 : Nat) : Int) := by
    have : 1 ≤ 2 ^ m := Nat.one_le_two_pow
    push_cast [Int.ofNat_sub this]
    rfl
  rw [e1]
  unfold Builtin.bitAnd
  rw [decide_eq_true (show 0 ≤ ((n : Nat) : Int) by omega), decide_eq_true (show 0 ≤ ((2 ^ m - 1 : Nat) : Int) from Int.natCast_nonneg _)]
  show (((((n : Int).toNat &&& ((2 ^ m - 1 : Nat) : Int).toNat : Nat))) : Int) = _
  rw [Int.toNat_natCast, Int.toNat_natCast, Nat.and_two_pow_sub_one_eq_mod]
  push_cast
  rfl
section
variable {prog : Program} {w : World} {A : Around} {E : Value → Shared → Prop} {s : Shared} {Q : Value → Shared → Prop} {t u : Tok}
theorem lsh {n : Int} (m : Nat) (r : Int) (hr : (2 : Int) ^ m = r) (hm : m ≤ 1000) (hn : n = (m : Int)) (h : Q (.int r s.toks) { s with toks := s.toks + 1 }) : wpAny (model prog w) A (binaryOp .LShift (.int 1 t) (.int n u)) Q E s := by
  subst hn hr
  refine lshift_int_small (by omega) (by omega) (by decide) ?_
  rw [Int.toNat_natCast, Int.one_mul]
  exact h
theorem shr6 {c : Nat} {j : Int} (hj : ((c / 64 : Nat) : Int) = j) (h : Q (.int j s.toks) { s with toks := s.toks + 1 }) : wpAny (model prog w) A (binaryOp .RShift (.int (c : Int) t) (.int 6 u)) Q E s := by
  subst hj
  refine rshift_int (by decide) ?_
  rw [show (c : Int).fdiv (2 ^ (6 : Int).toNat) = ((c / 64 : Nat) : Int) from by
    show (c : Int).fdiv 64 = _
    rw [Int.fdiv_eq_ediv_of_nonneg _ (by omega)]
    omega]
  exact h
theorem andM {x y : Int} (m : Nat) (r : Int) (hr : (2 : Int) ^ m = r) (hy : y = r - 1) (hx : 0 ≤ x) (h : Q (.int (x % r) s.toks) { s with toks := s.toks + 1 }) : wpAny (model prog w) A (binaryOp .BitAnd (.int x t) (.int y u)) Q E s := by
  subst hy hr
  refine and_int ?_
  rw [bitAnd_mask m hx]
  exact h
end
theorem led_item2 {bs : List UInt8} {k : Nat} {c : UInt8} (hc : bs[k]? = some c) : bs.toArray[((k : Nat) : Int).toNat]? = some c := by
  rw [Int.toNat_natCast]; simpa using hc
local macro_rules | `(tactic| walk_at "mine room") => `(tactic| first | (dsimp only; omega) | ((try simp only [depth_mark, depth_under_make, depth_under_kw, depth_in1, depth_deeper, units_deeper, units_in1, units_under_make]); (try dsimp only); omega))
local macro_rules | `(tactic| walk_at "mine one") => `(tactic| (first | (k_unfold; (try dsimp only)) | (k_end; wrow_close) | walk1 | (dsimp only; walk1) | (leave1; walk_say "STEP leave1"; try dsimp only) | (dsimp only; k_unfold; (try dsimp only)) | (dsimp only [StepO]; k_unfold; (try dsimp only)) | fail "no step"))
local macro_rules | `(tactic| walk_at "mine enter") => `(tactic| (refine' enter ?k1 ?k2 ?k3 ?k4 ?k5 ?kd ?k6 ?k7 ?k8 ?k9 ?_ ?c2 ?c3 ?c4 ?c5; (case k1 => assumption); (case k2 => assumption); (case k3 => assumption); (case k4 => assumption); (case k5 => assumption); (case kd => omega); (case k6 => k_is); (case k7 => k_is); (case k8 => first | exact BindsTo.of_eq rfl | exact binds_K (Frag.In.keeps (by assumption) (Kept.keep (by assumption))) rfl (by k_is) rfl rfl rfl | exact binds_K (by k_in) rfl (by k_is) rfl rfl rfl); (case c5 => decide); (case k9 => exact locs rfl); (case c2 => exact rfl); (case c3 => exact rfl); (case c4 => exact rfl); k_whole; intro L' h' F' N' K'; (try dsimp only); (try k_fold)))
local macro_rules | `(tactic| walk_at "mine wr") => `(tactic| ((repeat (refine List.forall_mem_cons.mpr ⟨?_, ?_⟩; (· k_mem))); exact List.forall_mem_nil _))
local macro_rules | `(tactic| walk_at "mine split") => `(tactic| (repeat' (first | exact Split.nil | (refine' Split.keep ?a ?_; (case a => k_all)) | refine' Split.drop ?_)))
local macro_rules | `(tactic| walk_at "mine con") => `(tactic| ((case kB => assumption); (case kF => k_asm); (case kX => assumption); (case kT => assumption); (case kN => k_asm); (case kf => exact rfl); (case kk => exact rfl); (case kw => walk_at "mine wr"); (case ks => walk_at "mine split"); (case kd => walk_at "mine room"); (case ku => walk_at "mine room")))
local macro_rules | `(tactic| walk_at "mine conE") => `(tactic| ((case kB => assumption); (case kF => k_asm); (case kX => assumption); (case kT => assumption); (case kN => k_asm); (case kf => exact rfl); (case kk => exact rfl); (case kw => walk_at "mine wr"); (case ks => walk_at "mine split"); (case kd => walk_at "mine room"); (case ku => walk_at "mine room")))
local macro_rules | `(tactic| k_room) => `(tactic| ((try simp only [depth_mark, depth_under_make, depth_under_kw, depth_in1, depth_deeper, depth_caller]); (try dsimp only); omega))
local macro_rules | `(tactic| walk_at "mine map") => `(tactic| (refine' map_off _ ?hs ?a; (case a => (intro y hy; (have nn : ∀ z, _ = true → y ≠ z := fun z hz e => by subst e; exact absurd (hz.symm.trans hy) (by decide)); (try dsimp only); (repeat rw [if_neg (nn _ (by decide))]); first | done | exact rfl)); (case hs => decide)))
local macro_rules | `(tactic| walk_at "mine oneD") => `(tactic| (first | (k_unfold; (try dsimp only)) | (k_end; wrow_close) | (walk1; (try dsimp only [List.cons_append, List.nil_append])) | (dsimp only; walk1) | (leave1; walk_say "STEP leave1"; try dsimp only) | (dsimp only; k_unfold; (try dsimp only)) | (dsimp only [StepO]; k_unfold; (try dsimp only)) | fail "no step"))
local macro_rules | `(tactic| walk_at "mine size") => `(tactic| ((try simp only [Array.size_append]); refine Nat.le_trans (by first | exact Nat.add_le_add (Nat.add_le_add (KBc.size_picked_le _ _ _) (Nat.le_refl _)) (KBc.size_picked_le _ _ _) | exact Nat.add_le_add (KBc.size_picked_le _ _ _) (Nat.le_refl _) | exact KBc.size_picked_le _ _ _) ?_; simp only [List.size_toArray, List.length_append]; omega))
local macro_rules | `(tactic| walk_at "call builtin:len") => `(tactic| (k_here; (with_reducible show wpAny _ _ (call (Value.builtin "len") [Value.ref _]) _ _ _); (with_reducible rename News _ _ _ _ => N'); (first | (refine' len_app ?ba ?hz ?_; (case ba => exact led_ba N' (by k_mem)); (case hz => omega); k_whole) | (refine' len_bs ?ba ?hz ?_; (case ba => exact led_ba N' (by k_mem)); (case hz => omega); k_whole))))
local macro_rules | `(tactic| walk_at "subscriptTail") => `(tactic| (k_here; (with_reducible show wpAny _ _ (subscriptTail _ (Expr.Slice _ _ none _) (Value.ref _) (Value.ref _)) _ _ _); (with_reducible rename Fr _ _ _ _ => F'); (with_reducible rename News _ _ _ _ => N'); (refine' BA.slice_N (s := ⟨_, _, _, _, _⟩) F' N' ?ba (by constructor) (by constructor) ?hz ?_; (case ba => exact led_ba N' (by k_mem)); (case hz => walk_at "mine size"); intro h' x' F' N' l1; (try k_lt l1); (try k_sweep); (try dsimp only))))
local macro_rules | `(tactic| walk_at "binaryOp Add") => `(tactic| (k_here; (with_reducible show wpAny _ _ (binaryOp _ (Value.ref _) (Value.bytes _ _)) _ _ _); (with_reducible rename Fr _ _ _ _ => F'); (with_reducible rename News _ _ _ _ => N'); (refine' BA.add_b F' N' ?ba ?hz ?_; (case ba => exact led_ba N' (by k_mem)); (case hz => walk_at "mine size"); intro h' x' F' N' l1; (try k_lt l1); (try k_sweep); (try dsimp only))))
local macro_rules | `(tactic| walk_at "binaryOp Add") => `(tactic| (k_here; (with_reducible show wpAny _ _ (binaryOp _ (Value.ref _) (Value.ref _)) _ _ _); (with_reducible rename Fr _ _ _ _ => F'); (with_reducible rename News _ _ _ _ => N'); (refine' BA.add_ba F' N' ?ba ?bb ?hz ?_; (case ba => exact led_ba N' (by k_mem)); (case bb => exact led_ba N' (by k_mem)); (case hz => walk_at "mine size"); intro h' x' F' N' l1; (try k_lt l1); (try k_sweep); (try dsimp only))))
local macro_rules | `(tactic| walk_at "call type:bytes") => `(tactic| (k_here; (with_reducible show wpAny _ _ (call (Value.type "bytes") [Value.ref _]) _ _ _); (with_reducible rename News _ _ _ _ => N'); (refine' BA.bytes_of ?ba ?hz ?_; (case ba => exact led_ba N' (by k_mem)); (case hz => walk_at "mine size"); intro _ _; (try dsimp only))))
local macro_rules | `(tactic| walk_at "subscriptTail") => `(tactic| (k_here; (with_reducible show wpAny _ _ (subscriptTail _ _ (Value.ref _) (Value.int _ _)) _ _ _); (with_reducible rename News _ _ _ _ => N'); (refine' BA.item_N (led_ba N' ?ba) ?k0 ?k1 ?kx ?_; (case ba => k_mem); (case k0 => omega); (case k1 => omega); (case kx => exact led_item2 (by assumption)); (try dsimp only))))
local macro_rules | `(tactic| walk_at "binaryOp RShift int int") => `(tactic| (k_here; refine shr6 (by assumption) ?_))
local macro_rules | `(tactic| walk_at "binaryOp LShift int int") => `(tactic| (k_here; first | refine lsh 0 1 (by decide) (by decide) (by omega) ?_ | refine lsh 1 2 (by decide) (by decide) (by omega) ?_ | refine lsh 2 4 (by decide) (by decide) (by omega) ?_ | refine lsh 3 8 (by decide) (by decide) (by omega) ?_ | refine lsh 6 64 (by decide) (by decide) (by omega) ?_ | refine lsh 14 16384 (by decide) (by decide) (by omega) ?_ | refine lsh 30 1073741824 (by decide) (by decide) (by omega) ?_ | refine lsh 62 4611686018427387904 (by decide) (by decide) (by omega) ?_))
local macro_rules | `(tactic| walk_at "binaryOp BitAnd int int") => `(tactic| (k_here; k_dflt (first | refine andM 6 64 (by decide) (by omega) (uval_nonneg _) ?_ | refine andM 14 16384 (by decide) (by omega) (uval_nonneg _) ?_ | refine andM 30 1073741824 (by decide) (by omega) (uval_nonneg _) ?_ | refine andM 62 4611686018427387904 (by decide) (by omega) (uval_nonneg _) ?_)))
local macro_rules | `(tactic| walk_at "call ref") => `(tactic| (k_here; (with_reducible show wpAny _ _ (call (Value.ref _) [Value.bytes _ _, Value.str _ _]) _ _ _); k_dflt (refine KFB.call_big (by k_asm) (by k_mem) rfl (by (rw [KBw.ints_length]; simp only [List.size_toArray, List.length_take]; omega)) ?_; intro t' k'; (try dsimp only))))
local macro_rules | `(tactic| walk_at "mine pb") => `(tactic| ((case hz => omega); (case hk => omega); (case hn => omega); walk_at "mine conE"; (case kr => exact fun p hp => nomatch hp); (first
  | (rotate_left; (focus (intro e' t' cls' vs' g₂' h' tk' hp' R' F' U'; exact absurd (by omega) hp'.1)); (intro v' news' h' tk' hp' F' N'; obtain ⟨hb', ⟨t', hv'⟩, t3', hn'⟩ := hp'; subst hv'; subst hn'; dsimp only [bufL, List.cons_append, List.nil_append] at N'; (try k_sweep); (try dsimp only)))
  | ((focus (intro v' news' h' tk' hp' F' N'; exact absurd hp'.1 (by omega))); (intro e' t' cls' vs' g₂' h' tk' hp' R' F' U'; obtain ⟨hb', hc'⟩ := hp'; subst hc'; (try dsimp only))))))
local macro_rules | `(tactic| walk_at "call ref") => `(tactic| (k_here; (with_reducible show wpAny _ _ (call (Value.ref 113) [Value.ref _, Value.int _ _]) _ _ _); k_dflt (refine' ConE.callE (pull_bytes' ?hi ?hz ?hk ?hn) ?kB ?kF ?kX ?kT ?kN ?kf ?kk ?kw ?ks ?kr ?kd ?ku ?_ ?_; (case hi => omega); walk_at "mine pb")))

theorem pull_uint_var {w : World} {mean : ExcName → Option Value} {mg mb : Str → Option Value} {x d o : Addr} {t1 t2 t3 : Tok} {bs : List UInt8} {k : Nat} (hz : bs.length ≤ 100000) (hk : k ≤ 100000) :
    ConE w mean mg mb 10 148 [.ref x] [] [] (bufL w.params x d o bs k t1 t2 t3)
      (fun r news' => ∃ v k', pv bs k = some (v, k') ∧ (∃ t, r = .int v t) ∧ ∃ t3', news' = bufL w.params x d o bs (k' : Int) t1 t2 t3')
      (fun cls => pv bs k = none ∧ cls = .ref 31) := by
  intro dp un gd l base g s R B X T Kp N _ hdp hun ret fail
  w_on
  have hxd : @Ne Nat x d := led_ne N (.head _) (.tail _ (.head _)) (cls_ne (by simp))
  have hxo : @Ne Nat x o := led_ne N (.head _) (.tail _ (.tail _ (.head _))) (cls_ne (by simp))
  have hdo : @Ne Nat d o := led_ne N (.tail _ (.head _)) (.tail _ (.tail _ (.head _))) (cls_ne (by simp))
  cases hcc : bs[k]? with
  | none =>
    have hlen : bs.length ≤ k := by simpa using hcc
    have hp : pv bs k = none := by unfold pv; rw [hcc]
    walk_at "mine enter"
    repeat' walk_at "mine one"
    (with_reducible rename RaisedK _ _ _ _ _ _ _ _ => R1)
    (with_reducible rename Heap.UpToSlots _ _ => U1)
    exact fail _ _ _ _ _ _ ⟨hp, rfl⟩ (raised_nil R1) U1
  | some c =>
    have hlen : k < bs.length := by
      rcases Nat.lt_or_ge k bs.length with q | q
      · exact q
      · rw [List.getElem?_eq_none q] at hcc; cases hcc
    have hp : pv bs k = if k + 2 ^ (c.toNat / 64) ≤ bs.length then some (uval ((bs.drop k).take (2 ^ (c.toNat / 64))) % 2 ^ (8 * 2 ^ (c.toNat / 64) - 2), k + 2 ^ (c.toNat / 64)) else none := by unfold pv; rw [hcc]
    have hlt : c.toNat < 256 := c.toNat_lt
    have hjj : c.toNat / 64 = 0 ∨ c.toNat / 64 = 1 ∨ c.toNat / 64 = 2 ∨ c.toNat / 64 = 3 := by omega
    rcases hjj with hj' | hj' | hj' | hj' <;> rw [hj'] at hp
    · have hj : ((c.toNat / 64 : Nat) : Int) = 0 := by omega
      by_cases hc : k + 1 ≤ bs.length
      · have hp2 : pv bs k = some (uval ((bs.drop k).take 1) % 64, k + 1) := hp.trans (if_pos hc)
        walk_at "mine enter"
        repeat' walk_at "mine one"
        (with_reducible rename Fr _ _ _ _ => F1)
        (with_reducible rename News _ _ _ _ => N1)
        rw [show ((k : Int) + (1 : Int)) = ((k + 1 : Nat) : Int) from by omega] at N1
        refine' ret _ _ _ _ ⟨_, _, hp2, ⟨_, rfl⟩, _, rfl⟩ (Kept.of_fr F1) (led3 N1 ?a ?b ?c)
        case a => k_mem
        case b => k_mem
        case c => k_mem
      · exact absurd hlen hc
    · have hj : ((c.toNat / 64 : Nat) : Int) = 1 := by omega
      by_cases hc : k + 2 ≤ bs.length
      · have hp2 : pv bs k = some (uval ((bs.drop k).take 2) % 16384, k + 2) := hp.trans (if_pos hc)
        walk_at "mine enter"
        repeat' walk_at "mine one"
        (with_reducible rename Fr _ _ _ _ => F1)
        (with_reducible rename News _ _ _ _ => N1)
        rw [show ((k : Int) + (2 : Int)) = ((k + 2 : Nat) : Int) from by omega] at N1
        refine' ret _ _ _ _ ⟨_, _, hp2, ⟨_, rfl⟩, _, rfl⟩ (Kept.of_fr F1) (led3 N1 ?a ?b ?c)
        case a => k_mem
        case b => k_mem
        case c => k_mem
      · have hp2 : pv bs k = none := hp.trans (if_neg hc)
        walk_at "mine enter"
        repeat' walk_at "mine one"
        (with_reducible rename RaisedK _ _ _ _ _ _ _ _ => R1)
        (with_reducible rename Heap.UpToSlots _ _ => U1)
        exact fail _ _ _ _ _ _ ⟨hp2, rfl⟩ (raised_nil R1) U1
    · have hj : ((c.toNat / 64 : Nat) : Int) = 2 := by omega
      by_cases hc : k + 4 ≤ bs.length
      · have hp2 : pv bs k = some (uval ((bs.drop k).take 4) % 1073741824, k + 4) := hp.trans (if_pos hc)
        walk_at "mine enter"
        repeat' walk_at "mine one"
        (with_reducible rename Fr _ _ _ _ => F1)
        (with_reducible rename News _ _ _ _ => N1)
        rw [show ((k : Int) + (4 : Int)) = ((k + 4 : Nat) : Int) from by omega] at N1
        refine' ret _ _ _ _ ⟨_, _, hp2, ⟨_, rfl⟩, _, rfl⟩ (Kept.of_fr F1) (led3 N1 ?a ?b ?c)
        case a => k_mem
        case b => k_mem
        case c => k_mem
      · have hp2 : pv bs k = none := hp.trans (if_neg hc)
        walk_at "mine enter"
        repeat' walk_at "mine one"
        (with_reducible rename RaisedK _ _ _ _ _ _ _ _ => R1)
        (with_reducible rename Heap.UpToSlots _ _ => U1)
        exact fail _ _ _ _ _ _ ⟨hp2, rfl⟩ (raised_nil R1) U1
    · have hj : ((c.toNat / 64 : Nat) : Int) = 3 := by omega
      by_cases hc : k + 8 ≤ bs.length
      · have hp2 : pv bs k = some (uval ((bs.drop k).take 8) % 4611686018427387904, k + 8) := hp.trans (if_pos hc)
        walk_at "mine enter"
        repeat' walk_at "mine one"
        (with_reducible rename Fr _ _ _ _ => F1)
        (with_reducible rename News _ _ _ _ => N1)
        rw [show ((k : Int) + (8 : Int)) = ((k + 8 : Nat) : Int) from by omega] at N1
        refine' ret _ _ _ _ ⟨_, _, hp2, ⟨_, rfl⟩, _, rfl⟩ (Kept.of_fr F1) (led3 N1 ?a ?b ?c)
        case a => k_mem
        case b => k_mem
        case c => k_mem
      · have hp2 : pv bs k = none := hp.trans (if_neg hc)
        walk_at "mine enter"
        repeat' walk_at "mine one"
        (with_reducible rename RaisedK _ _ _ _ _ _ _ _ => R1)
        (with_reducible rename Heap.UpToSlots _ _ => U1)
        exact fail _ _ _ _ _ _ ⟨hp2, rfl⟩ (raised_nil R1) U1
end Mine
end
section
open PySem PySem.W PyProof.Rows PySem.Calls
set_option maxRecDepth 100000
set_option maxHeartbeats 8000000
namespace Mine
theorem pv_lt {bs : List UInt8} {k k' : Nat} {v : Int} (h : pv bs k = some (v, k')) : v < 4611686018427387904 := by
  unfold pv at h
  cases hc : bs[k]? with
  | none => rw [hc] at h; cases h
  | some c =>
    rw [hc] at h
    dsimp only at h
    have hlt : c.toNat < 256 := c.toNat_lt
    split at h
    · obtain ⟨rfl, rfl⟩ := Prod.mk.inj (Option.some.inj h)
      have hj : c.toNat / 64 = 0 ∨ c.toNat / 64 = 1 ∨ c.toNat / 64 = 2 ∨ c.toNat / 64 = 3 := by omega
      rcases hj with hj | hj | hj | hj <;> rw [hj]
      · exact Int.lt_of_lt_of_le (Int.emod_lt_of_pos _ (by decide)) (by decide)
      · exact Int.lt_of_lt_of_le (Int.emod_lt_of_pos _ (by decide)) (by decide)
      · exact Int.lt_of_lt_of_le (Int.emod_lt_of_pos _ (by decide)) (by decide)
      · exact Int.lt_of_lt_of_le (Int.emod_lt_of_pos _ (by decide)) (by decide)
    · cases h
theorem pv_some {bs : List UInt8} {k k' : Nat} {v : Int} (h : pv bs k = some (v, k')) : 0 ≤ v ∧ k < k' ∧ k' ≤ bs.length := by
  unfold pv at h
  cases hc : bs[k]? with
  | none => rw [hc] at h; cases h
  | some c =>
    rw [hc] at h
    dsimp only at h
    have hp : 0 < 2 ^ (c.toNat / 64) := Nat.pow_pos (by decide)
    split at h
    · obtain ⟨rfl, rfl⟩ := Prod.mk.inj (Option.some.inj h)
      exact ⟨Int.emod_nonneg _ (Int.ne_of_gt (Int.pow_pos (by decide))), by omega, by assumption⟩
    · cases h
/-- the loop of pull_ack_frame, on numbers: n turns from place k, the lowest e, the rows so far -/
def prow (bs : List UInt8) : Nat → Nat → Int → List (Int × Int) → Option (Nat × Int × List (Int × Int))
  | 0, k, e, rows => some (k, e, rows)
  | n + 1, k, e, rows => match pv bs k with
    | none => none
    | some (g, k1) => match pv bs k1 with
      | none => none
      | some (c, k2) => prow bs n k2 (e - (g + 2) - c) ((e - (g + 2) - c, e - (g + 2) + 1) :: rows)
/-- pull_ack_frame, on numbers: the place behind, the lowest, the rows, the delay -/
def pack (bs : List UInt8) (k : Nat) : Option (Nat × Int × List (Int × Int) × Int) :=
  match pv bs k with
  | none => none
  | some (e, k1) => match pv bs k1 with
    | none => none
    | some (dl, k2) => match pv bs k2 with
      | none => none
      | some (n, k3) => match pv bs k3 with
        | none => none
        | some (c, k4) => match prow bs n.toNat k4 (e - c) [(e - c, e + 1)] with
          | none => none
          | some (k5, low, rows) => some (k5, low, rows, dl)
def pvV (bs : List UInt8) (k : Nat) : Int := ((pv bs k).getD (0, 0)).1
def pvK (bs : List UInt8) (k : Nat) : Nat := ((pv bs k).getD (0, 0)).2
theorem pv_eq {bs : List UInt8} {k : Nat} (h : (pv bs k).isSome = true) : pv bs k = some (pvV bs k, pvK bs k) := by
  unfold pvV pvK
  cases e : pv bs k with
  | none => rw [e] at h; cases h
  | some p => rfl
theorem pvV_lt {bs : List UInt8} {k : Nat} (h : (pv bs k).isSome = true) : pvV bs k < 4611686018427387904 := pv_lt (pv_eq h)
theorem pull_uint_var' {w : World} {mean : ExcName → Option Value} {mg mb : Str → Option Value} {x d o : Addr} {t1 t2 t3 : Tok} {bs : List UInt8} {k : Nat} (hz : bs.length ≤ 100000) (hk : k ≤ 100000) :
    ConE w mean mg mb 10 148 [.ref x] [] [] (bufL w.params x d o bs k t1 t2 t3)
      (fun r news' => (pv bs k).isSome = true ∧ 0 ≤ pvV bs k ∧ k < pvK bs k ∧ pvK bs k ≤ bs.length ∧ (∃ t, r = .int (pvV bs k) t) ∧ ∃ t3', news' = bufL w.params x d o bs (pvK bs k : Int) t1 t2 t3')
      (fun cls => pv bs k = none ∧ cls = .ref 31) := by
  intro dp un gd l base g s R B X T Kp N hrd hdp hun ret fail
  refine pull_uint_var hz hk dp un gd l base g s R B X T Kp N hrd hdp hun (fun v news' h' tk hp => ret v news' h' tk ?_) fail
  obtain ⟨v, k', h1, h2, h3⟩ := hp
  have hs : (pv bs k).isSome = true := by rw [h1]; rfl
  have he := pv_eq hs
  rw [he] at h1
  obtain ⟨rfl, rfl⟩ := Prod.mk.inj (Option.some.inj h1)
  exact ⟨hs, (pv_some he).1, (pv_some he).2.1, (pv_some he).2.2, h2, h3⟩
theorem pack_eq {bs : List UInt8} {k : Nat} (h1 : (pv bs k).isSome = true) (h2 : (pv bs (pvK bs k)).isSome = true) (h3 : (pv bs (pvK bs (pvK bs k))).isSome = true) (h4 : (pv bs (pvK bs (pvK bs (pvK bs k)))).isSome = true) :
    pack bs k = (prow bs (pvV bs (pvK bs (pvK bs k))).toNat (pvK bs (pvK bs (pvK bs (pvK bs k)))) (pvV bs k - pvV bs (pvK bs (pvK bs (pvK bs k)))) [(pvV bs k - pvV bs (pvK bs (pvK bs (pvK bs k))), pvV bs k + 1)]).map fun q => (q.1, q.2.1, q.2.2, pvV bs (pvK bs k)) := by
  unfold pack
  simp only [pv_eq h1, pv_eq h2, pv_eq h3, pv_eq h4]
  cases prow bs (pvV bs (pvK bs (pvK bs k))).toNat (pvK bs (pvK bs (pvK bs (pvK bs k)))) (pvV bs k - pvV bs (pvK bs (pvK bs (pvK bs k)))) [(pvV bs k - pvV bs (pvK bs (pvK bs (pvK bs k))), pvV bs k + 1)] with
  | none => rfl
  | some p => rfl
theorem pack_n1 {bs : List UInt8} {k : Nat} (h1 : pv bs k = none) : pack bs k = none := by unfold pack; rw [h1]
theorem pack_n2 {bs : List UInt8} {k : Nat} (h1 : (pv bs k).isSome = true) (h2 : pv bs (pvK bs k) = none) : pack bs k = none := by unfold pack; simp only [pv_eq h1, h2]
theorem pack_n3 {bs : List UInt8} {k : Nat} (h1 : (pv bs k).isSome = true) (h2 : (pv bs (pvK bs k)).isSome = true) (h3 : pv bs (pvK bs (pvK bs k)) = none) : pack bs k = none := by unfold pack; simp only [pv_eq h1, pv_eq h2, h3]
theorem pack_n4 {bs : List UInt8} {k : Nat} (h1 : (pv bs k).isSome = true) (h2 : (pv bs (pvK bs k)).isSome = true) (h3 : (pv bs (pvK bs (pvK bs k))).isSome = true) (h4 : pv bs (pvK bs (pvK bs (pvK bs k))) = none) : pack bs k = none := by unfold pack; simp only [pv_eq h1, pv_eq h2, pv_eq h3, h4]
theorem prow_n1 {bs : List UInt8} {n k : Nat} {e : Int} {rows : List (Int × Int)} (h1 : pv bs k = none) : prow bs (n + 1) k e rows = none := by unfold prow; rw [h1]
theorem prow_n2 {bs : List UInt8} {n k : Nat} {e : Int} {rows : List (Int × Int)} (h1 : (pv bs k).isSome = true) (h2 : pv bs (pvK bs k) = none) : prow bs (n + 1) k e rows = none := by unfold prow; simp only [pv_eq h1, h2]
theorem prow_s {bs : List UInt8} {n k : Nat} {e : Int} {rows : List (Int × Int)} (h1 : (pv bs k).isSome = true) (h2 : (pv bs (pvK bs k)).isSome = true) :
    prow bs (n + 1) k e rows = prow bs n (pvK bs (pvK bs k)) (e - (pvV bs k + 2) - pvV bs (pvK bs k)) ((e - (pvV bs k + 2) - pvV bs (pvK bs k), e - (pvV bs k + 2) + 1) :: rows) := by
  conv => lhs; unfold prow
  simp only [pv_eq h1, pv_eq h2]
/-- what of a ledger stays aside when wr is lent out: apart by address or by object; the tail may be an unknown list -/
inductive Split2 (wr : List (Addr × Obj)) : List (Addr × Obj) → List (Addr × Obj) → Prop
  | nil : Split2 wr [] []
  | keep {p r r'} : (∀ q ∈ wr, @Ne Nat q.1 p.1 ∨ q.2 ≠ p.2) → Split2 wr r r' → Split2 wr (p :: r) (p :: r')
  | drop {p r r'} : Split2 wr r r' → Split2 wr (p :: r) r'
  | tail {t} : (∀ p ∈ t, ∀ q ∈ wr, q.2 ≠ p.2) → Split2 wr t t
theorem Split2.drop2 {wr : List (Addr × Obj)} {p : Addr × Obj} {r r' : List (Addr × Obj)} (_ : p ∈ wr) (x : Split2 wr r r') : Split2 wr (p :: r) r' := .drop x
theorem Split2.sub {wr : List (Addr × Obj)} : ∀ {l r : List (Addr × Obj)}, Split2 wr l r → (∀ p ∈ r, p ∈ l) ∧ ∀ p ∈ r, ∀ q ∈ wr, @Ne Nat q.1 p.1 ∨ q.2 ≠ p.2
  | _, _, .nil => ⟨fun _ h => h, fun _ h => nomatch h⟩
  | _, _, .keep h x => ⟨fun p hp => by
      rcases List.mem_cons.mp hp with rfl | hp
      · exact .head _
      · exact .tail _ (x.sub.1 p hp), fun p hp q hq => by
      rcases List.mem_cons.mp hp with rfl | hp
      · exact h q hq
      · exact x.sub.2 p hp q hq⟩
  | _, _, .drop x => ⟨fun p hp => .tail _ (x.sub.1 p hp), x.sub.2⟩
  | _, _, .tail h => ⟨fun _ h => h, fun p hp q hq => .inr (h p hp q hq)⟩
theorem ConE.call2 {w : World} {dp un : Nat} {gd : Option (List Code)} {outer : List Env} {env : Env} {A₀ : Around} {base h₀ : Heap} {L : Addr} {s : Shared} {m : Str → Option Value} {mean : ExcName → Option Value} {mg mb : Str → Option Value} {news wr rd rest : List (Addr × Obj)}
    {D : Nat} {f : Addr} {pos : List Value} {kw : List (Str × Value)} {post : Value → List (Addr × Obj) → Prop} {err : Value → Prop} {Q E : Value → Shared → Prop} (C : ConE w mean mg mb D f pos kw rd wr post err)
    (B : Below A₀ base outer h₀) (F : Fr h₀ L s.heap m) (X : (hd.heap_39 w.params).In h₀) (T : Top hd.view_39 LS mean mg mb h₀) (N : News h₀ L s.heap news) (hf : env.frame = some L) (hke : env.scope.kind = .function)
    (hwr : ∀ p ∈ wr, p ∈ news) (hs : Split2 wr news rest) (hrd : ∀ p ∈ rd, p ∈ rest ∨ h₀.get? p.1 = some p.2) (hdp : dp + D < recursionLimit) (hun : un + 10 * D < cLine)
    (k : ∀ v news' h' tk, post v news' → Fr h₀ L h' m → News h₀ L h' (news' ++ rest) → Q v { s with heap := h', toks := tk })
    (ke : ∀ e t cls vs g₂ h' tk, err cls → RaisedK base (env :: outer) e cls t vs [] h' → Fr h₀ L g₂ m → g₂.UpToSlots h' → E (.ref e) { s with heap := h', toks := tk }) :
    wpAny (model PG w) (AX dp un gd (env :: outer)) (call (.ref f) pos kw) Q E s := by
  obtain ⟨g, ⟨B', X', T', K', N', back⟩, Fg, hR, st⟩ := use2 (dp := dp) (un := un) (gd := gd) B F X T N hf hke wr rest hwr hs.sub.1 fun p hp q hq e => by
    rcases hs.sub.2 p hp q hq with h | h
    · exact h e.symm
    · have h1 := (N _ (hs.sub.1 p hp)).1
      have h2 := (N _ (hwr q hq)).1
      rw [e, h2] at h1
      exact h (Option.some.inj h1)
  refine wpAny_call (C dp un gd _ base g s _ B' X' T' K' N' (fun p hp => (hrd p hp).elim (hR p) (st _ _)) hdp hun (fun v news' h' tk hp K2 L2 => ?_) fun e t cls vs h' tk hc hr hu => ?_)
  · obtain ⟨F3, N3⟩ := back h' news' K2 L2
    exact k v news' h' tk hp F3 N3
  · exact ke e t cls vs g h' tk hc hr Fg hu
abbrev pairsOf (rs : List RG) : List (Int × Int) := rs.map fun y => (y.a, y.b)
theorem buf_cls {P : Params} {x d o : Addr} {bs : List UInt8} {k : Int} {t1 t2 t3 : Tok} {ws : List (Addr × String)} (h : ∀ y ∈ ws, y.2 ≠ "dict" ∧ y.2 ≠ "bytearray") : ∀ p ∈ bufL P x d o bs k t1 t2 t3, ∀ y ∈ ws, p.2.cls ≠ .type y.2 := by
  intro p hp y hy
  simp only [List.mem_cons, List.not_mem_nil, or_false] at hp
  rcases hp with rfl | rfl | rfl
  · exact fun e => nomatch e
  · exact tyne (Ne.symm (h y hy).1)
  · exact tyne (Ne.symm (h y hy).2)
theorem rows_cls' {P : Params} {rs : List RG} {ws : List (Addr × String)} (h : ∀ y ∈ ws, y.2 ≠ "dict") : ∀ p ∈ rowsL P rs, ∀ y ∈ ws, p.2.cls ≠ .type y.2 := by
  intro p hp y hy
  obtain ⟨z, _, hz⟩ := List.mem_flatMap.mp hp
  simp only [List.mem_cons, List.not_mem_nil, or_false] at hz
  rcases hz with rfl | rfl
  · exact fun e => nomatch e
  · exact tyne (Ne.symm (h y hy))
theorem all_app {α : Type} {p : α → Prop} {a b : List α} (ha : ∀ x ∈ a, p x) (hb : ∀ x ∈ b, p x) : ∀ x ∈ a ++ b, p x := fun x hx => (List.mem_append.mp hx).elim (ha x) (hb x)
theorem rowsL_cons {P : Params} {y : RG} {rs : List RG} : rowsL P (y :: rs) = rgL P y ++ rowsL P rs := rfl
theorem trk1 {st : List Str} {m m₀ : Str → Option Value} {x : Str} {v : Value} (hx : m x = some v) (ho : ∀ y, (x :: st).contains y = false → m y = m₀ y) : m = fun y => if y = x then some v else upd st m m₀ y := by
  funext y
  by_cases e : y = x
  · rw [if_pos e, e, hx]
  · rw [if_neg e]
    show m y = if st.contains y = true then m y else m₀ y
    cases h : st.contains y with
    | true => simp
    | false =>
      simp only [Bool.false_eq_true, if_false]
      exact ho y (by
        show (x :: st).contains y = false
        rw [List.contains_cons, h]
        simp [e])
theorem trk2 {st : List Str} {m m₀ : Str → Option Value} {x x' : Str} {v v' : Value} (hx : m x = some v) (hx' : m x' = some v') (ho : ∀ y, (x :: x' :: st).contains y = false → m y = m₀ y) : m = fun y => if y = x then some v else if y = x' then some v' else upd st m m₀ y := by
  funext y
  by_cases e : y = x
  · rw [if_pos e, e, hx]
  · rw [if_neg e]
    by_cases e' : y = x'
    · rw [if_pos e', e', hx']
    · rw [if_neg e']
      show m y = if st.contains y = true then m y else m₀ y
      cases h : st.contains y with
      | true => simp
      | false =>
        simp only [Bool.false_eq_true, if_false]
        exact ho y (by
          show (x :: x' :: st).contains y = false
          rw [List.contains_cons, List.contains_cons, h]
          simp [e, e'])
theorem dict_ne {a b : List DictEntry} {n m : Nat} (h : a ≠ b) : dictOf a n ≠ dictOf b m := fun e => h (by
  have := congrArg Obj.data e
  injection this with h1 h2
  exact Array.toList_inj.mpr h1)
theorem str_ne {a b : Str} {h₁ h₂ : Int} {t u : Tok} {v v' : Value} {l l' : List DictEntry} (h : a ≠ b) : (⟨h₁, .str a t, v⟩ : DictEntry) :: l ≠ ⟨h₂, .str b u, v'⟩ :: l' := fun e => h (by
  have := (List.cons.inj e).1
  injection this with _ h2 _
  injection h2)
/-- the first key of a dict: it tells two dicts of this law apart -/
def firstKey (o : Obj) : Option Str := match o.data with
  | .dict es _ => (match es.toList with
    | e :: _ => (match e.key with
      | .str x _ => some x
      | _ => none)
    | [] => none)
  | _ => none
theorem key_ne {a b : Obj} (h : (firstKey a == firstKey b) = false) : a ≠ b := fun e => by
  subst e
  rw [beq_self_eq_true] at h
  cases h
theorem bufD_rsD {P : Params} {o l : Addr} {k : Int} {t1 t2 t3 t : Tok} : bufD P o k t1 t2 t3 ≠ rsD P l t := dict_ne (str_ne (by decide))
theorem rsD_bufD {P : Params} {o l : Addr} {k : Int} {t1 t2 t3 t : Tok} : rsD P l t ≠ bufD P o k t1 t2 t3 := dict_ne (str_ne (by decide))
theorem bufD_rngD {P : Params} {o : Addr} {k a b : Int} {t1 t2 t3 u1 u2 ua ub : Tok} : bufD P o k t1 t2 t3 ≠ rngD P a b u1 u2 ua ub := dict_ne (str_ne (by decide))
theorem rsD_rngD {P : Params} {l : Addr} {a b : Int} {t u1 u2 ua ub : Tok} : rsD P l t ≠ rngD P a b u1 u2 ua ub := dict_ne (str_ne (by decide))
theorem rows_cls {P : Params} {rs : List RG} : ∀ p ∈ rowsL P rs, (∃ d, p.2 = instObj 235 d) ∨ ∃ a b t1 t2 ta tb, p.2 = rngD P a b t1 t2 ta tb := fun p hp => by
  obtain ⟨y, _, hy⟩ := List.mem_flatMap.mp hp
  simp only [List.mem_cons, List.not_mem_nil, or_false] at hy
  rcases hy with rfl | rfl
  · exact .inl ⟨_, rfl⟩
  · exact .inr ⟨_, _, _, _, _, _, rfl⟩
theorem rows_off_buf {P : Params} {rs : List RG} {x d o : Addr} {bs : List UInt8} {k : Int} {t1 t2 t3 : Tok} : ∀ p ∈ rowsL P rs, ∀ q ∈ bufL P x d o bs k t1 t2 t3, q.2 ≠ p.2 := by
  intro p hp q hq
  simp only [List.mem_cons, List.not_mem_nil, or_false] at hq
  rcases rows_cls p hp with ⟨d', e⟩ | ⟨a, b, u1, u2, ua, ub, e⟩ <;> rw [e] <;> rcases hq with rfl | rfl | rfl
  · exact cls_ne (by simp)
  · exact cls_ne (by simp)
  · exact cls_ne (by simp)
  · exact cls_ne (by simp)
  · exact dict_ne (str_ne (by decide))
  · exact cls_ne (by simp)
theorem rows_off_rs {P : Params} {rs : List RG} {x d l : Addr} {rs' : List RG} {n : Nat} {t : Tok} : ∀ p ∈ rowsL P rs, ∀ q ∈ rsL P x d l rs' n t, q.2 ≠ p.2 := by
  intro p hp q hq
  simp only [List.mem_cons, List.not_mem_nil, or_false] at hq
  rcases rows_cls p hp with ⟨d', e⟩ | ⟨a, b, u1, u2, ua, ub, e⟩ <;> rw [e] <;> rcases hq with rfl | rfl | rfl
  · exact cls_ne (by simp)
  · exact cls_ne (by simp)
  · exact cls_ne (by simp)
  · exact cls_ne (by simp)
  · exact dict_ne (str_ne (by decide))
  · exact cls_ne (by simp)
theorem iter_nil {prog : Program} {w : World} {A : Around} {E : Value → Shared → Prop} {s : Shared} {env : Env} {h₀ : Heap} {target : PySem.Expr} {body : List Stmt} {Q : Flow → Shared → Prop} {l : Addr} {m₀ : Str → Option Value} {news : List (Addr × Obj)} {K : Frag} {n : Nat}
    (hh : A.handled = none) (F : Fr h₀ env.locals s.heap m₀) (N : News h₀ env.locals s.heap news) (X : K.In h₀) (e : K.lookup l = some { cls := .type "list", data := .seq #[] n })
    (h : ∀ h' tk, Fr h₀ env.locals h' m₀ → News h₀ env.locals h' news → Q .next { s with heap := h', toks := tk }) :
    wpAny (model prog w) A (pyIter (.ref l)) (fun it s₂ => TurnsAt prog w A h₀ env target body Q E it s₂) E s :=
  list_J (vs := []) (keep := []) (fun _ m nx => m = m₀ ∧ nx = news) hh F N ⟨_, F.keep _ _ (X _ _ e), rfl, _, rfl⟩ (.inr ⟨_, X _ _ e⟩) (fun _ _ _ _ _ hp => nomatch hp) ⟨rfl, rfl⟩
    (fun i v _ _ _ _ _ _ hv => by simp at hv) fun h' tk m' news' F' N' hj => by
      obtain ⟨rfl, rfl⟩ := hj
      exact h h' tk F' N'
theorem ack_sub {P : Params} {g h : Heap} {L I xr dr lr x d o : Addr} {it : Obj} {tr t1 t2 t3 : Tok} {n : Nat} {its : Array Value} {y : RG} {rest : List RG} {bs : List UInt8} {k : Int} {all : List (Addr × Obj)}
    (N : News g L h all) (hI : (I, it) ∈ all) (h1 : (xr, instObj 329 dr) ∈ all) (h2 : (dr, rsD P lr tr) ∈ all) (h3 : (lr, listOf its n) ∈ all) (he : its = (refsOf (y :: rest)).toArray)
    (h4 : (y.r, instObj 235 y.d) ∈ all) (h5 : (y.d, rngD P y.a y.b y.t1 y.t2 y.ta y.tb) ∈ all) (h6 : (x, instObj 193 d) ∈ all) (h7 : (d, bufD P o k t1 t2 t3) ∈ all) (h8 : (o, BA.baObj bs.toArray) ∈ all) (ht : ∀ p ∈ rowsL P rest, p ∈ all) :
    News g L h ([(I, it)] ++ (rsL P xr dr lr (y :: rest) n tr ++ (rgL P y ++ (bufL P x d o bs k t1 t2 t3 ++ rowsL P rest)))) := by
  subst he
  refine news_sub N fun p hp => ?_
  simp only [List.mem_cons, List.mem_append, List.not_mem_nil, or_false] at hp
  rcases hp with rfl | (rfl | rfl | rfl) | (rfl | rfl) | (rfl | rfl | rfl) | hp
  all_goals first | assumption | exact ht _ hp
abbrev tupO (vs : List Value) : Obj := { cls := .type "tuple", data := .seq vs.toArray 0 }
theorem ack_fin {P : Params} {g h : Heap} {L T xr dr lr x d o : Addr} {tr t1 t2 t3 td : Tok} {n : Nat} {rs : List RG} {bs : List UInt8} {k dl : Int} {all : List (Addr × Obj)}
    (N : News g L h all) (hT : (T, tupO [.ref xr, .int dl td]) ∈ all) (h1 : (xr, instObj 329 dr) ∈ all) (h2 : (dr, rsD P lr tr) ∈ all) (h3 : (lr, listOf (refsOf rs).toArray n) ∈ all)
    (h6 : (x, instObj 193 d) ∈ all) (h7 : (d, bufD P o k t1 t2 t3) ∈ all) (h8 : (o, BA.baObj bs.toArray) ∈ all) (ht : ∀ p ∈ rowsL P rs, p ∈ all) :
    Led g h ((T, tupO [.ref xr, .int dl td]) :: (rsL P xr dr lr rs n tr ++ (bufL P x d o bs k t1 t2 t3 ++ rowsL P rs))) := by
  refine Led.of_news (news_sub N fun p hp => ?_)
  simp only [List.mem_cons, List.mem_append, List.not_mem_nil, or_false] at hp
  rcases hp with rfl | (rfl | rfl | rfl) | (rfl | rfl | rfl) | hp
  all_goals first | assumption | exact ht _ hp
end Mine
end
section
open PySem PySem.W PyProof.Rows PySem.Calls
set_option maxRecDepth 100000
namespace Mine
/-- a tuple of two ints in the ledger -/
structure TR where
  (t : Addr) (a b : Int) (ta tb : Tok)
abbrev trO (y : TR) : Addr × Obj := (y.t, tupO [.int y.a y.ta, .int y.b y.tb])
def rowsT (l : List TR) : List (Addr × Obj) := l.map trO
abbrev refsT (l : List TR) : List Value := l.map fun y => .ref y.t
abbrev pairsT (l : List TR) : List (Int × Int) := l.map fun y => (y.a, y.b)
theorem datT : ∀ (l : List TR), DatAll (rowsT l) (refsT l) ((pairsT l).map fun q => Dat.tuple [.int q.1, .int q.2])
  | [] => .nil
  | y :: l => .cons (.tuple (.head _) (.cons (.int _ _) (.cons (.int _ _) .nil))) ((datT l).mono fun _ h => .tail _ h)
theorem mem_rowsT {l : List TR} {y : TR} (h : y ∈ l) : trO y ∈ rowsT l := List.mem_map_of_mem h
theorem rowsT_cls {l : List TR} {ws : List (Addr × String)} (h : ∀ y ∈ ws, y.2 ≠ "tuple") : ∀ p ∈ rowsT l, ∀ y ∈ ws, p.2.cls ≠ .type y.2 := by
  intro p hp y hy
  obtain ⟨z, _, rfl⟩ := List.mem_map.mp hp
  exact tyne (Ne.symm (h y hy))
theorem rowsT_off {wr : List (Addr × Obj)} {l : List TR} (h : ∀ q ∈ wr, q.2.cls ≠ .type "tuple") : ∀ p ∈ rowsT l, ∀ q ∈ wr, q.2 ≠ p.2 := by
  intro p hp q hq e
  obtain ⟨z, _, rfl⟩ := List.mem_map.mp hp
  exact h q hq (by rw [e])
theorem Split2.all {l : List (Addr × Obj)} : Split2 [] l l := .tail fun _ _ _ h => nomatch h
theorem append_S {prog : Program} {w : World} {A : Around} {E : Value → Shared → Prop} {s : Shared} {h₀ : Heap} {L D : Addr} {m : Str → Option Value} {news rest : List (Addr × Obj)} {its : Array Value} {n : Nat} {x : Value} {Q : Value → Shared → Prop}
    (F : Fr h₀ L s.heap m) (N : News h₀ L s.heap news) (hm : (D, listOf its n) ∈ news) (hs : Split2 [(D, listOf its n)] news rest) (hz : its.size ≤ 16777216)
    (h : ∀ h', Fr h₀ L h' m → News h₀ L h' ((D, listOf (its.push x) (n + 1)) :: rest) → Q .none { s with heap := h' }) : wpAny (model prog w) A (call (.builtin "list.append") [.ref D, x]) Q E s := by
  refine append_at (hsz := by rw [sizeLine_eq]; exact hz) (N _ hm).1 fun h' hs' hD' => ?_
  have z := N _ hm
  refine h h' (F.change hs' z.2.1 z.2.2) fun p hp => ?_
  rcases List.mem_cons.mp hp with rfl | hp
  · exact ⟨hD', z.2⟩
  · have y := N p (hs.sub.1 p hp)
    refine ⟨hs'.extBut _ _ (fun e => ?_) y.1, y.2⟩
    rcases hs.sub.2 p hp _ (.head _) with q | q
    · exact q e.symm
    · have y1 := y.1
      have z1 := z.1
      rw [e] at y1
      rw [z1] at y1
      exact q (Option.some.inj y1)
/-- the rows of the law, on numbers -/
def scl (n : Int) : Int := if (n / 45) % 4 = 2 then 20 else if (n / 45) % 4 = 3 then 1000000 else 1
def lfst (p n : Int) : Int := p + (1 + n % 5) * scl n
def lnxt (p n : Int) : Int := lfst p n + (1 + n / 5 % 9) * scl n
def lrows : Int → List Int → List (Int × Int)
  | _, [] => []
  | p, n :: ns => (lfst p n, lnxt p n) :: lrows (lnxt p n) ns
def lend : Int → List Int → Int
  | p, [] => p
  | p, n :: ns => lend (lnxt p n) ns
theorem lrows_snoc : ∀ (ns : List Int) (p n : Int), lrows p (ns ++ [n]) = lrows p ns ++ [(lfst (lend p ns) n, lnxt (lend p ns) n)] ∧ lend p (ns ++ [n]) = lnxt (lend p ns) n
  | [], _, _ => ⟨rfl, rfl⟩
  | m :: ns, p, n => by
    have ih := lrows_snoc ns (lnxt p m) n
    refine ⟨?_, ih.2⟩
    show (lfst p m, lnxt p m) :: lrows (lnxt p m) (ns ++ [n]) = _
    rw [ih.1]; rfl
theorem lrows_length : ∀ (ns : List Int) (p : Int), (lrows p ns).length = ns.length
  | [], _ => rfl
  | _ :: ns, _ => by
    show (lrows _ ns).length + 1 = ns.length + 1
    rw [lrows_length ns]
theorem scl_range (n : Int) : scl n = 1 ∨ scl n = 20 ∨ scl n = 1000000 := by
  unfold scl
  split
  · exact .inr (.inl rfl)
  · split
    · exact .inr (.inr rfl)
    · exact .inl rfl
theorem lnxt_range (p n : Int) : p + 1 ≤ lfst p n ∧ lfst p n ≤ p + 5000000 ∧ lfst p n + 1 ≤ lnxt p n ∧ lnxt p n ≤ p + 14000000 := by
  unfold lnxt lfst
  have h1 := Int.emod_nonneg n (show (5 : Int) ≠ 0 by decide)
  have h2 := Int.emod_lt_of_pos n (show (0 : Int) < 5 by decide)
  have h3 := Int.emod_nonneg (n / 5) (show (9 : Int) ≠ 0 by decide)
  have h4 := Int.emod_lt_of_pos (n / 5) (show (0 : Int) < 9 by decide)
  rcases scl_range n with e | e | e <;> rw [e] <;> omega
end Mine
end
section
open PySem PySem.W PyProof.Rows PySem.Calls
set_option maxRecDepth 100000
set_option maxHeartbeats 8000000
namespace Mine
local macro_rules | `(tactic| walk_at "mine room") => `(tactic| first | (dsimp only; omega) | ((try simp only [depth_mark, depth_under_make, depth_under_kw, depth_in1, depth_deeper, units_deeper, units_in1, units_under_make]); (try dsimp only); omega))
local macro_rules | `(tactic| walk_at "mine one") => `(tactic| (first | (k_unfold; (try dsimp only)) | (k_end; wrow_close) | walk1 | (dsimp only; walk1) | (leave1; walk_say "STEP leave1"; try dsimp only) | (dsimp only; k_unfold; (try dsimp only)) | (dsimp only [StepO]; k_unfold; (try dsimp only)) | fail "no step"))
local macro_rules | `(tactic| walk_at "mine enter") => `(tactic| (refine' enter ?k1 ?k2 ?k3 ?k4 ?k5 ?kd ?k6 ?k7 ?k8 ?k9 ?_ ?c2 ?c3 ?c4 ?c5; (case k1 => assumption); (case k2 => assumption); (case k3 => assumption); (case k4 => assumption); (case k5 => assumption); (case kd => omega); (case k6 => k_is); (case k7 => k_is); (case k8 => first | exact BindsTo.of_eq rfl | exact binds_K (Frag.In.keeps (by assumption) (Kept.keep (by assumption))) rfl (by k_is) rfl rfl rfl | exact binds_K (by k_in) rfl (by k_is) rfl rfl rfl); (case c5 => decide); (case k9 => exact locs rfl); (case c2 => exact rfl); (case c3 => exact rfl); (case c4 => exact rfl); k_whole; intro L' h' F' N' K'; (try dsimp only); (try k_fold)))
local macro_rules | `(tactic| walk_at "mine wr") => `(tactic| ((repeat (refine List.forall_mem_cons.mpr ⟨?_, ?_⟩; (· k_mem))); exact List.forall_mem_nil _))
local macro_rules | `(tactic| walk_at "mine split") => `(tactic| (repeat' (first | exact Split.nil | (refine' Split.keep ?a ?_; (case a => k_all)) | refine' Split.drop ?_)))
local macro_rules | `(tactic| walk_at "mine con") => `(tactic| ((case kB => assumption); (case kF => k_asm); (case kX => assumption); (case kT => assumption); (case kN => k_asm); (case kf => exact rfl); (case kk => exact rfl); (case kw => walk_at "mine wr"); (case ks => walk_at "mine split"); (case kd => walk_at "mine room"); (case ku => walk_at "mine room")))
local macro_rules | `(tactic| walk_at "mine conE") => `(tactic| ((case kB => assumption); (case kF => k_asm); (case kX => assumption); (case kT => assumption); (case kN => k_asm); (case kf => exact rfl); (case kk => exact rfl); (case kw => walk_at "mine wr"); (case ks => walk_at "mine split"); (case kd => walk_at "mine room"); (case ku => walk_at "mine room")))
local macro_rules | `(tactic| k_room) => `(tactic| ((try simp only [depth_mark, depth_under_make, depth_under_kw, depth_in1, depth_deeper, depth_caller]); (try dsimp only); omega))
local macro_rules | `(tactic| walk_at "mine map") => `(tactic| (refine' map_off _ ?hs ?a; (case a => (intro y hy; (have nn : ∀ z, _ = true → y ≠ z := fun z hz e => by subst e; exact absurd (hz.symm.trans hy) (by decide)); (try dsimp only); (repeat rw [if_neg (nn _ (by decide))]); first | done | exact rfl)); (case hs => decide)))
local macro_rules | `(tactic| walk_at "mine oneD") => `(tactic| (first | (k_unfold; (try dsimp only)) | (k_end; wrow_close) | (walk1; (try dsimp only [List.cons_append, List.nil_append])) | (dsimp only; walk1) | (leave1; walk_say "STEP leave1"; try dsimp only) | (dsimp only; k_unfold; (try dsimp only)) | (dsimp only [StepO]; k_unfold; (try dsimp only)) | fail "no step"))
theorem size_uint_var {w : World} {mean : ExcName → Option Value} {mg mb : Str → Option Value} {v FS : Int} {t1 : Tok} (h1 : v < 4611686018427387904) (hF : ((2 ^ vidx v : Nat) : Int) = FS) :
    Con w mean mg mb 5 204 [.int v t1] [] [] (fun r news' => (∃ t, r = .int FS t) ∧ news' = []) := by
  subst hF
  intro dp un gd l base g s R B X T Kp N hdp hun ret
  w_on
  have split : (v ≤ 63 ∧ vidx v = 0) ∨ (¬ v ≤ 63 ∧ v ≤ 16383 ∧ vidx v = 1) ∨ (¬ v ≤ 63 ∧ ¬ v ≤ 16383 ∧ v ≤ 1073741823 ∧ vidx v = 2) ∨ (¬ v ≤ 63 ∧ ¬ v ≤ 16383 ∧ ¬ v ≤ 1073741823 ∧ vidx v = 3) := by
    unfold vidx
    by_cases c1 : v ≤ 63
    · exact .inl ⟨c1, by rw [if_pos c1]⟩
    · by_cases c2 : v ≤ 16383
      · exact .inr (.inl ⟨c1, c2, by rw [if_neg c1, if_pos c2]⟩)
      · by_cases c3 : v ≤ 1073741823
        · exact .inr (.inr (.inl ⟨c1, c2, c3, by rw [if_neg c1, if_neg c2, if_pos c3]⟩))
        · exact .inr (.inr (.inr ⟨c1, c2, c3, by rw [if_neg c1, if_neg c2, if_neg c3]⟩))
  rcases split with ⟨c1, e⟩ | ⟨c1, c2, e⟩ | ⟨c1, c2, c3, e⟩ | ⟨c1, c2, c3, e⟩ <;> rw [e] at ret
  all_goals
    walk_at "mine enter"
    repeat' walk_at "mine one"
    (with_reducible rename Fr _ _ _ _ => F1)
    (with_reducible rename News _ _ _ _ => N1)
    exact ret _ _ _ _ ⟨⟨_, rfl⟩, rfl⟩ (Kept.of_fr F1) (Led.of_news N1)
theorem len_base {prog : Program} {w : World} {A : Around} {E : Value → Shared → Prop} {s : Shared} {h₀ : Heap} {L l : Addr} {m : Str → Option Value} {rs : List RG} {Q : Value → Shared → Prop} (F : Fr h₀ L s.heap m) (hl : h₀.IsList l (refsOf rs).toArray) (hz : rs.length ≤ 1000000)
    (h : ∀ t k, Q (.int (rs.length : Int) t) { s with toks := k }) : wpAny (model prog w) A (call (.builtin "len") [.ref l]) Q E s := by
  have e : (((refsOf rs).toArray.size : Nat) : Int) = (rs.length : Int) := by simp
  refine call_len_list (hl.at (F.keep l)) (by rw [e]; omega) ?_
  rw [e]; exact h _ _
theorem item_base {prog : Program} {w : World} {A : Around} {E : Value → Shared → Prop} {s : Shared} {h₀ : Heap} {L l : Addr} {m : Str → Option Value} {rs : List RG} {Q : Value → Shared → Prop} {value slice : PySem.Expr} {i : Int} {u : Tok} {y : RG} (F : Fr h₀ L s.heap m) (hl : h₀.IsList l (refsOf rs).toArray)
    (h0 : 0 ≤ i) (h1 : i < 1000000) (hy : rs[i.toNat]? = some y) (h : Q (.ref y.r) s)
    (hs : subscripted slice false (.ref l) (.int i u) = operate [.ref l, .int i u] (getItem (.ref l) (.int i u)) := by with_unfolding_all rfl) : wpAny (model prog w) A (subscriptTail value slice (.ref l) (.int i u)) Q E s :=
  tail_any (hl.at (F.keep l)).typeIs slot_list_getitem.lookup (wpAny_getItem_list (hl.at (F.keep l)) h0 (by omega) (by simp [hy]) h) hs
local macro_rules | `(tactic| walk_at "call builtin:len") => `(tactic| (k_here; (with_reducible show wpAny _ _ (call (Value.builtin "len") [Value.ref _]) _ _ _); (refine' len_base ?F ?hl ?hz ?_; (case F => k_asm); (case hl => assumption); (case hz => omega); intro _ _; (try dsimp only))))
local macro_rules | `(tactic| walk_at "subscriptTail") => `(tactic| (k_here; (with_reducible show wpAny _ _ (subscriptTail _ _ (Value.ref _) (Value.int _ _)) _ _ _); (refine' item_base ?F ?hl ?h0 ?h1 ?hy ?_; (case F => k_asm); (case hl => assumption); (case h0 => omega); (case h1 => omega); (case hy => assumption); k_whole)))
local macro_rules | `(tactic| k_inst) => `(tactic| (refine' Mine.InstAt.of_base ?F ?h1 ?h2; (case F => k_asm); (case h1 => assumption); (case h2 => assumption)))
theorem rs_len {w : World} {mean : ExcName → Option Value} {mg mb : Str → Option Value} {xr dr lr : Addr} {tr : Tok} {rs : List RG} {nl : Nat} (hlen : rs.length ≤ 1000000) :
    ConE w mean mg mb 5 326 [.ref xr] [] (rsL w.params xr dr lr rs nl tr) [] (fun r news' => (∃ t, r = .int (rs.length : Int) t) ∧ news' = []) (fun _ => False) := by
  intro dp un gd ll base g s R B X T Kp N hrd hdp hun ret fail
  w_on
  have hgx : g.get? xr = some (instObj 329 dr) := hrd _ (.head _)
  have hgd : g.get? dr = some (rsD w.params lr tr) := hrd _ (.tail _ (.head _))
  have hgl : g.IsList lr (refsOf rs).toArray := ⟨_, hrd (lr, listOf (refsOf rs).toArray nl) (.tail _ (.tail _ (.head _))), rfl, _, rfl⟩
  walk_at "mine enter"
  repeat' walk_at "mine one"
  (with_reducible rename Fr _ _ _ _ => F1)
  (with_reducible rename News _ _ _ _ => N1)
  exact ret _ _ _ _ ⟨by first | exact ⟨_, rfl⟩ | rfl, rfl⟩ (Kept.of_fr F1) (Led.of_news N1)
theorem rs_item {w : World} {mean : ExcName → Option Value} {mg mb : Str → Option Value} {xr dr lr : Addr} {ti tr : Tok} {rs : List RG} {nl : Nat} {i : Int} {y : RG} (hi : 0 ≤ i) (hi2 : i < 1000000) (hy : rs[i.toNat]? = some y) :
    ConE w mean mg mb 5 312 [.ref xr, .int i ti] [] (rsL w.params xr dr lr rs nl tr) [] (fun r news' => r = .ref y.r ∧ news' = []) (fun _ => False) := by
  intro dp un gd ll base g s R B X T Kp N hrd hdp hun ret fail
  w_on
  have hgx : g.get? xr = some (instObj 329 dr) := hrd _ (.head _)
  have hgd : g.get? dr = some (rsD w.params lr tr) := hrd _ (.tail _ (.head _))
  have hgl : g.IsList lr (refsOf rs).toArray := ⟨_, hrd (lr, listOf (refsOf rs).toArray nl) (.tail _ (.tail _ (.head _))), rfl, _, rfl⟩
  walk_at "mine enter"
  repeat' walk_at "mine one"
  (with_reducible rename Fr _ _ _ _ => F1)
  (with_reducible rename News _ _ _ _ => N1)
  exact ret _ _ _ _ ⟨by first | exact ⟨_, rfl⟩ | rfl, rfl⟩ (Kept.of_fr F1) (Led.of_news N1)
end Mine
end
section
open PySem PySem.W PyProof.Rows PySem.Calls
set_option maxRecDepth 100000
set_option maxHeartbeats 8000000
namespace Mine
def JoinPost (h₀ : Heap) (L : Addr) (s : Shared) (J : (Str → Option Value) → List (Addr × Obj) → Prop) (f : Flow) (s' : Shared) : Prop :=
  f = .next ∧ ∃ h' tk m' news', s' = { s with heap := h', toks := tk } ∧ Fr h₀ L h' m' ∧ News h₀ L h' news' ∧ J m' news'
theorem JoinPost.intro {h₀ h' : Heap} {L : Addr} {s : Shared} {J : (Str → Option Value) → List (Addr × Obj) → Prop} {tk : Nat} {m' : Str → Option Value} {news' : List (Addr × Obj)} (F : Fr h₀ L h' m') (N : News h₀ L h' news') (j : J m' news') :
    JoinPost h₀ L s J .next { s with heap := h', toks := tk } := ⟨rfl, h', tk, m', news', rfl, F, N, j⟩
theorem exec_join {M : Model} {A : Around} {E : Value → Shared → Prop} {s : Shared} {env : Env} {h₀ : Heap} {L : Addr} {st : Stmt} {Q : Flow → Shared → Prop} {m : Str → Option Value} (_F : Fr h₀ L s.heap m) (J : (Str → Option Value) → List (Addr × Obj) → Prop)
    (h1 : wpAny M A (exec st env) (JoinPost h₀ L s J) E s)
    (h2 : ∀ h' tk m' news', Fr h₀ L h' m' → News h₀ L h' news' → J m' news' → Q .next { s with heap := h', toks := tk }) : wpAny M A (exec st env) Q E s :=
  wpAny_mono h1 (fun f s' ⟨e, h', tk, m', news', e', F, N, j⟩ => by subst e; subst e'; exact h2 h' tk m' news' F N j) fun _ _ e => e
theorem buf_get {g h : Heap} {L : Addr} {p1 p2 : Addr × Obj} {o : Addr} {p q : List UInt8} {r : List (Addr × Obj)} (_ : News g L h (p1 :: p2 :: (o, BA.baObj (p ++ q).toArray) :: r)) : ∃ p' q', p' = p ∧ q' = q := ⟨p, q, rfl, rfl⟩
theorem WhileStep2.go {h₀ h' : Heap} {L : Addr} {s : Shared} {J : Nat → (Str → Option Value) → List (Addr × Obj) → Prop} {Q : Flow → Shared → Prop} {n n' tk : Nat} {m₂ : Str → Option Value} {news₂ : List (Addr × Obj)}
    (F : Fr h₀ L h' m₂) (N : News h₀ L h' news₂) (hn : n' < n) (hJ : J n' m₂ news₂) : WhileStep2 h₀ L s J Q n .next { s with heap := h', toks := tk } := ⟨h', tk, m₂, news₂, n', rfl, F, N, hn, hJ⟩
theorem push_uint_var2 {w : World} {mean : ExcName → Option Value} {mg mb : Str → Option Value} {x d o : Addr} {t1 t2 t3 t4 : Tok} {pre old : List UInt8} {v : Int} (h0 : 0 ≤ v) (h1 : v < 4611686018427387904) (hv : (venc v).length ≤ old.length) (hz : pre.length + old.length ≤ 100000) :
    Con w mean mg mb 10 190 [.ref x, .int v t4] [] (bufL w.params x d o (pre ++ old) pre.length t1 t2 t3)
      (fun r news' => r = .none ∧ ∃ o' t3' old' pre', old' = old.drop (venc v).length ∧ old'.length + (venc v).length = old.length ∧ pre' = pre ++ venc v ∧ pre'.length = pre.length + (venc v).length ∧ news' = bufL w.params x d o' (pre' ++ old') pre'.length t1 t2 t3') := by
  intro dp un gd l base g s R B X T Kp N hdp hun ret
  refine push_uint_var h0 h1 hv hz dp un gd l base g s R B X T Kp N hdp hun (fun v' news' h' tk hp => ret v' news' h' tk ?_)
  obtain ⟨hr, o', t3', hn⟩ := hp
  refine ⟨hr, o', t3', _, _, rfl, by rw [List.length_drop]; omega, rfl, by rw [List.length_append], ?_⟩
  rw [hn]
  simp only [List.length_append, Int.natCast_add]
local macro_rules | `(tactic| walk_at "mine room") => `(tactic| first | (dsimp only; omega) | ((try simp only [depth_mark, depth_under_make, depth_under_kw, depth_in1, depth_deeper, units_deeper, units_in1, units_under_make]); (try dsimp only); omega))
local macro_rules | `(tactic| walk_at "mine one") => `(tactic| (first | (k_unfold; (try dsimp only)) | (k_end; wrow_close) | walk1 | (dsimp only; walk1) | (leave1; walk_say "STEP leave1"; try dsimp only) | (dsimp only; k_unfold; (try dsimp only)) | (dsimp only [StepO]; k_unfold; (try dsimp only)) | fail "no step"))
local macro_rules | `(tactic| walk_at "mine enter") => `(tactic| (refine' enter ?k1 ?k2 ?k3 ?k4 ?k5 ?kd ?k6 ?k7 ?k8 ?k9 ?_ ?c2 ?c3 ?c4 ?c5; (case k1 => assumption); (case k2 => assumption); (case k3 => assumption); (case k4 => assumption); (case k5 => assumption); (case kd => omega); (case k6 => k_is); (case k7 => k_is); (case k8 => first | exact BindsTo.of_eq rfl | exact binds_K (Frag.In.keeps (by assumption) (Kept.keep (by assumption))) rfl (by k_is) rfl rfl rfl | exact binds_K (by k_in) rfl (by k_is) rfl rfl rfl); (case c5 => decide); (case k9 => exact locs rfl); (case c2 => exact rfl); (case c3 => exact rfl); (case c4 => exact rfl); k_whole; intro L' h' F' N' K'; (try dsimp only); (try k_fold)))
local macro_rules | `(tactic| walk_at "mine wr") => `(tactic| ((repeat (refine List.forall_mem_cons.mpr ⟨?_, ?_⟩; (· k_mem))); exact List.forall_mem_nil _))
local macro_rules | `(tactic| walk_at "mine split") => `(tactic| (repeat' (first | exact Split.nil | (refine' Split.keep ?a ?_; (case a => k_all)) | refine' Split.drop ?_)))
local macro_rules | `(tactic| walk_at "mine con") => `(tactic| ((case kB => assumption); (case kF => k_asm); (case kX => assumption); (case kT => assumption); (case kN => k_asm); (case kf => exact rfl); (case kk => exact rfl); (case kw => walk_at "mine wr"); (case ks => walk_at "mine split"); (case kd => walk_at "mine room"); (case ku => walk_at "mine room")))
local macro_rules | `(tactic| walk_at "mine conE") => `(tactic| ((case kB => assumption); (case kF => k_asm); (case kX => assumption); (case kT => assumption); (case kN => k_asm); (case kf => exact rfl); (case kk => exact rfl); (case kw => walk_at "mine wr"); (case ks => walk_at "mine split"); (case kd => walk_at "mine room"); (case ku => walk_at "mine room")))
local macro_rules | `(tactic| k_room) => `(tactic| ((try simp only [depth_mark, depth_under_make, depth_under_kw, depth_in1, depth_deeper, depth_caller]); (try dsimp only); omega))
local macro_rules | `(tactic| walk_at "mine map") => `(tactic| (refine' map_off _ ?hs ?a; (case a => (intro y hy; (have nn : ∀ z, _ = true → y ≠ z := fun z hz e => by subst e; exact absurd (hz.symm.trans hy) (by decide)); (try dsimp only); (repeat rw [if_neg (nn _ (by decide))]); first | done | exact rfl)); (case hs => decide)))
local macro_rules | `(tactic| walk_at "mine oneD") => `(tactic| (first | (k_unfold; (try dsimp only)) | (k_end; wrow_close) | (walk1; (try dsimp only [List.cons_append, List.nil_append])) | (dsimp only; walk1) | (leave1; walk_say "STEP leave1"; try dsimp only) | (dsimp only; k_unfold; (try dsimp only)) | (dsimp only [StepO]; k_unfold; (try dsimp only)) | fail "no step"))
local macro_rules | `(tactic| walk_at "mine size") => `(tactic| ((try simp only [Array.size_append]); refine Nat.le_trans (by first | exact Nat.add_le_add (Nat.add_le_add (KBc.size_picked_le _ _ _) (Nat.le_refl _)) (KBc.size_picked_le _ _ _) | exact Nat.add_le_add (KBc.size_picked_le _ _ _) (Nat.le_refl _) | exact KBc.size_picked_le _ _ _) ?_; simp only [List.size_toArray, List.length_append]; omega))
local macro_rules | `(tactic| walk_at "call builtin:len") => `(tactic| (k_here; (with_reducible show wpAny _ _ (call (Value.builtin "len") [Value.ref _]) _ _ _); (with_reducible rename News _ _ _ _ => N'); (first | (refine' len_app ?ba ?hz ?_; (case ba => exact led_ba N' (by k_mem)); (case hz => omega); k_whole) | (refine' len_bs ?ba ?hz ?_; (case ba => exact led_ba N' (by k_mem)); (case hz => omega); k_whole))))
local macro_rules | `(tactic| walk_at "subscriptTail") => `(tactic| (k_here; (with_reducible show wpAny _ _ (subscriptTail _ (Expr.Slice _ _ none _) (Value.ref _) (Value.ref _)) _ _ _); (with_reducible rename Fr _ _ _ _ => F'); (with_reducible rename News _ _ _ _ => N'); (refine' BA.slice_N (s := ⟨_, _, _, _, _⟩) F' N' ?ba (by constructor) (by constructor) ?hz ?_; (case ba => exact led_ba N' (by k_mem)); (case hz => walk_at "mine size"); intro h' x' F' N' l1; (try k_lt l1); (try k_sweep); (try dsimp only))))
local macro_rules | `(tactic| walk_at "binaryOp Add") => `(tactic| (k_here; (with_reducible show wpAny _ _ (binaryOp _ (Value.ref _) (Value.bytes _ _)) _ _ _); (with_reducible rename Fr _ _ _ _ => F'); (with_reducible rename News _ _ _ _ => N'); (refine' BA.add_b F' N' ?ba ?hz ?_; (case ba => exact led_ba N' (by k_mem)); (case hz => walk_at "mine size"); intro h' x' F' N' l1; (try k_lt l1); (try k_sweep); (try dsimp only))))
local macro_rules | `(tactic| walk_at "binaryOp Add") => `(tactic| (k_here; (with_reducible show wpAny _ _ (binaryOp _ (Value.ref _) (Value.ref _)) _ _ _); (with_reducible rename Fr _ _ _ _ => F'); (with_reducible rename News _ _ _ _ => N'); (refine' BA.add_ba F' N' ?ba ?bb ?hz ?_; (case ba => exact led_ba N' (by k_mem)); (case bb => exact led_ba N' (by k_mem)); (case hz => walk_at "mine size"); intro h' x' F' N' l1; (try k_lt l1); (try k_sweep); (try dsimp only))))
local macro_rules | `(tactic| walk_at "call type:bytes") => `(tactic| (k_here; (with_reducible show wpAny _ _ (call (Value.type "bytes") [Value.ref _]) _ _ _); (with_reducible rename News _ _ _ _ => N'); (refine' BA.bytes_of ?ba ?hz ?_; (case ba => exact led_ba N' (by k_mem)); (case hz => walk_at "mine size"); intro _ _; (try dsimp only))))
local macro_rules | `(tactic| k_inst) => `(tactic| (refine' Mine.InstAt.of_base ?F ?h1 ?h2; (case F => k_asm); (case h1 => assumption); (case h2 => assumption)))
local macro_rules | `(tactic| walk_at "mine dis") => `(tactic| (repeat' (first | exact List.forall_mem_nil _ | refine List.forall_mem_cons.mpr ⟨?_, ?_⟩ | (refine Or.inr (cls_ne ?_); (simp; done)) | (refine Or.inr (key_ne ?_); exact rfl) | (refine Or.inr (it_ne (by assumption) ?_); (simp; done)) | (refine Or.inr (it_ne' (by assumption) ?_); (simp; done)) | exact .inl (by k_ne))))
local macro_rules | `(tactic| walk_at "mine split2") => `(tactic| (repeat' (first | with_reducible exact Split2.nil | with_reducible exact Split2.tail rows_off_buf | with_reducible exact Split2.tail rows_off_rs | (with_reducible refine' Split2.drop2 ?h ?_; (case h => with_reducible k_mem)) | (refine' Split2.keep ?a ?_; (case a => walk_at "mine dis")) | refine' Split2.drop ?_ | exact Split2.nil)))
local macro_rules | `(tactic| walk_at "mine conF") => `(tactic| ((case kB => assumption); (case kF => k_asm); (case kX => assumption); (case kT => assumption); (case kN => k_asm); (case kf => exact rfl); (case kk => exact rfl); (case kw => walk_at "mine wr"); (case ks => walk_at "mine split2"); (case kr => walk_at "mine rd"); (case kd => walk_at "mine room"); (case ku => walk_at "mine room")))
local macro_rules | `(tactic| walk_at "mine rd") => `(tactic| first | exact List.forall_mem_nil _ | (refine fun p hp => Or.inl ?_; simp only [List.mem_cons, List.mem_append, rowsL_cons, List.not_mem_nil, or_false, List.append_assoc] at hp ⊢; (repeat' (refine Or.elim hp ?_ ?_ <;> clear hp <;> intro hp)); all_goals (first | walk_at "mine or" | (subst hp; simp; done))))
local macro_rules | `(tactic| walk_at "exec For Name Call cons nil") => `(tactic| (k_here; (rename Fr _ _ _ _ => lF'); (with_unfolding_all refine' For_turns lF' ?_; k_whole)))
local macro_rules | `(tactic| walk_at "exec For Name Name cons nil") => `(tactic| (k_here; (rename Fr _ _ _ _ => lF'); (with_unfolding_all refine' For_turns lF' ?_; k_whole)))
local macro_rules | `(tactic| walk_at "exec For Tuple Call cons nil") => `(tactic| (k_here; (rename Fr _ _ _ _ => lF'); (with_unfolding_all refine' For_turns lF' ?_; k_whole)))
local macro_rules | `(tactic| walk_at "exec For Tuple Subscript cons nil") => `(tactic| (k_here; (rename Fr _ _ _ _ => lF'); (with_unfolding_all refine' For_turns lF' ?_; k_whole)))
local macro_rules | `(tactic| walk_at "call type:enumerate") => `(tactic| (k_here; (with_reducible show wpAny _ _ (call (Value.type _) [Value.ref _]) (fun xv s₁ => wpAny _ _ (pyIter xv) (fun it s₂ => TurnsAt _ _ _ _ _ _ _ _ _ it s₂) _ s₁) _ _); refine halt ?_))
local macro_rules | `(tactic| walk_at "pyIter ref") => `(tactic| (k_here; (with_reducible show wpAny _ _ (pyIter (Value.ref _)) (fun it s₂ => TurnsAt _ _ _ _ _ _ _ _ _ it s₂) _ _); refine halt ?_))
local macro_rules | `(tactic| walk_at "pyIter ref") => `(tactic| (k_here; (with_reducible show wpAny _ _ (pyIter (Value.ref _)) (fun it s₂ => TurnsAt _ _ _ _ _ _ _ _ _ it s₂) _ _); k_dflt (refine' iter_nil ?h ?F ?N ?X ?e ?_; (case h => exact rfl); (case F => k_asm); (case N => k_asm); (case X => k_asm); (case e => k_is); intro h' tk' F' N'; (try k_sweep); (try dsimp only))))
local macro_rules | `(tactic| walk_at "mine or") => `(tactic| first | with_reducible assumption | (with_reducible exact Or.inl (by with_reducible assumption)) | (refine Or.inr ?_; walk_at "mine or"))
local macro_rules | `(tactic| walk_at "mine sub") => `(tactic| (intro p hp; simp only [List.mem_cons, List.mem_append, rowsL_cons, List.not_mem_nil, or_false, List.append_assoc] at hp ⊢; (repeat' (refine Or.elim hp ?_ ?_ <;> clear hp <;> intro hp)); all_goals (first | walk_at "mine or" | (subst hp; simp; done))))
local macro_rules | `(tactic| walk_at "mine rdb") => `(tactic| (refine fun p hp => Or.inr ?_; exact (by assumption : ∀ p ∈ rsL _ _ _ _ _ _ _, Heap.get? _ p.1 = some p.2) p hp))
local macro_rules | `(tactic| walk_at "mine conB") => `(tactic| ((case kB => assumption); (case kF => k_asm); (case kX => assumption); (case kT => assumption); (case kN => k_asm); (case kf => exact rfl); (case kk => exact rfl); (case kw => walk_at "mine wr"); (case ks => walk_at "mine split2"); (case kr => walk_at "mine rdb"); (case kd => walk_at "mine room"); (case ku => walk_at "mine room")))
local macro_rules | `(tactic| walk_at "call ref") => `(tactic| (k_here; (k_dflt (show wpAny _ _ (call (Value.ref 326) [Value.ref _]) _ _ _)); k_dflt (refine' ConE.call2 (rs_len ?hz) ?kB ?kF ?kX ?kT ?kN ?kf ?kk ?kw ?ks ?kr ?kd ?ku ?_ ?_; walk_at "mine conB"; (case hz => omega); (rotate_left; (focus (intro e' t' cls' vs' g₂' h' tk' hp' R' F' U'; exact hp'.elim)); (intro v' news' h' tk' hp' F' N'; obtain ⟨⟨t', hv'⟩, hn'⟩ := hp'; subst hv'; subst hn'; dsimp only [List.nil_append] at N'; (try k_sweep); (try dsimp only [PySem.W.LenBack]); (try (refine ⟨⟨by omega, by omega⟩, ?_⟩)); (try dsimp only))))))
local macro_rules | `(tactic| walk_at "call ref") => `(tactic| (k_here; (k_dflt (show wpAny _ _ (call (Value.ref 312) [Value.ref _, Value.int _ _]) _ _ _)); k_dflt (refine' ConE.call2 (rs_item ?h0 ?h1 ?hy) ?kB ?kF ?kX ?kT ?kN ?kf ?kk ?kw ?ks ?kr ?kd ?ku ?_ ?_; walk_at "mine conB"; (case h0 => omega); (case h1 => omega); (case hy => assumption); (rotate_left; (focus (intro e' t' cls' vs' g₂' h' tk' hp' R' F' U'; exact hp'.elim)); (intro v' news' h' tk' hp' F' N'; obtain ⟨hv', hn'⟩ := hp'; subst hv'; subst hn'; dsimp only [List.nil_append] at N'; (try k_sweep); (try dsimp only))))))
local macro_rules | `(tactic| walk_at "call ref") => `(tactic| (k_here; (k_dflt (show wpAny _ _ (call (Value.ref 204) [Value.int _ _]) _ _ _)); k_dflt (refine' Con.call (size_uint_var ?h1 ?hF) ?kB ?kF ?kX ?kT ?kN ?kf ?kk ?kw ?ks ?kd ?ku ?_; walk_at "mine con"; (case h1 => omega); (case hF => assumption); intro v' news' h' tk' hp' F' N'; obtain ⟨⟨t', hv'⟩, hn'⟩ := hp'; subst hv'; subst hn'; dsimp only [List.nil_append] at N'; (try k_sweep); (try dsimp only))))
local macro_rules | `(tactic| walk_at "call ref") => `(tactic| (k_here; (k_dflt (show wpAny _ _ (call (Value.ref 190) [Value.ref _, Value.int _ _]) _ _ _)); k_dflt (refine' Con.call (push_uint_var2 ?h0 ?h1 ?hv ?hz) ?kB ?kF ?kX ?kT ?kN ?kf ?kk ?kw ?ks ?kd ?ku ?_; walk_at "mine con"; (case h0 => omega); (case h1 => omega); (case hv => omega); (case hz => omega); intro v' news' h' tk' hp' F' N'; obtain ⟨hv', o', t3', old', pre', ho', hol', hp', hpl', hn'⟩ := hp'; subst hv'; subst hn'; dsimp only [bufL, List.cons_append, List.nil_append] at N'; (try k_sweep); (try dsimp only))))
local macro_rules | `(tactic| walk_at "execs cons") => `(tactic| (k_here; (k_dflt (show wpAny _ _ (execs (Stmt.If _ _ _ _ :: Stmt.Assign _ _ _ :: _) _) _ _ _)); refine halt ?_))
local macro_rules | `(tactic| walk_at "exec While Compare cons nil") => `(tactic| (k_here; (with_reducible show wpAny _ _ (exec (Stmt.While _ _ _ _) _) _ _ _); refine halt ?_))
theorem take_last {rs : List RG} {i : Nat} (h0 : 0 < i) (h1 : i ≤ rs.length) : ∃ y, rs[i - 1]? = some y ∧ y ∈ rs ∧ (pairsOf (rs.take i)).reverse = (y.a, y.b) :: (pairsOf (rs.take (i - 1))).reverse := by
  obtain ⟨j, rfl⟩ : ∃ j, i = j + 1 := ⟨i - 1, by omega⟩
  have hj : j < rs.length := h1
  refine ⟨rs[j], by simp, List.getElem_mem hj, ?_⟩
  rw [Nat.add_sub_cancel, pairsOf, List.take_succ_eq_append_getElem hj, List.map_append, List.reverse_append]
  rfl
theorem push_ack_frame {w : World} {mean : ExcName → Option Value} {mg mb : Str → Option Value} {x d o xr dr lr : Addr} {t1 t2 t3 td tc tr : Tok} {nl : Nat} {pre old : List UInt8} {rs : List RG} {delay cap a b : Int} {xs : List (Int × Int)}
    (hxs : (pairsOf rs).reverse = (a, b) :: xs) (hok : OkR ((a, b) :: xs)) (hd0 : 0 ≤ delay) (hd1 : delay < 4611686018427387904) (hc0 : 32 ≤ cap) (hc1 : cap ≤ 100000) (hlen : rs.length ≤ 1000)
    (hz : pre.length + old.length ≤ 100000) (hfit : (fenc delay (((a, b) :: xs).take (cntOf rs.length (mx (b - 1) delay) cap))).length ≤ old.length) :
    ConE w mean mg mb 25 347 [.ref x, .ref xr, .int delay td, .int cap tc] [] (rsL w.params xr dr lr rs nl tr ++ rowsL w.params rs) (bufL w.params x d o (pre ++ old) pre.length t1 t2 t3)
      (fun r news' => ∃ o' t3' t, r = .int (cntOf rs.length (mx (b - 1) delay) cap : Nat) t ∧ ∀ e, e = fenc delay (((a, b) :: xs).take (cntOf rs.length (mx (b - 1) delay) cap)) → news' = bufL w.params x d o' (pre ++ e ++ old.drop e.length) ((pre ++ e).length : Nat) t1 t2 t3')
      (fun _ => False) := by
  intro dp un gd ll base g s R B X T Kp N hrd hdp hun ret fail
  w_on
  have hxd : @Ne Nat x d := led_ne N (.head _) (.tail _ (.head _)) (cls_ne (by simp))
  have hxo : @Ne Nat x o := led_ne N (.head _) (.tail _ (.tail _ (.head _))) (cls_ne (by simp))
  have hdo : @Ne Nat d o := led_ne N (.tail _ (.head _)) (.tail _ (.tail _ (.head _))) (cls_ne (by simp))
  have hgs : ∀ p ∈ rsL w.params xr dr lr rs nl tr, g.get? p.1 = some p.2 := fun p hp => hrd p (List.mem_append_left _ hp)
  have hgr := rows_at (P := w.params) (g := g) (rs := rs) (fun p hp => hrd p (List.mem_append_right _ hp))
  have hgx : g.get? xr = some (instObj 329 dr) := hgs _ (.head _)
  have hgd : g.get? dr = some (rsD w.params lr tr) := hgs _ (.tail _ (.head _))
  have hn0 : 0 < rs.length := by
    cases rs with
    | nil => simp at hxs
    | cons y r => exact Nat.succ_pos _
  obtain ⟨y0, hy0, hym, htk⟩ := take_last hn0 (Nat.le_refl _)
  rw [List.take_of_length_le (Nat.le_refl _), hxs] at htk
  injection htk with htk1 htk2
  injection htk1 with ha hb
  have hy0' : rs[((rs.length : Int) - 1).toNat]? = some y0 := by rw [← hy0]; congr 1; omega
  obtain ⟨hr0, hd0'⟩ := hgr y0 hym
  subst ha hb
  obtain ⟨ok1, ok2, ok3, ok4, ok5⟩ := hok
  have hfs : 1 ≤ ((2 ^ vidx (mx (y0.b - 1) delay) : Nat) : Int) ∧ ((2 ^ vidx (mx (y0.b - 1) delay) : Nat) : Int) ≤ 8 := by
    generalize mx (y0.b - 1) delay = M
    unfold vidx
    split
    · decide
    · split
      · decide
      · split <;> decide
  obtain ⟨hf1, hf8⟩ := hfs
  have hcnt : ((cntOf rs.length (mx (y0.b - 1) delay) cap : Nat) : Int) = if 2 * ((rs.length : Int) + 1) * 8 > cap then min (rs.length : Int) (cap / (2 * ((2 ^ vidx (mx (y0.b - 1) delay) : Nat) : Int)) - 1) else (rs.length : Int) := by
    have hq : 2 ≤ cap / (2 * ((2 ^ vidx (mx (y0.b - 1) delay) : Nat) : Int)) := Int.le_ediv_of_mul_le (by omega) (by omega)
    unfold cntOf
    split
    · rw [Int.toNat_of_nonneg (by omega)]
    · rfl
  generalize hfg : ((2 ^ vidx (mx (y0.b - 1) delay) : Nat) : Int) = FS at hf1 hf8 hcnt
  have hq : 2 ≤ cap / (2 * FS) := Int.le_ediv_of_mul_le (by omega) (by omega)
  have hq2 : cap / (2 * FS) ≤ cap := Int.ediv_le_self _ (by omega)
  rw [← Int.fdiv_eq_ediv_of_nonneg cap (by omega)] at hq hq2 hcnt
  have hcn1 : 1 ≤ cntOf rs.length (mx (y0.b - 1) delay) cap ∧ cntOf rs.length (mx (y0.b - 1) delay) cap ≤ rs.length := by
    split at hcnt <;> omega
  generalize hcg : cntOf rs.length (mx (y0.b - 1) delay) cap = cn at hfit ret hcnt hcn1
  obtain ⟨hcn1, hcn2⟩ := hcn1
  have hxl : xs.length = rs.length - 1 := by rw [htk2]; simp [pairsOf]
  have hfe : fenc delay (((y0.a, y0.b) :: xs).take cn) = venc (y0.b - 1) ++ venc delay ++ venc ((cn : Int) - 1) ++ venc (y0.b - 1 - y0.a) ++ fgap y0.a (xs.take (cn - 1)) := by
    obtain ⟨c', rfl⟩ : ∃ c', cn = c' + 1 := ⟨cn - 1, by omega⟩
    rw [List.take_succ_cons, Nat.add_sub_cancel]
    show venc (y0.b - 1) ++ venc delay ++ venc ((xs.take c').length : Int) ++ venc (y0.b - 1 - y0.a) ++ fgap y0.a (xs.take c') = _
    rw [List.length_take, Nat.min_eq_left (by omega)]
    congr 4
    omega
  have hfl : (venc (y0.b - 1)).length + (venc delay).length + (venc ((cn : Int) - 1)).length + (venc (y0.b - 1 - y0.a)).length + (fgap y0.a (xs.take (cn - 1))).length ≤ old.length := by
    rw [hfe] at hfit
    simp only [List.length_append] at hfit
    exact hfit
  walk_at "mine enter"
  repeat' walk_at "mine one"
  refine halt ?_
  (with_reducible rename Fr _ _ _ _ => F1)
  (with_reducible rename News _ _ _ _ => N1)
  obtain ⟨m₀, hm₀⟩ := fr_map F1
  refine wpAny_execs_cons ?_
  refine exec_join F1 (fun m nx => nx = bufL w.params x d o (pre ++ old) pre.length t1 t2 t3 ∧ (∃ t, m (Str.ofString "ranges") = some (.int (cn : Int) t)) ∧ ∀ y, [Str.ofString "ranges", Str.ofString "field_size"].contains y = false → m y = m₀ y) ?_ ?_
  · subst hm₀
    repeat' walk_at "mine one"
    all_goals
      (with_reducible rename Fr _ _ _ _ => F2)
      (with_reducible rename News _ _ _ _ => N2)
      refine JoinPost.intro F2 N2 ⟨rfl, ?_, fun y hy => ?_⟩
    · exact ⟨_, (if_pos rfl).trans (congrArg (fun z => some (Value.int z _)) (by split at hcnt <;> split <;> omega))⟩
    · have nn : ∀ z, [Str.ofString "ranges", Str.ofString "field_size"].contains z = true → y ≠ z := fun z hz e => by subst e; exact absurd (hz.symm.trans hy) (by decide)
      exact (if_neg (nn _ (by decide))).trans (if_neg (nn _ (by decide)))
    · exact ⟨_, (rfl : _ = some (Value.int (rs.length : Int) _)).trans (congrArg (fun z => some (Value.int z _)) (by split at hcnt <;> omega))⟩
    · rfl
  · rintro h' tk m₁ news₁ F2 N2 ⟨rfl, ⟨tc', hm1⟩, hm2⟩
    rw [trk1 (st := [Str.ofString "field_size"]) hm1 hm2] at F2
    subst hm₀
    clear F1 N1
    dsimp only [bufL] at N2
    dsimp only
    repeat' walk_at "mine one"
    (with_reducible rename Fr _ _ _ _ => F1)
    (with_reducible rename News _ _ _ _ => N1)
    obtain ⟨p4, q4, hp4, hq4⟩ := buf_get N1
    subst hp4 hq4
    have hp : p4 = pre ++ (venc (y0.b - 1) ++ venc delay ++ venc ((cn : Int) - 1) ++ venc (y0.b - 1 - y0.a)) := by subst_vars; simp only [List.append_assoc]
    have hq : q4 = old.drop (venc (y0.b - 1) ++ venc delay ++ venc ((cn : Int) - 1) ++ venc (y0.b - 1 - y0.a)).length := by
      subst_vars
      simp only [List.drop_drop, List.length_append]
    obtain ⟨m₀, hm₀⟩ := fr_map F1
    refine halt ?_
    refine While_inv2 (fun n m nx => ∃ i tI st tS e o' t3', m (Str.ofString "index") = some (.int i tI) ∧ m (Str.ofString "start") = some (.int st tS) ∧
      (∀ y, [Str.ofString "index", Str.ofString "start", Str.ofString "r"].contains y = false → m y = m₀ y) ∧
      nx = bufL w.params x d o' (pre ++ e ++ old.drop e.length) ((pre ++ e).length : Nat) t1 t2 t3' ∧ 0 ≤ i ∧ i ≤ 1000 ∧ i.toNat ≤ rs.length ∧ (n : Int) = i - ((rs.length : Int) - 1 - (cn : Int) + 1) ∧ 0 ≤ st ∧ st ≤ 4611686018427387904 ∧
      (∀ q ∈ ((pairsOf (rs.take i.toNat)).reverse).head?, q.2 < st) ∧ OkR (pairsOf (rs.take i.toNat)).reverse ∧
      e ++ fgap st (((pairsOf (rs.take i.toNat)).reverse).take n) = fenc delay (((y0.a, y0.b) :: xs).take cn)) F1 N1 (n₀ := cn - 1) ?h0 ?turn
    case h0 =>
      have hi : ((rs.length : Int) - 1).toNat = rs.length - 1 := by omega
      refine ⟨(rs.length : Int) - 1, _, y0.a, _, _, _, _, rfl, rfl, fun y _ => by rw [hm₀], by rw [hp, hq], by omega, by omega, by omega, by omega, by omega, by omega, ?_, ?_, ?_⟩
      · rw [hi, ← htk2]; exact ok4
      · rw [hi, ← htk2]; exact ok5
      · rw [hi, ← htk2, hfe]
    case turn =>
      rintro n m₁ news₁ h₁ tk₁ F2 N2 ⟨i, tI, st, tS, e, o', t3', hmi, hms, hm, rfl, hi0, hi1, hi2, hk, hst0, hst1, hhd, hokr, htot⟩
      rw [trk2 (st := [Str.ofString "r"]) hmi hms hm] at F2
      subst hm₀
      clear F1 N1
      dsimp only [bufL] at N2
      cases n with
      | zero =>
        rw [List.take_zero] at htot
        have htot' : e = fenc delay (((y0.a, y0.b) :: xs).take cn) := by rw [← htot]; simp [fgap]
        repeat' walk_at "mine one"
        (with_reducible rename Fr _ _ _ _ => F3)
        (with_reducible rename News _ _ _ _ => N3)
        exact ret _ _ _ _ ⟨_, _, _, rfl, fun e' he' => by rw [he', ← htot']⟩ (Kept.of_fr F3) (Led.of_news N3)
      | succ n =>
        obtain ⟨y, hy, hym', hyt⟩ := take_last (rs := rs) (i := i.toNat) (by omega) hi2
        have hy' : rs[(i - 1).toNat]? = some y := by rw [← hy]; congr 1; omega
        obtain ⟨hyr, hyd⟩ := hgr y hym'
        rw [hyt] at hhd hokr htot
        have hi3 : (i - 1).toNat = i.toNat - 1 := by omega
        obtain ⟨ok1', ok2', ok3', ok4', ok5'⟩ := hokr
        have hlt := hhd _ rfl
        dsimp only at hlt
        rw [List.take_succ_cons] at htot
        have htot2 : e ++ (venc (st - y.b - 1) ++ venc (y.b - y.a - 1) ++ fgap y.a ((pairsOf (rs.take (i.toNat - 1))).reverse.take n)) = fenc delay (((y0.a, y0.b) :: xs).take cn) := htot
        have hle : e.length + (venc (st - y.b - 1)).length + (venc (y.b - y.a - 1)).length ≤ old.length := by
          rw [← htot2] at hfit
          simp only [List.length_append] at hfit
          omega
        have hd : (old.drop e.length).length = old.length - e.length := List.length_drop
        have hpe : (pre ++ e).length = pre.length + e.length := List.length_append
        repeat' walk_at "mine one"
        (with_reducible rename Fr _ _ _ _ => F3)
        (with_reducible rename News _ _ _ _ => N3)
        obtain ⟨p5, q5, hp5, hq5⟩ := buf_get N3
        subst hp5 hq5
        have hp' : p5 = pre ++ (e ++ venc (st - y.b - 1) ++ venc (y.b - y.a - 1)) := by subst_vars; simp only [List.append_assoc]
        have hq' : q5 = old.drop (e ++ venc (st - y.b - 1) ++ venc (y.b - y.a - 1)).length := by
          subst_vars
          simp only [List.drop_drop, List.length_append]
        refine WhileStep2.go F3 N3 (Nat.lt_succ_self n) ⟨i - 1, _, y.a, _, e ++ venc (st - y.b - 1) ++ venc (y.b - y.a - 1), _, _, rfl, rfl, ?_, by rw [hp', hq'], by omega, by omega, by omega, by omega, by omega, by omega, ?_, ?_, ?_⟩
        · walk_at "mine map"
        · rw [hi3]; exact ok4'
        · rw [hi3]; exact ok5'
        · rw [hi3, ← htot2]; simp only [List.append_assoc]
end Mine
end
section
open PySem PySem.W PyProof.Rows PySem.Calls
set_option maxRecDepth 100000
set_option maxHeartbeats 8000000
namespace Mine
theorem vidx_cases (v : Int) : (v ≤ 63 ∧ vidx v = 0) ∨ (¬ v ≤ 63 ∧ v ≤ 16383 ∧ vidx v = 1) ∨ (¬ v ≤ 63 ∧ ¬ v ≤ 16383 ∧ v ≤ 1073741823 ∧ vidx v = 2) ∨ (¬ v ≤ 63 ∧ ¬ v ≤ 16383 ∧ ¬ v ≤ 1073741823 ∧ vidx v = 3) := by
  unfold vidx
  by_cases c1 : v ≤ 63
  · exact .inl ⟨c1, by rw [if_pos c1]⟩
  · by_cases c2 : v ≤ 16383
    · exact .inr (.inl ⟨c1, c2, by rw [if_neg c1, if_pos c2]⟩)
    · by_cases c3 : v ≤ 1073741823
      · exact .inr (.inr (.inl ⟨c1, c2, c3, by rw [if_neg c1, if_neg c2, if_pos c3]⟩))
      · exact .inr (.inr (.inr ⟨c1, c2, c3, by rw [if_neg c1, if_neg c2, if_neg c3]⟩))
/-- a number in at least 2 ** l octets -/
def vput (v : Int) (l : Nat) : List UInt8 :=
  if max (vidx v) l = 0 then beI 1 v else if max (vidx v) l = 1 then beI 2 (v + 16384) else if max (vidx v) l = 2 then beI 4 (v + 2147483648) else beI 8 (v + 13835058055282163712)
theorem vput_zero (v : Int) : vput v 0 = venc v := by
  unfold vput venc
  rw [Nat.max_eq_left (Nat.zero_le _)]
  rcases vidx_cases v with ⟨c1, e⟩ | ⟨c1, c2, e⟩ | ⟨c1, c2, c3, e⟩ | ⟨c1, c2, c3, e⟩ <;> rw [e] <;> simp [*]
theorem shl_to {prog : Program} {w : World} {A : Around} {E : Value → Shared → Prop} {s : Shared} {Q : Value → Shared → Prop} {a k : Int} {t u : Tok} (r : Int) (hr : a * 2 ^ k.toNat = r) (hk : 0 ≤ k) (hk2 : k ≤ 1000000) (ha : a.natAbs < 2 ^ 64) (h : Q (.int r s.toks) { s with toks := s.toks + 1 }) :
    wpAny (model prog w) A (binaryOp .LShift (.int a t) (.int k u)) Q E s := by
  subst hr
  exact lshift_int_small hk hk2 ha h
local macro_rules | `(tactic| walk_at "mine room") => `(tactic| first | (dsimp only; omega) | ((try simp only [depth_mark, depth_under_make, depth_under_kw, depth_in1, depth_deeper, units_deeper, units_in1, units_under_make]); (try dsimp only); omega))
local macro_rules | `(tactic| walk_at "mine one") => `(tactic| (first | (k_unfold; (try dsimp only)) | (k_end; wrow_close) | walk1 | (dsimp only; walk1) | (leave1; walk_say "STEP leave1"; try dsimp only) | (dsimp only; k_unfold; (try dsimp only)) | (dsimp only [StepO]; k_unfold; (try dsimp only)) | fail "no step"))
local macro_rules | `(tactic| walk_at "mine enter") => `(tactic| (refine' enter ?k1 ?k2 ?k3 ?k4 ?k5 ?kd ?k6 ?k7 ?k8 ?k9 ?_ ?c2 ?c3 ?c4 ?c5; (case k1 => assumption); (case k2 => assumption); (case k3 => assumption); (case k4 => assumption); (case k5 => assumption); (case kd => omega); (case k6 => k_is); (case k7 => k_is); (case k8 => first | exact BindsTo.of_eq rfl | exact binds_K (Frag.In.keeps (by assumption) (Kept.keep (by assumption))) rfl (by k_is) rfl rfl rfl | exact binds_K (by k_in) rfl (by k_is) rfl rfl rfl); (case c5 => decide); (case k9 => exact locs rfl); (case c2 => exact rfl); (case c3 => exact rfl); (case c4 => exact rfl); k_whole; intro L' h' F' N' K'; (try dsimp only); (try k_fold)))
local macro_rules | `(tactic| walk_at "mine wr") => `(tactic| ((repeat (refine List.forall_mem_cons.mpr ⟨?_, ?_⟩; (· k_mem))); exact List.forall_mem_nil _))
local macro_rules | `(tactic| walk_at "mine split") => `(tactic| (repeat' (first | exact Split.nil | (refine' Split.keep ?a ?_; (case a => k_all)) | refine' Split.drop ?_)))
local macro_rules | `(tactic| walk_at "mine con") => `(tactic| ((case kB => assumption); (case kF => k_asm); (case kX => assumption); (case kT => assumption); (case kN => k_asm); (case kf => exact rfl); (case kk => exact rfl); (case kw => walk_at "mine wr"); (case ks => walk_at "mine split"); (case kd => walk_at "mine room"); (case ku => walk_at "mine room")))
local macro_rules | `(tactic| walk_at "mine conE") => `(tactic| ((case kB => assumption); (case kF => k_asm); (case kX => assumption); (case kT => assumption); (case kN => k_asm); (case kf => exact rfl); (case kk => exact rfl); (case kw => walk_at "mine wr"); (case ks => walk_at "mine split"); (case kd => walk_at "mine room"); (case ku => walk_at "mine room")))
local macro_rules | `(tactic| k_room) => `(tactic| ((try simp only [depth_mark, depth_under_make, depth_under_kw, depth_in1, depth_deeper, depth_caller]); (try dsimp only); omega))
local macro_rules | `(tactic| walk_at "mine map") => `(tactic| (refine' map_off _ ?hs ?a; (case a => (intro y hy; (have nn : ∀ z, _ = true → y ≠ z := fun z hz e => by subst e; exact absurd (hz.symm.trans hy) (by decide)); (try dsimp only); (repeat rw [if_neg (nn _ (by decide))]); first | done | exact rfl)); (case hs => decide)))
local macro_rules | `(tactic| walk_at "mine oneD") => `(tactic| (first | (k_unfold; (try dsimp only)) | (k_end; wrow_close) | (walk1; (try dsimp only [List.cons_append, List.nil_append])) | (dsimp only; walk1) | (leave1; walk_say "STEP leave1"; try dsimp only) | (dsimp only; k_unfold; (try dsimp only)) | (dsimp only [StepO]; k_unfold; (try dsimp only)) | fail "no step"))
local macro_rules | `(tactic| walk_at "binaryOp LShift int int") => `(tactic| (k_here; (with_reducible show wpAny _ _ (binaryOp _ (Value.int 1 _) (Value.int _ _)) _ _ _); (first | (refine' shl_to 1 ?hr ?hk ?h2 ?ha ?_; (case hr => (simp; done)); (case hk => omega); (case h2 => omega); (case ha => decide)) | (refine' shl_to 2 ?hr ?hk ?h2 ?ha ?_; (case hr => (simp; done)); (case hk => omega); (case h2 => omega); (case ha => decide)) | (refine' shl_to 4 ?hr ?hk ?h2 ?ha ?_; (case hr => (simp; done)); (case hk => omega); (case h2 => omega); (case ha => decide)) | (refine' shl_to 8 ?hr ?hk ?h2 ?ha ?_; (case hr => (simp; done)); (case hk => omega); (case h2 => omega); (case ha => decide)) | (refine' shl_to 64 ?hr ?hk ?h2 ?ha ?_; (case hr => (simp; done)); (case hk => omega); (case h2 => omega); (case ha => decide)) | (refine' shl_to 16384 ?hr ?hk ?h2 ?ha ?_; (case hr => (simp; done)); (case hk => omega); (case h2 => omega); (case ha => decide)) | (refine' shl_to 1073741824 ?hr ?hk ?h2 ?ha ?_; (case hr => (simp; done)); (case hk => omega); (case h2 => omega); (case ha => decide)) | (refine' shl_to 4611686018427387904 ?hr ?hk ?h2 ?ha ?_; (case hr => (simp; done)); (case hk => omega); (case h2 => omega); (case ha => decide)))))
local macro_rules | `(tactic| walk_at "exec While Compare cons nil") => `(tactic| (k_here; (with_reducible show wpAny _ _ (exec (Stmt.While _ _ _ _) _) _ _ _); refine halt ?_))
theorem law_index {w : World} {mean : ExcName → Option Value} {mg mb : Str → Option Value} {v : Int} {t1 : Tok} (h0 : 0 ≤ v) (h1 : v < 4611686018427387904) :
    Con w mean mg mb 5 361 [.int v t1] [] [] (fun r news' => (∃ t, r = .int (vidx v : Nat) t) ∧ news' = []) := by
  intro dp un gd l base g s R B X T Kp N hdp hun ret
  w_on
  have hvc := (id (vidx_cases v) : Halt _)
  walk_at "mine enter"
  repeat' walk_at "mine oneD"
  (with_reducible rename Fr _ _ _ _ => F1)
  (with_reducible rename News _ _ _ _ => N1)
  obtain ⟨m₀, hm₀⟩ := fr_map F1
  refine halt ?_
  refine While_inv2 (fun n m nx => ∃ (j : Int) (tj : Tok), m (Str.ofString "index") = some (.int j tj) ∧ (∀ y, [Str.ofString "index"].contains y = false → m y = m₀ y) ∧ nx = [] ∧ 0 ≤ j ∧ j ≤ (vidx v : Nat) ∧ n = 4 - j.toNat) F1 N1 (n₀ := 4) ?h0 ?turn
  case h0 => exact ⟨0, _, rfl, fun y _ => by rw [hm₀], rfl, by omega, by omega, rfl⟩
  case turn =>
    rintro n m₁ news₁ h₁ tk₁ F2 N2 ⟨j, tj, hm1, hm2, rfl, hj0, hj1, hn⟩
    rw [trk1 (st := []) hm1 hm2] at F2
    subst hm₀
    clear F1 N1
    have hvc' := hvc
    unfold Halt at hvc'
    have hj : (j = 0 ∧ v < 64) ∨ (j = 0 ∧ 64 ≤ v) ∨ (j = 1 ∧ v < 16384) ∨ (j = 1 ∧ 16384 ≤ v) ∨ (j = 2 ∧ v < 1073741824) ∨ (j = 2 ∧ 1073741824 ≤ v) ∨ j = 3 := by omega
    clear hvc'
    rcases hj with ⟨rfl, hb⟩ | ⟨rfl, hb⟩ | ⟨rfl, hb⟩ | ⟨rfl, hb⟩ | ⟨rfl, hb⟩ | ⟨rfl, hb⟩ | rfl
    case' inr.inr.inr.inr.inr.inr => have hb : v < 4611686018427387904 := h1
    all_goals
      replace hj1 : Halt (_ ≤ ((vidx v : Nat) : Int)) := hj1
      iterate 17 (walk_at "mine oneD")
      first | rw [if_pos (decide_eq_true hb)] | rw [if_neg (by rw [decide_eq_true_eq]; omega)]
      replace hb : Halt _ := hb
      replace h1 : Halt _ := h1
      replace h0 : Halt _ := h0
      repeat' walk_at "mine oneD"
      unfold Halt at hvc hj1 hb h1 h0
      (with_reducible rename Fr _ _ _ _ => F3)
      (with_reducible rename News _ _ _ _ => N3)
      first
        | (refine WhileStep2.go F3 N3 ?_ ⟨_, _, rfl, ?_, rfl, ?_, ?_, rfl⟩
           · omega
           · walk_at "mine map"
           · omega
           · omega)
        | exact ret _ _ _ _ ⟨⟨_, congrArg (fun z => Value.int z _) (by omega)⟩, rfl⟩ (Kept.of_fr F3) (Led.of_news N3)
end Mine
end
section
open PySem PySem.W PyProof.Rows PySem.Calls
set_option maxRecDepth 100000
set_option maxHeartbeats 8000000
namespace Mine
local macro_rules | `(tactic| walk_at "mine room") => `(tactic| first | (dsimp only; omega) | ((try simp only [depth_mark, depth_under_make, depth_under_kw, depth_in1, depth_deeper, units_deeper, units_in1, units_under_make]); (try dsimp only); omega))
local macro_rules | `(tactic| walk_at "mine one") => `(tactic| (first | (k_unfold; (try dsimp only)) | (k_end; wrow_close) | walk1 | (dsimp only; walk1) | (leave1; walk_say "STEP leave1"; try dsimp only) | (dsimp only; k_unfold; (try dsimp only)) | (dsimp only [StepO]; k_unfold; (try dsimp only)) | fail "no step"))
local macro_rules | `(tactic| walk_at "mine enter") => `(tactic| (refine' enter ?k1 ?k2 ?k3 ?k4 ?k5 ?kd ?k6 ?k7 ?k8 ?k9 ?_ ?c2 ?c3 ?c4 ?c5; (case k1 => assumption); (case k2 => assumption); (case k3 => assumption); (case k4 => assumption); (case k5 => assumption); (case kd => omega); (case k6 => k_is); (case k7 => k_is); (case k8 => first | exact BindsTo.of_eq rfl | exact binds_K (Frag.In.keeps (by assumption) (Kept.keep (by assumption))) rfl (by k_is) rfl rfl rfl | exact binds_K (by k_in) rfl (by k_is) rfl rfl rfl); (case c5 => decide); (case k9 => exact locs rfl); (case c2 => exact rfl); (case c3 => exact rfl); (case c4 => exact rfl); k_whole; intro L' h' F' N' K'; (try dsimp only); (try k_fold)))
local macro_rules | `(tactic| walk_at "mine wr") => `(tactic| ((repeat (refine List.forall_mem_cons.mpr ⟨?_, ?_⟩; (· k_mem))); exact List.forall_mem_nil _))
local macro_rules | `(tactic| walk_at "mine split") => `(tactic| (repeat' (first | exact Split.nil | (refine' Split.keep ?a ?_; (case a => k_all)) | refine' Split.drop ?_)))
local macro_rules | `(tactic| walk_at "mine con") => `(tactic| ((case kB => assumption); (case kF => k_asm); (case kX => assumption); (case kT => assumption); (case kN => k_asm); (case kf => exact rfl); (case kk => exact rfl); (case kw => walk_at "mine wr"); (case ks => walk_at "mine split"); (case kd => walk_at "mine room"); (case ku => walk_at "mine room")))
local macro_rules | `(tactic| walk_at "mine conE") => `(tactic| ((case kB => assumption); (case kF => k_asm); (case kX => assumption); (case kT => assumption); (case kN => k_asm); (case kf => exact rfl); (case kk => exact rfl); (case kw => walk_at "mine wr"); (case ks => walk_at "mine split"); (case kd => walk_at "mine room"); (case ku => walk_at "mine room")))
local macro_rules | `(tactic| k_room) => `(tactic| ((try simp only [depth_mark, depth_under_make, depth_under_kw, depth_in1, depth_deeper, depth_caller]); (try dsimp only); omega))
local macro_rules | `(tactic| walk_at "mine map") => `(tactic| (refine' map_off _ ?hs ?a; (case a => (intro y hy; (have nn : ∀ z, _ = true → y ≠ z := fun z hz e => by subst e; exact absurd (hz.symm.trans hy) (by decide)); (try dsimp only); (repeat rw [if_neg (nn _ (by decide))]); first | done | exact rfl)); (case hs => decide)))
local macro_rules | `(tactic| walk_at "mine oneD") => `(tactic| (first | (k_unfold; (try dsimp only)) | (k_end; wrow_close) | (walk1; (try dsimp only [List.cons_append, List.nil_append])) | (dsimp only; walk1) | (leave1; walk_say "STEP leave1"; try dsimp only) | (dsimp only; k_unfold; (try dsimp only)) | (dsimp only [StepO]; k_unfold; (try dsimp only)) | fail "no step"))
local macro_rules | `(tactic| walk_at "call builtin:int.to_bytes") => `(tactic| (k_here; (first | (with_unfolding_all refine tobytes (B := 256) 1 (by decide) (by decide) (by omega) (by omega) ?_) | (with_unfolding_all refine tobytes (B := 65536) 2 (by decide) (by decide) (by omega) (by omega) ?_) | (with_unfolding_all refine tobytes (B := 4294967296) 4 (by decide) (by decide) (by omega) (by omega) ?_) | (with_unfolding_all refine tobytes (B := 18446744073709551616) 8 (by decide) (by decide) (by omega) (by omega) ?_)); intro _ _; (try dsimp only)))
local macro_rules | `(tactic| walk_at "binaryOp LShift int int") => `(tactic| (k_here; (with_reducible show wpAny _ _ (binaryOp _ (Value.int _ _) (Value.int _ _)) _ _ _); (first | (refine' shl_to 0 ?hr ?hk ?h2 ?ha ?_; (case hr => (simp; done)); (case hk => omega); (case h2 => omega); (case ha => decide)) | (refine' shl_to 1 ?hr ?hk ?h2 ?ha ?_; (case hr => (simp; done)); (case hk => omega); (case h2 => omega); (case ha => decide)) | (refine' shl_to 2 ?hr ?hk ?h2 ?ha ?_; (case hr => (simp; done)); (case hk => omega); (case h2 => omega); (case ha => decide)) | (refine' shl_to 4 ?hr ?hk ?h2 ?ha ?_; (case hr => (simp; done)); (case hk => omega); (case h2 => omega); (case ha => decide)) | (refine' shl_to 8 ?hr ?hk ?h2 ?ha ?_; (case hr => (simp; done)); (case hk => omega); (case h2 => omega); (case ha => decide)) | (refine' shl_to 64 ?hr ?hk ?h2 ?ha ?_; (case hr => (simp; done)); (case hk => omega); (case h2 => omega); (case ha => decide)) | (refine' shl_to 16384 ?hr ?hk ?h2 ?ha ?_; (case hr => (simp; done)); (case hk => omega); (case h2 => omega); (case ha => decide)) | (refine' shl_to 1073741824 ?hr ?hk ?h2 ?ha ?_; (case hr => (simp; done)); (case hk => omega); (case h2 => omega); (case ha => decide)) | (refine' shl_to 2147483648 ?hr ?hk ?h2 ?ha ?_; (case hr => (simp; done)); (case hk => omega); (case h2 => omega); (case ha => decide)) | (refine' shl_to 13835058055282163712 ?hr ?hk ?h2 ?ha ?_; (case hr => (simp; done)); (case hk => omega); (case h2 => omega); (case ha => decide)))))
local macro_rules | `(tactic| walk_at "call ref") => `(tactic| (k_here; (k_dflt (show wpAny _ _ (call (Value.ref 361) [Value.int _ _]) _ _ _)); k_dflt (refine' Con.call (law_index ?h0 ?h1) ?kB ?kF ?kX ?kT ?kN ?kf ?kk ?kw ?ks ?kd ?ku ?_; walk_at "mine con"; (case h0 => omega); (case h1 => omega); intro v' news' h' tk' hp' F' N'; obtain ⟨⟨t', hv'⟩, hn'⟩ := hp'; subst hv'; subst hn'; dsimp only [List.nil_append] at N'; (try k_sweep); (try dsimp only))))
theorem law_put {w : World} {mean : ExcName → Option Value} {mg mb : Str → Option Value} {v : Int} {l : Nat} {t1 t2 : Tok} (h0 : 0 ≤ v) (h1 : v < 4611686018427387904) (hl : l ≤ 3) :
    Con w mean mg mb 10 368 [.int v t1, .int (l : Nat) t2] [] [] (fun r news' => (∃ t, r = .bytes (vput v l).toArray t) ∧ news' = []) := by
  intro dp un gd ll base g s R B X T Kp N hdp hun ret
  w_on
  have hi : ∃ i : Nat, i = max (vidx v) l := ⟨_, rfl⟩
  obtain ⟨i, hi⟩ := hi
  have hv : vput v l = if i = 0 then beI 1 v else if i = 1 then beI 2 (v + 16384) else if i = 2 then beI 4 (v + 2147483648) else beI 8 (v + 13835058055282163712) := by rw [hi]; rfl
  have hv0 : i = 0 → vput v l = beI 1 (v + 0) := fun e => by rw [hv, if_pos e, Int.add_zero]
  have hv1 : i = 1 → vput v l = beI 2 (v + 16384) := fun e => by rw [hv, if_neg (by omega), if_pos e]
  have hv2 : i = 2 → vput v l = beI 4 (v + 2147483648) := fun e => by rw [hv, if_neg (by omega), if_neg (by omega), if_pos e]
  have hv3 : i = 3 → vput v l = beI 8 (v + 13835058055282163712) := fun e => by rw [hv, if_neg (by omega), if_neg (by omega), if_neg (by omega)]
  have hc := vidx_cases v
  have hi3 : (i = 0 ∧ v ≤ 63) ∨ (i = 1 ∧ v ≤ 16383) ∨ (i = 2 ∧ v ≤ 1073741823) ∨ i = 3 := by omega
  clear hc
  walk_at "mine enter"
  (with_reducible rename Fr _ _ _ _ => F1)
  (with_reducible rename News _ _ _ _ => N1)
  obtain ⟨m₀, hm₀⟩ := fr_map F1
  refine wpAny_execs_cons ?_
  refine exec_join F1 (fun m nx => nx = [] ∧ (∃ t, m (Str.ofString "index") = some (.int (i : Nat) t)) ∧ ∀ y, [Str.ofString "index"].contains y = false → m y = m₀ y) ?_ ?_
  · subst hm₀
    clear hi3 hv hv0 hv1 hv2 hv3
    repeat' walk_at "mine one"
    (with_reducible rename Fr _ _ _ _ => F2)
    (with_reducible rename News _ _ _ _ => N2)
    refine JoinPost.intro F2 N2 ⟨rfl, ⟨_, (if_pos rfl).trans (congrArg (fun z => some (Value.int z _)) ?_)⟩, fun y hy => ?_⟩
    · split <;> omega
    · have nn : ∀ z, [Str.ofString "index"].contains z = true → y ≠ z := fun z hz e => by subst e; exact absurd (hz.symm.trans hy) (by decide)
      exact if_neg (nn _ (by decide))
  · rintro h' tk m₁ news₁ F2 N2 ⟨rfl, ⟨tc', hm1⟩, hm2⟩
    rw [trk1 (st := []) hm1 hm2] at F2
    subst hm₀
    clear F1 N1 hi
    dsimp only
    rcases hi3 with ⟨rfl, hb⟩ | ⟨rfl, hb⟩ | ⟨rfl, hb⟩ | rfl
    all_goals
      first | rw [hv0 rfl] at ret | rw [hv1 rfl] at ret | rw [hv2 rfl] at ret | rw [hv3 rfl] at ret
      clear hv hv0 hv1 hv2 hv3
      repeat' walk_at "mine one"
      (with_reducible rename Fr _ _ _ _ => F3)
      (with_reducible rename News _ _ _ _ => N3)
      first
        | exact ret _ _ _ _ ⟨⟨_, rfl⟩, rfl⟩ (Kept.of_fr F3) (Led.of_news N3)
end Mine
end
section
open PySem PySem.W PyProof.Rows PySem.Calls
set_option maxRecDepth 100000
set_option maxHeartbeats 8000000
namespace Mine
section
variable {prog : Program} {w : World} {A : Around} {E : Value → Shared → Prop} {s : Shared} {Q : Value → Shared → Prop} {a b : Int} {t u : Tok}
theorem div_lit (hb : 0 < b) (hp : Builtin.divisionGoesByPylong a b = false) (h : Q (.int (a / b) s.toks) { s with toks := s.toks + 1 }) : wpAny (model prog w) A (binaryOp .FloorDiv (.int a t) (.int b u)) Q E s :=
  floordiv_int (by omega) (by rw [Int.fdiv_eq_ediv_of_nonneg a (by omega)]; exact h) (.inl hp)
theorem mod_lit (hb : 0 < b) (h : Q (.int (a % b) s.toks) { s with toks := s.toks + 1 }) : wpAny (model prog w) A (binaryOp .Mod (.int a t) (.int b u)) Q E s :=
  mod_int' (by omega) (by rw [Int.fmod_eq_emod_of_nonneg a (by omega)]; exact h)
theorem mul_b (h1 : -(2 ^ 64) < b) (h2 : b < 2 ^ 64) (h : Q (.int (a * b) s.toks) { s with toks := s.toks + 1 }) : wpAny (model prog w) A (binaryOp .Mult (.int a t) (.int b u)) Q E s :=
  PyProof.Rows.mul_int h (PySem.IntMulOk.of_right (PySem.intBits_le_64 h1 h2))
theorem menu_item {h₀ : Heap} {L l : Addr} {news : List (Addr × Obj)} {value slice : PySem.Expr} {nn z : Int} {a1 a2 a3 a4 : Tok} {k : Nat} (N : News h₀ L s.heap news) (hm : (l, listOf #[.int 1 a1, .int 1 a2, .int 20 a3, .int z a4] k) ∈ news) (hz : z = 1000000) (h : ∀ t, Q (.int (scl nn) t) s)
    (hs : subscripted slice false (.ref l) (.int (nn / 45 % 4) u) = operate [.ref l, .int (nn / 45 % 4) u] (getItem (.ref l) (.int (nn / 45 % 4) u)) := by with_unfolding_all rfl) : wpAny (model prog w) A (subscriptTail value slice (.ref l) (.int (nn / 45 % 4) u)) Q E s := by
  have hl := list_at N hm
  have h1 := Int.emod_nonneg (nn / 45) (show (4 : Int) ≠ 0 by decide)
  have h2 := Int.emod_lt_of_pos (nn / 45) (show (0 : Int) < 4 by decide)
  have hq : nn / 45 % 4 = 0 ∨ nn / 45 % 4 = 1 ∨ nn / 45 % 4 = 2 ∨ nn / 45 % 4 = 3 := by omega
  subst hz
  unfold scl at h
  rcases hq with e | e | e | e
  · exact tail_any hl.typeIs slot_list_getitem.lookup (wpAny_getItem_list hl h1 (by omega) (by rw [e]; rfl) (by simpa [e] using h a1)) hs
  · exact tail_any hl.typeIs slot_list_getitem.lookup (wpAny_getItem_list hl h1 (by omega) (by rw [e]; rfl) (by simpa [e] using h a2)) hs
  · exact tail_any hl.typeIs slot_list_getitem.lookup (wpAny_getItem_list hl h1 (by omega) (by rw [e]; rfl) (by simpa [e] using h a3)) hs
  · exact tail_any hl.typeIs slot_list_getitem.lookup (wpAny_getItem_list hl h1 (by omega) (by rw [e]; rfl) (by simpa [e] using h a4)) hs
end
local macro_rules | `(tactic| walk_at "mine room") => `(tactic| first | (dsimp only; omega) | ((try simp only [depth_mark, depth_under_make, depth_under_kw, depth_in1, depth_deeper, units_deeper, units_in1, units_under_make]); (try dsimp only); omega))
local macro_rules | `(tactic| walk_at "mine one") => `(tactic| (first | (k_unfold; (try dsimp only)) | (k_end; wrow_close) | walk1 | (dsimp only; walk1) | (leave1; walk_say "STEP leave1"; try dsimp only) | (dsimp only; k_unfold; (try dsimp only)) | (dsimp only [StepO]; k_unfold; (try dsimp only)) | fail "no step"))
local macro_rules | `(tactic| walk_at "mine enter") => `(tactic| (refine' enter ?k1 ?k2 ?k3 ?k4 ?k5 ?kd ?k6 ?k7 ?k8 ?k9 ?_ ?c2 ?c3 ?c4 ?c5; (case k1 => assumption); (case k2 => assumption); (case k3 => assumption); (case k4 => assumption); (case k5 => assumption); (case kd => omega); (case k6 => k_is); (case k7 => k_is); (case k8 => first | exact BindsTo.of_eq rfl | exact binds_K (Frag.In.keeps (by assumption) (Kept.keep (by assumption))) rfl (by k_is) rfl rfl rfl | exact binds_K (by k_in) rfl (by k_is) rfl rfl rfl); (case c5 => decide); (case k9 => exact locs rfl); (case c2 => exact rfl); (case c3 => exact rfl); (case c4 => exact rfl); k_whole; intro L' h' F' N' K'; (try dsimp only); (try k_fold)))
local macro_rules | `(tactic| walk_at "mine wr") => `(tactic| ((repeat (refine List.forall_mem_cons.mpr ⟨?_, ?_⟩; (· k_mem))); exact List.forall_mem_nil _))
local macro_rules | `(tactic| walk_at "mine split") => `(tactic| (repeat' (first | exact Split.nil | (refine' Split.keep ?a ?_; (case a => k_all)) | refine' Split.drop ?_)))
local macro_rules | `(tactic| walk_at "mine con") => `(tactic| ((case kB => assumption); (case kF => k_asm); (case kX => assumption); (case kT => assumption); (case kN => k_asm); (case kf => exact rfl); (case kk => exact rfl); (case kw => walk_at "mine wr"); (case ks => walk_at "mine split"); (case kd => walk_at "mine room"); (case ku => walk_at "mine room")))
local macro_rules | `(tactic| walk_at "mine conE") => `(tactic| ((case kB => assumption); (case kF => k_asm); (case kX => assumption); (case kT => assumption); (case kN => k_asm); (case kf => exact rfl); (case kk => exact rfl); (case kw => walk_at "mine wr"); (case ks => walk_at "mine split"); (case kd => walk_at "mine room"); (case ku => walk_at "mine room")))
local macro_rules | `(tactic| k_room) => `(tactic| ((try simp only [depth_mark, depth_under_make, depth_under_kw, depth_in1, depth_deeper, depth_caller]); (try dsimp only); omega))
local macro_rules | `(tactic| walk_at "mine map") => `(tactic| (refine' map_off _ ?hs ?a; (case a => (intro y hy; (have nn : ∀ z, _ = true → y ≠ z := fun z hz e => by subst e; exact absurd (hz.symm.trans hy) (by decide)); (try dsimp only); (repeat rw [if_neg (nn _ (by decide))]); first | done | exact rfl)); (case hs => decide)))
local macro_rules | `(tactic| walk_at "mine oneD") => `(tactic| (first | (k_unfold; (try dsimp only)) | (k_end; wrow_close) | (walk1; (try dsimp only [List.cons_append, List.nil_append])) | (dsimp only; walk1) | (leave1; walk_say "STEP leave1"; try dsimp only) | (dsimp only; k_unfold; (try dsimp only)) | (dsimp only [StepO]; k_unfold; (try dsimp only)) | fail "no step"))
local macro_rules | `(tactic| walk_at "mine size") => `(tactic| ((try simp only [Array.size_append]); refine Nat.le_trans (by first | exact Nat.add_le_add (Nat.add_le_add (KBc.size_picked_le _ _ _) (Nat.le_refl _)) (KBc.size_picked_le _ _ _) | exact Nat.add_le_add (KBc.size_picked_le _ _ _) (Nat.le_refl _) | exact KBc.size_picked_le _ _ _) ?_; simp only [List.size_toArray, List.length_append]; omega))
local macro_rules | `(tactic| walk_at "call builtin:len") => `(tactic| (k_here; (with_reducible show wpAny _ _ (call (Value.builtin "len") [Value.ref _]) _ _ _); (with_reducible rename News _ _ _ _ => N'); (first | (refine' len_app ?ba ?hz ?_; (case ba => exact led_ba N' (by k_mem)); (case hz => omega); k_whole) | (refine' len_bs ?ba ?hz ?_; (case ba => exact led_ba N' (by k_mem)); (case hz => omega); k_whole))))
local macro_rules | `(tactic| walk_at "subscriptTail") => `(tactic| (k_here; (with_reducible show wpAny _ _ (subscriptTail _ (Expr.Slice _ _ none _) (Value.ref _) (Value.ref _)) _ _ _); (with_reducible rename Fr _ _ _ _ => F'); (with_reducible rename News _ _ _ _ => N'); (refine' BA.slice_N (s := ⟨_, _, _, _, _⟩) F' N' ?ba (by constructor) (by constructor) ?hz ?_; (case ba => exact led_ba N' (by k_mem)); (case hz => walk_at "mine size"); intro h' x' F' N' l1; (try k_lt l1); (try k_sweep); (try dsimp only))))
local macro_rules | `(tactic| walk_at "binaryOp Add") => `(tactic| (k_here; (with_reducible show wpAny _ _ (binaryOp _ (Value.ref _) (Value.bytes _ _)) _ _ _); (with_reducible rename Fr _ _ _ _ => F'); (with_reducible rename News _ _ _ _ => N'); (refine' BA.add_b F' N' ?ba ?hz ?_; (case ba => exact led_ba N' (by k_mem)); (case hz => walk_at "mine size"); intro h' x' F' N' l1; (try k_lt l1); (try k_sweep); (try dsimp only))))
local macro_rules | `(tactic| walk_at "binaryOp Add") => `(tactic| (k_here; (with_reducible show wpAny _ _ (binaryOp _ (Value.ref _) (Value.ref _)) _ _ _); (with_reducible rename Fr _ _ _ _ => F'); (with_reducible rename News _ _ _ _ => N'); (refine' BA.add_ba F' N' ?ba ?bb ?hz ?_; (case ba => exact led_ba N' (by k_mem)); (case bb => exact led_ba N' (by k_mem)); (case hz => walk_at "mine size"); intro h' x' F' N' l1; (try k_lt l1); (try k_sweep); (try dsimp only))))
local macro_rules | `(tactic| walk_at "call type:bytes") => `(tactic| (k_here; (with_reducible show wpAny _ _ (call (Value.type "bytes") [Value.ref _]) _ _ _); (with_reducible rename News _ _ _ _ => N'); (refine' BA.bytes_of ?ba ?hz ?_; (case ba => exact led_ba N' (by k_mem)); (case hz => walk_at "mine size"); intro _ _; (try dsimp only))))
local macro_rules | `(tactic| k_inst) => `(tactic| (refine' Mine.InstAt.of_base ?F ?h1 ?h2; (case F => k_asm); (case h1 => assumption); (case h2 => assumption)))
local macro_rules | `(tactic| walk_at "mine dis") => `(tactic| (repeat' (first | exact List.forall_mem_nil _ | refine List.forall_mem_cons.mpr ⟨?_, ?_⟩ | (refine Or.inr (cls_ne ?_); (simp; done)) | (refine Or.inr (key_ne ?_); exact rfl) | (refine Or.inr (it_ne (by assumption) ?_); (simp; done)) | (refine Or.inr (it_ne' (by assumption) ?_); (simp; done)) | exact .inl (by k_ne))))
local macro_rules | `(tactic| walk_at "mine split2") => `(tactic| (repeat' (first | with_reducible exact Split2.nil | with_reducible exact Split2.all | with_reducible exact Split2.tail rows_off_buf | with_reducible exact Split2.tail rows_off_rs | (with_reducible refine Split2.tail (rowsT_off ?_); (simp; done)) | (with_reducible refine' Split2.drop2 ?h ?_; (case h => with_reducible k_mem)) | (refine' Split2.keep ?a ?_; (case a => walk_at "mine dis")) | refine' Split2.drop ?_ | exact Split2.nil)))
local macro_rules | `(tactic| walk_at "mine conF") => `(tactic| ((case kB => assumption); (case kF => k_asm); (case kX => assumption); (case kT => assumption); (case kN => k_asm); (case kf => exact rfl); (case kk => exact rfl); (case kw => walk_at "mine wr"); (case ks => walk_at "mine split2"); (case kr => walk_at "mine rd"); (case kd => walk_at "mine room"); (case ku => walk_at "mine room")))
local macro_rules | `(tactic| walk_at "mine rd") => `(tactic| first | exact List.forall_mem_nil _ | (refine fun p hp => Or.inl ?_; simp only [List.mem_cons, List.mem_append, rowsL_cons, List.not_mem_nil, or_false, List.append_assoc] at hp ⊢; (repeat' (refine Or.elim hp ?_ ?_ <;> clear hp <;> intro hp)); all_goals (first | walk_at "mine or" | (subst hp; simp; done))))
local macro_rules | `(tactic| walk_at "exec For Name Call cons nil") => `(tactic| (k_here; (rename Fr _ _ _ _ => lF'); (with_unfolding_all refine' For_turns lF' ?_; k_whole)))
local macro_rules | `(tactic| walk_at "exec For Name Name cons nil") => `(tactic| (k_here; (rename Fr _ _ _ _ => lF'); (with_unfolding_all refine' For_turns lF' ?_; k_whole)))
local macro_rules | `(tactic| walk_at "exec For Tuple Call cons nil") => `(tactic| (k_here; (rename Fr _ _ _ _ => lF'); (with_unfolding_all refine' For_turns lF' ?_; k_whole)))
local macro_rules | `(tactic| walk_at "exec For Tuple Subscript cons nil") => `(tactic| (k_here; (rename Fr _ _ _ _ => lF'); (with_unfolding_all refine' For_turns lF' ?_; k_whole)))
local macro_rules | `(tactic| walk_at "call type:enumerate") => `(tactic| (k_here; (with_reducible show wpAny _ _ (call (Value.type _) [Value.ref _]) (fun xv s₁ => wpAny _ _ (pyIter xv) (fun it s₂ => TurnsAt _ _ _ _ _ _ _ _ _ it s₂) _ s₁) _ _); refine halt ?_))
local macro_rules | `(tactic| walk_at "pyIter ref") => `(tactic| (k_here; (with_reducible show wpAny _ _ (pyIter (Value.ref _)) (fun it s₂ => TurnsAt _ _ _ _ _ _ _ _ _ it s₂) _ _); refine halt ?_))
local macro_rules | `(tactic| walk_at "pyIter ref") => `(tactic| (k_here; (with_reducible show wpAny _ _ (pyIter (Value.ref _)) (fun it s₂ => TurnsAt _ _ _ _ _ _ _ _ _ it s₂) _ _); k_dflt (refine' iter_nil ?h ?F ?N ?X ?e ?_; (case h => exact rfl); (case F => k_asm); (case N => k_asm); (case X => k_asm); (case e => k_is); intro h' tk' F' N'; (try k_sweep); (try dsimp only))))
local macro_rules | `(tactic| walk_at "mine or") => `(tactic| first | with_reducible assumption | (with_reducible exact Or.inl (by with_reducible assumption)) | (refine Or.inr ?_; walk_at "mine or"))
local macro_rules | `(tactic| walk_at "mine sub") => `(tactic| (intro p hp; simp only [List.mem_cons, List.mem_append, rowsL_cons, List.not_mem_nil, or_false, List.append_assoc] at hp ⊢; (repeat' (refine Or.elim hp ?_ ?_ <;> clear hp <;> intro hp)); all_goals (first | walk_at "mine or" | (subst hp; simp; done))))
local macro_rules | `(tactic| walk_at "call builtin:list.append") => `(tactic| (k_here; (with_reducible show wpAny _ _ (call (Value.builtin _) [Value.ref _, _]) _ _ _); k_dflt (refine' append_S ?F ?N ?m ?s ?z ?_; (case F => k_asm); (case N => k_asm); (case m => k_mem); (case s => walk_at "mine split2"); (case z => (simp only [List.length_map, List.size_toArray]; omega)); intro h' F' N'; (try k_sweep); (try dsimp only))))
local macro_rules | `(tactic| walk_at "exec For Name Name cons nil") => `(tactic| (k_here; (rename Fr _ _ _ _ => lF'); (with_unfolding_all refine' For_turns lF' ?_; k_whole)))
local macro_rules | `(tactic| walk_at "pyIter ref") => `(tactic| (k_here; (with_reducible show wpAny _ _ (pyIter (Value.ref _)) (fun it s₂ => TurnsAt _ _ _ _ _ _ _ _ _ it s₂) _ _); refine halt ?_))
local macro_rules | `(tactic| walk_at "binaryOp FloorDiv int int") => `(tactic| (k_here; (with_reducible show wpAny _ _ (binaryOp _ (Value.int _ _) (Value.int _ _)) _ _ _); (refine' div_lit ?hb ?hp ?_; (case hb => decide); (case hp => exact PyProof.noPylong_of_log2 (by decide +kernel)))))
local macro_rules | `(tactic| walk_at "binaryOp Mod int int") => `(tactic| (k_here; (with_reducible show wpAny _ _ (binaryOp _ (Value.int _ _) (Value.int _ _)) _ _ _); (refine' mod_lit ?hb ?_; (case hb => decide))))
local macro_rules | `(tactic| walk_at "binaryOp Mult int int") => `(tactic| (k_here; (with_reducible show wpAny _ _ (binaryOp _ (Value.int _ _) (Value.int _ _)) _ _ _); (refine' mul_b ?h1 ?h2 ?_; (case h1 => omega); (case h2 => omega))))
local macro_rules | `(tactic| walk_at "subscriptTail") => `(tactic| (k_here; (with_reducible show wpAny _ _ (subscriptTail _ _ (Value.ref _) (Value.int (_ / 45 % 4) _)) _ _ _); (refine' menu_item ?N ?m ?z ?_; (case N => k_asm); (case m => k_mem); (case z => rfl); intro _; k_whole)))
theorem rows_fin {g h : Heap} {L I D T : Addr} {it : Obj} {its : Array Value} {n : Nat} {trs : List TR} {a b : Int} {ta tb : Tok} {all : List (Addr × Obj)} (N : News g L h all) (hI : (I, it) ∈ all) (hD : (D, listOf its n) ∈ all) (hT : (T, tupO [.int a ta, .int b tb]) ∈ all)
    (he : its = (refsT (trs ++ [⟨T, a, b, ta, tb⟩])).toArray) (ht : ∀ p ∈ rowsT trs, p ∈ all) : News g L h ([(I, it)] ++ ((D, listOf (refsT (trs ++ [⟨T, a, b, ta, tb⟩])).toArray n) :: rowsT (trs ++ [⟨T, a, b, ta, tb⟩]))) := by
  subst he
  refine news_sub N fun p hp => ?_
  simp only [rowsT, List.map_append, List.map_cons, List.map_nil, List.mem_cons, List.mem_append, List.not_mem_nil, or_false] at hp
  rcases hp with rfl | rfl | hp | rfl
  · exact hI
  · simpa [refsT] using hD
  · exact ht p hp
  · exact hT
theorem truthy_L {prog : Program} {w : World} {A : Around} {E : Value → Shared → Prop} {s : Shared} {h₀ : Heap} {L D : Addr} {news : List (Addr × Obj)} {its : Array Value} {n : Nat} {b : Bool} {Q : Bool → Shared → Prop} (N : News h₀ L s.heap news) (hm : (D, listOf its n) ∈ news) (hz : its.size ≤ 16777216) (hb : (!its.isEmpty) = b) (h : ∀ k, Q b { s with toks := k }) :
    wpAny (model prog w) A (truthy (.ref D)) Q E s := by
  subst hb
  exact wpAny_truthy_list (list_at N hm) (by omega) (h _)
local macro_rules | `(tactic| walk_at "truthy ref") => `(tactic| (k_here; (with_reducible show wpAny _ _ (truthy (Value.ref _)) _ _ _); (first | (refine' truthy_L (b := true) ?N ?m ?z ?b ?_; (case N => k_asm); (case m => k_mem); (case z => (simp only [List.length_map, List.size_toArray, List.length_cons, List.length_nil]; omega)); (case b => rfl)) | (refine' truthy_L (b := false) ?N ?m ?z ?b ?_; (case N => k_asm); (case m => k_mem); (case z => (simp only [List.length_map, List.size_toArray, List.length_cons, List.length_nil]; omega)); (case b => rfl))); intro _; (try dsimp only)))
theorem one_fin {g h : Heap} {L l T : Addr} {n : Nat} {a b : Int} {ta tb : Tok} {r : List (Addr × Obj)} (N : News g L h ((l, listOf #[.ref T] n) :: (T, tupO [.int a ta, .int b tb]) :: r)) : Led g h ((l, listOf (refsT [⟨T, a, b, ta, tb⟩]).toArray n) :: rowsT [⟨T, a, b, ta, tb⟩]) := by
  refine Led.of_news (news_sub N fun p hp => ?_)
  simp only [rowsT, List.map_cons, List.map_nil, List.mem_cons, List.not_mem_nil, or_false] at hp
  rcases hp with rfl | rfl
  · exact .head _
  · exact .tail _ (.head _)
theorem news_head {g h : Heap} {L a : Addr} {o : Obj} {r : List (Addr × Obj)} (_ : News g L h ((a, o) :: r)) : ∃ a', a' = a := ⟨a, rfl⟩
theorem law_rows {w : World} {mean : ExcName → Option Value} {mg mb : Str → Option Value} {base0 : Int} {ln : Addr} {vsN : List Value} {ns : List Int} {nN : Nat} {t1 : Tok} (h0 : 0 ≤ base0) (h1 : base0 ≤ 4611686018427387904) (hI : IntsAre vsN ns) (hlen : ns.length ≤ 30) :
    ConE w mean mg mb 10 375 [.int base0 t1, .ref ln] [] [(ln, listOf vsN.toArray nN)] []
      (fun r news' => ∃ D n trs, r = .ref D ∧ news' = (D, listOf (refsT trs).toArray n) :: rowsT trs ∧ pairsT trs = if ns = [] then [(base0, base0 + 1)] else lrows base0 ns) (fun _ => False) := by
  intro dp un gd ll base g s R B X T Kp N hrd hdp hun ret fail
  w_on
  have hgl : g.get? ln = some (listOf vsN.toArray nN) := hrd _ (.head _)
  walk_at "mine enter"
  repeat' walk_at "mine oneD"
  refine halt ?_
  (with_reducible rename Fr _ _ _ _ => F1)
  (with_reducible rename News _ _ _ _ => N1)
  obtain ⟨m₀, hm₀⟩ := fr_map F1
  obtain ⟨D, hD⟩ := news_head N1
  subst hD
  refine list_J (vs := vsN) (keep := []) (fun i m nx => ∃ trs n p tp, m (Str.ofString "place") = some (.int p tp) ∧ (∀ y, [Str.ofString "place", Str.ofString "number", Str.ofString "scale", Str.ofString "first"].contains y = false → m y = m₀ y) ∧
    nx = (D, listOf (refsT trs).toArray n) :: rowsT trs ∧ pairsT trs = lrows base0 (ns.take i) ∧ p = lend base0 (ns.take i) ∧ base0 ≤ p ∧ p ≤ base0 + 14000000 * i) rfl F1 N1 ⟨_, F1.keep _ _ hgl, rfl, _, rfl⟩ (.inr ⟨_, hgl⟩) (fun _ _ _ _ _ h => nomatch h) ?h0 ?turn ?done
  case h0 => exact ⟨[], 0, base0, _, rfl, fun y _ => by rw [hm₀], rfl, rfl, rfl, by omega, by omega⟩
  case turn =>
    rintro i v m₁ news₁ h₁ tk₁ I it hv ⟨trs, n, p, tp, hmp, hm, rfl, htr, hp, hp0, hp1⟩ hc F2 N2
    obtain ⟨nn, tn, rfl, hnn⟩ := hI.at i v hv
    rw [trk1 (st := [Str.ofString "number", Str.ofString "scale", Str.ofString "first"]) hmp hm] at F2
    subst hm₀
    clear F1 N1
    have hi : i < ns.length := by
      rcases Nat.lt_or_ge i ns.length with q | q
      · exact q
      · rw [List.getElem?_eq_none q] at hnn; cases hnn
    have hrg := lnxt_range p nn
    have hsc : 1 ≤ scl nn ∧ scl nn ≤ 1000000 := by rcases scl_range nn with e | e | e <;> rw [e] <;> decide
    obtain ⟨hsc1, hsc2⟩ := hsc
    have htl : trs.length = i := by
      have := congrArg List.length htr
      rw [List.length_map, lrows_length, List.length_take] at this
      omega
    have hmenu : ([1, 1, 20, 10 ^ Int.toNat 6] : List Int).getD (nn / 45 % 4).toNat 0 = scl nn := by
      have h1 := Int.emod_nonneg (nn / 45) (show (4 : Int) ≠ 0 by decide)
      have h2 := Int.emod_lt_of_pos (nn / 45) (show (0 : Int) < 4 by decide)
      have hq : nn / 45 % 4 = 0 ∨ nn / 45 % 4 = 1 ∨ nn / 45 % 4 = 2 ∨ nn / 45 % 4 = 3 := by omega
      unfold scl
      rcases hq with e | e | e | e <;> rw [e] <;> rfl
    have hDI := news_neT N2 (.head _) (.tail _ (.head _)) hc (tyne (by decide))
    repeat' walk_at "mine oneD"
    (with_reducible rename Fr _ _ _ _ => F3)
    (with_reducible rename News _ _ _ _ => N3)
    rw [hmenu] at F3 N3
    have N4 := rows_fin (I := I) (D := D) (trs := trs) N3 (by k_mem) (.head _) (.tail _ (.head _)) (by simp [refsT]) (by walk_at "mine sub")
    refine StepO.go (.inl rfl) F3 N4 (List.forall_mem_cons.mpr ⟨by simp, rowsT_cls (by simp)⟩) ⟨_, _, lnxt p nn, _, rfl, ?_, rfl, ?_, ?_, by omega, by omega⟩
    · walk_at "mine map"
    · have e : ns.take (i + 1) = ns.take i ++ [nn] := by rw [List.take_succ, hnn]; rfl
      rw [e, (lrows_snoc _ _ _).1, ← htr, ← hp, pairsT, List.map_append]; rfl
    · have e : ns.take (i + 1) = ns.take i ++ [nn] := by rw [List.take_succ, hnn]; rfl
      rw [e, (lrows_snoc _ _ _).2, ← hp]
  case done =>
    rintro h' tk m' news' F2 N2 ⟨trs, n, p, tp, hmp, hm, rfl, htr, hp, hp0, hp1⟩
    rw [trk1 (st := [Str.ofString "number", Str.ofString "scale", Str.ofString "first"]) hmp hm] at F2
    subst hm₀
    clear F1 N1
    have hvl := hI.length
    rw [hvl, List.take_length] at htr
    cases trs with
    | nil =>
      have hns : ns = [] := by
        have := congrArg List.length htr
        rw [lrows_length] at this
        exact List.eq_nil_of_length_eq_zero this.symm
      rw [if_pos hns] at ret
      dsimp only [refsT, rowsT, List.map_nil] at N2
      repeat' walk_at "mine oneD"
      (with_reducible rename Fr _ _ _ _ => F3)
      (with_reducible rename News _ _ _ _ => N3)
      exact ret _ _ _ _ ⟨_, _, _, rfl, rfl, rfl⟩ (Kept.of_fr F3) (one_fin N3)
    | cons y0 trs =>
      have hns : ns ≠ [] := fun e => by rw [e] at htr; simp [lrows] at htr
      rw [if_neg hns] at ret
      have htl : trs.length + 1 ≤ 30 := by
        have := congrArg List.length htr
        rw [lrows_length] at this
        simp only [List.length_map, List.length_cons] at this
        omega
      dsimp only [refsT, List.map_cons] at N2
      repeat' walk_at "mine oneD"
      (with_reducible rename Fr _ _ _ _ => F3)
      (with_reducible rename News _ _ _ _ => N3)
      exact ret _ _ _ _ ⟨D, _, y0 :: trs, rfl, rfl, htr⟩ (Kept.of_fr F3) (Led.of_news N3)
end Mine
end
section
open PySem PySem.W PyProof.Rows PySem.Calls
set_option maxRecDepth 100000
set_option maxHeartbeats 8000000
namespace Mine
section
variable {prog : Program} {w : World} {A : Around} {E : Value → Shared → Prop} {s : Shared} {Q : Value → Shared → Prop} {value slice : PySem.Expr} {u : Tok} {h₀ : Heap} {L D : Addr} {m : Str → Option Value} {trs : List TR} {i : Int} {y : TR}
theorem itemT {h : Heap} (hl : h.IsList D (refsT trs).toArray) (k : ∀ o, h.get? D = some o → s.heap.get? D = some o) (h0 : 0 ≤ i) (h1 : i < 1000000) (hy : trs[i.toNat]? = some y) (hq : Q (.ref y.t) s)
    (hs : subscripted slice false (.ref D) (.int i u) = operate [.ref D, .int i u] (getItem (.ref D) (.int i u)) := by with_unfolding_all rfl) : wpAny (model prog w) A (subscriptTail value slice (.ref D) (.int i u)) Q E s :=
  tail_any (hl.at k).typeIs slot_list_getitem.lookup (wpAny_getItem_list (hl.at k) h0 (by omega) (by simp [hy]) hq) hs
theorem itemT_last {h : Heap} (hl : h.IsList D (refsT trs).toArray) (k : ∀ o, h.get? D = some o → s.heap.get? D = some o) (hi : i = -1) (hlen : trs.length ≤ 1000000) (hy : trs[trs.length - 1]? = some y) (hq : Q (.ref y.t) s)
    (hs : subscripted slice false (.ref D) (.int i u) = operate [.ref D, .int i u] (getItem (.ref D) (.int i u)) := by with_unfolding_all rfl) : wpAny (model prog w) A (subscriptTail value slice (.ref D) (.int i u)) Q E s := by
  subst hi
  have hp : 0 < trs.length := by
    rcases Nat.eq_zero_or_pos trs.length with e | e
    · rw [List.length_eq_zero_iff.mp e] at hy; cases hy
    · exact e
  refine tail_any (hl.at k).typeIs slot_list_getitem.lookup (wpAny_getItem_list_neg (hl.at k) (by decide) (by simp; omega) (by decide) ?_ hq) hs
  have e : (-1 + ((refsT trs).toArray.size : Int)).toNat = trs.length - 1 := by simp; omega
  rw [e]
  simp [hy]
theorem tupB0 {t : Addr} {v0 v1 : Value} (F : Fr h₀ L s.heap m) (ht : h₀.get? t = some (tupO [v0, v1])) (hq : Q v0 s) (hs : subscripted slice false (.ref t) (.int 0 u) = operate [.ref t, .int 0 u] (getItem (.ref t) (.int 0 u)) := by with_unfolding_all rfl) :
    wpAny (model prog w) A (subscriptTail value slice (.ref t) (.int 0 u)) Q E s :=
  item_tupleT (l := [v0, v1]) ⟨_, F.keep _ _ ht, rfl, _, rfl⟩ (by decide) (by decide) (j := 0) rfl rfl hq hs
theorem tupB1 {t : Addr} {v0 v1 : Value} (F : Fr h₀ L s.heap m) (ht : h₀.get? t = some (tupO [v0, v1])) (hq : Q v1 s) (hs : subscripted slice false (.ref t) (.int 1 u) = operate [.ref t, .int 1 u] (getItem (.ref t) (.int 1 u)) := by with_unfolding_all rfl) :
    wpAny (model prog w) A (subscriptTail value slice (.ref t) (.int 1 u)) Q E s :=
  item_tupleT (l := [v0, v1]) ⟨_, F.keep _ _ ht, rfl, _, rfl⟩ (by decide) (by decide) (j := 1) rfl rfl hq hs
theorem itemTB (F : Fr h₀ L s.heap m) (hl : h₀.IsList D (refsT trs).toArray) (h0 : 0 ≤ i) (h1 : i < 1000000) (hy : trs[i.toNat]? = some y) (hq : Q (.ref y.t) s)
    (hs : subscripted slice false (.ref D) (.int i u) = operate [.ref D, .int i u] (getItem (.ref D) (.int i u)) := by with_unfolding_all rfl) : wpAny (model prog w) A (subscriptTail value slice (.ref D) (.int i u)) Q E s := itemT hl (F.keep D) h0 h1 hy hq hs
theorem itemTB_last (F : Fr h₀ L s.heap m) (hl : h₀.IsList D (refsT trs).toArray) (hi : i = -1) (hlen : trs.length ≤ 1000000) (hy : trs[trs.length - 1]? = some y) (hq : Q (.ref y.t) s)
    (hs : subscripted slice false (.ref D) (.int i u) = operate [.ref D, .int i u] (getItem (.ref D) (.int i u)) := by with_unfolding_all rfl) : wpAny (model prog w) A (subscriptTail value slice (.ref D) (.int i u)) Q E s := itemT_last hl (F.keep D) hi hlen hy hq hs
theorem lenTB (F : Fr h₀ L s.heap m) (hl : h₀.IsList D (refsT trs).toArray) (hz : trs.length ≤ 1000000) (h : ∀ t k, Q (.int (trs.length : Int) t) { s with toks := k }) : wpAny (model prog w) A (call (.builtin "len") [.ref D]) Q E s := by
  have e : (((refsT trs).toArray.size : Nat) : Int) = (trs.length : Int) := by simp
  refine call_len_list (hl.at (F.keep D)) (by rw [e]; omega) ?_
  rw [e]; exact h _ _
theorem add_bytesL {p q : List UInt8} {t : Tok} (hz : p.length + q.length ≤ 16777216) (h : ∀ t' k, Q (.bytes (p ++ q).toArray t') { s with toks := k }) : wpAny (model prog w) A (binaryOp .Add (.bytes p.toArray t) (.bytes q.toArray u)) Q E s := by
  refine KBy.add_bytes (by simpa using hz) fun t' k => ?_
  rw [show p.toArray ++ q.toArray = (p ++ q).toArray from by simp]
  exact h t' k
end
theorem law_put0 {w : World} {mean : ExcName → Option Value} {mg mb : Str → Option Value} {v : Int} {t1 t2 : Tok} (h0 : 0 ≤ v) (h1 : v < 4611686018427387904) :
    Con w mean mg mb 10 368 [.int v t1, .int 0 t2] [] [] (fun r news' => (∃ t, r = .bytes (venc v).toArray t) ∧ news' = []) := by
  rw [← vput_zero]
  exact law_put (l := 0) h0 h1 (by decide)
theorem takeT_last {trs : List TR} {i : Nat} (h0 : 0 < i) (h1 : i ≤ trs.length) : ∃ y, trs[i - 1]? = some y ∧ y ∈ trs ∧ (pairsT (trs.take i)).reverse = (y.a, y.b) :: (pairsT (trs.take (i - 1))).reverse := by
  obtain ⟨j, rfl⟩ : ∃ j, i = j + 1 := ⟨i - 1, by omega⟩
  have hj : j < trs.length := h1
  refine ⟨trs[j], by simp, List.getElem_mem hj, ?_⟩
  rw [Nat.add_sub_cancel, pairsT, List.take_succ_eq_append_getElem hj, List.map_append, List.reverse_append]
  rfl
theorem range_dn (n : Nat) : Builtin.Range.rangeSize ((n : Int) + 1 - 2) (-1) (-1) = (n : Int) := by
  unfold Builtin.Range.rangeSize
  rw [if_neg (by decide)]
  split
  · rw [show (- -1 : Int) = 1 from rfl, Int.ediv_one]; omega
  · omega
local macro_rules | `(tactic| walk_at "mine room") => `(tactic| first | (dsimp only; omega) | ((try simp only [depth_mark, depth_under_make, depth_under_kw, depth_in1, depth_deeper, units_deeper, units_in1, units_under_make]); (try dsimp only); omega))
local macro_rules | `(tactic| walk_at "mine one") => `(tactic| (first | (k_unfold; (try dsimp only)) | (k_end; wrow_close) | walk1 | (dsimp only; walk1) | (leave1; walk_say "STEP leave1"; try dsimp only) | (dsimp only; k_unfold; (try dsimp only)) | (dsimp only [StepO]; k_unfold; (try dsimp only)) | fail "no step"))
local macro_rules | `(tactic| walk_at "mine enter") => `(tactic| (refine' enter ?k1 ?k2 ?k3 ?k4 ?k5 ?kd ?k6 ?k7 ?k8 ?k9 ?_ ?c2 ?c3 ?c4 ?c5; (case k1 => assumption); (case k2 => assumption); (case k3 => assumption); (case k4 => assumption); (case k5 => assumption); (case kd => omega); (case k6 => k_is); (case k7 => k_is); (case k8 => first | exact BindsTo.of_eq rfl | exact binds_K (Frag.In.keeps (by assumption) (Kept.keep (by assumption))) rfl (by k_is) rfl rfl rfl | exact binds_K (by k_in) rfl (by k_is) rfl rfl rfl); (case c5 => decide); (case k9 => exact locs rfl); (case c2 => exact rfl); (case c3 => exact rfl); (case c4 => exact rfl); k_whole; intro L' h' F' N' K'; (try dsimp only); (try k_fold)))
local macro_rules | `(tactic| walk_at "mine wr") => `(tactic| ((repeat (refine List.forall_mem_cons.mpr ⟨?_, ?_⟩; (· k_mem))); exact List.forall_mem_nil _))
local macro_rules | `(tactic| walk_at "mine split") => `(tactic| (repeat' (first | exact Split.nil | (refine' Split.keep ?a ?_; (case a => k_all)) | refine' Split.drop ?_)))
local macro_rules | `(tactic| walk_at "mine con") => `(tactic| ((case kB => assumption); (case kF => k_asm); (case kX => assumption); (case kT => assumption); (case kN => k_asm); (case kf => exact rfl); (case kk => exact rfl); (case kw => walk_at "mine wr"); (case ks => walk_at "mine split"); (case kd => walk_at "mine room"); (case ku => walk_at "mine room")))
local macro_rules | `(tactic| walk_at "mine conE") => `(tactic| ((case kB => assumption); (case kF => k_asm); (case kX => assumption); (case kT => assumption); (case kN => k_asm); (case kf => exact rfl); (case kk => exact rfl); (case kw => walk_at "mine wr"); (case ks => walk_at "mine split"); (case kd => walk_at "mine room"); (case ku => walk_at "mine room")))
local macro_rules | `(tactic| k_room) => `(tactic| ((try simp only [depth_mark, depth_under_make, depth_under_kw, depth_in1, depth_deeper, depth_caller]); (try dsimp only); omega))
local macro_rules | `(tactic| walk_at "mine map") => `(tactic| (refine' map_off _ ?hs ?a; (case a => (intro y hy; (have nn : ∀ z, _ = true → y ≠ z := fun z hz e => by subst e; exact absurd (hz.symm.trans hy) (by decide)); (try dsimp only); (repeat rw [if_neg (nn _ (by decide))]); first | done | exact rfl)); (case hs => decide)))
local macro_rules | `(tactic| walk_at "mine oneD") => `(tactic| (first | (k_unfold; (try dsimp only)) | (k_end; wrow_close) | (walk1; (try dsimp only [List.cons_append, List.nil_append])) | (dsimp only; walk1) | (leave1; walk_say "STEP leave1"; try dsimp only) | (dsimp only; k_unfold; (try dsimp only)) | (dsimp only [StepO]; k_unfold; (try dsimp only)) | fail "no step"))
local macro_rules | `(tactic| walk_at "mine size") => `(tactic| ((try simp only [Array.size_append]); refine Nat.le_trans (by first | exact Nat.add_le_add (Nat.add_le_add (KBc.size_picked_le _ _ _) (Nat.le_refl _)) (KBc.size_picked_le _ _ _) | exact Nat.add_le_add (KBc.size_picked_le _ _ _) (Nat.le_refl _) | exact KBc.size_picked_le _ _ _) ?_; simp only [List.size_toArray, List.length_append]; omega))
local macro_rules | `(tactic| walk_at "call builtin:len") => `(tactic| (k_here; (with_reducible show wpAny _ _ (call (Value.builtin "len") [Value.ref _]) _ _ _); (with_reducible rename News _ _ _ _ => N'); (first | (refine' len_app ?ba ?hz ?_; (case ba => exact led_ba N' (by k_mem)); (case hz => omega); k_whole) | (refine' len_bs ?ba ?hz ?_; (case ba => exact led_ba N' (by k_mem)); (case hz => omega); k_whole))))
local macro_rules | `(tactic| walk_at "subscriptTail") => `(tactic| (k_here; (with_reducible show wpAny _ _ (subscriptTail _ (Expr.Slice _ _ none _) (Value.ref _) (Value.ref _)) _ _ _); (with_reducible rename Fr _ _ _ _ => F'); (with_reducible rename News _ _ _ _ => N'); (refine' BA.slice_N (s := ⟨_, _, _, _, _⟩) F' N' ?ba (by constructor) (by constructor) ?hz ?_; (case ba => exact led_ba N' (by k_mem)); (case hz => walk_at "mine size"); intro h' x' F' N' l1; (try k_lt l1); (try k_sweep); (try dsimp only))))
local macro_rules | `(tactic| walk_at "binaryOp Add") => `(tactic| (k_here; (with_reducible show wpAny _ _ (binaryOp _ (Value.ref _) (Value.bytes _ _)) _ _ _); (with_reducible rename Fr _ _ _ _ => F'); (with_reducible rename News _ _ _ _ => N'); (refine' BA.add_b F' N' ?ba ?hz ?_; (case ba => exact led_ba N' (by k_mem)); (case hz => walk_at "mine size"); intro h' x' F' N' l1; (try k_lt l1); (try k_sweep); (try dsimp only))))
local macro_rules | `(tactic| walk_at "binaryOp Add") => `(tactic| (k_here; (with_reducible show wpAny _ _ (binaryOp _ (Value.ref _) (Value.ref _)) _ _ _); (with_reducible rename Fr _ _ _ _ => F'); (with_reducible rename News _ _ _ _ => N'); (refine' BA.add_ba F' N' ?ba ?bb ?hz ?_; (case ba => exact led_ba N' (by k_mem)); (case bb => exact led_ba N' (by k_mem)); (case hz => walk_at "mine size"); intro h' x' F' N' l1; (try k_lt l1); (try k_sweep); (try dsimp only))))
local macro_rules | `(tactic| walk_at "call type:bytes") => `(tactic| (k_here; (with_reducible show wpAny _ _ (call (Value.type "bytes") [Value.ref _]) _ _ _); (with_reducible rename News _ _ _ _ => N'); (refine' BA.bytes_of ?ba ?hz ?_; (case ba => exact led_ba N' (by k_mem)); (case hz => walk_at "mine size"); intro _ _; (try dsimp only))))
local macro_rules | `(tactic| k_inst) => `(tactic| (refine' Mine.InstAt.of_base ?F ?h1 ?h2; (case F => k_asm); (case h1 => assumption); (case h2 => assumption)))
local macro_rules | `(tactic| walk_at "mine dis") => `(tactic| (repeat' (first | exact List.forall_mem_nil _ | refine List.forall_mem_cons.mpr ⟨?_, ?_⟩ | (refine Or.inr (cls_ne ?_); (simp; done)) | (refine Or.inr (key_ne ?_); exact rfl) | (refine Or.inr (it_ne (by assumption) ?_); (simp; done)) | (refine Or.inr (it_ne' (by assumption) ?_); (simp; done)) | exact .inl (by k_ne))))
local macro_rules | `(tactic| walk_at "mine split2") => `(tactic| (repeat' (first | with_reducible exact Split2.nil | with_reducible exact Split2.all | with_reducible exact Split2.tail rows_off_buf | with_reducible exact Split2.tail rows_off_rs | (with_reducible refine Split2.tail (rowsT_off ?_); (simp; done)) | (with_reducible refine' Split2.drop2 ?h ?_; (case h => with_reducible k_mem)) | (refine' Split2.keep ?a ?_; (case a => walk_at "mine dis")) | refine' Split2.drop ?_ | exact Split2.nil)))
local macro_rules | `(tactic| walk_at "mine conF") => `(tactic| ((case kB => assumption); (case kF => k_asm); (case kX => assumption); (case kT => assumption); (case kN => k_asm); (case kf => exact rfl); (case kk => exact rfl); (case kw => walk_at "mine wr"); (case ks => walk_at "mine split2"); (case kr => walk_at "mine rd"); (case kd => walk_at "mine room"); (case ku => walk_at "mine room")))
local macro_rules | `(tactic| walk_at "mine rd") => `(tactic| first | exact List.forall_mem_nil _ | (refine fun p hp => Or.inl ?_; simp only [List.mem_cons, List.mem_append, rowsL_cons, List.not_mem_nil, or_false, List.append_assoc] at hp ⊢; (repeat' (refine Or.elim hp ?_ ?_ <;> clear hp <;> intro hp)); all_goals (first | walk_at "mine or" | (subst hp; simp; done))))
local macro_rules | `(tactic| walk_at "exec For Name Call cons nil") => `(tactic| (k_here; (rename Fr _ _ _ _ => lF'); (with_unfolding_all refine' For_turns lF' ?_; k_whole)))
local macro_rules | `(tactic| walk_at "exec For Name Name cons nil") => `(tactic| (k_here; (rename Fr _ _ _ _ => lF'); (with_unfolding_all refine' For_turns lF' ?_; k_whole)))
local macro_rules | `(tactic| walk_at "exec For Tuple Call cons nil") => `(tactic| (k_here; (rename Fr _ _ _ _ => lF'); (with_unfolding_all refine' For_turns lF' ?_; k_whole)))
local macro_rules | `(tactic| walk_at "exec For Tuple Subscript cons nil") => `(tactic| (k_here; (rename Fr _ _ _ _ => lF'); (with_unfolding_all refine' For_turns lF' ?_; k_whole)))
local macro_rules | `(tactic| walk_at "call type:enumerate") => `(tactic| (k_here; (with_reducible show wpAny _ _ (call (Value.type _) [Value.ref _]) (fun xv s₁ => wpAny _ _ (pyIter xv) (fun it s₂ => TurnsAt _ _ _ _ _ _ _ _ _ it s₂) _ s₁) _ _); refine halt ?_))
local macro_rules | `(tactic| walk_at "pyIter ref") => `(tactic| (k_here; (with_reducible show wpAny _ _ (pyIter (Value.ref _)) (fun it s₂ => TurnsAt _ _ _ _ _ _ _ _ _ it s₂) _ _); refine halt ?_))
local macro_rules | `(tactic| walk_at "pyIter ref") => `(tactic| (k_here; (with_reducible show wpAny _ _ (pyIter (Value.ref _)) (fun it s₂ => TurnsAt _ _ _ _ _ _ _ _ _ it s₂) _ _); k_dflt (refine' iter_nil ?h ?F ?N ?X ?e ?_; (case h => exact rfl); (case F => k_asm); (case N => k_asm); (case X => k_asm); (case e => k_is); intro h' tk' F' N'; (try k_sweep); (try dsimp only))))
local macro_rules | `(tactic| walk_at "mine or") => `(tactic| first | with_reducible assumption | (with_reducible exact Or.inl (by with_reducible assumption)) | (refine Or.inr ?_; walk_at "mine or"))
local macro_rules | `(tactic| walk_at "mine sub") => `(tactic| (intro p hp; simp only [List.mem_cons, List.mem_append, rowsL_cons, List.not_mem_nil, or_false, List.append_assoc] at hp ⊢; (repeat' (refine Or.elim hp ?_ ?_ <;> clear hp <;> intro hp)); all_goals (first | walk_at "mine or" | (subst hp; simp; done))))
local macro_rules | `(tactic| walk_at "call builtin:list.append") => `(tactic| (k_here; (with_reducible show wpAny _ _ (call (Value.builtin _) [Value.ref _, _]) _ _ _); k_dflt (refine' append_S ?F ?N ?m ?s ?z ?_; (case F => k_asm); (case N => k_asm); (case m => k_mem); (case s => walk_at "mine split2"); (case z => (simp only [List.length_map, List.size_toArray]; omega)); intro h' F' N'; (try k_sweep); (try dsimp only))))
local macro_rules | `(tactic| walk_at "binaryOp FloorDiv int int") => `(tactic| (k_here; (with_reducible show wpAny _ _ (binaryOp _ (Value.int _ _) (Value.int _ _)) _ _ _); (refine' div_lit ?hb ?hp ?_; (case hb => decide); (case hp => exact PyProof.noPylong_of_log2 (by decide +kernel)))))
local macro_rules | `(tactic| walk_at "binaryOp Mod int int") => `(tactic| (k_here; (with_reducible show wpAny _ _ (binaryOp _ (Value.int _ _) (Value.int _ _)) _ _ _); (refine' mod_lit ?hb ?_; (case hb => decide))))
local macro_rules | `(tactic| walk_at "binaryOp Mult int int") => `(tactic| (k_here; (with_reducible show wpAny _ _ (binaryOp _ (Value.int _ _) (Value.int _ _)) _ _ _); (refine' mul_b ?h1 ?h2 ?_; (case h1 => omega); (case h2 => omega))))
local macro_rules | `(tactic| walk_at "subscriptTail") => `(tactic| (k_here; (with_reducible show wpAny _ _ (subscriptTail _ _ (Value.ref _) (Value.int _ _)) _ _ _); (refine' itemTB ?F ?hl ?h0 ?h1 ?hy ?_; (case F => k_asm); (case hl => with_reducible assumption); (case h0 => omega); (case h1 => omega); (case hy => with_reducible assumption); k_whole)))
local macro_rules | `(tactic| walk_at "subscriptTail") => `(tactic| (k_here; (with_reducible show wpAny _ _ (subscriptTail _ _ (Value.ref _) (Value.int (-1) _)) _ _ _); (refine' itemTB_last ?F ?hl ?hi ?h1 ?hy ?_; (case F => k_asm); (case hl => with_reducible assumption); (case hi => rfl); (case h1 => omega); (case hy => with_reducible assumption); k_whole)))
local macro_rules | `(tactic| walk_at "subscriptTail") => `(tactic| (k_here; (with_reducible show wpAny _ _ (subscriptTail _ _ (Value.ref _) (Value.int 0 _)) _ _ _); (refine' tupB0 ?F ?ht ?_; (case F => k_asm); (case ht => with_reducible assumption); k_whole)))
local macro_rules | `(tactic| walk_at "subscriptTail") => `(tactic| (k_here; (with_reducible show wpAny _ _ (subscriptTail _ _ (Value.ref _) (Value.int 1 _)) _ _ _); (refine' tupB1 ?F ?ht ?_; (case F => k_asm); (case ht => with_reducible assumption); k_whole)))
local macro_rules | `(tactic| walk_at "call builtin:len") => `(tactic| (k_here; (with_reducible show wpAny _ _ (call (Value.builtin "len") [Value.ref _]) _ _ _); (refine' lenTB ?F ?hl ?hz ?_; (case F => k_asm); (case hl => assumption); (case hz => omega); intro _ _; (try dsimp only))))
local macro_rules | `(tactic| walk_at "binaryOp Add") => `(tactic| (k_here; (with_reducible show wpAny _ _ (binaryOp _ (Value.bytes (List.toArray _) _) (Value.bytes (List.toArray _) _)) _ _ _); (refine' add_bytesL ?hz ?_; (case hz => ((try simp only [List.length_append]); omega)); intro _ _; (try dsimp only))))
local macro_rules | `(tactic| walk_at "call ref") => `(tactic| (k_here; (k_dflt (show wpAny _ _ (call (Value.ref 368) [Value.int _ _, Value.int 0 _]) _ _ _)); k_dflt (refine' Con.call (law_put0 ?h0 ?h1) ?kB ?kF ?kX ?kT ?kN ?kf ?kk ?kw ?ks ?kd ?ku ?_; walk_at "mine con"; (case h0 => omega); (case h1 => omega); intro v' news' h' tk' hp' F' N'; obtain ⟨⟨t', hv'⟩, hn'⟩ := hp'; subst hv'; subst hn'; dsimp only [List.nil_append] at N'; (try k_sweep); (try dsimp only))))
theorem law_frame {w : World} {mean : ExcName → Option Value} {mg mb : Str → Option Value} {D : Addr} {trs : List TR} {n : Nat} {delay a b : Int} {xs : List (Int × Int)} {t1 : Tok} (hxs : (pairsT trs).reverse = (a, b) :: xs) (hok : OkR ((a, b) :: xs)) (hd0 : 0 ≤ delay) (hd1 : delay < 4611686018427387904) (hlen : trs.length ≤ 1000)
    (hfit : (fenc delay ((a, b) :: xs)).length ≤ 100000) :
    ConE w mean mg mb 15 382 [.ref D, .int delay t1] [] ((D, listOf (refsT trs).toArray n) :: rowsT trs) []
      (fun r news' => (∃ t, r = .bytes (fenc delay ((a, b) :: xs)).toArray t) ∧ news' = []) (fun _ => False) := by
  intro dp un gd ll base g s R B X T Kp N hrd hdp hun ret fail
  w_on
  have hgl : g.IsList D (refsT trs).toArray := ⟨_, hrd _ (.head _), rfl, _, rfl⟩
  have hgt : ∀ y ∈ trs, g.get? y.t = some (tupO [.int y.a y.ta, .int y.b y.tb]) := fun y hy => hrd _ (.tail _ (mem_rowsT hy))
  have hn0 : 0 < trs.length := by
    cases trs with
    | nil => simp at hxs
    | cons y r => exact Nat.succ_pos _
  obtain ⟨y0, hy0, hym, htk⟩ := takeT_last hn0 (Nat.le_refl _)
  rw [List.take_of_length_le (Nat.le_refl _), hxs] at htk
  injection htk with htk1 htk2
  injection htk1 with ha hb
  subst ha hb
  have hgy0 := hgt y0 hym
  obtain ⟨ok1, ok2, ok3, ok4, ok5⟩ := hok
  have hxl : xs.length = trs.length - 1 := by rw [htk2]; simp [pairsT]
  have hfe : fenc delay ((y0.a, y0.b) :: xs) = venc (y0.b - 1) ++ venc delay ++ venc ((trs.length : Int) - 1) ++ venc (y0.b - y0.a - 1) ++ fgap y0.a xs := by
    show venc (y0.b - 1) ++ venc delay ++ venc (xs.length : Int) ++ venc (y0.b - 1 - y0.a) ++ fgap y0.a xs = _
    rw [hxl, show ((trs.length - 1 : Nat) : Int) = (trs.length : Int) - 1 from by omega, show y0.b - 1 - y0.a = y0.b - y0.a - 1 from by omega]
  have hfl : (venc (y0.b - 1)).length + (venc delay).length + (venc ((trs.length : Int) - 1)).length + (venc (y0.b - y0.a - 1)).length + (fgap y0.a xs).length ≤ 100000 := by
    rw [hfe] at hfit
    simp only [List.length_append] at hfit
    exact hfit
  walk_at "mine enter"
  repeat' walk_at "mine oneD"
  (with_reducible rename Fr _ _ _ _ => F1)
  (with_reducible rename News _ _ _ _ => N1)
  rename IsRange _ _ _ _ _ _ _ _ => hr
  obtain ⟨m₀, hm₀⟩ := fr_map F1
  refine halt ?_
  refine range_J (n := trs.length - 1) (fun i m nx => ∃ oct to, m (Str.ofString "octets") = some (.bytes oct.toArray to) ∧ (∀ y, [Str.ofString "octets", Str.ofString "k"].contains y = false → m y = m₀ y) ∧ nx = [] ∧
    ∃ z, trs[trs.length - 1 - i]? = some z ∧ z ∈ trs ∧ (∀ q ∈ ((pairsT (trs.take (trs.length - 1 - i))).reverse).head?, q.2 < z.a) ∧ z.a ≤ 4611686018427387904 ∧ OkR (pairsT (trs.take (trs.length - 1 - i))).reverse ∧ oct ++ fgap z.a (pairsT (trs.take (trs.length - 1 - i))).reverse = fenc delay ((y0.a, y0.b) :: xs))
    rfl hr (PySem.W.small_down (by omega) (by omega) (by omega) (by omega)) (by rw [← range_dn (trs.length - 1)]; congr 1; omega) F1 N1 ?h0 ?turn ?done
  case h0 =>
    refine ⟨_, _, rfl, fun y _ => by rw [hm₀], rfl, y0, hy0, hym, ?_, by omega, ?_, ?_⟩
    · rw [Nat.sub_zero, ← htk2]; exact ok4
    · rw [Nat.sub_zero, ← htk2]; exact ok5
    · rw [Nat.sub_zero, ← htk2, hfe]
  case turn =>
    rintro i t m₁ news₁ h₁ tk₁ I it hin ⟨oct, to, hmo, hm, rfl, z, hz, hzm, hhd, hza, hokr, htot⟩ hc F2 N2
    rw [trk1 (st := [Str.ofString "k"]) hmo hm] at F2
    subst hm₀
    clear F1 N1 hr
    obtain ⟨y, hy, hym', hyt⟩ := takeT_last (trs := trs) (i := trs.length - 1 - i) (by omega) (by omega)
    have hz' : trs[((trs.length : Int) - 2 + (i : Int) * -1 + 1).toNat]? = some z := by rw [← hz]; congr 1; omega
    have hy' : trs[((trs.length : Int) - 2 + (i : Int) * -1).toNat]? = some y := by rw [← hy]; congr 1; omega
    have hgz := hgt z hzm
    have hgy := hgt y hym'
    rw [hyt] at hhd hokr htot
    obtain ⟨ok1', ok2', ok3', ok4', ok5'⟩ := hokr
    have hlt := hhd _ rfl
    dsimp only at hlt
    have htot2 : oct ++ (venc (z.a - y.b - 1) ++ venc (y.b - y.a - 1) ++ fgap y.a ((pairsT (trs.take (trs.length - 1 - i - 1))).reverse)) = fenc delay ((y0.a, y0.b) :: xs) := htot
    have hle : oct.length + (venc (z.a - y.b - 1)).length + (venc (y.b - y.a - 1)).length ≤ 100000 := by
      rw [← htot2] at hfit
      simp only [List.length_append] at hfit
      omega
    have hsub : trs.length - 1 - (i + 1) = trs.length - 1 - i - 1 := by omega
    repeat' walk_at "mine oneD"
    (with_reducible rename Fr _ _ _ _ => F3)
    (with_reducible rename News _ _ _ _ => N3)
    refine StepO.go (.inl rfl) F3 N3 (fun _ h => nomatch h) ⟨oct ++ venc (z.a - y.b - 1) ++ venc (y.b - y.a - 1), _, rfl, ?_, rfl, y, ?_, hym', ?_, ?_, ?_, ?_⟩
    · walk_at "mine map"
    · rw [hsub]; exact hy
    · rw [hsub]; exact ok4'
    · omega
    · rw [hsub]; exact ok5'
    · rw [hsub, ← htot2]; simp only [List.append_assoc]
  case done =>
    rintro h' tk m₁ news₁ F2 N2 ⟨oct, to, hmo, hm, rfl, z, hz, hzm, hhd, hza, hokr, htot⟩
    rw [trk1 (st := [Str.ofString "k"]) hmo hm] at F2
    subst hm₀
    clear F1 N1 hr
    rw [Nat.sub_self, List.take_zero] at htot
    have htot' : oct = fenc delay ((y0.a, y0.b) :: xs) := by rw [← htot]; simp [fgap, pairsT]
    repeat' walk_at "mine oneD"
    (with_reducible rename Fr _ _ _ _ => F3)
    (with_reducible rename News _ _ _ _ => N3)
    rw [htot'] at *
    exact ret _ _ _ _ ⟨⟨_, rfl⟩, rfl⟩ (Kept.of_fr F3) (Led.of_news N3)
end Mine
end
section
open PySem PySem.W PyProof.Rows PySem.Calls
set_option maxRecDepth 100000
namespace Mine
section
variable {M : Model} {A : Around} {E : Value → Shared → Prop} {s : Shared} {env : Env}
theorem wpN_If {test body orelse pos} {Q : Flow → Shared → Prop}
    (h : wpAny M A (isTrue test env (eval test env)) (fun b s₂ => if b = true then wpN M A (execs body env) Q E s₂ else wpN M A (execs orelse env) Q E s₂) E s) :
    wpN M A (exec (.If test body orelse pos) env) Q E s := by
  rw [exec_If]
  refine wpN_any (wpAny_standAt (wpN_any (wpAny_mono h (fun b s₂ h₂ => ?_) fun _ _ e => e)))
  cases b with
  | true => exact h₂
  | false => exact h₂
theorem wpN_IfN {test body orelse pos} {Q : Flow → Shared → Prop}
    (h : wpN M A (isTrue test env (eval test env)) (fun b s₂ => if b = true then wpN M A (execs body env) Q E s₂ else wpN M A (execs orelse env) Q E s₂) E s) :
    wpN M A (exec (.If test body orelse pos) env) Q E s := by
  rw [exec_If]
  refine wpN_any (wpAny_standAt (wpN_bind (wpN_mono h (fun b s₂ h₂ => ?_) fun _ _ e => e)))
  cases b with
  | true => exact h₂
  | false => exact h₂
theorem wpN_Return {e pos} {Q : Flow → Shared → Prop} (h : wpN M A (eval e env) (fun v => Q (.ret v)) E s) : wpN M A (exec (.Return (some e) pos) env) Q E s := by
  rw [exec_Return_some]
  exact wpN_any (wpAny_standAt (wpN_bind (wpN_mono h (fun v s' hq => wpN_pure hq) fun _ _ e => e)))
theorem wpN_Assign {t value : PySem.Expr} {pos : Pos} {Q : Flow → Shared → Prop}
    (h : wpN M A (eval value env) (fun v s₁ => wpAny M A (assign t env v) (fun _ => Q .next) E s₁) E s)
    (hs : swapsWithSole [t] value pos.line env = pure false := by rfl) (hw : swappedStores [t] value env = pure none := by rfl) (he : (assignEach [t] env).map (·.2) = [assign t env] := by rfl) :
    wpN M A (exec (.Assign [t] value pos) env) Q E s := by
  rw [exec_Assign_arm]
  refine wpN_any (wpAny_standAt ?_)
  rw [hs]
  refine wpN_eq rfl ?_
  rw [if_neg (by decide)]
  refine wpN_bind (wpN_mono h (fun v s₁ h₁ => ?_) fun _ _ x => x)
  rw [hw]
  refine wpN_eq rfl ?_
  rw [he]
  refine wpN_of ?_
  show wpAny M A (do assignAll v [assign t env]; pure .next) Q E s₁
  exact wpAny_bind (wpAny_mono h₁ (fun _ _ x => wpAny_pure x) fun _ _ x => x)
theorem wpN_Call {id : Str} {p pos : Pos} {args : List Expr} {keywords : List Keyword} {Q : Value → Shared → Prop}
    (h : wpAny M A (eval (.Name id p) env) (fun f s₁ => wpN M A (callWith pos f [] (backTo pos (starEach args env)) (backToKw pos (keywordEach keywords env))) Q E s₁) E s) :
    wpN M A (eval (.Call (.Name id p) args keywords pos) env) Q E s := by
  rw [arm_eval_Call_Name']
  exact wpN_any h
theorem wpN_Expr {e pos} {Q : Flow → Shared → Prop} (h : wpN M A (eval e env) (fun v s' => wpAny M A (dropValue e pos v) Q E s') E s)
    (hi : interactive env = false := by rfl) (hs : swapsWith e none pos.line env = pure false := by rfl) : wpN M A (exec (.Expr e pos) env) Q E s := by
  rw [exec_Expr env e pos hi hs]
  exact wpN_any (wpAny_standAt (wpN_bind (wpN_mono h (fun v s' h' => wpN_of h') fun _ _ x => x)))
theorem wpN_Try {body : List Stmt} {handlers : List ExceptHandler} {orelse : List Stmt} {pos : Pos} {Q : Flow → Shared → Prop} (hne : handlers.isEmpty = false)
    (h : wpN M A (execs body env) (fun f s' => match f with | .next => wpN M A (execs orelse env) Q E s' | f => Q f s')
      (fun e s₁ => wpAny M A (noteFrame e env) (fun _ s₂ => wpAny M A (setFlight e none) (fun _ s₃ => wpAny M A (handleBy e env handlers) Q E s₃) E s₂) E s₁) s) :
    wpN M A (exec (.Try body handlers orelse [] pos) env) Q E s := by
  rw [arm_exec_Try]
  refine wpN_any (wpAny_standAt ?_)
  unfold tryStmt
  refine wpN_if_true rfl ?_
  refine wpN_bind (wpN_attempt (wpN_mono h (fun f s' hq => ?_) fun e s' hq => ?_))
  · cases f with
    | next => exact hq
    | brk => exact wpN_pure hq
    | cont => exact wpN_pure hq
    | ret v => exact wpN_pure hq
  · refine wpN_of ?_
    refine wpAny_bind (wpAny_mono hq (fun _ s₂ h₂ => ?_) fun _ _ x => x)
    refine BA.if_false hne ?_
    refine wpAny_bind (wpAny_mono h₂ (fun _ s₃ h₃ => ?_) fun _ _ x => x)
    refine BA.if_false rfl ?_
    refine BA.if_false rfl ?_
    exact h₃
section
variable {K : Frag} {pos : Pos} {f : Value} {first : List Value} {Q : Value → Shared → Prop}
theorem callWithN_of {P : Heap → Prop} {args : List (Bool × Sem Value)} {keywords : List (Option Str × Sem Value)} (hplain : (args.any (·.1) || keywords.any (·.1.isNone)) = false)
    (hk : ∀ h, P h → ∃ k, (k = Keeper.frame ∨ k = Keeper.machine ∨ k = Keeper.boundFrame) ∧ Looks M h (keeperOf f) k)
    (h : wpN M A (evalArgs f true args keywords) (fun a s₁ => P s₁.heap ∧ wpN M A (call f (first ++ a.pos) a.kw) Q E s₁) E s) : wpN M A (callWith pos f first args keywords) Q E s := by
  unfold callWith
  refine wpN_bind (wpN_holding (wpN_mono h (fun a s₁ h₁ => wpN_any (wpAny_standAt ?_)) fun _ _ x => x))
  obtain ⟨k, hk', L⟩ := hk _ h₁.1
  simp only [hplain]
  refine wpN_any (L.here ?_)
  have tail : ∀ {t : Sem Value}, wpN M A t Q E s₁ → wpN M A (t >>= fun r => holding [r] point >>= fun _ => pure r) Q E s₁ :=
    fun ht => wpN_bind (wpN_mono ht (fun r s₂ hr => wpN_any (wpAny_holding (wpAny_point (wpN_pure hr)))) fun _ _ x => x)
  have marked (mk : Value) : wpN M A (callMarked mk f (first ++ a.pos) a.kw) Q E s₁ := by unfold callMarked; exact wpN_keep h₁.2
  rcases hk' with rfl | rfl | rfl <;> dsimp only <;> first | exact tail h₁.2 | (split <;> first | exact tail h₁.2 | exact tail (marked _))
theorem callWithN_K {e : Expr} {rest : List Expr} (hk : keepIn K f = true) (h : wpAny M A (spliced (backTo pos (starEach (e :: rest) env))) (fun vs s₁ => K.In s₁.heap ∧ wpN M A (call f (first ++ vs)) Q E s₁) E s)
    (he : starEach (e :: rest) env = (false, eval e env) :: starEach rest env := by rfl) (hplain : (backTo pos (starEach rest env)).any (·.1) = false := by rfl) :
    wpN M A (callWith pos f first (backTo pos (starEach (e :: rest) env)) []) Q E s := by
  rw [he] at h ⊢
  exact callWithN_of (by show ((false || (backTo pos (starEach rest env)).any (·.1)) || false) = false; rw [hplain]; rfl) (keeps_K hk) (wpN_of (evalArgs_plain h))
theorem callWithN_KW0 {kws : List Keyword} (hk : keepIn K f = true) (hall : (backToKw pos (keywordEach kws env)).all (·.1.isSome) = true)
    (h : wpAny M A (evalAll ((backToKw pos (keywordEach kws env)).map (·.2))) (fun ks s₂ => K.In s₂.heap ∧ wpN M A (call f (first ++ []) (((backToKw pos (keywordEach kws env)).filterMap (·.1)).zip ks)) Q E s₂) E s)
    (hplain : ((backTo pos (starEach [] env)).any (·.1) || (backToKw pos (keywordEach kws env)).any (·.1.isNone)) = false := by rfl) :
    wpN M A (callWith pos f first (backTo pos (starEach [] env)) (backToKw pos (keywordEach kws env))) Q E s :=
  callWithN_of hplain (keeps_K hk) (wpN_of (evalArgs_kw2_nil hall h))
/-- a call of a built-in class, its arguments by wpAny -/
theorem callWithN_type {T : String} {e : Expr} {rest : List Expr} (h : wpAny M A (spliced (backTo pos (starEach (e :: rest) env))) (fun vs s₁ => wpN M A (call (.type T) vs) Q E s₁) E s)
    (he : starEach (e :: rest) env = (false, eval e env) :: starEach rest env := by rfl) (hplain : (backTo pos (starEach rest env)).any (·.1) = false := by rfl) :
    wpN M A (callWith pos (.type T) [] (backTo pos (starEach (e :: rest) env)) []) Q E s := by
  rw [he] at h ⊢
  exact callWithN_of (P := fun _ => True) (by show ((false || (backTo pos (starEach rest env)).any (·.1)) || false) = false; rw [hplain]; rfl) (fun _ _ => ⟨.machine, .inr (.inl rfl), .now⟩) (wpN_of (evalArgs_plain (wpAny_mono h (fun _ _ x => ⟨trivial, x⟩) fun _ _ x => x)))
/-- a call whose one argument makes a Buffer -/
theorem callWithN_KN {e : Expr} (hk : keepIn K f = true) (h : wpN M A (eval e env) (fun v s₁ => K.In s₁.heap ∧ wpN M A (call f (first ++ [v])) Q E s₁) E s)
    (he : backTo pos (starEach [e] env) = [(false, eval e env)] := by rfl) :
    wpN M A (callWith pos f first (backTo pos (starEach [e] env)) []) Q E s := by
  rw [he]
  refine callWithN_of rfl (keeps_K hk) ?_
  unfold evalArgs
  show wpN M A (spliced [(false, eval e env)] >>= _) _ E s
  unfold spliced
  refine wpN_bind (wpN_bind (wpN_mono h (fun v s₁ h₁ => ?_) fun _ _ x => x))
  refine wpN_eq rfl ?_
  refine wpN_bind (wpN_holding ?_)
  unfold spliced
  refine wpN_pure (wpN_pure ?_)
  refine wpN_holding ?_
  exact wpN_eq rfl (wpN_eq rfl (wpN_pure h₁))
end
end
end Mine
end
section
open PySem PySem.W PyProof.Rows PySem.Calls
set_option maxRecDepth 100000
set_option maxHeartbeats 8000000
namespace Mine
/-- a def's contract in N: no error; the generators stay bare -/
def ConN (w : World) (mean : ExcName → Option Value) (mg mb : Str → Option Value) (D : Nat) (f : Addr) (pos : List Value) (kw : List (Str × Value)) (rd wr : List (Addr × Obj)) (post : Value → List (Addr × Obj) → Prop) : Prop :=
  ∀ (dp un : Nat) (gd : Option (List Code)) (l : List Env) (base g : Heap) (s : Shared) (R : Result → Shared → Prop), Below (AX dp un gd l) base l g → (hd.heap_39 w.params).In g → Top hd.view_39 LS mean mg mb g → Kept g s.heap → Led g s.heap wr → (∀ p ∈ rd, g.get? p.1 = some p.2) → AllBare s.gens →
    dp + D < recursionLimit → un + 10 * D < cLine → (∀ v news' h' tk gens', post v news' → AllBare gens' → Kept g h' → Led g h' news' → R (.ok (.ret v)) ⟨h', gens', s.drawn, tk, s.os⟩) → codeN (model PG w) (AX dp un gd l) (.call (.ref f) ⟨pos, kw⟩) R s
theorem ConN.call {w : World} {dp un : Nat} {gd : Option (List Code)} {outer : List Env} {env : Env} {A₀ : Around} {base h₀ : Heap} {L : Addr} {s : Shared} {m : Str → Option Value} {mean : ExcName → Option Value} {mg mb : Str → Option Value} {news wr rd rest : List (Addr × Obj)}
    {D : Nat} {f : Addr} {pos : List Value} {kw : List (Str × Value)} {post : Value → List (Addr × Obj) → Prop} {Q E : Value → Shared → Prop} (C : ConN w mean mg mb D f pos kw rd wr post)
    (B : Below A₀ base outer h₀) (F : Fr h₀ L s.heap m) (X : (hd.heap_39 w.params).In h₀) (T : Top hd.view_39 LS mean mg mb h₀) (N : News h₀ L s.heap news) (hf : env.frame = some L) (hke : env.scope.kind = .function)
    (hwr : ∀ p ∈ wr, p ∈ news) (hs : Split2 wr news rest) (hrd : ∀ p ∈ rd, p ∈ rest ∨ h₀.get? p.1 = some p.2) (hb : AllBare s.gens) (hdp : dp + D < recursionLimit) (hun : un + 10 * D < cLine)
    (k : ∀ v news' h' tk gens', post v news' → AllBare gens' → Fr h₀ L h' m → News h₀ L h' (news' ++ rest) → Q v ⟨h', gens', s.drawn, tk, s.os⟩) :
    wpN (model PG w) (AX dp un gd (env :: outer)) (call (.ref f) pos kw) Q E s := by
  obtain ⟨g, ⟨B', X', T', K', N', back⟩, Fg, hR, st⟩ := use2 (dp := dp) (un := un) (gd := gd) B F X T N hf hke wr rest hwr hs.sub.1 fun p hp q hq e => by
    rcases hs.sub.2 p hp q hq with h | h
    · exact h e.symm
    · have h1 := (N _ (hs.sub.1 p hp)).1
      have h2 := (N _ (hwr q hq)).1
      rw [e, h2] at h1
      exact h (Option.some.inj h1)
  refine wpN_call (C dp un gd _ base g s _ B' X' T' K' N' (fun p hp => (hrd p hp).elim (hR p) (st _ _)) hb hdp hun (fun v news' h' tk gens' hp hb' K2 L2 => ?_))
  obtain ⟨F3, N3⟩ := back h' news' K2 L2
  exact k v news' h' tk gens' hp hb' F3 N3
local macro_rules | `(tactic| walk_at "mine room") => `(tactic| first | (dsimp only; omega) | ((try simp only [depth_mark, depth_under_make, depth_under_kw, depth_in1, depth_deeper, units_deeper, units_in1, units_under_make]); (try dsimp only); omega))
local macro_rules | `(tactic| walk_at "mine one") => `(tactic| (first | (k_unfold; (try dsimp only)) | (k_end; wrow_close) | walk1 | (dsimp only; walk1) | (leave1; walk_say "STEP leave1"; try dsimp only) | (dsimp only; k_unfold; (try dsimp only)) | (dsimp only [StepO]; k_unfold; (try dsimp only)) | fail "no step"))
local macro_rules | `(tactic| walk_at "mine enter") => `(tactic| (refine' enter ?k1 ?k2 ?k3 ?k4 ?k5 ?kd ?k6 ?k7 ?k8 ?k9 ?_ ?c2 ?c3 ?c4 ?c5; (case k1 => assumption); (case k2 => assumption); (case k3 => assumption); (case k4 => assumption); (case k5 => assumption); (case kd => omega); (case k6 => k_is); (case k7 => k_is); (case k8 => first | exact BindsTo.of_eq rfl | exact binds_K (Frag.In.keeps (by assumption) (Kept.keep (by assumption))) rfl (by k_is) rfl rfl rfl | exact binds_K (by k_in) rfl (by k_is) rfl rfl rfl); (case c5 => decide); (case k9 => exact locs rfl); (case c2 => exact rfl); (case c3 => exact rfl); (case c4 => exact rfl); k_whole; intro L' h' F' N' K'; (try dsimp only); (try k_fold)))
local macro_rules | `(tactic| walk_at "mine wr") => `(tactic| ((repeat (refine List.forall_mem_cons.mpr ⟨?_, ?_⟩; (· k_mem))); exact List.forall_mem_nil _))
local macro_rules | `(tactic| walk_at "mine split") => `(tactic| (repeat' (first | exact Split.nil | (refine' Split.keep ?a ?_; (case a => k_all)) | refine' Split.drop ?_)))
local macro_rules | `(tactic| walk_at "mine con") => `(tactic| ((case kB => assumption); (case kF => k_asm); (case kX => assumption); (case kT => assumption); (case kN => k_asm); (case kf => exact rfl); (case kk => exact rfl); (case kw => walk_at "mine wr"); (case ks => walk_at "mine split"); (case kd => walk_at "mine room"); (case ku => walk_at "mine room")))
local macro_rules | `(tactic| walk_at "mine conE") => `(tactic| ((case kB => assumption); (case kF => k_asm); (case kX => assumption); (case kT => assumption); (case kN => k_asm); (case kf => exact rfl); (case kk => exact rfl); (case kw => walk_at "mine wr"); (case ks => walk_at "mine split"); (case kd => walk_at "mine room"); (case ku => walk_at "mine room")))
local macro_rules | `(tactic| k_room) => `(tactic| ((try simp only [depth_mark, depth_under_make, depth_under_kw, depth_in1, depth_deeper, depth_caller]); (try dsimp only); omega))
local macro_rules | `(tactic| walk_at "mine map") => `(tactic| (refine' map_off _ ?hs ?a; (case a => (intro y hy; (have nn : ∀ z, _ = true → y ≠ z := fun z hz e => by subst e; exact absurd (hz.symm.trans hy) (by decide)); (try dsimp only); (repeat rw [if_neg (nn _ (by decide))]); first | done | exact rfl)); (case hs => decide)))
local macro_rules | `(tactic| walk_at "mine oneD") => `(tactic| (first | (k_unfold; (try dsimp only)) | (k_end; wrow_close) | (walk1; (try dsimp only [List.cons_append, List.nil_append])) | (dsimp only; walk1) | (leave1; walk_say "STEP leave1"; try dsimp only) | (dsimp only; k_unfold; (try dsimp only)) | (dsimp only [StepO]; k_unfold; (try dsimp only)) | fail "no step"))
local macro_rules | `(tactic| walk_at "mine enterN") => `(tactic| (refine' enterN ?k1 ?k2 ?k3 ?k4 ?k5 ?kd ?k6 ?k7 ?k8 ?k9 ?_ ?c2 ?c3 ?c4 ?c5; (case k1 => assumption); (case k2 => assumption); (case k3 => assumption); (case k4 => assumption); (case k5 => assumption); (case kd => omega); (case k6 => k_is); (case k7 => k_is); (case k8 => first | exact BindsTo.of_eq rfl | exact binds_K (Frag.In.keeps (by assumption) (Kept.keep (by assumption))) rfl (by k_is) rfl rfl rfl | exact binds_K (by k_in) rfl (by k_is) rfl rfl rfl); (case c5 => decide); (case k9 => exact locs rfl); (case c2 => exact rfl); (case c3 => exact rfl); (case c4 => exact rfl); k_whole; intro L' h' F' N' K'; (try dsimp only); (try k_fold)))
theorem push_led {g h : Heap} (K : Kept g h) : Kept g ((h.push emptyDict).push (instObj 193 h.objs.size)) ∧ Led g ((h.push emptyDict).push (instObj 193 h.objs.size)) [(h.objs.size + 1, instObj 193 h.objs.size), (h.objs.size, dictOf [] 0)] := by
  have none : ∀ a : Nat, h.objs.size ≤ a → g.get? a = none := fun a ha => by
    cases e : g.get? a with
    | none => rfl
    | some o => exact absurd (Heap.lt_size e) (Nat.not_lt.mpr (Nat.le_trans K.size ha))
  refine ⟨⟨fun b o e => Heap.get?_push_of_some _ (Heap.get?_push_of_some _ (K.keep b o e)), ?_⟩, fun p hp => ?_⟩
  · rw [Heap.size_push, Heap.size_push]
    exact Nat.le_trans K.size (Nat.le_succ_of_le (Nat.le_succ _))
  · simp only [List.mem_cons, List.not_mem_nil, or_false] at hp
    rcases hp with rfl | rfl
    · exact ⟨by heap_get, none _ (Nat.le_succ _)⟩
    · exact ⟨by heap_get, none _ (Nat.le_refl _)⟩
theorem news_new {g h h' : Heap} {L o : Addr} {m : Str → Option Value} {news : List (Addr × Obj)} {ob : Obj} (F : Fr g L h m) (N : News g L h news) (hk : ∀ a o, h.get? a = some o → h'.get? a = some o) (ho : h'.get? o = some ob) (hf : h.get? o = none) : News g L h' ((o, ob) :: news) := fun p hp => by
  rcases List.mem_cons.mp hp with rfl | hp
  · refine ⟨ho, fun e => ?_, ?_⟩
    · obtain ⟨oL, _, _, hL, _⟩ := F.ns
      have e' : o = L := e
      rw [← e', hf] at hL; cases hL
    · cases q : g.get? o with
      | none => rfl
      | some z => have := F.keep _ _ q; rw [hf] at this; cases this
  · exact N.grown hk p hp
theorem assign_Attr {M : Model} {A : Around} {E : Value → Shared → Prop} {s : Shared} {env : Env} {o : PySem.Expr} {attr : Str} {pos : Pos} {v : Value} {Q : Unit → Shared → Prop}
    (h : wpAny M A (eval o env) (fun ov s₂ => wpAny M A (setAttr ov attr v) Q E s₂) E s) : wpAny M A (assign (.Attribute o attr pos) env v) Q E s := fun Γ p hΓ => by
  simp only [assign_Attribute, Sem.wp_bind', Sem.wp_holding, Sem.wp_cmd_standAt, Sem.wp_release, Sem.wp_pure']
  exact Sem.wp_mono M Γ _ (fun ov _ s₂ h₂ => h₂ Γ _ hΓ) (fun _ _ _ h' => h') _ _ (h Γ _ hΓ)
theorem buffer_cap {w : World} {mean : ExcName → Option Value} {mg mb : Str → Option Value} {n : Int} {t : Tok} (h0 : 0 ≤ n) (hn : n ≤ 100000) :
    ConN w mean mg mb 10 193 [] [(Str.ofString "capacity", .int n t)] [] [] (fun r news' => ∃ x d o t1 t2 t3, r = .ref x ∧ news' = bufL w.params x d o (List.replicate n.toNat 0) 0 t1 t2 t3) := by
  intro dp un gd l base g s R B X T Kp N hrd hb hdp hun ret
  w_on
  have Xs := X.keeps Kp.keep
  obtain ⟨hp, gg, dd, tt, os⟩ := s
  obtain ⟨Kp', N'⟩ := push_led Kp
  refine makeN_core (fI := 62) Xs (by k_is) (by k_is) (by k_is) ?_
  show codeN _ (AX (dp + 1) (un + 1) gd l) _ _ _
  generalize hx : hp.objs.size + 1 = x at N' ⊢
  generalize hp.objs.size = d at N' Kp' ⊢
  generalize (hp.push emptyDict).push (instObj 193 d) = hq at N' Kp' ⊢
  clear N Xs Kp
  walk_at "mine enterN"
  refine wpN_execs_cons (wpN_If ?_)
  repeat' walk_at "mine one"
  refine wpN_execs_cons (wpN_Assign (wpN_Call ?_))
  repeat' walk_at "mine one"
  refine callWithN_type ?_
  repeat' walk_at "mine one"
  (with_reducible rename Fr _ _ _ _ => F1)
  (with_reducible rename News _ _ _ _ => N1)
  refine BA.callN_int h0 (by omega) fun h'' o ho hf hk hsz => ?_
  have F2 := F1.keeps hk
  have N2 := news_new F1 N1 hk ho hf
  have hxd : @Ne Nat x d := news_ne N2 (.tail _ (.head _)) (.tail _ (.tail _ (.head _))) (by simp)
  have hxo : @Ne Nat x o := news_ne N2 (.tail _ (.head _)) (.head _) (by simp)
  have hdo : @Ne Nat d o := news_ne N2 (.tail _ (.tail _ (.head _))) (.head _) (by simp)
  clear F1 N1 hk ho hf hsz
  dsimp only at F2 N2
  rw [show Array.replicate n.toNat (0 : UInt8) = (List.replicate n.toNat 0).toArray from by simp] at N2
  repeat' walk_at "mine one"
  refine wpN_of (wpAny_execs_nil ?_)
  refine wpN_execs_cons (wpN_of ?_)
  repeat' walk_at "mine one"
  refine wpN_of (wpAny_execs_nil ?_)
  (with_reducible rename Fr _ _ _ _ => F3)
  (with_reducible rename News _ _ _ _ => N3)
  refine' ⟨rfl, ret _ _ _ _ _ ⟨x, d, o, _, _, _, rfl, rfl⟩ hb (Kept.of_fr F3) (led3 N3 ?a ?b ?c)⟩
  case a => k_mem
  case b => k_mem
  case c => k_mem
theorem buffer_data {w : World} {mean : ExcName → Option Value} {mg mb : Str → Option Value} {bs : List UInt8} {t : Tok} (hn : bs.length ≤ 100000) :
    ConN w mean mg mb 10 193 [] [(Str.ofString "data", .bytes bs.toArray t)] [] [] (fun r news' => ∃ x d o t1 t2 t3, r = .ref x ∧ news' = bufL w.params x d o bs 0 t1 t2 t3) := by
  intro dp un gd l base g s R B X T Kp N hrd hb hdp hun ret
  w_on
  have Xs := X.keeps Kp.keep
  obtain ⟨hp, gg, dd, tt, os⟩ := s
  obtain ⟨Kp', N'⟩ := push_led Kp
  refine makeN_core (fI := 62) Xs (by k_is) (by k_is) (by k_is) ?_
  show codeN _ (AX (dp + 1) (un + 1) gd l) _ _ _
  generalize hx : hp.objs.size + 1 = x at N' ⊢
  generalize hp.objs.size = d at N' Kp' ⊢
  generalize (hp.push emptyDict).push (instObj 193 d) = hq at N' Kp' ⊢
  clear N Xs Kp
  walk_at "mine enterN"
  refine wpN_execs_cons (wpN_If ?_)
  repeat' walk_at "mine one"
  refine wpN_execs_cons (wpN_Assign (wpN_Call ?_))
  repeat' walk_at "mine one"
  refine callWithN_type ?_
  repeat' walk_at "mine one"
  (with_reducible rename Fr _ _ _ _ => F1)
  (with_reducible rename News _ _ _ _ => N1)
  refine BA.callN_bytes (by simp only [List.size_toArray]; omega) fun h'' o ho hf hk hsz => ?_
  have F2 := F1.keeps hk
  have N2 := news_new F1 N1 hk ho hf
  have hxd : @Ne Nat x d := news_ne N2 (.tail _ (.head _)) (.tail _ (.tail _ (.head _))) (by simp)
  have hxo : @Ne Nat x o := news_ne N2 (.tail _ (.head _)) (.head _) (by simp)
  have hdo : @Ne Nat d o := news_ne N2 (.tail _ (.tail _ (.head _))) (.head _) (by simp)
  clear F1 N1 hk ho hf hsz
  dsimp only at F2 N2
  repeat' walk_at "mine one"
  refine wpN_of (wpAny_execs_nil ?_)
  refine wpN_execs_cons (wpN_of ?_)
  repeat' walk_at "mine one"
  refine wpN_of (wpAny_execs_nil ?_)
  (with_reducible rename Fr _ _ _ _ => F3)
  (with_reducible rename News _ _ _ _ => N3)
  refine' ⟨rfl, ret _ _ _ _ _ ⟨x, d, o, _, _, _, rfl, rfl⟩ hb (Kept.of_fr F3) (led3 N3 ?a ?b ?c)⟩
  case a => k_mem
  case b => k_mem
  case c => k_mem
end Mine
end
section
open PySem PySem.W PyProof.Rows PySem.Calls
set_option maxRecDepth 100000
set_option maxHeartbeats 2000000
namespace Mine
theorem picked_pre (bs : List UInt8) (k : Nat) (h : k ≤ bs.length) : KBy.picked bs.toArray none (some (k : Int)) = (bs.take k).toArray := by
  rw [KBc.picked_eq]
  simp [clipAt_nat, Nat.min_eq_left h]
local macro_rules | `(tactic| walk_at "mine room") => `(tactic| first | (dsimp only; omega) | ((try simp only [depth_mark, depth_under_make, depth_under_kw, depth_in1, depth_deeper, units_deeper, units_in1, units_under_make]); (try dsimp only); omega))
local macro_rules | `(tactic| walk_at "mine one") => `(tactic| (first | (k_unfold; (try dsimp only)) | (k_end; wrow_close) | walk1 | (dsimp only; walk1) | (leave1; walk_say "STEP leave1"; try dsimp only) | (dsimp only; k_unfold; (try dsimp only)) | (dsimp only [StepO]; k_unfold; (try dsimp only)) | fail "no step"))
local macro_rules | `(tactic| walk_at "mine enter") => `(tactic| (refine' enter ?k1 ?k2 ?k3 ?k4 ?k5 ?kd ?k6 ?k7 ?k8 ?k9 ?_ ?c2 ?c3 ?c4 ?c5; (case k1 => assumption); (case k2 => assumption); (case k3 => assumption); (case k4 => assumption); (case k5 => assumption); (case kd => omega); (case k6 => k_is); (case k7 => k_is); (case k8 => first | exact BindsTo.of_eq rfl | exact binds_K (Frag.In.keeps (by assumption) (Kept.keep (by assumption))) rfl (by k_is) rfl rfl rfl | exact binds_K (by k_in) rfl (by k_is) rfl rfl rfl); (case c5 => decide); (case k9 => exact locs rfl); (case c2 => exact rfl); (case c3 => exact rfl); (case c4 => exact rfl); k_whole; intro L' h' F' N' K'; (try dsimp only); (try k_fold)))
local macro_rules | `(tactic| walk_at "mine wr") => `(tactic| ((repeat (refine List.forall_mem_cons.mpr ⟨?_, ?_⟩; (· k_mem))); exact List.forall_mem_nil _))
local macro_rules | `(tactic| walk_at "mine split") => `(tactic| (repeat' (first | exact Split.nil | (refine' Split.keep ?a ?_; (case a => k_all)) | refine' Split.drop ?_)))
local macro_rules | `(tactic| walk_at "mine con") => `(tactic| ((case kB => assumption); (case kF => k_asm); (case kX => assumption); (case kT => assumption); (case kN => k_asm); (case kf => exact rfl); (case kk => exact rfl); (case kw => walk_at "mine wr"); (case ks => walk_at "mine split"); (case kd => walk_at "mine room"); (case ku => walk_at "mine room")))
local macro_rules | `(tactic| walk_at "mine conE") => `(tactic| ((case kB => assumption); (case kF => k_asm); (case kX => assumption); (case kT => assumption); (case kN => k_asm); (case kf => exact rfl); (case kk => exact rfl); (case kw => walk_at "mine wr"); (case ks => walk_at "mine split"); (case kd => walk_at "mine room"); (case ku => walk_at "mine room")))
local macro_rules | `(tactic| k_room) => `(tactic| ((try simp only [depth_mark, depth_under_make, depth_under_kw, depth_in1, depth_deeper, depth_caller]); (try dsimp only); omega))
local macro_rules | `(tactic| walk_at "mine map") => `(tactic| (refine' map_off _ ?hs ?a; (case a => (intro y hy; (have nn : ∀ z, _ = true → y ≠ z := fun z hz e => by subst e; exact absurd (hz.symm.trans hy) (by decide)); (try dsimp only); (repeat rw [if_neg (nn _ (by decide))]); first | done | exact rfl)); (case hs => decide)))
local macro_rules | `(tactic| walk_at "mine oneD") => `(tactic| (first | (k_unfold; (try dsimp only)) | (k_end; wrow_close) | (walk1; (try dsimp only [List.cons_append, List.nil_append])) | (dsimp only; walk1) | (leave1; walk_say "STEP leave1"; try dsimp only) | (dsimp only; k_unfold; (try dsimp only)) | (dsimp only [StepO]; k_unfold; (try dsimp only)) | fail "no step"))
local macro_rules | `(tactic| walk_at "mine size") => `(tactic| ((try simp only [Array.size_append]); refine Nat.le_trans (by first | exact Nat.add_le_add (Nat.add_le_add (KBc.size_picked_le _ _ _) (Nat.le_refl _)) (KBc.size_picked_le _ _ _) | exact Nat.add_le_add (KBc.size_picked_le _ _ _) (Nat.le_refl _) | exact KBc.size_picked_le _ _ _) ?_; simp only [List.size_toArray, List.length_append]; omega))
local macro_rules | `(tactic| walk_at "call builtin:len") => `(tactic| (k_here; (with_reducible show wpAny _ _ (call (Value.builtin "len") [Value.ref _]) _ _ _); (with_reducible rename News _ _ _ _ => N'); (first | (refine' len_app ?ba ?hz ?_; (case ba => exact led_ba N' (by k_mem)); (case hz => omega); k_whole) | (refine' len_bs ?ba ?hz ?_; (case ba => exact led_ba N' (by k_mem)); (case hz => omega); k_whole))))
local macro_rules | `(tactic| walk_at "subscriptTail") => `(tactic| (k_here; (with_reducible show wpAny _ _ (subscriptTail _ (Expr.Slice _ _ none _) (Value.ref _) (Value.ref _)) _ _ _); (with_reducible rename Fr _ _ _ _ => F'); (with_reducible rename News _ _ _ _ => N'); (refine' BA.slice_N (s := ⟨_, _, _, _, _⟩) F' N' ?ba (by constructor) (by constructor) ?hz ?_; (case ba => exact led_ba N' (by k_mem)); (case hz => walk_at "mine size"); intro h' x' F' N' l1; (try k_lt l1); (try k_sweep); (try dsimp only))))
local macro_rules | `(tactic| walk_at "binaryOp Add") => `(tactic| (k_here; (with_reducible show wpAny _ _ (binaryOp _ (Value.ref _) (Value.bytes _ _)) _ _ _); (with_reducible rename Fr _ _ _ _ => F'); (with_reducible rename News _ _ _ _ => N'); (refine' BA.add_b F' N' ?ba ?hz ?_; (case ba => exact led_ba N' (by k_mem)); (case hz => walk_at "mine size"); intro h' x' F' N' l1; (try k_lt l1); (try k_sweep); (try dsimp only))))
local macro_rules | `(tactic| walk_at "binaryOp Add") => `(tactic| (k_here; (with_reducible show wpAny _ _ (binaryOp _ (Value.ref _) (Value.ref _)) _ _ _); (with_reducible rename Fr _ _ _ _ => F'); (with_reducible rename News _ _ _ _ => N'); (refine' BA.add_ba F' N' ?ba ?bb ?hz ?_; (case ba => exact led_ba N' (by k_mem)); (case bb => exact led_ba N' (by k_mem)); (case hz => walk_at "mine size"); intro h' x' F' N' l1; (try k_lt l1); (try k_sweep); (try dsimp only))))
local macro_rules | `(tactic| walk_at "call type:bytes") => `(tactic| (k_here; (with_reducible show wpAny _ _ (call (Value.type "bytes") [Value.ref _]) _ _ _); (with_reducible rename News _ _ _ _ => N'); (refine' BA.bytes_of ?ba ?hz ?_; (case ba => exact led_ba N' (by k_mem)); (case hz => walk_at "mine size"); intro _ _; (try dsimp only))))
local macro_rules | `(tactic| k_inst) => `(tactic| (refine' Mine.InstAt.of_base ?F ?h1 ?h2; (case F => k_asm); (case h1 => assumption); (case h2 => assumption)))
/-- Buffer.data, Buffer.tell: reads; the buffer stands in the ground -/
theorem buf_data {w : World} {mean : ExcName → Option Value} {mg mb : Str → Option Value} {x d o : Addr} {t1 t2 t3 : Tok} {bs : List UInt8} {k : Nat} (hz : bs.length ≤ 100000) (hk : k ≤ bs.length) :
    Con w mean mg mb 5 77 [.ref x] [] (bufL w.params x d o bs (k : Nat) t1 t2 t3) (fun r news' => (∃ t, r = .bytes (bs.take k).toArray t) ∧ news' = bufL w.params x d o bs (k : Nat) t1 t2 t3) := by
  intro dp un gd ll base g s R B X T Kp N hdp hun ret
  w_on
  have hxd : @Ne Nat x d := led_ne N (.head _) (.tail _ (.head _)) (cls_ne (by simp))
  have hxo : @Ne Nat x o := led_ne N (.head _) (.tail _ (.tail _ (.head _))) (cls_ne (by simp))
  have hdo : @Ne Nat d o := led_ne N (.tail _ (.head _)) (.tail _ (.tail _ (.head _))) (cls_ne (by simp))
  walk_at "mine enter"
  repeat' walk_at "mine oneD"
  (with_reducible rename Fr _ _ _ _ => F1)
  (with_reducible rename News _ _ _ _ => N1)
  rw [picked_pre bs k hk]
  refine' ret _ _ _ _ ⟨⟨_, rfl⟩, rfl⟩ (Kept.of_fr F1) (led3 N1 ?a ?b ?c)
  case a => k_mem
  case b => k_mem
  case c => k_mem
theorem buf_tell {w : World} {mean : ExcName → Option Value} {mg mb : Str → Option Value} {x d o : Addr} {t1 t2 t3 : Tok} {bs : List UInt8} {k : Nat} :
    Con w mean mg mb 5 106 [.ref x] [] (bufL w.params x d o bs (k : Nat) t1 t2 t3) (fun r news' => (∃ t, r = .int (k : Nat) t) ∧ news' = bufL w.params x d o bs (k : Nat) t1 t2 t3) := by
  intro dp un gd ll base g s R B X T Kp N hdp hun ret
  w_on
  have hxd : @Ne Nat x d := led_ne N (.head _) (.tail _ (.head _)) (cls_ne (by simp))
  have hxo : @Ne Nat x o := led_ne N (.head _) (.tail _ (.tail _ (.head _))) (cls_ne (by simp))
  have hdo : @Ne Nat d o := led_ne N (.tail _ (.head _)) (.tail _ (.tail _ (.head _))) (cls_ne (by simp))
  walk_at "mine enter"
  repeat' walk_at "mine oneD"
  (with_reducible rename Fr _ _ _ _ => F1)
  (with_reducible rename News _ _ _ _ => N1)
  exact ret _ _ _ _ ⟨⟨_, rfl⟩, rfl⟩ (Kept.of_fr F1) (Led.of_news N1)
theorem buf_seek {w : World} {mean : ExcName → Option Value} {mg mb : Str → Option Value} {x d o : Addr} {t1 t2 t3 tp : Tok} {bs : List UInt8} {k : Int} {p : Nat} (hz : bs.length ≤ 100000) (hp : p ≤ bs.length) :
    Con w mean mg mb 5 99 [.ref x, .int (p : Nat) tp] [] (bufL w.params x d o bs k t1 t2 t3) (fun r news' => r = .none ∧ ∃ t3', news' = bufL w.params x d o bs (p : Nat) t1 t2 t3') := by
  intro dp un gd ll base g s R B X T Kp N hdp hun ret
  w_on
  have hxd : @Ne Nat x d := led_ne N (.head _) (.tail _ (.head _)) (cls_ne (by simp))
  have hxo : @Ne Nat x o := led_ne N (.head _) (.tail _ (.tail _ (.head _))) (cls_ne (by simp))
  have hdo : @Ne Nat d o := led_ne N (.tail _ (.head _)) (.tail _ (.tail _ (.head _))) (cls_ne (by simp))
  walk_at "mine enter"
  repeat' walk_at "mine oneD"
  (with_reducible rename Fr _ _ _ _ => F1)
  (with_reducible rename News _ _ _ _ => N1)
  refine' ret _ _ _ _ ⟨rfl, _, rfl⟩ (Kept.of_fr F1) (led3 N1 ?a ?b ?c)
  case a => k_mem
  case b => k_mem
  case c => k_mem
end Mine
end
section
open PySem PySem.W PyProof.Rows PySem.Calls
set_option maxRecDepth 100000
namespace Mine
theorem uval_snoc (l : List UInt8) (c : UInt8) : uval (l ++ [c]) = uval l * 256 + (c.toNat : Int) := by
  rw [uval_nat, uval_nat, List.foldl_append]
  simp only [List.foldl_cons, List.foldl_nil]
  omega
theorem beI_succ (n : Nat) (x : Int) : beI (n + 1) x = beI n (x / 256) ++ [UInt8.ofNat (x % 256).toNat] := by
  unfold beI
  show ((x % 256 :: KTBy.little n (x / 256)).reverse).map _ = _
  rw [List.reverse_cons, List.map_append]
  rfl
theorem uval_beI : ∀ (n : Nat) (x : Int), 0 ≤ x → x < 256 ^ n → uval (beI n x) = x
  | 0, x, h0, h1 => by
    have : x = 0 := by
      have : (256 : Int) ^ 0 = 1 := rfl
      omega
    subst this
    rfl
  | n + 1, x, h0, h1 => by
    have h2 : x / 256 < 256 ^ n := by
      rw [Int.pow_succ] at h1
      exact Int.ediv_lt_of_lt_mul (by decide) h1
    rw [beI_succ, uval_snoc, uval_beI n (x / 256) (by omega) h2]
    have h3 : ((UInt8.ofNat (x % 256).toNat).toNat : Int) = x % 256 := by
      rw [UInt8.toNat_ofNat']
      have := Int.emod_nonneg x (show (256 : Int) ≠ 0 by decide)
      have := Int.emod_lt_of_pos x (show (0 : Int) < 256 by decide)
      omega
    rw [h3]
    omega
theorem pv_at {pre e post : List UInt8} {c : UInt8} {r : List UInt8} (he : e = c :: r) (hl : e.length = 2 ^ (c.toNat / 64)) :
    pv (pre ++ (e ++ post)) pre.length = some (uval e % 2 ^ (8 * 2 ^ (c.toNat / 64) - 2), pre.length + e.length) := by
  have hc : (pre ++ (e ++ post))[pre.length]? = some c := by subst he; simp
  unfold pv
  rw [hc]
  dsimp only
  rw [← hl, if_pos (by simp)]
  rw [List.drop_left' rfl, List.take_left' rfl]
theorem pv_cut {pre e : List UInt8} {j : Nat} {c : UInt8} {r : List UInt8} (he : e = c :: r) (hl : e.length = 2 ^ (c.toNat / 64)) (hj : j < e.length) : pv (pre ++ e.take j) pre.length = none := by
  unfold pv
  cases j with
  | zero => simp
  | succ j =>
    have hc : (pre ++ e.take (j + 1))[pre.length]? = some c := by subst he; simp
    rw [hc]
    dsimp only
    rw [← hl, if_neg]
    rw [List.length_append, List.length_take]
    omega
theorem beI_head (n : Nat) (x : Int) : ∃ r, beI (n + 1) x = UInt8.ofNat (x / 256 ^ n % 256).toNat :: r := by
  induction n generalizing x with
  | zero => exact ⟨[], by rw [beI_succ]; simp [beI, KTBy.little]⟩
  | succ n ih =>
    obtain ⟨r, hr⟩ := ih (x / 256)
    refine ⟨r ++ [UInt8.ofNat (x % 256).toNat], ?_⟩
    rw [beI_succ, hr, List.cons_append]
    congr 4
    rw [Int.ediv_ediv_of_nonneg (by decide), Int.pow_succ, Int.mul_comm]
/-- what a written number reads as -/
theorem vput_parts (v : Int) (l : Nat) (h0 : 0 ≤ v) (h1 : v < 4611686018427387904) (hl : l ≤ 3) : ∃ c r, vput v l = c :: r ∧ (vput v l).length = 2 ^ (c.toNat / 64) ∧ uval (vput v l) % 2 ^ (8 * 2 ^ (c.toNat / 64) - 2) = v := by
  have hc := vidx_cases v
  have hi : ∃ i : Nat, i = max (vidx v) l := ⟨_, rfl⟩
  obtain ⟨i, hi⟩ := hi
  have hv : vput v l = if i = 0 then beI 1 v else if i = 1 then beI 2 (v + 16384) else if i = 2 then beI 4 (v + 2147483648) else beI 8 (v + 13835058055282163712) := by rw [hi]; rfl
  have hi3 : (i = 0 ∧ v ≤ 63) ∨ (i = 1 ∧ v ≤ 16383) ∨ (i = 2 ∧ v ≤ 1073741823) ∨ i = 3 := by omega
  clear hc
  have key : ∀ (n j : Nat) (x : Int), 0 ≤ x → x < 256 ^ (n + 1) → x / 256 ^ n % 256 / 64 = (j : Int) → n + 1 = 2 ^ j → x % 2 ^ (8 * 2 ^ j - 2) = v →
      ∃ c r, beI (n + 1) x = c :: r ∧ (beI (n + 1) x).length = 2 ^ (c.toNat / 64) ∧ uval (beI (n + 1) x) % 2 ^ (8 * 2 ^ (c.toNat / 64) - 2) = v := fun n j x hx0 hx1 hj hn hm => by
    obtain ⟨r, hr⟩ := beI_head n x
    have hcn : (UInt8.ofNat (x / 256 ^ n % 256).toNat).toNat / 64 = j := by
      rw [UInt8.toNat_ofNat']
      have := Int.emod_nonneg (x / 256 ^ n) (show (256 : Int) ≠ 0 by decide)
      have := Int.emod_lt_of_pos (x / 256 ^ n) (show (0 : Int) < 256 by decide)
      omega
    refine ⟨_, r, hr, ?_, ?_⟩
    · rw [hcn, beI_length, hn]
    · rw [hcn, uval_beI _ _ hx0 hx1, hm]
  rcases hi3 with ⟨rfl, hb⟩ | ⟨rfl, hb⟩ | ⟨rfl, hb⟩ | rfl
  · rw [hv, if_pos rfl]
    exact key 0 0 v h0 (by show v < 256; omega) (by show v / 1 % 256 / 64 = 0; omega) rfl (by show v % 64 = v; omega)
  · rw [hv, if_neg (by decide), if_pos rfl]
    exact key 1 1 (v + 16384) (by omega) (by show v + 16384 < 65536; omega) (by show (v + 16384) / 256 % 256 / 64 = 1; omega) rfl (by show (v + 16384) % 16384 = v; omega)
  · rw [hv, if_neg (by decide), if_neg (by decide), if_pos rfl]
    exact key 3 2 (v + 2147483648) (by omega) (by show v + 2147483648 < 4294967296; omega) (by show (v + 2147483648) / 16777216 % 256 / 64 = 2; omega) rfl (by show (v + 2147483648) % 1073741824 = v; omega)
  · rw [hv, if_neg (by decide), if_neg (by decide), if_neg (by decide)]
    exact key 7 3 (v + 13835058055282163712) (by omega) (by show v + 13835058055282163712 < 18446744073709551616; omega) (by show (v + 13835058055282163712) / 72057594037927936 % 256 / 64 = 3; omega) rfl (by show (v + 13835058055282163712) % 4611686018427387904 = v; omega)
theorem pv_vput (pre post : List UInt8) (v : Int) (l : Nat) (h0 : 0 ≤ v) (h1 : v < 4611686018427387904) (hl : l ≤ 3) : pv (pre ++ (vput v l ++ post)) pre.length = some (v, pre.length + (vput v l).length) := by
  obtain ⟨c, r, h2, h3, h4⟩ := vput_parts v l h0 h1 hl
  rw [pv_at h2 h3, h4]
theorem pv_vcut (pre : List UInt8) (v : Int) (l j : Nat) (h0 : 0 ≤ v) (h1 : v < 4611686018427387904) (hl : l ≤ 3) (hj : j < (vput v l).length) : pv (pre ++ (vput v l).take j) pre.length = none := by
  obtain ⟨c, r, h2, h3, h4⟩ := vput_parts v l h0 h1 hl
  exact pv_cut h2 h3 hj
end Mine
end
section
open PySem PySem.W PyProof.Rows PySem.Calls
set_option maxRecDepth 100000
namespace Mine
/-- gaps and sizes by the law's own writer, each with the least index of its length -/
def gfr : List (Int × Int × Nat) → List UInt8
  | [] => []
  | (g, z, l) :: r => vput g l ++ vput z l ++ gfr r
def gframe (e dl : Int) (l0 ld : Nat) (z : Int) (tl : List (Int × Int × Nat)) : List UInt8 := vput e l0 ++ vput dl ld ++ vput (tl.length : Int) l0 ++ vput z l0 ++ gfr tl
def grow : Int → List (Int × Int × Nat) → List (Int × Int) → Int × List (Int × Int)
  | e, [], acc => (e, acc)
  | e, (g, z, _) :: r, acc => grow (e - (g + 2) - z) r ((e - (g + 2) - z, e - (g + 2) + 1) :: acc)
def OkG (tl : List (Int × Int × Nat)) : Prop := ∀ q ∈ tl, 0 ≤ q.1 ∧ q.1 < 4611686018427387904 ∧ 0 ≤ q.2.1 ∧ q.2.1 < 4611686018427387904 ∧ q.2.2 ≤ 3
theorem prow_gfr : ∀ (tl : List (Int × Int × Nat)) (pre post : List UInt8) (e : Int) (acc : List (Int × Int)), OkG tl →
    prow (pre ++ (gfr tl ++ post)) tl.length pre.length e acc = some (pre.length + (gfr tl).length, (grow e tl acc).1, (grow e tl acc).2)
  | [], pre, post, e, acc, _ => rfl
  | (g, z, l) :: r, pre, post, e, acc, ok => by
    obtain ⟨h1, h2, h3, h4, h5⟩ := ok _ (.head _)
    dsimp only at h1 h2 h3 h4 h5
    have e1 : pre ++ (gfr ((g, z, l) :: r) ++ post) = pre ++ (vput g l ++ (vput z l ++ (gfr r ++ post))) := by simp [gfr]
    have e2 : pre ++ (vput g l ++ (vput z l ++ (gfr r ++ post))) = (pre ++ vput g l) ++ (vput z l ++ (gfr r ++ post)) := by simp
    have e3 : pre ++ (vput g l ++ (vput z l ++ (gfr r ++ post))) = (pre ++ vput g l ++ vput z l) ++ (gfr r ++ post) := by simp
    have p1 := pv_vput pre (vput z l ++ (gfr r ++ post)) g l h1 h2 h5
    have p2 := pv_vput (pre ++ vput g l) (gfr r ++ post) z l h3 h4 h5
    rw [← e2, List.length_append] at p2
    have ih := prow_gfr r (pre ++ vput g l ++ vput z l) post (e - (g + 2) - z) ((e - (g + 2) - z, e - (g + 2) + 1) :: acc) fun q hq => ok q (.tail _ hq)
    rw [← e3] at ih
    simp only [List.length_append] at ih
    rw [e1, List.length_cons]
    unfold prow
    rw [p1]
    dsimp only
    rw [p2]
    dsimp only
    rw [ih]
    simp only [gfr, grow, List.length_append, Nat.add_assoc]
theorem pack_gframe (pre post : List UInt8) {e dl z : Int} {l0 ld : Nat} {tl : List (Int × Int × Nat)} (he0 : 0 ≤ e) (he1 : e < 4611686018427387904) (hd0 : 0 ≤ dl) (hd1 : dl < 4611686018427387904) (hz0 : 0 ≤ z) (hz1 : z < 4611686018427387904) (hl0 : l0 ≤ 3) (hld : ld ≤ 3) (hn : tl.length < 1000) (ok : OkG tl) :
    pack (pre ++ (gframe e dl l0 ld z tl ++ post)) pre.length = some (pre.length + (gframe e dl l0 ld z tl).length, (grow (e - z) tl [(e - z, e + 1)]).1, (grow (e - z) tl [(e - z, e + 1)]).2, dl) := by
  have e1 : pre ++ (gframe e dl l0 ld z tl ++ post) = pre ++ (vput e l0 ++ (vput dl ld ++ (vput (tl.length : Int) l0 ++ (vput z l0 ++ (gfr tl ++ post))))) := by simp [gframe]
  have p1 := pv_vput pre (vput dl ld ++ (vput (tl.length : Int) l0 ++ (vput z l0 ++ (gfr tl ++ post)))) e l0 he0 he1 hl0
  have p2 := pv_vput (pre ++ vput e l0) (vput (tl.length : Int) l0 ++ (vput z l0 ++ (gfr tl ++ post))) dl ld hd0 hd1 hld
  have p3 := pv_vput (pre ++ vput e l0 ++ vput dl ld) (vput z l0 ++ (gfr tl ++ post)) (tl.length : Int) l0 (by omega) (by omega) hl0
  have p4 := pv_vput (pre ++ vput e l0 ++ vput dl ld ++ vput (tl.length : Int) l0) (gfr tl ++ post) z l0 hz0 hz1 hl0
  have p5 := prow_gfr tl (pre ++ vput e l0 ++ vput dl ld ++ vput (tl.length : Int) l0 ++ vput z l0) post (e - z) [(e - z, e + 1)] ok
  simp only [List.append_assoc] at p1 p2 p3 p4 p5
  simp only [List.length_append, ← Nat.add_assoc] at p1 p2 p3 p4 p5
  rw [e1]
  unfold pack
  rw [p1]
  dsimp only
  rw [p2]
  dsimp only
  rw [p3]
  dsimp only
  rw [p4]
  dsimp only
  rw [Int.toNat_natCast, p5]
  simp only [gframe, List.length_append, ← Nat.add_assoc]
theorem take_two {α : Type} (a b : List α) (j : Nat) : (j < a.length ∧ (a ++ b).take j = a.take j) ∨ (a.length ≤ j ∧ (a ++ b).take j = a ++ b.take (j - a.length)) := by
  rcases Nat.lt_or_ge j a.length with h | h
  · exact .inl ⟨h, List.take_append_of_le_length (Nat.le_of_lt h)⟩
  · refine .inr ⟨h, ?_⟩
    rw [List.take_append, List.take_of_length_le h]
theorem prow_cut : ∀ (tl : List (Int × Int × Nat)) (pre : List UInt8) (e : Int) (acc : List (Int × Int)) (j : Nat), OkG tl → j < (gfr tl).length → prow (pre ++ (gfr tl).take j) tl.length pre.length e acc = none
  | [], pre, e, acc, j, _, hj => absurd hj (Nat.not_lt_zero _)
  | (g, z, l) :: r, pre, e, acc, j, ok, hj => by
    obtain ⟨h1, h2, h3, h4, h5⟩ := ok _ (.head _)
    dsimp only at h1 h2 h3 h4 h5
    have e1 : gfr ((g, z, l) :: r) = vput g l ++ (vput z l ++ gfr r) := by simp [gfr]
    rw [e1] at hj ⊢
    rw [List.length_cons]
    rcases take_two (vput g l) (vput z l ++ gfr r) j with ⟨c1, t1⟩ | ⟨c1, t1⟩
    · rw [t1]
      unfold prow
      rw [pv_vcut pre g l j h1 h2 h5 c1]
    · rw [t1]
      have p1 := pv_vput pre ((vput z l ++ gfr r).take (j - (vput g l).length)) g l h1 h2 h5
      unfold prow
      rw [p1]
      dsimp only
      rcases take_two (vput z l) (gfr r) (j - (vput g l).length) with ⟨c2, t2⟩ | ⟨c2, t2⟩
      · have p2 := pv_vcut (pre ++ vput g l) z l (j - (vput g l).length) h3 h4 h5 c2
        rw [List.length_append, List.append_assoc] at p2
        rw [t2, p2]
      · have p2 := pv_vput (pre ++ vput g l) ((gfr r).take (j - (vput g l).length - (vput z l).length)) z l h3 h4 h5
        rw [List.length_append, List.append_assoc] at p2
        rw [t2, p2]
        dsimp only
        have ih := prow_cut r (pre ++ vput g l ++ vput z l) (e - (g + 2) - z) ((e - (g + 2) - z, e - (g + 2) + 1) :: acc) (j - (vput g l).length - (vput z l).length) (fun q hq => ok q (.tail _ hq)) (by simp only [List.length_append] at hj; omega)
        simp only [List.length_append, List.append_assoc, Nat.add_assoc] at ih ⊢
        exact ih
theorem pack_cut {e dl z : Int} {l0 ld : Nat} {tl : List (Int × Int × Nat)} (he0 : 0 ≤ e) (he1 : e < 4611686018427387904) (hd0 : 0 ≤ dl) (hd1 : dl < 4611686018427387904) (hz0 : 0 ≤ z) (hz1 : z < 4611686018427387904) (hl0 : l0 ≤ 3) (hld : ld ≤ 3) (hn : tl.length < 1000) (ok : OkG tl) (j : Nat) (hj : j < (gframe e dl l0 ld z tl).length) :
    pack ((gframe e dl l0 ld z tl).take j) 0 = none := by
  have e1 : gframe e dl l0 ld z tl = vput e l0 ++ (vput dl ld ++ (vput (tl.length : Int) l0 ++ (vput z l0 ++ gfr tl))) := by simp [gframe]
  rw [e1] at hj ⊢
  unfold pack
  rcases take_two (vput e l0) (vput dl ld ++ (vput (tl.length : Int) l0 ++ (vput z l0 ++ gfr tl))) j with ⟨c1, t1⟩ | ⟨c1, t1⟩
  · have p1 := pv_vcut [] e l0 j he0 he1 hl0 c1
    rw [List.nil_append, List.length_nil] at p1
    rw [t1, p1]
  have p1 := fun q => pv_vput [] q e l0 he0 he1 hl0
  simp only [List.nil_append, List.length_nil, Nat.zero_add] at p1
  rw [t1, p1]
  dsimp only
  rcases take_two (vput dl ld) (vput (tl.length : Int) l0 ++ (vput z l0 ++ gfr tl)) (j - (vput e l0).length) with ⟨c2, t2⟩ | ⟨c2, t2⟩
  · rw [t2, pv_vcut (vput e l0) dl ld _ hd0 hd1 hld c2]
  have p2 := fun q => pv_vput (vput e l0) q dl ld hd0 hd1 hld
  rw [t2, p2]
  dsimp only
  rcases take_two (vput (tl.length : Int) l0) (vput z l0 ++ gfr tl) (j - (vput e l0).length - (vput dl ld).length) with ⟨c3, t3⟩ | ⟨c3, t3⟩
  · have p3 := pv_vcut (vput e l0 ++ vput dl ld) (tl.length : Int) l0 _ (by omega) (by omega) hl0 c3
    rw [List.length_append, List.append_assoc] at p3
    rw [t3, p3]
  have p3 := fun q => pv_vput (vput e l0 ++ vput dl ld) q (tl.length : Int) l0 (by omega) (by omega) hl0
  simp only [List.length_append, List.append_assoc, ← Nat.add_assoc] at p3
  rw [t3, p3]
  dsimp only
  rcases take_two (vput z l0) (gfr tl) (j - (vput e l0).length - (vput dl ld).length - (vput (tl.length : Int) l0).length) with ⟨c4, t4⟩ | ⟨c4, t4⟩
  · have p4 := pv_vcut (vput e l0 ++ vput dl ld ++ vput (tl.length : Int) l0) z l0 _ hz0 hz1 hl0 c4
    simp only [List.length_append, List.append_assoc, ← Nat.add_assoc] at p4
    rw [t4, p4]
  have p4 := fun q => pv_vput (vput e l0 ++ vput dl ld ++ vput (tl.length : Int) l0) q z l0 hz0 hz1 hl0
  simp only [List.length_append, List.append_assoc, ← Nat.add_assoc] at p4
  rw [t4, p4]
  dsimp only
  have p5 := prow_cut tl (vput e l0 ++ vput dl ld ++ vput (tl.length : Int) l0 ++ vput z l0) (e - z) [(e - z, e + 1)] (j - (vput e l0).length - (vput dl ld).length - (vput (tl.length : Int) l0).length - (vput z l0).length) ok (by simp only [List.length_append] at hj; omega)
  simp only [List.length_append, List.append_assoc, ← Nat.add_assoc] at p5
  rw [Int.toNat_natCast, p5]
/-- a set's frame is one of these -/
def gaps : Int → List (Int × Int) → List (Int × Int × Nat)
  | _, [] => []
  | s, (a, b) :: r => (s - b - 1, b - a - 1, 0) :: gaps a r
theorem fgap_gfr : ∀ (xs : List (Int × Int)) (s : Int), fgap s xs = gfr (gaps s xs)
  | [], _ => rfl
  | (a, b) :: r, s => by
    show venc (s - b - 1) ++ venc (b - a - 1) ++ fgap a r = vput (s - b - 1) 0 ++ vput (b - a - 1) 0 ++ gfr (gaps a r)
    rw [vput_zero, vput_zero, fgap_gfr r a]
theorem gaps_length : ∀ (xs : List (Int × Int)) (s : Int), (gaps s xs).length = xs.length
  | [], _ => rfl
  | (a, b) :: r, s => by
    show (gaps a r).length + 1 = r.length + 1
    rw [gaps_length r a]
theorem fenc_gframe (delay a b : Int) (xs : List (Int × Int)) : fenc delay ((a, b) :: xs) = gframe (b - 1) delay 0 0 (b - 1 - a) (gaps a xs) := by
  show venc (b - 1) ++ venc delay ++ venc (xs.length : Int) ++ venc (b - 1 - a) ++ fgap a xs = _
  unfold gframe
  rw [vput_zero, vput_zero, vput_zero, vput_zero, gaps_length, fgap_gfr]
theorem grow_gaps : ∀ (xs : List (Int × Int)) (s : Int) (acc : List (Int × Int)), (grow s (gaps s xs) acc).2 = xs.reverse ++ acc ∧ (grow s (gaps s xs) acc).1 = (match xs.getLast? with | some q => q.1 | none => s)
  | [], s, acc => ⟨rfl, rfl⟩
  | (a, b) :: r, s, acc => by
    have e1 : s - (s - b - 1 + 2) - (b - a - 1) = a := by omega
    have e2 : s - (s - b - 1 + 2) + 1 = b := by omega
    have ih := grow_gaps r a ((a, b) :: acc)
    show (grow (s - (s - b - 1 + 2) - (b - a - 1)) (gaps a r) ((s - (s - b - 1 + 2) - (b - a - 1), s - (s - b - 1 + 2) + 1) :: acc)).2 = _ ∧ (grow (s - (s - b - 1 + 2) - (b - a - 1)) (gaps a r) ((s - (s - b - 1 + 2) - (b - a - 1), s - (s - b - 1 + 2) + 1) :: acc)).1 = _
    rw [e1, e2]
    refine ⟨by rw [ih.1]; simp, ?_⟩
    rw [ih.2]
    cases r with
    | nil => rfl
    | cons q r =>
      rw [List.getLast?_cons_cons]
      rw [List.getLast?_eq_some_getLast (List.cons_ne_nil q r)]
theorem okG_gaps : ∀ (xs : List (Int × Int)) (s : Int), s ≤ 4611686018427387904 → (∀ q ∈ xs.head?, q.2 < s) → OkR xs → OkG (gaps s xs)
  | [], _, _, _, _ => fun _ h => nomatch h
  | (a, b) :: r, s, hs, hh, ⟨h1, h2, h3, h4, h5⟩ => by
    have hb := hh _ rfl
    dsimp only at hb
    intro q hq
    rcases List.mem_cons.mp hq with rfl | hq
    · exact ⟨by dsimp only; omega, by dsimp only; omega, by dsimp only; omega, by dsimp only; omega, Nat.zero_le _⟩
    · exact okG_gaps r a (by omega) h4 h5 q hq
end Mine
end
section
open PySem PySem.W PyProof.Rows PySem.Calls
set_option maxRecDepth 100000
namespace Mine
section
variable {M : Model} {A : Around} {R : GenEnd} {Y : Protocol} {n : Nat} {s₀ : Shared} {c : Code} {fs : List Frame} {s : Shared} {env : Env}
  {K : Flow → Sem Fin} {H : Value → Sem Fin} {gd : Bool → Bool} {lv : List Value → List Value}
theorem seg_For {target iter : PySem.Expr} {body orelse : List Stmt} {pos : Pos}
    (h : wpAny M (A.over c fs) (eval iter env) (fun xv s₁ => wpAny M (A.over c fs) (pyIter xv) (fun it s₂ => ∀ p,
      Seg M A R Y n s₀ (.forLoop target it body orelse env) (M.den (.forLoop target it body orelse env))
        (.ret (fun r => ((match r with | .ok f => (.pure f : Sem Flow) | .error e => .raise e).onRaise fun (x : Value) => do
          if (← field x 1) == Value.none then unsupported "frame.own-activation:exception-without-traceback"
          setFlight x env.frame).wrap K H gd lv) none (gd false) (lv []) c p [] :: fs) s₂) (fun x s' => Seg M A R Y n s₀ c (H x) fs s') s₁) (fun x s' => Seg M A R Y n s₀ c (H x) fs s') s)
    (hs : ∀ x, foldedSetIterable iter env x = pure x) :
    Seg M A R Y n s₀ c ((exec (.For target iter body orelse pos) env).wrap K H gd lv) fs s := by
  rw [arm_exec_For]
  refine seg_bind_wrap (wpAny_standAt ?_)
  refine seg_bind_wrap (wpAny_mono h (fun xv s₁ h₁ => ?_) fun _ _ e => e)
  rw [hs]
  refine seg_bind_wrap (wpAny_pure ?_)
  refine seg_bind_wrap (wpAny_standAt ?_)
  refine seg_bind_wrap (wpAny_holding (wpAny_mono h₁ (fun it s₂ h₂ => ?_) fun _ _ e => e))
  exact seg_call h₂
end
/-- what a sleeping generator of RangeSet.__iter__ leans on: its frame, its list iterator, the list -/
def GSt (h₀ : Heap) (Lg Jt lr : Addr) (vs : List Value) (i : Nat) (h : Heap) : Prop :=
  (∀ b o, h₀.get? b = some o → h.get? b = some o) ∧ (∃ m, h.Ns Lg m) ∧ h.IsListIter Jt lr i ∧ h.IsList lr vs.toArray
def gR (Lg Jt : Addr) : GenEnd := fun n s₀ r s₁ => r = .ok (.ret .none) ∧ (n = 0 ∧ GenSince Lg [Jt] s₀ s₁)
def gY (h₀ : Heap) (Lg Jt lr : Addr) (vs : List Value) : Protocol := fun m s₀ v s kap =>
  (∃ i, i + m + 1 = vs.length ∧ vs[i]? = some v ∧ GSt h₀ Lg Jt lr vs (i + 1) s.heap ∧ ∀ s'' : Shared, GSt h₀ Lg Jt lr vs (i + 1) s''.heap → kap (.send .none) s'') ∧ GenSince Lg [Jt] s₀ s
section
variable {prog : Program} {w : World} {A : Around}
theorem seg_turns {h₀ : Heap} {Lg Jt lr : Addr} {vs : List Value} {env : Env} {x : Str} {px p1 p2 p3 : Pos} {kk : Result → Sem Fin} {l0 : List Value} {c1 : Code} {pp : Pos} {kp : List Value}
    (hh : A.handled = none) (hLe : env.locals = Lg) (hJL : Jt ≠ Lg) (hlJ : lr ≠ Jt) (hlL : lr ≠ Lg) (hJ₀ : h₀.get? Jt = none) (hL₀ : h₀.get? Lg = none)
    (hx : env.kindOf x = some .local) (hp : (env.scope.kind == .class || (env.scope.kind == .module && env.locals != env.globals)) = false) (hk : env.scope.kind = .function) (hco : env.scope.isCoroutine = false) (hi : interactive env = false) (hd : (x == ("__debug__" : Str)) = false)
    (hkk : kk (.ok .next) = .pure (.done (.ret .none))) :
    ∀ (k i : Nat) (s₀ s : Shared), vs.length - i = k → i ≤ vs.length → GSt h₀ Lg Jt lr vs i s.heap → GenSince Lg [Jt] s₀ s →
      Seg (model prog w) A (gR Lg Jt) (gY h₀ Lg Jt lr vs) (vs.length - i) s₀ (.forLoop (.Name x px) (.ref Jt) [.Expr (.Yield (some (.Name x p1)) p2) p3] [] env)
        ((model prog w).den (.forLoop (.Name x px) (.ref Jt) [.Expr (.Yield (some (.Name x p1)) p2) p3] [] env)) [.ret kk none false l0 c1 pp kp] s := by
  have hh' : (A.over (.forLoop (.Name x px) (.ref Jt) [.Expr (.Yield (some (.Name x p1)) p2) p3] [] env) [.ret kk none false l0 c1 pp kp]).handled = none := hh
  have W := Walks.list (prog := prog) (w := w) hh' Jt lr hlJ vs.toArray
  intro k
  induction k with
  | zero =>
    intro i s₀ s hk' hle st hsince
    have hin : i = vs.length := by omega
    subst hin
    obtain ⟨st0, ⟨m, hm⟩, st1, st2⟩ := st
    show Seg _ A _ _ _ s₀ _ ((forTurn (.Name x px) (.ref Jt) [.Expr (.Yield (some (.Name x p1)) p2) p3] [] env).onRaise (fun x => do noteFrame x env; theTreesLotGoes x)) _ s
    unfold forTurn
    rw [Sem.onRaise_eq_wrap]
    refine seg_bind_wrap (wpAny_standAt ?_)
    refine seg_bind_wrap (wpAny_onRaise (W.done s _ _ (by simpa using ⟨st1, st2⟩) fun h' tk hk' => ?_))
    refine seg_again rfl ?_
    show Seg _ A _ _ _ s₀ (.block [] env) (.pure (.done .next)) _ _
    refine seg_leaf (.ok .next) ?_
    rw [hkk]
    refine seg_end (.ok (.ret .none)) ⟨rfl, by omega, hsince.step fun b o _ hw e => hk' b o hw e⟩
  | succ k ih =>
    intro i s₀ s hk' hle st hsince
    have hlt : i < vs.length := by omega
    obtain ⟨st0, ⟨m, hm⟩, st1, st2⟩ := st
    show Seg _ A _ _ _ s₀ _ ((forTurn (.Name x px) (.ref Jt) [.Expr (.Yield (some (.Name x p1)) p2) p3] [] env).onRaise (fun x => do noteFrame x env; theTreesLotGoes x)) _ s
    unfold forTurn
    rw [Sem.onRaise_eq_wrap]
    refine seg_bind_wrap (wpAny_standAt ?_)
    refine seg_bind_wrap (wpAny_onRaise (W.item i s _ _ (by simpa using hlt) ⟨st1, st2⟩ fun v h₁ tk₁ hv st' hk₁ => ?_))
    refine seg_bind_wrap (wpAny_of_eq (rfl : letOwnedTupleGo (.Name x px) (.ref Jt) v = pure ()) ?_)
    have hm₁ : h₁.Ns env.locals m := hLe ▸ hm.at' fun o e => hk₁ Lg o (by simpa using Ne.symm hJL) e
    refine seg_bind_wrap (wpAny_assign_Name (wpAny_storeName_local hx hm₁ (fun h₂ hn₂ hs₂ => ?_) hp))
    rw [Sem.bind_eq_wrap', Sem.wrap_wrap]
    rw [show vs.length - i = (vs.length - (i + 1)) + 1 from by omega]
    refine seg_execs_cons (seg_Expr_Yield rfl rfl rfl ?_ hco hi)
    refine wpAny_Name (wpAny_loadName_local hk hx hn₂ (if_pos rfl) ?_) hd
    rw [hLe] at hn₂ hs₂
    have gst : GSt h₀ Lg Jt lr vs (i + 1) h₂ := by
      refine ⟨fun b o e => ?_, ⟨_, hn₂⟩, ?_, ?_⟩
      · refine hs₂.extBut b o (fun q => by rw [q, hL₀] at e; cases e) (hk₁ b o (fun q => ?_) (st0 b o e))
        rw [List.mem_singleton.mp q, hJ₀] at e; cases e
      · obtain ⟨o, ho, r⟩ := st'.1
        exact ⟨o, hs₂.extBut _ _ hJL ho, r⟩
      · obtain ⟨o, ho, r⟩ := st'.2
        exact ⟨o, hs₂.extBut _ _ hlL ho, r⟩
    intro kap hkap
    refine ⟨⟨i, by omega, by simpa using hv, gst, fun s'' st'' => hkap .none s'' ?_⟩, hsince.step fun b o hC hw e => hs₂.extBut b o hC (hk₁ b o hw e)⟩
    exact seg_again rfl (ih (i + 1) s'' s'' (by omega) hlt st'' (GenSince.refl _ _ _))
theorem seg_start {h₀ : Heap} {Lg lr : Addr} {vs : List Value} {env : Env} {x : Str} {iter : PySem.Expr} {px p1 p2 p3 p4 : Pos} {s₀ s : Shared} {m : Str → Option Value}
    (hh : A.handled = none) (hLe : env.locals = Lg) (hlL : lr ≠ Lg) (hL₀ : h₀.get? Lg = none) (hs₀ : GenSince Lg [s.heap.objs.size] s₀ s) (st : (∀ b o, h₀.get? b = some o → s.heap.get? b = some o) ∧ s.heap.Ns Lg m ∧ s.heap.IsList lr vs.toArray)
    (hx : env.kindOf x = some .local) (hp : (env.scope.kind == .class || (env.scope.kind == .module && env.locals != env.globals)) = false) (hk : env.scope.kind = .function) (hco : env.scope.isCoroutine = false) (hi : interactive env = false) (hd : (x == ("__debug__" : Str)) = false)
    (hs : ∀ x, foldedSetIterable iter env x = pure x)
    (hev : ∀ (A' : Around) E' (Q : Value → Shared → Prop), A'.handled = none → (∀ tk, Q (.ref lr) { s with toks := tk }) → wpAny (model prog w) A' (eval iter env) Q E' s) :
    Seg (model prog w) A (gR Lg s.heap.objs.size) (gY h₀ Lg s.heap.objs.size lr vs) vs.length s₀ (.func [.For (.Name x px) iter [.Expr (.Yield (some (.Name x p1)) p2) p3] [] p4] env)
      ((model prog w).den (.func [.For (.Name x px) iter [.Expr (.Yield (some (.Name x p1)) p2) p3] [] p4] env)) [] s := by
  refine seg_func (seg_execs_cons (seg_For ?_ hs))
  refine hev _ _ _ hh fun tk => ?_
  obtain ⟨st0, hm, hl⟩ := st
  have hlt : lr < s.heap.objs.size := by obtain ⟨_, e, _⟩ := hl; exact Heap.lt_size e
  have hLlt : Lg < s.heap.objs.size := hm.lt
  refine wpAny_pyIter_list hl ?_
  intro p
  have up : ∀ b o, s.heap.get? b = some o → (s.heap.push { cls := .type "list_iterator", data := .fields #[.ref lr, .int 0 0] }).get? b = some o := fun b o e => Heap.get?_push_of_some _ e
  refine seg_turns (A := A) hh hLe (Ne.symm (Nat.ne_of_lt hLlt)) (Nat.ne_of_lt hlt) hlL ?_ hL₀ hx hp hk hco hi hd rfl vs.length 0 s₀ _ (by omega) (Nat.zero_le _) ⟨fun b o e => up b o (st0 b o e), ⟨m, hm.push _⟩, ⟨_, Heap.get?_push_size _ rfl, rfl, rfl⟩, hl.push _⟩ (hs₀.step fun b o _ _ e => up b o e)
  cases q : h₀.get? s.heap.objs.size with
  | none => rfl
  | some o => exact absurd (Heap.lt_size (st0 _ _ q)) (Nat.lt_irrefl _)
end
end Mine
end
section
open PySem PySem.W PyProof.Rows PySem.Calls
set_option maxRecDepth 100000
set_option maxHeartbeats 8000000
namespace Mine
section
variable {prog : Program} {w : World} {A : Around} {E : Value → Shared → Prop} {s : Shared}
theorem pyNext_genB {a : Addr} {g n : Nat} {gs : GenState} {P : Nat → Shared → Shared → Prop} {Y : Protocol} {Q : Option Value → Shared → Prop} (hh : A.handled = none) (hl : s.heap.NoLimit) (hroom : A.depth < recursionLimit)
    (hg : s.heap.IsGen a g) (hgs : s.gens[g]? = some gs) (hgo : gs.Goes (model prog w) A.in1 (fun n s₀ r s₁ => r = .ok (.ret .none) ∧ P n s₀ s₁) Y n (.send .none) (s.setGen g .running))
    (hY : ∀ v s₁ gs', gs'.bare = true → Y (n - 1) (s.setGen g .running) v s₁ (fun r' s'' => match n with
        | 0 => False
        | m + 1 => gs'.Goes (model prog w) A.in1 (fun n s₀ r s₁ => r = .ok (.ret .none) ∧ P n s₀ s₁) Y m r' s'') → Q (some v) (s₁.setGen g gs'))
    (hP : ∀ s₁, P n (s.setGen g .running) s₁ → ∀ h', (∀ b o, s₁.heap.get? b = some o → h'.get? b = some o) → Q none { s₁.setGen g .finished with heap := h' }) :
    wpAny (model prog w) A (pyNext (.ref a)) Q E s := by
  unfold pyNext
  refine wpAny_bind (wpAny_attempt (wpAny_callSpecial?_slot (name := PySem.Str.ofString "__next__") hg.typeIs slot_gen_next (wpAny_call_entry slot_gen_next hg.typeIs entry_gen_next ?_ (args_gen_next _))))
  show wpAny _ _ (Builtin.Generator.genWake (.ref a) (.send .none)) _ _ s
  unfold Builtin.Generator.genWake
  refine wpAny_bind (wpAny_holding (wpAny_genNumber hg (wpAny_bind (wpAny_genState hgs ?_))))
  cases gs with
  | running => exact hgo.elim
  | finished => exact hgo.elim
  | _ =>
    refine wpAny_bind (wpAny_roomToWake hl hroom ?_)
    show wpAny _ _ (.resume g (.send .none) [] _) _ _ s
    refine wpAny_resumeQ hgs hgo (fun x s₁ hx => ?_) (fun v s₁ gs' hb hv => wpAny_pure ⟨v, rfl, wpAny_pure (hY v s₁ gs' hb hv)⟩)
    obtain ⟨rfl, hp⟩ := hx
    show wpAny _ _ (newExc (.type "StopIteration") [] >>= _) _ _ _
    refine wpAny_bind ?_
    simp only [newExc, newTuple]
    refine wpAny_bind (wpAny_newObj_type ?_ (by size_fits))
    refine wpAny_bind (m := firstArgMember _ _) (wpAny_of_eq (a := Value.none) (by first | rfl | (simp only [firstArgMember]; rfl)) ?_)
    refine wpAny_newObj_type ?_ (by size_fits)
    simp only [raiseNew]
    refine wpAny_bind (wpAny_bind (wpAny_handled ?_))
    rw [show A.in1.handled = none from hh]
    refine wpAny_throw ?_
    refine wpAny_bind (wpAny_isInstance (T := "StopIteration") (b := true) ⟨_, Heap.get?_push_size _ rfl, rfl⟩ isSubtype_stop ?_)
    exact wpAny_pure (hP s₁ hp _ fun b o hb => Heap.get?_push_of_some _ (Heap.get?_push_of_some _ hb))
def GenGo (prog : Program) (w : World) (A : Around) (h₀ : Heap) (Lg lr : Addr) (vs : List Value) (j : Nat) (own fixed : List (Addr × Obj)) (gs : GenState) : Prop :=
  ∀ s'' : Shared, (∀ b o, h₀.get? b = some o → s''.heap.get? b = some o) → (∀ p ∈ own, s''.heap.get? p.1 = some p.2) → (∀ p ∈ fixed, s''.heap.get? p.1 = some p.2) →
    ∃ Jt, (own.map (·.1) = [Lg, Jt] ∨ (own.map (·.1) = [Lg] ∧ s''.heap.get? Jt = none)) ∧ gs.Goes (model prog w) A.in1 (gR Lg Jt) (gY h₀ Lg Jt lr vs) (vs.length - j) (.send .none) s''
theorem gen_bare {g : Nat} {gs gs' : GenState} (hgs : s.gens[g]? = some gs) (hb : gs'.bare = true) : ((s.setGen g .running).setGen g gs').gens[g]? = some gs' ∧ (AllBare s.gens → AllBare ((s.setGen g .running).setGen g gs').gens) :=
  ⟨setGen_self (gs := .running) (setGen_self hgs), (GenOnlyQ.of ((GenOnly.setGen s g .running).trans (GenOnly.setGen _ g gs')) (setGen_self (gs := .running) (setGen_self hgs)) hb).bare⟩
theorem gen_item {h₀ : Heap} {I Lg lr : Addr} {g : Nat} {gs : GenState} {vs : List Value} {j : Nat} {own fixed : List (Addr × Obj)} {ol : Obj} {Q : Option Value → Shared → Prop} (hh : A.handled = none) (hl : s.heap.NoLimit) (hroom : A.depth < recursionLimit)
    (hg : s.heap.IsGen I g) (hgs : s.gens[g]? = some gs) (hk : ∀ b o, h₀.get? b = some o → s.heap.get? b = some o) (ho : ∀ p ∈ own, s.heap.get? p.1 = some p.2) (hf : ∀ p ∈ fixed, s.heap.get? p.1 = some p.2) (hlr : (lr, ol) ∈ fixed) (hol : ol.cls = .type "list" ∧ ∃ n, ol.data = .seq vs.toArray n)
    (G : GenGo prog w A h₀ Lg lr vs j own fixed gs) (hj : j < vs.length)
    (k : ∀ v h' tk gens' gs' own', vs[j]? = some v → (∀ b o, b ∉ own.map (·.1) → b ∉ own'.map (·.1) → s.heap.get? b = some o → h'.get? b = some o) → (∀ p ∈ own', h'.get? p.1 = some p.2 ∧ (p.1 ∈ own.map (·.1) ∨ s.heap.get? p.1 = none)) → (∀ b ∈ own.map (·.1), b ∈ own'.map (·.1)) →
      GenGo prog w A h₀ Lg lr vs (j + 1) own' fixed gs' → gens'[g]? = some gs' → (AllBare s.gens → AllBare gens') → Q (some v) ⟨h', gens', s.drawn, tk, s.os⟩) :
    wpAny (model prog w) A (pyNext (.ref I)) Q E s := by
  obtain ⟨Jt, hJ, hgo⟩ := G (s.setGen g .running) hk ho hf
  refine pyNext_genB (P := fun n s₀ s₁ => n = 0 ∧ GenSince Lg [Jt] s₀ s₁) hh hl hroom hg hgs hgo (fun v s₁ gs' hb hv => ?_) fun s₁ hp => absurd hp.1 (by omega)
  obtain ⟨⟨i, hi, hvi, hst, hkap⟩, ⟨h₁, tk₁, rfl, hk₁⟩⟩ := hv
  have hij : i = j := by omega
  subst hij
  obtain ⟨m, hm⟩ : ∃ m, vs.length - i = m + 1 := ⟨vs.length - i - 1, by omega⟩
  obtain ⟨st0, ⟨mm, hmm⟩, ⟨oJ, hJ1, hJ2, hJ3⟩, hl'⟩ := hst
  obtain ⟨oL, es, ep, hoL, hdL, hkL, hfL⟩ := hmm
  have hb' := gen_bare hgs hb
  have inown : ∀ b, b ∈ own.map (·.1) → b ∈ [Lg, Jt] := fun b hb => by
    rcases hJ with e | e
    · rwa [e] at hb
    · rw [e.1] at hb
      exact List.mem_cons.mpr (.inl (List.mem_singleton.mp hb))
  refine k v h₁ tk₁ _ gs' [(Lg, oL), (Jt, oJ)] hvi (fun b o h1 h2 e => hk₁ b o (fun q => h2 (by simp [q])) (fun q => h2 (by simp [List.mem_singleton.mp q])) e) (fun p hp => ?_) (fun b hb => by simpa using inown b hb) (fun s'' h1 h2 h3 => ?_) hb'.1 hb'.2
  · rcases List.mem_cons.mp hp with rfl | hp
    · refine ⟨hoL, .inl ?_⟩
      rcases hJ with e | e
      · rw [e]; simp
      · rw [e.1]; simp
    · rw [List.mem_singleton.mp hp]
      refine ⟨hJ1, ?_⟩
      rcases hJ with e | e
      · rw [e]; simp
      · exact .inr e.2
  · refine ⟨Jt, .inl rfl, ?_⟩
    have e : vs.length - (i + 1) = m := by omega
    rw [e]
    rw [hm] at hkap
    refine hkap s'' ⟨h1, ⟨mm, oL, es, ep, h2 (Lg, oL) (by simp), hdL, hkL, hfL⟩, ⟨oJ, h2 (Jt, oJ) (by simp), hJ2, hJ3⟩, ⟨ol, h3 _ hlr, hol.1, hol.2⟩⟩
theorem gen_done {h₀ : Heap} {I Lg lr : Addr} {g : Nat} {gs : GenState} {vs : List Value} {own fixed : List (Addr × Obj)} {Q : Option Value → Shared → Prop} (hh : A.handled = none) (hl : s.heap.NoLimit) (hroom : A.depth < recursionLimit)
    (hg : s.heap.IsGen I g) (hgs : s.gens[g]? = some gs) (hk : ∀ b o, h₀.get? b = some o → s.heap.get? b = some o) (ho : ∀ p ∈ own, s.heap.get? p.1 = some p.2) (hf : ∀ p ∈ fixed, s.heap.get? p.1 = some p.2)
    (G : GenGo prog w A h₀ Lg lr vs vs.length own fixed gs)
    (k : ∀ h' tk gens', (∀ b o, b ∉ own.map (·.1) → s.heap.get? b = some o → h'.get? b = some o) → (AllBare s.gens → AllBare gens') → Q none ⟨h', gens', s.drawn, tk, s.os⟩) :
    wpAny (model prog w) A (pyNext (.ref I)) Q E s := by
  obtain ⟨Jt, hJ, hgo⟩ := G (s.setGen g .running) hk ho hf
  rw [Nat.sub_self] at hgo
  refine pyNext_genB (P := fun n s₀ s₁ => n = 0 ∧ GenSince Lg [Jt] s₀ s₁) hh hl hroom hg hgs hgo (fun v s₁ gs' hb hv => ?_) fun s₁ hp h' hk' => ?_
  · obtain ⟨⟨i, hi, hvi, hst, hkap⟩, _⟩ := hv
    exact False.elim (hkap s₁ hst)
  · obtain ⟨_, h₁, tk₁, rfl, hk₁⟩ := hp
    refine k h' tk₁ _ (fun b o hb e => hk' b o (hk₁ b o (fun q => hb ?_) (fun q => ?_) e)) (gen_bare (gs' := .finished) hgs rfl).2
    · rcases hJ with e | e
      · rw [e, q]; simp
      · rw [e.1, q]; simp
    · have q' := List.mem_singleton.mp q
      rcases hJ with e' | e'
      · exact hb (by rw [e', q']; simp)
      · have := e'.2
        rw [← q'] at this
        rw [show (s.setGen g GenState.running).heap = s.heap from rfl] at this
        have e2 : s.heap.get? b = some o := e
        rw [this] at e2; cases e2
end
end Mine
end
section
open PySem PySem.W PyProof.Rows PySem.Calls
set_option maxRecDepth 100000
set_option maxHeartbeats 8000000
namespace Mine
section
variable {prog : Program} {w : World} {s : Shared} {R : Result → Shared → Prop}
theorem enterG {dp un : Nat} {gd : Option (List Code)} {l : List Env} {A₀ : Around} {base g : Heap} {K : Frag} {p : Program} {loose : List Str} {mean : ExcName → Option Value} {mg mb : Str → Option Value}
    {name qual : Str} {params : Arguments} {body : List Stmt} {scope : Scope} {dV kV doc pm cdv ct oc : Value} {an od : Option Addr} {osl : Array (Option Value)} {f : Addr} {args : Args} {binds : List (Str × Value)} {wr : List (Addr × Obj)}
    (_B : Below A₀ base l g) (X : K.In g) (T : Top p loose mean mg mb g) (Kp : Kept g s.heap) (N : Led g s.heap wr) (hdp : dp < recursionLimit)
    (ho : K.lookup f = some ⟨oc, od, .func (fnOf name qual params body scope dV kV doc pm an cdv ct), osl⟩) (hcd : codeIn K cdv qual = true)
    (hbind : BindsTo s (fnOf name qual params body scope dV kV doc pm an cdv ct) args binds) (hloc : ∀ y ∈ binds, scope.names.lookup y.1 = some .local)
    (h : ∀ L h₁ tk t1 t2, Fr g L h₁ (fun y => binds.reverse.lookup y) → News g L h₁ wr → Kept s.heap h₁ → s.heap.get? L = none →
      R (.ok (.ret (.ref h₁.objs.size))) ⟨h₁.push { cls := .type "generator", data := .fields #[.int s.gens.size 0, .str name t1, .str qual t2] }, s.gens.push (.fresh (.func body (envOf qual scope L f cdv))), s.drawn, tk, s.os⟩)
    (hco : scope.isCoroutine = false) (hgen : scope.isGenerator = true) (hk : scope.kind = .function)
    (hcell : ∀ x ∈ scope.names, x.2 ≠ .cell) : codeAny (model prog w) (AX dp un gd l) (.call (.ref f) args) R s := by
  refine codeAny_call_generator (fd := fnOf name qual params body scope dV kV doc pm an cdv ct) (body := body) hdp (Kp.keep _ _ (X _ _ ho)) rfl hco hgen rfl (codeRec_of (X.keeps Kp.keep) hcd) (hbind _ _ _ _ ?_)
  refine wpAny_newFunctionEnv hcell hloc (fun h₁ hns hsb => ?_) hk
  have hk₁ : ∀ b o, s.heap.get? b = some o → h₁.get? b = some o := fun b o e => hsb.extBut b o (Nat.ne_of_lt (Heap.lt_size e)) (Heap.get?_push_of_some _ e)
  refine ⟨(T.nolimit.keeps Kp.keep).keeps hk₁, ?_⟩
  exact h s.heap.objs.size h₁ _ _ _ ⟨hns, fun b o e => hk₁ b o (Kp.keep b o e), Kp.size⟩ (fun p hp => ⟨hk₁ _ _ (N p hp).1, Nat.ne_of_lt (Heap.lt_size (N p hp).1), (N p hp).2⟩) ⟨hk₁, Nat.le_of_lt hns.lt⟩ (by
    cases q : s.heap.get? s.heap.objs.size with
    | none => rfl
    | some o => exact absurd (Heap.lt_size q) (Nat.lt_irrefl _))
end
local macro_rules | `(tactic| walk_at "mine room") => `(tactic| first | (dsimp only; omega) | ((try simp only [depth_mark, depth_under_make, depth_under_kw, depth_in1, depth_deeper, units_deeper, units_in1, units_under_make]); (try dsimp only); omega))
local macro_rules | `(tactic| walk_at "mine one") => `(tactic| (first | (k_unfold; (try dsimp only)) | (k_end; wrow_close) | walk1 | (dsimp only; walk1) | (leave1; walk_say "STEP leave1"; try dsimp only) | (dsimp only; k_unfold; (try dsimp only)) | (dsimp only [StepO]; k_unfold; (try dsimp only)) | fail "no step"))
local macro_rules | `(tactic| walk_at "mine enter") => `(tactic| (refine' enter ?k1 ?k2 ?k3 ?k4 ?k5 ?kd ?k6 ?k7 ?k8 ?k9 ?_ ?c2 ?c3 ?c4 ?c5; (case k1 => assumption); (case k2 => assumption); (case k3 => assumption); (case k4 => assumption); (case k5 => assumption); (case kd => omega); (case k6 => k_is); (case k7 => k_is); (case k8 => first | exact BindsTo.of_eq rfl | exact binds_K (Frag.In.keeps (by assumption) (Kept.keep (by assumption))) rfl (by k_is) rfl rfl rfl | exact binds_K (by k_in) rfl (by k_is) rfl rfl rfl); (case c5 => decide); (case k9 => exact locs rfl); (case c2 => exact rfl); (case c3 => exact rfl); (case c4 => exact rfl); k_whole; intro L' h' F' N' K'; (try dsimp only); (try k_fold)))
local macro_rules | `(tactic| walk_at "mine wr") => `(tactic| ((repeat (refine List.forall_mem_cons.mpr ⟨?_, ?_⟩; (· k_mem))); exact List.forall_mem_nil _))
local macro_rules | `(tactic| walk_at "mine split") => `(tactic| (repeat' (first | exact Split.nil | (refine' Split.keep ?a ?_; (case a => k_all)) | refine' Split.drop ?_)))
local macro_rules | `(tactic| walk_at "mine con") => `(tactic| ((case kB => assumption); (case kF => k_asm); (case kX => assumption); (case kT => assumption); (case kN => k_asm); (case kf => exact rfl); (case kk => exact rfl); (case kw => walk_at "mine wr"); (case ks => walk_at "mine split"); (case kd => walk_at "mine room"); (case ku => walk_at "mine room")))
local macro_rules | `(tactic| walk_at "mine conE") => `(tactic| ((case kB => assumption); (case kF => k_asm); (case kX => assumption); (case kT => assumption); (case kN => k_asm); (case kf => exact rfl); (case kk => exact rfl); (case kw => walk_at "mine wr"); (case ks => walk_at "mine split"); (case kd => walk_at "mine room"); (case ku => walk_at "mine room")))
local macro_rules | `(tactic| k_room) => `(tactic| ((try simp only [depth_mark, depth_under_make, depth_under_kw, depth_in1, depth_deeper, depth_caller]); (try dsimp only); omega))
local macro_rules | `(tactic| walk_at "mine map") => `(tactic| (refine' map_off _ ?hs ?a; (case a => (intro y hy; (have nn : ∀ z, _ = true → y ≠ z := fun z hz e => by subst e; exact absurd (hz.symm.trans hy) (by decide)); (try dsimp only); (repeat rw [if_neg (nn _ (by decide))]); first | done | exact rfl)); (case hs => decide)))
local macro_rules | `(tactic| walk_at "mine oneD") => `(tactic| (first | (k_unfold; (try dsimp only)) | (k_end; wrow_close) | (walk1; (try dsimp only [List.cons_append, List.nil_append])) | (dsimp only; walk1) | (leave1; walk_say "STEP leave1"; try dsimp only) | (dsimp only; k_unfold; (try dsimp only)) | (dsimp only [StepO]; k_unfold; (try dsimp only)) | fail "no step"))
theorem rs_gen {w : World} {dp un : Nat} {gd : Option (List Code)} {outer : List Env} {env : Env} {A₀ : Around} {base h₀ : Heap} {L : Addr} {s : Shared} {m : Str → Option Value} {mean : ExcName → Option Value} {mg mb : Str → Option Value} {news : List (Addr × Obj)}
    {xr dr lr : Addr} {tr : Tok} {rs : List RG} {nl : Nat} {Q E : Value → Shared → Prop}
    (B : Below A₀ base outer h₀) (F : Fr h₀ L s.heap m) (X : (hd.heap_39 w.params).In h₀) (T : Top hd.view_39 LS mean mg mb h₀) (N : News h₀ L s.heap news) (hf : env.frame = some L) (hke : env.scope.kind = .function)
    (h1 : (xr, instObj 329 dr) ∈ news) (h2 : (dr, rsD w.params lr tr) ∈ news) (h3 : (lr, listOf (refsOf rs).toArray nl) ∈ news) (hdp : dp + 5 < recursionLimit) (hun : un + 50 < cLine)
    (k : ∀ I Lg oL og c h' tk, Fr h₀ L h' m → News h₀ L h' ((I, og) :: (Lg, oL) :: news) → og.cls = .type "generator" → (∃ nm qn, og.data = .fields #[.int s.gens.size 0, nm, qn]) → og.slots = #[] → (@Ne Nat I Lg) → (∀ p ∈ news, @Ne Nat p.1 Lg ∧ @Ne Nat p.1 I) →
      (∀ A' : Around, A'.handled = none → GenGo PG w A' h₀ Lg lr (refsOf rs) 0 [(Lg, oL)] [(xr, instObj 329 dr), (dr, rsD w.params lr tr), (lr, listOf (refsOf rs).toArray nl)] (.fresh c)) → Q (.ref I) ⟨h', s.gens.push (.fresh c), s.drawn, tk, s.os⟩) :
    wpAny (model PG w) (AX dp un gd (env :: outer)) (pyIter (.ref xr)) Q E s := by
  w_on
  refine owit_iter (C := 329) (f := 319) F X (PySem.W.InstAt.of_news N h1 h2) (by k_is) (by k_is) ?_
  obtain ⟨g, ⟨B', X', T', K', N', back⟩, Fg, hR, st⟩ := use2 (dp := dp) (un := un) (gd := gd) B F X T N hf hke [] news (fun _ h => nomatch h) (fun _ h => h) (fun _ _ _ h => nomatch h)
  refine wpAny_call ?_
  refine enterG B' X' T' K' N' (by omega) (by k_is) (by k_is) (BindsTo.of_eq rfl) (locs rfl) (fun Lg hh tk t1 t2 FG NG KG hLg => ?_) rfl rfl rfl (by decide)
  dsimp only
  have hgL : g.get? Lg = none := Heap.get?_none_of_le FG.above
  have hoL := FG.ns
  obtain ⟨oL, es, ep, hoL, hdL, hkL, hfL⟩ := id hoL
  obtain ⟨F2, N2⟩ := back hh [] ⟨FG.keep, Nat.le_of_lt (Nat.lt_of_le_of_lt FG.above FG.ns.lt)⟩ (fun _ h => nomatch h)
  rw [List.nil_append] at N2
  have hsz : ∀ b o, hh.get? b = some o → @Ne Nat b hh.objs.size := fun b o e => Nat.ne_of_lt (Heap.lt_size e)
  have h0L : h₀.get? Lg = none := by
    cases q : h₀.get? Lg with
    | none => rfl
    | some o => have := st _ _ q; rw [hgL] at this; cases this
  have hLL : Lg ≠ L := fun e => by
    obtain ⟨o, _, _, ho, _⟩ := Fg.ns
    rw [e, ho] at hgL; cases hgL
  have hnL : ∀ p ∈ news, @Ne Nat p.1 Lg := fun p hp e => by
    have := hR p hp
    have e' : p.1 = Lg := e
    rw [e', hgL] at this; cases this
  have h0I : h₀.get? hh.objs.size = none := by
    cases q : h₀.get? hh.objs.size with
    | none => rfl
    | some o => exact absurd rfl (hsz _ _ (F2.keep _ _ q))
  show OwitIt _ _ _ _ (.ref hh.objs.size) _
  unfold OwitIt
  have up : ∀ b o, hh.get? b = some o → (hh.push { cls := .type "generator", data := .fields #[.int s.gens.size 0, .str (Str.ofString "__iter__") t1, .str (Str.ofString "RangeSet.__iter__") t2] }).get? b = some o := fun b o e => Heap.get?_push_of_some _ e
  refine wpAny_specialOf (T := "generator") ⟨_, Heap.get?_push_size _ rfl, rfl⟩ slot_gen_next.lookup ?_
  refine k hh.objs.size Lg oL { cls := .type "generator", data := .fields #[.int s.gens.size 0, .str (Str.ofString "__iter__") t1, .str (Str.ofString "RangeSet.__iter__") t2] } _ _ _ (F2.keeps up) (fun p hp => ?_) rfl ⟨_, _, rfl⟩ rfl (fun e => hsz _ _ hoL e.symm) (fun p hp => ⟨hnL p hp, hsz _ _ (N2 p hp).1⟩) ?_
  · rcases List.mem_cons.mp hp with rfl | hp
    · exact ⟨Heap.get?_push_size _ rfl, fun e => by
        obtain ⟨o, _, _, ho, _⟩ := F2.ns
        exact hsz _ _ ho e.symm, h0I⟩
    · rcases List.mem_cons.mp hp with rfl | hp
      · exact ⟨up _ _ hoL, hLL, h0L⟩
      · exact ⟨up _ _ (N2 p hp).1, (N2 p hp).2⟩
  · intro A' hA' s'' hs0 hs1 hs2
    refine ⟨s''.heap.objs.size, .inr ⟨rfl, ?_⟩, ?_⟩
    · cases q : s''.heap.get? s''.heap.objs.size with
      | none => rfl
      | some o => exact absurd (Heap.lt_size q) (Nat.lt_irrefl _)
    · have hns : s''.heap.Ns Lg _ := ⟨oL, es, ep, hs1 (Lg, oL) (.head _), hdL, hkL, hfL⟩
      have F3 : Fr h₀ Lg s''.heap _ := ⟨hns, hs0, Nat.le_trans F.above (by
        obtain ⟨o, _, _, ho, _⟩ := Fg.ns
        exact Nat.le_of_lt (Nat.lt_of_lt_of_le (Heap.lt_size ho) FG.above))⟩
      have hl3 : s''.heap.IsList lr (refsOf rs).toArray := ⟨_, hs2 _ (.tail _ (.tail _ (.head _))), rfl, _, rfl⟩
      have N3 : News h₀ Lg s''.heap [(xr, instObj 329 dr), (dr, rsD w.params lr tr)] := fun p hp => by
        simp only [List.mem_cons, List.not_mem_nil, or_false] at hp
        rcases hp with rfl | rfl
        · exact ⟨hs2 _ (.head _), hnL _ h1, (N _ h1).2.2⟩
        · exact ⟨hs2 _ (.tail _ (.head _)), hnL _ h2, (N _ h2).2.2⟩
      refine ⟨rfl, ?_⟩
      refine seg_start hA' rfl (hnL _ h3) h0L (GenSince.refl _ _ _) ⟨hs0, hns, hl3⟩ rfl rfl rfl rfl rfl (by decide) (fun _ => rfl) ?_
      intro A' E' Q' hh' hQ'
      clear hs0 hs1 hs2 hns hl3 F2 N2 B' X' T' K' N' back Fg hR st FG NG KG k F N h1 h2 h3 hnL up
      repeat' walk_at "mine one"
      exact hQ' _
end Mine
end
section
open PySem PySem.W PyProof.Rows PySem.Calls
set_option maxRecDepth 100000
set_option maxHeartbeats 8000000
namespace Mine
abbrev rowD (q : Int × Int) : Dat := .tuple [.int q.1, .int q.2]
theorem take_snoc {rs : List RG} {j : Nat} (hj : j < rs.length) : (pairsOf (rs.take (j + 1))).map rowD = (pairsOf (rs.take j)).map rowD ++ [rowD (rs[j].a, rs[j].b)] := by
  rw [pairsOf, pairsOf, List.take_succ_eq_append_getElem hj, List.map_append, List.map_append]
  rfl
theorem ListComp_gen {w : World} {dp un : Nat} {gd : Option (List Code)} {outer : List Env} {env : Env} {A₀ : Around} {base h₀ : Heap} {L : Addr} {s : Shared} {m : Str → Option Value} {mean : ExcName → Option Value} {mg mb : Str → Option Value} {news : List (Addr × Obj)}
    {xr dr lr : Addr} {tr : Tok} {rs : List RG} {nl : Nat} {Q E : Value → Shared → Prop} {elt iter : PySem.Expr} {x : Str} {px : Pos} {scope : Scope} {cl : List (Str × Addr)} {pos : Pos}
    (B : Below A₀ base outer h₀) (F : Fr h₀ L s.heap m) (X : (hd.heap_39 w.params).In h₀) (T : Top hd.view_39 LS mean mg mb h₀) (N : News h₀ L s.heap news) (hf : env.frame = some L) (hke : env.scope.kind = .function)
    (h1 : (xr, instObj 329 dr) ∈ news) (h2 : (dr, rsD w.params lr tr) ∈ news) (h3 : (lr, listOf (refsOf rs).toArray nl) ∈ news) (h4 : ∀ p ∈ rowsL w.params rs, p ∈ news) (hdp : dp + 5 < recursionLimit) (hun : un + 50 < cLine) (hb : AllBare s.gens) (hsz : rs.length ≤ 1000000)
    (hclos : closureFor scope env = pure cl) (hcell : ∀ y ∈ scope.names, y.2 ≠ .cell) (hkind : scope.kind = .function) (hnames : ∀ y ∈ scope.names, y.2 = .local → scope.names.lookup y.1 = some .local) (hx : scope.names.lookup x = some .local)
    (hiter : ∀ E' Q', (∀ tk, Q' (.ref xr) { s with toks := tk }) → wpAny (model PG w) (AX dp un gd (env :: outer)) (eval iter env) Q' E' s)
    (helt : ∀ (s' : Shared) (C : Addr) (oC : Obj) (m₂ : Str → Option Value) (y : RG) (rest : List (Addr × Obj)) (Q' E' : Value → Shared → Prop), LCg.NsObj oC m₂ → m₂ x = some (.ref y.r) → Fr h₀ L s'.heap m → News h₀ L s'.heap ((C, oC) :: (y.r, instObj 235 y.d) :: (y.d, rngD w.params y.a y.b y.t1 y.t2 y.ta y.tb) :: rest) →
      (∀ Ta h' tk, Fr h₀ L h' m → News h₀ L h' ((Ta, tupO [.int y.a y.ta, .int y.b y.tb]) :: (C, oC) :: (y.r, instObj 235 y.d) :: (y.d, rngD w.params y.a y.b y.t1 y.t2 y.ta y.tb) :: rest) → (∀ p ∈ (C, oC) :: rest, @Ne Nat p.1 Ta) → Q' (.ref Ta) { s' with heap := h', toks := tk }) →
      wpAny (model PG w) (AX dp un gd (env :: outer)) (eval elt (compEnvC scope cl C env)) Q' E' s')
    (k : ∀ D ys tups h' tk gens', Fr h₀ L h' m → News h₀ L h' ((D, listOf ys.toArray ys.length) :: (tups ++ news)) → DatAll tups ys ((pairsOf rs).map rowD) → AllBare gens' → Q (.ref D) ⟨h', gens', s.drawn, tk, s.os⟩)
    (hs : ∀ x, foldedSetIterable iter env x = pure x := by intro _; rfl) :
    wpAny (model PG w) (AX dp un gd (env :: outer)) (eval (.ListComp elt [⟨.Name x px, iter, [], 0⟩] scope pos) env) Q E s := by
  rw [eval_ListComp]
  refine wpAny_comprehension_free (use := none) rfl hs hclos hkind hnames ?_
  refine hiter _ _ fun tk0 => ?_
  refine rs_gen (s := { s with toks := tk0 }) B F X T N hf hke h1 h2 h3 hdp hun fun I Lg oL og c h' tk F1 N1 og1 og2 og3 hIL hnn G => ?_
  have G' := G (AX dp un gd (env :: outer)) rfl
  clear G
  obtain ⟨nm, qn, og2⟩ := og2
  refine wpAny_newObj_type (wpAny_newFunctionEnv hcell (by intro y hy; simp at hy) (fun hc hnsC hsbC => ?_) hkind)
  dsimp only at hnsC hsbC ⊢
  generalize hH2 : h'.push { cls := .type "list", dict := none, data := .seq ([] : List Value).toArray } = H2 at hnsC hsbC ⊢
  have hC : H2.objs.size = h'.objs.size + 1 := by rw [← hH2, Heap.size_push]
  have hDC : @Ne Nat h'.objs.size H2.objs.size := by rw [hC]; exact Nat.ne_of_lt (Nat.lt_succ_self _)
  have below : ∀ b o, h'.get? b = some o → @Ne Nat b H2.objs.size ∧ @Ne Nat b h'.objs.size := fun b o e => by
    have hb := Heap.lt_size e
    exact ⟨by rw [hC]; exact Nat.ne_of_lt (Nat.lt_succ_of_lt hb), Nat.ne_of_lt hb⟩
  have old : ∀ b o, h'.get? b = some o → hc.get? b = some o := fun b o e => hsbC.extBut b o (below b o e).1 (Heap.get?_push_of_some _ (hH2 ▸ Heap.get?_push_of_some _ e))
  have hacc : hc.get? h'.objs.size = some (LCg.lst []) := hsbC.extBut _ _ hDC (Heap.get?_push_of_some _ (hH2 ▸ Heap.get?_push_size _ rfl))
  have fresh₀ : ∀ a : Nat, h'.objs.size ≤ a → h₀.get? a = none := fun a ha => by
    cases e : h₀.get? a with
    | none => rfl
    | some o' => exact absurd (Heap.lt_size (F1.keep _ _ e)) (Nat.not_lt.mpr ha)
  have hD₀ : h₀.get? h'.objs.size = none := fresh₀ _ (Nat.le_refl _)
  have hC₀ : h₀.get? H2.objs.size = none := fresh₀ _ (by rw [hC]; exact Nat.le_succ _)
  have hLlt : L < h'.objs.size := F1.ns.lt
  have hDL : @Ne Nat h'.objs.size L := Ne.symm (Nat.ne_of_lt hLlt)
  have hCL : @Ne Nat H2.objs.size L := by rw [hC]; exact Ne.symm (Nat.ne_of_lt (Nat.lt_succ_of_lt hLlt))
  have offC : ∀ p ∈ (I, og) :: (Lg, oL) :: news, @Ne Nat p.1 H2.objs.size ∧ @Ne Nat p.1 h'.objs.size := fun p hp => below _ _ (N1 p hp).1
  generalize H2.objs.size = C at *
  generalize h'.objs.size = D at *
  obtain ⟨oC0, hoC0, hnC0⟩ := LCg.ns_obj hnsC
  have hroom : (AX dp un gd (env :: outer)).depth < recursionLimit := Nat.lt_of_le_of_lt (Nat.le_add_right _ _) hdp
  have hlen : (refsOf rs).length = rs.length := by simp
  have loop : ∀ s₃ : Shared, (∃ tk, s₃ = ⟨hc, s.gens.push (.fresh c), s.drawn, tk, s.os⟩) →
      codeAny (model PG w) (AX dp un gd (env :: outer)) (.compLoop (.ListComp elt [⟨.Name x px, iter, [], 0⟩] scope pos) 0 (.ref I) (.ref D) (compEnvC scope cl C env)) (compPost (model PG w) (AX dp un gd (env :: outer)) E none Q (.ref D) C) s₃ := by
    rintro s₃ ⟨tk₃, rfl⟩
    refine codeAny_compLoop_tests
      (fun k s' => ∃ h tk j ys tups own gs gens' oC m₂, s' = ⟨h, gens', s.drawn, tk, s.os⟩ ∧ j ≤ rs.length ∧ k = rs.length + 1 - j ∧ Fr h₀ L h m ∧ News h₀ L h ((C, oC) :: (D, LCg.lst ys) :: (I, og) :: (own ++ (tups ++ news))) ∧ LCg.NsObj oC m₂ ∧ ys.length = j ∧
        DatAll tups ys ((pairsOf (rs.take j)).map rowD) ∧ gens'[s.gens.size]? = some gs ∧ AllBare gens' ∧
        GenGo PG w (AX dp un gd (env :: outer)) h₀ Lg lr (refsOf rs) j own [(xr, instObj 329 dr), (dr, rsD w.params lr tr), (lr, listOf (refsOf rs).toArray nl)] gs ∧
        (∀ p ∈ (D, LCg.lst ys) :: (I, og) :: (own ++ (tups ++ news)), @Ne Nat p.1 C) ∧ (∀ p ∈ (I, og) :: (own ++ (tups ++ news)), @Ne Nat p.1 D) ∧ (∀ p ∈ (I, og) :: (tups ++ news), p.1 ∉ own.map (·.1))) ?_ (rs.length + 1)
      ⟨hc, _, 0, [], [], [(Lg, oL)], .fresh c, _, oC0, _, rfl, Nat.zero_le _, rfl, F1.keeps old, ?_, hnC0, rfl, .nil, Array.getElem?_push_size .., hb.push rfl, G', ?_, ?_, ?_⟩
    · rintro kk s' ⟨h, tk, j, ys, tups, own, gs, gens', oC, m₂, rfl, hj, rfl, F', N', hnC, hyl, hDat, hgs, hbare, hG, apC, apD, apO⟩
      have hNC := (N' _ (.head _)).1
      have hg : h.IsGen I s.gens.size := ⟨og, nm, qn, (N' _ (.tail _ (.tail _ (.head _)))).1, og1, og2, og3⟩
      have hown : ∀ p ∈ own, (h.get? p.1 = some p.2 ∧ p.1 ≠ L ∧ h₀.get? p.1 = none) := fun p hp => N' p (.tail _ (.tail _ (.tail _ (List.mem_append_left _ hp))))
      have hnews : ∀ p ∈ tups ++ news, (h.get? p.1 = some p.2 ∧ p.1 ≠ L ∧ h₀.get? p.1 = none) := fun p hp => N' p (.tail _ (.tail _ (.tail _ (List.mem_append_right _ hp))))
      have hfix : ∀ p ∈ [(xr, instObj 329 dr), (dr, rsD w.params lr tr), (lr, listOf (refsOf rs).toArray nl)], h.get? p.1 = some p.2 := fun p hp => by
        simp only [List.mem_cons, List.not_mem_nil, or_false] at hp
        rcases hp with rfl | rfl | rfl
        · exact (hnews _ (List.mem_append_right _ h1)).1
        · exact (hnews _ (List.mem_append_right _ h2)).1
        · exact (hnews _ (List.mem_append_right _ h3)).1
      have hnl : h.NoLimit := T.nolimit.keeps F'.keep
      have ownL : L ∉ own.map (·.1) := fun q => by
        obtain ⟨p, hp, e⟩ := List.mem_map.mp q
        exact (hown p hp).2.1 e
      have own0 : ∀ b o, h₀.get? b = some o → b ∉ own.map (·.1) := fun b o e q => by
        obtain ⟨p, hp, rfl⟩ := List.mem_map.mp q
        rw [(hown p hp).2.2] at e; cases e
      obtain ⟨oLL, hoLL⟩ : ∃ o, h.get? L = some o := let ⟨o, _, _, e, _⟩ := F'.ns; ⟨o, e⟩
      have ownC : C ∉ own.map (·.1) := fun q => by
        obtain ⟨p, hp, e⟩ := List.mem_map.mp q
        exact apC p (.tail _ (.tail _ (List.mem_append_left _ hp))) e
      have ownD : D ∉ own.map (·.1) := fun q => by
        obtain ⟨p, hp, e⟩ := List.mem_map.mp q
        exact apD p (.tail _ (List.mem_append_left _ hp)) e
      by_cases hlt : j < rs.length
      · refine gen_item (s := ⟨h, gens', s.drawn, tk, s.os⟩) rfl hnl hroom hg hgs F'.keep (fun p hp => (hown p hp).1) hfix (.tail _ (.tail _ (.head _))) ⟨rfl, _, rfl⟩ hG (by rw [hlen]; exact hlt) fun v h₁ tk₁ gens₁ gs₁ own₁ hv hk₁ ho₁ hsub₁ hG₁ hgs₁ hb₁ => ?_
        have hv' : v = .ref rs[j].r := by simpa [hlt] using hv.symm
        subst hv'
        have own1 : ∀ b o, h.get? b = some o → b ∉ own.map (·.1) → b ∉ own₁.map (·.1) := fun b o e hb q => by
          obtain ⟨p, hp, rfl⟩ := List.mem_map.mp q
          rcases (ho₁ p hp).2 with z | z
          · exact hb z
          · rw [show h.get? p.1 = none from z] at e; cases e
        have keep1 : ∀ b o, h.get? b = some o → b ∉ own.map (·.1) → h₁.get? b = some o := fun b o e hb => hk₁ b o hb (own1 b o e hb) e
        have F1' : Fr h₀ L h₁ m := ⟨F'.ns.at' fun o e => keep1 L o e ownL, fun b o e => keep1 b o (F'.keep b o e) (own0 b o e), F'.above⟩
        have NC1 : h₁.get? C = some oC := keep1 _ _ hNC ownC
        have hm1 : h₁.Ns C m₂ := hnC.ns NC1
        have NO1 : ∀ p ∈ own₁, h₁.get? p.1 = some p.2 ∧ p.1 ≠ L ∧ h₀.get? p.1 = none ∧ p.1 ≠ C ∧ p.1 ≠ D := fun p hp => by
          refine ⟨(ho₁ p hp).1, ?_⟩
          rcases (ho₁ p hp).2 with z | z
          · obtain ⟨q, hq, e⟩ := List.mem_map.mp z
            rw [← e]
            exact ⟨(hown q hq).2.1, (hown q hq).2.2, apC q (.tail _ (.tail _ (List.mem_append_left _ hq))), apD q (.tail _ (List.mem_append_left _ hq))⟩
          · have z' : h.get? p.1 = none := z
            refine ⟨fun e => ?_, ?_, fun e => ?_, fun e => ?_⟩
            · rw [e, hoLL] at z'; cases z'
            · cases q : h₀.get? p.1 with
              | none => rfl
              | some o => rw [F'.keep _ _ q] at z'; cases z'
            · rw [e, hNC] at z'; cases z'
            · rw [e, (N' _ (.tail _ (.head _))).1] at z'; cases z'
        refine wpAny_assign_Name (wpAny_storeName_local (lookup_relabel_local hx) hm1 (fun h₂ hn₂ hs₂ => ?_) (by simp [compEnvC, relabel, hkind]))
        refine wpAny_tests_nil ?_
        simp only [if_true]
        obtain ⟨oC2, heC2, hoC2⟩ := LCg.ns_obj hn₂
        have F2 : Fr h₀ L h₂ m := F1'.change hs₂ hCL hC₀
        have k2 : ∀ b o, h₁.get? b = some o → @Ne Nat b C → h₂.get? b = some o := fun b o e hne => hs₂.extBut b o hne e
        have ND2 : h₂.get? D = some (LCg.lst ys) := k2 _ _ (keep1 _ _ (N' _ (.tail _ (.head _))).1 ownD) hDC
        have NI2 : h₂.get? I = some og ∧ I ≠ L ∧ h₀.get? I = none := ⟨k2 _ _ (keep1 _ _ (N' _ (.tail _ (.tail _ (.head _)))).1 (apO _ (.head _))) (apC _ (.tail _ (.head _))), (N' _ (.tail _ (.tail _ (.head _)))).2⟩
        have NN2 : ∀ p ∈ tups ++ news, h₂.get? p.1 = some p.2 ∧ p.1 ≠ L ∧ h₀.get? p.1 = none := fun p hp =>
          ⟨k2 _ _ (keep1 _ _ (hnews p hp).1 (apO p (.tail _ hp))) (apC p (.tail _ (.tail _ (List.mem_append_right _ hp)))), (hnews p hp).2⟩
        have NR2 : News h₀ L h₂ ((D, LCg.lst ys) :: (I, og) :: (own₁ ++ (tups ++ news))) := fun p hp => by
          rcases List.mem_cons.mp hp with rfl | hp
          · exact ⟨ND2, hDL, hD₀⟩
          · rcases List.mem_cons.mp hp with rfl | hp
            · exact NI2
            · rcases List.mem_append.mp hp with hp | hp
              · have z := NO1 p hp
                exact ⟨k2 _ _ z.1 z.2.2.2.1, z.2.1, z.2.2.1⟩
              · exact NN2 p hp
        have hyr : (rs[j].r, instObj 235 rs[j].d) ∈ news := h4 _ (List.mem_flatMap.mpr ⟨rs[j], List.getElem_mem hlt, .head _⟩)
        have hyd : (rs[j].d, rngD w.params rs[j].a rs[j].b rs[j].t1 rs[j].t2 rs[j].ta rs[j].tb) ∈ news := h4 _ (List.mem_flatMap.mpr ⟨rs[j], List.getElem_mem hlt, .tail _ (.head _)⟩)
        refine helt _ C oC2 _ rs[j] ((D, LCg.lst ys) :: (I, og) :: (own₁ ++ (tups ++ news))) _ _ hoC2 (if_pos rfl) F2 (fun p hp => ?_) fun Ta h₃ tk₃ F3 N3 hTa => ?_
        · rcases List.mem_cons.mp hp with rfl | hp
          · exact ⟨heC2, hCL, hC₀⟩
          · rcases List.mem_cons.mp hp with rfl | hp
            · exact NN2 _ (List.mem_append_right _ hyr)
            · rcases List.mem_cons.mp hp with rfl | hp
              · exact NN2 _ (List.mem_append_right _ hyd)
              · exact NR2 p hp
        · have zT := N3 _ (.head _)
          have zC := (N3 _ (.tail _ (.head _))).1
          have zR : ∀ p ∈ (D, LCg.lst ys) :: (I, og) :: (own₁ ++ (tups ++ news)), h₃.get? p.1 = some p.2 ∧ p.1 ≠ L ∧ h₀.get? p.1 = none := fun p hp => N3 p (.tail _ (.tail _ (.tail _ (.tail _ hp))))
          have apD1 : ∀ p ∈ (I, og) :: (own₁ ++ (tups ++ news)), @Ne Nat p.1 D := fun p hp => by
            rcases List.mem_cons.mp hp with rfl | hp
            · exact apD _ (.head _)
            · rcases List.mem_append.mp hp with hp | hp
              · exact (NO1 p hp).2.2.2.2
              · exact apD p (.tail _ (List.mem_append_right _ hp))
          have apC1 : ∀ p ∈ (D, LCg.lst ys) :: (I, og) :: (own₁ ++ (tups ++ news)), @Ne Nat p.1 C := fun p hp => by
            rcases List.mem_cons.mp hp with rfl | hp
            · exact hDC
            · rcases List.mem_cons.mp hp with rfl | hp
              · exact apC _ (.tail _ (.head _))
              · rcases List.mem_append.mp hp with hp | hp
                · exact (NO1 p hp).2.2.2.1
                · exact apC p (.tail _ (.tail _ (List.mem_append_right _ hp)))
          have apO1 : ∀ p ∈ (I, og) :: (tups ++ news), p.1 ∉ own₁.map (·.1) := fun p hp => by
            rcases List.mem_cons.mp hp with rfl | hp
            · exact own1 _ _ (N' _ (.tail _ (.tail _ (.head _)))).1 (apO _ (.head _))
            · exact own1 _ _ (hnews p hp).1 (apO p (.tail _ hp))
          refine append_at (hsz := by show ys.toArray.size ≤ sizeLine; rw [List.size_toArray, hyl, sizeLine_eq]; omega) (zR _ (.head _)).1 fun h₅ hs₅ hD₅ => ?_
          have hD₅' : h₅.get? D = some (LCg.lst (ys ++ [.ref Ta])) := hD₅.trans (congrArg some (LCg.lst_snoc ys (.ref Ta)))
          have k5 : ∀ b o, h₃.get? b = some o → @Ne Nat b D → h₅.get? b = some o := fun b o e hne => hs₅.extBut b o hne e
          have hTD : @Ne Nat Ta D := Ne.symm (hTa (D, LCg.lst ys) (.tail _ (.head _)))
          have hTC : @Ne Nat Ta C := Ne.symm (hTa (C, oC2) (.head _))
          have mem5 : ∀ p ∈ (Ta, tupO [.int rs[j].a rs[j].ta, .int rs[j].b rs[j].tb]) :: (tups ++ news), p ∈ (tups ++ [(Ta, tupO [.int rs[j].a rs[j].ta, .int rs[j].b rs[j].tb])]) ++ news := fun p hp => by
            simp only [List.mem_cons, List.mem_append, List.not_mem_nil, or_false] at hp ⊢
            rcases hp with h | h | h
            · exact .inl (.inr h)
            · exact .inl (.inl h)
            · exact .inr h
          have mem6 : ∀ p ∈ (tups ++ [(Ta, tupO [.int rs[j].a rs[j].ta, .int rs[j].b rs[j].tb])]) ++ news, p = (Ta, tupO [.int rs[j].a rs[j].ta, .int rs[j].b rs[j].tb]) ∨ p ∈ tups ++ news := fun p hp => by
            simp only [List.mem_cons, List.mem_append, List.not_mem_nil, or_false] at hp ⊢
            rcases hp with (h | h) | h
            · exact .inr (.inl h)
            · exact .inl h
            · exact .inr (.inr h)
          refine ⟨rs.length + 1 - (j + 1), by omega, h₅, tk₃, j + 1, ys ++ [.ref Ta], tups ++ [(Ta, tupO [.int rs[j].a rs[j].ta, .int rs[j].b rs[j].tb])], own₁, gs₁, gens₁, oC2, _, rfl, hlt, rfl, F3.change hs₅ hDL hD₀, fun p hp => ?_, hoC2, by rw [List.length_append, List.length_singleton, hyl], ?_, hgs₁, hb₁ hbare, hG₁, fun p hp => ?_, fun p hp => ?_, fun p hp => ?_⟩
          · rcases List.mem_cons.mp hp with rfl | hp
            · exact ⟨k5 _ _ zC (Ne.symm hDC), hCL, hC₀⟩
            · rcases List.mem_cons.mp hp with rfl | hp
              · exact ⟨hD₅', hDL, hD₀⟩
              · rcases List.mem_cons.mp hp with rfl | hp
                · exact ⟨k5 _ _ (zR _ (.tail _ (.head _))).1 (apD1 _ (.head _)), (zR _ (.tail _ (.head _))).2⟩
                · rcases List.mem_append.mp hp with hp | hp
                  · have z := zR p (.tail _ (.tail _ (List.mem_append_left _ hp)))
                    exact ⟨k5 _ _ z.1 (NO1 p hp).2.2.2.2, z.2⟩
                  · rcases mem6 p hp with rfl | hp
                    · exact ⟨k5 _ _ zT.1 hTD, zT.2⟩
                    · have z := zR p (.tail _ (.tail _ (List.mem_append_right _ hp)))
                      exact ⟨k5 _ _ z.1 (apD1 p (.tail _ (List.mem_append_right _ hp))), z.2⟩
          · rw [take_snoc hlt]
            exact (hDat.mono fun p hp => List.mem_append_left _ hp).append (.one (.tuple (List.mem_append_right _ (.head _)) (.cons (.int _ _) (.cons (.int _ _) .nil))))
          · rcases List.mem_cons.mp hp with rfl | hp
            · exact hDC
            · rcases List.mem_cons.mp hp with rfl | hp
              · exact apC1 _ (.tail _ (.head _))
              · rcases List.mem_append.mp hp with hp | hp
                · exact (NO1 p hp).2.2.2.1
                · rcases mem6 p hp with rfl | hp
                  · exact hTC
                  · exact apC1 p (.tail _ (.tail _ (List.mem_append_right _ hp)))
          · rcases List.mem_cons.mp hp with rfl | hp
            · exact apD1 _ (.head _)
            · rcases List.mem_append.mp hp with hp | hp
              · exact (NO1 p hp).2.2.2.2
              · rcases mem6 p hp with rfl | hp
                · exact hTD
                · exact apD1 p (.tail _ (List.mem_append_right _ hp))
          · rcases List.mem_cons.mp hp with rfl | hp
            · exact apO1 _ (.head _)
            · rcases mem6 p hp with rfl | hp
              · intro q
                obtain ⟨z, hz, e⟩ := List.mem_map.mp q
                exact hTa z (.tail _ (.tail _ (.tail _ (List.mem_append_left _ hz)))) e
              · exact apO1 p (.tail _ hp)
      · obtain rfl : j = rs.length := Nat.le_antisymm hj (Nat.not_lt.mp hlt)
        rw [← hlen] at hG
        refine gen_done (s := ⟨h, gens', s.drawn, tk, s.os⟩) rfl hnl hroom hg hgs F'.keep (fun p hp => (hown p hp).1) hfix hG fun h₁ tk₁ gens₁ hk₁ hb₁ => ?_
        have F1' : Fr h₀ L h₁ m := ⟨F'.ns.at' fun o e => hk₁ L o ownL e, fun b o e => hk₁ b o (own0 b o e) (F'.keep b o e), F'.above⟩
        refine ⟨m₂, hnC.ns (hk₁ _ _ ownC hNC), fun h'' hs'' => k D ys tups h'' tk₁ gens₁ (F1'.change hs'' hCL hC₀) (fun p hp => ?_) (by rw [List.take_length] at hDat; exact hDat) (hb₁ hbare)⟩
        rcases List.mem_cons.mp hp with rfl | hp
        · exact ⟨hs''.extBut _ _ hDC (hk₁ _ _ ownD (N' _ (.tail _ (.head _))).1), hDL, hD₀⟩
        · have z := hnews p hp
          exact ⟨hs''.extBut _ _ (apC p (.tail _ (.tail _ (List.mem_append_right _ hp)))) (hk₁ _ _ (apO p (.tail _ hp)) z.1), z.2⟩
    · intro p hp
      rcases List.mem_cons.mp hp with rfl | hp
      · exact ⟨hoC0, hCL, hC₀⟩
      · rcases List.mem_cons.mp hp with rfl | hp
        · exact ⟨hacc, hDL, hD₀⟩
        · exact ⟨old _ _ (N1 p hp).1, (N1 p hp).2⟩
    · intro p hp
      rcases List.mem_cons.mp hp with rfl | hp
      · exact hDC
      · exact (offC p hp).1
    · exact fun p hp => (offC p hp).2
    · intro p hp q
      have q' : p.1 = Lg := by simpa using q
      rcases List.mem_cons.mp hp with rfl | hp
      · exact hIL q'
      · exact (hnn p hp).1 q'
  have hgI : hc.IsGen I s.gens.size := ⟨og, nm, qn, old _ _ (N1 _ (.head _)).1, og1, og2, og3⟩
  exact codeAny_compStart_list (loop _ ⟨_, rfl⟩) (wpAny_pyIter_gen hgI (loop _ ⟨_, rfl⟩))
end Mine
end
section
open PySem PySem.W PyProof.Rows PySem.Calls
set_option maxRecDepth 100000
set_option maxHeartbeats 8000000
namespace Mine
theorem it_ne {a b : Obj} {n : String} (h : b.cls = .type n) (h' : a.cls ≠ .type n) : a ≠ b := fun e => h' (by rw [e]; exact h)
theorem it_ne' {a b : Obj} {n : String} (h : a.cls = .type n) (h' : b.cls ≠ .type n) : a ≠ b := fun e => h' (by rw [← e]; exact h)
local macro_rules | `(tactic| walk_at "mine room") => `(tactic| first | (dsimp only; omega) | ((try simp only [depth_mark, depth_under_make, depth_under_kw, depth_in1, depth_deeper, units_deeper, units_in1, units_under_make]); (try dsimp only); omega))
local macro_rules | `(tactic| walk_at "mine one") => `(tactic| (first | (k_unfold; (try dsimp only)) | (k_end; wrow_close) | walk1 | (dsimp only; walk1) | (leave1; walk_say "STEP leave1"; try dsimp only) | (dsimp only; k_unfold; (try dsimp only)) | (dsimp only [StepO]; k_unfold; (try dsimp only)) | fail "no step"))
local macro_rules | `(tactic| walk_at "mine enter") => `(tactic| (refine' enter ?k1 ?k2 ?k3 ?k4 ?k5 ?kd ?k6 ?k7 ?k8 ?k9 ?_ ?c2 ?c3 ?c4 ?c5; (case k1 => assumption); (case k2 => assumption); (case k3 => assumption); (case k4 => assumption); (case k5 => assumption); (case kd => omega); (case k6 => k_is); (case k7 => k_is); (case k8 => first | exact BindsTo.of_eq rfl | exact binds_K (Frag.In.keeps (by assumption) (Kept.keep (by assumption))) rfl (by k_is) rfl rfl rfl | exact binds_K (by k_in) rfl (by k_is) rfl rfl rfl); (case c5 => decide); (case k9 => exact locs rfl); (case c2 => exact rfl); (case c3 => exact rfl); (case c4 => exact rfl); k_whole; intro L' h' F' N' K'; (try dsimp only); (try k_fold)))
local macro_rules | `(tactic| walk_at "mine wr") => `(tactic| ((repeat (refine List.forall_mem_cons.mpr ⟨?_, ?_⟩; (· k_mem))); exact List.forall_mem_nil _))
local macro_rules | `(tactic| walk_at "mine split") => `(tactic| (repeat' (first | exact Split.nil | (refine' Split.keep ?a ?_; (case a => k_all)) | refine' Split.drop ?_)))
local macro_rules | `(tactic| walk_at "mine con") => `(tactic| ((case kB => assumption); (case kF => k_asm); (case kX => assumption); (case kT => assumption); (case kN => k_asm); (case kf => exact rfl); (case kk => exact rfl); (case kw => walk_at "mine wr"); (case ks => walk_at "mine split"); (case kd => walk_at "mine room"); (case ku => walk_at "mine room")))
local macro_rules | `(tactic| walk_at "mine conE") => `(tactic| ((case kB => assumption); (case kF => k_asm); (case kX => assumption); (case kT => assumption); (case kN => k_asm); (case kf => exact rfl); (case kk => exact rfl); (case kw => walk_at "mine wr"); (case ks => walk_at "mine split"); (case kd => walk_at "mine room"); (case ku => walk_at "mine room")))
local macro_rules | `(tactic| k_room) => `(tactic| ((try simp only [depth_mark, depth_under_make, depth_under_kw, depth_in1, depth_deeper, depth_caller]); (try dsimp only); omega))
local macro_rules | `(tactic| walk_at "mine map") => `(tactic| (refine' map_off _ ?hs ?a; (case a => (intro y hy; (have nn : ∀ z, _ = true → y ≠ z := fun z hz e => by subst e; exact absurd (hz.symm.trans hy) (by decide)); (try dsimp only); (repeat rw [if_neg (nn _ (by decide))]); first | done | exact rfl)); (case hs => decide)))
local macro_rules | `(tactic| walk_at "mine oneD") => `(tactic| (first | (k_unfold; (try dsimp only)) | (k_end; wrow_close) | (walk1; (try dsimp only [List.cons_append, List.nil_append])) | (dsimp only; walk1) | (leave1; walk_say "STEP leave1"; try dsimp only) | (dsimp only; k_unfold; (try dsimp only)) | (dsimp only [StepO]; k_unfold; (try dsimp only)) | fail "no step"))
local macro_rules | `(tactic| walk_at "mine size") => `(tactic| ((try simp only [Array.size_append]); refine Nat.le_trans (by first | exact Nat.add_le_add (Nat.add_le_add (KBc.size_picked_le _ _ _) (Nat.le_refl _)) (KBc.size_picked_le _ _ _) | exact Nat.add_le_add (KBc.size_picked_le _ _ _) (Nat.le_refl _) | exact KBc.size_picked_le _ _ _) ?_; simp only [List.size_toArray, List.length_append]; omega))
local macro_rules | `(tactic| walk_at "call builtin:len") => `(tactic| (k_here; (with_reducible show wpAny _ _ (call (Value.builtin "len") [Value.ref _]) _ _ _); (with_reducible rename News _ _ _ _ => N'); (first | (refine' len_app ?ba ?hz ?_; (case ba => exact led_ba N' (by k_mem)); (case hz => omega); k_whole) | (refine' len_bs ?ba ?hz ?_; (case ba => exact led_ba N' (by k_mem)); (case hz => omega); k_whole))))
local macro_rules | `(tactic| walk_at "subscriptTail") => `(tactic| (k_here; (with_reducible show wpAny _ _ (subscriptTail _ (Expr.Slice _ _ none _) (Value.ref _) (Value.ref _)) _ _ _); (with_reducible rename Fr _ _ _ _ => F'); (with_reducible rename News _ _ _ _ => N'); (refine' BA.slice_N (s := ⟨_, _, _, _, _⟩) F' N' ?ba (by constructor) (by constructor) ?hz ?_; (case ba => exact led_ba N' (by k_mem)); (case hz => walk_at "mine size"); intro h' x' F' N' l1; (try k_lt l1); (try k_sweep); (try dsimp only))))
local macro_rules | `(tactic| walk_at "binaryOp Add") => `(tactic| (k_here; (with_reducible show wpAny _ _ (binaryOp _ (Value.ref _) (Value.bytes _ _)) _ _ _); (with_reducible rename Fr _ _ _ _ => F'); (with_reducible rename News _ _ _ _ => N'); (refine' BA.add_b F' N' ?ba ?hz ?_; (case ba => exact led_ba N' (by k_mem)); (case hz => walk_at "mine size"); intro h' x' F' N' l1; (try k_lt l1); (try k_sweep); (try dsimp only))))
local macro_rules | `(tactic| walk_at "binaryOp Add") => `(tactic| (k_here; (with_reducible show wpAny _ _ (binaryOp _ (Value.ref _) (Value.ref _)) _ _ _); (with_reducible rename Fr _ _ _ _ => F'); (with_reducible rename News _ _ _ _ => N'); (refine' BA.add_ba F' N' ?ba ?bb ?hz ?_; (case ba => exact led_ba N' (by k_mem)); (case bb => exact led_ba N' (by k_mem)); (case hz => walk_at "mine size"); intro h' x' F' N' l1; (try k_lt l1); (try k_sweep); (try dsimp only))))
local macro_rules | `(tactic| walk_at "call type:bytes") => `(tactic| (k_here; (with_reducible show wpAny _ _ (call (Value.type "bytes") [Value.ref _]) _ _ _); (with_reducible rename News _ _ _ _ => N'); (refine' BA.bytes_of ?ba ?hz ?_; (case ba => exact led_ba N' (by k_mem)); (case hz => walk_at "mine size"); intro _ _; (try dsimp only))))
local macro_rules | `(tactic| k_inst) => `(tactic| (refine' Mine.InstAt.of_base ?F ?h1 ?h2; (case F => k_asm); (case h1 => assumption); (case h2 => assumption)))
local macro_rules | `(tactic| walk_at "mine dis") => `(tactic| (repeat' (first | exact List.forall_mem_nil _ | refine List.forall_mem_cons.mpr ⟨?_, ?_⟩ | (refine Or.inr (cls_ne ?_); (simp; done)) | (refine Or.inr (key_ne ?_); exact rfl) | (refine Or.inr (it_ne (by assumption) ?_); (simp; done)) | (refine Or.inr (it_ne' (by assumption) ?_); (simp; done)) | exact .inl (by k_ne))))
local macro_rules | `(tactic| walk_at "mine split2") => `(tactic| (repeat' (first | with_reducible exact Split2.nil | with_reducible exact Split2.tail rows_off_buf | with_reducible exact Split2.tail rows_off_rs | (with_reducible refine' Split2.drop2 ?h ?_; (case h => with_reducible k_mem)) | (refine' Split2.keep ?a ?_; (case a => walk_at "mine dis")) | refine' Split2.drop ?_ | exact Split2.nil)))
local macro_rules | `(tactic| walk_at "mine conF") => `(tactic| ((case kB => assumption); (case kF => k_asm); (case kX => assumption); (case kT => assumption); (case kN => k_asm); (case kf => exact rfl); (case kk => exact rfl); (case kw => walk_at "mine wr"); (case ks => walk_at "mine split2"); (case kr => walk_at "mine rd"); (case kd => walk_at "mine room"); (case ku => walk_at "mine room")))
local macro_rules | `(tactic| walk_at "mine rd") => `(tactic| first | exact List.forall_mem_nil _ | (refine fun p hp => Or.inl ?_; simp only [List.mem_cons, List.mem_append, rowsL_cons, List.not_mem_nil, or_false, List.append_assoc] at hp ⊢; (repeat' (refine Or.elim hp ?_ ?_ <;> clear hp <;> intro hp)); all_goals (first | walk_at "mine or" | (subst hp; simp; done))))
local macro_rules | `(tactic| walk_at "exec For Name Call cons nil") => `(tactic| (k_here; (rename Fr _ _ _ _ => lF'); (with_unfolding_all refine' For_turns lF' ?_; k_whole)))
local macro_rules | `(tactic| walk_at "exec For Name Name cons nil") => `(tactic| (k_here; (rename Fr _ _ _ _ => lF'); (with_unfolding_all refine' For_turns lF' ?_; k_whole)))
local macro_rules | `(tactic| walk_at "exec For Tuple Call cons nil") => `(tactic| (k_here; (rename Fr _ _ _ _ => lF'); (with_unfolding_all refine' For_turns lF' ?_; k_whole)))
local macro_rules | `(tactic| walk_at "exec For Tuple Subscript cons nil") => `(tactic| (k_here; (rename Fr _ _ _ _ => lF'); (with_unfolding_all refine' For_turns lF' ?_; k_whole)))
local macro_rules | `(tactic| walk_at "call type:enumerate") => `(tactic| (k_here; (with_reducible show wpAny _ _ (call (Value.type _) [Value.ref _]) (fun xv s₁ => wpAny _ _ (pyIter xv) (fun it s₂ => TurnsAt _ _ _ _ _ _ _ _ _ it s₂) _ s₁) _ _); refine halt ?_))
local macro_rules | `(tactic| walk_at "pyIter ref") => `(tactic| (k_here; (with_reducible show wpAny _ _ (pyIter (Value.ref _)) (fun it s₂ => TurnsAt _ _ _ _ _ _ _ _ _ it s₂) _ _); refine halt ?_))
local macro_rules | `(tactic| walk_at "pyIter ref") => `(tactic| (k_here; (with_reducible show wpAny _ _ (pyIter (Value.ref _)) (fun it s₂ => TurnsAt _ _ _ _ _ _ _ _ _ it s₂) _ _); k_dflt (refine' iter_nil ?h ?F ?N ?X ?e ?_; (case h => exact rfl); (case F => k_asm); (case N => k_asm); (case X => k_asm); (case e => k_is); intro h' tk' F' N'; (try k_sweep); (try dsimp only))))
local macro_rules | `(tactic| walk_at "mine or") => `(tactic| first | with_reducible assumption | (with_reducible exact Or.inl (by with_reducible assumption)) | (refine Or.inr ?_; walk_at "mine or"))
local macro_rules | `(tactic| walk_at "mine sub") => `(tactic| (intro p hp; simp only [List.mem_cons, List.mem_append, rowsL_cons, List.not_mem_nil, or_false, List.append_assoc] at hp ⊢; (repeat' (refine Or.elim hp ?_ ?_ <;> clear hp <;> intro hp)); all_goals (first | walk_at "mine or" | (subst hp; simp; done))))
local macro_rules | `(tactic| walk_at "call ref") => `(tactic| (k_here; (k_dflt (show wpAny _ _ (call (Value.ref 148) [Value.ref _]) _ _ _)); k_dflt (refine' ConE.call2 (pull_uint_var' ?hz ?hk) ?kB ?kF ?kX ?kT ?kN ?kf ?kk ?kw ?ks ?kr ?kd ?ku ?_ ?_; walk_at "mine conF"; (case hz => omega); (case hk => omega); (intro v' news' h' tk' hp' F' N'; obtain ⟨hpv, hv0, hkk, hkl, ⟨t', hv'⟩, t3', hn'⟩ := hp'; subst hv'; subst hn'; dsimp only [bufL, List.cons_append, List.nil_append] at N'; (try k_sweep); (try dsimp only)); rotate_left; (intro e' t' cls' vs' g₂' h' tk' hp' R' F' U'; obtain ⟨hpn, hc'⟩ := hp'; subst hc'; (try dsimp only)); rotate_left)))
local macro_rules | `(tactic| walk_at "mine add") => `(tactic| (walk_at "mine conF"; (case hab => omega); (case hsz => (simp only [List.length_cons, List.length_nil]; omega)); (case hlt => (intro y hy; cases hy <;> omega)); (rotate_left; (focus (intro e' t' cls' vs' g₂' h' tk' hp' R' F' U'; exact hp'.elim)); (intro v' news' h' tk' hp' F' N'; obtain ⟨hv', yy, nn', hya, hyb, hn'⟩ := hp'; subst hv'; subst hn'; dsimp only [rsL, rgL, List.cons_append, List.nil_append] at N'; (try k_sweep); (try dsimp only)))))
local macro_rules | `(tactic| walk_at "call ref") => `(tactic| (k_here; (k_dflt (show wpAny _ _ (call (Value.ref 263) [Value.ref _, Value.int _ _, Value.int _ _]) _ _ _)); k_dflt (first
  | (refine' ConE.call2 (add_front (rs := []) ?hab ?hsz ?hlt) ?kB ?kF ?kX ?kT ?kN ?kf ?kk ?kw ?ks ?kr ?kd ?ku ?_ ?_; walk_at "mine add")
  | (refine' ConE.call2 (add_front (rs := _ :: _) ?hab ?hsz ?hlt) ?kB ?kF ?kX ?kT ?kN ?kf ?kk ?kw ?ks ?kr ?kd ?ku ?_ ?_; walk_at "mine add"))))

theorem range_n {n : Int} (h : 0 ≤ n) : Builtin.Range.rangeSize 0 n 1 = ((n.toNat : Nat) : Int) := by
  unfold Builtin.Range.rangeSize
  rw [if_pos (by decide)]
  split
  · rw [Int.ediv_one]; omega
  · omega
theorem pull_ack_frame {w : World} {mean : ExcName → Option Value} {mg mb : Str → Option Value} {x d o : Addr} {t1 t2 t3 : Tok} {bs : List UInt8} {k : Nat} (hz : bs.length ≤ 100000) (hk : k ≤ 100000) :
    ConE w mean mg mb 25 340 [.ref x] [] [] (bufL w.params x d o bs k t1 t2 t3)
      (fun r news' => ∃ T xr dr lr tr n' rs t3' k' low dl td, pack bs k = some (k', low, pairsOf rs, dl) ∧ 0 ≤ low ∧ r = .ref T ∧ news' = (T, tupO [.ref xr, .int dl td]) :: (rsL w.params xr dr lr rs n' tr ++ (bufL w.params x d o bs (k' : Nat) t1 t2 t3' ++ rowsL w.params rs)))
      (fun cls => (pack bs k = none ∧ cls = .ref 31) ∨ ∃ k' low rows dl, pack bs k = some (k', low, rows, dl) ∧ low < 0 ∧ cls = .type "ValueError") := by
  intro dp un gd ll base g s R B X T Kp N hrd hdp hun ret fail
  w_on
  walk_at "mine enter"
  repeat' walk_at "mine one"
  rotate_left
  · (with_reducible rename RaisedK _ _ _ _ _ _ _ _ => R1)
    (with_reducible rename Heap.UpToSlots _ _ => U1)
    exact fail _ _ _ _ _ _ (.inl ⟨pack_n4 (by assumption) (by assumption) (by assumption) (by assumption), rfl⟩) R1 U1
  · (with_reducible rename RaisedK _ _ _ _ _ _ _ _ => R1)
    (with_reducible rename Heap.UpToSlots _ _ => U1)
    exact fail _ _ _ _ _ _ (.inl ⟨pack_n3 (by assumption) (by assumption) (by assumption), rfl⟩) R1 U1
  · (with_reducible rename RaisedK _ _ _ _ _ _ _ _ => R1)
    (with_reducible rename Heap.UpToSlots _ _ => U1)
    exact fail _ _ _ _ _ _ (.inl ⟨pack_n2 (by assumption) (by assumption), rfl⟩) R1 U1
  · (with_reducible rename RaisedK _ _ _ _ _ _ _ _ => R1)
    (with_reducible rename Heap.UpToSlots _ _ => U1)
    exact fail _ _ _ _ _ _ (.inl ⟨pack_n1 (by assumption), rfl⟩) R1 U1
  (with_reducible rename Fr _ _ _ _ => F1)
  (with_reducible rename News _ _ _ _ => N1)
  (with_reducible rename Mine.RG => yy0)
  rename IsRange _ _ _ _ _ _ _ _ => hr
  have h1 : (pv bs k).isSome = true := by assumption
  have h2 : (pv bs (pvK bs k)).isSome = true := by assumption
  have h3 : (pv bs (pvK bs (pvK bs k))).isSome = true := by assumption
  have h4 : (pv bs (pvK bs (pvK bs (pvK bs k)))).isSome = true := by assumption
  have hpk := pack_eq h1 h2 h3 h4
  have hb3 := pvV_lt h3
  have hn0 : 0 ≤ pvV bs (pvK bs (pvK bs k)) := (pv_some (pv_eq h3)).1
  obtain ⟨m₀, hm₀⟩ := fr_map F1
  refine halt ?_
  refine range_J (n := (pvV bs (pvK bs (pvK bs k))).toNat) (fun i m nx => ∃ xr dr lr tr n' y0 rest e tE kk t3', m (Str.ofString "end") = some (.int e tE) ∧ m (Str.ofString "rangeset") = some (.ref xr) ∧
      (∀ y, [Str.ofString "end", Str.ofString "rangeset", Str.ofString "_", Str.ofString "ack_count"].contains y = false → m y = m₀ y) ∧
      nx = rsL w.params xr dr lr (y0 :: rest) n' tr ++ (rgL w.params y0 ++ (bufL w.params x d o bs (kk : Nat) t1 t2 t3' ++ rowsL w.params rest)) ∧ kk ≤ bs.length ∧ (y0 :: rest).length ≤ kk ∧ y0.a = e ∧
      prow bs ((pvV bs (pvK bs (pvK bs k))).toNat - i) kk e (pairsOf (y0 :: rest)) = prow bs (pvV bs (pvK bs (pvK bs k))).toNat (pvK bs (pvK bs (pvK bs (pvK bs k)))) (pvV bs k - pvV bs (pvK bs (pvK bs (pvK bs k)))) [(pvV bs k - pvV bs (pvK bs (pvK bs (pvK bs k))), pvV bs k + 1)])
    rfl hr (small_one (by omega) (by omega) (by omega) (by omega)) (range_n hn0) F1 N1 ?h0 ?turn ?done
  case h0 =>
    refine ⟨_, _, _, _, _, yy0, [], pvV bs k - pvV bs (pvK bs (pvK bs (pvK bs k))), _, pvK bs (pvK bs (pvK bs (pvK bs k))), _, rfl, rfl, ?_, rfl, by assumption, ?_, by assumption, ?_⟩
    · intro y hy
      rw [hm₀]
    · simp only [List.length_cons, List.length_nil]; omega
    · rw [Nat.sub_zero]
      have ha := ‹yy0.a = _›
      have hb := ‹yy0.b = _›
      simp only [pairsOf, List.map_cons, List.map_nil, ha, hb]
  case turn =>
    rintro i t m₁ news₁ h₁ tk₁ I it hin ⟨xr, dr, lr, tr, n', y0, rest, e, tE, kk, t3', hm1, hm2, hm3, rfl, hkk, hlen, hye, hpr⟩ hc F2 N2
    rw [trk2 (st := [Str.ofString "_", Str.ofString "ack_count"]) hm1 hm2 hm3] at F2
    subst hm₀
    clear F1 N1 hr
    dsimp only [rsL, rgL, bufL, List.cons_append, List.nil_append] at N2
    simp only [List.length_cons] at hlen
    have hsub : (pvV bs (pvK bs (pvK bs k))).toNat - i = ((pvV bs (pvK bs (pvK bs k))).toNat - (i + 1)) + 1 := by omega
    rw [hsub] at hpr
    repeat' walk_at "mine one"
    · (with_reducible rename Fr g _ _ _ => F3)
      (with_reducible rename News g _ _ _ => N3)
      (with_reducible rename Mine.RG => yy)
      have N4 := ack_sub (I := I) (xr := xr) (lr := lr) (x := x) (d := d) (o := o) (y := yy) (rest := y0 :: rest) N3 (by k_mem) (by k_mem) (by k_mem) (by k_mem) rfl (by k_mem) (by k_mem) (by k_mem) (by k_mem) (by k_mem) ?tail
      case tail => walk_at "mine sub"
      refine StepO.go (.inl rfl) F3 N4 (all_app (rs_cls (by simp)) (all_app (by simp) (all_app (buf_cls (by simp)) (rows_cls' (by simp))))) ⟨xr, dr, lr, tr, _, yy, y0 :: rest, e - (pvV bs kk + 2) - pvV bs (pvK bs kk), _, pvK bs (pvK bs kk), _, rfl, rfl, ?_, rfl, by assumption, ?_, by assumption, ?_⟩
      · walk_at "mine map"
      · simp only [List.length_cons]; omega
      · have ha := ‹yy.a = _›
        have hb := ‹yy.b = _›
        rw [← hpr, prow_s (by assumption) (by assumption)]
        simp only [pairsOf, List.map_cons, ha, hb]
    · (with_reducible rename RaisedK _ _ _ _ _ _ _ _ => R1)
      (with_reducible rename Heap.UpToSlots _ _ => U1)
      refine fail _ _ _ _ _ _ (.inl ⟨?_, rfl⟩) R1 U1
      rw [hpk, ← hpr, prow_n2 (by assumption) (by assumption)]; rfl
    · (with_reducible rename RaisedK _ _ _ _ _ _ _ _ => R1)
      (with_reducible rename Heap.UpToSlots _ _ => U1)
      refine fail _ _ _ _ _ _ (.inl ⟨?_, rfl⟩) R1 U1
      rw [hpk, ← hpr, prow_n1 (by assumption)]; rfl
  case done =>
    rintro h' tk m₁ news₁ F2 N2 ⟨xr, dr, lr, tr, n', y0, rest, e, tE, kk, t3', hm1, hm2, hm3, rfl, hkk, hlen, hye, hpr⟩
    rw [trk2 (st := [Str.ofString "_", Str.ofString "ack_count"]) hm1 hm2 hm3] at F2
    subst hm₀
    clear F1 N1 hr
    dsimp only [rsL, rgL, bufL, List.cons_append, List.nil_append] at N2
    rw [Nat.sub_self] at hpr
    rw [← hpr] at hpk
    have hpk' : pack bs k = some (kk, e, pairsOf (y0 :: rest), pvV bs (pvK bs k)) := hpk
    repeat' walk_at "mine one"
    · (with_reducible rename RaisedK _ _ _ _ _ _ _ _ => R1)
      (with_reducible rename Heap.UpToSlots _ _ => U1)
      exact fail _ _ _ _ _ _ (.inr ⟨kk, e, _, _, hpk', by omega, rfl⟩) (raised_nil R1) U1
    · (with_reducible rename Fr g _ _ _ => F3)
      (with_reducible rename News g _ _ _ => N3)
      have hL := ack_fin (x := x) (d := d) (o := o) (xr := xr) (dr := dr) (lr := lr) (rs := y0 :: rest) N3 (by k_mem) (by k_mem) (by k_mem) (by k_mem) (by k_mem) (by k_mem) (by k_mem) ?tail
      case tail => walk_at "mine sub"
      exact ret _ _ _ _ ⟨_, xr, dr, lr, tr, n', y0 :: rest, t3', kk, e, pvV bs (pvK bs k), _, hpk', by omega, rfl, rfl⟩ (Kept.of_fr F3) hL
end Mine
end
section
open PySem PySem.W PyProof.Rows PySem.Calls
set_option maxRecDepth 100000
namespace Mine
/-- rows in order, the oldest first -/
def Asc : List (Int × Int) → Prop
  | [] => True
  | (a, b) :: r => a < b ∧ (∀ q ∈ r, b < q.1) ∧ Asc r
theorem asc_get : ∀ {l : List (Int × Int)} {i : Nat} {q : Int × Int}, Asc l → l[i]? = some q → q.1 < q.2
  | (a, b) :: r, 0, q, h, e => by cases e; exact h.1
  | (a, b) :: r, i + 1, q, h, e => asc_get (l := r) (i := i) h.2.2 (by simpa using e)
theorem asc_lt : ∀ {l : List (Int × Int)} {i j : Nat} {p q : Int × Int}, Asc l → i < j → l[i]? = some p → l[j]? = some q → p.2 < q.1
  | (a, b) :: r, 0, j + 1, p, q, h, _, e, f => by
    cases e
    have f' : r[j]? = some q := by simpa using f
    exact h.2.1 q (List.mem_of_getElem? f')
  | (a, b) :: r, i + 1, j + 1, p, q, h, hij, e, f => asc_lt (l := r) (i := i) (j := j) h.2.2 (by omega) (by simpa using e) (by simpa using f)
theorem lrows_asc : ∀ (ns : List Int) (p : Int), Asc (lrows p ns) ∧ ∀ q ∈ lrows p ns, p < q.1
  | [], _ => ⟨trivial, fun _ h => nomatch h⟩
  | n :: ns, p => by
    have h := lnxt_range p n
    have ih := lrows_asc ns (lnxt p n)
    refine ⟨⟨by omega, ih.2, ih.1⟩, fun q hq => ?_⟩
    rcases List.mem_cons.mp hq with rfl | hq
    · dsimp only; omega
    · have := ih.2 q hq
      omega
theorem lrows_lt : ∀ (ns : List Int) (p : Int), ∀ q ∈ lrows p ns, q.2 ≤ p + 14000000 * ns.length
  | [], _, _, h => nomatch h
  | n :: ns, p, q, hq => by
    have h := lnxt_range p n
    rcases List.mem_cons.mp hq with rfl | hq
    · simp only [List.length_cons]; omega
    · have := lrows_lt ns (lnxt p n) q hq
      simp only [List.length_cons]
      omega
theorem okR_snoc : ∀ (l : List (Int × Int)) (a b : Int), OkR l → 0 ≤ a → a < b → b ≤ 4611686018427387904 → (∀ q ∈ l, b < q.1) → OkR (l ++ [(a, b)])
  | [], a, b, _, h0, h1, h2, _ => ⟨h0, h1, h2, (fun _ h => nomatch h), trivial⟩
  | (c, d) :: r, a, b, ⟨o1, o2, o3, o4, o5⟩, h0, h1, h2, h3 => by
    refine ⟨o1, o2, o3, fun q hq => ?_, okR_snoc r a b o5 h0 h1 h2 fun q hq => h3 q (.tail _ hq)⟩
    cases r with
    | nil => cases hq; exact h3 _ (.head _)
    | cons z r => exact o4 q hq
theorem okR_reverse : ∀ (l : List (Int × Int)), Asc l → (∀ q ∈ l, 0 ≤ q.1 ∧ q.2 ≤ 4611686018427387904) → OkR l.reverse
  | [], _, _ => trivial
  | (a, b) :: r, ⟨h1, h2, h3⟩, hb => by
    rw [List.reverse_cons]
    have := hb _ (.head _)
    exact okR_snoc _ a b (okR_reverse r h3 fun q hq => hb q (.tail _ hq)) this.1 h1 this.2 fun q hq => h2 q (List.mem_reverse.mp hq)
/-- how many rows the law counts -/
theorem cnt_eq {n c : Nat} {M cap f : Int} (hf : ((2 ^ vidx M : Nat) : Int) = f) (hc0 : 32 ≤ cap) (h1 : 1 ≤ c) (h2 : c ≤ n) (h3 : c = 1 ∨ 2 * ((c : Int) + 1) * f ≤ cap) (h4 : ¬ ((c : Int) < n ∧ 2 * ((c : Int) + 2) * f ≤ cap)) : cntOf n M cap = c := by
  have hfs : f = 1 ∨ f = 2 ∨ f = 4 ∨ f = 8 := by
    rw [← hf]
    rcases vidx_cases M with ⟨_, e⟩ | ⟨_, _, e⟩ | ⟨_, _, _, e⟩ | ⟨_, _, _, e⟩ <;> rw [e] <;> decide
  unfold cntOf
  rw [hf]
  rcases hfs with rfl | rfl | rfl | rfl
  all_goals
    split <;> omega
end Mine
end
section
open PySem PySem.W PyProof.Rows PySem.Calls
set_option maxRecDepth 100000
namespace Mine
section
variable {prog : Program} {w : World} {A : Around} {E : Value → Shared → Prop} {s : Shared} {Q : Value → Shared → Prop} {value slice : PySem.Expr} {h₀ : Heap} {L D : Addr} {m : Str → Option Value} {trs : List TR} {news : List (Addr × Obj)}
theorem list_slice_N {a : Nat} {lo : Int} {tl : Tok} (F : Fr h₀ L s.heap m) (N : News h₀ L s.heap news) (hl : h₀.IsList D (refsT trs).toArray) (hlo : lo = (a : Int)) (ha : a ≤ trs.length) (hz : trs.length ≤ 1000000)
    (h : ∀ h' x, Fr h₀ L h' m → News h₀ L h' ((x, listOf (refsT (trs.drop a)).toArray 0) :: news) → (∀ p ∈ news, p.1 < x) → Q (.ref x) { s with heap := h' })
    (hs : subscripted slice false (.ref D) (.ref s.heap.objs.size) = operate [.ref s.heap.objs.size, .ref D] (getItem (.ref D) (.ref s.heap.objs.size)) := by with_unfolding_all rfl) :
    wpAny (model prog w) A (subscriptTail value slice (.ref D) (.ref s.heap.objs.size)) Q E { s with heap := s.heap.push { cls := .type "slice", data := .fields #[.int lo tl, .none, .none] } } := by
  subst hlo
  have hl' : (s.heap.push { cls := .type "slice", data := .fields #[.int (a : Int) tl, .none, .none] }).IsList D (refsT trs).toArray := (hl.at (F.keep D)).push _
  have hp : slicePick (refsT trs).toArray (some (a : Int)) none none = (refsT (trs.drop a)).toArray := by
    rw [slicePick_from _ _ (by simpa using ha)]
    simp [refsT, List.map_drop]
  refine tail_any (T := "list") hl'.typeIs slot_list_getitem.lookup ?_ hs
  refine wpAny_getItem_list_slice (s := { s with heap := s.heap.push { cls := .type "slice", data := .fields #[.int (a : Int) tl, .none, .none] } }) hl' (Heap.IsSliceOf.new _ _ _ _) (.int _ _) .none .none (by simp) ?_ (by rw [List.size_toArray, List.length_map, sizeLine_eq]; omega)
  rw [hp]
  have N1 := News.pushKeep N { cls := .type "slice", data := .fields #[.int (a : Int) tl, .none, .none] }
  have F1 := F.push { cls := .type "slice", data := .fields #[.int (a : Int) tl, .none, .none] }
  exact h _ _ (F1.push _) (News.push F1 N1 _ rfl) (fun p hp => Heap.lt_size (N1 p hp).1)
end
theorem rowsT_drop {trs : List TR} {a : Nat} : ∀ p ∈ rowsT (trs.drop a), p ∈ rowsT trs := fun p hp => by
  obtain ⟨z, hz, rfl⟩ := List.mem_map.mp hp
  exact List.mem_map_of_mem (List.mem_of_mem_drop hz)
end Mine
end
section
open PySem PySem.W PyProof.Rows PySem.Calls
set_option maxRecDepth 100000
namespace Mine
theorem vidx_mono {v M : Int} (h : v ≤ M) : vidx v ≤ vidx M := by
  rcases vidx_cases v with ⟨c1, e⟩ | ⟨c1, c2, e⟩ | ⟨c1, c2, c3, e⟩ | ⟨c1, c2, c3, e⟩ <;> rcases vidx_cases M with ⟨d1, e'⟩ | ⟨d1, d2, e'⟩ | ⟨d1, d2, d3, e'⟩ | ⟨d1, d2, d3, e'⟩ <;> omega
theorem venc_le {v M : Int} (h : v ≤ M) : (venc v).length ≤ 2 ^ vidx M := by
  rw [venc_length]
  exact Nat.pow_le_pow_right (by decide) (vidx_mono h)
theorem fgap_len : ∀ (xs : List (Int × Int)) (s M : Int), s ≤ M + 1 → (∀ q ∈ xs.head?, q.2 < s) → OkR xs → (fgap s xs).length ≤ 2 * xs.length * 2 ^ vidx M
  | [], _, _, _, _, _ => Nat.zero_le _
  | (a, b) :: r, s, M, hs, hh, ⟨h1, h2, h3, h4, h5⟩ => by
    have hb := hh _ rfl
    dsimp only at hb
    have g1 : (venc (s - b - 1)).length ≤ 2 ^ vidx M := venc_le (by omega)
    have g2 : (venc (b - a - 1)).length ≤ 2 ^ vidx M := venc_le (by omega)
    have ih := fgap_len r a M (by omega) h4 h5
    show (venc (s - b - 1) ++ venc (b - a - 1) ++ fgap a r).length ≤ _
    rw [List.length_append, List.length_append, List.length_cons]
    have e : 2 * (r.length + 1) * 2 ^ vidx M = 2 * r.length * 2 ^ vidx M + 2 ^ vidx M + 2 ^ vidx M := by
      rw [Nat.mul_add, Nat.add_mul]; omega
    omega
theorem mx_ge (a b : Int) : a ≤ mx a b ∧ b ≤ mx a b := by
  unfold mx
  split <;> omega
theorem fenc_len {delay a b : Int} {xs : List (Int × Int)} (hok : OkR ((a, b) :: xs)) (hn : xs.length ≤ 60) : (fenc delay ((a, b) :: xs)).length ≤ 2 * (xs.length + 2) * 2 ^ vidx (mx (b - 1) delay) := by
  obtain ⟨h1, h2, h3, h4, h5⟩ := hok
  have hm := mx_ge (b - 1) delay
  generalize mx (b - 1) delay = M at hm
  have g1 : (venc (b - 1)).length ≤ 2 ^ vidx M := venc_le hm.1
  have g2 : (venc delay).length ≤ 2 ^ vidx M := venc_le hm.2
  have g3 : (venc (xs.length : Int)).length ≤ 2 ^ vidx M := by
    have : (venc (xs.length : Int)).length = 1 := by
      rw [venc_length]
      unfold vidx
      rw [if_pos (by omega)]
    rw [this]
    exact Nat.pow_pos (by decide)
  have g4 : (venc (b - 1 - a)).length ≤ 2 ^ vidx M := venc_le (by omega)
  have g5 := fgap_len xs a M (by omega) h4 h5
  show (venc (b - 1) ++ venc delay ++ venc (xs.length : Int) ++ venc (b - 1 - a) ++ fgap a xs).length ≤ _
  simp only [List.length_append]
  have e : 2 * (xs.length + 2) * 2 ^ vidx M = 2 * xs.length * 2 ^ vidx M + 2 ^ vidx M + 2 ^ vidx M + 2 ^ vidx M + 2 ^ vidx M := by
    rw [Nat.mul_add, Nat.add_mul]; omega
  omega
theorem okR_take : ∀ (l : List (Int × Int)) (k : Nat), OkR l → OkR (l.take k)
  | [], k, _ => by simp [OkR]
  | _ :: _, 0, _ => trivial
  | (a, b) :: r, k + 1, ⟨h1, h2, h3, h4, h5⟩ => by
    refine ⟨h1, h2, h3, fun q hq => ?_, okR_take r k h5⟩
    cases r with
    | nil => simp at hq
    | cons z r =>
      cases k with
      | zero => cases hq
      | succ k => exact h4 q hq
/-- the newest rows, the newest first -/
theorem newest_rev {trs : List TR} {y : TR} {xs : List (Int × Int)} {cn : Nat} (h : (pairsT trs).reverse = (y.a, y.b) :: xs) (h1 : 1 ≤ cn) (h2 : cn ≤ trs.length) : (pairsT (trs.drop (trs.length - cn))).reverse = (y.a, y.b) :: xs.take (cn - 1) := by
  have e : pairsT (trs.drop (trs.length - cn)) = (pairsT trs).drop ((pairsT trs).length - cn) := by rw [pairsT, pairsT, List.map_drop, List.length_map]
  rw [e, List.reverse_drop]
  rw [show (pairsT trs).length - ((pairsT trs).length - cn) = cn from by rw [List.length_map]; omega, h]
  obtain ⟨c, rfl⟩ : ∃ c, cn = c + 1 := ⟨cn - 1, by omega⟩
  rfl
end Mine
end
section
open PySem PySem.W PyProof.Rows PySem.Calls
set_option maxRecDepth 100000
namespace Mine
def bodyAt (K : Frag) (f : Addr) : List Stmt := match K.lookup f with
  | some ⟨_, _, .func fd, _⟩ => (match fd.body with
    | .stmts b => b
    | _ => [])
  | _ => []
def envAt (K : Frag) (f L : Addr) : Env := match K.lookup f with
  | some ⟨_, _, .func fd, _⟩ => envOf fd.qualname fd.scope L f fd.code
  | _ => default
section
variable {K : Frag} {name qual : Str} {params : Arguments} {body : List Stmt} {scope : Scope} {dV kV doc pm cdv ct oc : Value} {an od : Option Addr} {osl : Array (Option Value)} {f : Addr}
theorem at_of (ho : K.lookup f = some ⟨oc, od, .func (fnOf name qual params body scope dV kV doc pm an cdv ct), osl⟩) : bodyAt K f = body ∧ ∀ L, envAt K f L = envOf qual scope L f cdv := by
  constructor
  · unfold bodyAt; rw [ho]
  · intro L; unfold envAt; rw [ho]
end
/-- push_bytes into a fresh buffer -/
theorem push_lead {w : World} {mean : ExcName → Option Value} {mg mb : Str → Option Value} {x d o : Addr} {t1 t2 t3 t4 : Tok} {v : List UInt8} {n cap : Int} (hn : n = (v.toArray.size : Int) + cap) (hc : 0 ≤ cap) (hz : n ≤ 100000) :
    Con w mean mg mb 5 155 [.ref x, .bytes v.toArray t4] [] (bufL w.params x d o (List.replicate n.toNat 0) 0 t1 t2 t3)
      (fun r news' => r = .none ∧ ∃ o' t3' old', old'.length = cap.toNat ∧ news' = bufL w.params x d o' (v ++ old') ((v.length : Nat) : Int) t1 t2 t3') := by
  intro dp un gd ll base g s R B X T Kp N hdp hun ret
  have hs : v.toArray.size = v.length := by simp
  refine push_bytes (pre := []) (old := List.replicate n.toNat 0) (v := v.toArray) (by simp; omega) (by simp; omega) dp un gd ll base g s R B X T Kp N hdp hun fun r news' h' tk hp K' L' => ?_
  obtain ⟨rfl, o', t3', rfl⟩ := hp
  refine ret _ _ _ _ ⟨rfl, o', t3', (List.replicate n.toNat 0).drop v.length, ?_, ?_⟩ K' L'
  · simp; omega
  · simp
theorem buf_data2 {w : World} {mean : ExcName → Option Value} {mg mb : Str → Option Value} {x d o : Addr} {t1 t2 t3 : Tok} {pre old : List UInt8} (hz : pre.length + old.length ≤ 100000) :
    Con w mean mg mb 5 77 [.ref x] [] (bufL w.params x d o (pre ++ old) ((pre.length : Nat) : Int) t1 t2 t3) (fun r news' => (∃ t, r = .bytes pre.toArray t) ∧ news' = bufL w.params x d o (pre ++ old) ((pre.length : Nat) : Int) t1 t2 t3) := by
  have := buf_data (w := w) (mean := mean) (mg := mg) (mb := mb) (x := x) (d := d) (o := o) (t1 := t1) (t2 := t2) (t3 := t3) (bs := pre ++ old) (k := pre.length) (by simp; omega) (by simp)
  rw [List.take_left' rfl] at this
  exact this
theorem pull_ok {w : World} {mean : ExcName → Option Value} {mg mb : Str → Option Value} {x d o : Addr} {t1 t2 t3 : Tok} {bs : List UInt8} {k k1 : Nat} {low dl : Int} {ps : List (Int × Int)} (hz : bs.length ≤ 100000) (hk : k ≤ 100000)
    (hp : pack bs k = some (k1, low, ps, dl)) (hlow : 0 ≤ low) :
    ConE w mean mg mb 25 340 [.ref x] [] [] (bufL w.params x d o bs k t1 t2 t3)
      (fun r news' => ∃ T xr dr lr tr n' rs t3' td, pairsOf rs = ps ∧ r = .ref T ∧ news' = (T, tupO [.ref xr, .int dl td]) :: (rsL w.params xr dr lr rs n' tr ++ (bufL w.params x d o bs (k1 : Nat) t1 t2 t3' ++ rowsL w.params rs)))
      (fun _ => False) := by
  intro dp un gd ll base g s R B X T Kp N hrd hdp hun ret fail
  refine pull_ack_frame hz hk dp un gd ll base g s R B X T Kp N hrd hdp hun (fun r news' h' tk hq K' L' => ?_) fun e t cls vs h' tk hq => ?_
  · obtain ⟨T, xr, dr, lr, tr, n', rs, t3', k', low', dl', td, hpk, hlow', hr, hn⟩ := hq
    rw [hp] at hpk
    have hpk := Option.some.inj hpk
    injection hpk with e1 hpk
    injection hpk with e2 hpk
    injection hpk with e3 e4
    subst e1 e2 e3 e4
    exact ret _ _ _ _ ⟨T, xr, dr, lr, tr, n', rs, t3', td, rfl, hr, hn⟩ K' L'
  · rcases hq with ⟨hq, _⟩ | ⟨k', low', rows, dl', hq, hl, _⟩
    · rw [hp] at hq; cases hq
    · rw [hp] at hq
      have hq := Option.some.inj hq
      injection hq with e1 hq
      injection hq with e2 hq
      omega
theorem allLt_mem {d : Nat} {l : List (Addr × Obj)} (h : AllLt d l) : ∀ p ∈ l, @LT.lt Nat _ p.1 d := by
  induction l with
  | nil => intro p hp; cases hp
  | cons a r ih =>
    intro p hp
    cases hp with
    | head => exact h.1
    | tail _ hp => exact ih h.2 p hp
theorem fr_pick {g h : Heap} {L : Addr} {m : Str → Option Value} {x : Str} {v : Value} (F : Fr g L h m) (e : m x = some v) : Fr g L h (fun y => if y = x then some v else m y) := by
  have q : (fun y => if y = x then some v else m y) = m := by
    funext y
    by_cases q : y = x
    · rw [if_pos q, q, e]
    · rw [if_neg q]
  rw [q]
  exact F
theorem news_all {h : Heap} {all : List (Addr × Obj)} (H : ∀ p ∈ all, h.get? p.1 = some p.2) : ∃ e L, News e L h all :=
  ⟨hideAll h (List.range h.objs.size), h.objs.size, fun p hp => ⟨H p hp, Nat.ne_of_lt (Heap.lt_size (H p hp)), hideAll_none _ (List.mem_range.mpr (Heap.lt_size (H p hp)))⟩⟩
theorem rowD_ok (l : List (Int × Int)) : ∀ d ∈ l.map rowD, kqdOk 8 d = true := fun d hd => by
  obtain ⟨q, _, rfl⟩ := List.mem_map.mp hd
  simp [kqdOk]
section
variable {prog : Program} {w : World} {A : Around} {E : Value → Shared → Prop} {s : Shared} {Q : Value → Shared → Prop} {D1 D2 : Addr} {ys zs : List Value} {k1 k2 : Nat} {n1 n2 : List (Addr × Obj)} {p1 p2 : List (Int × Int)}
theorem rows_ne (h1 : s.heap.get? D1 = some (listOf ys.toArray k1)) (L1 : ∀ p ∈ n1, s.heap.get? p.1 = some p.2) (A1 : DatAll n1 ys (p1.map rowD)) (h2 : s.heap.get? D2 = some (listOf zs.toArray k2)) (L2 : ∀ p ∈ n2, s.heap.get? p.1 = some p.2) (A2 : DatAll n2 zs (p2.map rowD))
    (hu : A.units + 64 < cLine) (e : p1 = p2) (h : Q (.bool false) s) : wpAny (model prog w) A (compareOp .NotEq (.ref D1) (.ref D2)) Q E s := by
  obtain ⟨g, L, N⟩ := news_all (h := s.heap) (all := (D1, listOf ys.toArray k1) :: (D2, listOf zs.toArray k2) :: (n1 ++ n2)) fun p hp => by
    simp only [List.mem_cons, List.mem_append] at hp
    rcases hp with rfl | rfl | hp | hp
    · exact h1
    · exact h2
    · exact L1 p hp
    · exact L2 p hp
  refine kqd_ne N (.head _) rfl rfl A1 (fun p hp => .tail _ (.tail _ (List.mem_append_left _ hp))) (.tail _ (.head _)) rfl rfl A2 (fun p hp => .tail _ (.tail _ (List.mem_append_right _ hp))) (rowD_ok _) (rowD_ok _) hu ?_
  subst e
  simpa using h
theorem rows_eq (h1 : s.heap.get? D1 = some (listOf ys.toArray k1)) (L1 : ∀ p ∈ n1, s.heap.get? p.1 = some p.2) (A1 : DatAll n1 ys (p1.map rowD)) (h2 : s.heap.get? D2 = some (listOf zs.toArray k2)) (L2 : ∀ p ∈ n2, s.heap.get? p.1 = some p.2) (A2 : DatAll n2 zs (p2.map rowD))
    (hu : A.units + 64 < cLine) (e : p1 = p2) (h : Q (.bool true) s) : wpAny (model prog w) A (compareOp .Eq (.ref D1) (.ref D2)) Q E s := by
  obtain ⟨g, L, N⟩ := news_all (h := s.heap) (all := (D1, listOf ys.toArray k1) :: (D2, listOf zs.toArray k2) :: (n1 ++ n2)) fun p hp => by
    simp only [List.mem_cons, List.mem_append] at hp
    rcases hp with rfl | rfl | hp | hp
    · exact h1
    · exact h2
    · exact L1 p hp
    · exact L2 p hp
  refine kqd_eq N (.head _) rfl rfl A1 (fun p hp => .tail _ (.tail _ (List.mem_append_left _ hp))) (.tail _ (.head _)) rfl rfl A2 (fun p hp => .tail _ (.tail _ (List.mem_append_right _ hp))) (rowD_ok _) (rowD_ok _) hu ?_
  subst e
  simpa using h
end
end Mine
end
section
open PySem PySem.W PyProof.Rows PySem.Calls
set_option maxRecDepth 100000
namespace Mine
theorem okR_nonneg : ∀ (l : List (Int × Int)), OkR l → ∀ q ∈ l, 0 ≤ q.1
  | (a, b) :: r, ⟨h1, _, _, _, h5⟩, q, hq => by
    rcases List.mem_cons.mp hq with rfl | hq
    · exact h1
    · exact okR_nonneg r h5 q hq
theorem pack_due (pre post : List UInt8) {delay a b : Int} {xs : List (Int × Int)} (hok : OkR ((a, b) :: xs)) (hd0 : 0 ≤ delay) (hd1 : delay < 4611686018427387904) (hn : xs.length < 1000) :
    ∃ low, 0 ≤ low ∧ pack (pre ++ (fenc delay ((a, b) :: xs) ++ post)) pre.length = some (pre.length + (fenc delay ((a, b) :: xs)).length, low, ((a, b) :: xs).reverse, delay) := by
  obtain ⟨h1, h2, h3, h4, h5⟩ := id hok
  have e1 : b - 1 - (b - 1 - a) = a := by omega
  have e2 : b - 1 + 1 = b := by omega
  have hp := pack_gframe pre post (e := b - 1) (dl := delay) (z := b - 1 - a) (l0 := 0) (ld := 0) (tl := gaps a xs) (by omega) (by omega) hd0 hd1 (by omega) (by omega) (by omega) (by omega) (by rw [gaps_length]; exact hn) (okG_gaps xs a (by omega) h4 h5)
  rw [← fenc_gframe, e1, e2] at hp
  obtain ⟨g1, g2⟩ := grow_gaps xs a [(a, b)]
  rw [g1, g2] at hp
  refine ⟨_, ?_, by rw [hp, List.reverse_cons]⟩
  cases e : xs.getLast? with
  | none => exact h1
  | some q => exact okR_nonneg _ h5 q (List.mem_of_getLast? e)
end Mine
end
section
open PySem PySem.W PyProof.Rows PySem.Calls
set_option maxRecDepth 100000
set_option maxHeartbeats 1000000
namespace Mine
local macro_rules | `(tactic| walk_at "mine room") => `(tactic| first | (dsimp only; omega) | ((try simp only [depth_mark, depth_under_make, depth_under_kw, depth_in1, depth_deeper, units_deeper, units_in1, units_under_make]); (try dsimp only); omega))
local macro_rules | `(tactic| walk_at "mine one") => `(tactic| (first | (k_unfold; (try dsimp only)) | (k_end; wrow_close) | walk1 | (dsimp only; walk1) | (leave1; walk_say "STEP leave1"; try dsimp only) | (dsimp only; k_unfold; (try dsimp only)) | (dsimp only [StepO]; k_unfold; (try dsimp only)) | fail "no step"))
local macro_rules | `(tactic| walk_at "mine enter") => `(tactic| (refine' enter ?k1 ?k2 ?k3 ?k4 ?k5 ?kd ?k6 ?k7 ?k8 ?k9 ?_ ?c2 ?c3 ?c4 ?c5; (case k1 => assumption); (case k2 => assumption); (case k3 => assumption); (case k4 => assumption); (case k5 => assumption); (case kd => omega); (case k6 => k_is); (case k7 => k_is); (case k8 => first | exact BindsTo.of_eq rfl | exact binds_K (Frag.In.keeps (by assumption) (Kept.keep (by assumption))) rfl (by k_is) rfl rfl rfl | exact binds_K (by k_in) rfl (by k_is) rfl rfl rfl); (case c5 => decide); (case k9 => exact locs rfl); (case c2 => exact rfl); (case c3 => exact rfl); (case c4 => exact rfl); k_whole; intro L' h' F' N' K'; (try dsimp only); (try k_fold)))
local macro_rules | `(tactic| walk_at "mine wr") => `(tactic| ((repeat (refine List.forall_mem_cons.mpr ⟨?_, ?_⟩; (· k_mem))); exact List.forall_mem_nil _))
local macro_rules | `(tactic| walk_at "mine split") => `(tactic| (repeat' (first | exact Split.nil | (refine' Split.keep ?a ?_; (case a => k_all)) | refine' Split.drop ?_)))
local macro_rules | `(tactic| walk_at "mine con") => `(tactic| ((case kB => assumption); (case kF => k_asm); (case kX => assumption); (case kT => assumption); (case kN => k_asm); (case kf => exact rfl); (case kk => exact rfl); (case kw => walk_at "mine wr"); (case ks => walk_at "mine split"); (case kd => walk_at "mine room"); (case ku => walk_at "mine room")))
local macro_rules | `(tactic| walk_at "mine conE") => `(tactic| ((case kB => assumption); (case kF => k_asm); (case kX => assumption); (case kT => assumption); (case kN => k_asm); (case kf => exact rfl); (case kk => exact rfl); (case kw => walk_at "mine wr"); (case ks => walk_at "mine split"); (case kd => walk_at "mine room"); (case ku => walk_at "mine room")))
local macro_rules | `(tactic| k_room) => `(tactic| ((try simp only [depth_mark, depth_under_make, depth_under_kw, depth_in1, depth_deeper, depth_caller]); (try dsimp only); omega))
local macro_rules | `(tactic| walk_at "mine map") => `(tactic| (refine' map_off _ ?hs ?a; (case a => (intro y hy; (have nn : ∀ z, _ = true → y ≠ z := fun z hz e => by subst e; exact absurd (hz.symm.trans hy) (by decide)); (try dsimp only); (repeat rw [if_neg (nn _ (by decide))]); first | done | exact rfl)); (case hs => decide)))
local macro_rules | `(tactic| walk_at "mine oneD") => `(tactic| (first | (k_unfold; (try dsimp only)) | (k_end; wrow_close) | (walk1; (try dsimp only [List.cons_append, List.nil_append])) | (dsimp only; walk1) | (leave1; walk_say "STEP leave1"; try dsimp only) | (dsimp only; k_unfold; (try dsimp only)) | (dsimp only [StepO]; k_unfold; (try dsimp only)) | fail "no step"))
local macro_rules | `(tactic| walk_at "mine size") => `(tactic| ((try simp only [Array.size_append]); refine Nat.le_trans (by first | exact Nat.add_le_add (Nat.add_le_add (KBc.size_picked_le _ _ _) (Nat.le_refl _)) (KBc.size_picked_le _ _ _) | exact Nat.add_le_add (KBc.size_picked_le _ _ _) (Nat.le_refl _) | exact KBc.size_picked_le _ _ _) ?_; simp only [List.size_toArray, List.length_append]; omega))
local macro_rules | `(tactic| walk_at "call builtin:len") => `(tactic| (k_here; (with_reducible show wpAny _ _ (call (Value.builtin "len") [Value.ref _]) _ _ _); (with_reducible rename News _ _ _ _ => N'); (first | (refine' len_app ?ba ?hz ?_; (case ba => exact led_ba N' (by k_mem)); (case hz => omega); k_whole) | (refine' len_bs ?ba ?hz ?_; (case ba => exact led_ba N' (by k_mem)); (case hz => omega); k_whole))))
local macro_rules | `(tactic| walk_at "subscriptTail") => `(tactic| (k_here; (with_reducible show wpAny _ _ (subscriptTail _ (Expr.Slice _ _ none _) (Value.ref _) (Value.ref _)) _ _ _); (with_reducible rename Fr _ _ _ _ => F'); (with_reducible rename News _ _ _ _ => N'); (refine' BA.slice_N (s := ⟨_, _, _, _, _⟩) F' N' ?ba (by constructor) (by constructor) ?hz ?_; (case ba => exact led_ba N' (by k_mem)); (case hz => walk_at "mine size"); intro h' x' F' N' l1; (try k_lt l1); (try k_sweep); (try dsimp only))))
local macro_rules | `(tactic| walk_at "binaryOp Add") => `(tactic| (k_here; (with_reducible show wpAny _ _ (binaryOp _ (Value.ref _) (Value.bytes _ _)) _ _ _); (with_reducible rename Fr _ _ _ _ => F'); (with_reducible rename News _ _ _ _ => N'); (refine' BA.add_b F' N' ?ba ?hz ?_; (case ba => exact led_ba N' (by k_mem)); (case hz => walk_at "mine size"); intro h' x' F' N' l1; (try k_lt l1); (try k_sweep); (try dsimp only))))
local macro_rules | `(tactic| walk_at "binaryOp Add") => `(tactic| (k_here; (with_reducible show wpAny _ _ (binaryOp _ (Value.ref _) (Value.ref _)) _ _ _); (with_reducible rename Fr _ _ _ _ => F'); (with_reducible rename News _ _ _ _ => N'); (refine' BA.add_ba F' N' ?ba ?bb ?hz ?_; (case ba => exact led_ba N' (by k_mem)); (case bb => exact led_ba N' (by k_mem)); (case hz => walk_at "mine size"); intro h' x' F' N' l1; (try k_lt l1); (try k_sweep); (try dsimp only))))
local macro_rules | `(tactic| walk_at "call type:bytes") => `(tactic| (k_here; (with_reducible show wpAny _ _ (call (Value.type "bytes") [Value.ref _]) _ _ _); (with_reducible rename News _ _ _ _ => N'); (refine' BA.bytes_of ?ba ?hz ?_; (case ba => exact led_ba N' (by k_mem)); (case hz => walk_at "mine size"); intro _ _; (try dsimp only))))
local macro_rules | `(tactic| k_inst) => `(tactic| (refine' Mine.InstAt.of_base ?F ?h1 ?h2; (case F => k_asm); (case h1 => assumption); (case h2 => assumption)))
local macro_rules | `(tactic| walk_at "mine dis") => `(tactic| (repeat' (first | exact List.forall_mem_nil _ | refine List.forall_mem_cons.mpr ⟨?_, ?_⟩ | (refine Or.inr (cls_ne ?_); (simp; done)) | (refine Or.inr (key_ne ?_); exact rfl) | (refine Or.inr (it_ne (by assumption) ?_); (simp; done)) | (refine Or.inr (it_ne' (by assumption) ?_); (simp; done)) | exact .inl (by k_ne))))
local macro_rules | `(tactic| walk_at "mine split2") => `(tactic| (repeat' (first | with_reducible exact Split2.nil | with_reducible exact Split2.all | with_reducible exact Split2.tail rows_off_buf | with_reducible exact Split2.tail rows_off_rs | (with_reducible refine Split2.tail (rowsT_off ?_); (simp; done)) | (with_reducible refine' Split2.drop2 ?h ?_; (case h => with_reducible k_mem)) | (refine' Split2.keep ?a ?_; (case a => walk_at "mine dis")) | refine' Split2.drop ?_ | exact Split2.nil)))
local macro_rules | `(tactic| walk_at "mine conF") => `(tactic| ((case kB => assumption); (case kF => k_asm); (case kX => assumption); (case kT => assumption); (case kN => k_asm); (case kf => exact rfl); (case kk => exact rfl); (case kw => walk_at "mine wr"); (case ks => walk_at "mine split2"); (case kr => walk_at "mine rd"); (case kd => walk_at "mine room"); (case ku => walk_at "mine room")))
local macro_rules | `(tactic| walk_at "mine rd") => `(tactic| first | exact List.forall_mem_nil _ | (refine fun p hp => Or.inl ?_; simp only [List.mem_cons, List.mem_append, rowsL_cons, List.not_mem_nil, or_false, List.append_assoc] at hp ⊢; (repeat' (refine Or.elim hp ?_ ?_ <;> clear hp <;> intro hp)); all_goals (first | walk_at "mine or" | (subst hp; simp; done))))
local macro_rules | `(tactic| walk_at "exec For Name Call cons nil") => `(tactic| (k_here; (rename Fr _ _ _ _ => lF'); (with_unfolding_all refine' For_turns lF' ?_; k_whole)))
local macro_rules | `(tactic| walk_at "exec For Name Name cons nil") => `(tactic| (k_here; (rename Fr _ _ _ _ => lF'); (with_unfolding_all refine' For_turns lF' ?_; k_whole)))
local macro_rules | `(tactic| walk_at "exec For Tuple Call cons nil") => `(tactic| (k_here; (rename Fr _ _ _ _ => lF'); (with_unfolding_all refine' For_turns lF' ?_; k_whole)))
local macro_rules | `(tactic| walk_at "exec For Tuple Subscript cons nil") => `(tactic| (k_here; (rename Fr _ _ _ _ => lF'); (with_unfolding_all refine' For_turns lF' ?_; k_whole)))
local macro_rules | `(tactic| walk_at "call type:enumerate") => `(tactic| (k_here; (with_reducible show wpAny _ _ (call (Value.type _) [Value.ref _]) (fun xv s₁ => wpAny _ _ (pyIter xv) (fun it s₂ => TurnsAt _ _ _ _ _ _ _ _ _ it s₂) _ s₁) _ _); refine halt ?_))
local macro_rules | `(tactic| walk_at "pyIter ref") => `(tactic| (k_here; (with_reducible show wpAny _ _ (pyIter (Value.ref _)) (fun it s₂ => TurnsAt _ _ _ _ _ _ _ _ _ it s₂) _ _); refine halt ?_))
local macro_rules | `(tactic| walk_at "pyIter ref") => `(tactic| (k_here; (with_reducible show wpAny _ _ (pyIter (Value.ref _)) (fun it s₂ => TurnsAt _ _ _ _ _ _ _ _ _ it s₂) _ _); k_dflt (refine' iter_nil ?h ?F ?N ?X ?e ?_; (case h => exact rfl); (case F => k_asm); (case N => k_asm); (case X => k_asm); (case e => k_is); intro h' tk' F' N'; (try k_sweep); (try dsimp only))))
local macro_rules | `(tactic| walk_at "mine or") => `(tactic| first | with_reducible assumption | (with_reducible exact Or.inl (by with_reducible assumption)) | (refine Or.inr ?_; walk_at "mine or"))
local macro_rules | `(tactic| walk_at "mine sub") => `(tactic| (intro p hp; simp only [List.mem_cons, List.mem_append, rowsL_cons, List.not_mem_nil, or_false, List.append_assoc] at hp ⊢; (repeat' (refine Or.elim hp ?_ ?_ <;> clear hp <;> intro hp)); all_goals (first | walk_at "mine or" | (subst hp; simp; done))))
local macro_rules | `(tactic| walk_at "call builtin:list.append") => `(tactic| (k_here; (with_reducible show wpAny _ _ (call (Value.builtin _) [Value.ref _, _]) _ _ _); k_dflt (refine' append_S ?F ?N ?m ?s ?z ?_; (case F => k_asm); (case N => k_asm); (case m => k_mem); (case s => walk_at "mine split2"); (case z => (simp only [List.length_map, List.size_toArray]; omega)); intro h' F' N'; (try k_sweep); (try dsimp only))))
local macro_rules | `(tactic| walk_at "binaryOp FloorDiv int int") => `(tactic| (k_here; (with_reducible show wpAny _ _ (binaryOp _ (Value.int _ _) (Value.int _ _)) _ _ _); (refine' div_lit ?hb ?hp ?_; (case hb => decide); (case hp => exact PyProof.noPylong_of_log2 (by decide +kernel)))))
local macro_rules | `(tactic| walk_at "binaryOp Mod int int") => `(tactic| (k_here; (with_reducible show wpAny _ _ (binaryOp _ (Value.int _ _) (Value.int _ _)) _ _ _); (refine' mod_lit ?hb ?_; (case hb => decide))))
local macro_rules | `(tactic| walk_at "binaryOp Mult int int") => `(tactic| (k_here; (with_reducible show wpAny _ _ (binaryOp _ (Value.int _ _) (Value.int _ _)) _ _ _); (refine' mul_b ?h1 ?h2 ?_; (case h1 => omega); (case h2 => omega))))
local macro_rules | `(tactic| walk_at "mine enterN") => `(tactic| (refine' enterN ?k1 ?k2 ?k3 ?k4 ?k5 ?kd ?k6 ?k7 ?k8 ?k9 ?_ ?c2 ?c3 ?c4 ?c5; (case k1 => assumption); (case k2 => assumption); (case k3 => assumption); (case k4 => assumption); (case k5 => assumption); (case kd => omega); (case k6 => k_is); (case k7 => k_is); (case k8 => first | exact BindsTo.of_eq rfl | exact binds_K (Frag.In.keeps (by assumption) (Kept.keep (by assumption))) rfl (by k_is) rfl rfl rfl | exact binds_K (by k_in) rfl (by k_is) rfl rfl rfl); (case c5 => decide); (case k9 => exact locs rfl); (case c2 => exact rfl); (case c3 => exact rfl); (case c4 => exact rfl); k_whole; intro L' h' F' N' K'; (try dsimp only); (try k_fold)))
local macro_rules | `(tactic| walk_at "subscriptTail") => `(tactic| (k_here; (with_reducible show wpAny _ _ (subscriptTail _ _ (Value.ref _) (Value.int _ _)) _ _ _); (refine' itemTB ?F ?hl ?h0 ?h1 ?hy ?_; (case F => k_asm); (case hl => with_reducible assumption); (case h0 => omega); (case h1 => omega); (case hy => with_reducible assumption); k_whole)))
local macro_rules | `(tactic| walk_at "subscriptTail") => `(tactic| (k_here; (with_reducible show wpAny _ _ (subscriptTail _ _ (Value.ref _) (Value.int (-1) _)) _ _ _); (refine' itemTB_last ?F ?hl ?hi ?h1 ?hy ?_; (case F => k_asm); (case hl => with_reducible assumption); (case hi => rfl); (case h1 => omega); (case hy => with_reducible assumption); k_whole)))
local macro_rules | `(tactic| walk_at "subscriptTail") => `(tactic| (k_here; (with_reducible show wpAny _ _ (subscriptTail _ _ (Value.ref _) (Value.int 0 _)) _ _ _); (refine' tupB0 ?F ?ht ?_; (case F => k_asm); (case ht => with_reducible assumption); k_whole)))
local macro_rules | `(tactic| walk_at "subscriptTail") => `(tactic| (k_here; (with_reducible show wpAny _ _ (subscriptTail _ _ (Value.ref _) (Value.int 1 _)) _ _ _); (refine' tupB1 ?F ?ht ?_; (case F => k_asm); (case ht => with_reducible assumption); k_whole)))
local macro_rules | `(tactic| walk_at "call builtin:len") => `(tactic| (k_here; (with_reducible show wpAny _ _ (call (Value.builtin "len") [Value.ref _]) _ _ _); (refine' lenTB ?F ?hl ?hz ?_; (case F => k_asm); (case hl => assumption); (case hz => omega); intro _ _; (try dsimp only))))
local macro_rules | `(tactic| walk_at "mine noerr") => `(tactic| (rotate_left; (focus (intro e' t' cls' vs' g₂' h' tk' hp' R' F' U'; exact hp'.elim))))
local macro_rules | `(tactic| walk_at "binaryOp Add") => `(tactic| (k_here; (with_reducible show wpAny _ _ (binaryOp _ (Value.bytes (List.toArray _) _) (Value.bytes (List.toArray _) _)) _ _ _); (refine' add_bytesL ?hz ?_; (case hz => ((try simp only [List.length_append, List.length_cons, List.length_nil]); omega)); intro _ _; (try dsimp only))))
local macro_rules | `(tactic| walk_at "eval ListComp") => `(tactic| (k_here; (with_reducible show wpAny _ _ (eval (Expr.ListComp _ _ _ _) _) _ _ _); refine halt ?_))
local macro_rules | `(tactic| walk_at "compareOp NotEq ref ref") => `(tactic| (k_here; (with_reducible show wpAny _ _ (compareOp _ (Value.ref _) (Value.ref _)) _ _ _); refine halt ?_))
local macro_rules | `(tactic| walk_at "compareOp Eq ref ref") => `(tactic| (k_here; (with_reducible show wpAny _ _ (compareOp _ (Value.ref _) (Value.ref _)) _ _ _); refine halt ?_))
local macro_rules | `(tactic| walk_at "call ref") => `(tactic| (k_here; (k_dflt (show wpAny _ _ (call (Value.ref 99) [Value.ref _, Value.int _ _]) _ _ _)); k_dflt (refine' ConE.call2 (Con.toE (buf_seek ?hz ?hp)) ?kB ?kF ?kX ?kT ?kN ?kf ?kk ?kw ?ks ?kr ?kd ?ku ?_ ?_; walk_at "mine conF"; (case hz => omega); (case hp => ((try simp only [List.length_append, List.size_toArray]); omega)); walk_at "mine noerr"; (intro v' news' h' tk' hp' F' N'; obtain ⟨hv', t3', hn'⟩ := hp'; subst hv'; subst hn'; dsimp only [bufL, List.cons_append, List.nil_append] at N'; (try k_sweep); (try dsimp only)))))
local macro_rules | `(tactic| walk_at "call ref") => `(tactic| (k_here; (k_dflt (show wpAny _ _ (call (Value.ref 340) [Value.ref _]) _ _ _)); k_dflt (refine' ConE.call2 (pull_ok ?hz ?hk ?hp ?hl) ?kB ?kF ?kX ?kT ?kN ?kf ?kk ?kw ?ks ?kr ?kd ?ku ?_ ?_; walk_at "mine conF"; (case hp => assumption); (case hl => assumption); (case hz => omega); (case hk => (simp only [List.size_toArray]; omega)); walk_at "mine noerr"; (intro v' news' h' tk' hp' F' N'; obtain ⟨T', xr', dr', lr', tr', n', rs', t3', td', hrs', hv', hn'⟩ := hp'; subst hv'; subst hn'; dsimp only [bufL, rsL, List.cons_append, List.nil_append] at N'; (try k_sweep); (try dsimp only)))))
theorem buf_out {P : Params} {g h : Heap} {L x d o : Addr} {news : List (Addr × Obj)} {bs : List UInt8} {k : Int} {t1 t2 t3 : Tok} (N : News g L h news) (h1 : (x, instObj 193 d) ∈ news) (h2 : (d, bufD P o k t1 t2 t3) ∈ news) (h3 : (o, BA.baObj bs.toArray) ∈ news) :
    News g L h [(x, instObj 193 d), (d, bufD P o k t1 t2 t3), (o, BA.baObj bs.toArray)] := news_sub N fun p hp => by
  simp only [List.mem_cons, List.not_mem_nil, or_false] at hp
  rcases hp with rfl | rfl | rfl
  · exact h1
  · exact h2
  · exact h3
local macro_rules | `(tactic| walk_at "call ref") => `(tactic| (k_here; (k_dflt (show wpAny _ _ (call (Value.ref 106) [Value.ref _]) _ _ _)); k_dflt (refine' ConE.call2 (Con.toE buf_tell) ?kB ?kF ?kX ?kT ?kN ?kf ?kk ?kw ?ks ?kr ?kd ?ku ?_ ?_; walk_at "mine conF"; walk_at "mine noerr"; (intro v' news' h' tk' hp' F' N'; obtain ⟨⟨t', hv'⟩, hn'⟩ := hp'; subst hv'; subst hn'; dsimp only [bufL, List.cons_append, List.nil_append] at N'; (try k_sweep); (try dsimp only)))))
theorem pushed_tail2 {w : World} {mean : ExcName → Option Value} {mg mb : Str → Option Value} {nws : List TR} {delay : Int} {lead due : List UInt8} {td tl tdu : Tok} {y0 : TR} {xs : List (Int × Int)} {kn : Nat}
    {dp un : Nat} {gd : Option (List Code)} {ll : List Env} {base g : Heap} {s : Shared} {L nw : Addr} {m₀ : Str → Option Value} {Q : Flow → Shared → Prop} {E : Value → Shared → Prop}
    (hd0 : 0 ≤ delay) (hd1 : delay < 4611686018427387904) (hlen : nws.length ≤ 30) (hld : lead.length ≤ 2) (hok : OkR ((y0.a, y0.b) :: xs))
    (hrev : (pairsT nws).reverse = (y0.a, y0.b) :: xs) (hdue : fenc delay ((y0.a, y0.b) :: xs) = due) (hdl : (due.length : Int) ≤ 500)
    (B : Below (AX dp un gd ll) base ll g) (X : (hd.heap_39 w.params).In g) (T : Top hd.view_39 LS mean mg mb g) (hrd : ∀ p ∈ rowsT nws, g.get? p.1 = some p.2)
    (hdp : dp + 60 < recursionLimit) (hun : un + 10 * 60 < cLine) (hbare : AllBare s.gens)
    (F : Fr g L s.heap (fun y => if y = Str.ofString "due" then some (.bytes due.toArray tdu) else if y = Str.ofString "newest" then some (.ref nw) else if y = Str.ofString "delay" then some (.int delay td) else if y = Str.ofString "lead" then some (.bytes lead.toArray tl) else m₀ y))
    (N : News g L s.heap [(nw, listOf (refsT nws).toArray kn)])
    (ret : ∀ h' tk gens', AllBare gens' → Kept g h' → Q (.ret (.bool true)) ⟨h', gens', s.drawn, tk, s.os⟩) :
    wpN (model PG w) ((AX dp un gd ll).deeper (envAt (hd.heap_39 w.params) 387 L)) (execs ((bodyAt (hd.heap_39 w.params) 387).drop 11) (envAt (hd.heap_39 w.params) 387 L)) Q E s := by
  w_on
  obtain ⟨hb, he⟩ := at_of (K := hd.heap_39 w.params) (f := 387) (by k_is)
  rw [hb, he]
  clear hb he
  simp only [List.drop_succ_cons, List.drop_zero]
  obtain ⟨hp, gg, dd, tt, os⟩ := s
  dsimp only at F N hbare ret
  refine wpN_execs_cons (wpN_Assign (wpN_Call ?_))
  repeat' walk_at "mine oneD"
  refine callWithN_KW0 (K := hd.heap_39 w.params) (by k_is) rfl ?_
  repeat' walk_at "mine oneD"
  have hbk : (lead ++ due ++ lead ++ [(Int.toNat 5).toUInt8]).length ≤ 600 := by simp only [List.length_append, List.length_cons, List.length_nil]; omega
  obtain ⟨low, hlow, hpk⟩ := pack_due lead (lead ++ [(Int.toNat 5).toUInt8]) hok hd0 hd1 (show xs.length < 1000 by
    have := congrArg List.length hrev
    simp only [List.length_reverse, List.length_map, List.length_cons] at this
    omega)
  rw [← List.append_assoc, ← List.append_assoc, hdue, ← hrev, List.reverse_reverse] at hpk
  generalize hbs : lead ++ due ++ lead ++ [(Int.toNat 5).toUInt8] = bs at hbk hpk
  have hlb : lead.length ≤ bs.length := by rw [← hbs]; simp only [List.length_append]; omega
  refine' ConN.call (buffer_data (bs := bs) ?hn) ?kB ?kF ?kX ?kT ?kN ?kf ?kk ?kw ?ks ?kr ?kb ?kd ?ku ?_
  (case kB => assumption); (case kF => k_asm); (case kX => assumption); (case kT => assumption); (case kN => k_asm); (case kf => exact rfl); (case kk => exact rfl); (case kw => walk_at "mine wr"); (case ks => walk_at "mine split2")
  (case kr => exact List.forall_mem_nil _); (case kb => exact hbare); (case kd => walk_at "mine room"); (case ku => walk_at "mine room"); (case hn => omega)
  rintro vb newsb hb2 tkb gensb ⟨xb, db, ob, tb1, tb2, tb3, rfl, rfl⟩ hbare2 F3 N3
  dsimp only [bufL, List.cons_append, List.nil_append] at N3
  repeat' walk_at "mine oneD"
  refine wpN_execs_cons (wpN_of ?_)
  repeat' walk_at "mine oneD"
  refine wpN_execs_cons (wpN_of ?_)
  repeat' walk_at "mine oneD"
  refine wpN_execs_cons (wpN_of ?_)
  repeat' walk_at "mine oneD"
  (with_reducible rename Fr g L _ _ => F1)
  (with_reducible rename News g L _ _ => N1)
  (with_reducible rename List RG => rs)
  have hrs := ‹pairsOf rs = pairsT nws›
  have hrl : rs.length = nws.length := by
    have := congrArg List.length hrs
    simpa using this
  refine halt ?_
  refine' ListComp_gen (rs := rs) B F1 X T N1 rfl rfl ?h1 ?h2 ?h3 ?h4 ?hdp ?hun hbare2 ?hsz ?hclos ?hcell ?hkind ?hnames ?hx ?hiter ?helt ?k
  rotate_left 2
  case h1 => k_mem
  case h2 => k_mem
  case h3 => k_mem
  case h4 => walk_at "mine sub"
  case hdp => walk_at "mine room"
  case hun => walk_at "mine room"
  case hsz => omega
  case hclos => rfl
  case hcell => decide
  case hkind => rfl
  case hnames => decide
  case hx => rfl
  case hiter =>
    intro E' Q' hq
    repeat' walk_at "mine oneD"
    exact hq _
  case helt =>
    intro s' C oC m₂ y rest Q' E' hoC hm2 F2 N2 hk
    repeat' walk_at "mine oneD"
    refine hk _ _ _ (by assumption) (by assumption) fun p hp => ?_
    have l1 := ‹C < _ ∧ _›
    rcases List.mem_cons.mp hp with rfl | hp
    · exact Nat.ne_of_lt l1.1
    · exact Nat.ne_of_lt (allLt_mem l1.2.2.2 p hp)
  case k =>
    intro D1 ys tups h1 tk1 gens1 F2 N2 hda hb2
    repeat' walk_at "mine oneD"
    refine halt ?_
    refine rows_eq (p1 := pairsOf rs) (p2 := pairsT nws) (n2 := rowsT nws) (N2 _ (.head _)).1 (fun p hp => (N2 p (.tail _ (List.mem_append_left _ hp))).1) hda (k2 := kn) (zs := refsT nws) (N2 (nw, listOf (refsT nws).toArray kn) (by simp)).1 (fun p hp => F2.keep _ _ (hrd _ hp)) (datT nws) ?_ hrs ?_
    · walk_at "mine room"
    have N3 := buf_out (x := xb) (bs := bs) N2 (.tail _ (List.mem_append_right _ (by k_mem))) (.tail _ (List.mem_append_right _ (by k_mem))) (.tail _ (List.mem_append_right _ (by k_mem)))
    have hK := Kept.of_fr F2
    clear N2 N1 F1 hda
    repeat' walk_at "mine oneD"
    · rw [show (((lead.length + due.length : Nat) : Int) == (lead.toArray.size : Int) + (due.toArray.size : Int)) = true from beq_iff_eq.mpr (by simp only [List.size_toArray]; omega)]
      exact ret _ _ _ hb2 (Kept.of_fr (by assumption))
    · rw [show (delay == delay) = true from beq_self_eq_true _]
      exact ret _ _ _ hb2 hK
end Mine
end
section
open PySem PySem.W PyProof.Rows PySem.Calls
set_option maxRecDepth 100000
set_option maxHeartbeats 1000000
namespace Mine
theorem push_ack2 {w : World} {mean : ExcName → Option Value} {mg mb : Str → Option Value} {x d o xr dr lr : Addr} {t1 t2 t3 td tc tr : Tok} {nl cn : Nat} {pre old due : List UInt8} {rs : List RG} {delay cap a b : Int} {xs : List (Int × Int)}
    (hxs : (pairsOf rs).reverse = (a, b) :: xs) (hok : OkR ((a, b) :: xs)) (hd0 : 0 ≤ delay) (hd1 : delay < 4611686018427387904) (hc0 : 32 ≤ cap) (hc1 : cap ≤ 100000) (hlen : rs.length ≤ 1000)
    (hz : pre.length + old.length ≤ 100000) (hcr : cntOf rs.length (mx (b - 1) delay) cap = cn) (hfe : fenc delay (((a, b) :: xs).take cn) = due) (hfit : due.length ≤ old.length) :
    ConE w mean mg mb 25 347 [.ref x, .ref xr, .int delay td, .int cap tc] [] (rsL w.params xr dr lr rs nl tr ++ rowsL w.params rs) (bufL w.params x d o (pre ++ old) pre.length t1 t2 t3)
      (fun r news' => ∃ o' t3' t pre' old', r = .int (cn : Nat) t ∧ pre' = pre ++ due ∧ pre'.length + old'.length = pre.length + old.length ∧ news' = bufL w.params x d o' (pre' ++ old') ((pre'.length : Nat) : Int) t1 t2 t3')
      (fun _ => False) := by
  subst hcr hfe
  intro dp un gd ll base g s R B X T Kp N hrd hdp hun ret fail
  refine push_ack_frame hxs hok hd0 hd1 hc0 hc1 hlen hz hfit dp un gd ll base g s R B X T Kp N hrd hdp hun (fun r news' h' tk hp K' L' => ?_) fail
  obtain ⟨o', t3', t, hr, hn⟩ := hp
  have hn' := hn _ rfl
  subst hn'
  refine ret _ _ _ _ ⟨o', t3', t, pre ++ fenc delay (((a, b) :: xs).take (cntOf rs.length (mx (b - 1) delay) cap)), old.drop (fenc delay (((a, b) :: xs).take (cntOf rs.length (mx (b - 1) delay) cap))).length, hr, rfl, ?_, rfl⟩ K' L'
  rw [List.length_append, List.length_drop]; omega
section
variable {prog : Program} {w : World} {A : Around} {E : Value → Shared → Prop} {s : Shared} {value slice : PySem.Expr} {a : Addr} {pre old : List UInt8} {t : Tok} {h₀ : Heap} {L : Addr} {m : PySem.Str → Option Value} {news : List (Addr × Obj)} {Q : Value → Shared → Prop}
theorem slice_pre (hF : Fr h₀ L s.heap m) (hN : News h₀ L s.heap news) (ha : BA.IsBA s.heap a (pre ++ old).toArray) (hz : pre.length ≤ 16777216)
    (h : ∀ h' x, Fr h₀ L h' m → News h₀ L h' ((x, BA.baObj pre.toArray) :: news) → (∀ p ∈ news, p.1 < x) → Q (.ref x) { s with heap := h' })
    (hs : subscripted slice false (.ref a) (.ref s.heap.objs.size) = operate [.ref s.heap.objs.size, .ref a] (getItem (.ref a) (.ref s.heap.objs.size)) := by with_unfolding_all rfl) :
    wpAny (model prog w) A (subscriptTail value slice (.ref a) (.ref s.heap.objs.size)) Q E { s with heap := s.heap.push { cls := .type "slice", data := .fields #[.none, .int ((pre.length : Nat) : Int) t, .none] } } := by
  refine BA.slice_N hF hN ha .none (.int _ t) ?_ ?_ hs
  · rw [picked_lo]; simpa using hz
  · rw [picked_lo]; exact h
end
local macro_rules | `(tactic| walk_at "mine room") => `(tactic| first | (dsimp only; omega) | ((try simp only [depth_mark, depth_under_make, depth_under_kw, depth_in1, depth_deeper, units_deeper, units_in1, units_under_make]); (try dsimp only); omega))
local macro_rules | `(tactic| walk_at "mine one") => `(tactic| (first | (k_unfold; (try dsimp only)) | (k_end; wrow_close) | walk1 | (dsimp only; walk1) | (leave1; walk_say "STEP leave1"; try dsimp only) | (dsimp only; k_unfold; (try dsimp only)) | (dsimp only [StepO]; k_unfold; (try dsimp only)) | fail "no step"))
local macro_rules | `(tactic| walk_at "mine enter") => `(tactic| (refine' enter ?k1 ?k2 ?k3 ?k4 ?k5 ?kd ?k6 ?k7 ?k8 ?k9 ?_ ?c2 ?c3 ?c4 ?c5; (case k1 => assumption); (case k2 => assumption); (case k3 => assumption); (case k4 => assumption); (case k5 => assumption); (case kd => omega); (case k6 => k_is); (case k7 => k_is); (case k8 => first | exact BindsTo.of_eq rfl | exact binds_K (Frag.In.keeps (by assumption) (Kept.keep (by assumption))) rfl (by k_is) rfl rfl rfl | exact binds_K (by k_in) rfl (by k_is) rfl rfl rfl); (case c5 => decide); (case k9 => exact locs rfl); (case c2 => exact rfl); (case c3 => exact rfl); (case c4 => exact rfl); k_whole; intro L' h' F' N' K'; (try dsimp only); (try k_fold)))
local macro_rules | `(tactic| walk_at "mine wr") => `(tactic| ((repeat (refine List.forall_mem_cons.mpr ⟨?_, ?_⟩; (· k_mem))); exact List.forall_mem_nil _))
local macro_rules | `(tactic| walk_at "mine split") => `(tactic| (repeat' (first | exact Split.nil | (refine' Split.keep ?a ?_; (case a => k_all)) | refine' Split.drop ?_)))
local macro_rules | `(tactic| walk_at "mine con") => `(tactic| ((case kB => assumption); (case kF => k_asm); (case kX => assumption); (case kT => assumption); (case kN => k_asm); (case kf => exact rfl); (case kk => exact rfl); (case kw => walk_at "mine wr"); (case ks => walk_at "mine split"); (case kd => walk_at "mine room"); (case ku => walk_at "mine room")))
local macro_rules | `(tactic| walk_at "mine conE") => `(tactic| ((case kB => assumption); (case kF => k_asm); (case kX => assumption); (case kT => assumption); (case kN => k_asm); (case kf => exact rfl); (case kk => exact rfl); (case kw => walk_at "mine wr"); (case ks => walk_at "mine split"); (case kd => walk_at "mine room"); (case ku => walk_at "mine room")))
local macro_rules | `(tactic| k_room) => `(tactic| ((try simp only [depth_mark, depth_under_make, depth_under_kw, depth_in1, depth_deeper, depth_caller]); (try dsimp only); omega))
local macro_rules | `(tactic| walk_at "mine map") => `(tactic| (refine' map_off _ ?hs ?a; (case a => (intro y hy; (have nn : ∀ z, _ = true → y ≠ z := fun z hz e => by subst e; exact absurd (hz.symm.trans hy) (by decide)); (try dsimp only); (repeat rw [if_neg (nn _ (by decide))]); first | done | exact rfl)); (case hs => decide)))
local macro_rules | `(tactic| walk_at "mine oneD") => `(tactic| (first | (k_unfold; (try dsimp only)) | (k_end; wrow_close) | (walk1; (try dsimp only [List.cons_append, List.nil_append])) | (dsimp only; walk1) | (leave1; walk_say "STEP leave1"; try dsimp only) | (dsimp only; k_unfold; (try dsimp only)) | (dsimp only [StepO]; k_unfold; (try dsimp only)) | fail "no step"))
local macro_rules | `(tactic| walk_at "mine size") => `(tactic| ((try simp only [Array.size_append]); refine Nat.le_trans (by first | exact Nat.add_le_add (Nat.add_le_add (KBc.size_picked_le _ _ _) (Nat.le_refl _)) (KBc.size_picked_le _ _ _) | exact Nat.add_le_add (KBc.size_picked_le _ _ _) (Nat.le_refl _) | exact KBc.size_picked_le _ _ _) ?_; simp only [List.size_toArray, List.length_append]; omega))
local macro_rules | `(tactic| walk_at "call builtin:len") => `(tactic| (k_here; (with_reducible show wpAny _ _ (call (Value.builtin "len") [Value.ref _]) _ _ _); (with_reducible rename News _ _ _ _ => N'); (first | (refine' len_app ?ba ?hz ?_; (case ba => exact led_ba N' (by k_mem)); (case hz => omega); k_whole) | (refine' len_bs ?ba ?hz ?_; (case ba => exact led_ba N' (by k_mem)); (case hz => omega); k_whole))))
local macro_rules | `(tactic| walk_at "subscriptTail") => `(tactic| (k_here; (with_reducible show wpAny _ _ (subscriptTail _ (Expr.Slice _ _ none _) (Value.ref _) (Value.ref _)) _ _ _); (with_reducible rename Fr _ _ _ _ => F'); (with_reducible rename News _ _ _ _ => N'); (refine' BA.slice_N (s := ⟨_, _, _, _, _⟩) F' N' ?ba (by constructor) (by constructor) ?hz ?_; (case ba => exact led_ba N' (by k_mem)); (case hz => walk_at "mine size"); intro h' x' F' N' l1; (try k_lt l1); (try k_sweep); (try dsimp only))))
local macro_rules | `(tactic| walk_at "binaryOp Add") => `(tactic| (k_here; (with_reducible show wpAny _ _ (binaryOp _ (Value.ref _) (Value.bytes _ _)) _ _ _); (with_reducible rename Fr _ _ _ _ => F'); (with_reducible rename News _ _ _ _ => N'); (refine' BA.add_b F' N' ?ba ?hz ?_; (case ba => exact led_ba N' (by k_mem)); (case hz => walk_at "mine size"); intro h' x' F' N' l1; (try k_lt l1); (try k_sweep); (try dsimp only))))
local macro_rules | `(tactic| walk_at "binaryOp Add") => `(tactic| (k_here; (with_reducible show wpAny _ _ (binaryOp _ (Value.ref _) (Value.ref _)) _ _ _); (with_reducible rename Fr _ _ _ _ => F'); (with_reducible rename News _ _ _ _ => N'); (refine' BA.add_ba F' N' ?ba ?bb ?hz ?_; (case ba => exact led_ba N' (by k_mem)); (case bb => exact led_ba N' (by k_mem)); (case hz => walk_at "mine size"); intro h' x' F' N' l1; (try k_lt l1); (try k_sweep); (try dsimp only))))
local macro_rules | `(tactic| walk_at "call type:bytes") => `(tactic| (k_here; (with_reducible show wpAny _ _ (call (Value.type "bytes") [Value.ref _]) _ _ _); (with_reducible rename News _ _ _ _ => N'); (refine' BA.bytes_of ?ba ?hz ?_; (case ba => exact led_ba N' (by k_mem)); (case hz => walk_at "mine size"); intro _ _; (try dsimp only))))
local macro_rules | `(tactic| k_inst) => `(tactic| (refine' Mine.InstAt.of_base ?F ?h1 ?h2; (case F => k_asm); (case h1 => assumption); (case h2 => assumption)))
local macro_rules | `(tactic| walk_at "mine dis") => `(tactic| (repeat' (first | exact List.forall_mem_nil _ | refine List.forall_mem_cons.mpr ⟨?_, ?_⟩ | (refine Or.inr (cls_ne ?_); (simp; done)) | (refine Or.inr (key_ne ?_); exact rfl) | (refine Or.inr (it_ne (by assumption) ?_); (simp; done)) | (refine Or.inr (it_ne' (by assumption) ?_); (simp; done)) | exact .inl (by k_ne))))
local macro_rules | `(tactic| walk_at "mine split2") => `(tactic| (repeat' (first | with_reducible exact Split2.nil | with_reducible exact Split2.all | with_reducible exact Split2.tail rows_off_buf | with_reducible exact Split2.tail rows_off_rs | (with_reducible refine Split2.tail (rowsT_off ?_); (simp; done)) | (with_reducible refine' Split2.drop2 ?h ?_; (case h => with_reducible k_mem)) | (refine' Split2.keep ?a ?_; (case a => walk_at "mine dis")) | refine' Split2.drop ?_ | exact Split2.nil)))
local macro_rules | `(tactic| walk_at "mine conF") => `(tactic| ((case kB => assumption); (case kF => k_asm); (case kX => assumption); (case kT => assumption); (case kN => k_asm); (case kf => exact rfl); (case kk => exact rfl); (case kw => walk_at "mine wr"); (case ks => walk_at "mine split2"); (case kr => walk_at "mine rd"); (case kd => walk_at "mine room"); (case ku => walk_at "mine room")))
local macro_rules | `(tactic| walk_at "mine rd") => `(tactic| first | exact List.forall_mem_nil _ | (refine fun p hp => Or.inl ?_; simp only [List.mem_cons, List.mem_append, rowsL_cons, List.not_mem_nil, or_false, List.append_assoc] at hp ⊢; (repeat' (refine Or.elim hp ?_ ?_ <;> clear hp <;> intro hp)); all_goals (first | walk_at "mine or" | (subst hp; simp; done))))
local macro_rules | `(tactic| walk_at "exec For Name Call cons nil") => `(tactic| (k_here; (rename Fr _ _ _ _ => lF'); (with_unfolding_all refine' For_turns lF' ?_; k_whole)))
local macro_rules | `(tactic| walk_at "exec For Name Name cons nil") => `(tactic| (k_here; (rename Fr _ _ _ _ => lF'); (with_unfolding_all refine' For_turns lF' ?_; k_whole)))
local macro_rules | `(tactic| walk_at "exec For Tuple Call cons nil") => `(tactic| (k_here; (rename Fr _ _ _ _ => lF'); (with_unfolding_all refine' For_turns lF' ?_; k_whole)))
local macro_rules | `(tactic| walk_at "exec For Tuple Subscript cons nil") => `(tactic| (k_here; (rename Fr _ _ _ _ => lF'); (with_unfolding_all refine' For_turns lF' ?_; k_whole)))
local macro_rules | `(tactic| walk_at "call type:enumerate") => `(tactic| (k_here; (with_reducible show wpAny _ _ (call (Value.type _) [Value.ref _]) (fun xv s₁ => wpAny _ _ (pyIter xv) (fun it s₂ => TurnsAt _ _ _ _ _ _ _ _ _ it s₂) _ s₁) _ _); refine halt ?_))
local macro_rules | `(tactic| walk_at "pyIter ref") => `(tactic| (k_here; (with_reducible show wpAny _ _ (pyIter (Value.ref _)) (fun it s₂ => TurnsAt _ _ _ _ _ _ _ _ _ it s₂) _ _); refine halt ?_))
local macro_rules | `(tactic| walk_at "pyIter ref") => `(tactic| (k_here; (with_reducible show wpAny _ _ (pyIter (Value.ref _)) (fun it s₂ => TurnsAt _ _ _ _ _ _ _ _ _ it s₂) _ _); k_dflt (refine' iter_nil ?h ?F ?N ?X ?e ?_; (case h => exact rfl); (case F => k_asm); (case N => k_asm); (case X => k_asm); (case e => k_is); intro h' tk' F' N'; (try k_sweep); (try dsimp only))))
local macro_rules | `(tactic| walk_at "mine or") => `(tactic| first | with_reducible assumption | (with_reducible exact Or.inl (by with_reducible assumption)) | (refine Or.inr ?_; walk_at "mine or"))
local macro_rules | `(tactic| walk_at "mine sub") => `(tactic| (intro p hp; simp only [List.mem_cons, List.mem_append, rowsL_cons, List.not_mem_nil, or_false, List.append_assoc] at hp ⊢; (repeat' (refine Or.elim hp ?_ ?_ <;> clear hp <;> intro hp)); all_goals (first | walk_at "mine or" | (subst hp; simp; done))))
local macro_rules | `(tactic| walk_at "call builtin:list.append") => `(tactic| (k_here; (with_reducible show wpAny _ _ (call (Value.builtin _) [Value.ref _, _]) _ _ _); k_dflt (refine' append_S ?F ?N ?m ?s ?z ?_; (case F => k_asm); (case N => k_asm); (case m => k_mem); (case s => walk_at "mine split2"); (case z => (simp only [List.length_map, List.size_toArray]; omega)); intro h' F' N'; (try k_sweep); (try dsimp only))))
local macro_rules | `(tactic| walk_at "binaryOp FloorDiv int int") => `(tactic| (k_here; (with_reducible show wpAny _ _ (binaryOp _ (Value.int _ _) (Value.int _ _)) _ _ _); (refine' div_lit ?hb ?hp ?_; (case hb => decide); (case hp => exact PyProof.noPylong_of_log2 (by decide +kernel)))))
local macro_rules | `(tactic| walk_at "binaryOp Mod int int") => `(tactic| (k_here; (with_reducible show wpAny _ _ (binaryOp _ (Value.int _ _) (Value.int _ _)) _ _ _); (refine' mod_lit ?hb ?_; (case hb => decide))))
local macro_rules | `(tactic| walk_at "binaryOp Mult int int") => `(tactic| (k_here; (with_reducible show wpAny _ _ (binaryOp _ (Value.int _ _) (Value.int _ _)) _ _ _); (refine' mul_b ?h1 ?h2 ?_; (case h1 => omega); (case h2 => omega))))
local macro_rules | `(tactic| walk_at "mine enterN") => `(tactic| (refine' enterN ?k1 ?k2 ?k3 ?k4 ?k5 ?kd ?k6 ?k7 ?k8 ?k9 ?_ ?c2 ?c3 ?c4 ?c5; (case k1 => assumption); (case k2 => assumption); (case k3 => assumption); (case k4 => assumption); (case k5 => assumption); (case kd => omega); (case k6 => k_is); (case k7 => k_is); (case k8 => first | exact BindsTo.of_eq rfl | exact binds_K (Frag.In.keeps (by assumption) (Kept.keep (by assumption))) rfl (by k_is) rfl rfl rfl | exact binds_K (by k_in) rfl (by k_is) rfl rfl rfl); (case c5 => decide); (case k9 => exact locs rfl); (case c2 => exact rfl); (case c3 => exact rfl); (case c4 => exact rfl); k_whole; intro L' h' F' N' K'; (try dsimp only); (try k_fold)))
local macro_rules | `(tactic| walk_at "subscriptTail") => `(tactic| (k_here; (with_reducible show wpAny _ _ (subscriptTail _ _ (Value.ref _) (Value.int _ _)) _ _ _); (refine' itemTB ?F ?hl ?h0 ?h1 ?hy ?_; (case F => k_asm); (case hl => with_reducible assumption); (case h0 => omega); (case h1 => omega); (case hy => with_reducible assumption); k_whole)))
local macro_rules | `(tactic| walk_at "subscriptTail") => `(tactic| (k_here; (with_reducible show wpAny _ _ (subscriptTail _ _ (Value.ref _) (Value.int (-1) _)) _ _ _); (refine' itemTB_last ?F ?hl ?hi ?h1 ?hy ?_; (case F => k_asm); (case hl => with_reducible assumption); (case hi => rfl); (case h1 => omega); (case hy => with_reducible assumption); k_whole)))
local macro_rules | `(tactic| walk_at "subscriptTail") => `(tactic| (k_here; (with_reducible show wpAny _ _ (subscriptTail _ _ (Value.ref _) (Value.int 0 _)) _ _ _); (refine' tupB0 ?F ?ht ?_; (case F => k_asm); (case ht => with_reducible assumption); k_whole)))
local macro_rules | `(tactic| walk_at "subscriptTail") => `(tactic| (k_here; (with_reducible show wpAny _ _ (subscriptTail _ _ (Value.ref _) (Value.int 1 _)) _ _ _); (refine' tupB1 ?F ?ht ?_; (case F => k_asm); (case ht => with_reducible assumption); k_whole)))
local macro_rules | `(tactic| walk_at "call builtin:len") => `(tactic| (k_here; (with_reducible show wpAny _ _ (call (Value.builtin "len") [Value.ref _]) _ _ _); (refine' lenTB ?F ?hl ?hz ?_; (case F => k_asm); (case hl => assumption); (case hz => omega); intro _ _; (try dsimp only))))
local macro_rules | `(tactic| walk_at "mine noerr") => `(tactic| (rotate_left; (focus (intro e' t' cls' vs' g₂' h' tk' hp' R' F' U'; exact hp'.elim))))
local macro_rules | `(tactic| walk_at "call ref") => `(tactic| (k_here; (k_dflt (show wpAny _ _ (call (Value.ref 155) [Value.ref _, Value.bytes _ _]) _ _ _)); k_dflt (refine' ConE.call2 (Con.toE (push_lead ?hn ?hc ?hz)) ?kB ?kF ?kX ?kT ?kN ?kf ?kk ?kw ?ks ?kr ?kd ?ku ?_ ?_; walk_at "mine conF"; (case hn => rfl); (case hc => omega); (case hz => (simp only [List.size_toArray]; omega)); walk_at "mine noerr"; (intro v' news' h' tk' hp' F' N'; obtain ⟨hv', o', t3', old', hol, hn'⟩ := hp'; subst hv'; subst hn'; dsimp only [bufL, List.cons_append, List.nil_append] at N'; (try k_sweep); (try dsimp only)))))
local macro_rules | `(tactic| walk_at "subscriptTail") => `(tactic| (k_here; (with_reducible show wpAny _ _ (subscriptTail _ (Expr.Slice none _ none _) (Value.ref _) (Value.ref _)) _ _ _); (with_reducible rename Fr _ _ _ _ => F'); (with_reducible rename News _ _ _ _ => N'); (refine' slice_pre (s := ⟨_, _, _, _, _⟩) F' N' ?ba ?hz ?_; (case ba => exact led_ba N' (by k_mem)); (case hz => omega); intro h' x' F' N' l1; (try k_lt l1); (try k_sweep); (try dsimp only))))
local macro_rules | `(tactic| walk_at "call type:bytes") => `(tactic| (k_here; (with_reducible show wpAny _ _ (call (Value.type "bytes") [Value.ref _]) _ _ _); (with_reducible rename News _ _ _ _ => N'); (refine' BA.bytes_of ?ba ?hz ?_; (case ba => exact led_ba N' (by k_mem)); (case hz => (simp only [List.size_toArray]; omega)); intro _ _; (try dsimp only))))
local macro_rules | `(tactic| walk_at "binaryOp Add") => `(tactic| (k_here; (with_reducible show wpAny _ _ (binaryOp _ (Value.bytes (List.toArray _) _) (Value.bytes (List.toArray _) _)) _ _ _); (refine' add_bytesL ?hz ?_; (case hz => ((try simp only [List.length_append]); omega)); intro _ _; (try dsimp only))))
local macro_rules | `(tactic| walk_at "call ref") => `(tactic| (k_here; (k_dflt (show wpAny _ _ (call (Value.ref 347) [Value.ref _, Value.ref _, Value.int _ _, Value.int _ _]) _ _ _)); k_dflt (refine' ConE.call2 (push_ack2 ?hxs ?hok ?hd0 ?hd1 ?hc0 ?hc1 ?hlen ?hz ?hcr ?hfe ?hfit) ?kB ?kF ?kX ?kT ?kN ?kf ?kk ?kw ?ks ?kr ?kd ?ku ?_ ?_; walk_at "mine conF"; (case hxs => assumption); (case hok => assumption); (case hd0 => omega); (case hd1 => omega); (case hc0 => omega); (case hc1 => omega); (case hlen => omega); (case hz => omega); (case hcr => assumption); (case hfe => assumption); (case hfit => omega); walk_at "mine noerr"; (intro v' news' h' tk' hp' F' N'; obtain ⟨o', t3', t', pre', old', hv', hpre, hol, hn'⟩ := hp'; subst hv'; subst hn'; dsimp only [bufL, List.cons_append, List.nil_append] at N'; (try k_sweep); (try dsimp only)))))
local macro_rules | `(tactic| walk_at "eval ListComp") => `(tactic| (k_here; (with_reducible show wpAny _ _ (eval (Expr.ListComp _ _ _ _) _) _ _ _); refine halt ?_))
local macro_rules | `(tactic| walk_at "compareOp NotEq ref ref") => `(tactic| (k_here; (with_reducible show wpAny _ _ (compareOp _ (Value.ref _) (Value.ref _)) _ _ _); refine halt ?_))
local macro_rules | `(tactic| walk_at "compareOp Eq ref ref") => `(tactic| (k_here; (with_reducible show wpAny _ _ (compareOp _ (Value.ref _) (Value.ref _)) _ _ _); refine halt ?_))
theorem pushed_tail {w : World} {mean : ExcName → Option Value} {mg mb : Str → Option Value} {D : Addr} {trs : List TR} {n : Nat} {delay cap : Int} {lead due : List UInt8} {td tc tl tcn tdu : Tok} {y0 : TR} {xs : List (Int × Int)} {rs : List RG} {cn a0 nn : Nat}
    {dp un : Nat} {gd : Option (List Code)} {ll : List Env} {base g : Heap} {s : Shared} {L x d l xb db ob nw : Addr} {tr tb1 tb2 tb3 : Tok} {m₀ : Str → Option Value} {Q : Flow → Shared → Prop} {E : Value → Shared → Prop}
    (hd0 : 0 ≤ delay) (hd1 : delay < 4611686018427387904) (hc0 : 32 ≤ cap) (hc1 : cap ≤ 500) (hlen : trs.length ≤ 30) (hld : lead.length ≤ 2)
    (hokA : OkR ((y0.a, y0.b) :: (pairsT (List.take (trs.length - 1) trs)).reverse)) (htk : (pairsT trs).reverse = (y0.a, y0.b) :: (pairsT (trs.take (trs.length - 1))).reverse) (hrs : pairsOf rs = pairsT trs)
    (hcn : cn = cntOf trs.length (mx (y0.b - 1) delay) cap) (hcn1 : 1 ≤ cn) (hxs : (pairsT (trs.take (trs.length - 1))).reverse.take (cn - 1) = xs) (hrev : (pairsT (trs.drop a0)).reverse = (y0.a, y0.b) :: xs)
    (hdue : fenc delay ((y0.a, y0.b) :: xs) = due) (hdl : (due.length : Int) ≤ cap)
    (B : Below (AX dp un gd ll) base ll g) (X : (hd.heap_39 w.params).In g) (T : Top hd.view_39 LS mean mg mb g) (hrd : ∀ p ∈ (D, listOf (refsT trs).toArray n) :: rowsT trs, g.get? p.1 = some p.2)
    (hdp : dp + 60 < recursionLimit) (hun : un + 10 * 60 < cLine) (hbare : AllBare s.gens)
    (F : Fr g L s.heap (fun y => if y = Str.ofString "buf" then some (.ref xb) else if y = Str.ofString "due" then some (.bytes due.toArray tdu) else if y = Str.ofString "newest" then some (.ref nw) else if y = Str.ofString "count" then some (.int (cn : Int) tcn) else if y = Str.ofString "kept" then some (.ref x) else
      if y = Str.ofString "rows" then some (.ref D) else if y = Str.ofString "delay" then some (.int delay td) else if y = Str.ofString "capacity" then some (.int cap tc) else if y = Str.ofString "lead" then some (.bytes lead.toArray tl) else m₀ y))
    (N : News g L s.heap (bufL w.params xb db ob (List.replicate ((lead.toArray.size : Int) + cap).toNat 0) 0 tb1 tb2 tb3 ++ (nw, listOf (refsT (trs.drop a0)).toArray 0) :: (x, instObj 329 d) :: (d, rsD w.params l tr) :: (l, listOf (refsOf rs).toArray nn) :: rowsL w.params rs))
    (ret : ∀ h' tk gens', AllBare gens' → Kept g h' → Q (.ret (.bool true)) ⟨h', gens', s.drawn, tk, s.os⟩) :
    wpN (model PG w) ((AX dp un gd ll).deeper (envAt (hd.heap_39 w.params) 387 L)) (execs ((bodyAt (hd.heap_39 w.params) 387).drop 8) (envAt (hd.heap_39 w.params) 387 L)) Q E s := by
  w_on
  obtain ⟨hb, he⟩ := at_of (K := hd.heap_39 w.params) (f := 387) (by k_is)
  rw [hb, he]
  clear hb he
  simp only [List.drop_succ_cons, List.drop_zero]
  dsimp only [bufL, List.cons_append, List.nil_append] at N
  obtain ⟨hp, gg, dd, tt, os⟩ := s
  dsimp only at F N hbare ret
  have hrl : rs.length = trs.length := by
    have := congrArg List.length hrs
    simpa using this
  have hxs1 : (pairsOf rs).reverse = (y0.a, y0.b) :: (pairsT (trs.take (trs.length - 1))).reverse := by rw [hrs]; exact htk
  have hcr : cntOf rs.length (mx (y0.b - 1) delay) cap = cn := by rw [hrl]; exact hcn.symm
  have hfe : fenc delay (((y0.a, y0.b) :: (pairsT (trs.take (trs.length - 1))).reverse).take cn) = due := by
    obtain ⟨c, rfl⟩ : ∃ c, cn = c + 1 := ⟨cn - 1, by omega⟩
    rw [← hdue, ← hxs]; rfl
  refine wpN_execs_cons (wpN_of ?_)
  repeat' walk_at "mine oneD"
  refine wpN_execs_cons (wpN_of ?_)
  repeat' walk_at "mine oneD"
  · exact absurd rfl ‹¬ (cn : Int) = (cn : Int)›
  · exact absurd ‹_ = lead ++ due› (bne_iff_ne.mp ‹(_ != lead ++ due) = true›)
  refine wpN_execs_cons (wpN_of ?_)
  repeat' walk_at "mine oneD"
  (with_reducible rename Fr g L _ _ => F1)
  (with_reducible rename News g L _ _ => N1)
  refine halt ?_
  refine' ListComp_gen (rs := rs) (xr := x) (dr := d) (lr := l) B F1 X T N1 rfl rfl ?h1 ?h2 ?h3 ?h4 ?hdp ?hun hbare ?hsz ?hclos ?hcell ?hkind ?hnames ?hx ?hiter ?helt ?k
  case h1 => k_mem
  case h2 => k_mem
  case h3 => k_mem
  case h4 => walk_at "mine sub"
  case hdp => walk_at "mine room"
  case hun => walk_at "mine room"
  case hsz => omega
  case hclos => rfl
  case hcell => decide
  case hkind => rfl
  case hnames => decide
  case hx => rfl
  case hiter =>
    intro E' Q' hq
    repeat' walk_at "mine oneD"
    exact hq _
  case helt =>
    intro s' C oC m₂ y rest Q' E' hoC hm2 F2 N2 hk
    repeat' walk_at "mine oneD"
    refine hk _ _ _ (by assumption) (by assumption) fun p hp => ?_
    have l1 := ‹C < _ ∧ _›
    rcases List.mem_cons.mp hp with rfl | hp
    · exact Nat.ne_of_lt l1.1
    · exact Nat.ne_of_lt (allLt_mem l1.2.2.2 p hp)
  case k =>
    intro D1 ys tups h1 tk1 gens1 F2 N2 hda hb2
    repeat' walk_at "mine oneD"
    refine halt ?_
    refine rows_ne (p1 := pairsOf rs) (p2 := pairsT trs) (N2 _ (.head _)).1 (fun p hp => (N2 p (.tail _ (List.mem_append_left _ hp))).1) hda (F2.keep _ _ (hrd _ (.head _))) (fun p hp => F2.keep _ _ (hrd _ (.tail _ hp))) (datT trs) ?_ hrs ?_
    · walk_at "mine room"
    have N3 : News g L h1 [(nw, listOf (refsT (trs.drop a0)).toArray 0)] := news_sub N2 fun p hp => by
      rw [List.mem_singleton.mp hp]; simp
    have F3 := fr_pick (x := Str.ofString "due") (v := .bytes due.toArray tdu) (fr_pick (x := Str.ofString "newest") (v := .ref nw) (fr_pick (x := Str.ofString "delay") (v := .int delay td) (fr_pick (x := Str.ofString "lead") (v := .bytes lead.toArray tl) F2 rfl) rfl) rfl) rfl
    clear N2 N1 F1 hda F2
    repeat' walk_at "mine oneD"
    have hK : Kept g h1 := Kept.of_fr F3
    have hok : OkR ((y0.a, y0.b) :: xs) := by
      have := okR_take _ cn hokA
      obtain ⟨c, rfl⟩ : ∃ c, cn = c + 1 := ⟨cn - 1, by omega⟩
      rw [← hxs]
      exact this
    have hnl : (trs.drop a0).length ≤ 30 := by rw [List.length_drop]; omega
    have done := pushed_tail2 (nws := trs.drop a0) (E := E) (s := ⟨h1, gens1, dd, tk1, os⟩) hd0 hd1 hnl hld hok hrev hdue (by omega) B X T (fun p hp => hrd _ (.tail _ (rowsT_drop p hp))) hdp hun hb2 F3 N3 ret
    obtain ⟨hb, he⟩ := at_of (K := hd.heap_39 w.params) (f := 387) (by k_is)
    rw [hb, he] at done
    simp only [List.drop_succ_cons, List.drop_zero] at done
    exact done
end Mine
end
section
open PySem PySem.W PyProof.Rows PySem.Calls
set_option maxRecDepth 100000
set_option maxHeartbeats 1000000
namespace Mine
theorem rs0 {P : Params} {g h : Heap} {L l x d : Addr} {t : Tok} (N : News g L h [(l, listOf #[] 0), (x, instObj 329 d), (d, rsD P l t)]) : ∃ x' d' l' t', x' = x ∧ d' = d ∧ l' = l ∧ t' = t ∧ News g L h (rsL P x' d' l' [] 0 t' ++ rowsL P []) := by
  refine ⟨x, d, l, t, rfl, rfl, rfl, rfl, news_sub N fun p hp => ?_⟩
  simp only [rowsL, List.flatMap_nil, List.append_nil, List.mem_cons, List.not_mem_nil, or_false] at hp
  rcases hp with rfl | rfl | rfl
  · exact .tail _ (.head _)
  · exact .tail _ (.tail _ (.head _))
  · exact .head _
theorem rowsL_snoc {P : Params} {rs : List RG} {y : RG} : rowsL P (rs ++ [y]) = rowsL P rs ++ rgL P y := by simp [rowsL]
theorem add_fin {P : Params} {g h : Heap} {L I x d l : Addr} {it : Obj} {t : Tok} {n : Nat} {rs rs' : List RG} {y : RG} {its : Array Value} {all : List (Addr × Obj)} (N : News g L h all) (hI : (I, it) ∈ all) (h1 : (x, instObj 329 d) ∈ all) (h2 : (d, rsD P l t) ∈ all) (h3 : (l, listOf its n) ∈ all) (he : its = (refsOf rs').toArray)
    (h4 : (y.r, instObj 235 y.d) ∈ all) (h5 : (y.d, rngD P y.a y.b y.t1 y.t2 y.ta y.tb) ∈ all) (ht : ∀ p ∈ rowsL P rs, p ∈ all) (hr : rs' = rs ++ [y] ∨ rs' = y :: rs) : News g L h ([(I, it)] ++ (rsL P x d l rs' n t ++ rowsL P rs')) := by
  subst he
  refine news_sub N fun p hp => ?_
  have hsub : ∀ p ∈ rowsL P rs', p ∈ all := fun p hp => by
    have : p ∈ rowsL P rs ∨ p ∈ rgL P y := by
      rcases hr with rfl | rfl
      · rw [rowsL_snoc] at hp; exact List.mem_append.mp hp
      · rw [rowsL_cons] at hp; exact (List.mem_append.mp hp).symm
    rcases this with h | h
    · exact ht p h
    · simp only [List.mem_cons, List.not_mem_nil, or_false] at h
      rcases h with rfl | rfl
      · exact h4
      · exact h5
  simp only [List.mem_cons, List.mem_append, List.not_mem_nil, or_false] at hp
  rcases hp with rfl | (rfl | rfl | rfl) | hp
  · exact hI
  · exact h1
  · exact h2
  · exact h3
  · exact hsub p hp
theorem range_up (n : Nat) : Builtin.Range.rangeSize 0 (n : Int) 1 = (n : Int) := by
  unfold Builtin.Range.rangeSize
  rw [if_pos (by decide)]
  split
  · rw [Int.ediv_one]; omega
  · omega
theorem shl_vidx {prog : Program} {w : World} {A : Around} {E : Value → Shared → Prop} {s : Shared} {Q : Value → Shared → Prop} {v f : Int} {t u : Tok} (hf : ((2 ^ vidx v : Nat) : Int) = f) (h : Q (.int f s.toks) { s with toks := s.toks + 1 }) :
    wpAny (model prog w) A (binaryOp .LShift (.int 1 t) (.int ((vidx v : Nat) : Int) u)) Q E s := by
  have hv : vidx v ≤ 3 := by rcases vidx_cases v with ⟨_, e⟩ | ⟨_, _, e⟩ | ⟨_, _, _, e⟩ | ⟨_, _, _, e⟩ <;> rw [e] <;> decide
  refine shl_to f ?_ (by omega) (by omega) (by decide) h
  rw [← hf, Int.toNat_natCast, Int.one_mul, Int.natCast_pow]
  rfl
local macro_rules | `(tactic| walk_at "mine room") => `(tactic| first | (dsimp only; omega) | ((try simp only [depth_mark, depth_under_make, depth_under_kw, depth_in1, depth_deeper, units_deeper, units_in1, units_under_make]); (try dsimp only); omega))
local macro_rules | `(tactic| walk_at "mine one") => `(tactic| (first | (k_unfold; (try dsimp only)) | (k_end; wrow_close) | walk1 | (dsimp only; walk1) | (leave1; walk_say "STEP leave1"; try dsimp only) | (dsimp only; k_unfold; (try dsimp only)) | (dsimp only [StepO]; k_unfold; (try dsimp only)) | fail "no step"))
local macro_rules | `(tactic| walk_at "mine enter") => `(tactic| (refine' enter ?k1 ?k2 ?k3 ?k4 ?k5 ?kd ?k6 ?k7 ?k8 ?k9 ?_ ?c2 ?c3 ?c4 ?c5; (case k1 => assumption); (case k2 => assumption); (case k3 => assumption); (case k4 => assumption); (case k5 => assumption); (case kd => omega); (case k6 => k_is); (case k7 => k_is); (case k8 => first | exact BindsTo.of_eq rfl | exact binds_K (Frag.In.keeps (by assumption) (Kept.keep (by assumption))) rfl (by k_is) rfl rfl rfl | exact binds_K (by k_in) rfl (by k_is) rfl rfl rfl); (case c5 => decide); (case k9 => exact locs rfl); (case c2 => exact rfl); (case c3 => exact rfl); (case c4 => exact rfl); k_whole; intro L' h' F' N' K'; (try dsimp only); (try k_fold)))
local macro_rules | `(tactic| walk_at "mine wr") => `(tactic| ((repeat (refine List.forall_mem_cons.mpr ⟨?_, ?_⟩; (· k_mem))); exact List.forall_mem_nil _))
local macro_rules | `(tactic| walk_at "mine split") => `(tactic| (repeat' (first | exact Split.nil | (refine' Split.keep ?a ?_; (case a => k_all)) | refine' Split.drop ?_)))
local macro_rules | `(tactic| walk_at "mine con") => `(tactic| ((case kB => assumption); (case kF => k_asm); (case kX => assumption); (case kT => assumption); (case kN => k_asm); (case kf => exact rfl); (case kk => exact rfl); (case kw => walk_at "mine wr"); (case ks => walk_at "mine split"); (case kd => walk_at "mine room"); (case ku => walk_at "mine room")))
local macro_rules | `(tactic| walk_at "mine conE") => `(tactic| ((case kB => assumption); (case kF => k_asm); (case kX => assumption); (case kT => assumption); (case kN => k_asm); (case kf => exact rfl); (case kk => exact rfl); (case kw => walk_at "mine wr"); (case ks => walk_at "mine split"); (case kd => walk_at "mine room"); (case ku => walk_at "mine room")))
local macro_rules | `(tactic| k_room) => `(tactic| ((try simp only [depth_mark, depth_under_make, depth_under_kw, depth_in1, depth_deeper, depth_caller]); (try dsimp only); omega))
local macro_rules | `(tactic| walk_at "mine map") => `(tactic| (refine' map_off _ ?hs ?a; (case a => (intro y hy; (have nn : ∀ z, _ = true → y ≠ z := fun z hz e => by subst e; exact absurd (hz.symm.trans hy) (by decide)); (try dsimp only); (repeat rw [if_neg (nn _ (by decide))]); first | done | exact rfl)); (case hs => decide)))
local macro_rules | `(tactic| walk_at "mine oneD") => `(tactic| (first | (k_unfold; (try dsimp only)) | (k_end; wrow_close) | (walk1; (try dsimp only [List.cons_append, List.nil_append])) | (dsimp only; walk1) | (leave1; walk_say "STEP leave1"; try dsimp only) | (dsimp only; k_unfold; (try dsimp only)) | (dsimp only [StepO]; k_unfold; (try dsimp only)) | fail "no step"))
local macro_rules | `(tactic| walk_at "mine size") => `(tactic| ((try simp only [Array.size_append]); refine Nat.le_trans (by first | exact Nat.add_le_add (Nat.add_le_add (KBc.size_picked_le _ _ _) (Nat.le_refl _)) (KBc.size_picked_le _ _ _) | exact Nat.add_le_add (KBc.size_picked_le _ _ _) (Nat.le_refl _) | exact KBc.size_picked_le _ _ _) ?_; simp only [List.size_toArray, List.length_append]; omega))
local macro_rules | `(tactic| walk_at "call builtin:len") => `(tactic| (k_here; (with_reducible show wpAny _ _ (call (Value.builtin "len") [Value.ref _]) _ _ _); (with_reducible rename News _ _ _ _ => N'); (first | (refine' len_app ?ba ?hz ?_; (case ba => exact led_ba N' (by k_mem)); (case hz => omega); k_whole) | (refine' len_bs ?ba ?hz ?_; (case ba => exact led_ba N' (by k_mem)); (case hz => omega); k_whole))))
local macro_rules | `(tactic| walk_at "subscriptTail") => `(tactic| (k_here; (with_reducible show wpAny _ _ (subscriptTail _ (Expr.Slice _ _ none _) (Value.ref _) (Value.ref _)) _ _ _); (with_reducible rename Fr _ _ _ _ => F'); (with_reducible rename News _ _ _ _ => N'); (refine' BA.slice_N (s := ⟨_, _, _, _, _⟩) F' N' ?ba (by constructor) (by constructor) ?hz ?_; (case ba => exact led_ba N' (by k_mem)); (case hz => walk_at "mine size"); intro h' x' F' N' l1; (try k_lt l1); (try k_sweep); (try dsimp only))))
local macro_rules | `(tactic| walk_at "binaryOp Add") => `(tactic| (k_here; (with_reducible show wpAny _ _ (binaryOp _ (Value.ref _) (Value.bytes _ _)) _ _ _); (with_reducible rename Fr _ _ _ _ => F'); (with_reducible rename News _ _ _ _ => N'); (refine' BA.add_b F' N' ?ba ?hz ?_; (case ba => exact led_ba N' (by k_mem)); (case hz => walk_at "mine size"); intro h' x' F' N' l1; (try k_lt l1); (try k_sweep); (try dsimp only))))
local macro_rules | `(tactic| walk_at "binaryOp Add") => `(tactic| (k_here; (with_reducible show wpAny _ _ (binaryOp _ (Value.ref _) (Value.ref _)) _ _ _); (with_reducible rename Fr _ _ _ _ => F'); (with_reducible rename News _ _ _ _ => N'); (refine' BA.add_ba F' N' ?ba ?bb ?hz ?_; (case ba => exact led_ba N' (by k_mem)); (case bb => exact led_ba N' (by k_mem)); (case hz => walk_at "mine size"); intro h' x' F' N' l1; (try k_lt l1); (try k_sweep); (try dsimp only))))
local macro_rules | `(tactic| walk_at "call type:bytes") => `(tactic| (k_here; (with_reducible show wpAny _ _ (call (Value.type "bytes") [Value.ref _]) _ _ _); (with_reducible rename News _ _ _ _ => N'); (refine' BA.bytes_of ?ba ?hz ?_; (case ba => exact led_ba N' (by k_mem)); (case hz => walk_at "mine size"); intro _ _; (try dsimp only))))
local macro_rules | `(tactic| k_inst) => `(tactic| (refine' Mine.InstAt.of_base ?F ?h1 ?h2; (case F => k_asm); (case h1 => assumption); (case h2 => assumption)))
local macro_rules | `(tactic| walk_at "mine dis") => `(tactic| (repeat' (first | exact List.forall_mem_nil _ | refine List.forall_mem_cons.mpr ⟨?_, ?_⟩ | (refine Or.inr (cls_ne ?_); (simp; done)) | (refine Or.inr (key_ne ?_); exact rfl) | (refine Or.inr (it_ne (by assumption) ?_); (simp; done)) | (refine Or.inr (it_ne' (by assumption) ?_); (simp; done)) | exact .inl (by k_ne))))
local macro_rules | `(tactic| walk_at "mine split2") => `(tactic| (repeat' (first | with_reducible exact Split2.nil | with_reducible exact Split2.all | with_reducible exact Split2.tail rows_off_buf | with_reducible exact Split2.tail rows_off_rs | (with_reducible refine Split2.tail (rowsT_off ?_); (simp; done)) | (with_reducible refine' Split2.drop2 ?h ?_; (case h => with_reducible k_mem)) | (refine' Split2.keep ?a ?_; (case a => walk_at "mine dis")) | refine' Split2.drop ?_ | exact Split2.nil)))
local macro_rules | `(tactic| walk_at "mine conF") => `(tactic| ((case kB => assumption); (case kF => k_asm); (case kX => assumption); (case kT => assumption); (case kN => k_asm); (case kf => exact rfl); (case kk => exact rfl); (case kw => walk_at "mine wr"); (case ks => walk_at "mine split2"); (case kr => walk_at "mine rd"); (case kd => walk_at "mine room"); (case ku => walk_at "mine room")))
local macro_rules | `(tactic| walk_at "mine rd") => `(tactic| first | exact List.forall_mem_nil _ | (refine fun p hp => Or.inl ?_; simp only [List.mem_cons, List.mem_append, rowsL_cons, List.not_mem_nil, or_false, List.append_assoc] at hp ⊢; (repeat' (refine Or.elim hp ?_ ?_ <;> clear hp <;> intro hp)); all_goals (first | walk_at "mine or" | (subst hp; simp; done))))
local macro_rules | `(tactic| walk_at "exec For Name Call cons nil") => `(tactic| (k_here; (rename Fr _ _ _ _ => lF'); (with_unfolding_all refine' For_turns lF' ?_; k_whole)))
local macro_rules | `(tactic| walk_at "exec For Name Name cons nil") => `(tactic| (k_here; (rename Fr _ _ _ _ => lF'); (with_unfolding_all refine' For_turns lF' ?_; k_whole)))
local macro_rules | `(tactic| walk_at "exec For Tuple Call cons nil") => `(tactic| (k_here; (rename Fr _ _ _ _ => lF'); (with_unfolding_all refine' For_turns lF' ?_; k_whole)))
local macro_rules | `(tactic| walk_at "exec For Tuple Subscript cons nil") => `(tactic| (k_here; (rename Fr _ _ _ _ => lF'); (with_unfolding_all refine' For_turns lF' ?_; k_whole)))
local macro_rules | `(tactic| walk_at "call type:enumerate") => `(tactic| (k_here; (with_reducible show wpAny _ _ (call (Value.type _) [Value.ref _]) (fun xv s₁ => wpAny _ _ (pyIter xv) (fun it s₂ => TurnsAt _ _ _ _ _ _ _ _ _ it s₂) _ s₁) _ _); refine halt ?_))
local macro_rules | `(tactic| walk_at "pyIter ref") => `(tactic| (k_here; (with_reducible show wpAny _ _ (pyIter (Value.ref _)) (fun it s₂ => TurnsAt _ _ _ _ _ _ _ _ _ it s₂) _ _); refine halt ?_))
local macro_rules | `(tactic| walk_at "pyIter ref") => `(tactic| (k_here; (with_reducible show wpAny _ _ (pyIter (Value.ref _)) (fun it s₂ => TurnsAt _ _ _ _ _ _ _ _ _ it s₂) _ _); k_dflt (refine' iter_nil ?h ?F ?N ?X ?e ?_; (case h => exact rfl); (case F => k_asm); (case N => k_asm); (case X => k_asm); (case e => k_is); intro h' tk' F' N'; (try k_sweep); (try dsimp only))))
local macro_rules | `(tactic| walk_at "mine or") => `(tactic| first | with_reducible assumption | (with_reducible exact Or.inl (by with_reducible assumption)) | (refine Or.inr ?_; walk_at "mine or"))
local macro_rules | `(tactic| walk_at "mine sub") => `(tactic| (intro p hp; simp only [List.mem_cons, List.mem_append, rowsL_cons, List.not_mem_nil, or_false, List.append_assoc] at hp ⊢; (repeat' (refine Or.elim hp ?_ ?_ <;> clear hp <;> intro hp)); all_goals (first | walk_at "mine or" | (subst hp; simp; done))))
local macro_rules | `(tactic| walk_at "call builtin:list.append") => `(tactic| (k_here; (with_reducible show wpAny _ _ (call (Value.builtin _) [Value.ref _, _]) _ _ _); k_dflt (refine' append_S ?F ?N ?m ?s ?z ?_; (case F => k_asm); (case N => k_asm); (case m => k_mem); (case s => walk_at "mine split2"); (case z => (simp only [List.length_map, List.size_toArray]; omega)); intro h' F' N'; (try k_sweep); (try dsimp only))))
local macro_rules | `(tactic| walk_at "binaryOp FloorDiv int int") => `(tactic| (k_here; (with_reducible show wpAny _ _ (binaryOp _ (Value.int _ _) (Value.int _ _)) _ _ _); (refine' div_lit ?hb ?hp ?_; (case hb => decide); (case hp => exact PyProof.noPylong_of_log2 (by decide +kernel)))))
local macro_rules | `(tactic| walk_at "binaryOp Mod int int") => `(tactic| (k_here; (with_reducible show wpAny _ _ (binaryOp _ (Value.int _ _) (Value.int _ _)) _ _ _); (refine' mod_lit ?hb ?_; (case hb => decide))))
local macro_rules | `(tactic| walk_at "binaryOp Mult int int") => `(tactic| (k_here; (with_reducible show wpAny _ _ (binaryOp _ (Value.int _ _) (Value.int _ _)) _ _ _); (refine' mul_b ?h1 ?h2 ?_; (case h1 => omega); (case h2 => omega))))
local macro_rules | `(tactic| walk_at "mine enterN") => `(tactic| (refine' enterN ?k1 ?k2 ?k3 ?k4 ?k5 ?kd ?k6 ?k7 ?k8 ?k9 ?_ ?c2 ?c3 ?c4 ?c5; (case k1 => assumption); (case k2 => assumption); (case k3 => assumption); (case k4 => assumption); (case k5 => assumption); (case kd => omega); (case k6 => k_is); (case k7 => k_is); (case k8 => first | exact BindsTo.of_eq rfl | exact binds_K (Frag.In.keeps (by assumption) (Kept.keep (by assumption))) rfl (by k_is) rfl rfl rfl | exact binds_K (by k_in) rfl (by k_is) rfl rfl rfl); (case c5 => decide); (case k9 => exact locs rfl); (case c2 => exact rfl); (case c3 => exact rfl); (case c4 => exact rfl); k_whole; intro L' h' F' N' K'; (try dsimp only); (try k_fold)))
local macro_rules | `(tactic| walk_at "subscriptTail") => `(tactic| (k_here; (with_reducible show wpAny _ _ (subscriptTail _ _ (Value.ref _) (Value.int _ _)) _ _ _); (refine' itemTB ?F ?hl ?h0 ?h1 ?hy ?_; (case F => k_asm); (case hl => with_reducible assumption); (case h0 => omega); (case h1 => omega); (case hy => with_reducible assumption); k_whole)))
local macro_rules | `(tactic| walk_at "subscriptTail") => `(tactic| (k_here; (with_reducible show wpAny _ _ (subscriptTail _ _ (Value.ref _) (Value.int (-1) _)) _ _ _); (refine' itemTB_last ?F ?hl ?hi ?h1 ?hy ?_; (case F => k_asm); (case hl => with_reducible assumption); (case hi => rfl); (case h1 => omega); (case hy => with_reducible assumption); k_whole)))
local macro_rules | `(tactic| walk_at "subscriptTail") => `(tactic| (k_here; (with_reducible show wpAny _ _ (subscriptTail _ _ (Value.ref _) (Value.int 0 _)) _ _ _); (refine' tupB0 ?F ?ht ?_; (case F => k_asm); (case ht => with_reducible assumption); k_whole)))
local macro_rules | `(tactic| walk_at "subscriptTail") => `(tactic| (k_here; (with_reducible show wpAny _ _ (subscriptTail _ _ (Value.ref _) (Value.int 1 _)) _ _ _); (refine' tupB1 ?F ?ht ?_; (case F => k_asm); (case ht => with_reducible assumption); k_whole)))
local macro_rules | `(tactic| walk_at "call builtin:len") => `(tactic| (k_here; (with_reducible show wpAny _ _ (call (Value.builtin "len") [Value.ref _]) _ _ _); (refine' lenTB ?F ?hl ?hz ?_; (case F => k_asm); (case hl => assumption); (case hz => omega); intro _ _; (try dsimp only))))
local macro_rules | `(tactic| walk_at "mine addQ") => `(tactic| (walk_at "mine conF"; (case hab => omega); (case hsz => omega); (case hlt => assumption); (rotate_left; (focus (intro e' t' cls' vs' g₂' h' tk' hp' R' F' U'; exact hp'.elim)); (intro v' news' h' tk' hp' F' N'; obtain ⟨hv', yy, nn', hya, hyb, hn'⟩ := hp'; subst hv'; subst hn'; dsimp only [rsL, rgL, List.cons_append, List.nil_append] at N'; (try k_sweep); (try dsimp only)))))
local macro_rules | `(tactic| walk_at "call ref") => `(tactic| (k_here; (k_dflt (show wpAny _ _ (call (Value.ref 263) [Value.ref _, Value.int _ _, Value.int _ _]) _ _ _)); k_dflt (first
  | (refine' ConE.call2 (add_front ?hab ?hsz ?hlt) ?kB ?kF ?kX ?kT ?kN ?kf ?kk ?kw ?ks ?kr ?kd ?ku ?_ ?_; walk_at "mine addQ")
  | (refine' ConE.call2 (add_back ?hab ?hsz ?hlt) ?kB ?kF ?kX ?kT ?kN ?kf ?kk ?kw ?ks ?kr ?kd ?ku ?_ ?_; walk_at "mine addQ"))))
local macro_rules | `(tactic| walk_at "call ref") => `(tactic| (k_here; (k_dflt (show wpAny _ _ (call (Value.ref 361) [Value.int _ _]) _ _ _)); k_dflt (refine' ConE.call2 (Con.toE (law_index ?h0 ?h1)) ?kB ?kF ?kX ?kT ?kN ?kf ?kk ?kw ?ks ?kr ?kd ?ku ?_ ?_; walk_at "mine conF"; (case h0 => omega); (case h1 => omega); (rotate_left; (focus (intro e' t' cls' vs' g₂' h' tk' hp' R' F' U'; exact hp'.elim)); (intro v' news' h' tk' hp' F' N'; obtain ⟨⟨t', hv'⟩, hn'⟩ := hp'; subst hv'; subst hn'; dsimp only [List.nil_append] at N'; (try k_sweep); (try dsimp only))))))
local macro_rules | `(tactic| walk_at "binaryOp LShift int int") => `(tactic| (k_here; (with_reducible show wpAny _ _ (binaryOp _ (Value.int 1 _) (Value.int ((vidx _ : Nat) : Int) _)) _ _ _); (refine' shl_vidx ?hf ?_; (case hf => assumption))))
local macro_rules | `(tactic| walk_at "exec While BoolOp cons nil") => `(tactic| (k_here; (with_reducible show wpAny _ _ (exec (Stmt.While _ _ _ _) _) _ _ _); refine halt ?_))
local macro_rules | `(tactic| walk_at "exec While") => `(tactic| (k_here; (with_reducible show wpAny _ _ (exec (Stmt.While _ _ _ _) _) _ _ _); refine halt ?_))
local macro_rules | `(tactic| walk_at "subscriptTail") => `(tactic| (k_here; (with_reducible show wpAny _ _ (subscriptTail _ (Expr.Slice _ none none _) (Value.ref _) (Value.ref _)) _ _ _); (with_reducible rename Fr _ _ _ _ => F'); (with_reducible rename News _ _ _ _ => N'); (refine' list_slice_N (s := ⟨_, _, _, _, _⟩) F' N' ?hl ?lo ?ha ?hz ?_; (case hl => with_reducible assumption); (case lo => with_reducible assumption); (case ha => omega); (case hz => omega); intro h' x' F' N' l1; (try k_lt l1); (try k_sweep); (try dsimp only))))
local macro_rules | `(tactic| walk_at "call ref") => `(tactic| (k_here; (k_dflt (show wpAny _ _ (call (Value.ref 382) [Value.ref _, Value.int _ _]) _ _ _)); k_dflt (refine' ConE.call2 (law_frame (trs := List.drop _ _) ?hxs ?hok ?hd0 ?hd1 ?hlen ?hfit) ?kB ?kF ?kX ?kT ?kN ?kf ?kk ?kw ?ks ?kr ?kd ?ku ?_ ?_; (case kB => assumption); (case kF => k_asm); (case kX => assumption); (case kT => assumption); (case kN => k_asm); (case kf => exact rfl); (case kk => exact rfl); (case kw => walk_at "mine wr"); (case ks => walk_at "mine split2"); (case kr => (refine List.forall_mem_cons.mpr ⟨Or.inl ?_, fun p hp => Or.inr ?_⟩; (· k_mem); (· exact (by assumption : ∀ p ∈ rowsT (List.drop _ _), Heap.get? _ p.1 = some p.2) p hp))); (case kd => walk_at "mine room"); (case ku => walk_at "mine room"); (case hxs => assumption); (case hok => assumption); (case hd0 => assumption); (case hd1 => assumption); (case hlen => (rw [List.length_drop]; omega)); (case hfit => omega); (rotate_left; (focus (intro e' t' cls' vs' g₂' h' tk' hp' R' F' U'; exact hp'.elim)); (intro v' news' h' tk' hp' F' N'; obtain ⟨⟨t', hv'⟩, hn'⟩ := hp'; subst hv'; subst hn'; dsimp only [List.nil_append] at N'; (try k_sweep); (try dsimp only))))))
theorem law_pushed {w : World} {mean : ExcName → Option Value} {mg mb : Str → Option Value} {D : Addr} {trs : List TR} {n : Nat} {turned : Bool} {delay cap : Int} {lead : List UInt8} {td tc tl : Tok} (hne : trs ≠ []) (hasc : Asc (pairsT trs)) (hbd : ∀ q ∈ pairsT trs, 0 ≤ q.1 ∧ q.2 ≤ 4611686018427387904)
    (hd0 : 0 ≤ delay) (hd1 : delay < 4611686018427387904) (hc0 : 32 ≤ cap) (hc1 : cap ≤ 500) (hlen : trs.length ≤ 30) (hld : lead.length ≤ 2) :
    ConN w mean mg mb 60 387 [.ref D, .bool turned, .int delay td, .int cap tc, .bytes lead.toArray tl] [] ((D, listOf (refsT trs).toArray n) :: rowsT trs) [] (fun r news' => r = .bool true ∧ news' = []) := by
  intro dp un gd ll base g s R B X T Kp N hrd hbare hdp hun ret
  w_on
  have hgl : g.IsList D (refsT trs).toArray := ⟨_, hrd _ (.head _), rfl, _, rfl⟩
  have hgt : ∀ y ∈ trs, g.get? y.t = some (tupO [.int y.a y.ta, .int y.b y.tb]) := fun y hy => hrd _ (.tail _ (mem_rowsT hy))
  walk_at "mine enterN"
  refine wpN_execs_cons (wpN_of ?_)
  repeat' walk_at "mine oneD"
  refine wpN_execs_cons (wpN_of ?_)
  repeat' walk_at "mine oneD"
  (with_reducible rename Fr _ _ _ _ => F1)
  (with_reducible rename News _ _ _ _ => N1)
  rename IsRange _ _ _ _ _ _ _ _ => hr
  obtain ⟨x, d, l, tr, e1, e2, e3, e4, N1'⟩ := rs0 N1
  subst e1 e2 e3 e4
  obtain ⟨m₀, hm₀⟩ := fr_map F1
  refine halt ?_
  have hne0 : 0 < trs.length := List.length_pos_iff.mpr hne
  refine range_J (n := trs.length) (fun i m nx => ∃ rs nn tr, nx = rsL w.params x d l rs nn tr ++ rowsL w.params rs ∧ (∀ y, [Str.ofString "k", Str.ofString "row"].contains y = false → m y = m₀ y) ∧ rs.length = i ∧
      pairsOf rs = if turned = true then (pairsT trs).drop (trs.length - i) else (pairsT trs).take i)
    rfl hr (small_one (by omega) (by omega) (by omega) (by omega)) (range_up _) F1 N1' ?h0 ?turn ?done
  case h0 => exact ⟨[], 0, _, rfl, fun y _ => by rw [hm₀], rfl, by cases turned <;> simp⟩
  case turn =>
    rintro i t m₁ news₁ h₁ tk₁ I it hin ⟨rs, nn, tr, rfl, hm, hrl, hrs⟩ hc F2 N2
    rw [trk0 (st := [Str.ofString "k", Str.ofString "row"]) hm] at F2
    subst hm₀
    clear F1 N1 N1' hr
    dsimp only [rsL, List.cons_append, List.nil_append] at N2
    cases turned with
    | false =>
      rw [if_neg (by decide)] at hrs
      have hy : trs[(0 + (i : Int) * 1).toNat]? = some trs[i] := by rw [show (0 + (i : Int) * 1).toNat = i from by omega]; simp [hin]
      have hgy := hgt trs[i] (List.getElem_mem hin)
      have hyp : (pairsT trs)[i]? = some (trs[i].a, trs[i].b) := by simp [hin]
      have hab0 := asc_get hasc hyp
      dsimp only at hab0
      have hadd : ∀ y' ∈ rs, y'.a < y'.b ∧ y'.b < trs[i].a := fun y' hy' => by
        obtain ⟨j, hj, e⟩ := List.getElem_of_mem hy'
        have hp : (pairsOf rs)[j]? = some (y'.a, y'.b) := by simp [hj, e]
        rw [hrs, List.getElem?_take] at hp
        split at hp
        · rename_i hji
          exact ⟨asc_get hasc hp, asc_lt hasc hji hp hyp⟩
        · cases hp
      have htk : (pairsT trs).take (i + 1) = (pairsT trs).take i ++ [(trs[i].a, trs[i].b)] := by rw [List.take_succ, hyp]; rfl
      generalize trs[i] = y at *
      repeat' walk_at "mine oneD"
      (with_reducible rename Fr g _ _ _ => F3)
      (with_reducible rename News g _ _ _ => N3)
      (with_reducible rename Mine.RG => yy)
      have N4 := add_fin (I := I) (x := x) (d := d) (l := l) (rs := rs) (rs' := rs ++ [yy]) (y := yy) N3 (by k_mem) (by k_mem) (by k_mem) (by k_mem) rfl (by k_mem) (by k_mem) (by walk_at "mine sub") (.inl rfl)
      refine StepO.go (.inl rfl) F3 N4 (all_app (rs_cls (by simp)) (rows_cls' (by simp))) ⟨rs ++ [yy], _, _, rfl, ?_, by rw [List.length_append, List.length_singleton, hrl], ?_⟩
      · walk_at "mine map"
      · have ha := ‹yy.a = _›
        have hb := ‹yy.b = _›
        rw [if_neg (by decide), htk, ← hrs, pairsOf, List.map_append]
        simp only [List.map_cons, List.map_nil, ha, hb]
    | true =>
      rw [if_pos rfl] at hrs
      have hj : trs.length - 1 - i < trs.length := by omega
      have hy : trs[((trs.length : Int) - 1 - (0 + (i : Int) * 1)).toNat]? = some trs[trs.length - 1 - i] := by rw [show ((trs.length : Int) - 1 - (0 + (i : Int) * 1)).toNat = trs.length - 1 - i from by omega]; simp [hj]
      have hgy := hgt trs[trs.length - 1 - i] (List.getElem_mem hj)
      have hyp : (pairsT trs)[trs.length - 1 - i]? = some (trs[trs.length - 1 - i].a, trs[trs.length - 1 - i].b) := by simp [hj]
      have hab0 := asc_get hasc hyp
      dsimp only at hab0
      have hadd : ∀ y' ∈ rs.head?, trs[trs.length - 1 - i].b < y'.a := fun y' hy' => by
        have hp : (pairsOf rs)[0]? = some (y'.a, y'.b) := by
          cases rs with
          | nil => cases hy'
          | cons z r => cases hy'; rfl
        rw [hrs, List.getElem?_drop] at hp
        exact asc_lt hasc (by omega) hyp hp
      have hdr : (pairsT trs).drop (trs.length - (i + 1)) = (trs[trs.length - 1 - i].a, trs[trs.length - 1 - i].b) :: (pairsT trs).drop (trs.length - i) := by
        have h1 : trs.length - (i + 1) < (pairsT trs).length := by rw [List.length_map]; omega
        rw [List.drop_eq_getElem_cons h1]
        congr 1
        · rw [List.getElem_map]
          congr 2 <;> (congr 1; omega)
        · congr 1; omega
      generalize trs[trs.length - 1 - i] = y at *
      repeat' walk_at "mine oneD"
      (with_reducible rename Fr g _ _ _ => F3)
      (with_reducible rename News g _ _ _ => N3)
      (with_reducible rename Mine.RG => yy)
      have N4 := add_fin (I := I) (x := x) (d := d) (l := l) (rs := rs) (rs' := yy :: rs) (y := yy) N3 (by k_mem) (by k_mem) (by k_mem) (by k_mem) rfl (by k_mem) (by k_mem) (by walk_at "mine sub") (.inr rfl)
      refine StepO.go (.inl rfl) F3 N4 (all_app (rs_cls (by simp)) (rows_cls' (by simp))) ⟨yy :: rs, _, _, rfl, ?_, by rw [List.length_cons, hrl], ?_⟩
      · walk_at "mine map"
      · have ha := ‹yy.a = _›
        have hb := ‹yy.b = _›
        rw [if_pos rfl, hdr, ← hrs, pairsOf, List.map_cons, ha, hb]
  case done =>
    rintro h' tk m₁ news₁ F2 N2 ⟨rs, nn, tr, rfl, hm, hrl, hrs⟩
    rw [trk0 (st := [Str.ofString "k", Str.ofString "row"]) hm] at F2
    subst hm₀
    clear F1 N1 N1' hr
    have hrs' : pairsOf rs = pairsT trs := by
      rw [hrs]
      split
      · rw [Nat.sub_self, List.drop_zero]
      · rw [← List.length_map (f := fun y : TR => (y.a, y.b)), List.take_length]
    dsimp only [rsL, List.cons_append, List.nil_append] at N2
    dsimp only
    obtain ⟨y0, hy0, hym, htk⟩ := takeT_last hne0 (Nat.le_refl _)
    rw [List.take_of_length_le (Nat.le_refl _)] at htk
    have hgy0 := hgt y0 hym
    have hb0 := hbd (y0.a, y0.b) (List.mem_map.mpr ⟨y0, hym, rfl⟩)
    dsimp only at hb0
    obtain ⟨hb0, hb1⟩ := hb0
    have hab0 : y0.a < y0.b := asc_get hasc (i := trs.length - 1) (q := (y0.a, y0.b)) (by rw [List.getElem?_map, hy0]; rfl)
    obtain ⟨f, hf⟩ : ∃ f, ((2 ^ vidx (mx (y0.b - 1) delay) : Nat) : Int) = f := ⟨_, rfl⟩
    have hfs : f = 1 ∨ f = 2 ∨ f = 4 ∨ f = 8 := by
      rw [← hf]
      rcases vidx_cases (mx (y0.b - 1) delay) with ⟨_, e⟩ | ⟨_, _, e⟩ | ⟨_, _, _, e⟩ | ⟨_, _, _, e⟩ <;> rw [e] <;> decide
    refine wpN_execs_cons (wpN_of ?_)
    repeat' walk_at "mine oneD"
    refine wpN_execs_cons (wpN_of ?_)
    repeat' walk_at "mine oneD"
    refine wpN_execs_cons (wpN_of ?_)
    repeat' walk_at "mine oneD"
    (with_reducible rename Fr _ _ _ _ => F1)
    (with_reducible rename News _ _ _ _ => N1)
    obtain ⟨m₀, hm₀⟩ := fr_map F1
    obtain ⟨cn, hcn⟩ : ∃ cn, cn = cntOf trs.length (mx (y0.b - 1) delay) cap := ⟨_, rfl⟩
    have hf18 : 1 ≤ f ∧ f ≤ 8 := by omega
    refine halt ?_
    refine exec_join F1 (fun m nx => nx = rsL w.params x d l rs nn tr ++ rowsL w.params rs ∧ (∃ t, m (Str.ofString "count") = some (.int (cn : Nat) t)) ∧ (∀ y, [Str.ofString "count"].contains y = false → m y = m₀ y) ∧ 1 ≤ cn ∧ cn ≤ trs.length ∧ (cn = 1 ∨ 2 * ((cn : Int) + 1) * f ≤ cap)) ?_ ?_
    · refine While_inv2 (fun n m nx => ∃ (c : Nat) (tcn : Tok), m (Str.ofString "count") = some (.int (c : Int) tcn) ∧ (∀ y, [Str.ofString "count"].contains y = false → m y = m₀ y) ∧ nx = rsL w.params x d l rs nn tr ++ rowsL w.params rs ∧
        1 ≤ c ∧ c ≤ trs.length ∧ (c = 1 ∨ 2 * ((c : Int) + 1) * f ≤ cap) ∧ n = trs.length - c) F1 N1 (n₀ := trs.length - 1) ?h0 ?turn
      case h0 => exact ⟨1, _, rfl, fun y _ => by rw [hm₀], rfl, by omega, by omega, .inl rfl, rfl⟩
      case turn =>
        rintro n₁ m₁ news₁ h₁ tk₁ F2 N2 ⟨c, tcn, hmc, hm, rfl, hc1', hc2', hc3', hn1⟩
        rw [trk1 (st := []) hmc hm] at F2
        subst hm₀
        clear F1 N1
        dsimp only [rsL, List.cons_append, List.nil_append] at N2
        have hcase : ((c : Int) < trs.length ∧ 2 * ((c : Int) + 2) * f ≤ cap) ∨ ((c : Int) < trs.length ∧ ¬ 2 * ((c : Int) + 2) * f ≤ cap) ∨ ¬ (c : Int) < trs.length := by omega
        rcases hcase with ⟨q1, q2⟩ | ⟨q1, q2⟩ | q1
        · repeat' walk_at "mine oneD"
          (with_reducible rename Fr g _ _ _ => F3)
          (with_reducible rename News g _ _ _ => N3)
          have e1 : (c : Int) + 1 = ((c + 1 : Nat) : Int) := by omega
          refine WhileStep2.go F3 N3 ?_ ⟨c + 1, _, (if_pos rfl).trans (congrArg (fun z => some (Value.int z _)) e1), ?_, rfl, by omega, by omega, .inr ?_, rfl⟩
          · omega
          · walk_at "mine map"
          · rw [show ((c + 1 : Nat) : Int) + 1 = (c : Int) + 2 from by omega]; exact q2
        · repeat' walk_at "mine oneD"
          (with_reducible rename Fr g _ _ _ => F3)
          (with_reducible rename News g _ _ _ => N3)
          have e1 : cn = c := hcn.trans (cnt_eq hf hc0 hc1' hc2' hc3' fun z => q2 z.2)
          refine JoinPost.intro F3 N3 ⟨rfl, ⟨_, (if_pos rfl).trans (congrArg (fun z : Nat => some (Value.int (z : Int) _)) e1.symm)⟩, ?_, by omega, by omega, by rw [e1]; exact hc3'⟩
          walk_at "mine map"
        · repeat' walk_at "mine oneD"
          (with_reducible rename Fr g _ _ _ => F3)
          (with_reducible rename News g _ _ _ => N3)
          have e1 : cn = c := hcn.trans (cnt_eq hf hc0 hc1' hc2' hc3' fun z => q1 z.1)
          refine JoinPost.intro F3 N3 ⟨rfl, ⟨_, (if_pos rfl).trans (congrArg (fun z : Nat => some (Value.int (z : Int) _)) e1.symm)⟩, ?_, by omega, by omega, by rw [e1]; exact hc3'⟩
          walk_at "mine map"
    · rintro h' tk m₁ news₁ F2 N2 ⟨rfl, ⟨tcn, hm1⟩, hm2, hcn1, hcn2, hcn3⟩
      rw [trk1 (st := []) hm1 hm2] at F2
      subst hm₀
      clear F1 N1
      dsimp only [rsL, List.cons_append, List.nil_append] at N2
      dsimp only
      have hrev := newest_rev htk hcn1 hcn2
      have hbdr : ∀ q ∈ pairsT trs, 0 ≤ q.1 ∧ q.2 ≤ 4611686018427387904 := hbd
      have hokA : OkR ((y0.a, y0.b) :: (pairsT (trs.take (trs.length - 1))).reverse) := htk ▸ okR_reverse _ hasc hbd
      have hokN : OkR ((y0.a, y0.b) :: ((pairsT (trs.take (trs.length - 1))).reverse.take (cn - 1))) := by
        have := okR_take _ cn hokA
        obtain ⟨c, rfl⟩ : ∃ c, cn = c + 1 := ⟨cn - 1, by omega⟩
        exact this
      have hxl : ((pairsT (trs.take (trs.length - 1))).reverse.take (cn - 1)).length = cn - 1 := by
        rw [List.length_take, List.length_reverse, List.length_map, List.length_take]; omega
      have hdl : ((fenc delay ((y0.a, y0.b) :: ((pairsT (trs.take (trs.length - 1))).reverse.take (cn - 1)))).length : Int) ≤ cap := by
        have h1 := fenc_len (delay := delay) hokN (by omega)
        rw [hxl] at h1
        have h2 : ((2 * (cn - 1 + 2) * 2 ^ vidx (mx (y0.b - 1) delay) : Nat) : Int) = 2 * ((cn : Int) + 1) * f := by
          rw [← hf, Int.natCast_mul, Int.natCast_mul]
          congr 2
          omega
        have h3 : 2 * ((cn : Int) + 1) * f ≤ cap := by
          rcases hcn3 with e | e
          · rw [e]; omega
          · exact e
        omega
      generalize hxs : (pairsT (trs.take (trs.length - 1))).reverse.take (cn - 1) = xs at hrev hokN hdl
      have hlo : (trs.length : Int) - (cn : Int) = ((trs.length - cn : Nat) : Int) := by omega
      have hgr : ∀ p ∈ rowsT (trs.drop (trs.length - cn)), g.get? p.1 = some p.2 := fun p hp => hrd _ (.tail _ (rowsT_drop p hp))
      generalize trs.length - cn = a0 at hlo hgr hrev
      have ha0 : a0 ≤ trs.length := by omega
      refine wpN_execs_cons (wpN_of ?_)
      repeat' walk_at "mine oneD"
      refine wpN_execs_cons (wpN_of ?_)
      repeat' walk_at "mine oneD"
      generalize hdue : fenc delay ((y0.a, y0.b) :: xs) = due at *
      refine wpN_execs_cons (wpN_Assign (wpN_Call ?_))
      repeat' walk_at "mine oneD"
      refine callWithN_KW0 (K := hd.heap_39 w.params) (by k_is) rfl ?_
      repeat' walk_at "mine oneD"
      refine' ConN.call (buffer_cap ?h0 ?hn) ?kB ?kF ?kX ?kT ?kN ?kf ?kk ?kw ?ks ?kr ?kb ?kd ?ku ?_
      (case kB => assumption); (case kF => k_asm); (case kX => assumption); (case kT => assumption); (case kN => k_asm); (case kf => exact rfl); (case kk => exact rfl); (case kw => walk_at "mine wr"); (case ks => walk_at "mine split2")
      (case kr => exact List.forall_mem_nil _); (case kb => exact hbare); (case kd => walk_at "mine room"); (case ku => walk_at "mine room"); (case h0 => (simp only [List.size_toArray]; omega)); (case hn => (simp only [List.size_toArray]; omega))
      rintro vb newsb hb2 tkb gensb ⟨xb, db, ob, tb1, tb2, tb3, rfl, rfl⟩ hbare2 F3 N3
      dsimp only [bufL, List.cons_append, List.nil_append] at N3
      repeat' walk_at "mine oneD"
      (with_reducible rename Fr g _ _ _ => F4)
      (with_reducible rename News g _ _ _ => N4)
      have F5 := fr_pick (x := Str.ofString "buf") (v := .ref xb) (fr_pick (x := Str.ofString "due") (v := .bytes due.toArray _) (fr_pick (x := Str.ofString "newest") (v := .ref _) (fr_pick (x := Str.ofString "count") (v := .int (cn : Int) tcn) (fr_pick (x := Str.ofString "kept") (v := .ref x)
        (fr_pick (x := Str.ofString "rows") (v := .ref D) (fr_pick (x := Str.ofString "delay") (v := .int delay td) (fr_pick (x := Str.ofString "capacity") (v := .int cap tc) (fr_pick (x := Str.ofString "lead") (v := .bytes lead.toArray tl) F4 rfl) rfl) rfl) rfl) rfl) rfl) rfl) rfl) rfl
      have done := fun E tk => pushed_tail (E := E) (Q := fun fl s' => R (.ok (.ret (match fl with | .ret v => v | _ => .none))) s') (s := ⟨_, gensb, s.drawn, tk, s.os⟩) hd0 hd1 hc0 hc1 hlen hld hokA htk hrs' hcn hcn1 hxs hrev hdue hdl B X T hrd hdp hun hbare2 F5 N4 fun h' tk gens' hb hK => ret _ _ _ _ _ ⟨rfl, rfl⟩ hb hK fun _ h => nomatch h
      obtain ⟨hb, he⟩ := at_of (K := hd.heap_39 w.params) (f := 387) (by k_is)
      rw [hb, he] at done
      simp only [List.drop_succ_cons, List.drop_zero] at done
      exact done _ _
end Mine
end
section
open PySem PySem.W PyProof.Rows PySem.Calls
set_option maxRecDepth 100000
set_option maxHeartbeats 400000
namespace Mine
theorem funFrames_on {base : Heap} : ∀ {l : List Env} {h h' : Heap}, (∀ b ∈ l.filterMap (·.frame), ∀ o, h.get? b = some o → h'.get? b = some o) → h.FunFrames base l → h'.FunFrames base l
  | [], _, _, _, _ => trivial
  | env :: rest, h, h', k, ⟨hk, ⟨L, o, hf, hn, ho, hd⟩, hr⟩ => by
    have e : (env :: rest).filterMap (·.frame) = L :: rest.filterMap (·.frame) := by rw [List.filterMap_cons, hf]
    refine ⟨hk, ⟨L, o, hf, hn, k L (e ▸ .head _) o ho, hd⟩, funFrames_on (fun b hb o ho => k b (e ▸ .tail _ hb) o ho) hr⟩
/-- all addresses but those of the base and of the frames -/
noncomputable def others (base g : Heap) (fs : List Addr) : List Addr := (List.range g.objs.size).filter fun b => (base.get? b).isNone && !fs.contains b
theorem others_not {base g : Heap} {fs : List Addr} {b : Addr} (h : (∃ o, base.get? b = some o) ∨ b ∈ fs) : b ∉ others base g fs := fun q => by
  obtain ⟨_, q⟩ := List.mem_filter.mp q
  simp only [Bool.and_eq_true, Bool.not_eq_true', Option.isNone_iff_eq_none] at q
  rcases h with ⟨o, h⟩ | h
  · rw [h] at q; cases q.1
  · rw [List.contains_iff_mem.mpr h] at q; cases q.2
theorem others_get {base g : Heap} {fs : List Addr} {b : Addr} {o : Obj} (h : (hideAll g (others base g fs)).get? b = some o) : g.get? b = some o ∧ ((∃ o, base.get? b = some o) ∨ b ∈ fs) := by
  have hg := of_hideAll _ h
  refine ⟨hg, ?_⟩
  rcases Classical.em ((∃ o, base.get? b = some o) ∨ b ∈ fs) with q | q
  · exact q
  · have hm : b ∈ others base g fs := by
      refine List.mem_filter.mpr ⟨List.mem_range.mpr (Heap.lt_size hg), ?_⟩
      simp only [Bool.and_eq_true, Bool.not_eq_true', Option.isNone_iff_eq_none]
      refine ⟨?_, ?_⟩
      · cases e : base.get? b with
        | none => rfl
        | some o => exact absurd (.inl ⟨o, e⟩) q
      · cases e : fs.contains b with
        | false => rfl
        | true => exact absurd (.inr (List.contains_iff_mem.mp e)) q
    rw [hideAll_none _ hm] at h; cases h
theorem others_keep {base g : Heap} {fs : List Addr} {b : Addr} {o : Obj} (h : g.get? b = some o) (hb : (∃ o, base.get? b = some o) ∨ b ∈ fs) : (hideAll g (others base g fs)).get? b = some o := hideAll_get _ h (others_not hb)
theorem raisedSN_of {A₀ : Around} {base h₀ g₂ h' : Heap} {outer : List Env} {name : Str} {scope : Scope} {L a e t : Addr} {cd cls : Value} {vs : List Value} {m : Str → Option Value}
    (B : Below A₀ base outer h₀) (R : RaisedK base (envOf name scope L a cd :: outer) e cls t vs [] h') (F : Fr h₀ L g₂ m) (U : g₂.UpToSlots h') (D : KtsDicts (outer.filterMap (·.frame)) h₀) :
    ∃ G g, RaisedSN base G (envOf name scope L a cd :: outer) e cls [] h' ∧ Fr g L G m ∧ Below A₀ base outer g ∧ G.UpToSlots h' ∧ KtsDicts (outer.filterMap (·.frame)) g := by
  obtain ⟨⟨Bh, hB, _, hfl, hnew⟩, htup⟩ := R
  have hfr : (envOf name scope L a cd :: outer).filterMap (·.frame) = L :: outer.filterMap (·.frame) := rfl
  obtain ⟨oL, es, ep, hL, hLd, hLk, hLf⟩ := F.ns
  obtain ⟨fs, hfs⟩ : ∃ fs, fs = outer.filterMap (·.frame) := ⟨_, rfl⟩
  have h1 : ∀ b o, (hideAll g₂ (others base g₂ (L :: fs))).get? b = some o → b ∉ (envOf name scope L a cd :: outer).filterMap (·.frame) → Bh.get? b = some o := by
    intro b o h nm
    rw [hfr, ← hfs] at nm
    obtain ⟨h1, h2⟩ := others_get h
    rcases h2 with ⟨o', h2⟩ | h2
    · have h3 := F.keep _ _ (B.stays _ _ h2)
      rw [h1] at h3
      rw [Option.some.inj h3]
      exact hB _ _ h2
    · exact absurd h2 nm
  have h2 : RaisedSN base (hideAll g₂ (others base g₂ (L :: fs))) (envOf name scope L a cd :: outer) e cls [] h' := by
    refine Exists.intro Bh (Exists.intro (.ref t) (And.intro hB (And.intro h1 (And.intro ?_ hfl))))
    intro q hq
    cases hq
  have h3 : Fr (hideAll h₀ (others base h₀ fs)) L (hideAll g₂ (others base g₂ (L :: fs))) m := by
    refine ⟨⟨oL, es, ep, others_keep hL (.inr (.head _)), hLd, hLk, hLf⟩, fun b o h => ?_, ?_⟩
    · obtain ⟨h1, h2⟩ := others_get h
      exact others_keep (F.keep _ _ h1) (h2.imp id fun q => .tail _ q)
    · rw [hideAll_size]; exact F.above
  have h4 : Below A₀ base outer (hideAll h₀ (others base h₀ fs)) := by
    refine ⟨B.stack, fun b o h => others_keep (B.stays _ _ h) (.inl ⟨o, h⟩), funFrames_on (fun b hb o ho => others_keep ho (.inr (hfs ▸ hb))) B.frames⟩
  have h5 : (hideAll g₂ (others base g₂ (L :: fs))).UpToSlots h' := fun b o h hd => U b o (others_get h).1 hd
  have h6 : KtsDicts (outer.filterMap (·.frame)) (hideAll h₀ (others base h₀ fs)) := fun b hb => by
    obtain ⟨o, es, n, ho, hd⟩ := D b hb
    exact ⟨o, es, n, others_keep ho (.inr (hfs ▸ hb)), hd⟩
  exact ⟨_, _, h2, h3, h4, h5, h6⟩
end Mine
end
section
open PySem PySem.W PyProof.Rows PySem.Calls
set_option maxRecDepth 100000
set_option maxHeartbeats 1000000
namespace Mine
theorem pull_none {w : World} {mean : ExcName → Option Value} {mg mb : Str → Option Value} {x d o : Addr} {t1 t2 t3 : Tok} {bs : List UInt8} (hz : bs.length ≤ 100000) (hp : pack bs 0 = none) :
    ConE w mean mg mb 25 340 [.ref x] [] [] (bufL w.params x d o bs 0 t1 t2 t3) (fun _ _ => False) (fun cls => cls = .ref 31) := by
  intro dp un gd ll base g s R B X T Kp N hrd hdp hun ret fail
  refine pull_ack_frame (k := 0) hz (Nat.zero_le _) dp un gd ll base g s R B X T Kp N hrd hdp hun (fun r news' h' tk hq K' L' => ?_) fun e t cls vs h' tk hq => fail e t cls vs h' tk ?_
  · obtain ⟨T, xr, dr, lr, tr, n', rs, t3', k', low', dl', td, hpk, _⟩ := hq
    rw [hp] at hpk; cases hpk
  · rcases hq with ⟨_, hc⟩ | ⟨k', low', rows, dl', hq, _⟩
    · exact hc
    · rw [hp] at hq; cases hq
section
variable {prog : Program} {w : World} {A : Around} {E : Value → Shared → Prop} {s : Shared} {value slice : PySem.Expr} {h₀ : Heap} {L : Addr} {m : PySem.Str → Option Value} {news : List (Addr × Obj)} {Q : Value → Shared → Prop}
theorem slice_take {oct : List UInt8} {j : Int} {t tj : Tok} (hF : Fr h₀ L s.heap m) (hN : News h₀ L s.heap news) (h0 : 0 ≤ j) (hz : oct.length ≤ 16777216)
    (h : ∀ h' t' k, Fr h₀ L h' m → News h₀ L h' news → Q (.bytes (oct.take j.toNat).toArray t') { s with heap := h', toks := k })
    (hs : subscripted slice false (.bytes oct.toArray t) (.ref s.heap.objs.size) = operate [.ref s.heap.objs.size, .bytes oct.toArray t] (getItem (.bytes oct.toArray t) (.ref s.heap.objs.size)) := by with_unfolding_all rfl)
    (ht : ∀ r, letTemporaryGo value (.bytes oct.toArray t) r = pure () := by intro _; with_unfolding_all rfl) :
    wpAny (model prog w) A (subscriptTail value slice (.bytes oct.toArray t) (.ref s.heap.objs.size)) Q E { s with heap := s.heap.push { cls := .type "slice", data := .fields #[.none, .int j tj, .none] } } := by
  have e : KBy.picked oct.toArray none (some j) = (oct.take j.toNat).toArray := by
    rw [KBc.picked_eq]
    have hj : j = (j.toNat : Int) := by omega
    rw [hj]
    simp only [Option.elim, clipAt_nat, List.size_toArray, List.drop_zero, Nat.sub_zero, Int.toNat_natCast, List.toList_toArray]
    rcases Nat.le_total j.toNat oct.length with q | q
    · rw [Nat.min_eq_left q]
    · rw [Nat.min_eq_right q, List.take_of_length_le (Nat.le_refl _), List.take_of_length_le q]
  refine KBc.slice_K hF hN rfl .none (.int _ _) ?_ (fun h' t' k F' N' _ => ?_) hs ht
  · rw [KBw.ints_length]; simpa using hz
  · rw [e]; exact h h' t' k F' N'
end
local macro_rules | `(tactic| walk_at "mine room") => `(tactic| first | (dsimp only; omega) | ((try simp only [depth_mark, depth_under_make, depth_under_kw, depth_in1, depth_deeper, units_deeper, units_in1, units_under_make]); (try dsimp only); omega))
local macro_rules | `(tactic| walk_at "mine one") => `(tactic| (first | (k_unfold; (try dsimp only)) | (k_end; wrow_close) | walk1 | (dsimp only; walk1) | (leave1; walk_say "STEP leave1"; try dsimp only) | (dsimp only; k_unfold; (try dsimp only)) | (dsimp only [StepO]; k_unfold; (try dsimp only)) | fail "no step"))
local macro_rules | `(tactic| walk_at "mine enter") => `(tactic| (refine' enter ?k1 ?k2 ?k3 ?k4 ?k5 ?kd ?k6 ?k7 ?k8 ?k9 ?_ ?c2 ?c3 ?c4 ?c5; (case k1 => assumption); (case k2 => assumption); (case k3 => assumption); (case k4 => assumption); (case k5 => assumption); (case kd => omega); (case k6 => k_is); (case k7 => k_is); (case k8 => first | exact BindsTo.of_eq rfl | exact binds_K (Frag.In.keeps (by assumption) (Kept.keep (by assumption))) rfl (by k_is) rfl rfl rfl | exact binds_K (by k_in) rfl (by k_is) rfl rfl rfl); (case c5 => decide); (case k9 => exact locs rfl); (case c2 => exact rfl); (case c3 => exact rfl); (case c4 => exact rfl); k_whole; intro L' h' F' N' K'; (try dsimp only); (try k_fold)))
local macro_rules | `(tactic| walk_at "mine wr") => `(tactic| ((repeat (refine List.forall_mem_cons.mpr ⟨?_, ?_⟩; (· k_mem))); exact List.forall_mem_nil _))
local macro_rules | `(tactic| walk_at "mine split") => `(tactic| (repeat' (first | exact Split.nil | (refine' Split.keep ?a ?_; (case a => k_all)) | refine' Split.drop ?_)))
local macro_rules | `(tactic| walk_at "mine con") => `(tactic| ((case kB => assumption); (case kF => k_asm); (case kX => assumption); (case kT => assumption); (case kN => k_asm); (case kf => exact rfl); (case kk => exact rfl); (case kw => walk_at "mine wr"); (case ks => walk_at "mine split"); (case kd => walk_at "mine room"); (case ku => walk_at "mine room")))
local macro_rules | `(tactic| walk_at "mine conE") => `(tactic| ((case kB => assumption); (case kF => k_asm); (case kX => assumption); (case kT => assumption); (case kN => k_asm); (case kf => exact rfl); (case kk => exact rfl); (case kw => walk_at "mine wr"); (case ks => walk_at "mine split"); (case kd => walk_at "mine room"); (case ku => walk_at "mine room")))
local macro_rules | `(tactic| k_room) => `(tactic| ((try simp only [depth_mark, depth_under_make, depth_under_kw, depth_in1, depth_deeper, depth_caller]); (try dsimp only); omega))
local macro_rules | `(tactic| walk_at "mine map") => `(tactic| (refine' map_off _ ?hs ?a; (case a => (intro y hy; (have nn : ∀ z, _ = true → y ≠ z := fun z hz e => by subst e; exact absurd (hz.symm.trans hy) (by decide)); (try dsimp only); (repeat rw [if_neg (nn _ (by decide))]); first | done | exact rfl)); (case hs => decide)))
local macro_rules | `(tactic| walk_at "mine oneD") => `(tactic| (first | (k_unfold; (try dsimp only)) | (k_end; wrow_close) | (walk1; (try dsimp only [List.cons_append, List.nil_append])) | (dsimp only; walk1) | (leave1; walk_say "STEP leave1"; try dsimp only) | (dsimp only; k_unfold; (try dsimp only)) | (dsimp only [StepO]; k_unfold; (try dsimp only)) | fail "no step"))
local macro_rules | `(tactic| walk_at "mine size") => `(tactic| ((try simp only [Array.size_append]); refine Nat.le_trans (by first | exact Nat.add_le_add (Nat.add_le_add (KBc.size_picked_le _ _ _) (Nat.le_refl _)) (KBc.size_picked_le _ _ _) | exact Nat.add_le_add (KBc.size_picked_le _ _ _) (Nat.le_refl _) | exact KBc.size_picked_le _ _ _) ?_; simp only [List.size_toArray, List.length_append]; omega))
local macro_rules | `(tactic| walk_at "call builtin:len") => `(tactic| (k_here; (with_reducible show wpAny _ _ (call (Value.builtin "len") [Value.ref _]) _ _ _); (with_reducible rename News _ _ _ _ => N'); (first | (refine' len_app ?ba ?hz ?_; (case ba => exact led_ba N' (by k_mem)); (case hz => omega); k_whole) | (refine' len_bs ?ba ?hz ?_; (case ba => exact led_ba N' (by k_mem)); (case hz => omega); k_whole))))
local macro_rules | `(tactic| walk_at "subscriptTail") => `(tactic| (k_here; (with_reducible show wpAny _ _ (subscriptTail _ (Expr.Slice _ _ none _) (Value.ref _) (Value.ref _)) _ _ _); (with_reducible rename Fr _ _ _ _ => F'); (with_reducible rename News _ _ _ _ => N'); (refine' BA.slice_N (s := ⟨_, _, _, _, _⟩) F' N' ?ba (by constructor) (by constructor) ?hz ?_; (case ba => exact led_ba N' (by k_mem)); (case hz => walk_at "mine size"); intro h' x' F' N' l1; (try k_lt l1); (try k_sweep); (try dsimp only))))
local macro_rules | `(tactic| walk_at "binaryOp Add") => `(tactic| (k_here; (with_reducible show wpAny _ _ (binaryOp _ (Value.ref _) (Value.bytes _ _)) _ _ _); (with_reducible rename Fr _ _ _ _ => F'); (with_reducible rename News _ _ _ _ => N'); (refine' BA.add_b F' N' ?ba ?hz ?_; (case ba => exact led_ba N' (by k_mem)); (case hz => walk_at "mine size"); intro h' x' F' N' l1; (try k_lt l1); (try k_sweep); (try dsimp only))))
local macro_rules | `(tactic| walk_at "binaryOp Add") => `(tactic| (k_here; (with_reducible show wpAny _ _ (binaryOp _ (Value.ref _) (Value.ref _)) _ _ _); (with_reducible rename Fr _ _ _ _ => F'); (with_reducible rename News _ _ _ _ => N'); (refine' BA.add_ba F' N' ?ba ?bb ?hz ?_; (case ba => exact led_ba N' (by k_mem)); (case bb => exact led_ba N' (by k_mem)); (case hz => walk_at "mine size"); intro h' x' F' N' l1; (try k_lt l1); (try k_sweep); (try dsimp only))))
local macro_rules | `(tactic| walk_at "call type:bytes") => `(tactic| (k_here; (with_reducible show wpAny _ _ (call (Value.type "bytes") [Value.ref _]) _ _ _); (with_reducible rename News _ _ _ _ => N'); (refine' BA.bytes_of ?ba ?hz ?_; (case ba => exact led_ba N' (by k_mem)); (case hz => walk_at "mine size"); intro _ _; (try dsimp only))))
local macro_rules | `(tactic| k_inst) => `(tactic| (refine' Mine.InstAt.of_base ?F ?h1 ?h2; (case F => k_asm); (case h1 => assumption); (case h2 => assumption)))
local macro_rules | `(tactic| walk_at "mine dis") => `(tactic| (repeat' (first | exact List.forall_mem_nil _ | refine List.forall_mem_cons.mpr ⟨?_, ?_⟩ | (refine Or.inr (cls_ne ?_); (simp; done)) | (refine Or.inr (key_ne ?_); exact rfl) | (refine Or.inr (it_ne (by assumption) ?_); (simp; done)) | (refine Or.inr (it_ne' (by assumption) ?_); (simp; done)) | exact .inl (by k_ne))))
local macro_rules | `(tactic| walk_at "mine split2") => `(tactic| (repeat' (first | with_reducible exact Split2.nil | with_reducible exact Split2.all | with_reducible exact Split2.tail rows_off_buf | with_reducible exact Split2.tail rows_off_rs | (with_reducible refine Split2.tail (rowsT_off ?_); (simp; done)) | (with_reducible refine' Split2.drop2 ?h ?_; (case h => with_reducible k_mem)) | (refine' Split2.keep ?a ?_; (case a => walk_at "mine dis")) | refine' Split2.drop ?_ | exact Split2.nil)))
local macro_rules | `(tactic| walk_at "mine conF") => `(tactic| ((case kB => assumption); (case kF => k_asm); (case kX => assumption); (case kT => assumption); (case kN => k_asm); (case kf => exact rfl); (case kk => exact rfl); (case kw => walk_at "mine wr"); (case ks => walk_at "mine split2"); (case kr => walk_at "mine rd"); (case kd => walk_at "mine room"); (case ku => walk_at "mine room")))
local macro_rules | `(tactic| walk_at "mine rd") => `(tactic| first | exact List.forall_mem_nil _ | (refine fun p hp => Or.inl ?_; simp only [List.mem_cons, List.mem_append, rowsL_cons, List.not_mem_nil, or_false, List.append_assoc] at hp ⊢; (repeat' (refine Or.elim hp ?_ ?_ <;> clear hp <;> intro hp)); all_goals (first | walk_at "mine or" | (subst hp; simp; done))))
local macro_rules | `(tactic| walk_at "exec For Name Call cons nil") => `(tactic| (k_here; (rename Fr _ _ _ _ => lF'); (with_unfolding_all refine' For_turns lF' ?_; k_whole)))
local macro_rules | `(tactic| walk_at "exec For Name Name cons nil") => `(tactic| (k_here; (rename Fr _ _ _ _ => lF'); (with_unfolding_all refine' For_turns lF' ?_; k_whole)))
local macro_rules | `(tactic| walk_at "exec For Tuple Call cons nil") => `(tactic| (k_here; (rename Fr _ _ _ _ => lF'); (with_unfolding_all refine' For_turns lF' ?_; k_whole)))
local macro_rules | `(tactic| walk_at "exec For Tuple Subscript cons nil") => `(tactic| (k_here; (rename Fr _ _ _ _ => lF'); (with_unfolding_all refine' For_turns lF' ?_; k_whole)))
local macro_rules | `(tactic| walk_at "call type:enumerate") => `(tactic| (k_here; (with_reducible show wpAny _ _ (call (Value.type _) [Value.ref _]) (fun xv s₁ => wpAny _ _ (pyIter xv) (fun it s₂ => TurnsAt _ _ _ _ _ _ _ _ _ it s₂) _ s₁) _ _); refine halt ?_))
local macro_rules | `(tactic| walk_at "pyIter ref") => `(tactic| (k_here; (with_reducible show wpAny _ _ (pyIter (Value.ref _)) (fun it s₂ => TurnsAt _ _ _ _ _ _ _ _ _ it s₂) _ _); refine halt ?_))
local macro_rules | `(tactic| walk_at "pyIter ref") => `(tactic| (k_here; (with_reducible show wpAny _ _ (pyIter (Value.ref _)) (fun it s₂ => TurnsAt _ _ _ _ _ _ _ _ _ it s₂) _ _); k_dflt (refine' iter_nil ?h ?F ?N ?X ?e ?_; (case h => exact rfl); (case F => k_asm); (case N => k_asm); (case X => k_asm); (case e => k_is); intro h' tk' F' N'; (try k_sweep); (try dsimp only))))
local macro_rules | `(tactic| walk_at "mine or") => `(tactic| first | with_reducible assumption | (with_reducible exact Or.inl (by with_reducible assumption)) | (refine Or.inr ?_; walk_at "mine or"))
local macro_rules | `(tactic| walk_at "mine sub") => `(tactic| (intro p hp; simp only [List.mem_cons, List.mem_append, rowsL_cons, List.not_mem_nil, or_false, List.append_assoc] at hp ⊢; (repeat' (refine Or.elim hp ?_ ?_ <;> clear hp <;> intro hp)); all_goals (first | walk_at "mine or" | (subst hp; simp; done))))
local macro_rules | `(tactic| walk_at "call builtin:list.append") => `(tactic| (k_here; (with_reducible show wpAny _ _ (call (Value.builtin _) [Value.ref _, _]) _ _ _); k_dflt (refine' append_S ?F ?N ?m ?s ?z ?_; (case F => k_asm); (case N => k_asm); (case m => k_mem); (case s => walk_at "mine split2"); (case z => (simp only [List.length_map, List.size_toArray]; omega)); intro h' F' N'; (try k_sweep); (try dsimp only))))
local macro_rules | `(tactic| walk_at "binaryOp FloorDiv int int") => `(tactic| (k_here; (with_reducible show wpAny _ _ (binaryOp _ (Value.int _ _) (Value.int _ _)) _ _ _); (refine' div_lit ?hb ?hp ?_; (case hb => decide); (case hp => exact PyProof.noPylong_of_log2 (by decide +kernel)))))
local macro_rules | `(tactic| walk_at "binaryOp Mod int int") => `(tactic| (k_here; (with_reducible show wpAny _ _ (binaryOp _ (Value.int _ _) (Value.int _ _)) _ _ _); (refine' mod_lit ?hb ?_; (case hb => decide))))
local macro_rules | `(tactic| walk_at "binaryOp Mult int int") => `(tactic| (k_here; (with_reducible show wpAny _ _ (binaryOp _ (Value.int _ _) (Value.int _ _)) _ _ _); (refine' mul_b ?h1 ?h2 ?_; (case h1 => omega); (case h2 => omega))))
local macro_rules | `(tactic| walk_at "mine enterN") => `(tactic| (refine' enterN ?k1 ?k2 ?k3 ?k4 ?k5 ?kd ?k6 ?k7 ?k8 ?k9 ?_ ?c2 ?c3 ?c4 ?c5; (case k1 => assumption); (case k2 => assumption); (case k3 => assumption); (case k4 => assumption); (case k5 => assumption); (case kd => omega); (case k6 => k_is); (case k7 => k_is); (case k8 => first | exact BindsTo.of_eq rfl | exact binds_K (Frag.In.keeps (by assumption) (Kept.keep (by assumption))) rfl (by k_is) rfl rfl rfl | exact binds_K (by k_in) rfl (by k_is) rfl rfl rfl); (case c5 => decide); (case k9 => exact locs rfl); (case c2 => exact rfl); (case c3 => exact rfl); (case c4 => exact rfl); k_whole; intro L' h' F' N' K'; (try dsimp only); (try k_fold)))
local macro_rules | `(tactic| walk_at "subscriptTail") => `(tactic| (k_here; (with_reducible show wpAny _ _ (subscriptTail _ _ (Value.ref _) (Value.int _ _)) _ _ _); (refine' itemTB ?F ?hl ?h0 ?h1 ?hy ?_; (case F => k_asm); (case hl => with_reducible assumption); (case h0 => omega); (case h1 => omega); (case hy => with_reducible assumption); k_whole)))
local macro_rules | `(tactic| walk_at "subscriptTail") => `(tactic| (k_here; (with_reducible show wpAny _ _ (subscriptTail _ _ (Value.ref _) (Value.int (-1) _)) _ _ _); (refine' itemTB_last ?F ?hl ?hi ?h1 ?hy ?_; (case F => k_asm); (case hl => with_reducible assumption); (case hi => rfl); (case h1 => omega); (case hy => with_reducible assumption); k_whole)))
local macro_rules | `(tactic| walk_at "subscriptTail") => `(tactic| (k_here; (with_reducible show wpAny _ _ (subscriptTail _ _ (Value.ref _) (Value.int 0 _)) _ _ _); (refine' tupB0 ?F ?ht ?_; (case F => k_asm); (case ht => with_reducible assumption); k_whole)))
local macro_rules | `(tactic| walk_at "subscriptTail") => `(tactic| (k_here; (with_reducible show wpAny _ _ (subscriptTail _ _ (Value.ref _) (Value.int 1 _)) _ _ _); (refine' tupB1 ?F ?ht ?_; (case F => k_asm); (case ht => with_reducible assumption); k_whole)))
local macro_rules | `(tactic| walk_at "call builtin:len") => `(tactic| (k_here; (with_reducible show wpAny _ _ (call (Value.builtin "len") [Value.ref _]) _ _ _); (refine' lenTB ?F ?hl ?hz ?_; (case F => k_asm); (case hl => assumption); (case hz => omega); intro _ _; (try dsimp only))))
local macro_rules | `(tactic| walk_at "binaryOp Mod int int") => `(tactic| (k_here; (with_reducible show wpAny _ _ (binaryOp _ (Value.int _ _) (Value.int _ _)) _ _ _); (refine' mod_lit ?hb ?_; (case hb => ((try simp only [List.size_toArray]); omega)))))
local macro_rules | `(tactic| walk_at "subscriptTail") => `(tactic| (k_here; (with_reducible show wpAny _ _ (subscriptTail _ (Expr.Slice none _ none _) (Value.bytes _ _) (Value.ref _)) _ _ _); (with_reducible rename Fr _ _ _ _ => F'); (with_reducible rename News _ _ _ _ => N'); (refine' slice_take (s := ⟨_, _, _, _, _⟩) F' N' ?h0 ?hz ?_; (case h0 => assumption); (case hz => omega); intro h' t' k' F' N'; (try dsimp only))))
theorem pulled_try2 {w : World} {mean : ExcName → Option Value} {mg mb : Str → Option Value} {oct : List UInt8} {cut : Int} {toc tcu : Tok}
    {dp un : Nat} {gd : Option (List Code)} {ll : List Env} {base g : Heap} {s : Shared} {L : Addr} {m₀ : Str → Option Value} {Q : Flow → Shared → Prop}
    (hl0 : 0 < oct.length) (hl1 : oct.length ≤ 1000) (hcut : ∀ j, j < oct.length → pack (oct.take j) 0 = none)
    (B : Below (AX dp un gd ll) base ll g) (X : (hd.heap_39 w.params).In g) (T : Top hd.view_39 LS mean mg mb g) (XB : (hd.heap_39 w.params).In base) (TB : Top hd.view_39 LS mean mg mb base) (D : KtsDicts (ll.filterMap (·.frame)) g)
    (hdp : dp + 60 < recursionLimit) (hun : un + 10 * 60 < cLine) (hbare : AllBare s.gens)
    (F : Fr g L s.heap (fun y => if y = Str.ofString "octets" then some (.bytes oct.toArray toc) else if y = Str.ofString "cut" then some (.int cut tcu) else m₀ y))
    (ret : ∀ h' tk gens', AllBare gens' → base.StaysIn h' → Q (.ret (.bool true)) ⟨h', gens', s.drawn, tk, s.os⟩) :
    wpN (model PG w) ((AX dp un gd ll).deeper (envAt (hd.heap_39 w.params) 392 L)) (execs ((bodyAt (hd.heap_39 w.params) 392).drop 7) (envAt (hd.heap_39 w.params) 392 L)) Q (fun _ _ => False) s := by
  w_on
  obtain ⟨hb, he⟩ := at_of (K := hd.heap_39 w.params) (f := 392) (by k_is)
  rw [hb, he]
  clear hb he
  simp only [List.drop_succ_cons, List.drop_zero]
  obtain ⟨hp, gg, dd, tt, os⟩ := s
  have N : News g L hp [] := fun _ h => nomatch h
  dsimp only at F hbare ret
  have hj0 : 0 ≤ cut % (oct.toArray.size : Int) := Int.emod_nonneg _ (by simp only [List.size_toArray]; omega)
  have hj1 : (cut % (oct.toArray.size : Int)).toNat < oct.length := by
    have := Int.emod_lt_of_pos cut (show (0 : Int) < (oct.toArray.size : Int) by simp only [List.size_toArray]; omega)
    simp only [List.size_toArray] at this hj0 ⊢
    omega
  refine wpN_execs_cons (wpN_Try rfl ?_)
  refine wpN_execs_cons (wpN_Expr (wpN_Call ?_))
  repeat' walk_at "mine oneD"
  refine callWithN_KN (K := hd.heap_39 w.params) (by k_is) (wpN_Call ?_)
  repeat' walk_at "mine oneD"
  refine callWithN_KW0 (K := hd.heap_39 w.params) (by k_is) rfl ?_
  repeat' walk_at "mine oneD"
  have hpk := hcut _ hj1
  have hbl : (oct.take (cut % (oct.toArray.size : Int)).toNat).length ≤ 1000 := by rw [List.length_take]; omega
  generalize oct.take (cut % (oct.toArray.size : Int)).toNat = bs at hpk hbl ⊢
  refine' ConN.call (buffer_data (bs := bs) ?hn) ?kB ?kF ?kX ?kT ?kN ?kf ?kk ?kw ?ks ?kr ?kb ?kd ?ku ?_
  (case kB => assumption); (case kF => k_asm); (case kX => assumption); (case kT => assumption); (case kN => k_asm); (case kf => exact rfl); (case kk => exact rfl); (case kw => walk_at "mine wr"); (case ks => walk_at "mine split2")
  (case kr => exact List.forall_mem_nil _); (case kb => exact hbare); (case kd => walk_at "mine room"); (case ku => walk_at "mine room"); (case hn => omega)
  rintro vb newsb hb2 tkb gensb ⟨xb, db, ob, tb1, tb2, tb3, rfl, rfl⟩ hbare2 F3 N3
  dsimp only [bufL, List.cons_append, List.nil_append] at N3
  refine ⟨X.keeps F3.keep, wpN_of ?_⟩
  refine' ConE.call2 (pull_none ?hz hpk) ?kB ?kF ?kX ?kT ?kN ?kf ?kk ?kw ?ks ?kr ?kd ?ku ?_ ?_
  (case kB => assumption); (case kF => k_asm); (case kX => assumption); (case kT => assumption); (case kN => k_asm); (case kf => exact rfl); (case kk => exact rfl); (case kw => walk_at "mine wr"); (case ks => walk_at "mine split2")
  (case kr => exact List.forall_mem_nil _); (case kd => walk_at "mine room"); (case ku => walk_at "mine room"); (case hz => omega)
  · intro v' news' h' tk' hp'
    exact hp'.elim
  · intro e t cls vs g₂ h' tk' hc R F' U
    subst hc
    obtain ⟨G, g', RN, FG, BG, UG, DG⟩ := raisedSN_of B R F' U D
    clear F3 N3 B R F' U D X T
    repeat' walk_at "mine oneD"
    (with_reducible rename Below _ _ _ _ => B9)
    (with_reducible rename Fr _ _ _ _ => F9)
    exact ret _ _ _ hbare2 fun b o e => F9.keep _ _ (B9.stays _ _ e)
end Mine
end
section
open PySem PySem.W PyProof.Rows PySem.Calls
set_option maxRecDepth 100000
set_option maxHeartbeats 1000000
namespace Mine
theorem pull_neg {w : World} {mean : ExcName → Option Value} {mg mb : Str → Option Value} {x d o : Addr} {t1 t2 t3 : Tok} {bs : List UInt8} {k1 : Nat} {low dl : Int} {ps : List (Int × Int)} (hz : bs.length ≤ 100000) (hp : pack bs 0 = some (k1, low, ps, dl)) (hlow : low < 0) :
    ConE w mean mg mb 25 340 [.ref x] [] [] (bufL w.params x d o bs 0 t1 t2 t3) (fun _ _ => False) (fun cls => cls = .type "ValueError") := by
  intro dp un gd ll base g s R B X T Kp N hrd hdp hun ret fail
  refine pull_ack_frame (k := 0) hz (Nat.zero_le _) dp un gd ll base g s R B X T Kp N hrd hdp hun (fun r news' h' tk hq K' L' => ?_) fun e t cls vs h' tk hq => fail e t cls vs h' tk ?_
  · obtain ⟨T, xr, dr, lr, tr, n', rs, t3', k', low', dl', td, hpk, hl, _⟩ := hq
    rw [hp] at hpk
    have hpk := Option.some.inj hpk
    injection hpk with e1 hpk
    injection hpk with e2 hpk
    omega
  · rcases hq with ⟨hq, _⟩ | ⟨k', low', rows, dl', hq, _, hc⟩
    · rw [hp] at hq; cases hq
    · exact hc
local macro_rules | `(tactic| walk_at "mine room") => `(tactic| first | (dsimp only; omega) | ((try simp only [depth_mark, depth_under_make, depth_under_kw, depth_in1, depth_deeper, units_deeper, units_in1, units_under_make]); (try dsimp only); omega))
local macro_rules | `(tactic| walk_at "mine one") => `(tactic| (first | (k_unfold; (try dsimp only)) | (k_end; wrow_close) | walk1 | (dsimp only; walk1) | (leave1; walk_say "STEP leave1"; try dsimp only) | (dsimp only; k_unfold; (try dsimp only)) | (dsimp only [StepO]; k_unfold; (try dsimp only)) | fail "no step"))
local macro_rules | `(tactic| walk_at "mine enter") => `(tactic| (refine' enter ?k1 ?k2 ?k3 ?k4 ?k5 ?kd ?k6 ?k7 ?k8 ?k9 ?_ ?c2 ?c3 ?c4 ?c5; (case k1 => assumption); (case k2 => assumption); (case k3 => assumption); (case k4 => assumption); (case k5 => assumption); (case kd => omega); (case k6 => k_is); (case k7 => k_is); (case k8 => first | exact BindsTo.of_eq rfl | exact binds_K (Frag.In.keeps (by assumption) (Kept.keep (by assumption))) rfl (by k_is) rfl rfl rfl | exact binds_K (by k_in) rfl (by k_is) rfl rfl rfl); (case c5 => decide); (case k9 => exact locs rfl); (case c2 => exact rfl); (case c3 => exact rfl); (case c4 => exact rfl); k_whole; intro L' h' F' N' K'; (try dsimp only); (try k_fold)))
local macro_rules | `(tactic| walk_at "mine wr") => `(tactic| ((repeat (refine List.forall_mem_cons.mpr ⟨?_, ?_⟩; (· k_mem))); exact List.forall_mem_nil _))
local macro_rules | `(tactic| walk_at "mine split") => `(tactic| (repeat' (first | exact Split.nil | (refine' Split.keep ?a ?_; (case a => k_all)) | refine' Split.drop ?_)))
local macro_rules | `(tactic| walk_at "mine con") => `(tactic| ((case kB => assumption); (case kF => k_asm); (case kX => assumption); (case kT => assumption); (case kN => k_asm); (case kf => exact rfl); (case kk => exact rfl); (case kw => walk_at "mine wr"); (case ks => walk_at "mine split"); (case kd => walk_at "mine room"); (case ku => walk_at "mine room")))
local macro_rules | `(tactic| walk_at "mine conE") => `(tactic| ((case kB => assumption); (case kF => k_asm); (case kX => assumption); (case kT => assumption); (case kN => k_asm); (case kf => exact rfl); (case kk => exact rfl); (case kw => walk_at "mine wr"); (case ks => walk_at "mine split"); (case kd => walk_at "mine room"); (case ku => walk_at "mine room")))
local macro_rules | `(tactic| k_room) => `(tactic| ((try simp only [depth_mark, depth_under_make, depth_under_kw, depth_in1, depth_deeper, depth_caller]); (try dsimp only); omega))
local macro_rules | `(tactic| walk_at "mine map") => `(tactic| (refine' map_off _ ?hs ?a; (case a => (intro y hy; (have nn : ∀ z, _ = true → y ≠ z := fun z hz e => by subst e; exact absurd (hz.symm.trans hy) (by decide)); (try dsimp only); (repeat rw [if_neg (nn _ (by decide))]); first | done | exact rfl)); (case hs => decide)))
local macro_rules | `(tactic| walk_at "mine oneD") => `(tactic| (first | (k_unfold; (try dsimp only)) | (k_end; wrow_close) | (walk1; (try dsimp only [List.cons_append, List.nil_append])) | (dsimp only; walk1) | (leave1; walk_say "STEP leave1"; try dsimp only) | (dsimp only; k_unfold; (try dsimp only)) | (dsimp only [StepO]; k_unfold; (try dsimp only)) | fail "no step"))
local macro_rules | `(tactic| walk_at "mine size") => `(tactic| ((try simp only [Array.size_append]); refine Nat.le_trans (by first | exact Nat.add_le_add (Nat.add_le_add (KBc.size_picked_le _ _ _) (Nat.le_refl _)) (KBc.size_picked_le _ _ _) | exact Nat.add_le_add (KBc.size_picked_le _ _ _) (Nat.le_refl _) | exact KBc.size_picked_le _ _ _) ?_; simp only [List.size_toArray, List.length_append]; omega))
local macro_rules | `(tactic| walk_at "call builtin:len") => `(tactic| (k_here; (with_reducible show wpAny _ _ (call (Value.builtin "len") [Value.ref _]) _ _ _); (with_reducible rename News _ _ _ _ => N'); (first | (refine' len_app ?ba ?hz ?_; (case ba => exact led_ba N' (by k_mem)); (case hz => omega); k_whole) | (refine' len_bs ?ba ?hz ?_; (case ba => exact led_ba N' (by k_mem)); (case hz => omega); k_whole))))
local macro_rules | `(tactic| walk_at "subscriptTail") => `(tactic| (k_here; (with_reducible show wpAny _ _ (subscriptTail _ (Expr.Slice _ _ none _) (Value.ref _) (Value.ref _)) _ _ _); (with_reducible rename Fr _ _ _ _ => F'); (with_reducible rename News _ _ _ _ => N'); (refine' BA.slice_N (s := ⟨_, _, _, _, _⟩) F' N' ?ba (by constructor) (by constructor) ?hz ?_; (case ba => exact led_ba N' (by k_mem)); (case hz => walk_at "mine size"); intro h' x' F' N' l1; (try k_lt l1); (try k_sweep); (try dsimp only))))
local macro_rules | `(tactic| walk_at "binaryOp Add") => `(tactic| (k_here; (with_reducible show wpAny _ _ (binaryOp _ (Value.ref _) (Value.bytes _ _)) _ _ _); (with_reducible rename Fr _ _ _ _ => F'); (with_reducible rename News _ _ _ _ => N'); (refine' BA.add_b F' N' ?ba ?hz ?_; (case ba => exact led_ba N' (by k_mem)); (case hz => walk_at "mine size"); intro h' x' F' N' l1; (try k_lt l1); (try k_sweep); (try dsimp only))))
local macro_rules | `(tactic| walk_at "binaryOp Add") => `(tactic| (k_here; (with_reducible show wpAny _ _ (binaryOp _ (Value.ref _) (Value.ref _)) _ _ _); (with_reducible rename Fr _ _ _ _ => F'); (with_reducible rename News _ _ _ _ => N'); (refine' BA.add_ba F' N' ?ba ?bb ?hz ?_; (case ba => exact led_ba N' (by k_mem)); (case bb => exact led_ba N' (by k_mem)); (case hz => walk_at "mine size"); intro h' x' F' N' l1; (try k_lt l1); (try k_sweep); (try dsimp only))))
local macro_rules | `(tactic| walk_at "call type:bytes") => `(tactic| (k_here; (with_reducible show wpAny _ _ (call (Value.type "bytes") [Value.ref _]) _ _ _); (with_reducible rename News _ _ _ _ => N'); (refine' BA.bytes_of ?ba ?hz ?_; (case ba => exact led_ba N' (by k_mem)); (case hz => walk_at "mine size"); intro _ _; (try dsimp only))))
local macro_rules | `(tactic| k_inst) => `(tactic| (refine' Mine.InstAt.of_base ?F ?h1 ?h2; (case F => k_asm); (case h1 => assumption); (case h2 => assumption)))
local macro_rules | `(tactic| walk_at "mine dis") => `(tactic| (repeat' (first | exact List.forall_mem_nil _ | refine List.forall_mem_cons.mpr ⟨?_, ?_⟩ | (refine Or.inr (cls_ne ?_); (simp; done)) | (refine Or.inr (key_ne ?_); exact rfl) | (refine Or.inr (it_ne (by assumption) ?_); (simp; done)) | (refine Or.inr (it_ne' (by assumption) ?_); (simp; done)) | exact .inl (by k_ne))))
local macro_rules | `(tactic| walk_at "mine split2") => `(tactic| (repeat' (first | with_reducible exact Split2.nil | with_reducible exact Split2.all | with_reducible exact Split2.tail rows_off_buf | with_reducible exact Split2.tail rows_off_rs | (with_reducible refine Split2.tail (rowsT_off ?_); (simp; done)) | (with_reducible refine' Split2.drop2 ?h ?_; (case h => with_reducible k_mem)) | (refine' Split2.keep ?a ?_; (case a => walk_at "mine dis")) | refine' Split2.drop ?_ | exact Split2.nil)))
local macro_rules | `(tactic| walk_at "mine conF") => `(tactic| ((case kB => assumption); (case kF => k_asm); (case kX => assumption); (case kT => assumption); (case kN => k_asm); (case kf => exact rfl); (case kk => exact rfl); (case kw => walk_at "mine wr"); (case ks => walk_at "mine split2"); (case kr => walk_at "mine rd"); (case kd => walk_at "mine room"); (case ku => walk_at "mine room")))
local macro_rules | `(tactic| walk_at "mine rd") => `(tactic| first | exact List.forall_mem_nil _ | (refine fun p hp => Or.inl ?_; simp only [List.mem_cons, List.mem_append, rowsL_cons, List.not_mem_nil, or_false, List.append_assoc] at hp ⊢; (repeat' (refine Or.elim hp ?_ ?_ <;> clear hp <;> intro hp)); all_goals (first | walk_at "mine or" | (subst hp; simp; done))))
local macro_rules | `(tactic| walk_at "exec For Name Call cons nil") => `(tactic| (k_here; (rename Fr _ _ _ _ => lF'); (with_unfolding_all refine' For_turns lF' ?_; k_whole)))
local macro_rules | `(tactic| walk_at "exec For Name Name cons nil") => `(tactic| (k_here; (rename Fr _ _ _ _ => lF'); (with_unfolding_all refine' For_turns lF' ?_; k_whole)))
local macro_rules | `(tactic| walk_at "exec For Tuple Call cons nil") => `(tactic| (k_here; (rename Fr _ _ _ _ => lF'); (with_unfolding_all refine' For_turns lF' ?_; k_whole)))
local macro_rules | `(tactic| walk_at "exec For Tuple Subscript cons nil") => `(tactic| (k_here; (rename Fr _ _ _ _ => lF'); (with_unfolding_all refine' For_turns lF' ?_; k_whole)))
local macro_rules | `(tactic| walk_at "call type:enumerate") => `(tactic| (k_here; (with_reducible show wpAny _ _ (call (Value.type _) [Value.ref _]) (fun xv s₁ => wpAny _ _ (pyIter xv) (fun it s₂ => TurnsAt _ _ _ _ _ _ _ _ _ it s₂) _ s₁) _ _); refine halt ?_))
local macro_rules | `(tactic| walk_at "pyIter ref") => `(tactic| (k_here; (with_reducible show wpAny _ _ (pyIter (Value.ref _)) (fun it s₂ => TurnsAt _ _ _ _ _ _ _ _ _ it s₂) _ _); refine halt ?_))
local macro_rules | `(tactic| walk_at "pyIter ref") => `(tactic| (k_here; (with_reducible show wpAny _ _ (pyIter (Value.ref _)) (fun it s₂ => TurnsAt _ _ _ _ _ _ _ _ _ it s₂) _ _); k_dflt (refine' iter_nil ?h ?F ?N ?X ?e ?_; (case h => exact rfl); (case F => k_asm); (case N => k_asm); (case X => k_asm); (case e => k_is); intro h' tk' F' N'; (try k_sweep); (try dsimp only))))
local macro_rules | `(tactic| walk_at "mine or") => `(tactic| first | with_reducible assumption | (with_reducible exact Or.inl (by with_reducible assumption)) | (refine Or.inr ?_; walk_at "mine or"))
local macro_rules | `(tactic| walk_at "mine sub") => `(tactic| (intro p hp; simp only [List.mem_cons, List.mem_append, rowsL_cons, List.not_mem_nil, or_false, List.append_assoc] at hp ⊢; (repeat' (refine Or.elim hp ?_ ?_ <;> clear hp <;> intro hp)); all_goals (first | walk_at "mine or" | (subst hp; simp; done))))
local macro_rules | `(tactic| walk_at "call builtin:list.append") => `(tactic| (k_here; (with_reducible show wpAny _ _ (call (Value.builtin _) [Value.ref _, _]) _ _ _); k_dflt (refine' append_S ?F ?N ?m ?s ?z ?_; (case F => k_asm); (case N => k_asm); (case m => k_mem); (case s => walk_at "mine split2"); (case z => (simp only [List.length_map, List.size_toArray]; omega)); intro h' F' N'; (try k_sweep); (try dsimp only))))
local macro_rules | `(tactic| walk_at "binaryOp FloorDiv int int") => `(tactic| (k_here; (with_reducible show wpAny _ _ (binaryOp _ (Value.int _ _) (Value.int _ _)) _ _ _); (refine' div_lit ?hb ?hp ?_; (case hb => decide); (case hp => exact PyProof.noPylong_of_log2 (by decide +kernel)))))
local macro_rules | `(tactic| walk_at "binaryOp Mod int int") => `(tactic| (k_here; (with_reducible show wpAny _ _ (binaryOp _ (Value.int _ _) (Value.int _ _)) _ _ _); (refine' mod_lit ?hb ?_; (case hb => decide))))
local macro_rules | `(tactic| walk_at "binaryOp Mult int int") => `(tactic| (k_here; (with_reducible show wpAny _ _ (binaryOp _ (Value.int _ _) (Value.int _ _)) _ _ _); (refine' mul_b ?h1 ?h2 ?_; (case h1 => omega); (case h2 => omega))))
local macro_rules | `(tactic| walk_at "mine enterN") => `(tactic| (refine' enterN ?k1 ?k2 ?k3 ?k4 ?k5 ?kd ?k6 ?k7 ?k8 ?k9 ?_ ?c2 ?c3 ?c4 ?c5; (case k1 => assumption); (case k2 => assumption); (case k3 => assumption); (case k4 => assumption); (case k5 => assumption); (case kd => omega); (case k6 => k_is); (case k7 => k_is); (case k8 => first | exact BindsTo.of_eq rfl | exact binds_K (Frag.In.keeps (by assumption) (Kept.keep (by assumption))) rfl (by k_is) rfl rfl rfl | exact binds_K (by k_in) rfl (by k_is) rfl rfl rfl); (case c5 => decide); (case k9 => exact locs rfl); (case c2 => exact rfl); (case c3 => exact rfl); (case c4 => exact rfl); k_whole; intro L' h' F' N' K'; (try dsimp only); (try k_fold)))
local macro_rules | `(tactic| walk_at "subscriptTail") => `(tactic| (k_here; (with_reducible show wpAny _ _ (subscriptTail _ _ (Value.ref _) (Value.int _ _)) _ _ _); (refine' itemTB ?F ?hl ?h0 ?h1 ?hy ?_; (case F => k_asm); (case hl => with_reducible assumption); (case h0 => omega); (case h1 => omega); (case hy => with_reducible assumption); k_whole)))
local macro_rules | `(tactic| walk_at "subscriptTail") => `(tactic| (k_here; (with_reducible show wpAny _ _ (subscriptTail _ _ (Value.ref _) (Value.int (-1) _)) _ _ _); (refine' itemTB_last ?F ?hl ?hi ?h1 ?hy ?_; (case F => k_asm); (case hl => with_reducible assumption); (case hi => rfl); (case h1 => omega); (case hy => with_reducible assumption); k_whole)))
local macro_rules | `(tactic| walk_at "subscriptTail") => `(tactic| (k_here; (with_reducible show wpAny _ _ (subscriptTail _ _ (Value.ref _) (Value.int 0 _)) _ _ _); (refine' tupB0 ?F ?ht ?_; (case F => k_asm); (case ht => with_reducible assumption); k_whole)))
local macro_rules | `(tactic| walk_at "subscriptTail") => `(tactic| (k_here; (with_reducible show wpAny _ _ (subscriptTail _ _ (Value.ref _) (Value.int 1 _)) _ _ _); (refine' tupB1 ?F ?ht ?_; (case F => k_asm); (case ht => with_reducible assumption); k_whole)))
local macro_rules | `(tactic| walk_at "call builtin:len") => `(tactic| (k_here; (with_reducible show wpAny _ _ (call (Value.builtin "len") [Value.ref _]) _ _ _); (refine' lenTB ?F ?hl ?hz ?_; (case F => k_asm); (case hl => assumption); (case hz => omega); intro _ _; (try dsimp only))))
local macro_rules | `(tactic| walk_at "mine noerr") => `(tactic| (rotate_left; (focus (intro e' t' cls' vs' g₂' h' tk' hp' R' F' U'; exact hp'.elim))))
local macro_rules | `(tactic| walk_at "eval ListComp") => `(tactic| (k_here; (with_reducible show wpAny _ _ (eval (Expr.ListComp _ _ _ _) _) _ _ _); refine halt ?_))
local macro_rules | `(tactic| walk_at "compareOp NotEq ref ref") => `(tactic| (k_here; (with_reducible show wpAny _ _ (compareOp _ (Value.ref _) (Value.ref _)) _ _ _); refine halt ?_))
local macro_rules | `(tactic| walk_at "call ref") => `(tactic| (k_here; (k_dflt (show wpAny _ _ (call (Value.ref 340) [Value.ref _]) _ _ _)); k_dflt (refine' ConE.call2 (pull_ok ?hz ?hk ?hp ?hl) ?kB ?kF ?kX ?kT ?kN ?kf ?kk ?kw ?ks ?kr ?kd ?ku ?_ ?_; walk_at "mine conF"; (case hp => assumption); (case hl => assumption); (case hz => omega); (case hk => (simp only [List.size_toArray]; omega)); walk_at "mine noerr"; (intro v' news' h' tk' hp' F' N'; obtain ⟨T', xr', dr', lr', tr', n', rs', t3', td', hrs', hv', hn'⟩ := hp'; subst hv'; subst hn'; dsimp only [bufL, rsL, List.cons_append, List.nil_append] at N'; (try k_sweep); (try dsimp only)))))
theorem pulled_tries {w : World} {mean : ExcName → Option Value} {mg mb : Str → Option Value} {oct : List UInt8} {cut low delay : Int} {k1 kR : Nat} {rws : List TR} {R : Addr} {toc tcu tlo tdl : Tok}
    {dp un : Nat} {gd : Option (List Code)} {ll : List Env} {base g : Heap} {s : Shared} {L : Addr} {m₀ : Str → Option Value} {Q : Flow → Shared → Prop}
    (hl0 : 0 < oct.length) (hl1 : oct.length ≤ 1000) (hcut : ∀ j, j < oct.length → pack (oct.take j) 0 = none) (hpk : pack oct 0 = some (k1, low, pairsT rws, delay)) (hlen : rws.length ≤ 30)
    (B : Below (AX dp un gd ll) base ll g) (X : (hd.heap_39 w.params).In g) (T : Top hd.view_39 LS mean mg mb g) (XB : (hd.heap_39 w.params).In base) (TB : Top hd.view_39 LS mean mg mb base) (D : KtsDicts (ll.filterMap (·.frame)) g)
    (hdp : dp + 60 < recursionLimit) (hun : un + 10 * 60 < cLine) (hbare : AllBare s.gens)
    (F : Fr g L s.heap (fun y => if y = Str.ofString "octets" then some (.bytes oct.toArray toc) else if y = Str.ofString "cut" then some (.int cut tcu) else if y = Str.ofString "low" then some (.int low tlo) else if y = Str.ofString "rows" then some (.ref R) else if y = Str.ofString "delay" then some (.int delay tdl) else m₀ y))
    (N : News g L s.heap ((R, listOf (refsT rws).toArray kR) :: rowsT rws))
    (ret : ∀ h' tk gens', AllBare gens' → base.StaysIn h' → Q (.ret (.bool true)) ⟨h', gens', s.drawn, tk, s.os⟩) :
    wpN (model PG w) ((AX dp un gd ll).deeper (envAt (hd.heap_39 w.params) 392 L)) (execs ((bodyAt (hd.heap_39 w.params) 392).drop 6) (envAt (hd.heap_39 w.params) 392 L)) Q (fun _ _ => False) s := by
  w_on
  obtain ⟨hb, he⟩ := at_of (K := hd.heap_39 w.params) (f := 392) (by k_is)
  rw [hb, he]
  clear hb he
  simp only [List.drop_succ_cons, List.drop_zero]
  obtain ⟨hp, gg, dd, tt, os⟩ := s
  dsimp only at F N hbare ret
  refine wpN_execs_cons (wpN_Try rfl ?_)
  refine wpN_execs_cons (wpN_Assign (wpN_Call ?_))
  repeat' walk_at "mine oneD"
  refine callWithN_KN (K := hd.heap_39 w.params) (by k_is) (wpN_Call ?_)
  repeat' walk_at "mine oneD"
  refine callWithN_KW0 (K := hd.heap_39 w.params) (by k_is) rfl ?_
  repeat' walk_at "mine oneD"
  refine' ConN.call (buffer_data (bs := oct) ?hn) ?kB ?kF ?kX ?kT ?kN ?kf ?kk ?kw ?ks ?kr ?kb ?kd ?ku ?_
  (case kB => assumption); (case kF => k_asm); (case kX => assumption); (case kT => assumption); (case kN => k_asm); (case kf => exact rfl); (case kk => exact rfl); (case kw => walk_at "mine wr"); (case ks => walk_at "mine split2")
  (case kr => exact List.forall_mem_nil _); (case kb => exact hbare); (case kd => walk_at "mine room"); (case ku => walk_at "mine room"); (case hn => omega)
  rintro vb newsb hb2 tkb gensb ⟨xb, db, ob, tb1, tb2, tb3, rfl, rfl⟩ hbare2 F3 N3
  dsimp only [bufL, List.cons_append, List.nil_append] at N3
  refine ⟨X.keeps F3.keep, wpN_of ?_⟩
  rcases Int.lt_or_le low 0 with hlow | hlow
  · refine' ConE.call2 (pull_neg ?hz hpk hlow) ?kB ?kF ?kX ?kT ?kN ?kf ?kk ?kw ?ks ?kr ?kd ?ku ?_ ?_
    (case kB => assumption); (case kF => k_asm); (case kX => assumption); (case kT => assumption); (case kN => k_asm); (case kf => exact rfl); (case kk => exact rfl); (case kw => walk_at "mine wr"); (case ks => walk_at "mine split2")
    (case kr => exact List.forall_mem_nil _); (case kd => walk_at "mine room"); (case ku => walk_at "mine room"); (case hz => omega)
    · intro v' news' h' tk' hp'
      exact hp'.elim
    · intro e t cls vs g₂ h' tk' hc Rz F' U
      subst hc
      obtain ⟨G, g', RN, FG, BG, UG, DG⟩ := raisedSN_of B Rz F' U D
      clear F3 N3 B Rz F' U D X T
      repeat' walk_at "mine oneD"
      (with_reducible rename Below _ _ _ _ => B9)
      (with_reducible rename Fr _ _ _ _ => F9)
      (with_reducible rename Frag.In _ _ => X9)
      (with_reducible rename Top _ _ _ _ _ _ => T9)
      (with_reducible rename KtsDicts _ _ => D9)
      have F10 := fr_pick (x := Str.ofString "octets") (v := .bytes oct.toArray toc) (fr_pick (x := Str.ofString "cut") (v := .int cut tcu) F9 rfl) rfl
      have done := fun tk => pulled_try2 (s := ⟨_, gensb, dd, tk, os⟩) hl0 hl1 hcut B9 X9 T9 XB TB D9 hdp hun hbare2 F10 ret
      obtain ⟨hb, he⟩ := at_of (K := hd.heap_39 w.params) (f := 392) (by k_is)
      rw [hb, he] at done
      simp only [List.drop_succ_cons, List.drop_zero] at done
      exact done _
  · repeat' walk_at "mine oneD"
    (with_reducible rename Fr g L _ _ => F1)
    (with_reducible rename News g L _ _ => N1)
    (with_reducible rename List RG => rs)
    have hrs := ‹pairsOf rs = pairsT rws›
    have hrl : rs.length = rws.length := by
      have := congrArg List.length hrs
      simpa using this
    refine wpN_execs_cons (wpN_of ?_)
    repeat' walk_at "mine oneD"
    refine halt ?_
    refine' ListComp_gen (rs := rs) B F1 X T N1 rfl rfl ?h1 ?h2 ?h3 ?h4 ?hdp ?hun hbare2 ?hsz ?hclos ?hcell ?hkind ?hnames ?hx ?hiter ?helt ?k
    rotate_left 2
    case h1 => k_mem
    case h2 => k_mem
    case h3 => k_mem
    case h4 => walk_at "mine sub"
    case hdp => walk_at "mine room"
    case hun => walk_at "mine room"
    case hsz => omega
    case hclos => rfl
    case hcell => decide
    case hkind => rfl
    case hnames => decide
    case hx => rfl
    case hiter =>
      intro E' Q' hq
      repeat' walk_at "mine oneD"
      exact hq _
    case helt =>
      intro s' C oC m₂ y rest Q' E' hoC hm2 F2 N2 hk
      repeat' walk_at "mine oneD"
      refine hk _ _ _ (by assumption) (by assumption) fun p hp => ?_
      have l1 := ‹C < _ ∧ _›
      rcases List.mem_cons.mp hp with rfl | hp
      · exact Nat.ne_of_lt l1.1
      · exact Nat.ne_of_lt (allLt_mem l1.2.2.2 p hp)
    case k =>
      intro D1 ys tups h1 tk1 gens1 F2 N2 hda hb2
      repeat' walk_at "mine oneD"
      refine halt ?_
      refine rows_ne (p1 := pairsOf rs) (p2 := pairsT rws) (n2 := rowsT rws) (N2 _ (.head _)).1 (fun p hp => (N2 p (.tail _ (List.mem_append_left _ hp))).1) hda (k2 := kR) (zs := refsT rws) (N2 (R, listOf (refsT rws).toArray kR) (by simp)).1 (fun p hp => (N2 p (by simp [hp])).1) (datT rws) ?_ hrs ?_
      · walk_at "mine room"
      repeat' walk_at "mine oneD"
      · exact absurd rfl ‹¬ delay = delay›
      refine wpN_of (wpAny_execs_nil ?_)
      refine wpN_of (wpAny_execs_nil ?_)
      have F10 := fr_pick (x := Str.ofString "octets") (v := .bytes oct.toArray toc) (fr_pick (x := Str.ofString "cut") (v := .int cut tcu) F2 rfl) rfl
      have done := fun tk => pulled_try2 (s := ⟨_, gens1, dd, tk, os⟩) hl0 hl1 hcut B X T XB TB D hdp hun hb2 F10 ret
      obtain ⟨hb, he⟩ := at_of (K := hd.heap_39 w.params) (f := 392) (by k_is)
      rw [hb, he] at done
      simp only [List.drop_succ_cons, List.drop_zero] at done
      exact done _
end Mine
end
section
open PySem PySem.W PyProof.Rows PySem.Calls
set_option maxRecDepth 100000
set_option maxHeartbeats 1000000
namespace Mine
/-- a tuple of three ints in the ledger -/
structure T3 where
  (t : Addr) (a b : Int) (c : Nat) (ta tb tc : Tok)
abbrev trO3 (y : T3) : Addr × Obj := (y.t, tupO [.int y.a y.ta, .int y.b y.tb, .int ((y.c : Nat) : Int) y.tc])
def rows3 (l : List T3) : List (Addr × Obj) := l.map trO3
abbrev refs3 (l : List T3) : List Value := l.map fun y => .ref y.t
abbrev trips (l : List T3) : List (Int × Int × Nat) := l.map fun y => (y.a, y.b, y.c)
theorem mem_rows3 {l : List T3} {y : T3} (h : y ∈ l) : trO3 y ∈ rows3 l := List.mem_map_of_mem h
theorem rows3_cls {l : List T3} {ws : List (Addr × String)} (h : ∀ y ∈ ws, y.2 ≠ "tuple") : ∀ p ∈ rows3 l, ∀ y ∈ ws, p.2.cls ≠ .type y.2 := by
  intro p hp y hy
  obtain ⟨z, _, rfl⟩ := List.mem_map.mp hp
  exact tyne (Ne.symm (h y hy))
section
variable {prog : Program} {w : World} {A : Around} {E : Value → Shared → Prop} {s : Shared} {Q : Value → Shared → Prop} {value slice : PySem.Expr} {u : Tok} {h₀ : Heap} {L D : Addr} {m : Str → Option Value} {l : List T3} {news : List (Addr × Obj)} {k : Nat} {y : T3}
theorem item3_0 (N : News h₀ L s.heap news) (hm : (D, listOf (refs3 l).toArray k) ∈ news) (hy : l[0]? = some y) (hq : Q (.ref y.t) s)
    (hs : subscripted slice false (.ref D) (.int 0 u) = operate [.ref D, .int 0 u] (getItem (.ref D) (.int 0 u)) := by with_unfolding_all rfl) : wpAny (model prog w) A (subscriptTail value slice (.ref D) (.int 0 u)) Q E s :=
  tail_any (list_at N hm).typeIs slot_list_getitem.lookup (wpAny_getItem_list (list_at N hm) (by decide) (by decide) (by simp [hy]) hq) hs
theorem item3_last {i : Int} (N : News h₀ L s.heap news) (hm : (D, listOf (refs3 l).toArray k) ∈ news) (hi : i = -1) (hlen : l.length ≤ 1000000) (hy : l[l.length - 1]? = some y) (hq : Q (.ref y.t) s)
    (hs : subscripted slice false (.ref D) (.int i u) = operate [.ref D, .int i u] (getItem (.ref D) (.int i u)) := by with_unfolding_all rfl) : wpAny (model prog w) A (subscriptTail value slice (.ref D) (.int i u)) Q E s := by
  subst hi
  have hp : 0 < l.length := by
    rcases Nat.eq_zero_or_pos l.length with e | e
    · rw [List.length_eq_zero_iff.mp e] at hy; cases hy
    · exact e
  refine tail_any (list_at N hm).typeIs slot_list_getitem.lookup (wpAny_getItem_list_neg (list_at N hm) (by decide) (by simp; omega) (by decide) ?_ hq) hs
  have e : (-1 + ((refs3 l).toArray.size : Int)).toNat = l.length - 1 := by simp; omega
  rw [e]
  simp [hy]
theorem len3 (N : News h₀ L s.heap news) (hm : (D, listOf (refs3 l).toArray k) ∈ news) (hz : l.length ≤ 1000000) (h : ∀ t k, Q (.int (l.length : Int) t) { s with toks := k }) : wpAny (model prog w) A (call (.builtin "len") [.ref D]) Q E s := by
  have e : (((refs3 l).toArray.size : Nat) : Int) = (l.length : Int) := by simp
  refine call_len_list (list_at N hm) (by rw [e]; omega) ?_
  rw [e]; exact h _ _
theorem slice3 {a : Nat} {lo : Int} {tl : Tok} (F : Fr h₀ L s.heap m) (N : News h₀ L s.heap news) (hm : (D, listOf (refs3 l).toArray k) ∈ news) (hlo : lo = (a : Int)) (ha : a ≤ l.length) (hz : l.length ≤ 1000000)
    (h : ∀ h' x, Fr h₀ L h' m → News h₀ L h' ((x, listOf (refs3 (l.drop a)).toArray 0) :: news) → (∀ p ∈ news, p.1 < x) → Q (.ref x) { s with heap := h' })
    (hs : subscripted slice false (.ref D) (.ref s.heap.objs.size) = operate [.ref s.heap.objs.size, .ref D] (getItem (.ref D) (.ref s.heap.objs.size)) := by with_unfolding_all rfl) :
    wpAny (model prog w) A (subscriptTail value slice (.ref D) (.ref s.heap.objs.size)) Q E { s with heap := s.heap.push { cls := .type "slice", data := .fields #[.int lo tl, .none, .none] } } := by
  subst hlo
  have hl' : (s.heap.push { cls := .type "slice", data := .fields #[.int (a : Int) tl, .none, .none] }).IsList D (refs3 l).toArray := (list_at N hm).push _
  have hp : slicePick (refs3 l).toArray (some (a : Int)) none none = (refs3 (l.drop a)).toArray := by
    rw [slicePick_from _ _ (by simpa using ha)]
    simp [refs3, List.map_drop]
  refine tail_any (T := "list") hl'.typeIs slot_list_getitem.lookup ?_ hs
  refine wpAny_getItem_list_slice (s := { s with heap := s.heap.push { cls := .type "slice", data := .fields #[.int (a : Int) tl, .none, .none] } }) hl' (Heap.IsSliceOf.new _ _ _ _) (.int _ _) .none .none (by simp) ?_ (by rw [List.size_toArray, List.length_map, sizeLine_eq]; omega)
  rw [hp]
  have N1 := News.pushKeep N { cls := .type "slice", data := .fields #[.int (a : Int) tl, .none, .none] }
  have F1 := F.push { cls := .type "slice", data := .fields #[.int (a : Int) tl, .none, .none] }
  exact h _ _ (F1.push _) (News.push F1 N1 _ rfl) (fun p hp => Heap.lt_size (N1 p hp).1)
theorem add_rows {P R : Addr} {n1 n2 : Nat} {v : Value} {vs : List Value} (F : Fr h₀ L s.heap m) (N : News h₀ L s.heap news) (h1 : (P, listOf #[v] n1) ∈ news) (h2 : (R, listOf vs.toArray n2) ∈ news) (hz : vs.length ≤ 1000000)
    (h : ∀ D h', Fr h₀ L h' m → News h₀ L h' ((D, listOf (v :: vs).toArray 0) :: news) → (∀ p ∈ news, p.1 < D) → Q (.ref D) { s with heap := h' }) : wpAny (model prog w) A (binaryOp .Add (.ref P) (.ref R)) Q E s :=
  kmk_add_lit F N (list_at N h1) (list_at N h2) (zs := v :: vs) rfl h (by
    rw [sizeLine_eq]
    show [v].length + vs.length ≤ _
    simp only [List.length_cons, List.length_nil]
    omega)
end
theorem gfr_append : ∀ (a b : List (Int × Int × Nat)), gfr (a ++ b) = gfr a ++ gfr b
  | [], _ => rfl
  | (g, z, l) :: a, b => by
    show vput g l ++ vput z l ++ gfr (a ++ b) = vput g l ++ vput z l ++ gfr a ++ gfr b
    rw [gfr_append a b]
    simp only [List.append_assoc]
theorem grow_snoc : ∀ (tl : List (Int × Int × Nat)) (e : Int) (acc : List (Int × Int)) (g z : Int) (l : Nat),
    grow e (tl ++ [(g, z, l)]) acc = ((grow e tl acc).1 - (g + 2) - z, ((grow e tl acc).1 - (g + 2) - z, (grow e tl acc).1 - (g + 2) + 1) :: (grow e tl acc).2)
  | [], _, _, _, _, _ => rfl
  | (g', z', l') :: tl, e, acc, g, z, l => grow_snoc tl (e - (g' + 2) - z') ((e - (g' + 2) - z', e - (g' + 2) + 1) :: acc) g z l
theorem vput_len (v : Int) (l : Nat) (hl : l ≤ 3) : 1 ≤ (vput v l).length ∧ (vput v l).length ≤ 8 := by
  unfold vput
  split
  · simp [beI_length]
  · split
    · simp [beI_length]
    · split <;> simp [beI_length]
theorem gfr_len : ∀ (tl : List (Int × Int × Nat)), (∀ q ∈ tl, q.2.2 ≤ 3) → (gfr tl).length ≤ 16 * tl.length
  | [], _ => Nat.le_refl _
  | (g, z, l) :: r, h => by
    have h1 := h _ (.head _)
    dsimp only at h1
    have a := vput_len g l h1
    have b := vput_len z l h1
    have ih := gfr_len r fun q hq => h q (.tail _ hq)
    show (vput g l ++ vput z l ++ gfr r).length ≤ 16 * (r.length + 1)
    rw [List.length_append, List.length_append]
    omega
theorem grow_len : ∀ (tl : List (Int × Int × Nat)) (e : Int) (acc : List (Int × Int)), (grow e tl acc).2.length = tl.length + acc.length
  | [], _, _ => by simp [grow]
  | (g, z, l) :: tl, e, acc => by
    show (grow (e - (g + 2) - z) tl ((e - (g + 2) - z, e - (g + 2) + 1) :: acc)).2.length = _
    rw [grow_len tl, List.length_cons, List.length_cons]
    omega
theorem trk3 {st : List Str} {m m₀ : Str → Option Value} {x x' x'' : Str} {v v' v'' : Value} (hx : m x = some v) (hx' : m x' = some v') (hx'' : m x'' = some v'') (ho : ∀ y, (x :: x' :: x'' :: st).contains y = false → m y = m₀ y) : m = fun y => if y = x then some v else if y = x' then some v' else if y = x'' then some v'' else upd st m m₀ y := by
  funext y
  by_cases e : y = x
  · rw [if_pos e, e, hx]
  · rw [if_neg e]
    by_cases e' : y = x'
    · rw [if_pos e', e', hx']
    · rw [if_neg e']
      by_cases e'' : y = x''
      · rw [if_pos e'', e'', hx'']
      · rw [if_neg e'']
        show m y = if st.contains y = true then m y else m₀ y
        cases h : st.contains y with
        | true => simp
        | false =>
          simp only [Bool.false_eq_true, if_false]
          exact ho y (by
            show (x :: x' :: x'' :: st).contains y = false
            rw [List.contains_cons, List.contains_cons, List.contains_cons, h]
            simp [e, e', e''])
theorem pull_start {g h : Heap} {L R T P : Addr} {n k : Nat} {a b : Int} {ta tb : Tok} {trs : List T3} {all : List (Addr × Obj)} (N : News g L h ((R, listOf #[.ref T] n) :: (T, tupO [.int a ta, .int b tb]) :: all)) (hP : (P, listOf (refs3 trs).toArray k) ∈ all) (ht : ∀ p ∈ rows3 trs, p ∈ all) :
    ∃ rws : List TR, pairsT rws = [(a, b)] ∧ News g L h ((R, listOf (refsT rws).toArray n) :: (P, listOf (refs3 trs).toArray k) :: (rowsT rws ++ rows3 trs)) := by
  refine ⟨[⟨T, a, b, ta, tb⟩], rfl, news_sub N fun p hp => ?_⟩
  simp only [rowsT, List.map_cons, List.map_nil, List.mem_cons, List.mem_append, List.not_mem_nil, or_false] at hp
  rcases hp with rfl | rfl | rfl | hp
  · exact .head _
  · exact .tail _ (.tail _ hP)
  · exact .tail _ (.head _)
  · exact .tail _ (.tail _ (ht p hp))
theorem turn3_fin {g h : Heap} {L I x R T P : Addr} {it : Obj} {n k kP : Nat} {a b : Int} {ta tb : Tok} {l trs : List T3} {rws : List TR} {all : List (Addr × Obj)} (N : News g L h all) (hI : (I, it) ∈ all) (hx : (x, listOf (refs3 l).toArray k) ∈ all) (hP : (P, listOf (refs3 trs).toArray kP) ∈ all)
    (hR : (R, listOf (.ref T :: refsT rws).toArray n) ∈ all) (hT : (T, tupO [.int a ta, .int b tb]) ∈ all) (ht : ∀ p ∈ rowsT rws, p ∈ all) (h3 : ∀ p ∈ rows3 trs, p ∈ all) :
    News g L h ([(I, it)] ++ ((x, listOf (refs3 l).toArray k) :: (R, listOf (refsT (⟨T, a, b, ta, tb⟩ :: rws)).toArray n) :: (P, listOf (refs3 trs).toArray kP) :: (rowsT (⟨T, a, b, ta, tb⟩ :: rws) ++ rows3 trs))) := by
  refine news_sub N fun p hp => ?_
  simp only [rowsT, List.map_cons, List.mem_cons, List.mem_append, List.not_mem_nil, or_false] at hp
  rcases hp with rfl | rfl | rfl | rfl | (rfl | hp) | hp
  · exact hI
  · exact hx
  · exact hR
  · exact hP
  · exact hT
  · exact ht p hp
  · exact h3 p hp
end Mine
end
section
open PySem PySem.W PyProof.Rows PySem.Calls
set_option maxRecDepth 100000
set_option maxHeartbeats 1000000
namespace Mine
local macro_rules | `(tactic| walk_at "mine room") => `(tactic| first | (dsimp only; omega) | ((try simp only [depth_mark, depth_under_make, depth_under_kw, depth_in1, depth_deeper, units_deeper, units_in1, units_under_make]); (try dsimp only); omega))
local macro_rules | `(tactic| walk_at "mine one") => `(tactic| (first | (k_unfold; (try dsimp only)) | (k_end; wrow_close) | walk1 | (dsimp only; walk1) | (leave1; walk_say "STEP leave1"; try dsimp only) | (dsimp only; k_unfold; (try dsimp only)) | (dsimp only [StepO]; k_unfold; (try dsimp only)) | fail "no step"))
local macro_rules | `(tactic| walk_at "mine enter") => `(tactic| (refine' enter ?k1 ?k2 ?k3 ?k4 ?k5 ?kd ?k6 ?k7 ?k8 ?k9 ?_ ?c2 ?c3 ?c4 ?c5; (case k1 => assumption); (case k2 => assumption); (case k3 => assumption); (case k4 => assumption); (case k5 => assumption); (case kd => omega); (case k6 => k_is); (case k7 => k_is); (case k8 => first | exact BindsTo.of_eq rfl | exact binds_K (Frag.In.keeps (by assumption) (Kept.keep (by assumption))) rfl (by k_is) rfl rfl rfl | exact binds_K (by k_in) rfl (by k_is) rfl rfl rfl); (case c5 => decide); (case k9 => exact locs rfl); (case c2 => exact rfl); (case c3 => exact rfl); (case c4 => exact rfl); k_whole; intro L' h' F' N' K'; (try dsimp only); (try k_fold)))
local macro_rules | `(tactic| walk_at "mine wr") => `(tactic| ((repeat (refine List.forall_mem_cons.mpr ⟨?_, ?_⟩; (· k_mem))); exact List.forall_mem_nil _))
local macro_rules | `(tactic| walk_at "mine split") => `(tactic| (repeat' (first | exact Split.nil | (refine' Split.keep ?a ?_; (case a => k_all)) | refine' Split.drop ?_)))
local macro_rules | `(tactic| walk_at "mine con") => `(tactic| ((case kB => assumption); (case kF => k_asm); (case kX => assumption); (case kT => assumption); (case kN => k_asm); (case kf => exact rfl); (case kk => exact rfl); (case kw => walk_at "mine wr"); (case ks => walk_at "mine split"); (case kd => walk_at "mine room"); (case ku => walk_at "mine room")))
local macro_rules | `(tactic| walk_at "mine conE") => `(tactic| ((case kB => assumption); (case kF => k_asm); (case kX => assumption); (case kT => assumption); (case kN => k_asm); (case kf => exact rfl); (case kk => exact rfl); (case kw => walk_at "mine wr"); (case ks => walk_at "mine split"); (case kd => walk_at "mine room"); (case ku => walk_at "mine room")))
local macro_rules | `(tactic| k_room) => `(tactic| ((try simp only [depth_mark, depth_under_make, depth_under_kw, depth_in1, depth_deeper, depth_caller]); (try dsimp only); omega))
local macro_rules | `(tactic| walk_at "mine map") => `(tactic| (refine' map_off _ ?hs ?a; (case a => (intro y hy; (have nn : ∀ z, _ = true → y ≠ z := fun z hz e => by subst e; exact absurd (hz.symm.trans hy) (by decide)); (try dsimp only); (repeat rw [if_neg (nn _ (by decide))]); first | done | exact rfl)); (case hs => decide)))
local macro_rules | `(tactic| walk_at "mine oneD") => `(tactic| (first | (k_unfold; (try dsimp only)) | (k_end; wrow_close) | (walk1; (try dsimp only [List.cons_append, List.nil_append])) | (dsimp only; walk1) | (leave1; walk_say "STEP leave1"; try dsimp only) | (dsimp only; k_unfold; (try dsimp only)) | (dsimp only [StepO]; k_unfold; (try dsimp only)) | fail "no step"))
local macro_rules | `(tactic| walk_at "mine size") => `(tactic| ((try simp only [Array.size_append]); refine Nat.le_trans (by first | exact Nat.add_le_add (Nat.add_le_add (KBc.size_picked_le _ _ _) (Nat.le_refl _)) (KBc.size_picked_le _ _ _) | exact Nat.add_le_add (KBc.size_picked_le _ _ _) (Nat.le_refl _) | exact KBc.size_picked_le _ _ _) ?_; simp only [List.size_toArray, List.length_append]; omega))
local macro_rules | `(tactic| walk_at "call builtin:len") => `(tactic| (k_here; (with_reducible show wpAny _ _ (call (Value.builtin "len") [Value.ref _]) _ _ _); (with_reducible rename News _ _ _ _ => N'); (first | (refine' len_app ?ba ?hz ?_; (case ba => exact led_ba N' (by k_mem)); (case hz => omega); k_whole) | (refine' len_bs ?ba ?hz ?_; (case ba => exact led_ba N' (by k_mem)); (case hz => omega); k_whole))))
local macro_rules | `(tactic| walk_at "subscriptTail") => `(tactic| (k_here; (with_reducible show wpAny _ _ (subscriptTail _ (Expr.Slice _ _ none _) (Value.ref _) (Value.ref _)) _ _ _); (with_reducible rename Fr _ _ _ _ => F'); (with_reducible rename News _ _ _ _ => N'); (refine' BA.slice_N (s := ⟨_, _, _, _, _⟩) F' N' ?ba (by constructor) (by constructor) ?hz ?_; (case ba => exact led_ba N' (by k_mem)); (case hz => walk_at "mine size"); intro h' x' F' N' l1; (try k_lt l1); (try k_sweep); (try dsimp only))))
local macro_rules | `(tactic| walk_at "binaryOp Add") => `(tactic| (k_here; (with_reducible show wpAny _ _ (binaryOp _ (Value.ref _) (Value.bytes _ _)) _ _ _); (with_reducible rename Fr _ _ _ _ => F'); (with_reducible rename News _ _ _ _ => N'); (refine' BA.add_b F' N' ?ba ?hz ?_; (case ba => exact led_ba N' (by k_mem)); (case hz => walk_at "mine size"); intro h' x' F' N' l1; (try k_lt l1); (try k_sweep); (try dsimp only))))
local macro_rules | `(tactic| walk_at "binaryOp Add") => `(tactic| (k_here; (with_reducible show wpAny _ _ (binaryOp _ (Value.ref _) (Value.ref _)) _ _ _); (with_reducible rename Fr _ _ _ _ => F'); (with_reducible rename News _ _ _ _ => N'); (refine' BA.add_ba F' N' ?ba ?bb ?hz ?_; (case ba => exact led_ba N' (by k_mem)); (case bb => exact led_ba N' (by k_mem)); (case hz => walk_at "mine size"); intro h' x' F' N' l1; (try k_lt l1); (try k_sweep); (try dsimp only))))
local macro_rules | `(tactic| walk_at "call type:bytes") => `(tactic| (k_here; (with_reducible show wpAny _ _ (call (Value.type "bytes") [Value.ref _]) _ _ _); (with_reducible rename News _ _ _ _ => N'); (refine' BA.bytes_of ?ba ?hz ?_; (case ba => exact led_ba N' (by k_mem)); (case hz => walk_at "mine size"); intro _ _; (try dsimp only))))
local macro_rules | `(tactic| k_inst) => `(tactic| (refine' Mine.InstAt.of_base ?F ?h1 ?h2; (case F => k_asm); (case h1 => assumption); (case h2 => assumption)))
local macro_rules | `(tactic| walk_at "mine dis") => `(tactic| (repeat' (first | exact List.forall_mem_nil _ | refine List.forall_mem_cons.mpr ⟨?_, ?_⟩ | (refine Or.inr (cls_ne ?_); (simp; done)) | (refine Or.inr (key_ne ?_); exact rfl) | (refine Or.inr (it_ne (by assumption) ?_); (simp; done)) | (refine Or.inr (it_ne' (by assumption) ?_); (simp; done)) | exact .inl (by k_ne))))
local macro_rules | `(tactic| walk_at "mine split2") => `(tactic| (repeat' (first | with_reducible exact Split2.nil | with_reducible exact Split2.all | with_reducible exact Split2.tail rows_off_buf | with_reducible exact Split2.tail rows_off_rs | (with_reducible refine Split2.tail (rowsT_off ?_); (simp; done)) | (with_reducible refine' Split2.drop2 ?h ?_; (case h => with_reducible k_mem)) | (refine' Split2.keep ?a ?_; (case a => walk_at "mine dis")) | refine' Split2.drop ?_ | exact Split2.nil)))
local macro_rules | `(tactic| walk_at "mine conF") => `(tactic| ((case kB => assumption); (case kF => k_asm); (case kX => assumption); (case kT => assumption); (case kN => k_asm); (case kf => exact rfl); (case kk => exact rfl); (case kw => walk_at "mine wr"); (case ks => walk_at "mine split2"); (case kr => walk_at "mine rd"); (case kd => walk_at "mine room"); (case ku => walk_at "mine room")))
local macro_rules | `(tactic| walk_at "mine rd") => `(tactic| first | exact List.forall_mem_nil _ | (refine fun p hp => Or.inl ?_; simp only [List.mem_cons, List.mem_append, rowsL_cons, List.not_mem_nil, or_false, List.append_assoc] at hp ⊢; (repeat' (refine Or.elim hp ?_ ?_ <;> clear hp <;> intro hp)); all_goals (first | walk_at "mine or" | (subst hp; simp; done))))
local macro_rules | `(tactic| walk_at "exec For Name Call cons nil") => `(tactic| (k_here; (rename Fr _ _ _ _ => lF'); (with_unfolding_all refine' For_turns lF' ?_; k_whole)))
local macro_rules | `(tactic| walk_at "exec For Name Name cons nil") => `(tactic| (k_here; (rename Fr _ _ _ _ => lF'); (with_unfolding_all refine' For_turns lF' ?_; k_whole)))
local macro_rules | `(tactic| walk_at "exec For Tuple Call cons nil") => `(tactic| (k_here; (rename Fr _ _ _ _ => lF'); (with_unfolding_all refine' For_turns lF' ?_; k_whole)))
local macro_rules | `(tactic| walk_at "exec For Tuple Subscript cons nil") => `(tactic| (k_here; (rename Fr _ _ _ _ => lF'); (with_unfolding_all refine' For_turns lF' ?_; k_whole)))
local macro_rules | `(tactic| walk_at "call type:enumerate") => `(tactic| (k_here; (with_reducible show wpAny _ _ (call (Value.type _) [Value.ref _]) (fun xv s₁ => wpAny _ _ (pyIter xv) (fun it s₂ => TurnsAt _ _ _ _ _ _ _ _ _ it s₂) _ s₁) _ _); refine halt ?_))
local macro_rules | `(tactic| walk_at "pyIter ref") => `(tactic| (k_here; (with_reducible show wpAny _ _ (pyIter (Value.ref _)) (fun it s₂ => TurnsAt _ _ _ _ _ _ _ _ _ it s₂) _ _); refine halt ?_))
local macro_rules | `(tactic| walk_at "pyIter ref") => `(tactic| (k_here; (with_reducible show wpAny _ _ (pyIter (Value.ref _)) (fun it s₂ => TurnsAt _ _ _ _ _ _ _ _ _ it s₂) _ _); k_dflt (refine' iter_nil ?h ?F ?N ?X ?e ?_; (case h => exact rfl); (case F => k_asm); (case N => k_asm); (case X => k_asm); (case e => k_is); intro h' tk' F' N'; (try k_sweep); (try dsimp only))))
local macro_rules | `(tactic| walk_at "mine or") => `(tactic| first | with_reducible assumption | (with_reducible exact Or.inl (by with_reducible assumption)) | (refine Or.inr ?_; walk_at "mine or"))
local macro_rules | `(tactic| walk_at "mine sub") => `(tactic| (intro p hp; simp only [List.mem_cons, List.mem_append, rowsL_cons, List.not_mem_nil, or_false, List.append_assoc] at hp ⊢; (repeat' (refine Or.elim hp ?_ ?_ <;> clear hp <;> intro hp)); all_goals (first | walk_at "mine or" | (subst hp; simp; done))))
local macro_rules | `(tactic| walk_at "call builtin:list.append") => `(tactic| (k_here; (with_reducible show wpAny _ _ (call (Value.builtin _) [Value.ref _, _]) _ _ _); k_dflt (refine' append_S ?F ?N ?m ?s ?z ?_; (case F => k_asm); (case N => k_asm); (case m => k_mem); (case s => walk_at "mine split2"); (case z => (simp only [List.length_map, List.size_toArray]; omega)); intro h' F' N'; (try k_sweep); (try dsimp only))))
local macro_rules | `(tactic| walk_at "binaryOp FloorDiv int int") => `(tactic| (k_here; (with_reducible show wpAny _ _ (binaryOp _ (Value.int _ _) (Value.int _ _)) _ _ _); (refine' div_lit ?hb ?hp ?_; (case hb => decide); (case hp => exact PyProof.noPylong_of_log2 (by decide +kernel)))))
local macro_rules | `(tactic| walk_at "binaryOp Mod int int") => `(tactic| (k_here; (with_reducible show wpAny _ _ (binaryOp _ (Value.int _ _) (Value.int _ _)) _ _ _); (refine' mod_lit ?hb ?_; (case hb => decide))))
local macro_rules | `(tactic| walk_at "binaryOp Mult int int") => `(tactic| (k_here; (with_reducible show wpAny _ _ (binaryOp _ (Value.int _ _) (Value.int _ _)) _ _ _); (refine' mul_b ?h1 ?h2 ?_; (case h1 => omega); (case h2 => omega))))
local macro_rules | `(tactic| walk_at "mine enterN") => `(tactic| (refine' enterN ?k1 ?k2 ?k3 ?k4 ?k5 ?kd ?k6 ?k7 ?k8 ?k9 ?_ ?c2 ?c3 ?c4 ?c5; (case k1 => assumption); (case k2 => assumption); (case k3 => assumption); (case k4 => assumption); (case k5 => assumption); (case kd => omega); (case k6 => k_is); (case k7 => k_is); (case k8 => first | exact BindsTo.of_eq rfl | exact binds_K (Frag.In.keeps (by assumption) (Kept.keep (by assumption))) rfl (by k_is) rfl rfl rfl | exact binds_K (by k_in) rfl (by k_is) rfl rfl rfl); (case c5 => decide); (case k9 => exact locs rfl); (case c2 => exact rfl); (case c3 => exact rfl); (case c4 => exact rfl); k_whole; intro L' h' F' N' K'; (try dsimp only); (try k_fold)))
local macro_rules | `(tactic| walk_at "subscriptTail") => `(tactic| (k_here; (with_reducible show wpAny _ _ (subscriptTail _ _ (Value.ref _) (Value.int _ _)) _ _ _); (refine' itemTB ?F ?hl ?h0 ?h1 ?hy ?_; (case F => k_asm); (case hl => with_reducible assumption); (case h0 => omega); (case h1 => omega); (case hy => with_reducible assumption); k_whole)))
local macro_rules | `(tactic| walk_at "subscriptTail") => `(tactic| (k_here; (with_reducible show wpAny _ _ (subscriptTail _ _ (Value.ref _) (Value.int (-1) _)) _ _ _); (refine' itemTB_last ?F ?hl ?hi ?h1 ?hy ?_; (case F => k_asm); (case hl => with_reducible assumption); (case hi => rfl); (case h1 => omega); (case hy => with_reducible assumption); k_whole)))
local macro_rules | `(tactic| walk_at "subscriptTail") => `(tactic| (k_here; (with_reducible show wpAny _ _ (subscriptTail _ _ (Value.ref _) (Value.int 0 _)) _ _ _); (refine' tupB0 ?F ?ht ?_; (case F => k_asm); (case ht => with_reducible assumption); k_whole)))
local macro_rules | `(tactic| walk_at "subscriptTail") => `(tactic| (k_here; (with_reducible show wpAny _ _ (subscriptTail _ _ (Value.ref _) (Value.int 1 _)) _ _ _); (refine' tupB1 ?F ?ht ?_; (case F => k_asm); (case ht => with_reducible assumption); k_whole)))
local macro_rules | `(tactic| walk_at "call builtin:len") => `(tactic| (k_here; (with_reducible show wpAny _ _ (call (Value.builtin "len") [Value.ref _]) _ _ _); (refine' lenTB ?F ?hl ?hz ?_; (case F => k_asm); (case hl => assumption); (case hz => omega); intro _ _; (try dsimp only))))
local macro_rules | `(tactic| walk_at "mine noerr") => `(tactic| (rotate_left; (focus (intro e' t' cls' vs' g₂' h' tk' hp' R' F' U'; exact hp'.elim))))
local macro_rules | `(tactic| walk_at "binaryOp Add") => `(tactic| (k_here; (with_reducible show wpAny _ _ (binaryOp _ (Value.bytes (List.toArray _) _) (Value.bytes (List.toArray _) _)) _ _ _); (refine' add_bytesL ?hz ?_; (case hz => ((try simp only [List.length_append]); omega)); intro _ _; (try dsimp only))))
local macro_rules | `(tactic| walk_at "mine mem3") => `(tactic| first | exact List.Mem.head _ | assumption | (refine' List.Mem.tail _ ?_; walk_at "mine mem3"))
local macro_rules | `(tactic| walk_at "call builtin:len") => `(tactic| (k_here; (with_reducible show wpAny _ _ (call (Value.builtin "len") [Value.ref _]) _ _ _); (refine' len3 ?N ?hm ?hz ?_; (case N => k_asm); (case hm => k_mem); (case hz => omega); intro _ _; (try dsimp only))))
local macro_rules | `(tactic| walk_at "subscriptTail") => `(tactic| (k_here; (with_reducible show wpAny _ _ (subscriptTail _ _ (Value.ref _) (Value.int (-1) _)) _ _ _); (refine' item3_last ?N ?hm ?hi ?hz ?hy ?_; (case N => k_asm); (case hm => k_mem); (case hi => rfl); (case hz => omega); (case hy => with_reducible assumption); k_whole)))
local macro_rules | `(tactic| walk_at "subscriptTail") => `(tactic| (k_here; (with_reducible show wpAny _ _ (subscriptTail _ _ (Value.ref _) (Value.int 0 _)) _ _ _); (refine' item3_0 ?N ?hm ?hy ?_; (case N => k_asm); (case hm => k_mem); (case hy => with_reducible assumption); k_whole)))
local macro_rules | `(tactic| walk_at "subscriptTail") => `(tactic| (k_here; (with_reducible show wpAny _ _ (subscriptTail _ (Expr.Slice _ none none _) (Value.ref _) (Value.ref _)) _ _ _); (with_reducible rename Fr _ _ _ _ => F'); (with_reducible rename News _ _ _ _ => N'); (refine' slice3 (a := 1) (s := ⟨_, _, _, _, _⟩) F' N' ?hm ?lo ?ha ?hz ?_; (case hm => k_mem); (case lo => rfl); (case ha => omega); (case hz => omega); intro h' x' F' N' l1; (try k_lt l1); (try k_sweep); (try dsimp only))))
local macro_rules | `(tactic| walk_at "call ref") => `(tactic| (k_here; (k_dflt (show wpAny _ _ (call (Value.ref 368) [Value.int _ _, Value.int ((_ : Nat) : Int) _]) _ _ _)); k_dflt (refine' ConE.call2 (Con.toE (law_put ?h0 ?h1 ?hl)) ?kB ?kF ?kX ?kT ?kN ?kf ?kk ?kw ?ks ?kr ?kd ?ku ?_ ?_; walk_at "mine conF"; (case h0 => omega); (case h1 => omega); (case hl => omega); walk_at "mine noerr"; (intro v' news' h' tk' hp' F' N'; obtain ⟨⟨t', hv'⟩, hn'⟩ := hp'; subst hv'; subst hn'; dsimp only [List.nil_append] at N'; (try k_sweep); (try dsimp only)))))
local macro_rules | `(tactic| walk_at "binaryOp Add ref ref") => `(tactic| (k_here; (with_reducible show wpAny _ _ (binaryOp _ (Value.ref _) (Value.ref _)) _ _ _); (with_reducible rename Fr _ _ _ _ => F'); (with_reducible rename News _ _ _ _ => N'); (refine' add_rows F' N' ?h1 ?h2 ?hz ?_; (case h1 => k_mem); (case h2 => k_mem); (case hz => ((try simp only [List.length_map]); omega)); intro D' h' F' N' l1; (try k_lt l1); (try k_sweep); (try dsimp only))))
theorem pulled_loop {w : World} {mean : ExcName → Option Value} {mg mb : Str → Option Value} {cut greatest delay z0 : Int} {l0 ld : Nat} {trs : List T3} {P R0 : Addr} {kP kR0 : Nat} {tcu tdl toc0 tlo0 : Tok} {rws0 : List TR}
    {dp un : Nat} {gd : Option (List Code)} {ll : List Env} {base g : Heap} {s : Shared} {L : Addr} {m₀ : Str → Option Value} {Q : Flow → Shared → Prop}
    (hg0 : 0 ≤ greatest) (hg1 : greatest < 4611686018427387904) (hd0 : 0 ≤ delay) (hd1 : delay < 4611686018427387904) (hlen : trs.length ≤ 24) (hlen0 : 1 ≤ trs.length) (hz0 : 0 ≤ z0) (hz1 : z0 ≤ 1000) (hl0 : l0 ≤ 3) (hld : ld ≤ 3)
    (hok : ∀ y ∈ trs, 0 ≤ y.a ∧ y.a ≤ 1000 ∧ 0 ≤ y.b ∧ y.b ≤ 1000 ∧ y.c ≤ 3) (hrw0 : pairsT rws0 = [(greatest - z0, greatest + 1)])
    (B : Below (AX dp un gd ll) base ll g) (X : (hd.heap_39 w.params).In g) (T : Top hd.view_39 LS mean mg mb g) (XB : (hd.heap_39 w.params).In base) (TB : Top hd.view_39 LS mean mg mb base) (D : KtsDicts (ll.filterMap (·.frame)) g)
    (hdp : dp + 60 < recursionLimit) (hun : un + 10 * 60 < cLine) (hbare : AllBare s.gens)
    (F : Fr g L s.heap (fun y => if y = Str.ofString "rows" then some (.ref R0) else if y = Str.ofString "low" then some (.int (greatest - z0) tlo0) else if y = Str.ofString "octets" then some (.bytes (vput greatest l0 ++ vput delay ld ++ vput ((trs.length : Int) - 1) l0 ++ vput z0 l0).toArray toc0) else
      if y = Str.ofString "pairs" then some (.ref P) else if y = Str.ofString "delay" then some (.int delay tdl) else if y = Str.ofString "cut" then some (.int cut tcu) else m₀ y))
    (N : News g L s.heap ((R0, listOf (refsT rws0).toArray kR0) :: (P, listOf (refs3 trs).toArray kP) :: (rowsT rws0 ++ rows3 trs)))
    (ret : ∀ h' tk gens', AllBare gens' → base.StaysIn h' → Q (.ret (.bool true)) ⟨h', gens', s.drawn, tk, s.os⟩) :
    wpN (model PG w) ((AX dp un gd ll).deeper (envAt (hd.heap_39 w.params) 392 L)) (execs ((bodyAt (hd.heap_39 w.params) 392).drop 5) (envAt (hd.heap_39 w.params) 392 L)) Q (fun _ _ => False) s := by
  w_on
  obtain ⟨hb, he⟩ := at_of (K := hd.heap_39 w.params) (f := 392) (by k_is)
  rw [hb, he]
  clear hb he
  simp only [List.drop_succ_cons, List.drop_zero]
  obtain ⟨hp, gg, dd, tt, os⟩ := s
  dsimp only at F N hbare ret
  have v1 := vput_len greatest l0 hl0
  have v2 := vput_len delay ld hld
  have v3 := vput_len ((trs.length : Int) - 1) l0 hl0
  have v4 := vput_len z0 l0 hl0
  obtain ⟨A, hA⟩ : ∃ A, A = vput greatest l0 ++ vput delay ld ++ vput ((trs.length : Int) - 1) l0 ++ vput z0 l0 := ⟨_, rfl⟩
  rw [← hA] at F
  have hAl : A.length ≤ 32 := by rw [hA]; simp only [List.length_append]; omega
  have hAp : 1 ≤ A.length := by rw [hA]; simp only [List.length_append]; omega
  clear v1 v2 v3 v4
  refine wpN_execs_cons (wpN_of ?_)
  repeat' walk_at "mine oneD"
  (with_reducible rename Fr g _ _ _ => F1)
  (with_reducible rename News g _ _ _ => N1)
  obtain ⟨m₁, hm₁⟩ := fr_map F1
  obtain ⟨tl, htl⟩ : ∃ tl, tl = trips (trs.drop 1) := ⟨_, rfl⟩
  have htll : tl.length = trs.length - 1 := by rw [htl, List.length_map, List.length_drop]
  have hokd : ∀ y ∈ trs.drop 1, 0 ≤ y.a ∧ y.a ≤ 1000 ∧ 0 ≤ y.b ∧ y.b ≤ 1000 ∧ y.c ≤ 3 := fun y hy => hok y (List.mem_of_mem_drop hy)
  have hok3 : ∀ q ∈ tl, 0 ≤ q.1 ∧ q.1 ≤ 1000 ∧ 0 ≤ q.2.1 ∧ q.2.1 ≤ 1000 ∧ q.2.2 ≤ 3 := fun q hq => by
    rw [htl] at hq
    obtain ⟨y, hy, rfl⟩ := List.mem_map.mp hq
    exact hokd y hy
  (rename Addr => x)
  refine list_J (vs := refs3 (trs.drop 1)) (keep := [(x, listOf (refs3 (trs.drop 1)).toArray 0)]) (fun i m nx => ∃ oct lo rws R kR toc tlo, m (Str.ofString "octets") = some (.bytes oct.toArray toc) ∧ m (Str.ofString "low") = some (.int lo tlo) ∧ m (Str.ofString "rows") = some (.ref R) ∧
      (∀ y, [Str.ofString "octets", Str.ofString "low", Str.ofString "rows", Str.ofString "gap", Str.ofString "size", Str.ofString "least", Str.ofString "end"].contains y = false → m y = m₁ y) ∧
      nx = (x, listOf (refs3 (trs.drop 1)).toArray 0) :: (R, listOf (refsT rws).toArray kR) :: (P, listOf (refs3 trs).toArray kP) :: (rowsT rws ++ rows3 trs) ∧ oct = A ++ gfr (tl.take i) ∧ lo = (grow (greatest - z0) (tl.take i) [(greatest - z0, greatest + 1)]).1 ∧ pairsT rws = (grow (greatest - z0) (tl.take i) [(greatest - z0, greatest + 1)]).2)
    rfl F1 N1 (list_at N1 (.head _)) (.inl ⟨_, .head _⟩) ?hk ?h0 ?turn ?done
  case hk =>
    rintro i m nx ⟨oct, lo, rws, R, kR, toc, tlo, _, _, _, _, rfl, _⟩ p hp
    rw [List.mem_singleton.mp hp]
    exact .head _
  case h0 => exact ⟨A, greatest - z0, rws0, R0, kR0, _, _, rfl, rfl, rfl, fun y _ => by rw [hm₁], rfl, by simp [gfr], rfl, hrw0⟩
  case turn =>
    rintro i v m₂ news₁ h₁ tk₁ I it hv ⟨oct, lo, rws, R, kR, toc, tlo, hmo, hml, hmr, hm, rfl, hoct, hlo, hrw⟩ hc F2 N2
    rw [trk3 (st := [Str.ofString "gap", Str.ofString "size", Str.ofString "least", Str.ofString "end"]) hmo hml hmr hm] at F2
    subst hm₁
    clear F1 N1
    obtain ⟨y, hy, rfl⟩ : ∃ y, (trs.drop 1)[i]? = some y ∧ v = .ref y.t := by
      rw [List.getElem?_map] at hv
      cases e : (trs.drop 1)[i]? with
      | none => rw [e] at hv; cases hv
      | some y => rw [e] at hv; exact ⟨y, rfl, (Option.some.inj hv).symm⟩
    have hyt : y ∈ trs := List.mem_of_mem_drop (List.mem_of_getElem? hy)
    obtain ⟨o1, o2, o3, o4, o5⟩ := hok y hyt
    have hi : i < tl.length := by
      rcases Nat.lt_or_ge i (trs.drop 1).length with q | q
      · rw [htl, List.length_map]; exact q
      · rw [List.getElem?_eq_none q] at hy; cases hy
    have hyl : tl[i]? = some (y.a, y.b, y.c) := by rw [htl, List.getElem?_map, hy]; rfl
    have htk : tl.take (i + 1) = tl.take i ++ [(y.a, y.b, y.c)] := by rw [List.take_succ, hyl]; rfl
    have hol : oct.length ≤ 32 + 16 * 24 := by
      have := gfr_len (tl.take i) fun q hq => (hok3 q (List.mem_of_mem_take hq)).2.2.2.2
      rw [hoct, List.length_append]
      rw [List.length_take] at this
      omega
    have hrl : rws.length ≤ 30 := by
      have := congrArg List.length hrw
      rw [grow_len, List.length_map, List.length_take] at this
      simp only [List.length_cons, List.length_nil] at this
      omega
    have v1 := vput_len y.a y.c o5
    have v2 := vput_len y.b y.c o5
    replace N2 : News g L h₁ (trO3 y :: (I, it) :: (x, listOf (refs3 (trs.drop 1)).toArray 0) :: (R, listOf (refsT rws).toArray kR) :: (P, listOf (refs3 trs).toArray kP) :: (rowsT rws ++ rows3 trs)) := news_sub N2 fun p hp => by
      rcases List.mem_cons.mp hp with rfl | hp
      · exact .tail _ (.tail _ (.tail _ (.tail _ (List.mem_append_right _ (mem_rows3 hyt)))))
      · exact hp
    repeat' walk_at "mine oneD"
    (with_reducible rename Fr g _ _ _ => F3)
    (with_reducible rename News g _ _ _ => N3)
    have N4 := turn3_fin (I := I) (x := x) (P := P) (trs := trs) (rws := rws) N3 (by k_mem) (by k_mem) (by k_mem) (.head _) (by k_mem) (by walk_at "mine sub") (by walk_at "mine sub")
    refine StepO.go (.inl rfl) F3 N4 (List.forall_mem_cons.mpr ⟨by simp, List.forall_mem_cons.mpr ⟨by simp, List.forall_mem_cons.mpr ⟨by simp, all_app (rowsT_cls (by simp)) (rows3_cls (by simp))⟩⟩⟩) ⟨_, _, _, _, _, _, _, rfl, rfl, rfl, ?_, rfl, ?_, ?_, ?_⟩
    · walk_at "mine map"
    · rw [htk, gfr_append, hoct]
      simp [gfr]
    · rw [htk, grow_snoc]
      dsimp only
      rw [← hlo]
      omega
    · rw [htk, grow_snoc, ← hlo, ← hrw]
      show (lo - y.a - 2 - y.b, lo - y.a - 2 + 1) :: pairsT rws = (lo - (y.a + 2) - y.b, lo - (y.a + 2) + 1) :: pairsT rws
      rw [show lo - y.a - 2 = lo - (y.a + 2) from by omega]
  case done =>
    rintro h' tk m₂ news₁ F2 N2 ⟨oct, lo, rws, R, kR, toc, tlo, hmo, hml, hmr, hm, rfl, hoct, hlo, hrw⟩
    rw [trk3 (st := [Str.ofString "gap", Str.ofString "size", Str.ofString "least", Str.ofString "end"]) hmo hml hmr hm] at F2
    subst hm₁
    clear F1 N1
    dsimp only
    have e1 : tl.take (refs3 (trs.drop 1)).length = tl := List.take_of_length_le (by rw [htl, List.length_map, List.length_map]; exact Nat.le_refl _)
    rw [e1] at hoct hlo hrw
    have hfr : oct = gframe greatest delay l0 ld z0 tl := by
      rw [hoct, hA]
      unfold gframe
      rw [show ((tl.length : Nat) : Int) = (trs.length : Int) - 1 from by omega]
    have hokG : OkG tl := fun q hq => by
      have := hok3 q hq
      refine ⟨this.1, by omega, this.2.2.1, by omega, this.2.2.2.2⟩
    have hpk := pack_gframe [] [] (e := greatest) (dl := delay) (z := z0) (l0 := l0) (ld := ld) (tl := tl) hg0 hg1 hd0 hd1 hz0 (by omega) hl0 hld (by omega) hokG
    simp only [List.nil_append, List.append_nil, List.length_nil, Nat.zero_add] at hpk
    rw [← hfr, ← hlo, ← hrw] at hpk
    have hcut : ∀ j, j < oct.length → pack (oct.take j) 0 = none := fun j hj => by
      rw [hfr] at hj ⊢
      exact pack_cut hg0 hg1 hd0 hd1 hz0 (by omega) hl0 hld (by omega) hokG j hj
    have hol := gfr_len tl fun q hq => (hok3 q hq).2.2.2.2
    have hoc : oct.length = A.length + (gfr tl).length := by rw [hoct, List.length_append]
    have hrl : rws.length ≤ 30 := by
      have := congrArg List.length hrw
      rw [grow_len, List.length_map] at this
      simp only [List.length_cons, List.length_nil] at this
      omega
    have N3 : News g L h' ((R, listOf (refsT rws).toArray kR) :: rowsT rws) := news_sub N2 fun p hp => by
      rcases List.mem_cons.mp hp with rfl | hp
      · exact .tail _ (.head _)
      · exact .tail _ (.tail _ (.tail _ (List.mem_append_left _ hp)))
    have F3 := fr_pick (x := Str.ofString "octets") (v := .bytes oct.toArray toc) (fr_pick (x := Str.ofString "cut") (v := .int cut tcu) (fr_pick (x := Str.ofString "low") (v := .int lo tlo) (fr_pick (x := Str.ofString "rows") (v := .ref R) (fr_pick (x := Str.ofString "delay") (v := .int delay tdl) F2 rfl) rfl) rfl) rfl) rfl
    have done := fun tk => pulled_tries (s := ⟨_, gg, dd, tk, os⟩) (by omega) (by omega) hcut hpk hrl B X T XB TB D hdp hun hbare F3 N3 ret
    obtain ⟨hb, he⟩ := at_of (K := hd.heap_39 w.params) (f := 392) (by k_is)
    rw [hb, he] at done
    simp only [List.drop_succ_cons, List.drop_zero] at done
    exact done _
end Mine
end
section
open PySem PySem.W PyProof.Rows PySem.Calls
set_option maxRecDepth 100000
set_option maxHeartbeats 1000000
namespace Mine
local macro_rules | `(tactic| walk_at "mine none") => `(tactic| fail "none")
local macro_rules | `(tactic| walk_at "mine room") => `(tactic| first | (dsimp only; omega) | ((try simp only [depth_mark, depth_under_make, depth_under_kw, depth_in1, depth_deeper, units_deeper, units_in1, units_under_make]); (try dsimp only); omega))
local macro_rules | `(tactic| walk_at "mine one") => `(tactic| (first | (k_unfold; (try dsimp only)) | (k_end; wrow_close) | walk1 | (dsimp only; walk1) | (leave1; walk_say "STEP leave1"; try dsimp only) | (dsimp only; k_unfold; (try dsimp only)) | (dsimp only [StepO]; k_unfold; (try dsimp only)) | fail "no step"))
local macro_rules | `(tactic| walk_at "mine enter") => `(tactic| (refine' enter ?k1 ?k2 ?k3 ?k4 ?k5 ?kd ?k6 ?k7 ?k8 ?k9 ?_ ?c2 ?c3 ?c4 ?c5; (case k1 => assumption); (case k2 => assumption); (case k3 => assumption); (case k4 => assumption); (case k5 => assumption); (case kd => omega); (case k6 => k_is); (case k7 => k_is); (case k8 => first | exact BindsTo.of_eq rfl | exact binds_K (Frag.In.keeps (by assumption) (Kept.keep (by assumption))) rfl (by k_is) rfl rfl rfl | exact binds_K (by k_in) rfl (by k_is) rfl rfl rfl); (case c5 => decide); (case k9 => exact locs rfl); (case c2 => exact rfl); (case c3 => exact rfl); (case c4 => exact rfl); k_whole; intro L' h' F' N' K'; (try dsimp only); (try k_fold)))
local macro_rules | `(tactic| walk_at "mine wr") => `(tactic| ((repeat (refine List.forall_mem_cons.mpr ⟨?_, ?_⟩; (· k_mem))); exact List.forall_mem_nil _))
local macro_rules | `(tactic| walk_at "mine split") => `(tactic| (repeat' (first | exact Split.nil | (refine' Split.keep ?a ?_; (case a => k_all)) | refine' Split.drop ?_)))
local macro_rules | `(tactic| walk_at "mine con") => `(tactic| ((case kB => assumption); (case kF => k_asm); (case kX => assumption); (case kT => assumption); (case kN => k_asm); (case kf => exact rfl); (case kk => exact rfl); (case kw => walk_at "mine wr"); (case ks => walk_at "mine split"); (case kd => walk_at "mine room"); (case ku => walk_at "mine room")))
local macro_rules | `(tactic| walk_at "mine conE") => `(tactic| ((case kB => assumption); (case kF => k_asm); (case kX => assumption); (case kT => assumption); (case kN => k_asm); (case kf => exact rfl); (case kk => exact rfl); (case kw => walk_at "mine wr"); (case ks => walk_at "mine split"); (case kd => walk_at "mine room"); (case ku => walk_at "mine room")))
local macro_rules | `(tactic| k_room) => `(tactic| ((try simp only [depth_mark, depth_under_make, depth_under_kw, depth_in1, depth_deeper, depth_caller]); (try dsimp only); omega))
local macro_rules | `(tactic| walk_at "mine map") => `(tactic| (refine' map_off _ ?hs ?a; (case a => (intro y hy; (have nn : ∀ z, _ = true → y ≠ z := fun z hz e => by subst e; exact absurd (hz.symm.trans hy) (by decide)); (try dsimp only); (repeat rw [if_neg (nn _ (by decide))]); first | done | exact rfl)); (case hs => decide)))
local macro_rules | `(tactic| walk_at "mine oneD") => `(tactic| (first | (k_unfold; (try dsimp only)) | (k_end; wrow_close) | (walk1; (try dsimp only [List.cons_append, List.nil_append])) | (dsimp only; walk1) | (leave1; walk_say "STEP leave1"; try dsimp only) | (dsimp only; k_unfold; (try dsimp only)) | (dsimp only [StepO]; k_unfold; (try dsimp only)) | fail "no step"))
local macro_rules | `(tactic| walk_at "mine size") => `(tactic| ((try simp only [Array.size_append]); refine Nat.le_trans (by first | exact Nat.add_le_add (Nat.add_le_add (KBc.size_picked_le _ _ _) (Nat.le_refl _)) (KBc.size_picked_le _ _ _) | exact Nat.add_le_add (KBc.size_picked_le _ _ _) (Nat.le_refl _) | exact KBc.size_picked_le _ _ _) ?_; simp only [List.size_toArray, List.length_append]; omega))
local macro_rules | `(tactic| walk_at "call builtin:len") => `(tactic| (k_here; (with_reducible show wpAny _ _ (call (Value.builtin "len") [Value.ref _]) _ _ _); (with_reducible rename News _ _ _ _ => N'); (first | (refine' len_app ?ba ?hz ?_; (case ba => exact led_ba N' (by k_mem)); (case hz => omega); k_whole) | (refine' len_bs ?ba ?hz ?_; (case ba => exact led_ba N' (by k_mem)); (case hz => omega); k_whole))))
local macro_rules | `(tactic| walk_at "subscriptTail") => `(tactic| (k_here; (with_reducible show wpAny _ _ (subscriptTail _ (Expr.Slice _ _ none _) (Value.ref _) (Value.ref _)) _ _ _); (with_reducible rename Fr _ _ _ _ => F'); (with_reducible rename News _ _ _ _ => N'); (refine' BA.slice_N (s := ⟨_, _, _, _, _⟩) F' N' ?ba (by constructor) (by constructor) ?hz ?_; (case ba => exact led_ba N' (by k_mem)); (case hz => walk_at "mine size"); intro h' x' F' N' l1; (try k_lt l1); (try k_sweep); (try dsimp only))))
local macro_rules | `(tactic| walk_at "binaryOp Add") => `(tactic| (k_here; (with_reducible show wpAny _ _ (binaryOp _ (Value.ref _) (Value.bytes _ _)) _ _ _); (with_reducible rename Fr _ _ _ _ => F'); (with_reducible rename News _ _ _ _ => N'); (refine' BA.add_b F' N' ?ba ?hz ?_; (case ba => exact led_ba N' (by k_mem)); (case hz => walk_at "mine size"); intro h' x' F' N' l1; (try k_lt l1); (try k_sweep); (try dsimp only))))
local macro_rules | `(tactic| walk_at "binaryOp Add") => `(tactic| (k_here; (with_reducible show wpAny _ _ (binaryOp _ (Value.ref _) (Value.ref _)) _ _ _); (with_reducible rename Fr _ _ _ _ => F'); (with_reducible rename News _ _ _ _ => N'); (refine' BA.add_ba F' N' ?ba ?bb ?hz ?_; (case ba => exact led_ba N' (by k_mem)); (case bb => exact led_ba N' (by k_mem)); (case hz => walk_at "mine size"); intro h' x' F' N' l1; (try k_lt l1); (try k_sweep); (try dsimp only))))
local macro_rules | `(tactic| walk_at "call type:bytes") => `(tactic| (k_here; (with_reducible show wpAny _ _ (call (Value.type "bytes") [Value.ref _]) _ _ _); (with_reducible rename News _ _ _ _ => N'); (refine' BA.bytes_of ?ba ?hz ?_; (case ba => exact led_ba N' (by k_mem)); (case hz => walk_at "mine size"); intro _ _; (try dsimp only))))
local macro_rules | `(tactic| k_inst) => `(tactic| (refine' Mine.InstAt.of_base ?F ?h1 ?h2; (case F => k_asm); (case h1 => assumption); (case h2 => assumption)))
local macro_rules | `(tactic| walk_at "mine dis") => `(tactic| (repeat' (first | exact List.forall_mem_nil _ | refine List.forall_mem_cons.mpr ⟨?_, ?_⟩ | (refine Or.inr (cls_ne ?_); (simp; done)) | (refine Or.inr (key_ne ?_); exact rfl) | (refine Or.inr (it_ne (by assumption) ?_); (simp; done)) | (refine Or.inr (it_ne' (by assumption) ?_); (simp; done)) | exact .inl (by k_ne))))
local macro_rules | `(tactic| walk_at "mine split2") => `(tactic| (repeat' (first | with_reducible exact Split2.nil | with_reducible exact Split2.all | with_reducible exact Split2.tail rows_off_buf | with_reducible exact Split2.tail rows_off_rs | (with_reducible refine Split2.tail (rowsT_off ?_); (simp; done)) | (with_reducible refine' Split2.drop2 ?h ?_; (case h => with_reducible k_mem)) | (refine' Split2.keep ?a ?_; (case a => walk_at "mine dis")) | refine' Split2.drop ?_ | exact Split2.nil)))
local macro_rules | `(tactic| walk_at "mine conF") => `(tactic| ((case kB => assumption); (case kF => k_asm); (case kX => assumption); (case kT => assumption); (case kN => k_asm); (case kf => exact rfl); (case kk => exact rfl); (case kw => walk_at "mine wr"); (case ks => walk_at "mine split2"); (case kr => walk_at "mine rd"); (case kd => walk_at "mine room"); (case ku => walk_at "mine room")))
local macro_rules | `(tactic| walk_at "mine rd") => `(tactic| first | exact List.forall_mem_nil _ | (refine fun p hp => Or.inl ?_; simp only [List.mem_cons, List.mem_append, rowsL_cons, List.not_mem_nil, or_false, List.append_assoc] at hp ⊢; (repeat' (refine Or.elim hp ?_ ?_ <;> clear hp <;> intro hp)); all_goals (first | walk_at "mine or" | (subst hp; simp; done))))
local macro_rules | `(tactic| walk_at "exec For Name Call cons nil") => `(tactic| (k_here; (rename Fr _ _ _ _ => lF'); (with_unfolding_all refine' For_turns lF' ?_; k_whole)))
local macro_rules | `(tactic| walk_at "exec For Name Name cons nil") => `(tactic| (k_here; (rename Fr _ _ _ _ => lF'); (with_unfolding_all refine' For_turns lF' ?_; k_whole)))
local macro_rules | `(tactic| walk_at "exec For Tuple Call cons nil") => `(tactic| (k_here; (rename Fr _ _ _ _ => lF'); (with_unfolding_all refine' For_turns lF' ?_; k_whole)))
local macro_rules | `(tactic| walk_at "exec For Tuple Subscript cons nil") => `(tactic| (k_here; (rename Fr _ _ _ _ => lF'); (with_unfolding_all refine' For_turns lF' ?_; k_whole)))
local macro_rules | `(tactic| walk_at "call type:enumerate") => `(tactic| (k_here; (with_reducible show wpAny _ _ (call (Value.type _) [Value.ref _]) (fun xv s₁ => wpAny _ _ (pyIter xv) (fun it s₂ => TurnsAt _ _ _ _ _ _ _ _ _ it s₂) _ s₁) _ _); refine halt ?_))
local macro_rules | `(tactic| walk_at "pyIter ref") => `(tactic| (k_here; (with_reducible show wpAny _ _ (pyIter (Value.ref _)) (fun it s₂ => TurnsAt _ _ _ _ _ _ _ _ _ it s₂) _ _); refine halt ?_))
local macro_rules | `(tactic| walk_at "pyIter ref") => `(tactic| (k_here; (with_reducible show wpAny _ _ (pyIter (Value.ref _)) (fun it s₂ => TurnsAt _ _ _ _ _ _ _ _ _ it s₂) _ _); k_dflt (refine' iter_nil ?h ?F ?N ?X ?e ?_; (case h => exact rfl); (case F => k_asm); (case N => k_asm); (case X => k_asm); (case e => k_is); intro h' tk' F' N'; (try k_sweep); (try dsimp only))))
local macro_rules | `(tactic| walk_at "mine or") => `(tactic| first | with_reducible assumption | (with_reducible exact Or.inl (by with_reducible assumption)) | (refine Or.inr ?_; walk_at "mine or"))
local macro_rules | `(tactic| walk_at "mine sub") => `(tactic| (intro p hp; simp only [List.mem_cons, List.mem_append, rowsL_cons, List.not_mem_nil, or_false, List.append_assoc] at hp ⊢; (repeat' (refine Or.elim hp ?_ ?_ <;> clear hp <;> intro hp)); all_goals (first | walk_at "mine or" | (subst hp; simp; done))))
local macro_rules | `(tactic| walk_at "call builtin:list.append") => `(tactic| (k_here; (with_reducible show wpAny _ _ (call (Value.builtin _) [Value.ref _, _]) _ _ _); k_dflt (refine' append_S ?F ?N ?m ?s ?z ?_; (case F => k_asm); (case N => k_asm); (case m => k_mem); (case s => walk_at "mine split2"); (case z => (simp only [List.length_map, List.size_toArray]; omega)); intro h' F' N'; (try k_sweep); (try dsimp only))))
local macro_rules | `(tactic| walk_at "binaryOp FloorDiv int int") => `(tactic| (k_here; (with_reducible show wpAny _ _ (binaryOp _ (Value.int _ _) (Value.int _ _)) _ _ _); (refine' div_lit ?hb ?hp ?_; (case hb => decide); (case hp => exact PyProof.noPylong_of_log2 (by decide +kernel)))))
local macro_rules | `(tactic| walk_at "binaryOp Mod int int") => `(tactic| (k_here; (with_reducible show wpAny _ _ (binaryOp _ (Value.int _ _) (Value.int _ _)) _ _ _); (refine' mod_lit ?hb ?_; (case hb => decide))))
local macro_rules | `(tactic| walk_at "binaryOp Mult int int") => `(tactic| (k_here; (with_reducible show wpAny _ _ (binaryOp _ (Value.int _ _) (Value.int _ _)) _ _ _); (refine' mul_b ?h1 ?h2 ?_; (case h1 => omega); (case h2 => omega))))
local macro_rules | `(tactic| walk_at "mine enterN") => `(tactic| (refine' enterN ?k1 ?k2 ?k3 ?k4 ?k5 ?kd ?k6 ?k7 ?k8 ?k9 ?_ ?c2 ?c3 ?c4 ?c5; (case k1 => assumption); (case k2 => assumption); (case k3 => assumption); (case k4 => assumption); (case k5 => assumption); (case kd => omega); (case k6 => k_is); (case k7 => k_is); (case k8 => first | exact BindsTo.of_eq rfl | exact binds_K (Frag.In.keeps (by assumption) (Kept.keep (by assumption))) rfl (by k_is) rfl rfl rfl | exact binds_K (by k_in) rfl (by k_is) rfl rfl rfl); (case c5 => decide); (case k9 => exact locs rfl); (case c2 => exact rfl); (case c3 => exact rfl); (case c4 => exact rfl); k_whole; intro L' h' F' N' K'; (try dsimp only); (try k_fold)))
local macro_rules | `(tactic| walk_at "subscriptTail") => `(tactic| (k_here; (with_reducible show wpAny _ _ (subscriptTail _ _ (Value.ref _) (Value.int _ _)) _ _ _); (refine' itemTB ?F ?hl ?h0 ?h1 ?hy ?_; (case F => k_asm); (case hl => with_reducible assumption); (case h0 => omega); (case h1 => omega); (case hy => with_reducible assumption); k_whole)))
local macro_rules | `(tactic| walk_at "subscriptTail") => `(tactic| (k_here; (with_reducible show wpAny _ _ (subscriptTail _ _ (Value.ref _) (Value.int (-1) _)) _ _ _); (refine' itemTB_last ?F ?hl ?hi ?h1 ?hy ?_; (case F => k_asm); (case hl => with_reducible assumption); (case hi => rfl); (case h1 => omega); (case hy => with_reducible assumption); k_whole)))
local macro_rules | `(tactic| walk_at "subscriptTail") => `(tactic| (k_here; (with_reducible show wpAny _ _ (subscriptTail _ _ (Value.ref _) (Value.int 0 _)) _ _ _); (refine' tupB0 ?F ?ht ?_; (case F => k_asm); (case ht => with_reducible assumption); k_whole)))
local macro_rules | `(tactic| walk_at "subscriptTail") => `(tactic| (k_here; (with_reducible show wpAny _ _ (subscriptTail _ _ (Value.ref _) (Value.int 1 _)) _ _ _); (refine' tupB1 ?F ?ht ?_; (case F => k_asm); (case ht => with_reducible assumption); k_whole)))
local macro_rules | `(tactic| walk_at "call builtin:len") => `(tactic| (k_here; (with_reducible show wpAny _ _ (call (Value.builtin "len") [Value.ref _]) _ _ _); (refine' lenTB ?F ?hl ?hz ?_; (case F => k_asm); (case hl => assumption); (case hz => omega); intro _ _; (try dsimp only))))
local macro_rules | `(tactic| walk_at "mine noerr") => `(tactic| (rotate_left; (focus (intro e' t' cls' vs' g₂' h' tk' hp' R' F' U'; exact hp'.elim))))
local macro_rules | `(tactic| walk_at "binaryOp Add") => `(tactic| (k_here; (with_reducible show wpAny _ _ (binaryOp _ (Value.bytes (List.toArray _) _) (Value.bytes (List.toArray _) _)) _ _ _); (refine' add_bytesL ?hz ?_; (case hz => ((try simp only [List.length_append]); omega)); intro _ _; (try dsimp only))))
local macro_rules | `(tactic| walk_at "mine mem3") => `(tactic| first | exact List.Mem.head _ | assumption | (refine' List.Mem.tail _ ?_; walk_at "mine mem3"))
local macro_rules | `(tactic| walk_at "call builtin:len") => `(tactic| (k_here; (with_reducible show wpAny _ _ (call (Value.builtin "len") [Value.ref _]) _ _ _); (refine' len3 ?N ?hm ?hz ?_; (case N => k_asm); (case hm => k_mem); (case hz => omega); intro _ _; (try dsimp only))))
local macro_rules | `(tactic| walk_at "subscriptTail") => `(tactic| (k_here; (with_reducible show wpAny _ _ (subscriptTail _ _ (Value.ref _) (Value.int (-1) _)) _ _ _); (refine' item3_last ?N ?hm ?hi ?hz ?hy ?_; (case N => k_asm); (case hm => k_mem); (case hi => rfl); (case hz => omega); (case hy => with_reducible assumption); k_whole)))
local macro_rules | `(tactic| walk_at "subscriptTail") => `(tactic| (k_here; (with_reducible show wpAny _ _ (subscriptTail _ _ (Value.ref _) (Value.int 0 _)) _ _ _); (refine' item3_0 ?N ?hm ?hy ?_; (case N => k_asm); (case hm => k_mem); (case hy => with_reducible assumption); k_whole)))
local macro_rules | `(tactic| walk_at "subscriptTail") => `(tactic| (k_here; (with_reducible show wpAny _ _ (subscriptTail _ (Expr.Slice _ none none _) (Value.ref _) (Value.ref _)) _ _ _); (with_reducible rename Fr _ _ _ _ => F'); (with_reducible rename News _ _ _ _ => N'); (refine' slice3 (a := 1) (s := ⟨_, _, _, _, _⟩) F' N' ?hm ?lo ?ha ?hz ?_; (case hm => k_mem); (case lo => rfl); (case ha => omega); (case hz => omega); intro h' x' F' N' l1; (try k_lt l1); (try k_sweep); (try dsimp only))))
local macro_rules | `(tactic| walk_at "call ref") => `(tactic| (k_here; (k_dflt (show wpAny _ _ (call (Value.ref 368) [Value.int _ _, Value.int ((_ : Nat) : Int) _]) _ _ _)); k_dflt (refine' ConE.call2 (Con.toE (law_put ?h0 ?h1 ?hl)) ?kB ?kF ?kX ?kT ?kN ?kf ?kk ?kw ?ks ?kr ?kd ?ku ?_ ?_; walk_at "mine conF"; (case h0 => omega); (case h1 => omega); (case hl => omega); walk_at "mine noerr"; (intro v' news' h' tk' hp' F' N'; obtain ⟨⟨t', hv'⟩, hn'⟩ := hp'; subst hv'; subst hn'; dsimp only [List.nil_append] at N'; (try k_sweep); (try dsimp only)))))
local macro_rules | `(tactic| walk_at "binaryOp Add ref ref") => `(tactic| (k_here; (with_reducible show wpAny _ _ (binaryOp _ (Value.ref _) (Value.ref _)) _ _ _); (with_reducible rename Fr _ _ _ _ => F'); (with_reducible rename News _ _ _ _ => N'); (refine' add_rows F' N' ?h1 ?h2 ?hz ?_; (case h1 => k_mem); (case h2 => k_mem); (case hz => ((try simp only [List.length_map]); omega)); intro D' h' F' N' l1; (try k_lt l1); (try k_sweep); (try dsimp only))))
theorem pulled_rest {w : World} {mean : ExcName → Option Value} {mg mb : Str → Option Value} {cut greatest delay : Int} {trs : List T3} {y0 yl : T3} {P : Addr} {kP : Nat} {tgr tcu tdl : Tok}
    {dp un : Nat} {gd : Option (List Code)} {ll : List Env} {base g : Heap} {s : Shared} {L : Addr} {m₀ : Str → Option Value} {Q : Flow → Shared → Prop}
    (hg0 : 0 ≤ greatest) (hg1 : greatest < 4611686018427387904) (hd0 : 0 ≤ delay) (hd1 : delay < 4611686018427387904) (hlen : trs.length ≤ 24) (hlen0 : 1 ≤ trs.length) (hy0 : trs[0]? = some y0) (hyl : trs[trs.length - 1]? = some yl)
    (hok : ∀ y ∈ trs, 0 ≤ y.a ∧ y.a ≤ 1000 ∧ 0 ≤ y.b ∧ y.b ≤ 1000 ∧ y.c ≤ 3)
    (B : Below (AX dp un gd ll) base ll g) (X : (hd.heap_39 w.params).In g) (T : Top hd.view_39 LS mean mg mb g) (XB : (hd.heap_39 w.params).In base) (TB : Top hd.view_39 LS mean mg mb base) (D : KtsDicts (ll.filterMap (·.frame)) g)
    (hdp : dp + 60 < recursionLimit) (hun : un + 10 * 60 < cLine) (hbare : AllBare s.gens)
    (F : Fr g L s.heap (fun y => if y = Str.ofString "pairs" then some (.ref P) else if y = Str.ofString "greatest" then some (.int greatest tgr) else if y = Str.ofString "delay" then some (.int delay tdl) else if y = Str.ofString "cut" then some (.int cut tcu) else m₀ y))
    (N : News g L s.heap ((P, listOf (refs3 trs).toArray kP) :: rows3 trs))
    (ret : ∀ h' tk gens', AllBare gens' → base.StaysIn h' → Q (.ret (.bool true)) ⟨h', gens', s.drawn, tk, s.os⟩) :
    wpN (model PG w) ((AX dp un gd ll).deeper (envAt (hd.heap_39 w.params) 392 L)) (execs ((bodyAt (hd.heap_39 w.params) 392).drop 2) (envAt (hd.heap_39 w.params) 392 L)) Q (fun _ _ => False) s := by
  w_on
  obtain ⟨hb, he⟩ := at_of (K := hd.heap_39 w.params) (f := 392) (by k_is)
  rw [hb, he]
  clear hb he
  simp only [List.drop_succ_cons, List.drop_zero]
  obtain ⟨hp, gg, dd, tt, os⟩ := s
  dsimp only at F N hbare ret
  have hm0 : y0 ∈ trs := List.mem_of_getElem? hy0
  have hml : yl ∈ trs := List.mem_of_getElem? hyl
  obtain ⟨o1, o2, o3, o4, o5⟩ := hok _ hm0
  obtain ⟨p1, p2, p3, p4, p5⟩ := hok _ hml
  have v1 := vput_len greatest y0.c o5
  have v2 := vput_len delay yl.c p5
  have v3 := vput_len ((trs.length : Int) - 1) y0.c o5
  have v4 := vput_len y0.b y0.c o5
  replace N : News g L hp (trO3 y0 :: trO3 yl :: (P, listOf (refs3 trs).toArray kP) :: rows3 trs) := news_sub N fun p hp => by
    simp only [List.mem_cons] at hp ⊢
    rcases hp with rfl | rfl | rfl | hp
    · exact .inr (mem_rows3 hm0)
    · exact .inr (mem_rows3 hml)
    · exact .inl rfl
    · exact .inr hp
  refine wpN_execs_cons (wpN_of ?_)
  repeat' walk_at "mine oneD"
  refine wpN_execs_cons (wpN_of ?_)
  repeat' walk_at "mine oneD"
  refine wpN_execs_cons (wpN_of ?_)
  repeat' walk_at "mine oneD"
  (with_reducible rename Fr g _ _ _ => F1)
  (with_reducible rename News g _ _ _ => N1)
  obtain ⟨rws0, hrw0, N2⟩ := pull_start (P := P) (k := kP) (trs := trs) N1 (by k_mem) (fun p hp => .tail _ (.tail _ (.tail _ hp)))
  clear N1
  have F3 := fr_pick (x := Str.ofString "rows") (v := .ref _) (fr_pick (x := Str.ofString "low") (v := .int (greatest - y0.b) _) (fr_pick (x := Str.ofString "octets") (v := .bytes (vput greatest y0.c ++ vput delay yl.c ++ vput ((trs.length : Int) - 1) y0.c ++ vput y0.b y0.c).toArray _) (fr_pick (x := Str.ofString "pairs") (v := .ref P) (fr_pick (x := Str.ofString "delay") (v := .int delay tdl) (fr_pick (x := Str.ofString "cut") (v := .int cut tcu) F1 rfl) rfl) rfl) rfl) rfl) rfl
  have done := fun tk => pulled_loop (s := ⟨_, gg, dd, tk, os⟩) hg0 hg1 hd0 hd1 hlen hlen0 o3 o4 o5 p5 hok hrw0 B X T XB TB D hdp hun hbare F3 N2 ret
  obtain ⟨hb, he⟩ := at_of (K := hd.heap_39 w.params) (f := 392) (by k_is)
  rw [hb, he] at done
  simp only [List.drop_succ_cons, List.drop_zero] at done
  exact done _
end Mine
end
section
open PySem PySem.W PyProof.Rows PySem.Calls
set_option maxRecDepth 100000
set_option maxHeartbeats 1000000
namespace Mine
def trip (n : Int) : Int × Int × Nat := (n % 6 * (1 + n / 36 % 9), n / 6 % 6 * (1 + n / 36 % 9), (n / 324 % 4).toNat)
section
open LCg
theorem comp3 {prog : Program} {w : World} {A : Around} {s : Shared} {h₀ : Heap} {L : Addr} {m : Str → Option Value} {env : Env} {elt : Expr} {x : Str} {scope : Scope} {cl : List (Str × Addr)} {S : List (Addr × Obj) → Prop} {Fin : List Value → List (Addr × Obj) → Prop}
    {vsN : List Value} {ns : List Int} {news0 : List (Addr × Obj)} (hI : IntsAre vsN ns) (hS : ∀ nw, S nw)
    (helt : ∀ (n : Int) (t : Tok) (C : Addr) (oC : Obj) (m₂ : Str → Option Value) (h : Heap) (tk : Nat) (nw : List (Addr × Obj)) (Q' E' : Value → Shared → Prop), NsObj oC m₂ → m₂ x = some (.int n t) → Fr h₀ L h m → News h₀ L h ((C, oC) :: nw) →
      (∀ Ta h' tk' ta tb tc, Fr h₀ L h' m → News h₀ L h' ((Ta, tupO [.int (trip n).1 ta, .int (trip n).2.1 tb, .int (n / 324 % 4) tc]) :: (C, oC) :: nw) → (∀ p ∈ (C, oC) :: nw, @LT.lt Nat _ p.1 Ta) → Q' (.ref Ta) { s with heap := h', toks := tk' }) →
      wpAny (model prog w) A (eval elt (compEnvC scope cl C env)) Q' E' { s with heap := h, toks := tk })
    (fin : ∀ trs, trips trs = ns.map trip → Fin (refs3 trs) (rows3 trs ++ news0)) :
    ∀ (k i : Nat) (trs : List T3), i + k = ns.length → trips trs = (ns.take i).map trip → CompRest prog w A h₀ L m env elt x scope cl s S (fun i v => vsN.toArray[i]? = some v) Fin k i (refs3 trs) (rows3 trs ++ news0) := by
  intro k
  induction k with
  | zero =>
    intro i trs hi ht
    refine CompRest.zero (fin trs ?_)
    rw [ht, List.take_of_length_le (by omega)]
  | succ k ih =>
    intro i trs hi ht
    refine CompRest.succ fun v I oI C oC D m₂ h tk E' hP hNs hm2 F N off hne => ?_
    obtain ⟨n, t, rfl, hn⟩ := hI.at i v (by simpa using hP)
    refine helt n t C oC m₂ h tk ((I, oI) :: (D, lst (refs3 trs)) :: (rows3 trs ++ news0)) _ E' hNs hm2 F (news_sub N fun p hp => ?_) fun Ta h' tk' ta tb tc F' N' hlt => ?_
    · rcases List.mem_cons.mp hp with rfl | hp
      · exact .tail _ (.head _)
      · rcases List.mem_cons.mp hp with rfl | hp
        · exact .head _
        · exact .tail _ (.tail _ hp)
    · have hc : n / 324 % 4 = (((n / 324 % 4).toNat : Nat) : Int) := by omega
      rw [hc] at N'
      have ht' : trips (trs ++ [⟨Ta, (trip n).1, (trip n).2.1, (n / 324 % 4).toNat, ta, tb, tc⟩]) = (ns.take (i + 1)).map trip := by
        rw [trips, List.map_append, List.take_add_one, hn, List.map_append]
        show trips trs ++ _ = _
        rw [ht]; rfl
      have nx := ih (i + 1) (trs ++ [⟨Ta, (trip n).1, (trip n).2.1, (n / 324 % 4).toNat, ta, tb, tc⟩]) (by omega) ht'
      have er : refs3 trs ++ [.ref Ta] = refs3 (trs ++ [⟨Ta, (trip n).1, (trip n).2.1, (n / 324 % 4).toNat, ta, tb, tc⟩]) := by simp
      rw [← er] at nx
      refine CompEnd.intro F' N' _ (fun p hp => ?_) (Off3.of fun p hp => ?_) (hS _) nx
      · simp only [rows3, List.map_append, List.map_cons, List.map_nil, List.mem_cons, List.mem_append, List.not_mem_nil, or_false] at hp
        rcases hp with rfl | rfl | rfl | (hp | rfl) | hp
        · exact .tail _ (.tail _ (.head _))
        · exact .tail _ (.head _)
        · exact .tail _ (.tail _ (.tail _ (.head _)))
        · exact .tail _ (.tail _ (.tail _ (.tail _ (List.mem_append_left _ hp))))
        · exact .head _
        · exact .tail _ (.tail _ (.tail _ (.tail _ (List.mem_append_right _ hp))))
      · simp only [rows3, List.map_append, List.map_cons, List.map_nil, List.mem_cons, List.mem_append, List.not_mem_nil, or_false] at hp
        have z := off.mem
        rcases hp with (hp | rfl) | hp
        · exact z p (List.mem_append_left _ hp)
        · exact ⟨Ne.symm (Nat.ne_of_lt (hlt (I, oI) (.tail _ (.head _)))), Ne.symm (Nat.ne_of_lt (hlt (C, oC) (.head _))), Ne.symm (Nat.ne_of_lt (hlt (D, _) (.tail _ (.tail _ (.head _)))))⟩
        · exact z p (List.mem_append_right _ hp)
end
end Mine
end
section
open PySem PySem.W PyProof.Rows PySem.Calls
set_option maxRecDepth 100000
set_option maxHeartbeats 1000000
namespace Mine
theorem trip_range (n : Int) : 0 ≤ (trip n).1 ∧ (trip n).1 ≤ 1000 ∧ 0 ≤ (trip n).2.1 ∧ (trip n).2.1 ≤ 1000 ∧ (trip n).2.2 ≤ 3 := by
  have h1 := Int.emod_nonneg n (show (6 : Int) ≠ 0 by decide)
  have h2 := Int.emod_lt_of_pos n (show (0 : Int) < 6 by decide)
  have h3 := Int.emod_nonneg (n / 6) (show (6 : Int) ≠ 0 by decide)
  have h4 := Int.emod_lt_of_pos (n / 6) (show (0 : Int) < 6 by decide)
  have h5 := Int.emod_nonneg (n / 36) (show (9 : Int) ≠ 0 by decide)
  have h6 := Int.emod_lt_of_pos (n / 36) (show (0 : Int) < 9 by decide)
  show 0 ≤ n % 6 * (1 + n / 36 % 9) ∧ n % 6 * (1 + n / 36 % 9) ≤ 1000 ∧ 0 ≤ n / 6 % 6 * (1 + n / 36 % 9) ∧ n / 6 % 6 * (1 + n / 36 % 9) ≤ 1000 ∧ (n / 324 % 4).toNat ≤ 3
  generalize n % 6 = a at *
  generalize n / 6 % 6 = b at *
  generalize n / 36 % 9 = c at *
  have ha : a = 0 ∨ a = 1 ∨ a = 2 ∨ a = 3 ∨ a = 4 ∨ a = 5 := by omega
  have hb : b = 0 ∨ b = 1 ∨ b = 2 ∨ b = 3 ∨ b = 4 ∨ b = 5 := by omega
  refine ⟨?_, ?_, ?_, ?_, by omega⟩
  · rcases ha with rfl | rfl | rfl | rfl | rfl | rfl <;> omega
  · rcases ha with rfl | rfl | rfl | rfl | rfl | rfl <;> omega
  · rcases hb with rfl | rfl | rfl | rfl | rfl | rfl <;> omega
  · rcases hb with rfl | rfl | rfl | rfl | rfl | rfl <;> omega
theorem truthyG {prog : Program} {w : World} {A : Around} {E : Value → Shared → Prop} {s : Shared} {h₀ : Heap} {L D : Addr} {m : Str → Option Value} {its : Array Value} {n : Nat} {b : Bool} {Q : Bool → Shared → Prop} (F : Fr h₀ L s.heap m) (hm : h₀.get? D = some (listOf its n)) (hz : its.size ≤ 16777216) (hb : (!its.isEmpty) = b) (h : ∀ k, Q b { s with toks := k }) :
    wpAny (model prog w) A (truthy (.ref D)) Q E s := by
  subst hb
  exact wpAny_truthy_list (l := D) ⟨_, F.keep _ _ hm, rfl, _, rfl⟩ (by omega) (h _)
theorem pull_zero {g h : Heap} {L P T : Addr} {n : Nat} {ta tb tc : Tok} (N : News g L h [(P, listOf #[.ref T] n), (T, tupO [.int 0 ta, .int 0 tb, .int 0 tc])]) : ∃ trs : List T3, trips trs = [(0, 0, 0)] ∧ News g L h ((P, listOf (refs3 trs).toArray n) :: rows3 trs) :=
  ⟨[⟨T, 0, 0, 0, ta, tb, tc⟩], rfl, N⟩
local macro_rules | `(tactic| walk_at "mine room") => `(tactic| first | (dsimp only; omega) | ((try simp only [depth_mark, depth_under_make, depth_under_kw, depth_in1, depth_deeper, units_deeper, units_in1, units_under_make]); (try dsimp only); omega))
local macro_rules | `(tactic| walk_at "mine one") => `(tactic| (first | (k_unfold; (try dsimp only)) | (k_end; wrow_close) | walk1 | (dsimp only; walk1) | (leave1; walk_say "STEP leave1"; try dsimp only) | (dsimp only; k_unfold; (try dsimp only)) | (dsimp only [StepO]; k_unfold; (try dsimp only)) | fail "no step"))
local macro_rules | `(tactic| walk_at "mine enter") => `(tactic| (refine' enter ?k1 ?k2 ?k3 ?k4 ?k5 ?kd ?k6 ?k7 ?k8 ?k9 ?_ ?c2 ?c3 ?c4 ?c5; (case k1 => assumption); (case k2 => assumption); (case k3 => assumption); (case k4 => assumption); (case k5 => assumption); (case kd => omega); (case k6 => k_is); (case k7 => k_is); (case k8 => first | exact BindsTo.of_eq rfl | exact binds_K (Frag.In.keeps (by assumption) (Kept.keep (by assumption))) rfl (by k_is) rfl rfl rfl | exact binds_K (by k_in) rfl (by k_is) rfl rfl rfl); (case c5 => decide); (case k9 => exact locs rfl); (case c2 => exact rfl); (case c3 => exact rfl); (case c4 => exact rfl); k_whole; intro L' h' F' N' K'; (try dsimp only); (try k_fold)))
local macro_rules | `(tactic| walk_at "mine wr") => `(tactic| ((repeat (refine List.forall_mem_cons.mpr ⟨?_, ?_⟩; (· k_mem))); exact List.forall_mem_nil _))
local macro_rules | `(tactic| walk_at "mine split") => `(tactic| (repeat' (first | exact Split.nil | (refine' Split.keep ?a ?_; (case a => k_all)) | refine' Split.drop ?_)))
local macro_rules | `(tactic| walk_at "mine con") => `(tactic| ((case kB => assumption); (case kF => k_asm); (case kX => assumption); (case kT => assumption); (case kN => k_asm); (case kf => exact rfl); (case kk => exact rfl); (case kw => walk_at "mine wr"); (case ks => walk_at "mine split"); (case kd => walk_at "mine room"); (case ku => walk_at "mine room")))
local macro_rules | `(tactic| walk_at "mine conE") => `(tactic| ((case kB => assumption); (case kF => k_asm); (case kX => assumption); (case kT => assumption); (case kN => k_asm); (case kf => exact rfl); (case kk => exact rfl); (case kw => walk_at "mine wr"); (case ks => walk_at "mine split"); (case kd => walk_at "mine room"); (case ku => walk_at "mine room")))
local macro_rules | `(tactic| k_room) => `(tactic| ((try simp only [depth_mark, depth_under_make, depth_under_kw, depth_in1, depth_deeper, depth_caller]); (try dsimp only); omega))
local macro_rules | `(tactic| walk_at "mine map") => `(tactic| (refine' map_off _ ?hs ?a; (case a => (intro y hy; (have nn : ∀ z, _ = true → y ≠ z := fun z hz e => by subst e; exact absurd (hz.symm.trans hy) (by decide)); (try dsimp only); (repeat rw [if_neg (nn _ (by decide))]); first | done | exact rfl)); (case hs => decide)))
local macro_rules | `(tactic| walk_at "mine oneD") => `(tactic| (first | (k_unfold; (try dsimp only)) | (k_end; wrow_close) | (walk1; (try dsimp only [List.cons_append, List.nil_append])) | (dsimp only; walk1) | (leave1; walk_say "STEP leave1"; try dsimp only) | (dsimp only; k_unfold; (try dsimp only)) | (dsimp only [StepO]; k_unfold; (try dsimp only)) | fail "no step"))
local macro_rules | `(tactic| walk_at "mine size") => `(tactic| ((try simp only [Array.size_append]); refine Nat.le_trans (by first | exact Nat.add_le_add (Nat.add_le_add (KBc.size_picked_le _ _ _) (Nat.le_refl _)) (KBc.size_picked_le _ _ _) | exact Nat.add_le_add (KBc.size_picked_le _ _ _) (Nat.le_refl _) | exact KBc.size_picked_le _ _ _) ?_; simp only [List.size_toArray, List.length_append]; omega))
local macro_rules | `(tactic| walk_at "call builtin:len") => `(tactic| (k_here; (with_reducible show wpAny _ _ (call (Value.builtin "len") [Value.ref _]) _ _ _); (with_reducible rename News _ _ _ _ => N'); (first | (refine' len_app ?ba ?hz ?_; (case ba => exact led_ba N' (by k_mem)); (case hz => omega); k_whole) | (refine' len_bs ?ba ?hz ?_; (case ba => exact led_ba N' (by k_mem)); (case hz => omega); k_whole))))
local macro_rules | `(tactic| walk_at "subscriptTail") => `(tactic| (k_here; (with_reducible show wpAny _ _ (subscriptTail _ (Expr.Slice _ _ none _) (Value.ref _) (Value.ref _)) _ _ _); (with_reducible rename Fr _ _ _ _ => F'); (with_reducible rename News _ _ _ _ => N'); (refine' BA.slice_N (s := ⟨_, _, _, _, _⟩) F' N' ?ba (by constructor) (by constructor) ?hz ?_; (case ba => exact led_ba N' (by k_mem)); (case hz => walk_at "mine size"); intro h' x' F' N' l1; (try k_lt l1); (try k_sweep); (try dsimp only))))
local macro_rules | `(tactic| walk_at "binaryOp Add") => `(tactic| (k_here; (with_reducible show wpAny _ _ (binaryOp _ (Value.ref _) (Value.bytes _ _)) _ _ _); (with_reducible rename Fr _ _ _ _ => F'); (with_reducible rename News _ _ _ _ => N'); (refine' BA.add_b F' N' ?ba ?hz ?_; (case ba => exact led_ba N' (by k_mem)); (case hz => walk_at "mine size"); intro h' x' F' N' l1; (try k_lt l1); (try k_sweep); (try dsimp only))))
local macro_rules | `(tactic| walk_at "binaryOp Add") => `(tactic| (k_here; (with_reducible show wpAny _ _ (binaryOp _ (Value.ref _) (Value.ref _)) _ _ _); (with_reducible rename Fr _ _ _ _ => F'); (with_reducible rename News _ _ _ _ => N'); (refine' BA.add_ba F' N' ?ba ?bb ?hz ?_; (case ba => exact led_ba N' (by k_mem)); (case bb => exact led_ba N' (by k_mem)); (case hz => walk_at "mine size"); intro h' x' F' N' l1; (try k_lt l1); (try k_sweep); (try dsimp only))))
local macro_rules | `(tactic| walk_at "call type:bytes") => `(tactic| (k_here; (with_reducible show wpAny _ _ (call (Value.type "bytes") [Value.ref _]) _ _ _); (with_reducible rename News _ _ _ _ => N'); (refine' BA.bytes_of ?ba ?hz ?_; (case ba => exact led_ba N' (by k_mem)); (case hz => walk_at "mine size"); intro _ _; (try dsimp only))))
local macro_rules | `(tactic| k_inst) => `(tactic| (refine' Mine.InstAt.of_base ?F ?h1 ?h2; (case F => k_asm); (case h1 => assumption); (case h2 => assumption)))
local macro_rules | `(tactic| walk_at "mine dis") => `(tactic| (repeat' (first | exact List.forall_mem_nil _ | refine List.forall_mem_cons.mpr ⟨?_, ?_⟩ | (refine Or.inr (cls_ne ?_); (simp; done)) | (refine Or.inr (key_ne ?_); exact rfl) | (refine Or.inr (it_ne (by assumption) ?_); (simp; done)) | (refine Or.inr (it_ne' (by assumption) ?_); (simp; done)) | exact .inl (by k_ne))))
local macro_rules | `(tactic| walk_at "mine split2") => `(tactic| (repeat' (first | with_reducible exact Split2.nil | with_reducible exact Split2.all | with_reducible exact Split2.tail rows_off_buf | with_reducible exact Split2.tail rows_off_rs | (with_reducible refine Split2.tail (rowsT_off ?_); (simp; done)) | (with_reducible refine' Split2.drop2 ?h ?_; (case h => with_reducible k_mem)) | (refine' Split2.keep ?a ?_; (case a => walk_at "mine dis")) | refine' Split2.drop ?_ | exact Split2.nil)))
local macro_rules | `(tactic| walk_at "mine conF") => `(tactic| ((case kB => assumption); (case kF => k_asm); (case kX => assumption); (case kT => assumption); (case kN => k_asm); (case kf => exact rfl); (case kk => exact rfl); (case kw => walk_at "mine wr"); (case ks => walk_at "mine split2"); (case kr => walk_at "mine rd"); (case kd => walk_at "mine room"); (case ku => walk_at "mine room")))
local macro_rules | `(tactic| walk_at "mine rd") => `(tactic| first | exact List.forall_mem_nil _ | (refine fun p hp => Or.inl ?_; simp only [List.mem_cons, List.mem_append, rowsL_cons, List.not_mem_nil, or_false, List.append_assoc] at hp ⊢; (repeat' (refine Or.elim hp ?_ ?_ <;> clear hp <;> intro hp)); all_goals (first | walk_at "mine or" | (subst hp; simp; done))))
local macro_rules | `(tactic| walk_at "exec For Name Call cons nil") => `(tactic| (k_here; (rename Fr _ _ _ _ => lF'); (with_unfolding_all refine' For_turns lF' ?_; k_whole)))
local macro_rules | `(tactic| walk_at "exec For Name Name cons nil") => `(tactic| (k_here; (rename Fr _ _ _ _ => lF'); (with_unfolding_all refine' For_turns lF' ?_; k_whole)))
local macro_rules | `(tactic| walk_at "exec For Tuple Call cons nil") => `(tactic| (k_here; (rename Fr _ _ _ _ => lF'); (with_unfolding_all refine' For_turns lF' ?_; k_whole)))
local macro_rules | `(tactic| walk_at "exec For Tuple Subscript cons nil") => `(tactic| (k_here; (rename Fr _ _ _ _ => lF'); (with_unfolding_all refine' For_turns lF' ?_; k_whole)))
local macro_rules | `(tactic| walk_at "call type:enumerate") => `(tactic| (k_here; (with_reducible show wpAny _ _ (call (Value.type _) [Value.ref _]) (fun xv s₁ => wpAny _ _ (pyIter xv) (fun it s₂ => TurnsAt _ _ _ _ _ _ _ _ _ it s₂) _ s₁) _ _); refine halt ?_))
local macro_rules | `(tactic| walk_at "pyIter ref") => `(tactic| (k_here; (with_reducible show wpAny _ _ (pyIter (Value.ref _)) (fun it s₂ => TurnsAt _ _ _ _ _ _ _ _ _ it s₂) _ _); refine halt ?_))
local macro_rules | `(tactic| walk_at "pyIter ref") => `(tactic| (k_here; (with_reducible show wpAny _ _ (pyIter (Value.ref _)) (fun it s₂ => TurnsAt _ _ _ _ _ _ _ _ _ it s₂) _ _); k_dflt (refine' iter_nil ?h ?F ?N ?X ?e ?_; (case h => exact rfl); (case F => k_asm); (case N => k_asm); (case X => k_asm); (case e => k_is); intro h' tk' F' N'; (try k_sweep); (try dsimp only))))
local macro_rules | `(tactic| walk_at "mine or") => `(tactic| first | with_reducible assumption | (with_reducible exact Or.inl (by with_reducible assumption)) | (refine Or.inr ?_; walk_at "mine or"))
local macro_rules | `(tactic| walk_at "mine sub") => `(tactic| (intro p hp; simp only [List.mem_cons, List.mem_append, rowsL_cons, List.not_mem_nil, or_false, List.append_assoc] at hp ⊢; (repeat' (refine Or.elim hp ?_ ?_ <;> clear hp <;> intro hp)); all_goals (first | walk_at "mine or" | (subst hp; simp; done))))
local macro_rules | `(tactic| walk_at "call builtin:list.append") => `(tactic| (k_here; (with_reducible show wpAny _ _ (call (Value.builtin _) [Value.ref _, _]) _ _ _); k_dflt (refine' append_S ?F ?N ?m ?s ?z ?_; (case F => k_asm); (case N => k_asm); (case m => k_mem); (case s => walk_at "mine split2"); (case z => (simp only [List.length_map, List.size_toArray]; omega)); intro h' F' N'; (try k_sweep); (try dsimp only))))
local macro_rules | `(tactic| walk_at "binaryOp FloorDiv int int") => `(tactic| (k_here; (with_reducible show wpAny _ _ (binaryOp _ (Value.int _ _) (Value.int _ _)) _ _ _); (refine' div_lit ?hb ?hp ?_; (case hb => decide); (case hp => exact PyProof.noPylong_of_log2 (by decide +kernel)))))
local macro_rules | `(tactic| walk_at "binaryOp Mod int int") => `(tactic| (k_here; (with_reducible show wpAny _ _ (binaryOp _ (Value.int _ _) (Value.int _ _)) _ _ _); (refine' mod_lit ?hb ?_; (case hb => decide))))
local macro_rules | `(tactic| walk_at "binaryOp Mult int int") => `(tactic| (k_here; (with_reducible show wpAny _ _ (binaryOp _ (Value.int _ _) (Value.int _ _)) _ _ _); (refine' mul_b ?h1 ?h2 ?_; (case h1 => omega); (case h2 => omega))))
local macro_rules | `(tactic| walk_at "mine enterN") => `(tactic| (refine' enterN ?k1 ?k2 ?k3 ?k4 ?k5 ?kd ?k6 ?k7 ?k8 ?k9 ?_ ?c2 ?c3 ?c4 ?c5; (case k1 => assumption); (case k2 => assumption); (case k3 => assumption); (case k4 => assumption); (case k5 => assumption); (case kd => omega); (case k6 => k_is); (case k7 => k_is); (case k8 => first | exact BindsTo.of_eq rfl | exact binds_K (Frag.In.keeps (by assumption) (Kept.keep (by assumption))) rfl (by k_is) rfl rfl rfl | exact binds_K (by k_in) rfl (by k_is) rfl rfl rfl); (case c5 => decide); (case k9 => exact locs rfl); (case c2 => exact rfl); (case c3 => exact rfl); (case c4 => exact rfl); k_whole; intro L' h' F' N' K'; (try dsimp only); (try k_fold)))
local macro_rules | `(tactic| walk_at "exec Assign cons ListComp") => `(tactic| (k_here; (with_reducible show wpAny _ _ (exec (Stmt.Assign _ (Expr.ListComp _ _ _ _) _) _) _ _ _); refine halt ?_))
local macro_rules | `(tactic| walk_at "eval ListComp") => `(tactic| (k_here; (with_reducible show wpAny _ _ (eval (Expr.ListComp _ _ _ _) _) _ _ _); refine halt ?_))
local macro_rules | `(tactic| walk_at "truthy ref") => `(tactic| (k_here; (with_reducible show wpAny _ _ (truthy (Value.ref _)) _ _ _); (refine' truthyG ?F ?hm ?hz ?hb ?_; (case F => k_asm); (case hm => assumption); (case hz => assumption); (case hb => assumption); intro _; (try dsimp only))))
theorem law_pulled {w : World} {mean : ExcName → Option Value} {mg mb : Str → Option Value} {greatest delay cut : Int} {tgr tdl tcu : Tok} {ln : Addr} {vsN : List Value} {ns : List Int} {nN : Nat}
    (hg0 : 0 ≤ greatest) (hg1 : greatest < 4611686018427387904) (hd0 : 0 ≤ delay) (hd1 : delay < 4611686018427387904) (hI : IntsAre vsN ns) (hlen : ns.length ≤ 24)
    {dp un : Nat} {gd : Option (List Code)} {l : List Env} {base g : Heap} {s : Shared} {R : Result → Shared → Prop}
    (B : Below (AX dp un gd l) base l g) (X : (hd.heap_39 w.params).In g) (T : Top hd.view_39 LS mean mg mb g) (XB : (hd.heap_39 w.params).In base) (TB : Top hd.view_39 LS mean mg mb base) (D : KtsDicts (l.filterMap (·.frame)) g)
    (Kp : Kept g s.heap) (hrd : g.get? ln = some (listOf vsN.toArray nN)) (hbare : AllBare s.gens) (hdp : dp + 61 < recursionLimit) (hun : un + 10 * 61 < cLine)
    (ret : ∀ h' tk gens', AllBare gens' → base.StaysIn h' → R (.ok (.ret (.bool true))) ⟨h', gens', s.drawn, tk, s.os⟩) :
    codeN (model PG w) (AX dp un gd l) (.call (.ref 392) ⟨[.int greatest tgr, .int delay tdl, .ref ln, .int cut tcu], []⟩) R s := by
  w_on
  have N : Led g s.heap [] := fun _ h => nomatch h
  walk_at "mine enterN"
  refine wpN_mono (E := fun _ _ => False) ?_ (fun _ _ h => h) (fun _ _ h => h.elim)
  refine wpN_execs_cons (wpN_of ?_)
  repeat' walk_at "mine oneD"
  (with_reducible rename Fr g _ _ _ => F1)
  (with_reducible rename News g _ _ _ => N1)
  replace F1 := fr_pick (x := Str.ofString "pairs") (v := .ref _) (fr_pick (x := Str.ofString "greatest") (v := .int greatest tgr) (fr_pick (x := Str.ofString "delay") (v := .int delay tdl) (fr_pick (x := Str.ofString "cut") (v := .int cut tcu) (fr_pick (x := Str.ofString "numbers") (v := .ref ln) F1 rfl) rfl) rfl) rfl) rfl
  have hvl := hI.length
  have hz : vsN.toArray.size ≤ 16777216 := by rw [List.size_toArray]; omega
  refine wpN_execs_cons (wpN_of ?_)
  obtain ⟨m₀, hm₀⟩ := fr_map F1
  refine exec_join F1 (fun m nx => ∃ trs P kP, trips trs = (if ns = [] then [(0, 0, 0)] else ns.map trip) ∧ m (Str.ofString "pairs") = some (.ref P) ∧ (∀ y, [Str.ofString "pairs"].contains y = false → m y = m₀ y) ∧ nx = (P, listOf (refs3 trs).toArray kP) :: rows3 trs) ?_ ?_
  · rcases Classical.em (ns = []) with hns | hns
    · have hb : (!vsN.toArray.isEmpty) = false := by
        have : vsN = [] := List.length_eq_zero_iff.mp (by rw [hvl, hns]; rfl)
        rw [this]; rfl
      repeat' walk_at "mine oneD"
      (with_reducible rename Fr g _ _ _ => F2)
      (with_reducible rename News g _ _ _ => N2)
      obtain ⟨trs, ht, N3⟩ := pull_zero N2
      exact JoinPost.intro F2 N3 ⟨trs, _, _, by rw [if_pos hns]; exact ht, rfl, fun y hy => by rw [hm₀], rfl⟩
    · have hb : (!vsN.toArray.isEmpty) = true := by
        cases vsN with
        | nil => exact absurd (List.length_eq_zero_iff.mp hvl.symm) hns
        | cons v r => rfl
      repeat' walk_at "mine oneD"
      refine halt ?_
      refine LCg.Assign_ListComp_U (F₀ := F1) (by rfl) (by with_unfolding_all rfl) (by with_unfolding_all rfl) (by decide) (by rfl) (by decide) (by rfl) (by rfl) (by rfl) ?_
      repeat' walk_at "mine oneD"
      refine LCg.CompSrc.base (its := vsN.toArray) (by rfl) F1 N1 ⟨_, hrd, rfl, _, rfl⟩ (by rw [sizeLine_eq]; exact hz) fun gg => ?_
      refine comp3 (vsN := vsN) (ns := ns) hI (fun _ => .inl ⟨_, hrd, rfl, _, rfl⟩) ?helt ?fin vsN.toArray.size 0 [] (by rw [List.size_toArray]; omega) rfl
      case helt =>
        intro n t C oC m₂ h tk nw Q' E' hoC hm2 F2 N2 hk
        clear F1 N1
        repeat' walk_at "mine oneD"
        refine hk _ _ _ _ _ _ (by assumption) (by assumption) fun p hp => ?_
        have l1 := ‹C < _ ∧ _›
        rcases List.mem_cons.mp hp with rfl | hp
        · exact l1.1
        · exact allLt_mem l1.2 p hp
      case fin =>
        intro trs ht D h tk F2 N2 off
        have N3 : News g _ h ((D, listOf (refs3 trs).toArray (refs3 trs).length) :: rows3 trs) := news_sub N2 fun p hp => by
          rcases List.mem_cons.mp hp with rfl | hp
          · exact .head _
          · exact .tail _ (List.mem_append_left _ hp)
        clear N2 off N1 F1
        dsimp only
        repeat' walk_at "mine oneD"
        refine JoinPost.intro F2 N3 ⟨trs, D, _, by rw [if_neg hns]; exact ht, rfl, fun y hy => ?_, rfl⟩
        rw [hm₀]
        exact if_neg fun e => by subst e; exact absurd hy (by decide)
  · rintro h' tk m₁ news₁ F2 N2 ⟨trs, P, kP, ht, hmp, hm, rfl⟩
    rw [trk1 (st := []) hmp hm] at F2
    subst hm₀
    clear F1 N1
    dsimp only
    have htl : trs.length = if ns = [] then 1 else ns.length := by
      have := congrArg List.length ht
      rw [List.length_map] at this
      rw [this]
      split
      · rfl
      · rw [List.length_map]
    have hlen0 : 1 ≤ trs.length := by
      rw [htl]
      split
      · exact Nat.le_refl _
      · rename_i hns
        exact List.length_pos_iff.mpr hns
    have hlen1 : trs.length ≤ 24 := by
      rw [htl]
      split <;> omega
    have hok : ∀ y ∈ trs, 0 ≤ y.a ∧ y.a ≤ 1000 ∧ 0 ≤ y.b ∧ y.b ≤ 1000 ∧ y.c ≤ 3 := fun y hy => by
      have hm : (y.a, y.b, y.c) ∈ trips trs := List.mem_map.mpr ⟨y, hy, rfl⟩
      rw [ht] at hm
      split at hm
      · have e := List.mem_singleton.mp hm
        injection e with e1 e2
        injection e2 with e2 e3
        omega
      · obtain ⟨n, _, e⟩ := List.mem_map.mp hm
        have b := trip_range n
        rw [e] at b
        exact b
    obtain ⟨y0, hy0⟩ : ∃ y0, trs[0]? = some y0 := ⟨trs[0], List.getElem?_eq_getElem _⟩
    obtain ⟨yl, hyl⟩ : ∃ yl, trs[trs.length - 1]? = some yl := ⟨trs[trs.length - 1], List.getElem?_eq_getElem _⟩
    have F3 := fr_pick (x := Str.ofString "pairs") (v := .ref P) (fr_pick (x := Str.ofString "greatest") (v := .int greatest tgr) (fr_pick (x := Str.ofString "delay") (v := .int delay tdl) (fr_pick (x := Str.ofString "cut") (v := .int cut tcu) F2 rfl) rfl) rfl) rfl
    have done := fun tk => pulled_rest (Q := fun fl s' => R (.ok (.ret (match fl with | .ret v => v | _ => .none))) s') (s := ⟨h', s.gens, s.drawn, tk, s.os⟩) hg0 hg1 hd0 hd1 hlen1 hlen0 hy0 hyl hok B X T XB TB D (by omega) (by omega) hbare F3 N2 fun h' tk gens' hb hK => ret h' tk gens' hb hK
    obtain ⟨hb, he⟩ := at_of (K := hd.heap_39 w.params) (f := 392) (by k_is)
    rw [hb, he] at done
    simp only [List.drop_succ_cons, List.drop_zero] at done
    exact done _
end Mine
end
section
open PySem PySem.W PyProof.Rows PySem.Calls
set_option maxRecDepth 100000
set_option maxHeartbeats 1000000
namespace Mine
def envAtC (K : Frag) (f L : Addr) : Env := match K.lookup f with
  | some ⟨_, _, .func fd, _⟩ => envOfC fd.qualname fd.scope L f fd.code
  | _ => default
theorem atC_of {K : Frag} {name qual : Str} {params : Arguments} {body : List Stmt} {scope : Scope} {dV kV doc pm cdv ct oc : Value} {an od : Option Addr} {osl : Array (Option Value)} {f : Addr} (ho : K.lookup f = some ⟨oc, od, .func (fnOf name qual params body scope dV kV doc pm an cdv ct), osl⟩) : bodyAt K f = body ∧ ∀ L, envAtC K f L = envOfC qual scope L f cdv := by
  constructor
  · unfold bodyAt; rw [ho]
  · intro L; unfold envAtC; rw [ho]
theorem wpN_not_call {M : Model} {A : Around} {E : Value → Shared → Prop} {s : Shared} {env : Env} {f : Expr} {args : List Expr} {kws : List Keyword} {pos p' : Pos} {whole : Sem Value} {Q : Bool → Shared → Prop}
    (h : wpN M A (eval (.Call f args kws pos) env) (fun v s₁ => v = .bool true ∧ Q false s₁) E s) : wpN M A (isTrue (.UnaryOp .Not (.Call f args kws pos) p') env whole) Q E s := by
  rw [arm_isTrue_UnaryOp]
  refine wpN_bind ?_
  show wpN M A (do let v ← eval (.Call f args kws pos) env; standAt (Expr.Call f args kws pos).pos; holding [v] (truthy v)) _ E s
  refine wpN_bind (wpN_mono h (fun v s₁ hv => ?_) fun _ _ x => x)
  obtain ⟨rfl, hq⟩ := hv
  refine wpN_any (wpAny_standAt (wpN_of (wpAny_holding ?_)))
  exact wpAny_of_eq (a := true) rfl (wpN_pure hq)
theorem menu7 (k : Int) (h0 : 0 ≤ k) (h1 : k < 7) : 0 ≤ ([0, 3, 62, 16380, 1073741819, 10 ^ Int.toNat 12, 4611686018427387904 - 1073741824] : List Int).getD k.toNat 0 ∧ ([0, 3, 62, 16380, 1073741819, 10 ^ Int.toNat 12, 4611686018427387904 - 1073741824] : List Int).getD k.toNat 0 ≤ 4611686017353646080 := by
  have h : k = 0 ∨ k = 1 ∨ k = 2 ∨ k = 3 ∨ k = 4 ∨ k = 5 ∨ k = 6 := by omega
  rcases h with rfl | rfl | rfl | rfl | rfl | rfl | rfl <;> decide
theorem menu4 (k : Int) (h0 : 0 ≤ k) (h1 : k < 4) : 0 < ([64, 16384, 1 * 2 ^ Int.toNat 30, 1 * 2 ^ Int.toNat 62] : List Int).getD k.toNat 0 ∧ ([64, 16384, 1 * 2 ^ Int.toNat 30, 1 * 2 ^ Int.toNat 62] : List Int).getD k.toNat 0 ≤ 4611686018427387904 := by
  have h : k = 0 ∨ k = 1 ∨ k = 2 ∨ k = 3 := by omega
  rcases h with rfl | rfl | rfl | rfl <;> decide
theorem menu4' (k : Int) : 0 < ([64, 16384, 1 * 2 ^ Int.toNat 30, 1 * 2 ^ Int.toNat 62] : List Int).getD (k % 4).toNat 0 ∧ ([64, 16384, 1 * 2 ^ Int.toNat 30, 1 * 2 ^ Int.toNat 62] : List Int).getD (k % 4).toNat 0 ≤ 4611686018427387904 :=
  menu4 _ (Int.emod_nonneg _ (by decide)) (Int.emod_lt_of_pos _ (by decide))
theorem mod_menu {prog : Program} {w : World} {A : Around} {E : Value → Shared → Prop} {s : Shared} {Q : Value → Shared → Prop} {a k : Int} {t u : Tok} (h : Q (.int (a % ([64, 16384, 1 * 2 ^ Int.toNat 30, 1 * 2 ^ Int.toNat 62] : List Int).getD (k % 4).toNat 0) s.toks) { s with toks := s.toks + 1 }) :
    wpAny (model prog w) A (binaryOp .Mod (.int a t) (.int (([64, 16384, 1 * 2 ^ Int.toNat 30, 1 * 2 ^ Int.toNat 62] : List Int).getD (k % 4).toNat 0) u)) Q E s := mod_lit (menu4' k).1 h
theorem slice_script {prog : Program} {w : World} {A : Around} {E : Value → Shared → Prop} {s : Shared} {Q : Value → Shared → Prop} {value slice : PySem.Expr} {g : Heap} {L ax : Addr} {m : Str → Option Value} {vs : List Value} {ns : List Int} {news : List (Addr × Obj)} {x y : Int} {tx ty : Tok}
    (F : Fr g L s.heap m) (N : News g L s.heap news) (hl : g.IsList ax vs.toArray) (hI : IntsAre vs ns) (h0 : 0 ≤ x) (h1 : 0 ≤ y) (hz : ns.length ≤ 1000000)
    (h : ∀ h' z us ms, IntsAre us ms → ms.length ≤ y.toNat - x.toNat → Fr g L h' m → News g L h' ((z, listOf us.toArray 0) :: news) → (∀ p ∈ news, p.1 < z) → Q (.ref z) { s with heap := h' })
    (hs : subscripted slice false (.ref ax) (.ref s.heap.objs.size) = operate [.ref s.heap.objs.size, .ref ax] (getItem (.ref ax) (.ref s.heap.objs.size)) := by with_unfolding_all rfl) :
    wpAny (model prog w) A (subscriptTail value slice (.ref ax) (.ref s.heap.objs.size)) Q E { s with heap := s.heap.push { cls := .type "slice", data := .fields #[.int x tx, .int y ty, .none] } } := by
  have hl' : (s.heap.push { cls := .type "slice", data := .fields #[.int x tx, .int y ty, .none] }).IsList ax vs.toArray := (hl.at (F.keep ax)).push _
  refine tail_any (T := "list") hl'.typeIs slot_list_getitem.lookup ?_ hs
  refine wpAny_getItem_list_slice (s := { s with heap := s.heap.push { cls := .type "slice", data := .fields #[.int x tx, .int y ty, .none] } }) hl' (Heap.IsSliceOf.new _ _ _ _) (.int _ _) (.int _ _) .none (by simp) ?_ (by rw [List.size_toArray, hI.length, sizeLine_eq]; omega)
  have N1 := News.pushKeep N { cls := .type "slice", data := .fields #[.int x tx, .int y ty, .none] }
  have F1 := F.push { cls := .type "slice", data := .fields #[.int x tx, .int y ty, .none] }
  have hr := kmk_run hI h0 h1
  have e : slicePick vs.toArray (some x) (some y) none = (slicePick vs.toArray (some x) (some y) none).toList.toArray := by rw [Array.toArray_toList]
  rw [e]
  exact h _ _ _ _ hr (by rw [List.length_take]; omega) (F1.push _) (News.push F1 N1 _ rfl) (fun p hp => Heap.lt_size (N1 p hp).1)
end Mine
end
section
open PySem PySem.W PyProof.Rows PySem.Calls
set_option maxRecDepth 100000
set_option maxHeartbeats 1000000
namespace Mine
local macro_rules | `(tactic| walk_at "mine none") => `(tactic| fail "none")
theorem lead_len (x : Int) : ((List.replicate (x / 400 % 3).toNat [Nat.toUInt8 7]).flatten).length ≤ 2 := by
  have h1 := Int.emod_nonneg (x / 400) (show (3 : Int) ≠ 0 by decide)
  have h2 := Int.emod_lt_of_pos (x / 400) (show (0 : Int) < 3 by decide)
  have h3 : (x / 400 % 3).toNat = 0 ∨ (x / 400 % 3).toNat = 1 ∨ (x / 400 % 3).toNat = 2 := by omega
  rcases h3 with e | e | e <;> rw [e] <;> decide
theorem law_pulled_call {w : World} {dp un : Nat} {gd : Option (List Code)} {env : Env} {g : Heap} {L : Addr} {s : Shared} {m : Str → Option Value} {mean : ExcName → Option Value} {mg mb : Str → Option Value} {news : List (Addr × Obj)} {Q E : Value → Shared → Prop}
    {greatest delay cut : Int} {tgr tdl tcu : Tok} {ln : Addr} {vsN : List Value} {ns : List Int} {nN : Nat}
    (hg0 : 0 ≤ greatest) (hg1 : greatest < 4611686018427387904) (hd0 : 0 ≤ delay) (hd1 : delay < 4611686018427387904) (hI : IntsAre vsN ns) (hlen : ns.length ≤ 24)
    (B : Below (AX dp un gd []) g [] g) (F : Fr g L s.heap m) (X : (hd.heap_39 w.params).In g) (T : Top hd.view_39 LS mean mg mb g) (N : News g L s.heap news) (hf : env.frame = some L) (hke : env.scope.kind = .function)
    (hm : (ln, listOf vsN.toArray nN) ∈ news) (hbare : AllBare s.gens) (hdp : dp + 1 + 61 < recursionLimit) (hun : un + 3 + 10 * 61 < cLine)
    (k : ∀ h' tk gens', AllBare gens' → g.StaysIn h' → Q (.bool true) ⟨h', gens', s.drawn, tk, s.os⟩) :
    wpN (model PG w) ((AX dp un gd []).deeper env) (call (.ref 392) [.int greatest tgr, .int delay tdl, .ref ln, .int cut tcu]) Q E s := by
  obtain ⟨g', ⟨B', X', T', K', _, _⟩, Fg, hR, st⟩ := use2 (w := w) (dp := dp + 1) (un := un + 3) (gd := gd) (env := env) B F X T N hf hke [] news (fun _ h => nomatch h) (fun _ h => h) (fun _ _ _ h => nomatch h)
  refine wpN_call ?_
  refine law_pulled hg0 hg1 hd0 hd1 hI hlen B' X' T' X T ?_ K' (hR _ hm) hbare (by omega) (by omega) fun h' tk gens' hb hs => k h' tk gens' hb hs
  intro a ha
  obtain ⟨oL, es, ep, hoL, hdL, _⟩ := Fg.ns
  have e : [env].filterMap (·.frame) = [L] := by simp [hf]
  rw [e] at ha
  have e : a = L := List.mem_singleton.mp ha
  exact ⟨oL, es, ep, e ▸ hoL, hdL⟩
local macro_rules | `(tactic| walk_at "mine room") => `(tactic| first | (dsimp only; omega) | ((try simp only [depth_mark, depth_under_make, depth_under_kw, depth_in1, depth_deeper, units_deeper, units_in1, units_under_make]); (try dsimp only); omega))
local macro_rules | `(tactic| walk_at "mine one") => `(tactic| (first | (k_unfold; (try dsimp only)) | (k_end; wrow_close) | walk1 | (dsimp only; walk1) | (leave1; walk_say "STEP leave1"; try dsimp only) | (dsimp only; k_unfold; (try dsimp only)) | (dsimp only [StepO]; k_unfold; (try dsimp only)) | fail "no step"))
local macro_rules | `(tactic| walk_at "mine enter") => `(tactic| (refine' enter ?k1 ?k2 ?k3 ?k4 ?k5 ?kd ?k6 ?k7 ?k8 ?k9 ?_ ?c2 ?c3 ?c4 ?c5; (case k1 => assumption); (case k2 => assumption); (case k3 => assumption); (case k4 => assumption); (case k5 => assumption); (case kd => omega); (case k6 => k_is); (case k7 => k_is); (case k8 => first | exact BindsTo.of_eq rfl | exact binds_K (Frag.In.keeps (by assumption) (Kept.keep (by assumption))) rfl (by k_is) rfl rfl rfl | exact binds_K (by k_in) rfl (by k_is) rfl rfl rfl); (case c5 => decide); (case k9 => exact locs rfl); (case c2 => exact rfl); (case c3 => exact rfl); (case c4 => exact rfl); k_whole; intro L' h' F' N' K'; (try dsimp only); (try k_fold)))
local macro_rules | `(tactic| walk_at "mine wr") => `(tactic| ((repeat (refine List.forall_mem_cons.mpr ⟨?_, ?_⟩; (· k_mem))); exact List.forall_mem_nil _))
local macro_rules | `(tactic| walk_at "mine split") => `(tactic| (repeat' (first | exact Split.nil | (refine' Split.keep ?a ?_; (case a => k_all)) | refine' Split.drop ?_)))
local macro_rules | `(tactic| walk_at "mine con") => `(tactic| ((case kB => assumption); (case kF => k_asm); (case kX => assumption); (case kT => assumption); (case kN => k_asm); (case kf => exact rfl); (case kk => exact rfl); (case kw => walk_at "mine wr"); (case ks => walk_at "mine split"); (case kd => walk_at "mine room"); (case ku => walk_at "mine room")))
local macro_rules | `(tactic| walk_at "mine conE") => `(tactic| ((case kB => assumption); (case kF => k_asm); (case kX => assumption); (case kT => assumption); (case kN => k_asm); (case kf => exact rfl); (case kk => exact rfl); (case kw => walk_at "mine wr"); (case ks => walk_at "mine split"); (case kd => walk_at "mine room"); (case ku => walk_at "mine room")))
local macro_rules | `(tactic| k_room) => `(tactic| ((try simp only [depth_mark, depth_under_make, depth_under_kw, depth_in1, depth_deeper, depth_caller]); (try dsimp only); omega))
local macro_rules | `(tactic| walk_at "mine map") => `(tactic| (refine' map_off _ ?hs ?a; (case a => (intro y hy; (have nn : ∀ z, _ = true → y ≠ z := fun z hz e => by subst e; exact absurd (hz.symm.trans hy) (by decide)); (try dsimp only); (repeat rw [if_neg (nn _ (by decide))]); first | done | exact rfl)); (case hs => decide)))
local macro_rules | `(tactic| walk_at "mine oneD") => `(tactic| (first | (k_unfold; (try dsimp only)) | (k_end; wrow_close) | (walk1; (try dsimp only [List.cons_append, List.nil_append])) | (dsimp only; walk1) | (leave1; walk_say "STEP leave1"; try dsimp only) | (dsimp only; k_unfold; (try dsimp only)) | (dsimp only [StepO]; k_unfold; (try dsimp only)) | fail "no step"))
local macro_rules | `(tactic| walk_at "mine size") => `(tactic| ((try simp only [Array.size_append]); refine Nat.le_trans (by first | exact Nat.add_le_add (Nat.add_le_add (KBc.size_picked_le _ _ _) (Nat.le_refl _)) (KBc.size_picked_le _ _ _) | exact Nat.add_le_add (KBc.size_picked_le _ _ _) (Nat.le_refl _) | exact KBc.size_picked_le _ _ _) ?_; simp only [List.size_toArray, List.length_append]; omega))
local macro_rules | `(tactic| walk_at "call builtin:len") => `(tactic| (k_here; (with_reducible show wpAny _ _ (call (Value.builtin "len") [Value.ref _]) _ _ _); (with_reducible rename News _ _ _ _ => N'); (first | (refine' len_app ?ba ?hz ?_; (case ba => exact led_ba N' (by k_mem)); (case hz => omega); k_whole) | (refine' len_bs ?ba ?hz ?_; (case ba => exact led_ba N' (by k_mem)); (case hz => omega); k_whole))))
local macro_rules | `(tactic| walk_at "subscriptTail") => `(tactic| (k_here; (with_reducible show wpAny _ _ (subscriptTail _ (Expr.Slice _ _ none _) (Value.ref _) (Value.ref _)) _ _ _); (with_reducible rename Fr _ _ _ _ => F'); (with_reducible rename News _ _ _ _ => N'); (refine' BA.slice_N (s := ⟨_, _, _, _, _⟩) F' N' ?ba (by constructor) (by constructor) ?hz ?_; (case ba => exact led_ba N' (by k_mem)); (case hz => walk_at "mine size"); intro h' x' F' N' l1; (try k_lt l1); (try k_sweep); (try dsimp only))))
local macro_rules | `(tactic| walk_at "binaryOp Add") => `(tactic| (k_here; (with_reducible show wpAny _ _ (binaryOp _ (Value.ref _) (Value.bytes _ _)) _ _ _); (with_reducible rename Fr _ _ _ _ => F'); (with_reducible rename News _ _ _ _ => N'); (refine' BA.add_b F' N' ?ba ?hz ?_; (case ba => exact led_ba N' (by k_mem)); (case hz => walk_at "mine size"); intro h' x' F' N' l1; (try k_lt l1); (try k_sweep); (try dsimp only))))
local macro_rules | `(tactic| walk_at "binaryOp Add") => `(tactic| (k_here; (with_reducible show wpAny _ _ (binaryOp _ (Value.ref _) (Value.ref _)) _ _ _); (with_reducible rename Fr _ _ _ _ => F'); (with_reducible rename News _ _ _ _ => N'); (refine' BA.add_ba F' N' ?ba ?bb ?hz ?_; (case ba => exact led_ba N' (by k_mem)); (case bb => exact led_ba N' (by k_mem)); (case hz => walk_at "mine size"); intro h' x' F' N' l1; (try k_lt l1); (try k_sweep); (try dsimp only))))
local macro_rules | `(tactic| walk_at "call type:bytes") => `(tactic| (k_here; (with_reducible show wpAny _ _ (call (Value.type "bytes") [Value.ref _]) _ _ _); (with_reducible rename News _ _ _ _ => N'); (refine' BA.bytes_of ?ba ?hz ?_; (case ba => exact led_ba N' (by k_mem)); (case hz => walk_at "mine size"); intro _ _; (try dsimp only))))
local macro_rules | `(tactic| k_inst) => `(tactic| (refine' Mine.InstAt.of_base ?F ?h1 ?h2; (case F => k_asm); (case h1 => assumption); (case h2 => assumption)))
local macro_rules | `(tactic| walk_at "mine dis") => `(tactic| (repeat' (first | exact List.forall_mem_nil _ | refine List.forall_mem_cons.mpr ⟨?_, ?_⟩ | (refine Or.inr (cls_ne ?_); (simp; done)) | (refine Or.inr (key_ne ?_); exact rfl) | (refine Or.inr (it_ne (by assumption) ?_); (simp; done)) | (refine Or.inr (it_ne' (by assumption) ?_); (simp; done)) | exact .inl (by k_ne))))
local macro_rules | `(tactic| walk_at "mine split2") => `(tactic| (repeat' (first | with_reducible exact Split2.nil | with_reducible exact Split2.all | with_reducible exact Split2.tail rows_off_buf | with_reducible exact Split2.tail rows_off_rs | (with_reducible refine Split2.tail (rowsT_off ?_); (simp; done)) | (with_reducible refine' Split2.drop2 ?h ?_; (case h => with_reducible k_mem)) | (refine' Split2.keep ?a ?_; (case a => walk_at "mine dis")) | refine' Split2.drop ?_ | exact Split2.nil)))
local macro_rules | `(tactic| walk_at "mine conF") => `(tactic| ((case kB => assumption); (case kF => k_asm); (case kX => assumption); (case kT => assumption); (case kN => k_asm); (case kf => exact rfl); (case kk => exact rfl); (case kw => walk_at "mine wr"); (case ks => walk_at "mine split2"); (case kr => walk_at "mine rd"); (case kd => walk_at "mine room"); (case ku => walk_at "mine room")))
local macro_rules | `(tactic| walk_at "mine rd") => `(tactic| first | exact List.forall_mem_nil _ | (refine fun p hp => Or.inl ?_; simp only [List.mem_cons, List.mem_append, rowsL_cons, List.not_mem_nil, or_false, List.append_assoc] at hp ⊢; (repeat' (refine Or.elim hp ?_ ?_ <;> clear hp <;> intro hp)); all_goals (first | walk_at "mine or" | (subst hp; simp; done))))
local macro_rules | `(tactic| walk_at "exec For Name Call cons nil") => `(tactic| (k_here; (rename Fr _ _ _ _ => lF'); (with_unfolding_all refine' For_turns lF' ?_; k_whole)))
local macro_rules | `(tactic| walk_at "exec For Name Name cons nil") => `(tactic| (k_here; (rename Fr _ _ _ _ => lF'); (with_unfolding_all refine' For_turns lF' ?_; k_whole)))
local macro_rules | `(tactic| walk_at "exec For Tuple Call cons nil") => `(tactic| (k_here; (rename Fr _ _ _ _ => lF'); (with_unfolding_all refine' For_turns lF' ?_; k_whole)))
local macro_rules | `(tactic| walk_at "exec For Tuple Subscript cons nil") => `(tactic| (k_here; (rename Fr _ _ _ _ => lF'); (with_unfolding_all refine' For_turns lF' ?_; k_whole)))
local macro_rules | `(tactic| walk_at "call type:enumerate") => `(tactic| (k_here; (with_reducible show wpAny _ _ (call (Value.type _) [Value.ref _]) (fun xv s₁ => wpAny _ _ (pyIter xv) (fun it s₂ => TurnsAt _ _ _ _ _ _ _ _ _ it s₂) _ s₁) _ _); refine halt ?_))
local macro_rules | `(tactic| walk_at "pyIter ref") => `(tactic| (k_here; (with_reducible show wpAny _ _ (pyIter (Value.ref _)) (fun it s₂ => TurnsAt _ _ _ _ _ _ _ _ _ it s₂) _ _); refine halt ?_))
local macro_rules | `(tactic| walk_at "pyIter ref") => `(tactic| (k_here; (with_reducible show wpAny _ _ (pyIter (Value.ref _)) (fun it s₂ => TurnsAt _ _ _ _ _ _ _ _ _ it s₂) _ _); k_dflt (refine' iter_nil ?h ?F ?N ?X ?e ?_; (case h => exact rfl); (case F => k_asm); (case N => k_asm); (case X => k_asm); (case e => k_is); intro h' tk' F' N'; (try k_sweep); (try dsimp only))))
local macro_rules | `(tactic| walk_at "mine or") => `(tactic| first | with_reducible assumption | (with_reducible exact Or.inl (by with_reducible assumption)) | (refine Or.inr ?_; walk_at "mine or"))
local macro_rules | `(tactic| walk_at "mine sub") => `(tactic| (intro p hp; simp only [List.mem_cons, List.mem_append, rowsL_cons, List.not_mem_nil, or_false, List.append_assoc] at hp ⊢; (repeat' (refine Or.elim hp ?_ ?_ <;> clear hp <;> intro hp)); all_goals (first | walk_at "mine or" | (subst hp; simp; done))))
local macro_rules | `(tactic| walk_at "call builtin:list.append") => `(tactic| (k_here; (with_reducible show wpAny _ _ (call (Value.builtin _) [Value.ref _, _]) _ _ _); k_dflt (refine' append_S ?F ?N ?m ?s ?z ?_; (case F => k_asm); (case N => k_asm); (case m => k_mem); (case s => walk_at "mine split2"); (case z => (simp only [List.length_map, List.size_toArray]; omega)); intro h' F' N'; (try k_sweep); (try dsimp only))))
local macro_rules | `(tactic| walk_at "binaryOp FloorDiv int int") => `(tactic| (k_here; (with_reducible show wpAny _ _ (binaryOp _ (Value.int _ _) (Value.int _ _)) _ _ _); (refine' div_lit ?hb ?hp ?_; (case hb => decide); (case hp => exact PyProof.noPylong_of_log2 (by decide +kernel)))))
local macro_rules | `(tactic| walk_at "binaryOp Mod int int") => `(tactic| (k_here; (with_reducible show wpAny _ _ (binaryOp _ (Value.int _ _) (Value.int _ _)) _ _ _); (refine' mod_lit ?hb ?_; (case hb => decide))))
local macro_rules | `(tactic| walk_at "binaryOp Mult int int") => `(tactic| (k_here; (with_reducible show wpAny _ _ (binaryOp _ (Value.int _ _) (Value.int _ _)) _ _ _); (refine' mul_b ?h1 ?h2 ?_; (case h1 => omega); (case h2 => omega))))
local macro_rules | `(tactic| walk_at "binaryOp Mod int int") => `(tactic| (k_here; (with_reducible show wpAny _ _ (binaryOp _ (Value.int _ _) (Value.int (List.getD _ _ _) _)) _ _ _); (refine' mod_menu ?_)))
local macro_rules | `(tactic| walk_at "subscriptTail") => `(tactic| (k_here; (with_reducible show wpAny _ _ (subscriptTail _ (Expr.Slice (some _) (some _) none _) (Value.ref _) (Value.ref _)) _ _ _); (with_reducible rename Fr _ _ _ _ => F'); (with_reducible rename News _ _ _ _ => N'); (refine' slice_script (s := ⟨_, _, _, _, _⟩) F' N' ?hl ?hI ?h0 ?h1 ?hz ?_; (case hl => assumption); (case hI => assumption); (case h0 => decide); (case h1 => decide); (case hz => omega); intro h' z' us' ms' hI' hlen' F' N' l1; (try k_lt l1); (try k_sweep); (try dsimp only))))
local macro_rules | `(tactic| walk_at "mine noerr") => `(tactic| (rotate_left; (focus (intro e' t' cls' vs' g₂' h' tk' hp' R' F' U'; exact hp'.elim))))
local macro_rules | `(tactic| walk_at "call ref") => `(tactic| (k_here; (k_dflt (show wpAny _ _ (call (Value.ref 375) [Value.int _ _, Value.ref _]) _ _ _)); k_dflt (refine' ConE.call2 (law_rows ?h0 ?h1 ?hI ?hl) ?kB ?kF ?kX ?kT ?kN ?kf ?kk ?kw ?ks ?kr ?kd ?ku ?_ ?_; (case hI => assumption); walk_at "mine conF"; (case h0 => omega); (case h1 => omega); (case hl => omega); walk_at "mine noerr"; (intro v' news' h' tk' hp' F' N'; obtain ⟨D', n', trs', hv', hn', hpr'⟩ := hp'; subst hv'; subst hn'; dsimp only [List.cons_append, List.nil_append] at N'; (try k_sweep); (try dsimp only)))))
theorem law_tail2 {w : World} {mean : ExcName → Option Value} {mg mb : Str → Option Value} {ax D L R : Addr} {vs : List Value} {ns : List Int} {a0 a1 a2 b delay : Int} {t0 t1 t2 tb tdl : Tok} {trs : List TR} {nR : Nat} {g h : Heap} {gg : Array GenState} {dd : Drawn} {tk : Nat} {os : OsState} {oc : Obj} {m₀ : Str → Option Value} {Q : Flow → Shared → Prop} {dp un : Nat} {gd : Option (List Code)}
    (hb0 : 0 ≤ b) (hb1 : b ≤ 4611686017353646080) (hd0 : 0 ≤ delay) (hd1 : delay < 4611686018427387904) (hne : trs ≠ []) (hasc : Asc (pairsT trs)) (hbd : ∀ q ∈ pairsT trs, 0 ≤ q.1 ∧ q.2 ≤ 4611686018427387904) (hlt : trs.length ≤ 30)
    (X : (hd.heap_39 w.params).In g) (T : Top hd.view_39 LS mean mg mb g) (hL : g.IsList ax vs.toArray) (hI : IntsAre vs ns) (hlen : ns.length ≤ 63) (hbare : AllBare gg) (hoc : oc.data = .cell (some (.ref ax)))
    (B : Below (AX dp un gd []) g [] g) (hdp : dp + 100 < recursionLimit) (hun : un + 1000 < cLine)
    (F : Fr g L h (fun y => if y = Str.ofString "rows" then some (.ref R) else if y = Str.ofString "delay" then some (.int delay tdl) else if y = Str.ofString "base" then some (.int b tb) else if y = Str.ofString "head" then some (.ref D) else m₀ y))
    (N : News g L h ((R, listOf (refsT trs).toArray nR) :: (D, listOf #[.int a0 t0, .int a1 t1, .int a2 t2] 3) :: (L + 1, oc) :: rowsT trs))
    (ret : ∀ h' tk gens', AllBare gens' → g.StaysIn h' → Q (.ret (.bool true)) ⟨h', gens', dd, tk, os⟩) :
    wpN (model PG w) ((AX dp un gd []).deeper (envAtC (hd.heap_39 w.params) 397 L)) (execs ((bodyAt (hd.heap_39 w.params) 397).drop 4) (envAtC (hd.heap_39 w.params) 397 L)) Q (fun _ _ => False) ⟨h, gg, dd, tk, os⟩ := by
  w_on
  obtain ⟨hb, he⟩ := atC_of (K := hd.heap_39 w.params) (f := 397) (by k_is)
  rw [hb, he]
  clear hb he
  simp only [List.drop_succ_cons, List.drop_zero]
  refine wpN_execs_cons (wpN_of ?_)
  repeat' walk_at "mine oneD"
  (with_reducible rename Fr g _ _ _ => F1)
  (with_reducible rename News g _ _ _ => N1)
  have hll := lead_len ([a0, a1, a2].getD 1 0)
  generalize (List.replicate ([a0, a1, a2].getD 1 0 / 400 % 3).toNat [Nat.toUInt8 7]).flatten = lead at F1 hll
  have N2 : News g L _ ((R, listOf (refsT trs).toArray nR) :: (D, listOf #[.int a0 t0, .int a1 t1, .int a2 t2] 3) :: (L + 1, oc) :: rowsT trs) := news_sub N1 fun p hp => .tail _ hp
  clear N1
  refine wpN_execs_cons (wpN_IfN (wpN_not_call (wpN_Call ?_)))
  repeat' walk_at "mine oneD"
  refine callWithN_K (K := hd.heap_39 w.params) (by k_is) ?_
  repeat' walk_at "mine oneD"
  refine' ConN.call (law_pushed hne hasc hbd hd0 hd1 ?hc0 ?hc1 hlt hll) ?kB ?kF ?kX ?kT ?kN ?kf ?kk ?kw ?ks ?kr ?kb ?kd ?ku ?_
  (case hc0 => omega); (case hc1 => omega); (case kB => assumption); (case kF => k_asm); (case kX => assumption); (case kT => assumption); (case kN => k_asm); (case kf => exact rfl); (case kk => exact rfl); (case kw => walk_at "mine wr"); (case ks => exact Split2.all)
  (case kr => exact List.forall_mem_cons.mpr ⟨.inl (.head _), fun p hp => .inl (.tail _ (.tail _ (.tail _ hp)))⟩); (case kb => exact hbare); (case kd => walk_at "mine room"); (case ku => walk_at "mine room")
  rintro v news' h2 tk2 gens2 ⟨rfl, rfl⟩ hbare2 F2 N3
  rw [List.nil_append] at N3
  refine ⟨rfl, ?_⟩
  rw [if_neg Bool.false_ne_true]
  refine wpN_of (wpAny_execs_nil ?_)
  clear N2
  refine wpN_execs_cons (wpN_of ?_)
  repeat' walk_at "mine oneD"
  (with_reducible rename Fr g _ _ _ => F4)
  (with_reducible rename News g _ _ _ => N4)
  obtain ⟨m₁, hm₁⟩ := fr_map F4
  have hg0 := Int.emod_nonneg ([a0, a1, a2].getD 1 0 / 5) (show (900 : Int) ≠ 0 by decide)
  have hg1 := Int.emod_lt_of_pos ([a0, a1, a2].getD 1 0 / 5) (show (0 : Int) < 900 by decide)
  refine wpN_execs_cons (wpN_of ?_)
  refine exec_join F4 (fun m nx => nx = (R, listOf (refsT trs).toArray nR) :: (D, listOf #[.int a0 t0, .int a1 t1, .int a2 t2] 3) :: (L + 1, oc) :: rowsT trs ∧ (∃ gr tgr, m (Str.ofString "greatest") = some (.int gr tgr) ∧ 0 ≤ gr ∧ gr < 4611686018427387904) ∧ (∀ y, [Str.ofString "greatest"].contains y = false → m y = m₁ y)) ?_ ?_
  · repeat' walk_at "mine oneD"
    · (with_reducible rename Fr g _ _ _ => F5)
      (with_reducible rename News g _ _ _ => N5)
      refine JoinPost.intro F5 N5 ⟨rfl, ⟨_, _, rfl, by omega, by omega⟩, fun y hy => ?_⟩
      rw [hm₁]
      exact if_neg fun e => by subst e; exact absurd hy (by decide)
    · (with_reducible rename Fr g _ _ _ => F5)
      (with_reducible rename News g _ _ _ => N5)
      refine JoinPost.intro F5 N5 ⟨rfl, ⟨_, _, rfl, by omega, by omega⟩, fun y hy => ?_⟩
      rw [hm₁]
  · rintro h' tk m₂ news₁ F5 N5 ⟨rfl, ⟨gr, tgr, hmg, hgr0, hgr1⟩, hm2⟩
    rw [trk1 (st := []) hmg hm2] at F5
    subst hm₁
    clear F4 N4
    dsimp only
    refine wpN_execs_cons (wpN_Return (wpN_Call ?_))
    repeat' walk_at "mine oneD"
    refine callWithN_K (K := hd.heap_39 w.params) (by k_is) ?_
    repeat' walk_at "mine oneD"
    (with_reducible rename Fr g _ _ _ => F6)
    (with_reducible rename News g _ _ _ => N6)
    (with_reducible rename IntsAre _ _ => hI6)
    refine law_pulled_call hgr0 hgr1 hd0 hd1 hI6 (by omega) B F6 X T N6 rfl rfl (.head _) hbare2 (by omega) (by omega) fun h' tk gens' hb hs => ret h' tk gens' hb hs
end Mine
end
section
open PySem PySem.W PyProof.Rows PySem.Calls
set_option maxRecDepth 100000
set_option maxHeartbeats 1000000
namespace Mine
theorem rows_facts {trs : List TR} {b : Int} {ms : List Int} (pr : pairsT trs = if ms = [] then [(b, b + 1)] else lrows b ms) (hm : ms.length ≤ 24) (hb0 : 0 ≤ b) (hb1 : b ≤ 4611686017353646080) :
    trs ≠ [] ∧ Asc (pairsT trs) ∧ (∀ q ∈ pairsT trs, 0 ≤ q.1 ∧ q.2 ≤ 4611686018427387904) ∧ trs.length ≤ 30 := by
  have hl : trs.length = if ms = [] then 1 else ms.length := by
    have := congrArg List.length pr
    rw [List.length_map] at this
    rw [this]
    split
    · rfl
    · rw [lrows_length]
  refine ⟨fun e => ?_, ?_, fun q hq => ?_, ?_⟩
  · rw [e] at hl
    split at hl
    · cases hl
    · rename_i hms
      exact hms (List.length_eq_zero_iff.mp hl.symm)
  · rw [pr]
    split
    · exact ⟨by omega, (fun _ h => nomatch h), trivial⟩
    · exact (lrows_asc ms b).1
  · rw [pr] at hq
    split at hq
    · rw [List.mem_singleton.mp hq]
      dsimp only
      omega
    · have h1 := (lrows_asc ms b).2 q hq
      have h2 := lrows_lt ms b q hq
      omega
  · rw [hl]
    split <;> omega
theorem rows_led {g h : Heap} {L R : Addr} {n : Nat} {trs : List TR} {z d c : Addr × Obj} (N : News g L h ((R, listOf (refsT trs).toArray n) :: (rowsT trs ++ [z, d, c]))) : News g L h ((R, listOf (refsT trs).toArray n) :: d :: c :: rowsT trs) := news_sub N fun p hp => by
  simp only [List.mem_cons] at hp
  rcases hp with rfl | rfl | rfl | hp
  · exact .head _
  · exact .tail _ (List.mem_append_right _ (.tail _ (.head _)))
  · exact .tail _ (List.mem_append_right _ (.tail _ (.tail _ (.head _))))
  · exact .tail _ (List.mem_append_left _ hp)
local macro_rules | `(tactic| walk_at "mine room") => `(tactic| first | (dsimp only; omega) | ((try simp only [depth_mark, depth_under_make, depth_under_kw, depth_in1, depth_deeper, units_deeper, units_in1, units_under_make]); (try dsimp only); omega))
local macro_rules | `(tactic| walk_at "mine one") => `(tactic| (first | (k_unfold; (try dsimp only)) | (k_end; wrow_close) | walk1 | (dsimp only; walk1) | (leave1; walk_say "STEP leave1"; try dsimp only) | (dsimp only; k_unfold; (try dsimp only)) | (dsimp only [StepO]; k_unfold; (try dsimp only)) | fail "no step"))
local macro_rules | `(tactic| walk_at "mine enter") => `(tactic| (refine' enter ?k1 ?k2 ?k3 ?k4 ?k5 ?kd ?k6 ?k7 ?k8 ?k9 ?_ ?c2 ?c3 ?c4 ?c5; (case k1 => assumption); (case k2 => assumption); (case k3 => assumption); (case k4 => assumption); (case k5 => assumption); (case kd => omega); (case k6 => k_is); (case k7 => k_is); (case k8 => first | exact BindsTo.of_eq rfl | exact binds_K (Frag.In.keeps (by assumption) (Kept.keep (by assumption))) rfl (by k_is) rfl rfl rfl | exact binds_K (by k_in) rfl (by k_is) rfl rfl rfl); (case c5 => decide); (case k9 => exact locs rfl); (case c2 => exact rfl); (case c3 => exact rfl); (case c4 => exact rfl); k_whole; intro L' h' F' N' K'; (try dsimp only); (try k_fold)))
local macro_rules | `(tactic| walk_at "mine wr") => `(tactic| ((repeat (refine List.forall_mem_cons.mpr ⟨?_, ?_⟩; (· k_mem))); exact List.forall_mem_nil _))
local macro_rules | `(tactic| walk_at "mine split") => `(tactic| (repeat' (first | exact Split.nil | (refine' Split.keep ?a ?_; (case a => k_all)) | refine' Split.drop ?_)))
local macro_rules | `(tactic| walk_at "mine con") => `(tactic| ((case kB => assumption); (case kF => k_asm); (case kX => assumption); (case kT => assumption); (case kN => k_asm); (case kf => exact rfl); (case kk => exact rfl); (case kw => walk_at "mine wr"); (case ks => walk_at "mine split"); (case kd => walk_at "mine room"); (case ku => walk_at "mine room")))
local macro_rules | `(tactic| walk_at "mine conE") => `(tactic| ((case kB => assumption); (case kF => k_asm); (case kX => assumption); (case kT => assumption); (case kN => k_asm); (case kf => exact rfl); (case kk => exact rfl); (case kw => walk_at "mine wr"); (case ks => walk_at "mine split"); (case kd => walk_at "mine room"); (case ku => walk_at "mine room")))
local macro_rules | `(tactic| k_room) => `(tactic| ((try simp only [depth_mark, depth_under_make, depth_under_kw, depth_in1, depth_deeper, depth_caller]); (try dsimp only); omega))
local macro_rules | `(tactic| walk_at "mine map") => `(tactic| (refine' map_off _ ?hs ?a; (case a => (intro y hy; (have nn : ∀ z, _ = true → y ≠ z := fun z hz e => by subst e; exact absurd (hz.symm.trans hy) (by decide)); (try dsimp only); (repeat rw [if_neg (nn _ (by decide))]); first | done | exact rfl)); (case hs => decide)))
local macro_rules | `(tactic| walk_at "mine oneD") => `(tactic| (first | (k_unfold; (try dsimp only)) | (k_end; wrow_close) | (walk1; (try dsimp only [List.cons_append, List.nil_append])) | (dsimp only; walk1) | (leave1; walk_say "STEP leave1"; try dsimp only) | (dsimp only; k_unfold; (try dsimp only)) | (dsimp only [StepO]; k_unfold; (try dsimp only)) | fail "no step"))
local macro_rules | `(tactic| walk_at "mine size") => `(tactic| ((try simp only [Array.size_append]); refine Nat.le_trans (by first | exact Nat.add_le_add (Nat.add_le_add (KBc.size_picked_le _ _ _) (Nat.le_refl _)) (KBc.size_picked_le _ _ _) | exact Nat.add_le_add (KBc.size_picked_le _ _ _) (Nat.le_refl _) | exact KBc.size_picked_le _ _ _) ?_; simp only [List.size_toArray, List.length_append]; omega))
local macro_rules | `(tactic| walk_at "call builtin:len") => `(tactic| (k_here; (with_reducible show wpAny _ _ (call (Value.builtin "len") [Value.ref _]) _ _ _); (with_reducible rename News _ _ _ _ => N'); (first | (refine' len_app ?ba ?hz ?_; (case ba => exact led_ba N' (by k_mem)); (case hz => omega); k_whole) | (refine' len_bs ?ba ?hz ?_; (case ba => exact led_ba N' (by k_mem)); (case hz => omega); k_whole))))
local macro_rules | `(tactic| walk_at "subscriptTail") => `(tactic| (k_here; (with_reducible show wpAny _ _ (subscriptTail _ (Expr.Slice _ _ none _) (Value.ref _) (Value.ref _)) _ _ _); (with_reducible rename Fr _ _ _ _ => F'); (with_reducible rename News _ _ _ _ => N'); (refine' BA.slice_N (s := ⟨_, _, _, _, _⟩) F' N' ?ba (by constructor) (by constructor) ?hz ?_; (case ba => exact led_ba N' (by k_mem)); (case hz => walk_at "mine size"); intro h' x' F' N' l1; (try k_lt l1); (try k_sweep); (try dsimp only))))
local macro_rules | `(tactic| walk_at "binaryOp Add") => `(tactic| (k_here; (with_reducible show wpAny _ _ (binaryOp _ (Value.ref _) (Value.bytes _ _)) _ _ _); (with_reducible rename Fr _ _ _ _ => F'); (with_reducible rename News _ _ _ _ => N'); (refine' BA.add_b F' N' ?ba ?hz ?_; (case ba => exact led_ba N' (by k_mem)); (case hz => walk_at "mine size"); intro h' x' F' N' l1; (try k_lt l1); (try k_sweep); (try dsimp only))))
local macro_rules | `(tactic| walk_at "binaryOp Add") => `(tactic| (k_here; (with_reducible show wpAny _ _ (binaryOp _ (Value.ref _) (Value.ref _)) _ _ _); (with_reducible rename Fr _ _ _ _ => F'); (with_reducible rename News _ _ _ _ => N'); (refine' BA.add_ba F' N' ?ba ?bb ?hz ?_; (case ba => exact led_ba N' (by k_mem)); (case bb => exact led_ba N' (by k_mem)); (case hz => walk_at "mine size"); intro h' x' F' N' l1; (try k_lt l1); (try k_sweep); (try dsimp only))))
local macro_rules | `(tactic| walk_at "call type:bytes") => `(tactic| (k_here; (with_reducible show wpAny _ _ (call (Value.type "bytes") [Value.ref _]) _ _ _); (with_reducible rename News _ _ _ _ => N'); (refine' BA.bytes_of ?ba ?hz ?_; (case ba => exact led_ba N' (by k_mem)); (case hz => walk_at "mine size"); intro _ _; (try dsimp only))))
local macro_rules | `(tactic| k_inst) => `(tactic| (refine' Mine.InstAt.of_base ?F ?h1 ?h2; (case F => k_asm); (case h1 => assumption); (case h2 => assumption)))
local macro_rules | `(tactic| walk_at "mine dis") => `(tactic| (repeat' (first | exact List.forall_mem_nil _ | refine List.forall_mem_cons.mpr ⟨?_, ?_⟩ | (refine Or.inr (cls_ne ?_); (simp; done)) | (refine Or.inr (key_ne ?_); exact rfl) | (refine Or.inr (it_ne (by assumption) ?_); (simp; done)) | (refine Or.inr (it_ne' (by assumption) ?_); (simp; done)) | exact .inl (by k_ne))))
local macro_rules | `(tactic| walk_at "mine split2") => `(tactic| (repeat' (first | with_reducible exact Split2.nil | with_reducible exact Split2.all | with_reducible exact Split2.tail rows_off_buf | with_reducible exact Split2.tail rows_off_rs | (with_reducible refine Split2.tail (rowsT_off ?_); (simp; done)) | (with_reducible refine' Split2.drop2 ?h ?_; (case h => with_reducible k_mem)) | (refine' Split2.keep ?a ?_; (case a => walk_at "mine dis")) | refine' Split2.drop ?_ | exact Split2.nil)))
local macro_rules | `(tactic| walk_at "mine conF") => `(tactic| ((case kB => assumption); (case kF => k_asm); (case kX => assumption); (case kT => assumption); (case kN => k_asm); (case kf => exact rfl); (case kk => exact rfl); (case kw => walk_at "mine wr"); (case ks => walk_at "mine split2"); (case kr => walk_at "mine rd"); (case kd => walk_at "mine room"); (case ku => walk_at "mine room")))
local macro_rules | `(tactic| walk_at "mine rd") => `(tactic| first | exact List.forall_mem_nil _ | (refine fun p hp => Or.inl ?_; simp only [List.mem_cons, List.mem_append, rowsL_cons, List.not_mem_nil, or_false, List.append_assoc] at hp ⊢; (repeat' (refine Or.elim hp ?_ ?_ <;> clear hp <;> intro hp)); all_goals (first | walk_at "mine or" | (subst hp; simp; done))))
local macro_rules | `(tactic| walk_at "exec For Name Call cons nil") => `(tactic| (k_here; (rename Fr _ _ _ _ => lF'); (with_unfolding_all refine' For_turns lF' ?_; k_whole)))
local macro_rules | `(tactic| walk_at "exec For Name Name cons nil") => `(tactic| (k_here; (rename Fr _ _ _ _ => lF'); (with_unfolding_all refine' For_turns lF' ?_; k_whole)))
local macro_rules | `(tactic| walk_at "exec For Tuple Call cons nil") => `(tactic| (k_here; (rename Fr _ _ _ _ => lF'); (with_unfolding_all refine' For_turns lF' ?_; k_whole)))
local macro_rules | `(tactic| walk_at "exec For Tuple Subscript cons nil") => `(tactic| (k_here; (rename Fr _ _ _ _ => lF'); (with_unfolding_all refine' For_turns lF' ?_; k_whole)))
local macro_rules | `(tactic| walk_at "call type:enumerate") => `(tactic| (k_here; (with_reducible show wpAny _ _ (call (Value.type _) [Value.ref _]) (fun xv s₁ => wpAny _ _ (pyIter xv) (fun it s₂ => TurnsAt _ _ _ _ _ _ _ _ _ it s₂) _ s₁) _ _); refine halt ?_))
local macro_rules | `(tactic| walk_at "pyIter ref") => `(tactic| (k_here; (with_reducible show wpAny _ _ (pyIter (Value.ref _)) (fun it s₂ => TurnsAt _ _ _ _ _ _ _ _ _ it s₂) _ _); refine halt ?_))
local macro_rules | `(tactic| walk_at "pyIter ref") => `(tactic| (k_here; (with_reducible show wpAny _ _ (pyIter (Value.ref _)) (fun it s₂ => TurnsAt _ _ _ _ _ _ _ _ _ it s₂) _ _); k_dflt (refine' iter_nil ?h ?F ?N ?X ?e ?_; (case h => exact rfl); (case F => k_asm); (case N => k_asm); (case X => k_asm); (case e => k_is); intro h' tk' F' N'; (try k_sweep); (try dsimp only))))
local macro_rules | `(tactic| walk_at "mine or") => `(tactic| first | with_reducible assumption | (with_reducible exact Or.inl (by with_reducible assumption)) | (refine Or.inr ?_; walk_at "mine or"))
local macro_rules | `(tactic| walk_at "mine sub") => `(tactic| (intro p hp; simp only [List.mem_cons, List.mem_append, rowsL_cons, List.not_mem_nil, or_false, List.append_assoc] at hp ⊢; (repeat' (refine Or.elim hp ?_ ?_ <;> clear hp <;> intro hp)); all_goals (first | walk_at "mine or" | (subst hp; simp; done))))
local macro_rules | `(tactic| walk_at "call builtin:list.append") => `(tactic| (k_here; (with_reducible show wpAny _ _ (call (Value.builtin _) [Value.ref _, _]) _ _ _); k_dflt (refine' append_S ?F ?N ?m ?s ?z ?_; (case F => k_asm); (case N => k_asm); (case m => k_mem); (case s => walk_at "mine split2"); (case z => (simp only [List.length_map, List.size_toArray]; omega)); intro h' F' N'; (try k_sweep); (try dsimp only))))
local macro_rules | `(tactic| walk_at "binaryOp FloorDiv int int") => `(tactic| (k_here; (with_reducible show wpAny _ _ (binaryOp _ (Value.int _ _) (Value.int _ _)) _ _ _); (refine' div_lit ?hb ?hp ?_; (case hb => decide); (case hp => exact PyProof.noPylong_of_log2 (by decide +kernel)))))
local macro_rules | `(tactic| walk_at "binaryOp Mod int int") => `(tactic| (k_here; (with_reducible show wpAny _ _ (binaryOp _ (Value.int _ _) (Value.int _ _)) _ _ _); (refine' mod_lit ?hb ?_; (case hb => decide))))
local macro_rules | `(tactic| walk_at "binaryOp Mult int int") => `(tactic| (k_here; (with_reducible show wpAny _ _ (binaryOp _ (Value.int _ _) (Value.int _ _)) _ _ _); (refine' mul_b ?h1 ?h2 ?_; (case h1 => omega); (case h2 => omega))))
local macro_rules | `(tactic| walk_at "binaryOp Mod int int") => `(tactic| (k_here; (with_reducible show wpAny _ _ (binaryOp _ (Value.int _ _) (Value.int (List.getD _ _ _) _)) _ _ _); (refine' mod_menu ?_)))
local macro_rules | `(tactic| walk_at "subscriptTail") => `(tactic| (k_here; (with_reducible show wpAny _ _ (subscriptTail _ (Expr.Slice (some _) (some _) none _) (Value.ref _) (Value.ref _)) _ _ _); (with_reducible rename Fr _ _ _ _ => F'); (with_reducible rename News _ _ _ _ => N'); (refine' slice_script (s := ⟨_, _, _, _, _⟩) F' N' ?hl ?hI ?h0 ?h1 ?hz ?_; (case hl => assumption); (case hI => assumption); (case h0 => decide); (case h1 => decide); (case hz => omega); intro h' z' us' ms' hI' hlen' F' N' l1; (try k_lt l1); (try k_sweep); (try dsimp only))))
local macro_rules | `(tactic| walk_at "mine noerr") => `(tactic| (rotate_left; (focus (intro e' t' cls' vs' g₂' h' tk' hp' R' F' U'; exact hp'.elim))))
local macro_rules | `(tactic| walk_at "call ref") => `(tactic| (k_here; (k_dflt (show wpAny _ _ (call (Value.ref 375) [Value.int _ _, Value.ref _]) _ _ _)); k_dflt (refine' ConE.call2 (law_rows ?h0 ?h1 ?hI ?hl) ?kB ?kF ?kX ?kT ?kN ?kf ?kk ?kw ?ks ?kr ?kd ?ku ?_ ?_; (case hI => assumption); walk_at "mine conF"; (case h0 => omega); (case h1 => omega); (case hl => omega); walk_at "mine noerr"; (intro v' news' h' tk' hp' F' N'; obtain ⟨D', n', trs', hv', hn', hpr'⟩ := hp'; subst hv'; subst hn'; dsimp only [List.cons_append, List.nil_append] at N'; (try k_sweep); (try dsimp only)))))
theorem law_tail {w : World} {mean : ExcName → Option Value} {mg mb : Str → Option Value} {ax D L : Addr} {vs : List Value} {ns : List Int} {a0 a1 a2 : Int} {t0 t1 t2 : Tok} {g h : Heap} {gg : Array GenState} {dd : Drawn} {tk : Nat} {os : OsState} {oc : Obj} {m₀ : Str → Option Value} {Q : Flow → Shared → Prop} {dp un : Nat} {gd : Option (List Code)}
    (X : (hd.heap_39 w.params).In g) (T : Top hd.view_39 LS mean mg mb g) (hL : g.IsList ax vs.toArray) (hI : IntsAre vs ns) (hlen : ns.length ≤ 63) (hbare : AllBare gg) (hoc : oc.data = .cell (some (.ref ax)))
    (B : Below (AX dp un gd []) g [] g) (hdp : dp + 100 < recursionLimit) (hun : un + 1000 < cLine)
    (F : Fr g L h (fun y => if y = Str.ofString "head" then some (.ref D) else m₀ y)) (N : News g L h [(D, listOf #[.int a0 t0, .int a1 t1, .int a2 t2] 3), (L + 1, oc)])
    (ret : ∀ h' tk gens', AllBare gens' → g.StaysIn h' → Q (.ret (.bool true)) ⟨h', gens', dd, tk, os⟩) :
    wpN (model PG w) ((AX dp un gd []).deeper (envAtC (hd.heap_39 w.params) 397 L)) (execs ((bodyAt (hd.heap_39 w.params) 397).drop 1) (envAtC (hd.heap_39 w.params) 397 L)) Q (fun _ _ => False) ⟨h, gg, dd, tk, os⟩ := by
  w_on
  obtain ⟨hb, he⟩ := atC_of (K := hd.heap_39 w.params) (f := 397) (by k_is)
  rw [hb, he]
  clear hb he
  simp only [List.drop_succ_cons, List.drop_zero]
  refine wpN_execs_cons (wpN_of ?_)
  repeat' walk_at "mine oneD"
  (with_reducible rename Fr g _ _ _ => F1)
  (with_reducible rename News g _ _ _ => N1)
  have N2 : News g L _ [(D, listOf #[.int a0 t0, .int a1 t1, .int a2 t2] 3), (L + 1, oc)] := news_sub N1 fun p hp => .tail _ hp
  clear N1
  have hb := menu7 ([a0, a1, a2].getD (Int.toNat 0) 0 % 7) (Int.emod_nonneg _ (by decide)) (Int.emod_lt_of_pos _ (by decide))
  generalize ([0, 3, 62, 16380, 1073741819, 10 ^ Int.toNat 12, 4611686018427387904 - 1073741824] : List Int).getD ([a0, a1, a2].getD (Int.toNat 0) 0 % 7).toNat 0 = b at F1 hb
  obtain ⟨hb0, hb1⟩ := hb
  refine wpN_execs_cons (wpN_of ?_)
  repeat' walk_at "mine oneD"
  (with_reducible rename Fr g _ _ _ => F3)
  (with_reducible rename News g _ _ _ => N3)
  have N4 : News g L _ [(D, listOf #[.int a0 t0, .int a1 t1, .int a2 t2] 3), (L + 1, oc)] := news_sub N3 fun p hp => .tail _ hp
  clear N3
  have hd := menu4' ([a0, a1, a2].getD (Int.toNat 2) 0)
  generalize ([64, 16384, 1 * 2 ^ Int.toNat 30, 1 * 2 ^ Int.toNat 62] : List Int).getD ([a0, a1, a2].getD (Int.toNat 2) 0 % 4).toNat 0 = M at F3 hd
  have hd0 := Int.emod_nonneg ([a0, a1, a2].getD (Int.toNat 2) 0 / 4) (show M ≠ 0 by omega)
  have hd1 := Int.emod_lt_of_pos ([a0, a1, a2].getD (Int.toNat 2) 0 / 4) (show 0 < M by omega)
  generalize ([a0, a1, a2].getD (Int.toNat 2) 0 / 4) % M = delay at F3 hd0 hd1
  replace hd1 : delay < 4611686018427387904 := by omega
  clear hd
  refine wpN_execs_cons (wpN_of ?_)
  repeat' walk_at "mine oneD"
  (with_reducible rename Fr g _ _ _ => F5)
  (with_reducible rename News g _ _ _ => N5)
  (with_reducible rename List TR => trs)
  rename pairsT trs = _ => hpr
  rename List.length _ ≤ Int.toNat 27 - Int.toNat 3 => hml
  obtain ⟨r1, r2, r3, r4⟩ := rows_facts hpr (by omega) hb0 hb1
  have N6 := rows_led N5
  have done := fun tk => law_tail2 (tk := tk) hb0 hb1 hd0 hd1 r1 r2 r3 r4 X T hL hI hlen hbare hoc B hdp hun F5 N6 ret
  obtain ⟨hb, he⟩ := atC_of (K := hd.heap_39 w.params) (f := 397) (by k_is)
  rw [hb, he] at done
  simp only [List.drop_succ_cons, List.drop_zero] at done
  exact done _
end Mine
end
section
open PySem PySem.W PyProof.Rows PySem.Calls
set_option maxRecDepth 100000
set_option maxHeartbeats 1000000
namespace Mine
theorem enterNC {prog : Program} {w : World} {s : Shared} {R : Result → Shared → Prop} {dp un : Nat} {gd : Option (List Code)} {K : Frag} {p : Program} {loose : List Str} {mean : ExcName → Option Value} {mg mb : Str → Option Value}
    {name qual : Str} {params : Arguments} {body : List Stmt} {scope : Scope} {doc pm cdv ct oc dV kV : Value} {an od : Option Addr} {osl : Array (Option Value)} {f : Addr} {args : Args} {binds : List (Str × Value)}
    (X : K.In s.heap) (T : Top p loose mean mg mb s.heap) (hdp : dp < recursionLimit)
    (ho : K.lookup f = some ⟨oc, od, .func (fnOf name qual params body scope dV kV doc pm an cdv ct), osl⟩) (hcd : codeIn K cdv qual = true)
    (hbind : BindsTo s (fnOf name qual params body scope dV kV doc pm an cdv ct) args binds)
    (hkind : ∀ n, ∀ x ∈ binds, scope.names.lookup x.1 = some .local ∨ (scope.names.lookup x.1 = some .cell ∧ ((cellsFrom n scope.names []).lookup x.1).isSome = true))
    (hnd : ((cellsFrom 0 scope.names []).map (·.1)).Nodup)
    (h : ∀ h₁ tk cells, Fr s.heap s.heap.objs.size h₁ (bindL (envOfC qual scope s.heap.objs.size f cdv).kindOf binds fun _ => none) → News s.heap s.heap.objs.size h₁ cells →
      CellsAre (bindC (envOfC qual scope s.heap.objs.size f cdv).kindOf binds fun _ => none) (cellsFrom (s.heap.objs.size + 1) scope.names []) cells →
      wpN (model prog w) ((AX dp un gd []).deeper (envOfC qual scope s.heap.objs.size f cdv)) (execs body (envOfC qual scope s.heap.objs.size f cdv))
        (fun fl s' => R (.ok (.ret (match fl with | .ret v => v | _ => .none))) s')
        (fun _ _ => False)
        { s with heap := h₁, toks := tk })
    (hco : scope.isCoroutine = false) (hgen : scope.isGenerator = false) (hk : scope.kind = .function) : codeN (model prog w) (AX dp un gd []) (.call (.ref f) args) R s := by
  refine codeN_call_function (fd := fnOf name qual params body scope dV kV doc pm an cdv ct) (body := body) hdp (X _ _ ho) rfl hco hgen rfl (codeRec_of X hcd) (hbind _ _ _ _ ?_)
  refine wpAny_newFunctionEnv_cells hk (hkind _) fun env' he s' x => ?_
  subst he
  refine ⟨T.nolimit.keeps x.toInCall.keep, codeN_func ?_⟩
  obtain ⟨h₁, tk, rfl, _⟩ := x.done
  obtain ⟨cells, NC, Y⟩ := Cl.news (h₀ := s.heap) (Nat.le_refl _) fun n c hm => ⟨x.cell n c (lookup_of_mem_nodup (cellsFrom_names scope.names 0 (s.heap.objs.size + 1) [] [] rfl ▸ hnd) hm), x.above n c hm⟩
  exact wpN_mono (h h₁ tk cells ⟨x.toInCall.ns, x.toInCall.keep, Nat.le_refl _⟩ NC Y) (fun _ _ h => h) (fun _ _ h => h.elim)
theorem three_ints {ys : List Value} {ns : List Int} (h : IntsAre ys ns) (hl : ns.length = 3) : ∃ a0 a1 a2 t0 t1 t2, ys = [.int a0 t0, .int a1 t1, .int a2 t2] := by
  cases h with
  | nil => cases hl
  | cons a0 t0 h =>
    cases h with
    | nil => cases hl
    | cons a1 t1 h =>
      cases h with
      | nil => cases hl
      | cons a2 t2 h =>
        cases h with
        | nil => exact ⟨_, _, _, _, _, _, rfl⟩
        | cons a3 t3 h => cases hl
local macro_rules | `(tactic| walk_at "mine room") => `(tactic| first | (dsimp only; omega) | ((try simp only [depth_mark, depth_under_make, depth_under_kw, depth_in1, depth_deeper, units_deeper, units_in1, units_under_make]); (try dsimp only); omega))
local macro_rules | `(tactic| walk_at "mine one") => `(tactic| (first | (k_unfold; (try dsimp only)) | (k_end; wrow_close) | walk1 | (dsimp only; walk1) | (leave1; walk_say "STEP leave1"; try dsimp only) | (dsimp only; k_unfold; (try dsimp only)) | (dsimp only [StepO]; k_unfold; (try dsimp only)) | fail "no step"))
local macro_rules | `(tactic| walk_at "mine enter") => `(tactic| (refine' enter ?k1 ?k2 ?k3 ?k4 ?k5 ?kd ?k6 ?k7 ?k8 ?k9 ?_ ?c2 ?c3 ?c4 ?c5; (case k1 => assumption); (case k2 => assumption); (case k3 => assumption); (case k4 => assumption); (case k5 => assumption); (case kd => omega); (case k6 => k_is); (case k7 => k_is); (case k8 => first | exact BindsTo.of_eq rfl | exact binds_K (Frag.In.keeps (by assumption) (Kept.keep (by assumption))) rfl (by k_is) rfl rfl rfl | exact binds_K (by k_in) rfl (by k_is) rfl rfl rfl); (case c5 => decide); (case k9 => exact locs rfl); (case c2 => exact rfl); (case c3 => exact rfl); (case c4 => exact rfl); k_whole; intro L' h' F' N' K'; (try dsimp only); (try k_fold)))
local macro_rules | `(tactic| walk_at "mine wr") => `(tactic| ((repeat (refine List.forall_mem_cons.mpr ⟨?_, ?_⟩; (· k_mem))); exact List.forall_mem_nil _))
local macro_rules | `(tactic| walk_at "mine split") => `(tactic| (repeat' (first | exact Split.nil | (refine' Split.keep ?a ?_; (case a => k_all)) | refine' Split.drop ?_)))
local macro_rules | `(tactic| walk_at "mine con") => `(tactic| ((case kB => assumption); (case kF => k_asm); (case kX => assumption); (case kT => assumption); (case kN => k_asm); (case kf => exact rfl); (case kk => exact rfl); (case kw => walk_at "mine wr"); (case ks => walk_at "mine split"); (case kd => walk_at "mine room"); (case ku => walk_at "mine room")))
local macro_rules | `(tactic| walk_at "mine conE") => `(tactic| ((case kB => assumption); (case kF => k_asm); (case kX => assumption); (case kT => assumption); (case kN => k_asm); (case kf => exact rfl); (case kk => exact rfl); (case kw => walk_at "mine wr"); (case ks => walk_at "mine split"); (case kd => walk_at "mine room"); (case ku => walk_at "mine room")))
local macro_rules | `(tactic| k_room) => `(tactic| ((try simp only [depth_mark, depth_under_make, depth_under_kw, depth_in1, depth_deeper, depth_caller]); (try dsimp only); omega))
local macro_rules | `(tactic| walk_at "mine map") => `(tactic| (refine' map_off _ ?hs ?a; (case a => (intro y hy; (have nn : ∀ z, _ = true → y ≠ z := fun z hz e => by subst e; exact absurd (hz.symm.trans hy) (by decide)); (try dsimp only); (repeat rw [if_neg (nn _ (by decide))]); first | done | exact rfl)); (case hs => decide)))
local macro_rules | `(tactic| walk_at "mine oneD") => `(tactic| (first | (k_unfold; (try dsimp only)) | (k_end; wrow_close) | (walk1; (try dsimp only [List.cons_append, List.nil_append])) | (dsimp only; walk1) | (leave1; walk_say "STEP leave1"; try dsimp only) | (dsimp only; k_unfold; (try dsimp only)) | (dsimp only [StepO]; k_unfold; (try dsimp only)) | fail "no step"))
local macro_rules | `(tactic| walk_at "mine size") => `(tactic| ((try simp only [Array.size_append]); refine Nat.le_trans (by first | exact Nat.add_le_add (Nat.add_le_add (KBc.size_picked_le _ _ _) (Nat.le_refl _)) (KBc.size_picked_le _ _ _) | exact Nat.add_le_add (KBc.size_picked_le _ _ _) (Nat.le_refl _) | exact KBc.size_picked_le _ _ _) ?_; simp only [List.size_toArray, List.length_append]; omega))
local macro_rules | `(tactic| walk_at "call builtin:len") => `(tactic| (k_here; (with_reducible show wpAny _ _ (call (Value.builtin "len") [Value.ref _]) _ _ _); (with_reducible rename News _ _ _ _ => N'); (first | (refine' len_app ?ba ?hz ?_; (case ba => exact led_ba N' (by k_mem)); (case hz => omega); k_whole) | (refine' len_bs ?ba ?hz ?_; (case ba => exact led_ba N' (by k_mem)); (case hz => omega); k_whole))))
local macro_rules | `(tactic| walk_at "subscriptTail") => `(tactic| (k_here; (with_reducible show wpAny _ _ (subscriptTail _ (Expr.Slice _ _ none _) (Value.ref _) (Value.ref _)) _ _ _); (with_reducible rename Fr _ _ _ _ => F'); (with_reducible rename News _ _ _ _ => N'); (refine' BA.slice_N (s := ⟨_, _, _, _, _⟩) F' N' ?ba (by constructor) (by constructor) ?hz ?_; (case ba => exact led_ba N' (by k_mem)); (case hz => walk_at "mine size"); intro h' x' F' N' l1; (try k_lt l1); (try k_sweep); (try dsimp only))))
local macro_rules | `(tactic| walk_at "binaryOp Add") => `(tactic| (k_here; (with_reducible show wpAny _ _ (binaryOp _ (Value.ref _) (Value.bytes _ _)) _ _ _); (with_reducible rename Fr _ _ _ _ => F'); (with_reducible rename News _ _ _ _ => N'); (refine' BA.add_b F' N' ?ba ?hz ?_; (case ba => exact led_ba N' (by k_mem)); (case hz => walk_at "mine size"); intro h' x' F' N' l1; (try k_lt l1); (try k_sweep); (try dsimp only))))
local macro_rules | `(tactic| walk_at "binaryOp Add") => `(tactic| (k_here; (with_reducible show wpAny _ _ (binaryOp _ (Value.ref _) (Value.ref _)) _ _ _); (with_reducible rename Fr _ _ _ _ => F'); (with_reducible rename News _ _ _ _ => N'); (refine' BA.add_ba F' N' ?ba ?bb ?hz ?_; (case ba => exact led_ba N' (by k_mem)); (case bb => exact led_ba N' (by k_mem)); (case hz => walk_at "mine size"); intro h' x' F' N' l1; (try k_lt l1); (try k_sweep); (try dsimp only))))
local macro_rules | `(tactic| walk_at "call type:bytes") => `(tactic| (k_here; (with_reducible show wpAny _ _ (call (Value.type "bytes") [Value.ref _]) _ _ _); (with_reducible rename News _ _ _ _ => N'); (refine' BA.bytes_of ?ba ?hz ?_; (case ba => exact led_ba N' (by k_mem)); (case hz => walk_at "mine size"); intro _ _; (try dsimp only))))
local macro_rules | `(tactic| k_inst) => `(tactic| (refine' Mine.InstAt.of_base ?F ?h1 ?h2; (case F => k_asm); (case h1 => assumption); (case h2 => assumption)))
local macro_rules | `(tactic| walk_at "mine dis") => `(tactic| (repeat' (first | exact List.forall_mem_nil _ | refine List.forall_mem_cons.mpr ⟨?_, ?_⟩ | (refine Or.inr (cls_ne ?_); (simp; done)) | (refine Or.inr (key_ne ?_); exact rfl) | (refine Or.inr (it_ne (by assumption) ?_); (simp; done)) | (refine Or.inr (it_ne' (by assumption) ?_); (simp; done)) | exact .inl (by k_ne))))
local macro_rules | `(tactic| walk_at "mine split2") => `(tactic| (repeat' (first | with_reducible exact Split2.nil | with_reducible exact Split2.all | with_reducible exact Split2.tail rows_off_buf | with_reducible exact Split2.tail rows_off_rs | (with_reducible refine Split2.tail (rowsT_off ?_); (simp; done)) | (with_reducible refine' Split2.drop2 ?h ?_; (case h => with_reducible k_mem)) | (refine' Split2.keep ?a ?_; (case a => walk_at "mine dis")) | refine' Split2.drop ?_ | exact Split2.nil)))
local macro_rules | `(tactic| walk_at "mine conF") => `(tactic| ((case kB => assumption); (case kF => k_asm); (case kX => assumption); (case kT => assumption); (case kN => k_asm); (case kf => exact rfl); (case kk => exact rfl); (case kw => walk_at "mine wr"); (case ks => walk_at "mine split2"); (case kr => walk_at "mine rd"); (case kd => walk_at "mine room"); (case ku => walk_at "mine room")))
local macro_rules | `(tactic| walk_at "mine rd") => `(tactic| first | exact List.forall_mem_nil _ | (refine fun p hp => Or.inl ?_; simp only [List.mem_cons, List.mem_append, rowsL_cons, List.not_mem_nil, or_false, List.append_assoc] at hp ⊢; (repeat' (refine Or.elim hp ?_ ?_ <;> clear hp <;> intro hp)); all_goals (first | walk_at "mine or" | (subst hp; simp; done))))
local macro_rules | `(tactic| walk_at "exec For Name Call cons nil") => `(tactic| (k_here; (rename Fr _ _ _ _ => lF'); (with_unfolding_all refine' For_turns lF' ?_; k_whole)))
local macro_rules | `(tactic| walk_at "exec For Name Name cons nil") => `(tactic| (k_here; (rename Fr _ _ _ _ => lF'); (with_unfolding_all refine' For_turns lF' ?_; k_whole)))
local macro_rules | `(tactic| walk_at "exec For Tuple Call cons nil") => `(tactic| (k_here; (rename Fr _ _ _ _ => lF'); (with_unfolding_all refine' For_turns lF' ?_; k_whole)))
local macro_rules | `(tactic| walk_at "exec For Tuple Subscript cons nil") => `(tactic| (k_here; (rename Fr _ _ _ _ => lF'); (with_unfolding_all refine' For_turns lF' ?_; k_whole)))
local macro_rules | `(tactic| walk_at "call type:enumerate") => `(tactic| (k_here; (with_reducible show wpAny _ _ (call (Value.type _) [Value.ref _]) (fun xv s₁ => wpAny _ _ (pyIter xv) (fun it s₂ => TurnsAt _ _ _ _ _ _ _ _ _ it s₂) _ s₁) _ _); refine halt ?_))
local macro_rules | `(tactic| walk_at "pyIter ref") => `(tactic| (k_here; (with_reducible show wpAny _ _ (pyIter (Value.ref _)) (fun it s₂ => TurnsAt _ _ _ _ _ _ _ _ _ it s₂) _ _); refine halt ?_))
local macro_rules | `(tactic| walk_at "pyIter ref") => `(tactic| (k_here; (with_reducible show wpAny _ _ (pyIter (Value.ref _)) (fun it s₂ => TurnsAt _ _ _ _ _ _ _ _ _ it s₂) _ _); k_dflt (refine' iter_nil ?h ?F ?N ?X ?e ?_; (case h => exact rfl); (case F => k_asm); (case N => k_asm); (case X => k_asm); (case e => k_is); intro h' tk' F' N'; (try k_sweep); (try dsimp only))))
local macro_rules | `(tactic| walk_at "mine or") => `(tactic| first | with_reducible assumption | (with_reducible exact Or.inl (by with_reducible assumption)) | (refine Or.inr ?_; walk_at "mine or"))
local macro_rules | `(tactic| walk_at "mine sub") => `(tactic| (intro p hp; simp only [List.mem_cons, List.mem_append, rowsL_cons, List.not_mem_nil, or_false, List.append_assoc] at hp ⊢; (repeat' (refine Or.elim hp ?_ ?_ <;> clear hp <;> intro hp)); all_goals (first | walk_at "mine or" | (subst hp; simp; done))))
local macro_rules | `(tactic| walk_at "call builtin:list.append") => `(tactic| (k_here; (with_reducible show wpAny _ _ (call (Value.builtin _) [Value.ref _, _]) _ _ _); k_dflt (refine' append_S ?F ?N ?m ?s ?z ?_; (case F => k_asm); (case N => k_asm); (case m => k_mem); (case s => walk_at "mine split2"); (case z => (simp only [List.length_map, List.size_toArray]; omega)); intro h' F' N'; (try k_sweep); (try dsimp only))))
local macro_rules | `(tactic| walk_at "binaryOp FloorDiv int int") => `(tactic| (k_here; (with_reducible show wpAny _ _ (binaryOp _ (Value.int _ _) (Value.int _ _)) _ _ _); (refine' div_lit ?hb ?hp ?_; (case hb => decide); (case hp => exact PyProof.noPylong_of_log2 (by decide +kernel)))))
local macro_rules | `(tactic| walk_at "binaryOp Mod int int") => `(tactic| (k_here; (with_reducible show wpAny _ _ (binaryOp _ (Value.int _ _) (Value.int _ _)) _ _ _); (refine' mod_lit ?hb ?_; (case hb => decide))))
local macro_rules | `(tactic| walk_at "binaryOp Mult int int") => `(tactic| (k_here; (with_reducible show wpAny _ _ (binaryOp _ (Value.int _ _) (Value.int _ _)) _ _ _); (refine' mul_b ?h1 ?h2 ?_; (case h1 => omega); (case h2 => omega))))
theorem law_ok {w : World} {mean : ExcName → Option Value} {mg mb : Str → Option Value} {ax : Addr} {vs : List Value} {ns : List Int} {s : Shared} {R : Result → Shared → Prop}
    (X : (hd.heap_39 w.params).In s.heap) (T : Top hd.view_39 LS mean mg mb s.heap) (hL : s.heap.IsList ax vs.toArray) (hI : IntsAre vs ns) (hlen : ns.length ≤ 63) (hbare : AllBare s.gens)
    (ret : ∀ h' tk gens', AllBare gens' → s.heap.StaysIn h' → R (.ok (.ret (.bool true))) ⟨h', gens', s.drawn, tk, s.os⟩) :
    codeN (model PG w) callerA (.call (.ref 397) ⟨[.ref ax], []⟩) R s := by
  w_on
  have B : Below callerA s.heap [] s.heap := below_caller _
  show codeN (model PG w) (AX (1 + claimMargin) 4 (some []) []) (.call (.ref 397) ⟨[.ref ax], []⟩) R s
  refine' enterNC X T ?k1 ?k6 ?k7 ?k8 ?k9 ?k10 ?_ ?c2 ?c3 ?c4
  (case k1 => decide); (case k6 => k_is); (case k7 => k_is)
  (case k8 => first | exact BindsTo.of_eq rfl | exact binds_K X rfl (by k_is) rfl rfl rfl)
  (case k9 => intro n; exact kinds_of (by kinds_ok)); (case k10 => decide)
  (case c2 => exact rfl); (case c3 => exact rfl); (case c4 => exact rfl)
  intro h₁ tk cells F N Y
  cells_open Y
  rename Obj => oc
  have hoc : oc.data = .cell (some (.ref ax)) := by assumption
  clear Y
  replace F : Fr s.heap s.heap.objs.size h₁ (fun _ => none) := F
  obtain ⟨hp, gg, dd, tt, os⟩ := s
  dsimp only at X T hL hbare ret B F N ⊢
  refine wpN_execs_cons (wpN_of ?_)
  repeat' walk_at "mine oneD"
  (with_reducible rename Fr _ _ _ _ => F1)
  (with_reducible rename News _ _ _ _ => N1)
  (with_reducible rename IntsAre _ _ => hI8)
  obtain ⟨a0, a1, a2, t0, t1, t2, e⟩ := three_ints hI8 rfl
  subst e
  have done := fun tk => law_tail (tk := tk) (Q := fun fl s' => R (.ok (.ret (match fl with | .ret v => v | _ => .none))) s') (gg := gg) (dd := dd) (os := os) (t0 := t0) (t1 := t1) (t2 := t2) X T hL hI hlen hbare hoc B (by decide) (by decide) F1 N1 fun h' tk gens' hb hs => ret h' tk gens' hb hs
  obtain ⟨hb, he⟩ := atC_of (K := hd.heap_39 w.params) (f := 397) (by k_is)
  rw [hb, he] at done
  simp only [List.drop_succ_cons, List.drop_zero] at done
  exact done _
end Mine
end
open PySem PySem.W PyProof.Rows PySem.Calls
set_option maxRecDepth 100000
set_option maxHeartbeats 1000000
theorem PySem.Challenge.cw_ix0004_01_holds : PySem.Challenge.rw_ix0004_01.Holds := by
  w_on
  refine Mine.hd ?_
  w_strict (
    k_fill
    intro w s₀ s₁ mg mb G Y fa o pm cd doc dV kV ho hd hcd hD hmg hg args vals as hpre hlay hrd hwl hlo
    have KX := kIn_of Y
    have X := (Ground.X G).1
    have V := (Ground.X G).2
    refine Ground.open G ?_
    intro T B D TE TW
    have hfa : mg (Str.ofString "law") = some (.ref 397) := mg_of KX T.g (by k_is)
    have hfe : fa = 397 := by
      have e := hmg.symm.trans hfa
      injection e with e
      injection e
    subst hfe
    clear hmg hfa ho hd hcd hD
    wrow_args hpre hlay hrd hwl hlo
    refine Mine.wpN_call ?_
    refine Mine.codeN_mono (Mine.law_ok (R := fun r s' => r = .ok (.ret (.bool true)) ∧ s₁.heap.StaysIn s'.heap ∧ AllBare s'.gens ∧ s'.os = s₁.os) KX T (by assumption) (by assumption) (by omega) ?_ fun h' tk gens' hb hs => ⟨rfl, hs, hb, rfl⟩) ?_
    · exact AllBare.of_eq hg
    · rintro r s' ⟨rfl, h1, h2, h3⟩
      refine ⟨.inl ⟨.bool true, ofPy (.bool true), [], rfl, ?_, ?_, ?_, ?_⟩, OldK.of_keep h1, h3, h2⟩
      · intro cls; rfl
      · exact ReadsW.bool _
      · first | (with_unfolding_all rfl; done) | (kernel_rfl; done) | (decide; done)
      · intro _; exact ⟨List.nodup_nil, fun _ h => nomatch h⟩)
